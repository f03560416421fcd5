import JvmDerived
import JvmDerived.Pilot.@@N@@Statement
import JvmDerived.Pilot.@@N@@Code
set_option linter.unusedVariables false
set_option linter.unusedSimpArgs false
namespace Jvm.RoadKit
open Sem ClassFile Op Lib Jvm.Stand Jvm.Free Jvm.LawKit
section New
variable {p : Program} {l : Launch} {e : Env} {R : Room} {s : State} {m : MethodId} {args : Array Value} {below : List Frame} {meth : Method} {c : Code} {T : State} {locs : List Loc} {cells slots : Nat}
theorem retI (X : Stand p l e R s m args below meth c T locs cells slots) (hx : p.tables.exec = Jvm.exec) {pc : Nat} {Ls : Array Slot} {z : Int32} {rest : List Value} (hret : meth.sig.returnType = some .int) (hd : decode c.code pc = .ok (.ireturn, 1)) {fs : List Frame}
    (hl : ∀ (f : JFrame) (acts : List Action), f.method = m → f.locked = none → f.entered = [] → (doReturn e (T.setTop f) acts (some (.int z))).1 = T.setFrames fs) : Steps p.tables e below (T.setTop (mkF m pc Ls (.int z :: rest))) (T.setFrames fs) := by
  have hm' : T.vm.method? m = some meth := X.method'
  have hn : narrow .int (.int z) = .int z := rfl
  show Steps p.tables e below (T.setTop { method := m, pc := pc, locals := Ls, stack := _ :: rest, locked := none }) _
  jvm_step X.here [X.here.top, hx, hd, hm', hret, hn]
  first | (intro acts; rw [hl _ acts rfl rfl rfl]) | rw [hl _ _ rfl rfl rfl]
  exact Steps.refl _
end New
end Jvm.RoadKit
namespace Jvm.Pilot.@@N@@
open Jvm Jvm.ClassFile Sem Op Lib Jvm.Free Jvm.Stand Jvm.LawKit Jvm.RoadKit Bundle Jvm.Pilot.@@N@@.Jvm.D

theorem own_and_bd (x m : Int32) (hm : 0 ≤ m.toInt) : 0 ≤ (x &&& m).toInt ∧ (x &&& m).toInt ≤ m.toInt := by
  have e : (x &&& m).toBitVec.toNat = x.toBitVec.toNat &&& m.toBitVec.toNat := by
    show (x.toBitVec &&& m.toBitVec).toNat = _
    rw [BitVec.toNat_and]
  have l1 : x.toBitVec.toNat &&& m.toBitVec.toNat ≤ m.toBitVec.toNat := Nat.and_le_right
  change 0 ≤ m.toBitVec.toInt at hm
  show 0 ≤ (x &&& m).toBitVec.toInt ∧ (x &&& m).toBitVec.toInt ≤ m.toBitVec.toInt
  rw [BitVec.toInt_eq_toNat_cond] at hm ⊢
  rw [BitVec.toInt_eq_toNat_cond, e]
  have := m.toBitVec.isLt
  split at hm <;> split <;> (try split) <;> omega
theorem own_int_of {x : Int32} {k : Int} (h : x.toInt = k) : x = Int32.ofInt k := by
  rw [← h]; exact (Int32.ofInt_toInt x).symm
theorem own_rem_bd (x y : Int32) (hx : 0 ≤ x.toInt) (hy : 0 < y.toInt) : 0 ≤ (x % y).toInt ∧ (x % y).toInt < y.toInt := by
  have e : (x % y).toInt = x.toInt.tmod y.toInt := by
    first | exact Int32.toInt_mod x y | exact Int32.toInt_srem x y | simp
  rw [e]
  exact ⟨Int.tmod_nonneg _ hx, Int.tmod_lt_of_pos _ hy⟩
theorem own_len {args : Array Value} {s : State} {t : Term} {a : Addr} {cl : Cell} {ty : FieldType} {n : Int32} (ht : t.eval args s none [] s = some (.ref a)) (A : Arr s s.heap a cl ty) (h : (Jvm.Cond.eq (Term.length t) (Term.int n)).value args s none s [] = some true) : cl.slots.size < 2 ^ 31 ∧ cl.slots.size.toInt32 = n := by
  have hA : s.arrayAt? a = some cl := Arr.fin (Vm.Alike.refl _) A
  by_cases q : cl.slots.size < 2 ^ 31
  · refine ⟨q, ?_⟩
    have e := len_f ht hA q
    have e2 : (Term.int n).eval args s none [] s = some (.int n) := rfl
    simp only [Jvm.Cond.value, e, e2] at h
    simpa using h
  · exfalso
    have e : (Term.length t).eval args s none [] s = none := by simp [Term.eval, ht, hA, q]
    simp [Jvm.Cond.value, e] at h
theorem own_elem {args : Array Value} {s : State} {t u : Term} {a : Addr} {cl : Cell} {ty : FieldType} {j : Int32} {i : Nat} {v : Value} (ht : t.eval args s none [] s = some (.ref a)) (A : Arr s s.heap a cl ty) (h : (Jvm.Cond.eq (Term.elem t (Term.int j)) u).value args s none s [] = some true) (hu : u.eval args s none [] s = some v) (hi : j.toNatClampNeg = i) : cl.slots[i]? = some v := by
  subst hi
  obtain ⟨x, y, e1, e2, -, -⟩ := cmp_v (Or.inl h)
  cases hu.symm.trans e2
  have q := elem_in e1 ht (Term.int_eval j) A.1
  simp only [Jvm.Cond.value, e1, hu] at h
  rw [q.2]
  cases x <;> cases v <;> simp_all
theorem own_sta_keep0 {Z : State} {h h' : Heap} {C n d : String} {v : Value} (F : Sta Z h C n d v) (K : Keep h h' []) : Sta Z h' C n d v := by
  obtain ⟨cf, i, k, f, st, cell, h1, h2, h3, h4, h5, r⟩ := F
  exact ⟨cf, i, k, f, st, cell, h1, h2, h3, h4, K.2.1 st cell h5 nin0, r⟩
theorem own_fld_int {args : Array Value} {s : State} {t : Term} {C n d : String} {k : Int32} {x : Addr} (ht : t.eval args s none [] s = some (.ref x)) (h : (Jvm.Cond.eq (Term.field t C n d) (Term.int k)).value args s none s [] = some true) : Fld s s.heap x C n d (.int k) := by
  obtain ⟨v, w, e1, e2, -, -⟩ := cmp_v (Or.inl h)
  rw [fld_at ht] at e1
  have e2' : some (Value.int k) = some w := e2
  cases e2'
  have h' := h
  simp only [Jvm.Cond.value, fld_at ht, e1, e2] at h'
  cases v <;> simp at h'
  subst h'
  exact Fld.start e1
theorem own_fld_ref {args : Array Value} {s : State} {t u : Term} {C n d : String} {x y : Addr} (ht : t.eval args s none [] s = some (.ref x)) (hu : u.eval args s none [] s = some (.ref y)) (h : (Jvm.Cond.eq (Term.field t C n d) u).value args s none s [] = some true) : Fld s s.heap x C n d (.ref y) := by
  obtain ⟨v, w, e1, e2, -, -⟩ := cmp_v (Or.inl h)
  rw [fld_at ht] at e1
  cases hu.symm.trans e2
  have h' := h
  simp only [Jvm.Cond.value, fld_at ht, e1, hu] at h'
  cases v <;> simp at h'
  subst h'
  exact Fld.start e1
def own_is (a b c : Addr) : Int32 := if a = b ∨ a = c then 1 else 0
theorem own_pn_1 : plainName "com/example/urd/urd/policy/Namespaces$Binding" = true := by first | (simp [plainName, overriddenIn]; done) | decide +kernel
theorem d1_0 : decode prog_50_method_4_code 0 = .ok (.aload_n 0, 1) := by decide +kernel
theorem d1_1 : decode prog_50_method_4_code 1 = .ok (.getstatic 3, 3) := by decide +kernel
theorem d1_4 : decode prog_50_method_4_code 4 = .ok (.if_acmp .eq 10, 3) := by decide +kernel
theorem d1_14 : decode prog_50_method_4_code 14 = .ok (.iconst 1, 1) := by decide +kernel
theorem d1_15 : decode prog_50_method_4_code 15 = .ok (.goto 4, 3) := by decide +kernel
theorem d1_19 : decode prog_50_method_4_code 19 = .ok (.ireturn, 1) := by decide +kernel
theorem d1_7 : decode prog_50_method_4_code 7 = .ok (.aload_n 0, 1) := by decide +kernel
theorem d1_8 : decode prog_50_method_4_code 8 = .ok (.getstatic 10, 3) := by decide +kernel
theorem d1_11 : decode prog_50_method_4_code 11 = .ok (.if_acmp .ne 7, 3) := by decide +kernel
theorem d1_18 : decode prog_50_method_4_code 18 = .ok (.iconst 0, 1) := by decide +kernel
def own_rmG_Q (Z : State) (a : Addr) (wG wB : Addr) (h0 : Heap) (n0 : Nat) (v : Option Value) (h : Heap) (L : List Loc) : Prop := v = some (.int (own_is a wG wB)) ∧ Fr n0 L ∧ h = h0
set_option maxRecDepth 65536 in
set_option maxHeartbeats 40000000 in
theorem own_rmG (l : Launch) (Z : State) (a0 : Array Value) (hw : ∀ d ∈ tables_1, d.before a0 Z = true) (ws : List Jvm.Cond) (a : Addr) (wG wB : Addr) (h0 : Heap) (n0 : Nat) (Z0 : n0 ≤ h0.size) (S_wG : Sta Z h0 "com/example/urd/urd/policy/Namespaces$Binding" "GLOBAL" "Lcom/example/urd/urd/policy/Namespaces$Binding;" (.ref wG)) (S_wB : Sta Z h0 "com/example/urd/urd/policy/Namespaces$Binding" "BOTH" "Lcom/example/urd/urd/policy/Namespaces$Binding;" (.ref wB)) :
    MetFree l (⟨"com/example/urd/urd/policy/Namespaces$Binding", "standsForGlobal", "()Z"⟩ : MethodName) (head1 (Jvm.Cond.code (⟨"com/example/urd/urd/policy/Namespaces$Binding", "standsForGlobal", "()Z"⟩ : MethodName) prog_50_method_4_code 1 (some .boolean) :: ws) ({ frames := 0, cells := 0, slots := 0, locals := 0 } : Room)) (fun aa UU => aa = #[(.ref a)] ∧ Z.Warmed39 UU.vm ∧ UU.heap = h0) (fun _ _ _ _ _ => True) (fun _ UU oo UU' => ∃ vv LL, oo = .returned vv ∧ own_rmG_Q Z a wG wB h0 n0 vv UU'.heap LL ∧ FrameEnd UU oo UU' LL ({ frames := 0, cells := 0, slots := 0, locals := 0 } : Room).cells ({ frames := 0, cells := 0, slots := 0, locals := 0 } : Room).slots) := by
  refine MetFree.of_bodySF (plainFor_of_name own_pn_1) hisR ?_
  intro p e s m args below meth cc s₁ Bd hml0 hP hK
  obtain ⟨rfl, hZ, hh⟩ := hP
  have hx := Bd.exec
  have hby := Bd.bytes
  have hml : cc.maxLocals = 1 := hml0
  have hown : s.vm.findClass "com/example/urd/urd/policy/Namespaces$Binding" = some m.cls := findClass_of_methodNamed Bd.named
  have hnm := (name_of_methodNamed Bd.named Bd.method).1
  have X0 : Stand p l e ({ frames := 0, cells := 0, slots := 0, locals := 0 } : Room) s m #[(.ref a)] below meth cc s₁ [] 0 0 := Stand.of_body Bd
  have e0 : s₁.heap = h0 := by rw [← hh, Bd.state]; rfl
  have N0 := Fr.nil n0
  have k0 : ∀ tt, Steps p.tables e below (s₁.setTop (mkF m 0 #[.val (.ref a)] [])) tt → Steps p.tables e below (s₁.setTop (entryFrame m #[(.ref a)] 1)) tt := fun tt kk => castTop (by first | (simp [entryFrame, mkF, argsToLocals, Value.category]; done) | rfl) kk
  obtain ⟨T1, X1, e1, st1⟩ := getS2 X0 hx hZ hown (host := "") (Or.inl (hw _ (List.mem_of_getElem? (i := 8) rfl))) Via.refl e0 S_wG (g := (mkF m 1 #[.val (.ref a)] [(.ref a)])) rfl (hb hby d1_1)
  have k2 : ∀ tt, Steps p.tables e below (T1.setTop (mkF m 4 #[.val (.ref a)] [(.ref wG), (.ref a)])) tt → Steps p.tables e below (s₁.setTop (entryFrame m #[(.ref a)] 1)) tt := by
    intro tt kk
    refine k0 tt ?_
    show Steps p.tables e below (s₁.setTop (mkF m 0 #[.val (.ref a)] [])) tt
    refine XS.aloadN X0.here hx rfl (hb hby d1_0) rfl rfl ?_
    show Steps p.tables e below (s₁.setTop (mkF m 1 #[.val (.ref a)] [(.ref a)])) tt
    refine st1 _ ?_
    exact kk
  by_cases c4_3 : a = wG
  · have k4 : ∀ tt, Steps p.tables e below (T1.setTop (mkF m 19 #[.val (.ref a)] [(.int (1 : Int32))])) tt → Steps p.tables e below (s₁.setTop (entryFrame m #[(.ref a)] 1)) tt := by
      intro tt kk
      refine k2 tt ?_
      show Steps p.tables e below (T1.setTop (mkF m 4 #[.val (.ref a)] [(.ref wG), (.ref a)])) tt
      refine Jvm.RoadKit.acmp (g := (mkF m 4 #[.val (.ref a)] [(.ref wG), (.ref a)])) X1 hx rfl rfl rfl (pc0 := 4) (pc' := 14) (same := true) rfl (hb hby d1_4) rfl (decide_eq_true (congrArg Value.ref (c4_3))) (by decide) (by decide) ?_
      show Steps p.tables e below (T1.setTop (mkF m 14 #[.val (.ref a)] [])) tt
      refine XS.iconst X1.here hx rfl (hb hby d1_14) ?_
      show Steps p.tables e below (T1.setTop (mkF m 15 #[.val (.ref a)] [(.int (1 : Int32))])) tt
      refine XS.goto X1.here hx rfl (pc0 := 15) (pc' := 19) rfl (hb hby d1_15) (by decide) (by decide) ?_
      exact kk
    obtain ⟨fs, hr, hrun, hended, hW, hsame⟩ := X1.leave (v := some (.int (1 : Int32))) (fun hq => by rw [Bd.returns] at hq; cases hq)
    refine ⟨_, _, k4 _ ?_, hrun, hended, _, _, rfl, ?_, ⟨_, rfl⟩, hW, hsame.mono (by decide) (by decide)⟩
    · show Steps p.tables e below (T1.setTop (mkF m 19 #[.val (.ref a)] [(.int (1 : Int32))])) _
      exact retN X1 hx (t := .boolean) Bd.returns (by simp) (hb hby d1_19) hr
    · show (fun (v : Option Value) (h : Heap) (L : List Loc) => v = some (.int (own_is a wG wB)) ∧ Fr n0 L ∧ h = h0) _ T1.heap _
      rw [e1]
      dsimp only
      refine ⟨?_, N0, rfl⟩
      simp [own_is, c4_3]
  · obtain ⟨T5, X5, e5, st5⟩ := getS2 X1 hx hZ hown (host := "") (Or.inl (hw _ (List.mem_of_getElem? (i := 16) rfl))) Via.refl e1 S_wB (g := (mkF m 8 #[.val (.ref a)] [(.ref a)])) rfl (hb hby d1_8)
    have k6 : ∀ tt, Steps p.tables e below (T5.setTop (mkF m 11 #[.val (.ref a)] [(.ref wB), (.ref a)])) tt → Steps p.tables e below (s₁.setTop (entryFrame m #[(.ref a)] 1)) tt := by
      intro tt kk
      refine k2 tt ?_
      show Steps p.tables e below (T1.setTop (mkF m 4 #[.val (.ref a)] [(.ref wG), (.ref a)])) tt
      refine Jvm.RoadKit.acmp (g := (mkF m 4 #[.val (.ref a)] [(.ref wG), (.ref a)])) X1 hx rfl rfl rfl (pc0 := 4) (pc' := 7) (same := false) rfl (hb hby d1_4) rfl (decide_eq_false fun q => (c4_3) (Value.ref.inj q)) (by decide) (by decide) ?_
      show Steps p.tables e below (T1.setTop (mkF m 7 #[.val (.ref a)] [])) tt
      refine XS.aloadN X1.here hx rfl (hb hby d1_7) rfl rfl ?_
      show Steps p.tables e below (T1.setTop (mkF m 8 #[.val (.ref a)] [(.ref a)])) tt
      refine st5 _ ?_
      exact kk
    by_cases c11_7 : a = wB
    · have k8 : ∀ tt, Steps p.tables e below (T5.setTop (mkF m 19 #[.val (.ref a)] [(.int (1 : Int32))])) tt → Steps p.tables e below (s₁.setTop (entryFrame m #[(.ref a)] 1)) tt := by
        intro tt kk
        refine k6 tt ?_
        show Steps p.tables e below (T5.setTop (mkF m 11 #[.val (.ref a)] [(.ref wB), (.ref a)])) tt
        refine Jvm.RoadKit.acmp (g := (mkF m 11 #[.val (.ref a)] [(.ref wB), (.ref a)])) X5 hx rfl rfl rfl (pc0 := 11) (pc' := 14) (same := true) rfl (hb hby d1_11) rfl (decide_eq_true (congrArg Value.ref (c11_7))) (by decide) (by decide) ?_
        show Steps p.tables e below (T5.setTop (mkF m 14 #[.val (.ref a)] [])) tt
        refine XS.iconst X5.here hx rfl (hb hby d1_14) ?_
        show Steps p.tables e below (T5.setTop (mkF m 15 #[.val (.ref a)] [(.int (1 : Int32))])) tt
        refine XS.goto X5.here hx rfl (pc0 := 15) (pc' := 19) rfl (hb hby d1_15) (by decide) (by decide) ?_
        exact kk
      obtain ⟨fs, hr, hrun, hended, hW, hsame⟩ := X5.leave (v := some (.int (1 : Int32))) (fun hq => by rw [Bd.returns] at hq; cases hq)
      refine ⟨_, _, k8 _ ?_, hrun, hended, _, _, rfl, ?_, ⟨_, rfl⟩, hW, hsame.mono (by decide) (by decide)⟩
      · show Steps p.tables e below (T5.setTop (mkF m 19 #[.val (.ref a)] [(.int (1 : Int32))])) _
        exact retN X5 hx (t := .boolean) Bd.returns (by simp) (hb hby d1_19) hr
      · show (fun (v : Option Value) (h : Heap) (L : List Loc) => v = some (.int (own_is a wG wB)) ∧ Fr n0 L ∧ h = h0) _ T5.heap _
        rw [e5]
        dsimp only
        refine ⟨?_, N0, rfl⟩
        simp [own_is, c4_3, c11_7]
    · have k9 : ∀ tt, Steps p.tables e below (T5.setTop (mkF m 19 #[.val (.ref a)] [(.int (0 : Int32))])) tt → Steps p.tables e below (s₁.setTop (entryFrame m #[(.ref a)] 1)) tt := by
        intro tt kk
        refine k6 tt ?_
        show Steps p.tables e below (T5.setTop (mkF m 11 #[.val (.ref a)] [(.ref wB), (.ref a)])) tt
        refine Jvm.RoadKit.acmp (g := (mkF m 11 #[.val (.ref a)] [(.ref wB), (.ref a)])) X5 hx rfl rfl rfl (pc0 := 11) (pc' := 18) (same := false) rfl (hb hby d1_11) rfl (decide_eq_false fun q => (c11_7) (Value.ref.inj q)) (by decide) (by decide) ?_
        show Steps p.tables e below (T5.setTop (mkF m 18 #[.val (.ref a)] [])) tt
        refine XS.iconst X5.here hx rfl (hb hby d1_18) ?_
        exact kk
      obtain ⟨fs, hr, hrun, hended, hW, hsame⟩ := X5.leave (v := some (.int (0 : Int32))) (fun hq => by rw [Bd.returns] at hq; cases hq)
      refine ⟨_, _, k9 _ ?_, hrun, hended, _, _, rfl, ?_, ⟨_, rfl⟩, hW, hsame.mono (by decide) (by decide)⟩
      · show Steps p.tables e below (T5.setTop (mkF m 19 #[.val (.ref a)] [(.int (0 : Int32))])) _
        exact retN X5 hx (t := .boolean) Bd.returns (by simp) (hb hby d1_19) hr
      · show (fun (v : Option Value) (h : Heap) (L : List Loc) => v = some (.int (own_is a wG wB)) ∧ Fr n0 L ∧ h = h0) _ T5.heap _
        rw [e5]
        dsimp only
        refine ⟨?_, N0, rfl⟩
        simp [own_is, c4_3, c11_7]
theorem own_pn_2 : plainName "com/example/urd/urd/policy/Namespaces$Binding" = true := by first | (simp [plainName, overriddenIn]; done) | decide +kernel
theorem d2_0 : decode prog_50_method_5_code 0 = .ok (.aload_n 0, 1) := by decide +kernel
theorem d2_1 : decode prog_50_method_5_code 1 = .ok (.getstatic 7, 3) := by decide +kernel
theorem d2_4 : decode prog_50_method_5_code 4 = .ok (.if_acmp .eq 10, 3) := by decide +kernel
theorem d2_14 : decode prog_50_method_5_code 14 = .ok (.iconst 1, 1) := by decide +kernel
theorem d2_15 : decode prog_50_method_5_code 15 = .ok (.goto 4, 3) := by decide +kernel
theorem d2_19 : decode prog_50_method_5_code 19 = .ok (.ireturn, 1) := by decide +kernel
theorem d2_7 : decode prog_50_method_5_code 7 = .ok (.aload_n 0, 1) := by decide +kernel
theorem d2_8 : decode prog_50_method_5_code 8 = .ok (.getstatic 10, 3) := by decide +kernel
theorem d2_11 : decode prog_50_method_5_code 11 = .ok (.if_acmp .ne 7, 3) := by decide +kernel
theorem d2_18 : decode prog_50_method_5_code 18 = .ok (.iconst 0, 1) := by decide +kernel
def own_rmL_Q (Z : State) (a : Addr) (wL wB : Addr) (h0 : Heap) (n0 : Nat) (v : Option Value) (h : Heap) (L : List Loc) : Prop := v = some (.int (own_is a wL wB)) ∧ Fr n0 L ∧ h = h0
set_option maxRecDepth 65536 in
set_option maxHeartbeats 40000000 in
theorem own_rmL (l : Launch) (Z : State) (a0 : Array Value) (hw : ∀ d ∈ tables_1, d.before a0 Z = true) (ws : List Jvm.Cond) (a : Addr) (wL wB : Addr) (h0 : Heap) (n0 : Nat) (Z0 : n0 ≤ h0.size) (S_wL : Sta Z h0 "com/example/urd/urd/policy/Namespaces$Binding" "LOCAL" "Lcom/example/urd/urd/policy/Namespaces$Binding;" (.ref wL)) (S_wB : Sta Z h0 "com/example/urd/urd/policy/Namespaces$Binding" "BOTH" "Lcom/example/urd/urd/policy/Namespaces$Binding;" (.ref wB)) :
    MetFree l (⟨"com/example/urd/urd/policy/Namespaces$Binding", "standsForLocal", "()Z"⟩ : MethodName) (head1 (Jvm.Cond.code (⟨"com/example/urd/urd/policy/Namespaces$Binding", "standsForLocal", "()Z"⟩ : MethodName) prog_50_method_5_code 1 (some .boolean) :: ws) ({ frames := 0, cells := 0, slots := 0, locals := 0 } : Room)) (fun aa UU => aa = #[(.ref a)] ∧ Z.Warmed39 UU.vm ∧ UU.heap = h0) (fun _ _ _ _ _ => True) (fun _ UU oo UU' => ∃ vv LL, oo = .returned vv ∧ own_rmL_Q Z a wL wB h0 n0 vv UU'.heap LL ∧ FrameEnd UU oo UU' LL ({ frames := 0, cells := 0, slots := 0, locals := 0 } : Room).cells ({ frames := 0, cells := 0, slots := 0, locals := 0 } : Room).slots) := by
  refine MetFree.of_bodySF (plainFor_of_name own_pn_2) hisR ?_
  intro p e s m args below meth cc s₁ Bd hml0 hP hK
  obtain ⟨rfl, hZ, hh⟩ := hP
  have hx := Bd.exec
  have hby := Bd.bytes
  have hml : cc.maxLocals = 1 := hml0
  have hown : s.vm.findClass "com/example/urd/urd/policy/Namespaces$Binding" = some m.cls := findClass_of_methodNamed Bd.named
  have hnm := (name_of_methodNamed Bd.named Bd.method).1
  have X0 : Stand p l e ({ frames := 0, cells := 0, slots := 0, locals := 0 } : Room) s m #[(.ref a)] below meth cc s₁ [] 0 0 := Stand.of_body Bd
  have e0 : s₁.heap = h0 := by rw [← hh, Bd.state]; rfl
  have N0 := Fr.nil n0
  have k0 : ∀ tt, Steps p.tables e below (s₁.setTop (mkF m 0 #[.val (.ref a)] [])) tt → Steps p.tables e below (s₁.setTop (entryFrame m #[(.ref a)] 1)) tt := fun tt kk => castTop (by first | (simp [entryFrame, mkF, argsToLocals, Value.category]; done) | rfl) kk
  obtain ⟨T1, X1, e1, st1⟩ := getS2 X0 hx hZ hown (host := "") (Or.inl (hw _ (List.mem_of_getElem? (i := 14) rfl))) Via.refl e0 S_wL (g := (mkF m 1 #[.val (.ref a)] [(.ref a)])) rfl (hb hby d2_1)
  have k2 : ∀ tt, Steps p.tables e below (T1.setTop (mkF m 4 #[.val (.ref a)] [(.ref wL), (.ref a)])) tt → Steps p.tables e below (s₁.setTop (entryFrame m #[(.ref a)] 1)) tt := by
    intro tt kk
    refine k0 tt ?_
    show Steps p.tables e below (s₁.setTop (mkF m 0 #[.val (.ref a)] [])) tt
    refine XS.aloadN X0.here hx rfl (hb hby d2_0) rfl rfl ?_
    show Steps p.tables e below (s₁.setTop (mkF m 1 #[.val (.ref a)] [(.ref a)])) tt
    refine st1 _ ?_
    exact kk
  by_cases c4_3 : a = wL
  · have k4 : ∀ tt, Steps p.tables e below (T1.setTop (mkF m 19 #[.val (.ref a)] [(.int (1 : Int32))])) tt → Steps p.tables e below (s₁.setTop (entryFrame m #[(.ref a)] 1)) tt := by
      intro tt kk
      refine k2 tt ?_
      show Steps p.tables e below (T1.setTop (mkF m 4 #[.val (.ref a)] [(.ref wL), (.ref a)])) tt
      refine Jvm.RoadKit.acmp (g := (mkF m 4 #[.val (.ref a)] [(.ref wL), (.ref a)])) X1 hx rfl rfl rfl (pc0 := 4) (pc' := 14) (same := true) rfl (hb hby d2_4) rfl (decide_eq_true (congrArg Value.ref (c4_3))) (by decide) (by decide) ?_
      show Steps p.tables e below (T1.setTop (mkF m 14 #[.val (.ref a)] [])) tt
      refine XS.iconst X1.here hx rfl (hb hby d2_14) ?_
      show Steps p.tables e below (T1.setTop (mkF m 15 #[.val (.ref a)] [(.int (1 : Int32))])) tt
      refine XS.goto X1.here hx rfl (pc0 := 15) (pc' := 19) rfl (hb hby d2_15) (by decide) (by decide) ?_
      exact kk
    obtain ⟨fs, hr, hrun, hended, hW, hsame⟩ := X1.leave (v := some (.int (1 : Int32))) (fun hq => by rw [Bd.returns] at hq; cases hq)
    refine ⟨_, _, k4 _ ?_, hrun, hended, _, _, rfl, ?_, ⟨_, rfl⟩, hW, hsame.mono (by decide) (by decide)⟩
    · show Steps p.tables e below (T1.setTop (mkF m 19 #[.val (.ref a)] [(.int (1 : Int32))])) _
      exact retN X1 hx (t := .boolean) Bd.returns (by simp) (hb hby d2_19) hr
    · show (fun (v : Option Value) (h : Heap) (L : List Loc) => v = some (.int (own_is a wL wB)) ∧ Fr n0 L ∧ h = h0) _ T1.heap _
      rw [e1]
      dsimp only
      refine ⟨?_, N0, rfl⟩
      simp [own_is, c4_3]
  · obtain ⟨T5, X5, e5, st5⟩ := getS2 X1 hx hZ hown (host := "") (Or.inl (hw _ (List.mem_of_getElem? (i := 16) rfl))) Via.refl e1 S_wB (g := (mkF m 8 #[.val (.ref a)] [(.ref a)])) rfl (hb hby d2_8)
    have k6 : ∀ tt, Steps p.tables e below (T5.setTop (mkF m 11 #[.val (.ref a)] [(.ref wB), (.ref a)])) tt → Steps p.tables e below (s₁.setTop (entryFrame m #[(.ref a)] 1)) tt := by
      intro tt kk
      refine k2 tt ?_
      show Steps p.tables e below (T1.setTop (mkF m 4 #[.val (.ref a)] [(.ref wL), (.ref a)])) tt
      refine Jvm.RoadKit.acmp (g := (mkF m 4 #[.val (.ref a)] [(.ref wL), (.ref a)])) X1 hx rfl rfl rfl (pc0 := 4) (pc' := 7) (same := false) rfl (hb hby d2_4) rfl (decide_eq_false fun q => (c4_3) (Value.ref.inj q)) (by decide) (by decide) ?_
      show Steps p.tables e below (T1.setTop (mkF m 7 #[.val (.ref a)] [])) tt
      refine XS.aloadN X1.here hx rfl (hb hby d2_7) rfl rfl ?_
      show Steps p.tables e below (T1.setTop (mkF m 8 #[.val (.ref a)] [(.ref a)])) tt
      refine st5 _ ?_
      exact kk
    by_cases c11_7 : a = wB
    · have k8 : ∀ tt, Steps p.tables e below (T5.setTop (mkF m 19 #[.val (.ref a)] [(.int (1 : Int32))])) tt → Steps p.tables e below (s₁.setTop (entryFrame m #[(.ref a)] 1)) tt := by
        intro tt kk
        refine k6 tt ?_
        show Steps p.tables e below (T5.setTop (mkF m 11 #[.val (.ref a)] [(.ref wB), (.ref a)])) tt
        refine Jvm.RoadKit.acmp (g := (mkF m 11 #[.val (.ref a)] [(.ref wB), (.ref a)])) X5 hx rfl rfl rfl (pc0 := 11) (pc' := 14) (same := true) rfl (hb hby d2_11) rfl (decide_eq_true (congrArg Value.ref (c11_7))) (by decide) (by decide) ?_
        show Steps p.tables e below (T5.setTop (mkF m 14 #[.val (.ref a)] [])) tt
        refine XS.iconst X5.here hx rfl (hb hby d2_14) ?_
        show Steps p.tables e below (T5.setTop (mkF m 15 #[.val (.ref a)] [(.int (1 : Int32))])) tt
        refine XS.goto X5.here hx rfl (pc0 := 15) (pc' := 19) rfl (hb hby d2_15) (by decide) (by decide) ?_
        exact kk
      obtain ⟨fs, hr, hrun, hended, hW, hsame⟩ := X5.leave (v := some (.int (1 : Int32))) (fun hq => by rw [Bd.returns] at hq; cases hq)
      refine ⟨_, _, k8 _ ?_, hrun, hended, _, _, rfl, ?_, ⟨_, rfl⟩, hW, hsame.mono (by decide) (by decide)⟩
      · show Steps p.tables e below (T5.setTop (mkF m 19 #[.val (.ref a)] [(.int (1 : Int32))])) _
        exact retN X5 hx (t := .boolean) Bd.returns (by simp) (hb hby d2_19) hr
      · show (fun (v : Option Value) (h : Heap) (L : List Loc) => v = some (.int (own_is a wL wB)) ∧ Fr n0 L ∧ h = h0) _ T5.heap _
        rw [e5]
        dsimp only
        refine ⟨?_, N0, rfl⟩
        simp [own_is, c4_3, c11_7]
    · have k9 : ∀ tt, Steps p.tables e below (T5.setTop (mkF m 19 #[.val (.ref a)] [(.int (0 : Int32))])) tt → Steps p.tables e below (s₁.setTop (entryFrame m #[(.ref a)] 1)) tt := by
        intro tt kk
        refine k6 tt ?_
        show Steps p.tables e below (T5.setTop (mkF m 11 #[.val (.ref a)] [(.ref wB), (.ref a)])) tt
        refine Jvm.RoadKit.acmp (g := (mkF m 11 #[.val (.ref a)] [(.ref wB), (.ref a)])) X5 hx rfl rfl rfl (pc0 := 11) (pc' := 18) (same := false) rfl (hb hby d2_11) rfl (decide_eq_false fun q => (c11_7) (Value.ref.inj q)) (by decide) (by decide) ?_
        show Steps p.tables e below (T5.setTop (mkF m 18 #[.val (.ref a)] [])) tt
        refine XS.iconst X5.here hx rfl (hb hby d2_18) ?_
        exact kk
      obtain ⟨fs, hr, hrun, hended, hW, hsame⟩ := X5.leave (v := some (.int (0 : Int32))) (fun hq => by rw [Bd.returns] at hq; cases hq)
      refine ⟨_, _, k9 _ ?_, hrun, hended, _, _, rfl, ?_, ⟨_, rfl⟩, hW, hsame.mono (by decide) (by decide)⟩
      · show Steps p.tables e below (T5.setTop (mkF m 19 #[.val (.ref a)] [(.int (0 : Int32))])) _
        exact retN X5 hx (t := .boolean) Bd.returns (by simp) (hb hby d2_19) hr
      · show (fun (v : Option Value) (h : Heap) (L : List Loc) => v = some (.int (own_is a wL wB)) ∧ Fr n0 L ∧ h = h0) _ T5.heap _
        rw [e5]
        dsimp only
        refine ⟨?_, N0, rfl⟩
        simp [own_is, c4_3, c11_7]
theorem own_and3 (x : Int32) : (x &&& (3 : Int32)) = (0 : Int32) ∨ (x &&& (3 : Int32)) = (1 : Int32) ∨ (x &&& (3 : Int32)) = (2 : Int32) ∨ (x &&& (3 : Int32)) = (3 : Int32) := by
  obtain ⟨a, b⟩ : 0 ≤ ((x &&& (3 : Int32))).toInt ∧ ((x &&& (3 : Int32))).toInt ≤ 3 := own_and_bd x 3 (by decide)
  generalize (x &&& (3 : Int32)) = z at a b ⊢
  have q : z.toInt = 0 ∨ z.toInt = 1 ∨ z.toInt = 2 ∨ z.toInt = 3 := by omega
  rcases q with q | q | q | q
  · exact Or.inl (own_int_of q)
  · exact Or.inr (Or.inl (own_int_of q))
  · exact Or.inr (Or.inr (Or.inl (own_int_of q)))
  · exact Or.inr (Or.inr (Or.inr (own_int_of q)))
theorem own_3 (x : Int32) (h0 : ¬ ((x &&& (3 : Int32)) = (0 : Int32))) (h1 : ¬ ((x &&& (3 : Int32)) = (1 : Int32))) (h2 : ¬ ((x &&& (3 : Int32)) = (2 : Int32))) : (x &&& (3 : Int32)) = (3 : Int32) := by
  rcases own_and3 x with h | h | h | h
  · exact absurd h h0
  · exact absurd h h1
  · exact absurd h h2
  · exact h
theorem own_pn_0 : plainName "com/example/urd/urd/policy/BindingStandsForGlobalPinLaw" = true := by first | (simp [plainName, overriddenIn]; done) | decide +kernel
theorem own_pd___Z : parseMethodDescriptor "()Z" = some ⟨[], some .boolean⟩ := by decide +kernel
def own_rm0_Q (Z : State) (k : Int32) (wG wL wB wN : Addr) (h0 : Heap) (n0 : Nat) (v : Option Value) (h : Heap) (L : List Loc) : Prop := v = some (.int (1 : Int32)) ∧ Fr n0 L
set_option maxRecDepth 65536 in
set_option maxHeartbeats 40000000 in
theorem own_rm0 (l : Launch) (Z : State) (a0 : Array Value) (hw : ∀ d ∈ tables_1, d.before a0 Z = true) (ws : List Jvm.Cond) (k : Int32) (wG wL wB wN : Addr) (h0 : Heap) (n0 : Nat) (Z0 : n0 ≤ h0.size) (S_wG : Sta Z h0 "com/example/urd/urd/policy/Namespaces$Binding" "GLOBAL" "Lcom/example/urd/urd/policy/Namespaces$Binding;" (.ref wG)) (S_wL : Sta Z h0 "com/example/urd/urd/policy/Namespaces$Binding" "LOCAL" "Lcom/example/urd/urd/policy/Namespaces$Binding;" (.ref wL)) (S_wB : Sta Z h0 "com/example/urd/urd/policy/Namespaces$Binding" "BOTH" "Lcom/example/urd/urd/policy/Namespaces$Binding;" (.ref wB)) (S_wN : Sta Z h0 "com/example/urd/urd/policy/Namespaces$Binding" "NONE" "Lcom/example/urd/urd/policy/Namespaces$Binding;" (.ref wN)) (E_wG : Exa Z h0 wG "com/example/urd/urd/policy/Namespaces$Binding") (E_wL : Exa Z h0 wL "com/example/urd/urd/policy/Namespaces$Binding") (E_wB : Exa Z h0 wB "com/example/urd/urd/policy/Namespaces$Binding") (E_wN : Exa Z h0 wN "com/example/urd/urd/policy/Namespaces$Binding") (nGL : wG ≠ wL) (nGB : wG ≠ wB) (nLG : wL ≠ wG) (nLB : wL ≠ wB) (nNG : wN ≠ wG) (nNL : wN ≠ wL) (nNB : wN ≠ wB) :
    MetFree l x (head1 (Jvm.Cond.code x code maxLocals ret :: ws) room_1) (fun aa UU => aa = #[(.int k)] ∧ Z.Warmed39 UU.vm ∧ UU.heap = h0) (fun _ _ _ _ _ => True) (fun _ UU oo UU' => ∃ vv LL, oo = .returned vv ∧ own_rm0_Q Z k wG wL wB wN h0 n0 vv UU'.heap LL ∧ FrameEnd UU oo UU' LL room_1.cells room_1.slots) := by
  refine MetFree.of_bodySF (plainFor_of_name own_pn_0) hisR ?_
  intro p e s m args below meth cc s₁ Bd hml0 hP hK
  obtain ⟨rfl, hZ, hh⟩ := hP
  have hx := Bd.exec
  have hby := Bd.bytes
  have hml : cc.maxLocals = 6 := hml0
  have hown : s.vm.findClass "com/example/urd/urd/policy/BindingStandsForGlobalPinLaw" = some m.cls := findClass_of_methodNamed Bd.named
  have hnm := (name_of_methodNamed Bd.named Bd.method).1
  have X0 : Stand p l e room_1 s m #[(.int k)] below meth cc s₁ [] 0 0 := Stand.of_body Bd
  have e0 : s₁.heap = h0 := by rw [← hh, Bd.state]; rfl
  have N0 := Fr.nil n0
  have k0 : ∀ tt, Steps p.tables e below (s₁.setTop (mkF m 0 #[.val (.int k), .unset, .unset, .unset, .unset, .unset] [])) tt → Steps p.tables e below (s₁.setTop (entryFrame m #[(.int k)] maxLocals)) tt := fun tt kk => castTop (by first | (simp [entryFrame, mkF, argsToLocals, Value.category, maxLocals]; done) | rfl) kk
  have k1 : ∀ tt, Steps p.tables e below (s₁.setTop (mkF m 5 #[.val (.int k), .val (.int (k &&& (3 : Int32))), .unset, .unset, .unset, .unset] [(.int (k &&& (3 : Int32)))])) tt → Steps p.tables e below (s₁.setTop (entryFrame m #[(.int k)] maxLocals)) tt := by
    intro tt kk
    refine k0 tt ?_
    show Steps p.tables e below (s₁.setTop (mkF m 0 #[.val (.int k), .unset, .unset, .unset, .unset, .unset] [])) tt
    refine XS.iloadN X0.here hx rfl (hb hby at_0) rfl ?_
    show Steps p.tables e below (s₁.setTop (mkF m 1 #[.val (.int k), .unset, .unset, .unset, .unset, .unset] [(.int k)])) tt
    refine XS.iconst X0.here hx rfl (hb hby at_1) ?_
    show Steps p.tables e below (s₁.setTop (mkF m 2 #[.val (.int k), .unset, .unset, .unset, .unset, .unset] [(.int (3 : Int32)), (.int k)])) tt
    refine XS.iand X0.here hx rfl (hb hby at_2) rfl ?_
    show Steps p.tables e below (s₁.setTop (mkF m 3 #[.val (.int k), .unset, .unset, .unset, .unset, .unset] [(.int (k &&& (3 : Int32)))])) tt
    refine XS.istoreN X0.here hx rfl (hb hby at_3) rfl (l' := #[.val (.int k), .val (.int (k &&& (3 : Int32))), .unset, .unset, .unset, .unset]) rfl ?_
    show Steps p.tables e below (s₁.setTop (mkF m 4 #[.val (.int k), .val (.int (k &&& (3 : Int32))), .unset, .unset, .unset, .unset] [])) tt
    refine XS.iloadN X0.here hx rfl (hb hby at_4) rfl ?_
    exact kk
  by_cases c5_2 : (k &&& (3 : Int32)) = (0 : Int32)
  · obtain ⟨T3, X3, e3, st3⟩ := getS2 X0 hx hZ hown (host := "") (Or.inl (hw _ (List.mem_of_getElem? (i := 0) rfl))) Via.refl e0 S_wG (g := (mkF m 8 #[.val (.int k), .val (.int (k &&& (3 : Int32))), .unset, .unset, .unset, .unset] [])) rfl (hb hby at_8)
    obtain ⟨cq4, kq4, q4a, q4b, q4c⟩ := isOf hZ e3 E_wG
    obtain ⟨_, _, ⟨T4, L4, ka4, na4⟩, -, X4, ⟨Lc4, hQ4, l4, y4, z4⟩, st4⟩ := X3.virtualBack hx (y := (⟨"com/example/urd/urd/policy/Namespaces$Binding", "standsForGlobal", "()Z"⟩ : MethodName)) (z := (⟨"com/example/urd/urd/policy/Namespaces$Binding", "standsForGlobal", "()Z"⟩ : MethodName)) hown (mvT hZ (hw _ (List.mem_of_getElem? (i := 3) rfl))) (mvT hZ (hw _ (List.mem_of_getElem? (i := 4) rfl))) (notFace_of_selects (args := #[]) (mvT hZ (hw _ (List.mem_of_getElem? (i := 6) rfl)))) (mvT hZ (hw _ (List.mem_of_getElem? (i := 6) rfl))) (mvT hZ (hw _ (List.mem_of_getElem? (i := 5) rfl))) (by decide) (backOf (W := 0) (own_rmG l Z a0 hw [] wG wG wB h0 n0 Z0 S_wG S_wB) hZ (hw _ (List.mem_of_getElem? (i := 7) rfl)) (hw _ (List.mem_of_getElem? (i := 1) rfl)) (by decide) (by decide)) q4a q4c (g := (mkF m 52 #[.val (.int k), .val (.int (k &&& (3 : Int32))), .val (.ref wG), .val (.int (1 : Int32)), .unset, .unset] [(.ref wG)])) rfl (by rw [hml]; rfl) (Steps.refl _) (argsL := []) (rest := []) (lenOf own_pd___Z rfl) rfl (by show 2 * 0 + _ ≤ _; exact Nat.le_of_eq rfl) (hb hby at_52) (fun _ _ => ⟨rfl, e3, (by decide : 0 + 0 ≤ _), (by decide : 0 + 0 ≤ _)⟩)
    dsimp only [Pt.U, Pt.locs, Pt.cells, Pt.slots] at X4 l4 y4 z4 st4 hQ4
    subst l4 y4 z4
    obtain ⟨hv4, Nq4, hh4⟩ := hQ4
    have N4 := Fr.app N0 Nq4
    rw [show own_is wG wG wB = (1 : Int32) by simp [own_is, nGL, nGB, nLG, nLB, nNG, nNL, nNB]] at hv4
    subst hv4
    obtain ⟨cq5, kq5, q5a, q5b, q5c⟩ := isOf hZ hh4 E_wG
    obtain ⟨_, _, ⟨T5, L5, ka5, na5⟩, -, X5, ⟨Lc5, hQ5, l5, y5, z5⟩, st5⟩ := X4.virtualBack hx (y := (⟨"com/example/urd/urd/policy/Namespaces$Binding", "standsForLocal", "()Z"⟩ : MethodName)) (z := (⟨"com/example/urd/urd/policy/Namespaces$Binding", "standsForLocal", "()Z"⟩ : MethodName)) hown (mvT hZ (hw _ (List.mem_of_getElem? (i := 9) rfl))) (mvT hZ (hw _ (List.mem_of_getElem? (i := 10) rfl))) (notFace_of_selects (args := #[]) (mvT hZ (hw _ (List.mem_of_getElem? (i := 12) rfl)))) (mvT hZ (hw _ (List.mem_of_getElem? (i := 12) rfl))) (mvT hZ (hw _ (List.mem_of_getElem? (i := 11) rfl))) (by decide) (backOf (W := 0) (own_rmL l Z a0 hw [] wG wL wB h0 n0 Z0 S_wL S_wB) hZ (hw _ (List.mem_of_getElem? (i := 13) rfl)) (hw _ (List.mem_of_getElem? (i := 1) rfl)) (by decide) (by decide)) q5a q5c (g := (mkF m 58 #[.val (.int k), .val (.int (k &&& (3 : Int32))), .val (.ref wG), .val (.int (1 : Int32)), .val (.int (1 : Int32)), .unset] [(.ref wG)])) rfl (by rw [hml]; rfl) (Steps.refl _) (argsL := []) (rest := []) (lenOf own_pd___Z rfl) rfl (by show 2 * 0 + _ ≤ _; exact Nat.le_of_eq rfl) (hb hby at_58) (fun _ _ => ⟨rfl, hh4, (by decide : 0 + 0 ≤ _), (by decide : 0 + 0 ≤ _)⟩)
    dsimp only [Pt.U, Pt.locs, Pt.cells, Pt.slots] at X5 l5 y5 z5 st5 hQ5
    subst l5 y5 z5
    obtain ⟨hv5, Nq5, hh5⟩ := hQ5
    have N5 := Fr.app N4 Nq5
    rw [show own_is wG wL wB = (0 : Int32) by simp [own_is, nGL, nGB, nLG, nLB, nNG, nNL, nNB]] at hv5
    subst hv5
    have k6 : ∀ tt, Steps p.tables e below (T5.setTop (mkF m 130 #[.val (.int k), .val (.int (k &&& (3 : Int32))), .val (.ref wG), .val (.int (1 : Int32)), .val (.int (1 : Int32)), .val (.int (0 : Int32))] [(.int (1 : Int32))])) tt → Steps p.tables e below (s₁.setTop (entryFrame m #[(.int k)] maxLocals)) tt := by
      intro tt kk
      refine k1 tt ?_
      show Steps p.tables e below (s₁.setTop (mkF m 5 #[.val (.int k), .val (.int (k &&& (3 : Int32))), .unset, .unset, .unset, .unset] [(.int (k &&& (3 : Int32)))])) tt
      refine XS.ifNo X0.here hx rfl (hb hby at_5) rfl ((if0 _ _).trans (teq (c5_2 : (k &&& (3 : Int32)) = (0 : Int32))).2) ?_
      show Steps p.tables e below (s₁.setTop (mkF m 8 #[.val (.int k), .val (.int (k &&& (3 : Int32))), .unset, .unset, .unset, .unset] [])) tt
      refine st3 _ ?_
      show Steps p.tables e below (T3.setTop (mkF m 11 #[.val (.int k), .val (.int (k &&& (3 : Int32))), .unset, .unset, .unset, .unset] [(.ref wG)])) tt
      refine XS.astoreN X3.here hx rfl (hb hby at_11) rfl rfl (l' := #[.val (.int k), .val (.int (k &&& (3 : Int32))), .val (.ref wG), .unset, .unset, .unset]) rfl ?_
      show Steps p.tables e below (T3.setTop (mkF m 12 #[.val (.int k), .val (.int (k &&& (3 : Int32))), .val (.ref wG), .unset, .unset, .unset] [])) tt
      refine XS.iconst X3.here hx rfl (hb hby at_12) ?_
      show Steps p.tables e below (T3.setTop (mkF m 13 #[.val (.int k), .val (.int (k &&& (3 : Int32))), .val (.ref wG), .unset, .unset, .unset] [(.int (1 : Int32))])) tt
      refine XS.istoreN X3.here hx rfl (hb hby at_13) rfl (l' := #[.val (.int k), .val (.int (k &&& (3 : Int32))), .val (.ref wG), .val (.int (1 : Int32)), .unset, .unset]) rfl ?_
      show Steps p.tables e below (T3.setTop (mkF m 14 #[.val (.int k), .val (.int (k &&& (3 : Int32))), .val (.ref wG), .val (.int (1 : Int32)), .unset, .unset] [])) tt
      refine XS.goto X3.here hx rfl (pc0 := 14) (pc' := 51) rfl (hb hby at_14) (by decide) (by decide) ?_
      show Steps p.tables e below (T3.setTop (mkF m 51 #[.val (.int k), .val (.int (k &&& (3 : Int32))), .val (.ref wG), .val (.int (1 : Int32)), .unset, .unset] [])) tt
      refine XS.aloadN X3.here hx rfl (hb hby at_51) rfl rfl ?_
      show Steps p.tables e below (T3.setTop (mkF m 52 #[.val (.int k), .val (.int (k &&& (3 : Int32))), .val (.ref wG), .val (.int (1 : Int32)), .unset, .unset] [(.ref wG)])) tt
      refine st4.trans ?_
      show Steps p.tables e below (T4.setTop (mkF m 55 #[.val (.int k), .val (.int (k &&& (3 : Int32))), .val (.ref wG), .val (.int (1 : Int32)), .unset, .unset] [(.int (1 : Int32))])) tt
      refine XS.istore X4.here hx rfl (hb hby at_55) rfl (l' := #[.val (.int k), .val (.int (k &&& (3 : Int32))), .val (.ref wG), .val (.int (1 : Int32)), .val (.int (1 : Int32)), .unset]) rfl ?_
      show Steps p.tables e below (T4.setTop (mkF m 57 #[.val (.int k), .val (.int (k &&& (3 : Int32))), .val (.ref wG), .val (.int (1 : Int32)), .val (.int (1 : Int32)), .unset] [])) tt
      refine XS.aloadN X4.here hx rfl (hb hby at_57) rfl rfl ?_
      show Steps p.tables e below (T4.setTop (mkF m 58 #[.val (.int k), .val (.int (k &&& (3 : Int32))), .val (.ref wG), .val (.int (1 : Int32)), .val (.int (1 : Int32)), .unset] [(.ref wG)])) tt
      refine st5.trans ?_
      show Steps p.tables e below (T5.setTop (mkF m 61 #[.val (.int k), .val (.int (k &&& (3 : Int32))), .val (.ref wG), .val (.int (1 : Int32)), .val (.int (1 : Int32)), .unset] [(.int (0 : Int32))])) tt
      refine XS.istore X5.here hx rfl (hb hby at_61) rfl (l' := #[.val (.int k), .val (.int (k &&& (3 : Int32))), .val (.ref wG), .val (.int (1 : Int32)), .val (.int (1 : Int32)), .val (.int (0 : Int32))]) rfl ?_
      show Steps p.tables e below (T5.setTop (mkF m 63 #[.val (.int k), .val (.int (k &&& (3 : Int32))), .val (.ref wG), .val (.int (1 : Int32)), .val (.int (1 : Int32)), .val (.int (0 : Int32))] [])) tt
      refine XS.iload X5.here hx rfl (hb hby at_63) rfl ?_
      show Steps p.tables e below (T5.setTop (mkF m 65 #[.val (.int k), .val (.int (k &&& (3 : Int32))), .val (.ref wG), .val (.int (1 : Int32)), .val (.int (1 : Int32)), .val (.int (0 : Int32))] [(.int (1 : Int32))])) tt
      refine XS.iloadN X5.here hx rfl (hb hby at_65) rfl ?_
      show Steps p.tables e below (T5.setTop (mkF m 66 #[.val (.int k), .val (.int (k &&& (3 : Int32))), .val (.ref wG), .val (.int (1 : Int32)), .val (.int (1 : Int32)), .val (.int (0 : Int32))] [(.int (1 : Int32)), (.int (1 : Int32))])) tt
      refine XS.icmpNo X5.here hx rfl (hb hby at_66) rfl (teq (by decide : (1 : Int32) = (1 : Int32))).2 ?_
      show Steps p.tables e below (T5.setTop (mkF m 69 #[.val (.int k), .val (.int (k &&& (3 : Int32))), .val (.ref wG), .val (.int (1 : Int32)), .val (.int (1 : Int32)), .val (.int (0 : Int32))] [])) tt
      refine XS.iload X5.here hx rfl (hb hby at_69) rfl ?_
      show Steps p.tables e below (T5.setTop (mkF m 71 #[.val (.int k), .val (.int (k &&& (3 : Int32))), .val (.ref wG), .val (.int (1 : Int32)), .val (.int (1 : Int32)), .val (.int (0 : Int32))] [(.int (1 : Int32))])) tt
      refine XS.ifNo X5.here hx rfl (hb hby at_71) rfl ((if0 _ _).trans (feq (by decide : ¬ ((1 : Int32) = (0 : Int32)))).1) ?_
      show Steps p.tables e below (T5.setTop (mkF m 74 #[.val (.int k), .val (.int (k &&& (3 : Int32))), .val (.ref wG), .val (.int (1 : Int32)), .val (.int (1 : Int32)), .val (.int (0 : Int32))] [])) tt
      refine XS.iload X5.here hx rfl (hb hby at_74) rfl ?_
      show Steps p.tables e below (T5.setTop (mkF m 76 #[.val (.int k), .val (.int (k &&& (3 : Int32))), .val (.ref wG), .val (.int (1 : Int32)), .val (.int (1 : Int32)), .val (.int (0 : Int32))] [(.int (0 : Int32))])) tt
      refine XS.ifYes X5.here hx rfl (pc0 := 76) (pc' := 83) rfl (hb hby at_76) rfl ((if0 _ _).trans (teq (by decide : (0 : Int32) = (0 : Int32))).1) (by decide) (by decide) ?_
      show Steps p.tables e below (T5.setTop (mkF m 83 #[.val (.int k), .val (.int (k &&& (3 : Int32))), .val (.ref wG), .val (.int (1 : Int32)), .val (.int (1 : Int32)), .val (.int (0 : Int32))] [])) tt
      refine XS.iconst X5.here hx rfl (hb hby at_83) ?_
      show Steps p.tables e below (T5.setTop (mkF m 84 #[.val (.int k), .val (.int (k &&& (3 : Int32))), .val (.ref wG), .val (.int (1 : Int32)), .val (.int (1 : Int32)), .val (.int (0 : Int32))] [(.int (0 : Int32))])) tt
      refine XS.iloadN X5.here hx rfl (hb hby at_84) rfl ?_
      show Steps p.tables e below (T5.setTop (mkF m 85 #[.val (.int k), .val (.int (k &&& (3 : Int32))), .val (.ref wG), .val (.int (1 : Int32)), .val (.int (1 : Int32)), .val (.int (0 : Int32))] [(.int (k &&& (3 : Int32))), (.int (0 : Int32))])) tt
      refine XS.iconst X5.here hx rfl (hb hby at_85) ?_
      show Steps p.tables e below (T5.setTop (mkF m 86 #[.val (.int k), .val (.int (k &&& (3 : Int32))), .val (.ref wG), .val (.int (1 : Int32)), .val (.int (1 : Int32)), .val (.int (0 : Int32))] [(.int (2 : Int32)), (.int (k &&& (3 : Int32))), (.int (0 : Int32))])) tt
      refine XS.icmpYes X5.here hx rfl (pc0 := 86) (pc' := 93) rfl (hb hby at_86) rfl (feq (by rw [c5_2]; decide : ¬ ((k &&& (3 : Int32)) = (2 : Int32)))).2 (by decide) (by decide) ?_
      show Steps p.tables e below (T5.setTop (mkF m 93 #[.val (.int k), .val (.int (k &&& (3 : Int32))), .val (.ref wG), .val (.int (1 : Int32)), .val (.int (1 : Int32)), .val (.int (0 : Int32))] [(.int (0 : Int32))])) tt
      refine XS.iconst X5.here hx rfl (hb hby at_93) ?_
      show Steps p.tables e below (T5.setTop (mkF m 94 #[.val (.int k), .val (.int (k &&& (3 : Int32))), .val (.ref wG), .val (.int (1 : Int32)), .val (.int (1 : Int32)), .val (.int (0 : Int32))] [(.int (0 : Int32)), (.int (0 : Int32))])) tt
      refine XS.icmpNo X5.here hx rfl (hb hby at_94) rfl (teq (by decide : (0 : Int32) = (0 : Int32))).2 ?_
      show Steps p.tables e below (T5.setTop (mkF m 97 #[.val (.int k), .val (.int (k &&& (3 : Int32))), .val (.ref wG), .val (.int (1 : Int32)), .val (.int (1 : Int32)), .val (.int (0 : Int32))] [])) tt
      refine XS.iload X5.here hx rfl (hb hby at_97) rfl ?_
      show Steps p.tables e below (T5.setTop (mkF m 99 #[.val (.int k), .val (.int (k &&& (3 : Int32))), .val (.ref wG), .val (.int (1 : Int32)), .val (.int (1 : Int32)), .val (.int (0 : Int32))] [(.int (1 : Int32))])) tt
      refine XS.ifYes X5.here hx rfl (pc0 := 99) (pc' := 111) rfl (hb hby at_99) rfl ((if0 _ _).trans (feq (by decide : ¬ ((1 : Int32) = (0 : Int32)))).2) (by decide) (by decide) ?_
      show Steps p.tables e below (T5.setTop (mkF m 111 #[.val (.int k), .val (.int (k &&& (3 : Int32))), .val (.ref wG), .val (.int (1 : Int32)), .val (.int (1 : Int32)), .val (.int (0 : Int32))] [])) tt
      refine XS.iconst X5.here hx rfl (hb hby at_111) ?_
      show Steps p.tables e below (T5.setTop (mkF m 112 #[.val (.int k), .val (.int (k &&& (3 : Int32))), .val (.ref wG), .val (.int (1 : Int32)), .val (.int (1 : Int32)), .val (.int (0 : Int32))] [(.int (0 : Int32))])) tt
      refine XS.iloadN X5.here hx rfl (hb hby at_112) rfl ?_
      show Steps p.tables e below (T5.setTop (mkF m 113 #[.val (.int k), .val (.int (k &&& (3 : Int32))), .val (.ref wG), .val (.int (1 : Int32)), .val (.int (1 : Int32)), .val (.int (0 : Int32))] [(.int (k &&& (3 : Int32))), (.int (0 : Int32))])) tt
      refine XS.iconst X5.here hx rfl (hb hby at_113) ?_
      show Steps p.tables e below (T5.setTop (mkF m 114 #[.val (.int k), .val (.int (k &&& (3 : Int32))), .val (.ref wG), .val (.int (1 : Int32)), .val (.int (1 : Int32)), .val (.int (0 : Int32))] [(.int (3 : Int32)), (.int (k &&& (3 : Int32))), (.int (0 : Int32))])) tt
      refine XS.icmpYes X5.here hx rfl (pc0 := 114) (pc' := 121) rfl (hb hby at_114) rfl (feq (by rw [c5_2]; decide : ¬ ((k &&& (3 : Int32)) = (3 : Int32)))).2 (by decide) (by decide) ?_
      show Steps p.tables e below (T5.setTop (mkF m 121 #[.val (.int k), .val (.int (k &&& (3 : Int32))), .val (.ref wG), .val (.int (1 : Int32)), .val (.int (1 : Int32)), .val (.int (0 : Int32))] [(.int (0 : Int32))])) tt
      refine XS.iconst X5.here hx rfl (hb hby at_121) ?_
      show Steps p.tables e below (T5.setTop (mkF m 122 #[.val (.int k), .val (.int (k &&& (3 : Int32))), .val (.ref wG), .val (.int (1 : Int32)), .val (.int (1 : Int32)), .val (.int (0 : Int32))] [(.int (0 : Int32)), (.int (0 : Int32))])) tt
      refine XS.icmpNo X5.here hx rfl (hb hby at_122) rfl (teq (by decide : (0 : Int32) = (0 : Int32))).2 ?_
      show Steps p.tables e below (T5.setTop (mkF m 125 #[.val (.int k), .val (.int (k &&& (3 : Int32))), .val (.ref wG), .val (.int (1 : Int32)), .val (.int (1 : Int32)), .val (.int (0 : Int32))] [])) tt
      refine XS.iconst X5.here hx rfl (hb hby at_125) ?_
      show Steps p.tables e below (T5.setTop (mkF m 126 #[.val (.int k), .val (.int (k &&& (3 : Int32))), .val (.ref wG), .val (.int (1 : Int32)), .val (.int (1 : Int32)), .val (.int (0 : Int32))] [(.int (1 : Int32))])) tt
      refine XS.goto X5.here hx rfl (pc0 := 126) (pc' := 130) rfl (hb hby at_126) (by decide) (by decide) ?_
      exact kk
    obtain ⟨fs, hr, hrun, hended, hW, hsame⟩ := X5.leave (v := some (.int (1 : Int32))) (fun hq => by rw [Bd.returns] at hq; cases hq)
    refine ⟨_, _, k6 _ ?_, hrun, hended, _, _, rfl, ?_, ⟨_, rfl⟩, hW, hsame.mono (by decide) (by decide)⟩
    · show Steps p.tables e below (T5.setTop (mkF m 130 #[.val (.int k), .val (.int (k &&& (3 : Int32))), .val (.ref wG), .val (.int (1 : Int32)), .val (.int (1 : Int32)), .val (.int (0 : Int32))] [(.int (1 : Int32))])) _
      exact retN X5 hx (t := .boolean) Bd.returns (by simp) (hb hby at_130) hr
    · show (fun (v : Option Value) (h : Heap) (L : List Loc) => v = some (.int (1 : Int32)) ∧ Fr n0 L) _ T5.heap _
      rw [hh5]
      dsimp only
      exact ⟨rfl, N5⟩
  · have k7 : ∀ tt, Steps p.tables e below (s₁.setTop (mkF m 19 #[.val (.int k), .val (.int (k &&& (3 : Int32))), .unset, .unset, .unset, .unset] [(.int (1 : Int32)), (.int (k &&& (3 : Int32)))])) tt → Steps p.tables e below (s₁.setTop (entryFrame m #[(.int k)] maxLocals)) tt := by
      intro tt kk
      refine k1 tt ?_
      show Steps p.tables e below (s₁.setTop (mkF m 5 #[.val (.int k), .val (.int (k &&& (3 : Int32))), .unset, .unset, .unset, .unset] [(.int (k &&& (3 : Int32)))])) tt
      refine XS.ifYes X0.here hx rfl (pc0 := 5) (pc' := 17) rfl (hb hby at_5) rfl ((if0 _ _).trans (feq (c5_2 : ¬ ((k &&& (3 : Int32)) = (0 : Int32)))).2) (by decide) (by decide) ?_
      show Steps p.tables e below (s₁.setTop (mkF m 17 #[.val (.int k), .val (.int (k &&& (3 : Int32))), .unset, .unset, .unset, .unset] [])) tt
      refine XS.iloadN X0.here hx rfl (hb hby at_17) rfl ?_
      show Steps p.tables e below (s₁.setTop (mkF m 18 #[.val (.int k), .val (.int (k &&& (3 : Int32))), .unset, .unset, .unset, .unset] [(.int (k &&& (3 : Int32)))])) tt
      refine XS.iconst X0.here hx rfl (hb hby at_18) ?_
      exact kk
    by_cases c19_8 : (k &&& (3 : Int32)) = (1 : Int32)
    · obtain ⟨T9, X9, e9, st9⟩ := getS2 X0 hx hZ hown (host := "") (Or.inl (hw _ (List.mem_of_getElem? (i := 21) rfl))) Via.refl e0 S_wL (g := (mkF m 22 #[.val (.int k), .val (.int (k &&& (3 : Int32))), .unset, .unset, .unset, .unset] [])) rfl (hb hby at_22)
      obtain ⟨cq10, kq10, q10a, q10b, q10c⟩ := isOf hZ e9 E_wL
      obtain ⟨_, _, ⟨T10, L10, ka10, na10⟩, -, X10, ⟨Lc10, hQ10, l10, y10, z10⟩, st10⟩ := X9.virtualBack hx (y := (⟨"com/example/urd/urd/policy/Namespaces$Binding", "standsForGlobal", "()Z"⟩ : MethodName)) (z := (⟨"com/example/urd/urd/policy/Namespaces$Binding", "standsForGlobal", "()Z"⟩ : MethodName)) hown (mvT hZ (hw _ (List.mem_of_getElem? (i := 3) rfl))) (mvT hZ (hw _ (List.mem_of_getElem? (i := 4) rfl))) (notFace_of_selects (args := #[]) (mvT hZ (hw _ (List.mem_of_getElem? (i := 6) rfl)))) (mvT hZ (hw _ (List.mem_of_getElem? (i := 6) rfl))) (mvT hZ (hw _ (List.mem_of_getElem? (i := 5) rfl))) (by decide) (backOf (W := 0) (own_rmG l Z a0 hw [] wL wG wB h0 n0 Z0 S_wG S_wB) hZ (hw _ (List.mem_of_getElem? (i := 7) rfl)) (hw _ (List.mem_of_getElem? (i := 1) rfl)) (by decide) (by decide)) q10a q10c (g := (mkF m 52 #[.val (.int k), .val (.int (k &&& (3 : Int32))), .val (.ref wL), .val (.int (0 : Int32)), .unset, .unset] [(.ref wL)])) rfl (by rw [hml]; rfl) (Steps.refl _) (argsL := []) (rest := []) (lenOf own_pd___Z rfl) rfl (by show 2 * 0 + _ ≤ _; exact Nat.le_of_eq rfl) (hb hby at_52) (fun _ _ => ⟨rfl, e9, (by decide : 0 + 0 ≤ _), (by decide : 0 + 0 ≤ _)⟩)
      dsimp only [Pt.U, Pt.locs, Pt.cells, Pt.slots] at X10 l10 y10 z10 st10 hQ10
      subst l10 y10 z10
      obtain ⟨hv10, Nq10, hh10⟩ := hQ10
      have N10 := Fr.app N0 Nq10
      rw [show own_is wL wG wB = (0 : Int32) by simp [own_is, nGL, nGB, nLG, nLB, nNG, nNL, nNB]] at hv10
      subst hv10
      obtain ⟨cq11, kq11, q11a, q11b, q11c⟩ := isOf hZ hh10 E_wL
      obtain ⟨_, _, ⟨T11, L11, ka11, na11⟩, -, X11, ⟨Lc11, hQ11, l11, y11, z11⟩, st11⟩ := X10.virtualBack hx (y := (⟨"com/example/urd/urd/policy/Namespaces$Binding", "standsForLocal", "()Z"⟩ : MethodName)) (z := (⟨"com/example/urd/urd/policy/Namespaces$Binding", "standsForLocal", "()Z"⟩ : MethodName)) hown (mvT hZ (hw _ (List.mem_of_getElem? (i := 9) rfl))) (mvT hZ (hw _ (List.mem_of_getElem? (i := 10) rfl))) (notFace_of_selects (args := #[]) (mvT hZ (hw _ (List.mem_of_getElem? (i := 12) rfl)))) (mvT hZ (hw _ (List.mem_of_getElem? (i := 12) rfl))) (mvT hZ (hw _ (List.mem_of_getElem? (i := 11) rfl))) (by decide) (backOf (W := 0) (own_rmL l Z a0 hw [] wL wL wB h0 n0 Z0 S_wL S_wB) hZ (hw _ (List.mem_of_getElem? (i := 13) rfl)) (hw _ (List.mem_of_getElem? (i := 1) rfl)) (by decide) (by decide)) q11a q11c (g := (mkF m 58 #[.val (.int k), .val (.int (k &&& (3 : Int32))), .val (.ref wL), .val (.int (0 : Int32)), .val (.int (0 : Int32)), .unset] [(.ref wL)])) rfl (by rw [hml]; rfl) (Steps.refl _) (argsL := []) (rest := []) (lenOf own_pd___Z rfl) rfl (by show 2 * 0 + _ ≤ _; exact Nat.le_of_eq rfl) (hb hby at_58) (fun _ _ => ⟨rfl, hh10, (by decide : 0 + 0 ≤ _), (by decide : 0 + 0 ≤ _)⟩)
      dsimp only [Pt.U, Pt.locs, Pt.cells, Pt.slots] at X11 l11 y11 z11 st11 hQ11
      subst l11 y11 z11
      obtain ⟨hv11, Nq11, hh11⟩ := hQ11
      have N11 := Fr.app N10 Nq11
      rw [show own_is wL wL wB = (1 : Int32) by simp [own_is, nGL, nGB, nLG, nLB, nNG, nNL, nNB]] at hv11
      subst hv11
      have k12 : ∀ tt, Steps p.tables e below (T11.setTop (mkF m 130 #[.val (.int k), .val (.int (k &&& (3 : Int32))), .val (.ref wL), .val (.int (0 : Int32)), .val (.int (0 : Int32)), .val (.int (1 : Int32))] [(.int (1 : Int32))])) tt → Steps p.tables e below (s₁.setTop (entryFrame m #[(.int k)] maxLocals)) tt := by
        intro tt kk
        refine k7 tt ?_
        show Steps p.tables e below (s₁.setTop (mkF m 19 #[.val (.int k), .val (.int (k &&& (3 : Int32))), .unset, .unset, .unset, .unset] [(.int (1 : Int32)), (.int (k &&& (3 : Int32)))])) tt
        refine XS.icmpNo X0.here hx rfl (hb hby at_19) rfl (teq (c19_8 : (k &&& (3 : Int32)) = (1 : Int32))).2 ?_
        show Steps p.tables e below (s₁.setTop (mkF m 22 #[.val (.int k), .val (.int (k &&& (3 : Int32))), .unset, .unset, .unset, .unset] [])) tt
        refine st9 _ ?_
        show Steps p.tables e below (T9.setTop (mkF m 25 #[.val (.int k), .val (.int (k &&& (3 : Int32))), .unset, .unset, .unset, .unset] [(.ref wL)])) tt
        refine XS.astoreN X9.here hx rfl (hb hby at_25) rfl rfl (l' := #[.val (.int k), .val (.int (k &&& (3 : Int32))), .val (.ref wL), .unset, .unset, .unset]) rfl ?_
        show Steps p.tables e below (T9.setTop (mkF m 26 #[.val (.int k), .val (.int (k &&& (3 : Int32))), .val (.ref wL), .unset, .unset, .unset] [])) tt
        refine XS.iconst X9.here hx rfl (hb hby at_26) ?_
        show Steps p.tables e below (T9.setTop (mkF m 27 #[.val (.int k), .val (.int (k &&& (3 : Int32))), .val (.ref wL), .unset, .unset, .unset] [(.int (0 : Int32))])) tt
        refine XS.istoreN X9.here hx rfl (hb hby at_27) rfl (l' := #[.val (.int k), .val (.int (k &&& (3 : Int32))), .val (.ref wL), .val (.int (0 : Int32)), .unset, .unset]) rfl ?_
        show Steps p.tables e below (T9.setTop (mkF m 28 #[.val (.int k), .val (.int (k &&& (3 : Int32))), .val (.ref wL), .val (.int (0 : Int32)), .unset, .unset] [])) tt
        refine XS.goto X9.here hx rfl (pc0 := 28) (pc' := 51) rfl (hb hby at_28) (by decide) (by decide) ?_
        show Steps p.tables e below (T9.setTop (mkF m 51 #[.val (.int k), .val (.int (k &&& (3 : Int32))), .val (.ref wL), .val (.int (0 : Int32)), .unset, .unset] [])) tt
        refine XS.aloadN X9.here hx rfl (hb hby at_51) rfl rfl ?_
        show Steps p.tables e below (T9.setTop (mkF m 52 #[.val (.int k), .val (.int (k &&& (3 : Int32))), .val (.ref wL), .val (.int (0 : Int32)), .unset, .unset] [(.ref wL)])) tt
        refine st10.trans ?_
        show Steps p.tables e below (T10.setTop (mkF m 55 #[.val (.int k), .val (.int (k &&& (3 : Int32))), .val (.ref wL), .val (.int (0 : Int32)), .unset, .unset] [(.int (0 : Int32))])) tt
        refine XS.istore X10.here hx rfl (hb hby at_55) rfl (l' := #[.val (.int k), .val (.int (k &&& (3 : Int32))), .val (.ref wL), .val (.int (0 : Int32)), .val (.int (0 : Int32)), .unset]) rfl ?_
        show Steps p.tables e below (T10.setTop (mkF m 57 #[.val (.int k), .val (.int (k &&& (3 : Int32))), .val (.ref wL), .val (.int (0 : Int32)), .val (.int (0 : Int32)), .unset] [])) tt
        refine XS.aloadN X10.here hx rfl (hb hby at_57) rfl rfl ?_
        show Steps p.tables e below (T10.setTop (mkF m 58 #[.val (.int k), .val (.int (k &&& (3 : Int32))), .val (.ref wL), .val (.int (0 : Int32)), .val (.int (0 : Int32)), .unset] [(.ref wL)])) tt
        refine st11.trans ?_
        show Steps p.tables e below (T11.setTop (mkF m 61 #[.val (.int k), .val (.int (k &&& (3 : Int32))), .val (.ref wL), .val (.int (0 : Int32)), .val (.int (0 : Int32)), .unset] [(.int (1 : Int32))])) tt
        refine XS.istore X11.here hx rfl (hb hby at_61) rfl (l' := #[.val (.int k), .val (.int (k &&& (3 : Int32))), .val (.ref wL), .val (.int (0 : Int32)), .val (.int (0 : Int32)), .val (.int (1 : Int32))]) rfl ?_
        show Steps p.tables e below (T11.setTop (mkF m 63 #[.val (.int k), .val (.int (k &&& (3 : Int32))), .val (.ref wL), .val (.int (0 : Int32)), .val (.int (0 : Int32)), .val (.int (1 : Int32))] [])) tt
        refine XS.iload X11.here hx rfl (hb hby at_63) rfl ?_
        show Steps p.tables e below (T11.setTop (mkF m 65 #[.val (.int k), .val (.int (k &&& (3 : Int32))), .val (.ref wL), .val (.int (0 : Int32)), .val (.int (0 : Int32)), .val (.int (1 : Int32))] [(.int (0 : Int32))])) tt
        refine XS.iloadN X11.here hx rfl (hb hby at_65) rfl ?_
        show Steps p.tables e below (T11.setTop (mkF m 66 #[.val (.int k), .val (.int (k &&& (3 : Int32))), .val (.ref wL), .val (.int (0 : Int32)), .val (.int (0 : Int32)), .val (.int (1 : Int32))] [(.int (0 : Int32)), (.int (0 : Int32))])) tt
        refine XS.icmpNo X11.here hx rfl (hb hby at_66) rfl (teq (by decide : (0 : Int32) = (0 : Int32))).2 ?_
        show Steps p.tables e below (T11.setTop (mkF m 69 #[.val (.int k), .val (.int (k &&& (3 : Int32))), .val (.ref wL), .val (.int (0 : Int32)), .val (.int (0 : Int32)), .val (.int (1 : Int32))] [])) tt
        refine XS.iload X11.here hx rfl (hb hby at_69) rfl ?_
        show Steps p.tables e below (T11.setTop (mkF m 71 #[.val (.int k), .val (.int (k &&& (3 : Int32))), .val (.ref wL), .val (.int (0 : Int32)), .val (.int (0 : Int32)), .val (.int (1 : Int32))] [(.int (0 : Int32))])) tt
        refine XS.ifYes X11.here hx rfl (pc0 := 71) (pc' := 83) rfl (hb hby at_71) rfl ((if0 _ _).trans (teq (by decide : (0 : Int32) = (0 : Int32))).1) (by decide) (by decide) ?_
        show Steps p.tables e below (T11.setTop (mkF m 83 #[.val (.int k), .val (.int (k &&& (3 : Int32))), .val (.ref wL), .val (.int (0 : Int32)), .val (.int (0 : Int32)), .val (.int (1 : Int32))] [])) tt
        refine XS.iconst X11.here hx rfl (hb hby at_83) ?_
        show Steps p.tables e below (T11.setTop (mkF m 84 #[.val (.int k), .val (.int (k &&& (3 : Int32))), .val (.ref wL), .val (.int (0 : Int32)), .val (.int (0 : Int32)), .val (.int (1 : Int32))] [(.int (0 : Int32))])) tt
        refine XS.iloadN X11.here hx rfl (hb hby at_84) rfl ?_
        show Steps p.tables e below (T11.setTop (mkF m 85 #[.val (.int k), .val (.int (k &&& (3 : Int32))), .val (.ref wL), .val (.int (0 : Int32)), .val (.int (0 : Int32)), .val (.int (1 : Int32))] [(.int (k &&& (3 : Int32))), (.int (0 : Int32))])) tt
        refine XS.iconst X11.here hx rfl (hb hby at_85) ?_
        show Steps p.tables e below (T11.setTop (mkF m 86 #[.val (.int k), .val (.int (k &&& (3 : Int32))), .val (.ref wL), .val (.int (0 : Int32)), .val (.int (0 : Int32)), .val (.int (1 : Int32))] [(.int (2 : Int32)), (.int (k &&& (3 : Int32))), (.int (0 : Int32))])) tt
        refine XS.icmpYes X11.here hx rfl (pc0 := 86) (pc' := 93) rfl (hb hby at_86) rfl (feq (by rw [c19_8]; decide : ¬ ((k &&& (3 : Int32)) = (2 : Int32)))).2 (by decide) (by decide) ?_
        show Steps p.tables e below (T11.setTop (mkF m 93 #[.val (.int k), .val (.int (k &&& (3 : Int32))), .val (.ref wL), .val (.int (0 : Int32)), .val (.int (0 : Int32)), .val (.int (1 : Int32))] [(.int (0 : Int32))])) tt
        refine XS.iconst X11.here hx rfl (hb hby at_93) ?_
        show Steps p.tables e below (T11.setTop (mkF m 94 #[.val (.int k), .val (.int (k &&& (3 : Int32))), .val (.ref wL), .val (.int (0 : Int32)), .val (.int (0 : Int32)), .val (.int (1 : Int32))] [(.int (0 : Int32)), (.int (0 : Int32))])) tt
        refine XS.icmpNo X11.here hx rfl (hb hby at_94) rfl (teq (by decide : (0 : Int32) = (0 : Int32))).2 ?_
        show Steps p.tables e below (T11.setTop (mkF m 97 #[.val (.int k), .val (.int (k &&& (3 : Int32))), .val (.ref wL), .val (.int (0 : Int32)), .val (.int (0 : Int32)), .val (.int (1 : Int32))] [])) tt
        refine XS.iload X11.here hx rfl (hb hby at_97) rfl ?_
        show Steps p.tables e below (T11.setTop (mkF m 99 #[.val (.int k), .val (.int (k &&& (3 : Int32))), .val (.ref wL), .val (.int (0 : Int32)), .val (.int (0 : Int32)), .val (.int (1 : Int32))] [(.int (0 : Int32))])) tt
        refine XS.ifNo X11.here hx rfl (hb hby at_99) rfl ((if0 _ _).trans (teq (by decide : (0 : Int32) = (0 : Int32))).2) ?_
        show Steps p.tables e below (T11.setTop (mkF m 102 #[.val (.int k), .val (.int (k &&& (3 : Int32))), .val (.ref wL), .val (.int (0 : Int32)), .val (.int (0 : Int32)), .val (.int (1 : Int32))] [])) tt
        refine XS.iload X11.here hx rfl (hb hby at_102) rfl ?_
        show Steps p.tables e below (T11.setTop (mkF m 104 #[.val (.int k), .val (.int (k &&& (3 : Int32))), .val (.ref wL), .val (.int (0 : Int32)), .val (.int (0 : Int32)), .val (.int (1 : Int32))] [(.int (1 : Int32))])) tt
        refine XS.ifYes X11.here hx rfl (pc0 := 104) (pc' := 111) rfl (hb hby at_104) rfl ((if0 _ _).trans (feq (by decide : ¬ ((1 : Int32) = (0 : Int32)))).2) (by decide) (by decide) ?_
        show Steps p.tables e below (T11.setTop (mkF m 111 #[.val (.int k), .val (.int (k &&& (3 : Int32))), .val (.ref wL), .val (.int (0 : Int32)), .val (.int (0 : Int32)), .val (.int (1 : Int32))] [])) tt
        refine XS.iconst X11.here hx rfl (hb hby at_111) ?_
        show Steps p.tables e below (T11.setTop (mkF m 112 #[.val (.int k), .val (.int (k &&& (3 : Int32))), .val (.ref wL), .val (.int (0 : Int32)), .val (.int (0 : Int32)), .val (.int (1 : Int32))] [(.int (0 : Int32))])) tt
        refine XS.iloadN X11.here hx rfl (hb hby at_112) rfl ?_
        show Steps p.tables e below (T11.setTop (mkF m 113 #[.val (.int k), .val (.int (k &&& (3 : Int32))), .val (.ref wL), .val (.int (0 : Int32)), .val (.int (0 : Int32)), .val (.int (1 : Int32))] [(.int (k &&& (3 : Int32))), (.int (0 : Int32))])) tt
        refine XS.iconst X11.here hx rfl (hb hby at_113) ?_
        show Steps p.tables e below (T11.setTop (mkF m 114 #[.val (.int k), .val (.int (k &&& (3 : Int32))), .val (.ref wL), .val (.int (0 : Int32)), .val (.int (0 : Int32)), .val (.int (1 : Int32))] [(.int (3 : Int32)), (.int (k &&& (3 : Int32))), (.int (0 : Int32))])) tt
        refine XS.icmpYes X11.here hx rfl (pc0 := 114) (pc' := 121) rfl (hb hby at_114) rfl (feq (by rw [c19_8]; decide : ¬ ((k &&& (3 : Int32)) = (3 : Int32)))).2 (by decide) (by decide) ?_
        show Steps p.tables e below (T11.setTop (mkF m 121 #[.val (.int k), .val (.int (k &&& (3 : Int32))), .val (.ref wL), .val (.int (0 : Int32)), .val (.int (0 : Int32)), .val (.int (1 : Int32))] [(.int (0 : Int32))])) tt
        refine XS.iconst X11.here hx rfl (hb hby at_121) ?_
        show Steps p.tables e below (T11.setTop (mkF m 122 #[.val (.int k), .val (.int (k &&& (3 : Int32))), .val (.ref wL), .val (.int (0 : Int32)), .val (.int (0 : Int32)), .val (.int (1 : Int32))] [(.int (0 : Int32)), (.int (0 : Int32))])) tt
        refine XS.icmpNo X11.here hx rfl (hb hby at_122) rfl (teq (by decide : (0 : Int32) = (0 : Int32))).2 ?_
        show Steps p.tables e below (T11.setTop (mkF m 125 #[.val (.int k), .val (.int (k &&& (3 : Int32))), .val (.ref wL), .val (.int (0 : Int32)), .val (.int (0 : Int32)), .val (.int (1 : Int32))] [])) tt
        refine XS.iconst X11.here hx rfl (hb hby at_125) ?_
        show Steps p.tables e below (T11.setTop (mkF m 126 #[.val (.int k), .val (.int (k &&& (3 : Int32))), .val (.ref wL), .val (.int (0 : Int32)), .val (.int (0 : Int32)), .val (.int (1 : Int32))] [(.int (1 : Int32))])) tt
        refine XS.goto X11.here hx rfl (pc0 := 126) (pc' := 130) rfl (hb hby at_126) (by decide) (by decide) ?_
        exact kk
      obtain ⟨fs, hr, hrun, hended, hW, hsame⟩ := X11.leave (v := some (.int (1 : Int32))) (fun hq => by rw [Bd.returns] at hq; cases hq)
      refine ⟨_, _, k12 _ ?_, hrun, hended, _, _, rfl, ?_, ⟨_, rfl⟩, hW, hsame.mono (by decide) (by decide)⟩
      · show Steps p.tables e below (T11.setTop (mkF m 130 #[.val (.int k), .val (.int (k &&& (3 : Int32))), .val (.ref wL), .val (.int (0 : Int32)), .val (.int (0 : Int32)), .val (.int (1 : Int32))] [(.int (1 : Int32))])) _
        exact retN X11 hx (t := .boolean) Bd.returns (by simp) (hb hby at_130) hr
      · show (fun (v : Option Value) (h : Heap) (L : List Loc) => v = some (.int (1 : Int32)) ∧ Fr n0 L) _ T11.heap _
        rw [hh11]
        dsimp only
        exact ⟨rfl, N11⟩
    · have k13 : ∀ tt, Steps p.tables e below (s₁.setTop (mkF m 33 #[.val (.int k), .val (.int (k &&& (3 : Int32))), .unset, .unset, .unset, .unset] [(.int (2 : Int32)), (.int (k &&& (3 : Int32)))])) tt → Steps p.tables e below (s₁.setTop (entryFrame m #[(.int k)] maxLocals)) tt := by
        intro tt kk
        refine k7 tt ?_
        show Steps p.tables e below (s₁.setTop (mkF m 19 #[.val (.int k), .val (.int (k &&& (3 : Int32))), .unset, .unset, .unset, .unset] [(.int (1 : Int32)), (.int (k &&& (3 : Int32)))])) tt
        refine XS.icmpYes X0.here hx rfl (pc0 := 19) (pc' := 31) rfl (hb hby at_19) rfl (feq (c19_8 : ¬ ((k &&& (3 : Int32)) = (1 : Int32)))).2 (by decide) (by decide) ?_
        show Steps p.tables e below (s₁.setTop (mkF m 31 #[.val (.int k), .val (.int (k &&& (3 : Int32))), .unset, .unset, .unset, .unset] [])) tt
        refine XS.iloadN X0.here hx rfl (hb hby at_31) rfl ?_
        show Steps p.tables e below (s₁.setTop (mkF m 32 #[.val (.int k), .val (.int (k &&& (3 : Int32))), .unset, .unset, .unset, .unset] [(.int (k &&& (3 : Int32)))])) tt
        refine XS.iconst X0.here hx rfl (hb hby at_32) ?_
        exact kk
      by_cases c33_14 : (k &&& (3 : Int32)) = (2 : Int32)
      · obtain ⟨T15, X15, e15, st15⟩ := getS2 X0 hx hZ hown (host := "") (Or.inl (hw _ (List.mem_of_getElem? (i := 20) rfl))) Via.refl e0 S_wB (g := (mkF m 36 #[.val (.int k), .val (.int (k &&& (3 : Int32))), .unset, .unset, .unset, .unset] [])) rfl (hb hby at_36)
        obtain ⟨cq16, kq16, q16a, q16b, q16c⟩ := isOf hZ e15 E_wB
        obtain ⟨_, _, ⟨T16, L16, ka16, na16⟩, -, X16, ⟨Lc16, hQ16, l16, y16, z16⟩, st16⟩ := X15.virtualBack hx (y := (⟨"com/example/urd/urd/policy/Namespaces$Binding", "standsForGlobal", "()Z"⟩ : MethodName)) (z := (⟨"com/example/urd/urd/policy/Namespaces$Binding", "standsForGlobal", "()Z"⟩ : MethodName)) hown (mvT hZ (hw _ (List.mem_of_getElem? (i := 3) rfl))) (mvT hZ (hw _ (List.mem_of_getElem? (i := 4) rfl))) (notFace_of_selects (args := #[]) (mvT hZ (hw _ (List.mem_of_getElem? (i := 6) rfl)))) (mvT hZ (hw _ (List.mem_of_getElem? (i := 6) rfl))) (mvT hZ (hw _ (List.mem_of_getElem? (i := 5) rfl))) (by decide) (backOf (W := 0) (own_rmG l Z a0 hw [] wB wG wB h0 n0 Z0 S_wG S_wB) hZ (hw _ (List.mem_of_getElem? (i := 7) rfl)) (hw _ (List.mem_of_getElem? (i := 1) rfl)) (by decide) (by decide)) q16a q16c (g := (mkF m 52 #[.val (.int k), .val (.int (k &&& (3 : Int32))), .val (.ref wB), .val (.int (1 : Int32)), .unset, .unset] [(.ref wB)])) rfl (by rw [hml]; rfl) (Steps.refl _) (argsL := []) (rest := []) (lenOf own_pd___Z rfl) rfl (by show 2 * 0 + _ ≤ _; exact Nat.le_of_eq rfl) (hb hby at_52) (fun _ _ => ⟨rfl, e15, (by decide : 0 + 0 ≤ _), (by decide : 0 + 0 ≤ _)⟩)
        dsimp only [Pt.U, Pt.locs, Pt.cells, Pt.slots] at X16 l16 y16 z16 st16 hQ16
        subst l16 y16 z16
        obtain ⟨hv16, Nq16, hh16⟩ := hQ16
        have N16 := Fr.app N0 Nq16
        rw [show own_is wB wG wB = (1 : Int32) by simp [own_is, nGL, nGB, nLG, nLB, nNG, nNL, nNB]] at hv16
        subst hv16
        obtain ⟨cq17, kq17, q17a, q17b, q17c⟩ := isOf hZ hh16 E_wB
        obtain ⟨_, _, ⟨T17, L17, ka17, na17⟩, -, X17, ⟨Lc17, hQ17, l17, y17, z17⟩, st17⟩ := X16.virtualBack hx (y := (⟨"com/example/urd/urd/policy/Namespaces$Binding", "standsForLocal", "()Z"⟩ : MethodName)) (z := (⟨"com/example/urd/urd/policy/Namespaces$Binding", "standsForLocal", "()Z"⟩ : MethodName)) hown (mvT hZ (hw _ (List.mem_of_getElem? (i := 9) rfl))) (mvT hZ (hw _ (List.mem_of_getElem? (i := 10) rfl))) (notFace_of_selects (args := #[]) (mvT hZ (hw _ (List.mem_of_getElem? (i := 12) rfl)))) (mvT hZ (hw _ (List.mem_of_getElem? (i := 12) rfl))) (mvT hZ (hw _ (List.mem_of_getElem? (i := 11) rfl))) (by decide) (backOf (W := 0) (own_rmL l Z a0 hw [] wB wL wB h0 n0 Z0 S_wL S_wB) hZ (hw _ (List.mem_of_getElem? (i := 13) rfl)) (hw _ (List.mem_of_getElem? (i := 1) rfl)) (by decide) (by decide)) q17a q17c (g := (mkF m 58 #[.val (.int k), .val (.int (k &&& (3 : Int32))), .val (.ref wB), .val (.int (1 : Int32)), .val (.int (1 : Int32)), .unset] [(.ref wB)])) rfl (by rw [hml]; rfl) (Steps.refl _) (argsL := []) (rest := []) (lenOf own_pd___Z rfl) rfl (by show 2 * 0 + _ ≤ _; exact Nat.le_of_eq rfl) (hb hby at_58) (fun _ _ => ⟨rfl, hh16, (by decide : 0 + 0 ≤ _), (by decide : 0 + 0 ≤ _)⟩)
        dsimp only [Pt.U, Pt.locs, Pt.cells, Pt.slots] at X17 l17 y17 z17 st17 hQ17
        subst l17 y17 z17
        obtain ⟨hv17, Nq17, hh17⟩ := hQ17
        have N17 := Fr.app N16 Nq17
        rw [show own_is wB wL wB = (1 : Int32) by simp [own_is, nGL, nGB, nLG, nLB, nNG, nNL, nNB]] at hv17
        subst hv17
        have k18 : ∀ tt, Steps p.tables e below (T17.setTop (mkF m 130 #[.val (.int k), .val (.int (k &&& (3 : Int32))), .val (.ref wB), .val (.int (1 : Int32)), .val (.int (1 : Int32)), .val (.int (1 : Int32))] [(.int (1 : Int32))])) tt → Steps p.tables e below (s₁.setTop (entryFrame m #[(.int k)] maxLocals)) tt := by
          intro tt kk
          refine k13 tt ?_
          show Steps p.tables e below (s₁.setTop (mkF m 33 #[.val (.int k), .val (.int (k &&& (3 : Int32))), .unset, .unset, .unset, .unset] [(.int (2 : Int32)), (.int (k &&& (3 : Int32)))])) tt
          refine XS.icmpNo X0.here hx rfl (hb hby at_33) rfl (teq (c33_14 : (k &&& (3 : Int32)) = (2 : Int32))).2 ?_
          show Steps p.tables e below (s₁.setTop (mkF m 36 #[.val (.int k), .val (.int (k &&& (3 : Int32))), .unset, .unset, .unset, .unset] [])) tt
          refine st15 _ ?_
          show Steps p.tables e below (T15.setTop (mkF m 39 #[.val (.int k), .val (.int (k &&& (3 : Int32))), .unset, .unset, .unset, .unset] [(.ref wB)])) tt
          refine XS.astoreN X15.here hx rfl (hb hby at_39) rfl rfl (l' := #[.val (.int k), .val (.int (k &&& (3 : Int32))), .val (.ref wB), .unset, .unset, .unset]) rfl ?_
          show Steps p.tables e below (T15.setTop (mkF m 40 #[.val (.int k), .val (.int (k &&& (3 : Int32))), .val (.ref wB), .unset, .unset, .unset] [])) tt
          refine XS.iconst X15.here hx rfl (hb hby at_40) ?_
          show Steps p.tables e below (T15.setTop (mkF m 41 #[.val (.int k), .val (.int (k &&& (3 : Int32))), .val (.ref wB), .unset, .unset, .unset] [(.int (1 : Int32))])) tt
          refine XS.istoreN X15.here hx rfl (hb hby at_41) rfl (l' := #[.val (.int k), .val (.int (k &&& (3 : Int32))), .val (.ref wB), .val (.int (1 : Int32)), .unset, .unset]) rfl ?_
          show Steps p.tables e below (T15.setTop (mkF m 42 #[.val (.int k), .val (.int (k &&& (3 : Int32))), .val (.ref wB), .val (.int (1 : Int32)), .unset, .unset] [])) tt
          refine XS.goto X15.here hx rfl (pc0 := 42) (pc' := 51) rfl (hb hby at_42) (by decide) (by decide) ?_
          show Steps p.tables e below (T15.setTop (mkF m 51 #[.val (.int k), .val (.int (k &&& (3 : Int32))), .val (.ref wB), .val (.int (1 : Int32)), .unset, .unset] [])) tt
          refine XS.aloadN X15.here hx rfl (hb hby at_51) rfl rfl ?_
          show Steps p.tables e below (T15.setTop (mkF m 52 #[.val (.int k), .val (.int (k &&& (3 : Int32))), .val (.ref wB), .val (.int (1 : Int32)), .unset, .unset] [(.ref wB)])) tt
          refine st16.trans ?_
          show Steps p.tables e below (T16.setTop (mkF m 55 #[.val (.int k), .val (.int (k &&& (3 : Int32))), .val (.ref wB), .val (.int (1 : Int32)), .unset, .unset] [(.int (1 : Int32))])) tt
          refine XS.istore X16.here hx rfl (hb hby at_55) rfl (l' := #[.val (.int k), .val (.int (k &&& (3 : Int32))), .val (.ref wB), .val (.int (1 : Int32)), .val (.int (1 : Int32)), .unset]) rfl ?_
          show Steps p.tables e below (T16.setTop (mkF m 57 #[.val (.int k), .val (.int (k &&& (3 : Int32))), .val (.ref wB), .val (.int (1 : Int32)), .val (.int (1 : Int32)), .unset] [])) tt
          refine XS.aloadN X16.here hx rfl (hb hby at_57) rfl rfl ?_
          show Steps p.tables e below (T16.setTop (mkF m 58 #[.val (.int k), .val (.int (k &&& (3 : Int32))), .val (.ref wB), .val (.int (1 : Int32)), .val (.int (1 : Int32)), .unset] [(.ref wB)])) tt
          refine st17.trans ?_
          show Steps p.tables e below (T17.setTop (mkF m 61 #[.val (.int k), .val (.int (k &&& (3 : Int32))), .val (.ref wB), .val (.int (1 : Int32)), .val (.int (1 : Int32)), .unset] [(.int (1 : Int32))])) tt
          refine XS.istore X17.here hx rfl (hb hby at_61) rfl (l' := #[.val (.int k), .val (.int (k &&& (3 : Int32))), .val (.ref wB), .val (.int (1 : Int32)), .val (.int (1 : Int32)), .val (.int (1 : Int32))]) rfl ?_
          show Steps p.tables e below (T17.setTop (mkF m 63 #[.val (.int k), .val (.int (k &&& (3 : Int32))), .val (.ref wB), .val (.int (1 : Int32)), .val (.int (1 : Int32)), .val (.int (1 : Int32))] [])) tt
          refine XS.iload X17.here hx rfl (hb hby at_63) rfl ?_
          show Steps p.tables e below (T17.setTop (mkF m 65 #[.val (.int k), .val (.int (k &&& (3 : Int32))), .val (.ref wB), .val (.int (1 : Int32)), .val (.int (1 : Int32)), .val (.int (1 : Int32))] [(.int (1 : Int32))])) tt
          refine XS.iloadN X17.here hx rfl (hb hby at_65) rfl ?_
          show Steps p.tables e below (T17.setTop (mkF m 66 #[.val (.int k), .val (.int (k &&& (3 : Int32))), .val (.ref wB), .val (.int (1 : Int32)), .val (.int (1 : Int32)), .val (.int (1 : Int32))] [(.int (1 : Int32)), (.int (1 : Int32))])) tt
          refine XS.icmpNo X17.here hx rfl (hb hby at_66) rfl (teq (by decide : (1 : Int32) = (1 : Int32))).2 ?_
          show Steps p.tables e below (T17.setTop (mkF m 69 #[.val (.int k), .val (.int (k &&& (3 : Int32))), .val (.ref wB), .val (.int (1 : Int32)), .val (.int (1 : Int32)), .val (.int (1 : Int32))] [])) tt
          refine XS.iload X17.here hx rfl (hb hby at_69) rfl ?_
          show Steps p.tables e below (T17.setTop (mkF m 71 #[.val (.int k), .val (.int (k &&& (3 : Int32))), .val (.ref wB), .val (.int (1 : Int32)), .val (.int (1 : Int32)), .val (.int (1 : Int32))] [(.int (1 : Int32))])) tt
          refine XS.ifNo X17.here hx rfl (hb hby at_71) rfl ((if0 _ _).trans (feq (by decide : ¬ ((1 : Int32) = (0 : Int32)))).1) ?_
          show Steps p.tables e below (T17.setTop (mkF m 74 #[.val (.int k), .val (.int (k &&& (3 : Int32))), .val (.ref wB), .val (.int (1 : Int32)), .val (.int (1 : Int32)), .val (.int (1 : Int32))] [])) tt
          refine XS.iload X17.here hx rfl (hb hby at_74) rfl ?_
          show Steps p.tables e below (T17.setTop (mkF m 76 #[.val (.int k), .val (.int (k &&& (3 : Int32))), .val (.ref wB), .val (.int (1 : Int32)), .val (.int (1 : Int32)), .val (.int (1 : Int32))] [(.int (1 : Int32))])) tt
          refine XS.ifNo X17.here hx rfl (hb hby at_76) rfl ((if0 _ _).trans (feq (by decide : ¬ ((1 : Int32) = (0 : Int32)))).1) ?_
          show Steps p.tables e below (T17.setTop (mkF m 79 #[.val (.int k), .val (.int (k &&& (3 : Int32))), .val (.ref wB), .val (.int (1 : Int32)), .val (.int (1 : Int32)), .val (.int (1 : Int32))] [])) tt
          refine XS.iconst X17.here hx rfl (hb hby at_79) ?_
          show Steps p.tables e below (T17.setTop (mkF m 80 #[.val (.int k), .val (.int (k &&& (3 : Int32))), .val (.ref wB), .val (.int (1 : Int32)), .val (.int (1 : Int32)), .val (.int (1 : Int32))] [(.int (1 : Int32))])) tt
          refine XS.goto X17.here hx rfl (pc0 := 80) (pc' := 84) rfl (hb hby at_80) (by decide) (by decide) ?_
          show Steps p.tables e below (T17.setTop (mkF m 84 #[.val (.int k), .val (.int (k &&& (3 : Int32))), .val (.ref wB), .val (.int (1 : Int32)), .val (.int (1 : Int32)), .val (.int (1 : Int32))] [(.int (1 : Int32))])) tt
          refine XS.iloadN X17.here hx rfl (hb hby at_84) rfl ?_
          show Steps p.tables e below (T17.setTop (mkF m 85 #[.val (.int k), .val (.int (k &&& (3 : Int32))), .val (.ref wB), .val (.int (1 : Int32)), .val (.int (1 : Int32)), .val (.int (1 : Int32))] [(.int (k &&& (3 : Int32))), (.int (1 : Int32))])) tt
          refine XS.iconst X17.here hx rfl (hb hby at_85) ?_
          show Steps p.tables e below (T17.setTop (mkF m 86 #[.val (.int k), .val (.int (k &&& (3 : Int32))), .val (.ref wB), .val (.int (1 : Int32)), .val (.int (1 : Int32)), .val (.int (1 : Int32))] [(.int (2 : Int32)), (.int (k &&& (3 : Int32))), (.int (1 : Int32))])) tt
          refine XS.icmpNo X17.here hx rfl (hb hby at_86) rfl (teq (c33_14 : (k &&& (3 : Int32)) = (2 : Int32))).2 ?_
          show Steps p.tables e below (T17.setTop (mkF m 89 #[.val (.int k), .val (.int (k &&& (3 : Int32))), .val (.ref wB), .val (.int (1 : Int32)), .val (.int (1 : Int32)), .val (.int (1 : Int32))] [(.int (1 : Int32))])) tt
          refine XS.iconst X17.here hx rfl (hb hby at_89) ?_
          show Steps p.tables e below (T17.setTop (mkF m 90 #[.val (.int k), .val (.int (k &&& (3 : Int32))), .val (.ref wB), .val (.int (1 : Int32)), .val (.int (1 : Int32)), .val (.int (1 : Int32))] [(.int (1 : Int32)), (.int (1 : Int32))])) tt
          refine XS.goto X17.here hx rfl (pc0 := 90) (pc' := 94) rfl (hb hby at_90) (by decide) (by decide) ?_
          show Steps p.tables e below (T17.setTop (mkF m 94 #[.val (.int k), .val (.int (k &&& (3 : Int32))), .val (.ref wB), .val (.int (1 : Int32)), .val (.int (1 : Int32)), .val (.int (1 : Int32))] [(.int (1 : Int32)), (.int (1 : Int32))])) tt
          refine XS.icmpNo X17.here hx rfl (hb hby at_94) rfl (teq (by decide : (1 : Int32) = (1 : Int32))).2 ?_
          show Steps p.tables e below (T17.setTop (mkF m 97 #[.val (.int k), .val (.int (k &&& (3 : Int32))), .val (.ref wB), .val (.int (1 : Int32)), .val (.int (1 : Int32)), .val (.int (1 : Int32))] [])) tt
          refine XS.iload X17.here hx rfl (hb hby at_97) rfl ?_
          show Steps p.tables e below (T17.setTop (mkF m 99 #[.val (.int k), .val (.int (k &&& (3 : Int32))), .val (.ref wB), .val (.int (1 : Int32)), .val (.int (1 : Int32)), .val (.int (1 : Int32))] [(.int (1 : Int32))])) tt
          refine XS.ifYes X17.here hx rfl (pc0 := 99) (pc' := 111) rfl (hb hby at_99) rfl ((if0 _ _).trans (feq (by decide : ¬ ((1 : Int32) = (0 : Int32)))).2) (by decide) (by decide) ?_
          show Steps p.tables e below (T17.setTop (mkF m 111 #[.val (.int k), .val (.int (k &&& (3 : Int32))), .val (.ref wB), .val (.int (1 : Int32)), .val (.int (1 : Int32)), .val (.int (1 : Int32))] [])) tt
          refine XS.iconst X17.here hx rfl (hb hby at_111) ?_
          show Steps p.tables e below (T17.setTop (mkF m 112 #[.val (.int k), .val (.int (k &&& (3 : Int32))), .val (.ref wB), .val (.int (1 : Int32)), .val (.int (1 : Int32)), .val (.int (1 : Int32))] [(.int (0 : Int32))])) tt
          refine XS.iloadN X17.here hx rfl (hb hby at_112) rfl ?_
          show Steps p.tables e below (T17.setTop (mkF m 113 #[.val (.int k), .val (.int (k &&& (3 : Int32))), .val (.ref wB), .val (.int (1 : Int32)), .val (.int (1 : Int32)), .val (.int (1 : Int32))] [(.int (k &&& (3 : Int32))), (.int (0 : Int32))])) tt
          refine XS.iconst X17.here hx rfl (hb hby at_113) ?_
          show Steps p.tables e below (T17.setTop (mkF m 114 #[.val (.int k), .val (.int (k &&& (3 : Int32))), .val (.ref wB), .val (.int (1 : Int32)), .val (.int (1 : Int32)), .val (.int (1 : Int32))] [(.int (3 : Int32)), (.int (k &&& (3 : Int32))), (.int (0 : Int32))])) tt
          refine XS.icmpYes X17.here hx rfl (pc0 := 114) (pc' := 121) rfl (hb hby at_114) rfl (feq (by rw [c33_14]; decide : ¬ ((k &&& (3 : Int32)) = (3 : Int32)))).2 (by decide) (by decide) ?_
          show Steps p.tables e below (T17.setTop (mkF m 121 #[.val (.int k), .val (.int (k &&& (3 : Int32))), .val (.ref wB), .val (.int (1 : Int32)), .val (.int (1 : Int32)), .val (.int (1 : Int32))] [(.int (0 : Int32))])) tt
          refine XS.iconst X17.here hx rfl (hb hby at_121) ?_
          show Steps p.tables e below (T17.setTop (mkF m 122 #[.val (.int k), .val (.int (k &&& (3 : Int32))), .val (.ref wB), .val (.int (1 : Int32)), .val (.int (1 : Int32)), .val (.int (1 : Int32))] [(.int (0 : Int32)), (.int (0 : Int32))])) tt
          refine XS.icmpNo X17.here hx rfl (hb hby at_122) rfl (teq (by decide : (0 : Int32) = (0 : Int32))).2 ?_
          show Steps p.tables e below (T17.setTop (mkF m 125 #[.val (.int k), .val (.int (k &&& (3 : Int32))), .val (.ref wB), .val (.int (1 : Int32)), .val (.int (1 : Int32)), .val (.int (1 : Int32))] [])) tt
          refine XS.iconst X17.here hx rfl (hb hby at_125) ?_
          show Steps p.tables e below (T17.setTop (mkF m 126 #[.val (.int k), .val (.int (k &&& (3 : Int32))), .val (.ref wB), .val (.int (1 : Int32)), .val (.int (1 : Int32)), .val (.int (1 : Int32))] [(.int (1 : Int32))])) tt
          refine XS.goto X17.here hx rfl (pc0 := 126) (pc' := 130) rfl (hb hby at_126) (by decide) (by decide) ?_
          exact kk
        obtain ⟨fs, hr, hrun, hended, hW, hsame⟩ := X17.leave (v := some (.int (1 : Int32))) (fun hq => by rw [Bd.returns] at hq; cases hq)
        refine ⟨_, _, k18 _ ?_, hrun, hended, _, _, rfl, ?_, ⟨_, rfl⟩, hW, hsame.mono (by decide) (by decide)⟩
        · show Steps p.tables e below (T17.setTop (mkF m 130 #[.val (.int k), .val (.int (k &&& (3 : Int32))), .val (.ref wB), .val (.int (1 : Int32)), .val (.int (1 : Int32)), .val (.int (1 : Int32))] [(.int (1 : Int32))])) _
          exact retN X17 hx (t := .boolean) Bd.returns (by simp) (hb hby at_130) hr
        · show (fun (v : Option Value) (h : Heap) (L : List Loc) => v = some (.int (1 : Int32)) ∧ Fr n0 L) _ T17.heap _
          rw [hh17]
          dsimp only
          exact ⟨rfl, N17⟩
      · obtain ⟨T19, X19, e19, st19⟩ := getS2 X0 hx hZ hown (host := "") (Or.inl (hw _ (List.mem_of_getElem? (i := 18) rfl))) Via.refl e0 S_wN (g := (mkF m 45 #[.val (.int k), .val (.int (k &&& (3 : Int32))), .unset, .unset, .unset, .unset] [])) rfl (hb hby at_45)
        obtain ⟨cq20, kq20, q20a, q20b, q20c⟩ := isOf hZ e19 E_wN
        obtain ⟨_, _, ⟨T20, L20, ka20, na20⟩, -, X20, ⟨Lc20, hQ20, l20, y20, z20⟩, st20⟩ := X19.virtualBack hx (y := (⟨"com/example/urd/urd/policy/Namespaces$Binding", "standsForGlobal", "()Z"⟩ : MethodName)) (z := (⟨"com/example/urd/urd/policy/Namespaces$Binding", "standsForGlobal", "()Z"⟩ : MethodName)) hown (mvT hZ (hw _ (List.mem_of_getElem? (i := 3) rfl))) (mvT hZ (hw _ (List.mem_of_getElem? (i := 4) rfl))) (notFace_of_selects (args := #[]) (mvT hZ (hw _ (List.mem_of_getElem? (i := 6) rfl)))) (mvT hZ (hw _ (List.mem_of_getElem? (i := 6) rfl))) (mvT hZ (hw _ (List.mem_of_getElem? (i := 5) rfl))) (by decide) (backOf (W := 0) (own_rmG l Z a0 hw [] wN wG wB h0 n0 Z0 S_wG S_wB) hZ (hw _ (List.mem_of_getElem? (i := 7) rfl)) (hw _ (List.mem_of_getElem? (i := 1) rfl)) (by decide) (by decide)) q20a q20c (g := (mkF m 52 #[.val (.int k), .val (.int (k &&& (3 : Int32))), .val (.ref wN), .val (.int (0 : Int32)), .unset, .unset] [(.ref wN)])) rfl (by rw [hml]; rfl) (Steps.refl _) (argsL := []) (rest := []) (lenOf own_pd___Z rfl) rfl (by show 2 * 0 + _ ≤ _; exact Nat.le_of_eq rfl) (hb hby at_52) (fun _ _ => ⟨rfl, e19, (by decide : 0 + 0 ≤ _), (by decide : 0 + 0 ≤ _)⟩)
        dsimp only [Pt.U, Pt.locs, Pt.cells, Pt.slots] at X20 l20 y20 z20 st20 hQ20
        subst l20 y20 z20
        obtain ⟨hv20, Nq20, hh20⟩ := hQ20
        have N20 := Fr.app N0 Nq20
        rw [show own_is wN wG wB = (0 : Int32) by simp [own_is, nGL, nGB, nLG, nLB, nNG, nNL, nNB]] at hv20
        subst hv20
        obtain ⟨cq21, kq21, q21a, q21b, q21c⟩ := isOf hZ hh20 E_wN
        obtain ⟨_, _, ⟨T21, L21, ka21, na21⟩, -, X21, ⟨Lc21, hQ21, l21, y21, z21⟩, st21⟩ := X20.virtualBack hx (y := (⟨"com/example/urd/urd/policy/Namespaces$Binding", "standsForLocal", "()Z"⟩ : MethodName)) (z := (⟨"com/example/urd/urd/policy/Namespaces$Binding", "standsForLocal", "()Z"⟩ : MethodName)) hown (mvT hZ (hw _ (List.mem_of_getElem? (i := 9) rfl))) (mvT hZ (hw _ (List.mem_of_getElem? (i := 10) rfl))) (notFace_of_selects (args := #[]) (mvT hZ (hw _ (List.mem_of_getElem? (i := 12) rfl)))) (mvT hZ (hw _ (List.mem_of_getElem? (i := 12) rfl))) (mvT hZ (hw _ (List.mem_of_getElem? (i := 11) rfl))) (by decide) (backOf (W := 0) (own_rmL l Z a0 hw [] wN wL wB h0 n0 Z0 S_wL S_wB) hZ (hw _ (List.mem_of_getElem? (i := 13) rfl)) (hw _ (List.mem_of_getElem? (i := 1) rfl)) (by decide) (by decide)) q21a q21c (g := (mkF m 58 #[.val (.int k), .val (.int (k &&& (3 : Int32))), .val (.ref wN), .val (.int (0 : Int32)), .val (.int (0 : Int32)), .unset] [(.ref wN)])) rfl (by rw [hml]; rfl) (Steps.refl _) (argsL := []) (rest := []) (lenOf own_pd___Z rfl) rfl (by show 2 * 0 + _ ≤ _; exact Nat.le_of_eq rfl) (hb hby at_58) (fun _ _ => ⟨rfl, hh20, (by decide : 0 + 0 ≤ _), (by decide : 0 + 0 ≤ _)⟩)
        dsimp only [Pt.U, Pt.locs, Pt.cells, Pt.slots] at X21 l21 y21 z21 st21 hQ21
        subst l21 y21 z21
        obtain ⟨hv21, Nq21, hh21⟩ := hQ21
        have N21 := Fr.app N20 Nq21
        rw [show own_is wN wL wB = (0 : Int32) by simp [own_is, nGL, nGB, nLG, nLB, nNG, nNL, nNB]] at hv21
        subst hv21
        have k22 : ∀ tt, Steps p.tables e below (T21.setTop (mkF m 130 #[.val (.int k), .val (.int (k &&& (3 : Int32))), .val (.ref wN), .val (.int (0 : Int32)), .val (.int (0 : Int32)), .val (.int (0 : Int32))] [(.int (1 : Int32))])) tt → Steps p.tables e below (s₁.setTop (entryFrame m #[(.int k)] maxLocals)) tt := by
          intro tt kk
          refine k13 tt ?_
          show Steps p.tables e below (s₁.setTop (mkF m 33 #[.val (.int k), .val (.int (k &&& (3 : Int32))), .unset, .unset, .unset, .unset] [(.int (2 : Int32)), (.int (k &&& (3 : Int32)))])) tt
          refine XS.icmpYes X0.here hx rfl (pc0 := 33) (pc' := 45) rfl (hb hby at_33) rfl (feq (c33_14 : ¬ ((k &&& (3 : Int32)) = (2 : Int32)))).2 (by decide) (by decide) ?_
          show Steps p.tables e below (s₁.setTop (mkF m 45 #[.val (.int k), .val (.int (k &&& (3 : Int32))), .unset, .unset, .unset, .unset] [])) tt
          refine st19 _ ?_
          show Steps p.tables e below (T19.setTop (mkF m 48 #[.val (.int k), .val (.int (k &&& (3 : Int32))), .unset, .unset, .unset, .unset] [(.ref wN)])) tt
          refine XS.astoreN X19.here hx rfl (hb hby at_48) rfl rfl (l' := #[.val (.int k), .val (.int (k &&& (3 : Int32))), .val (.ref wN), .unset, .unset, .unset]) rfl ?_
          show Steps p.tables e below (T19.setTop (mkF m 49 #[.val (.int k), .val (.int (k &&& (3 : Int32))), .val (.ref wN), .unset, .unset, .unset] [])) tt
          refine XS.iconst X19.here hx rfl (hb hby at_49) ?_
          show Steps p.tables e below (T19.setTop (mkF m 50 #[.val (.int k), .val (.int (k &&& (3 : Int32))), .val (.ref wN), .unset, .unset, .unset] [(.int (0 : Int32))])) tt
          refine XS.istoreN X19.here hx rfl (hb hby at_50) rfl (l' := #[.val (.int k), .val (.int (k &&& (3 : Int32))), .val (.ref wN), .val (.int (0 : Int32)), .unset, .unset]) rfl ?_
          show Steps p.tables e below (T19.setTop (mkF m 51 #[.val (.int k), .val (.int (k &&& (3 : Int32))), .val (.ref wN), .val (.int (0 : Int32)), .unset, .unset] [])) tt
          refine XS.aloadN X19.here hx rfl (hb hby at_51) rfl rfl ?_
          show Steps p.tables e below (T19.setTop (mkF m 52 #[.val (.int k), .val (.int (k &&& (3 : Int32))), .val (.ref wN), .val (.int (0 : Int32)), .unset, .unset] [(.ref wN)])) tt
          refine st20.trans ?_
          show Steps p.tables e below (T20.setTop (mkF m 55 #[.val (.int k), .val (.int (k &&& (3 : Int32))), .val (.ref wN), .val (.int (0 : Int32)), .unset, .unset] [(.int (0 : Int32))])) tt
          refine XS.istore X20.here hx rfl (hb hby at_55) rfl (l' := #[.val (.int k), .val (.int (k &&& (3 : Int32))), .val (.ref wN), .val (.int (0 : Int32)), .val (.int (0 : Int32)), .unset]) rfl ?_
          show Steps p.tables e below (T20.setTop (mkF m 57 #[.val (.int k), .val (.int (k &&& (3 : Int32))), .val (.ref wN), .val (.int (0 : Int32)), .val (.int (0 : Int32)), .unset] [])) tt
          refine XS.aloadN X20.here hx rfl (hb hby at_57) rfl rfl ?_
          show Steps p.tables e below (T20.setTop (mkF m 58 #[.val (.int k), .val (.int (k &&& (3 : Int32))), .val (.ref wN), .val (.int (0 : Int32)), .val (.int (0 : Int32)), .unset] [(.ref wN)])) tt
          refine st21.trans ?_
          show Steps p.tables e below (T21.setTop (mkF m 61 #[.val (.int k), .val (.int (k &&& (3 : Int32))), .val (.ref wN), .val (.int (0 : Int32)), .val (.int (0 : Int32)), .unset] [(.int (0 : Int32))])) tt
          refine XS.istore X21.here hx rfl (hb hby at_61) rfl (l' := #[.val (.int k), .val (.int (k &&& (3 : Int32))), .val (.ref wN), .val (.int (0 : Int32)), .val (.int (0 : Int32)), .val (.int (0 : Int32))]) rfl ?_
          show Steps p.tables e below (T21.setTop (mkF m 63 #[.val (.int k), .val (.int (k &&& (3 : Int32))), .val (.ref wN), .val (.int (0 : Int32)), .val (.int (0 : Int32)), .val (.int (0 : Int32))] [])) tt
          refine XS.iload X21.here hx rfl (hb hby at_63) rfl ?_
          show Steps p.tables e below (T21.setTop (mkF m 65 #[.val (.int k), .val (.int (k &&& (3 : Int32))), .val (.ref wN), .val (.int (0 : Int32)), .val (.int (0 : Int32)), .val (.int (0 : Int32))] [(.int (0 : Int32))])) tt
          refine XS.iloadN X21.here hx rfl (hb hby at_65) rfl ?_
          show Steps p.tables e below (T21.setTop (mkF m 66 #[.val (.int k), .val (.int (k &&& (3 : Int32))), .val (.ref wN), .val (.int (0 : Int32)), .val (.int (0 : Int32)), .val (.int (0 : Int32))] [(.int (0 : Int32)), (.int (0 : Int32))])) tt
          refine XS.icmpNo X21.here hx rfl (hb hby at_66) rfl (teq (by decide : (0 : Int32) = (0 : Int32))).2 ?_
          show Steps p.tables e below (T21.setTop (mkF m 69 #[.val (.int k), .val (.int (k &&& (3 : Int32))), .val (.ref wN), .val (.int (0 : Int32)), .val (.int (0 : Int32)), .val (.int (0 : Int32))] [])) tt
          refine XS.iload X21.here hx rfl (hb hby at_69) rfl ?_
          show Steps p.tables e below (T21.setTop (mkF m 71 #[.val (.int k), .val (.int (k &&& (3 : Int32))), .val (.ref wN), .val (.int (0 : Int32)), .val (.int (0 : Int32)), .val (.int (0 : Int32))] [(.int (0 : Int32))])) tt
          refine XS.ifYes X21.here hx rfl (pc0 := 71) (pc' := 83) rfl (hb hby at_71) rfl ((if0 _ _).trans (teq (by decide : (0 : Int32) = (0 : Int32))).1) (by decide) (by decide) ?_
          show Steps p.tables e below (T21.setTop (mkF m 83 #[.val (.int k), .val (.int (k &&& (3 : Int32))), .val (.ref wN), .val (.int (0 : Int32)), .val (.int (0 : Int32)), .val (.int (0 : Int32))] [])) tt
          refine XS.iconst X21.here hx rfl (hb hby at_83) ?_
          show Steps p.tables e below (T21.setTop (mkF m 84 #[.val (.int k), .val (.int (k &&& (3 : Int32))), .val (.ref wN), .val (.int (0 : Int32)), .val (.int (0 : Int32)), .val (.int (0 : Int32))] [(.int (0 : Int32))])) tt
          refine XS.iloadN X21.here hx rfl (hb hby at_84) rfl ?_
          show Steps p.tables e below (T21.setTop (mkF m 85 #[.val (.int k), .val (.int (k &&& (3 : Int32))), .val (.ref wN), .val (.int (0 : Int32)), .val (.int (0 : Int32)), .val (.int (0 : Int32))] [(.int (k &&& (3 : Int32))), (.int (0 : Int32))])) tt
          refine XS.iconst X21.here hx rfl (hb hby at_85) ?_
          show Steps p.tables e below (T21.setTop (mkF m 86 #[.val (.int k), .val (.int (k &&& (3 : Int32))), .val (.ref wN), .val (.int (0 : Int32)), .val (.int (0 : Int32)), .val (.int (0 : Int32))] [(.int (2 : Int32)), (.int (k &&& (3 : Int32))), (.int (0 : Int32))])) tt
          refine XS.icmpYes X21.here hx rfl (pc0 := 86) (pc' := 93) rfl (hb hby at_86) rfl (feq (c33_14 : ¬ ((k &&& (3 : Int32)) = (2 : Int32)))).2 (by decide) (by decide) ?_
          show Steps p.tables e below (T21.setTop (mkF m 93 #[.val (.int k), .val (.int (k &&& (3 : Int32))), .val (.ref wN), .val (.int (0 : Int32)), .val (.int (0 : Int32)), .val (.int (0 : Int32))] [(.int (0 : Int32))])) tt
          refine XS.iconst X21.here hx rfl (hb hby at_93) ?_
          show Steps p.tables e below (T21.setTop (mkF m 94 #[.val (.int k), .val (.int (k &&& (3 : Int32))), .val (.ref wN), .val (.int (0 : Int32)), .val (.int (0 : Int32)), .val (.int (0 : Int32))] [(.int (0 : Int32)), (.int (0 : Int32))])) tt
          refine XS.icmpNo X21.here hx rfl (hb hby at_94) rfl (teq (by decide : (0 : Int32) = (0 : Int32))).2 ?_
          show Steps p.tables e below (T21.setTop (mkF m 97 #[.val (.int k), .val (.int (k &&& (3 : Int32))), .val (.ref wN), .val (.int (0 : Int32)), .val (.int (0 : Int32)), .val (.int (0 : Int32))] [])) tt
          refine XS.iload X21.here hx rfl (hb hby at_97) rfl ?_
          show Steps p.tables e below (T21.setTop (mkF m 99 #[.val (.int k), .val (.int (k &&& (3 : Int32))), .val (.ref wN), .val (.int (0 : Int32)), .val (.int (0 : Int32)), .val (.int (0 : Int32))] [(.int (0 : Int32))])) tt
          refine XS.ifNo X21.here hx rfl (hb hby at_99) rfl ((if0 _ _).trans (teq (by decide : (0 : Int32) = (0 : Int32))).2) ?_
          show Steps p.tables e below (T21.setTop (mkF m 102 #[.val (.int k), .val (.int (k &&& (3 : Int32))), .val (.ref wN), .val (.int (0 : Int32)), .val (.int (0 : Int32)), .val (.int (0 : Int32))] [])) tt
          refine XS.iload X21.here hx rfl (hb hby at_102) rfl ?_
          show Steps p.tables e below (T21.setTop (mkF m 104 #[.val (.int k), .val (.int (k &&& (3 : Int32))), .val (.ref wN), .val (.int (0 : Int32)), .val (.int (0 : Int32)), .val (.int (0 : Int32))] [(.int (0 : Int32))])) tt
          refine XS.ifNo X21.here hx rfl (hb hby at_104) rfl ((if0 _ _).trans (teq (by decide : (0 : Int32) = (0 : Int32))).2) ?_
          show Steps p.tables e below (T21.setTop (mkF m 107 #[.val (.int k), .val (.int (k &&& (3 : Int32))), .val (.ref wN), .val (.int (0 : Int32)), .val (.int (0 : Int32)), .val (.int (0 : Int32))] [])) tt
          refine XS.iconst X21.here hx rfl (hb hby at_107) ?_
          show Steps p.tables e below (T21.setTop (mkF m 108 #[.val (.int k), .val (.int (k &&& (3 : Int32))), .val (.ref wN), .val (.int (0 : Int32)), .val (.int (0 : Int32)), .val (.int (0 : Int32))] [(.int (1 : Int32))])) tt
          refine XS.goto X21.here hx rfl (pc0 := 108) (pc' := 112) rfl (hb hby at_108) (by decide) (by decide) ?_
          show Steps p.tables e below (T21.setTop (mkF m 112 #[.val (.int k), .val (.int (k &&& (3 : Int32))), .val (.ref wN), .val (.int (0 : Int32)), .val (.int (0 : Int32)), .val (.int (0 : Int32))] [(.int (1 : Int32))])) tt
          refine XS.iloadN X21.here hx rfl (hb hby at_112) rfl ?_
          show Steps p.tables e below (T21.setTop (mkF m 113 #[.val (.int k), .val (.int (k &&& (3 : Int32))), .val (.ref wN), .val (.int (0 : Int32)), .val (.int (0 : Int32)), .val (.int (0 : Int32))] [(.int (k &&& (3 : Int32))), (.int (1 : Int32))])) tt
          refine XS.iconst X21.here hx rfl (hb hby at_113) ?_
          show Steps p.tables e below (T21.setTop (mkF m 114 #[.val (.int k), .val (.int (k &&& (3 : Int32))), .val (.ref wN), .val (.int (0 : Int32)), .val (.int (0 : Int32)), .val (.int (0 : Int32))] [(.int (3 : Int32)), (.int (k &&& (3 : Int32))), (.int (1 : Int32))])) tt
          refine XS.icmpNo X21.here hx rfl (hb hby at_114) rfl (teq (own_3 k c5_2 c19_8 c33_14 : (k &&& (3 : Int32)) = (3 : Int32))).2 ?_
          show Steps p.tables e below (T21.setTop (mkF m 117 #[.val (.int k), .val (.int (k &&& (3 : Int32))), .val (.ref wN), .val (.int (0 : Int32)), .val (.int (0 : Int32)), .val (.int (0 : Int32))] [(.int (1 : Int32))])) tt
          refine XS.iconst X21.here hx rfl (hb hby at_117) ?_
          show Steps p.tables e below (T21.setTop (mkF m 118 #[.val (.int k), .val (.int (k &&& (3 : Int32))), .val (.ref wN), .val (.int (0 : Int32)), .val (.int (0 : Int32)), .val (.int (0 : Int32))] [(.int (1 : Int32)), (.int (1 : Int32))])) tt
          refine XS.goto X21.here hx rfl (pc0 := 118) (pc' := 122) rfl (hb hby at_118) (by decide) (by decide) ?_
          show Steps p.tables e below (T21.setTop (mkF m 122 #[.val (.int k), .val (.int (k &&& (3 : Int32))), .val (.ref wN), .val (.int (0 : Int32)), .val (.int (0 : Int32)), .val (.int (0 : Int32))] [(.int (1 : Int32)), (.int (1 : Int32))])) tt
          refine XS.icmpNo X21.here hx rfl (hb hby at_122) rfl (teq (by decide : (1 : Int32) = (1 : Int32))).2 ?_
          show Steps p.tables e below (T21.setTop (mkF m 125 #[.val (.int k), .val (.int (k &&& (3 : Int32))), .val (.ref wN), .val (.int (0 : Int32)), .val (.int (0 : Int32)), .val (.int (0 : Int32))] [])) tt
          refine XS.iconst X21.here hx rfl (hb hby at_125) ?_
          show Steps p.tables e below (T21.setTop (mkF m 126 #[.val (.int k), .val (.int (k &&& (3 : Int32))), .val (.ref wN), .val (.int (0 : Int32)), .val (.int (0 : Int32)), .val (.int (0 : Int32))] [(.int (1 : Int32))])) tt
          refine XS.goto X21.here hx rfl (pc0 := 126) (pc' := 130) rfl (hb hby at_126) (by decide) (by decide) ?_
          exact kk
        obtain ⟨fs, hr, hrun, hended, hW, hsame⟩ := X21.leave (v := some (.int (1 : Int32))) (fun hq => by rw [Bd.returns] at hq; cases hq)
        refine ⟨_, _, k22 _ ?_, hrun, hended, _, _, rfl, ?_, ⟨_, rfl⟩, hW, hsame.mono (by decide) (by decide)⟩
        · show Steps p.tables e below (T21.setTop (mkF m 130 #[.val (.int k), .val (.int (k &&& (3 : Int32))), .val (.ref wN), .val (.int (0 : Int32)), .val (.int (0 : Int32)), .val (.int (0 : Int32))] [(.int (1 : Int32))])) _
          exact retN X21 hx (t := .boolean) Bd.returns (by simp) (hb hby at_130) hr
        · show (fun (v : Option Value) (h : Heap) (L : List Loc) => v = some (.int (1 : Int32)) ∧ Fr n0 L) _ T21.heap _
          rw [hh21]
          dsimp only
          exact ⟨rfl, N21⟩
set_option maxRecDepth 65536 in
set_option maxHeartbeats 40000000 in
theorem comes_1 {Post : Tables → Env → Array Value → State → Outcome → State → Prop} (hpost : ∀ tb e args s v u, (limb_1_1.after args s (.returned v) u = true ∧ limb_1_2.after args s (.returned v) u = true ∧ True) → FrameEnd s (.returned v) u (Jvm.fieldLocs frame_1_writes args s ++ Jvm.arrayLocs frame_1_arrays args s ++ Jvm.staticLocs frame_1_statics s) 0 0 → Post tb e args s (.returned v) u) :
    ArmFor flags0 classFile x code maxLocals ret World_1 tables_1 room_1 Calls_1 rest_1 Pre_1 Post := by
  intro l hfl _ _ p e ha hc hk s m args below hf hA hF happ hP
  obtain ⟨hcalls, hrest, hpre⟩ := hP
  obtain ⟨-, -, -, hnamed, -, -, -, hat⟩ := (Spec.applies_iff hf).mp happ
  obtain ⟨hg, hn⟩ := and_e (Cond.before_iff.mp (show (Jvm.Cond.and given_1 narrow_1).before args s = true from hpre))
  obtain ⟨g1, g2⟩ := and_e hg
  obtain ⟨v0, rfl⟩ : ∃ v0 : Value, args = #[v0] := by
    have hs : args.size = 1 := by simpa [Cond.value, given_1] using g1
    obtain ⟨L⟩ := args
    match L, hs with
    | [v0], _ => exact ⟨v0, rfl⟩
  have hw := fun d (hd : d ∈ tables_1) => atoms_spec (ws := Jvm.Cond.code x code maxLocals ret :: tables_1) hat d (List.mem_cons_of_mem _ hd)
  have hfit : Fit s := fun {y c} hc i hi => by
    obtain ⟨ha, rfl⟩ := Array.getElem?_eq_some_iff.mp hc
    have q := List.all_eq_true.mp ((Array.all_eq_true_iff_forall_mem.mp hF) _ (Array.getElem_mem ha)) i (List.mem_range.mpr hi)
    simpa [Array.getElem?_eq_getElem hi] using q
  obtain ⟨i0, ei0⟩ := is_v g2
  obtain rfl : v0 = (.int i0) := Option.some.inj ei0
  obtain ⟨g3, g4⟩ := and_e hn
  obtain ⟨w_GLOBAL, ev_w_GLOBAL⟩ := exa_v g3
  have E_w_GLOBAL := Exa.start ev_w_GLOBAL g3
  obtain ⟨g5, g6⟩ := and_e g4
  obtain ⟨w_LOCAL, ev_w_LOCAL⟩ := exa_v g5
  have E_w_LOCAL := Exa.start ev_w_LOCAL g5
  obtain ⟨g7, g8⟩ := and_e g6
  obtain ⟨g9, g10⟩ := and_e g8
  obtain ⟨g11, g12⟩ := and_e g10
  obtain ⟨w_BOTH, ev_w_BOTH⟩ := exa_v g11
  have E_w_BOTH := Exa.start ev_w_BOTH g11
  obtain ⟨g13, g14⟩ := and_e g12
  obtain ⟨g15, g16⟩ := and_e g14
  obtain ⟨w_NONE, ev_w_NONE⟩ := exa_v g15
  have E_w_NONE := Exa.start ev_w_NONE g15
  have S_w_GLOBAL := Sta.start ev_w_GLOBAL (Or.inr ⟨(hw _ (List.mem_of_getElem? (i := 1) rfl)), (hw _ (List.mem_of_getElem? (i := 2) rfl))⟩)
  have S_w_LOCAL := Sta.start ev_w_LOCAL (Or.inr ⟨(hw _ (List.mem_of_getElem? (i := 1) rfl)), (hw _ (List.mem_of_getElem? (i := 15) rfl))⟩)
  have S_w_BOTH := Sta.start ev_w_BOTH (Or.inr ⟨(hw _ (List.mem_of_getElem? (i := 1) rfl)), (hw _ (List.mem_of_getElem? (i := 17) rfl))⟩)
  have S_w_NONE := Sta.start ev_w_NONE (Or.inr ⟨(hw _ (List.mem_of_getElem? (i := 1) rfl)), (hw _ (List.mem_of_getElem? (i := 19) rfl))⟩)
  have F_w_GLOBAL_ordinal := own_fld_int ev_w_GLOBAL g7
  have F_w_LOCAL_ordinal := own_fld_int ev_w_LOCAL g9
  have F_w_BOTH_ordinal := own_fld_int ev_w_BOTH g13
  have F_w_NONE_ordinal := own_fld_int ev_w_NONE g16
  obtain ⟨n, o, h1, h2, h3, _, L, rfl, ⟨rfl, N⟩, hq⟩ := own_rm0 l s _ hw tables_1 i0 w_GLOBAL w_LOCAL w_BOTH w_NONE s.heap s.heap.size (Nat.le_refl _) S_w_GLOBAL S_w_LOCAL S_w_BOTH S_w_NONE E_w_GLOBAL E_w_LOCAL E_w_BOTH E_w_NONE (Fld.ne F_w_GLOBAL_ordinal F_w_LOCAL_ordinal (by decide)) (Fld.ne F_w_GLOBAL_ordinal F_w_BOTH_ordinal (by decide)) (Fld.ne F_w_LOCAL_ordinal F_w_GLOBAL_ordinal (by decide)) (Fld.ne F_w_LOCAL_ordinal F_w_BOTH_ordinal (by decide)) (Fld.ne F_w_NONE_ordinal F_w_GLOBAL_ordinal (by decide)) (Fld.ne F_w_NONE_ordinal F_w_LOCAL_ordinal (by decide)) (Fld.ne F_w_NONE_ordinal F_w_BOTH_ordinal (by decide)) p e ha hc hk s m _ below hf ((Spec.applies_iff_loose hf).mp happ).1 ⟨rfl, State.Warmed39.refl s, rfl⟩ trivial
  refine ⟨n, _, h1, h2, h3, hpost _ _ _ _ _ _ ⟨Cond.after_iff.mpr rfl, Cond.after_iff.mpr (eq_i res_at (Term.int_eval (1)) rfl), trivial⟩ ⟨hq.1, hq.2.1, (hq.2.2.sift fun y hy => Or.inr (N y hy)).mono (by decide) (by decide)⟩⟩
theorem main_1_1 : Claimed_1_1 := comes_1 fun _ _ _ _ _ _ h hF => ⟨h.1, hF⟩
theorem main_1_2 : Claimed_1_2 := comes_1 fun _ _ _ _ _ _ h hF => ⟨h.2.1, hF⟩
end Jvm.Pilot.@@N@@
namespace Jvm.Pilot.@@N@@
open Jvm Jvm.ClassFile Sem Op Lib Jvm.Free Jvm.Stand Jvm.Pilot.@@N@@.Jvm.D
/-! MADE BY PROGRAM (witnessworld.py) out of the Statement's table words and the real class files: 12 classes; the members and pool entries that the words name. The judged class is class 1, her method 1. -/
namespace start1
open Jvm.ClassFile
def u (s : String) : CpInfo := .utf8 (stringToUtf16 s)
/-- a pool by its gaps: so many unusable entries, then the entry; so many at the end -/
def gap : Nat → List CpInfo → List CpInfo
  | 0, r => r
  | n + 1, r => .unusable :: gap n r
def poolList (es : List (Nat × CpInfo)) (last : Nat) : List CpInfo := es.foldr (fun e r => gap e.1 (e.2 :: r)) (gap last [])
def pool (es : List (Nat × CpInfo)) (last : Nat) : Array CpInfo := ⟨poolList es last⟩
def fileOf (pool : Array CpInfo) (this : Nat) (attrs : Array Attribute := #[]) (ms : Array MethodInfo := #[]) (fl : Nat := 33) (sup : Nat := 0) (ifs : Array Nat := #[]) (fds : Array FieldInfo := #[]) : ClassFile where
  minorVersion := 0
  majorVersion := 65
  constantPool := pool
  accessFlags := fl
  thisClass := this
  superClass := sup
  interfaces := ifs
  fields := fds
  methods := ms
  attributes := attrs
def plain (name : String) (sup : Option ClassId) : Class where
  name := name
  kind := .ordinary
  loader := none
  accessFlags := 33
  super := sup
  interfaces := #[]
  cf := none
  fields := #[]
  methods := #[]
  instanceTypes := #[]
  staticTypes := #[]
  resolved := #[]
  callSites := []
  init := .initialized
  statics := none
  mirror := none

def pool0 : Array CpInfo := pool [(5, u "<init>"), (0, u "()V"), (1, .class_ 10), (1, u "java/lang/Object")] 113

def k0m0 : Method := { name := "<init>", desc := "()V", sig := { parameters := [], returnType := none }, accessFlags := 1, code := none }
/-- java/lang/Object -/
def k0 : Class := { plain "java/lang/Object" none with
  accessFlags := 33
  interfaces := #[]
  cf := some (fileOf pool0 8 #[] #[{ accessFlags := 1, nameIndex := 5, descriptorIndex := 6, attributes := #[] }] 33 0 #[] #[])
  fields := #[]
  methods := #[k0m0]
  instanceTypes := #[]
  staticTypes := #[]
  resolved := Array.replicate 124 none
  statics := none }

def pool1 : Array CpInfo := pool [(2, .class_ 4), (1, u "java/lang/Object"), (0, u "<init>"), (0, u "()V"), (0, .fieldref 8 9), (0, .class_ 10), (0, .nameAndType 11 12), (0, u "com/example/urd/urd/policy/Namespaces$Binding"), (0, u "GLOBAL"), (0, u "Lcom/example/urd/urd/policy/Namespaces$Binding;"), (0, .fieldref 8 14), (0, .nameAndType 15 12), (0, u "LOCAL"), (0, .fieldref 8 17), (0, .nameAndType 18 12), (0, u "BOTH"), (0, .fieldref 8 20), (0, .nameAndType 21 12), (0, u "NONE"), (0, .methodref 8 23), (0, .nameAndType 24 25), (0, u "standsForGlobal"), (0, u "()Z"), (0, .methodref 8 27), (0, .nameAndType 28 25), (0, u "standsForLocal"), (0, .class_ 30), (0, u "com/example/urd/urd/policy/BindingStandsForGlobalPinLaw"), (2, u "law"), (0, u "(I)Z")] 7

def k1m0 : Method := { name := "<init>", desc := "()V", sig := { parameters := [], returnType := none }, accessFlags := 1, code := none }
def k1c1 : Code := { maxStack := 3, maxLocals := 6, code := code, exceptionTable := #[], attributes := #[] }
def k1m1 : Method := { name := "law", desc := "(I)Z", sig := { parameters := [.int], returnType := some .boolean }, accessFlags := 9, code := some k1c1 }
/-- com/example/urd/urd/policy/BindingStandsForGlobalPinLaw -/
def k1 : Class := { plain "com/example/urd/urd/policy/BindingStandsForGlobalPinLaw" (some 0) with
  accessFlags := 49
  interfaces := #[]
  cf := some (fileOf pool1 29 #[] #[{ accessFlags := 1, nameIndex := 5, descriptorIndex := 6, attributes := #[] }, { accessFlags := 9, nameIndex := 33, descriptorIndex := 34, attributes := #[] }] 49 2 #[] #[])
  fields := #[]
  methods := #[k1m0, k1m1]
  instanceTypes := #[]
  staticTypes := #[]
  resolved := Array.replicate 42 none
  statics := none }

def pool2 : Array CpInfo := pool [(1, .class_ 2), (0, u "java/lang/constant/Constable"), (0, .class_ 4), (0, u "java/lang/Object")] 6

/-- java/lang/constant/Constable -/
def k2 : Class := { plain "java/lang/constant/Constable" (some 0) with
  accessFlags := 1537
  interfaces := #[]
  cf := some (fileOf pool2 1 #[] #[] 1537 3 #[] #[])
  fields := #[]
  methods := #[]
  instanceTypes := #[]
  staticTypes := #[]
  resolved := Array.replicate 11 none
  statics := none }

def pool3 : Array CpInfo := pool [(1, .class_ 2), (0, u "java/lang/Comparable"), (0, .class_ 4), (0, u "java/lang/Object")] 7

/-- java/lang/Comparable -/
def k3 : Class := { plain "java/lang/Comparable" (some 0) with
  accessFlags := 1537
  interfaces := #[]
  cf := some (fileOf pool3 1 #[] #[] 1537 3 #[] #[])
  fields := #[]
  methods := #[]
  instanceTypes := #[]
  staticTypes := #[]
  resolved := Array.replicate 12 none
  statics := none }

def pool4 : Array CpInfo := pool [(1, .class_ 2), (0, u "java/io/Serializable"), (0, .class_ 4), (0, u "java/lang/Object")] 2

/-- java/io/Serializable -/
def k4 : Class := { plain "java/io/Serializable" (some 0) with
  accessFlags := 1537
  interfaces := #[]
  cf := some (fileOf pool4 1 #[] #[] 1537 3 #[] #[])
  fields := #[]
  methods := #[]
  instanceTypes := #[]
  staticTypes := #[]
  resolved := Array.replicate 7 none
  statics := none }

def pool5 : Array CpInfo := pool [(2, .class_ 4), (1, u "java/lang/Enum"), (0, u "name"), (0, u "Ljava/lang/String;"), (2, u "ordinal"), (0, u "I"), (1, .class_ 14), (1, u "java/lang/Object"), (4, u "hash"), (86, .class_ 108), (1, u "java/lang/Enum$EnumDesc"), (2, .class_ 112), (0, u "java/lang/constant/Constable"), (0, .class_ 114), (0, u "java/lang/Comparable"), (0, .class_ 116), (0, u "java/io/Serializable")] 87

/-- java/lang/Enum -/
def k5 : Class := { plain "java/lang/Enum" (some 0) with
  accessFlags := 1057
  interfaces := #[2, 3, 4]
  cf := some (fileOf pool5 2 #[.nestMembers #[106]] #[] 1057 12 #[111, 113, 115] #[{ accessFlags := 18, nameIndex := 5, descriptorIndex := 6, attributes := #[] }, { accessFlags := 18, nameIndex := 9, descriptorIndex := 10, attributes := #[] }, { accessFlags := 2, nameIndex := 19, descriptorIndex := 10, attributes := #[] }])
  fields := #[{ name := "name", type := (.object "java/lang/String"), accessFlags := 18, slot := 0, constantValue := 0 }, { name := "ordinal", type := .int, accessFlags := 18, slot := 1, constantValue := 0 }, { name := "hash", type := .int, accessFlags := 2, slot := 2, constantValue := 0 }]
  methods := #[]
  instanceTypes := #[(.object "java/lang/String"), .int, .int]
  staticTypes := #[]
  resolved := Array.replicate 204 none
  statics := none }

def pool6 : Array CpInfo := pool [(1, .class_ 2), (0, u "com/example/urd/urd/policy/Namespaces$Binding"), (0, .fieldref 1 4), (0, .nameAndType 5 6), (0, u "GLOBAL"), (0, u "Lcom/example/urd/urd/policy/Namespaces$Binding;"), (0, .fieldref 1 8), (0, .nameAndType 9 6), (0, u "LOCAL"), (0, .fieldref 1 11), (0, .nameAndType 12 6), (0, u "BOTH"), (2, u "NONE"), (2, u "$VALUES"), (0, u "[Lcom/example/urd/urd/policy/Namespaces$Binding;"), (6, .class_ 28), (1, u "java/lang/Enum"), (22, u "standsForGlobal"), (0, u "()Z"), (1, u "standsForLocal"), (5, .class_ 61), (0, u "com/example/urd/urd/policy/Namespaces")] 2

def k6c0 : Code := { maxStack := 2, maxLocals := 1, code := prog_50_method_4_code, exceptionTable := #[], attributes := #[] }
def k6m0 : Method := { name := "standsForGlobal", desc := "()Z", sig := { parameters := [], returnType := some .boolean }, accessFlags := 1, code := some k6c0 }
def k6c1 : Code := { maxStack := 2, maxLocals := 1, code := prog_50_method_5_code, exceptionTable := #[], attributes := #[] }
def k6m1 : Method := { name := "standsForLocal", desc := "()Z", sig := { parameters := [], returnType := some .boolean }, accessFlags := 1, code := some k6c1 }
/-- com/example/urd/urd/policy/Namespaces$Binding -/
def k6 : Class := { plain "com/example/urd/urd/policy/Namespaces$Binding" (some 5) with
  accessFlags := 16433
  interfaces := #[]
  cf := some (fileOf pool6 1 #[.nestHost 60] #[{ accessFlags := 1, nameIndex := 51, descriptorIndex := 52, attributes := #[] }, { accessFlags := 1, nameIndex := 54, descriptorIndex := 52, attributes := #[] }] 16433 26 #[] #[{ accessFlags := 16409, nameIndex := 5, descriptorIndex := 6, attributes := #[] }, { accessFlags := 16409, nameIndex := 9, descriptorIndex := 6, attributes := #[] }, { accessFlags := 16409, nameIndex := 12, descriptorIndex := 6, attributes := #[] }, { accessFlags := 16409, nameIndex := 15, descriptorIndex := 6, attributes := #[] }, { accessFlags := 4122, nameIndex := 18, descriptorIndex := 19, attributes := #[] }])
  fields := #[{ name := "GLOBAL", type := (.object "com/example/urd/urd/policy/Namespaces$Binding"), accessFlags := 16409, slot := 0, constantValue := 0 }, { name := "LOCAL", type := (.object "com/example/urd/urd/policy/Namespaces$Binding"), accessFlags := 16409, slot := 1, constantValue := 0 }, { name := "BOTH", type := (.object "com/example/urd/urd/policy/Namespaces$Binding"), accessFlags := 16409, slot := 2, constantValue := 0 }, { name := "NONE", type := (.object "com/example/urd/urd/policy/Namespaces$Binding"), accessFlags := 16409, slot := 3, constantValue := 0 }, { name := "$VALUES", type := (.array (.object "com/example/urd/urd/policy/Namespaces$Binding")), accessFlags := 4122, slot := 4, constantValue := 0 }]
  methods := #[k6m0, k6m1]
  instanceTypes := #[(.object "java/lang/String"), .int, .int]
  staticTypes := #[(.object "com/example/urd/urd/policy/Namespaces$Binding"), (.object "com/example/urd/urd/policy/Namespaces$Binding"), (.object "com/example/urd/urd/policy/Namespaces$Binding"), (.object "com/example/urd/urd/policy/Namespaces$Binding"), (.array (.object "com/example/urd/urd/policy/Namespaces$Binding"))]
  resolved := Array.replicate 64 none
  statics := some 0 }

def pool7 : Array CpInfo := pool [(1, u "java/lang/Cloneable"), (0, .class_ 1), (0, u "java/lang/Object"), (0, .class_ 3)] 3

/-- java/lang/Cloneable -/
def k7 : Class := { plain "java/lang/Cloneable" (some 0) with
  accessFlags := 1537
  interfaces := #[]
  cf := some (fileOf pool7 2 #[] #[] 1537 4 #[] #[])
  fields := #[]
  methods := #[]
  instanceTypes := #[]
  staticTypes := #[]
  resolved := Array.replicate 8 none
  statics := none }

/-- the primitive byte -/
def k8 : Class := { plain "byte" none with kind := .primitive 'B', accessFlags := 0x411 }
/-- [B -/
def k9 : Class := { plain "[B" (some 0) with kind := .array 8 .byte, interfaces := #[7, 4], accessFlags := 1041 }

/-- the primitive int -/
def k10 : Class := { plain "int" none with kind := .primitive 'I', accessFlags := 0x411 }
/-- [I -/
def k11 : Class := { plain "[I" (some 0) with kind := .array 10 .int, interfaces := #[7, 4], accessFlags := 1041 }

def heap : Heap := #[{ cls := 6, slots := #[.ref 1, .ref 2, .ref 3, .ref 4, .null], vm := .statics 6 },
  { cls := 6, slots := #[.null, .int 0, .int 0], vm := .none },
  { cls := 6, slots := #[.null, .int 1, .int 0], vm := .none },
  { cls := 6, slots := #[.null, .int 2, .int 0], vm := .none },
  { cls := 6, slots := #[.null, .int 3, .int 0], vm := .none }]
def classes : Array Class := #[k0, k1, k2, k3, k4, k5, k6, k7, k8, k9, k10, k11]
def interned : List (Array UInt16 × Addr) := []
def slotsUsed : Nat := 17
def theMethod : MethodId := ⟨1, 1⟩
def args0 : Array Value := #[.int 5]
def aboutOver (below : List Frame) : State where
  vm := { classes := classes, interned := interned.toArray }
  heap := heap
  slotsUsed := slotsUsed
  threads := #[{ frames := .invoking theMethod args0 :: below }]
def below0 : List Frame := [.native { method := ⟨0, 0⟩, args := #[] }]
def about1 : State := aboutOver below0
def p0 : Program := .bare "" "" ""
def e0 : Env := launch0.env 0 0 0
theorem w_frames : about1.frames = Frame.invoking theMethod args0 :: below0 := rfl
set_option maxRecDepth 65536 in
theorem w_args : argsFit about1.vm theMethod args0 = true := by decide +kernel
set_option maxRecDepth 65536 in
theorem w_heap : heapFits about1 = true := by decide +kernel
set_option maxRecDepth 65536 in
theorem w_runnable : about1.curStatus? = some .runnable := by decide +kernel
set_option maxRecDepth 65536 in
theorem w_alone : about1.alone = true := by decide +kernel
set_option maxRecDepth 65536 in
theorem w_named : about1.methodNamed? x = some theMethod := by decide +kernel
set_option maxRecDepth 65536 in
theorem w_hears : about1.hears theMethod below0 = true := by decide +kernel
set_option maxRecDepth 65536 in
theorem w_ripe : about1.ripe theMethod args0 below0 = true := by decide +kernel
theorem w_running : about1.status = .running := rfl
set_option maxRecDepth 65536 in
theorem w_room : about1.hasRoom e0.platform room_1 = true :=
  launch0.hasRoom_least _ room_1 (by decide +kernel) (by decide +kernel) (by decide +kernel) (by decide +kernel) (by decide +kernel) (by decide +kernel)
theorem allAtoms_all (ts : List Jvm.Cond) (a : Array Jvm.Value) (st : Jvm.State) : (allAtoms ts).before a st = ts.all (fun c => c.before a st) := by
  induction ts with
  | nil => rfl
  | cons c t ih =>
    show (Jvm.Cond.and c (allAtoms t)).before a st = _
    rw [Jvm.Cond.before_and, ih, List.all_cons]
def words1 : List Jvm.Cond := Jvm.Cond.code x code maxLocals ret :: tables_1
/-- a 'code' word, met by the world's own term for the bytes: nothing is compared byte by byte -/
theorem code_word {y : MethodName} {bytes : ByteArray} {mx : Nat} {rt : Option FieldType} {a : Array Value} {s : State} {m : MethodId} {meth : Method} {c : Code} (h1 : s.methodNamed? y = some m) (h2 : s.vm.method? m = some meth) (h3 : meth.code = some c) (h4 : c.code = bytes)
    (h5 : (c.maxLocals == mx && c.exceptionTable.isEmpty && decide (c.maxStack ≤ mostOperands) && decide (meth.sig.returnType = rt) && !meth.locks && decide (parseMethodDescriptor y.desc = some meth.sig)) = true) : (Jvm.Cond.code y bytes mx rt).before a s = true := by
  simp only [Bool.and_eq_true, beq_iff_eq, Bool.not_eq_true', decide_eq_true_eq] at h5
  obtain ⟨⟨⟨⟨⟨g1, g2⟩, g3⟩, g4⟩, g5⟩, g6⟩ := h5
  simp [Cond.before, Cond.holds, Cond.value, h1, h2, h3, h4, g1, g2, g3, g4, g5, g6]
def isCode : Jvm.Cond → Bool
  | .code _ _ _ _ => true
  | _ => false
theorem all_split {L : List Jvm.Cond} {P : Jvm.Cond → Bool} (h1 : L.all (fun c => isCode c || P c) = true) (h2 : ∀ c ∈ L.filter isCode, P c = true) : L.all P = true := by
  refine List.all_eq_true.mpr fun c hc => ?_
  have h := List.all_eq_true.mp h1 c hc
  rcases Bool.eq_false_or_eq_true (isCode c) with hi | hi
  · exact h2 c (List.mem_filter.mpr ⟨hc, hi⟩)
  · simpa [hi] using h
set_option maxRecDepth 65536 in
theorem w_c0 : (Jvm.Cond.code x code maxLocals ret).before args0 about1 = true := code_word (m := ⟨1, 1⟩) (meth := k1m1) (c := k1c1) (by decide +kernel) rfl rfl rfl (by decide +kernel)
set_option maxRecDepth 65536 in
theorem w_c1 : (Jvm.Cond.code ({ cls := "com/example/urd/urd/policy/Namespaces$Binding", name := "standsForGlobal", desc := "()Z" } : Jvm.MethodName) prog_50_method_4_code (1 : Nat) (Option.some Jvm.ClassFile.FieldType.boolean)).before args0 about1 = true := code_word (m := ⟨6, 0⟩) (meth := k6m0) (c := k6c0) (by decide +kernel) rfl rfl rfl (by decide +kernel)
set_option maxRecDepth 65536 in
theorem w_c2 : (Jvm.Cond.code ({ cls := "com/example/urd/urd/policy/Namespaces$Binding", name := "standsForLocal", desc := "()Z" } : Jvm.MethodName) prog_50_method_5_code (1 : Nat) (Option.some Jvm.ClassFile.FieldType.boolean)).before args0 about1 = true := code_word (m := ⟨6, 1⟩) (meth := k6m1) (c := k6c1) (by decide +kernel) rfl rfl rfl (by decide +kernel)
def codes1 : List Jvm.Cond := [Jvm.Cond.code x code maxLocals ret, Jvm.Cond.code ({ cls := "com/example/urd/urd/policy/Namespaces$Binding", name := "standsForGlobal", desc := "()Z" } : Jvm.MethodName) prog_50_method_4_code (1 : Nat) (Option.some Jvm.ClassFile.FieldType.boolean), Jvm.Cond.code ({ cls := "com/example/urd/urd/policy/Namespaces$Binding", name := "standsForLocal", desc := "()Z" } : Jvm.MethodName) prog_50_method_5_code (1 : Nat) (Option.some Jvm.ClassFile.FieldType.boolean)]
set_option maxRecDepth 65536 in
theorem codes_eq : words1.filter isCode = codes1 := rfl
theorem w_codes : ∀ c ∈ words1.filter isCode, c.before args0 about1 = true := by
  rw [codes_eq]
  intro c hc
  simp only [codes1, List.mem_cons, List.not_mem_nil, or_false] at hc
  rcases hc with rfl | rfl | rfl
  · exact w_c0
  · exact w_c1
  · exact w_c2
set_option maxRecDepth 65536 in
theorem w_t1 : words1.all (fun c => isCode c || c.before args0 about1) = true := by decide +kernel
theorem w_tables : (allAtoms (Jvm.Cond.code x code maxLocals ret :: tables_1)).before args0 about1 = true := by
  rw [allAtoms_all]
  show words1.all (fun c => c.before args0 about1) = true
  refine all_split ?_ w_codes
  rw [w_t1]
set_option maxRecDepth 65536 in
theorem w_case : (Jvm.Cond.and given_1 narrow_1).before args0 about1 = true := by decide +kernel
theorem w_applies : (headSpec (Jvm.Cond.code x code maxLocals ret :: tables_1) room_1).applies x e0.platform about1 = true :=
  (Spec.applies_iff w_frames).mpr ⟨w_running, w_runnable, w_alone, w_named, w_hears, w_ripe, w_room, w_tables⟩
theorem atStart : AtStart classFile x code maxLocals ret World_1 tables_1 room_1 Calls_1 rest_1 Pre_1 launch0 p0 e0 about1 theMethod args0 below0 :=
  ⟨lists_1, trivial, launch0.admits_env _ _ _, launch0.least_env, fairChoices_fair.cas, fairChoices_fair.clock, w_frames, w_args, w_heap, w_applies, trivial, trivial, w_case⟩
end start1
theorem witness_1 : WitnessClaimed_1 := ⟨start1.p0, start1.e0, start1.about1, start1.theMethod, start1.args0, start1.below0, start1.atStart⟩
end Jvm.Pilot.@@N@@
