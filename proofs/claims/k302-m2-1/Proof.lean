import JvmDerived
import JvmDerived.Pilot.@@N@@Statement
import JvmDerived.Pilot.@@N@@Code
set_option linter.unusedVariables false
set_option linter.unusedSimpArgs false
namespace Jvm.RoadKit
open Sem ClassFile Op Lib Jvm.Stand Jvm.Free Jvm.LawKit
section New
variable {p : Program} {l : Launch} {e : Env} {R : Room} {s : State} {m : MethodId} {args : Array Value} {below : List Frame} {meth : Method} {c : Code} {T : State} {locs : List Loc} {cells slots : Nat}
theorem retI (X : Stand p l e R s m args below meth c T locs cells slots) (hx : p.tables.exec = Jvm.exec) {pc : Nat} {Ls : Array Slot} {z : Int32} {rest : List Value} (hret : meth.sig.returnType = some .int) (hd : decode c.code pc = .ok (.ireturn, 1)) {fs : List Frame}
    (hl : ∀ (f : JFrame) (acts : List Action), f.method = m → f.locked = none → f.entered = [] → (doReturn e (T.setTop f) acts (some (.int z))).1 = T.setFrames fs) : Steps p.tables e below (T.setTop (mkF m pc Ls (.int z :: rest))) (T.setFrames fs) := by
  have hm' : T.vm.method? m = some meth := X.method'
  have hn : narrow .int (.int z) = .int z := rfl
  show Steps p.tables e below (T.setTop { method := m, pc := pc, locals := Ls, stack := _ :: rest, locked := none }) _
  jvm_step X.here [X.here.top, hx, hd, hm', hret, hn]
  first | (intro acts; rw [hl _ acts rfl rfl rfl]) | rw [hl _ _ rfl rfl rfl]
  exact Steps.refl _
end New
end Jvm.RoadKit
namespace Jvm.Pilot.@@N@@
open Jvm Jvm.ClassFile Sem Op Lib Jvm.Free Jvm.Stand Jvm.LawKit Jvm.RoadKit Bundle Jvm.Pilot.@@N@@.Jvm.D

theorem own_and_bd (x m : Int32) (hm : 0 ≤ m.toInt) : 0 ≤ (x &&& m).toInt ∧ (x &&& m).toInt ≤ m.toInt := by
  have e : (x &&& m).toBitVec.toNat = x.toBitVec.toNat &&& m.toBitVec.toNat := by
    show (x.toBitVec &&& m.toBitVec).toNat = _
    rw [BitVec.toNat_and]
  have l1 : x.toBitVec.toNat &&& m.toBitVec.toNat ≤ m.toBitVec.toNat := Nat.and_le_right
  change 0 ≤ m.toBitVec.toInt at hm
  show 0 ≤ (x &&& m).toBitVec.toInt ∧ (x &&& m).toBitVec.toInt ≤ m.toBitVec.toInt
  rw [BitVec.toInt_eq_toNat_cond] at hm ⊢
  rw [BitVec.toInt_eq_toNat_cond, e]
  have := m.toBitVec.isLt
  split at hm <;> split <;> (try split) <;> omega
theorem own_int_of {x : Int32} {k : Int} (h : x.toInt = k) : x = Int32.ofInt k := by
  rw [← h]; exact (Int32.ofInt_toInt x).symm
theorem own_rem_bd (x y : Int32) (hx : 0 ≤ x.toInt) (hy : 0 < y.toInt) : 0 ≤ (x % y).toInt ∧ (x % y).toInt < y.toInt := by
  have e : (x % y).toInt = x.toInt.tmod y.toInt := by
    first | exact Int32.toInt_mod x y | exact Int32.toInt_srem x y | simp
  rw [e]
  exact ⟨Int.tmod_nonneg _ hx, Int.tmod_lt_of_pos _ hy⟩
theorem own_len {args : Array Value} {s : State} {t : Term} {a : Addr} {cl : Cell} {ty : FieldType} {n : Int32} (ht : t.eval args s none [] s = some (.ref a)) (A : Arr s s.heap a cl ty) (h : (Jvm.Cond.eq (Term.length t) (Term.int n)).value args s none s [] = some true) : cl.slots.size < 2 ^ 31 ∧ cl.slots.size.toInt32 = n := by
  have hA : s.arrayAt? a = some cl := Arr.fin (Vm.Alike.refl _) A
  by_cases q : cl.slots.size < 2 ^ 31
  · refine ⟨q, ?_⟩
    have e := len_f ht hA q
    have e2 : (Term.int n).eval args s none [] s = some (.int n) := rfl
    simp only [Jvm.Cond.value, e, e2] at h
    simpa using h
  · exfalso
    have e : (Term.length t).eval args s none [] s = none := by simp [Term.eval, ht, hA, q]
    simp [Jvm.Cond.value, e] at h
theorem own_elem {args : Array Value} {s : State} {t u : Term} {a : Addr} {cl : Cell} {ty : FieldType} {j : Int32} {i : Nat} {v : Value} (ht : t.eval args s none [] s = some (.ref a)) (A : Arr s s.heap a cl ty) (h : (Jvm.Cond.eq (Term.elem t (Term.int j)) u).value args s none s [] = some true) (hu : u.eval args s none [] s = some v) (hi : j.toNatClampNeg = i) : cl.slots[i]? = some v := by
  subst hi
  obtain ⟨x, y, e1, e2, -, -⟩ := cmp_v (Or.inl h)
  cases hu.symm.trans e2
  have q := elem_in e1 ht (Term.int_eval j) A.1
  simp only [Jvm.Cond.value, e1, hu] at h
  rw [q.2]
  cases x <;> cases v <;> simp_all
theorem own_sta_keep0 {Z : State} {h h' : Heap} {C n d : String} {v : Value} (F : Sta Z h C n d v) (K : Keep h h' []) : Sta Z h' C n d v := by
  obtain ⟨cf, i, k, f, st, cell, h1, h2, h3, h4, h5, r⟩ := F
  exact ⟨cf, i, k, f, st, cell, h1, h2, h3, h4, K.2.1 st cell h5 nin0, r⟩
theorem own_fld_int {args : Array Value} {s : State} {t : Term} {C n d : String} {k : Int32} {x : Addr} (ht : t.eval args s none [] s = some (.ref x)) (h : (Jvm.Cond.eq (Term.field t C n d) (Term.int k)).value args s none s [] = some true) : Fld s s.heap x C n d (.int k) := by
  obtain ⟨v, w, e1, e2, -, -⟩ := cmp_v (Or.inl h)
  rw [fld_at ht] at e1
  have e2' : some (Value.int k) = some w := e2
  cases e2'
  have h' := h
  simp only [Jvm.Cond.value, fld_at ht, e1, e2] at h'
  cases v <;> simp at h'
  subst h'
  exact Fld.start e1
theorem own_fld_ref {args : Array Value} {s : State} {t u : Term} {C n d : String} {x y : Addr} (ht : t.eval args s none [] s = some (.ref x)) (hu : u.eval args s none [] s = some (.ref y)) (h : (Jvm.Cond.eq (Term.field t C n d) u).value args s none s [] = some true) : Fld s s.heap x C n d (.ref y) := by
  obtain ⟨v, w, e1, e2, -, -⟩ := cmp_v (Or.inl h)
  rw [fld_at ht] at e1
  cases hu.symm.trans e2
  have h' := h
  simp only [Jvm.Cond.value, fld_at ht, e1, hu] at h'
  cases v <;> simp at h'
  subst h'
  exact Fld.start e1
def own_is (a b c : Addr) : Int32 := if a = b ∨ a = c then 1 else 0
theorem own_pn_1 : plainName "com/example/urd/urd/policy/Namespaces$Binding" = true := by first | (simp [plainName, overriddenIn]; done) | decide +kernel
theorem d1_0 : decode prog_50_method_5_code 0 = .ok (.aload_n 0, 1) := by decide +kernel
theorem d1_1 : decode prog_50_method_5_code 1 = .ok (.getstatic 7, 3) := by decide +kernel
theorem d1_4 : decode prog_50_method_5_code 4 = .ok (.if_acmp .eq 10, 3) := by decide +kernel
theorem d1_14 : decode prog_50_method_5_code 14 = .ok (.iconst 1, 1) := by decide +kernel
theorem d1_15 : decode prog_50_method_5_code 15 = .ok (.goto 4, 3) := by decide +kernel
theorem d1_19 : decode prog_50_method_5_code 19 = .ok (.ireturn, 1) := by decide +kernel
theorem d1_7 : decode prog_50_method_5_code 7 = .ok (.aload_n 0, 1) := by decide +kernel
theorem d1_8 : decode prog_50_method_5_code 8 = .ok (.getstatic 10, 3) := by decide +kernel
theorem d1_11 : decode prog_50_method_5_code 11 = .ok (.if_acmp .ne 7, 3) := by decide +kernel
theorem d1_18 : decode prog_50_method_5_code 18 = .ok (.iconst 0, 1) := by decide +kernel
def own_rm1_Q (Z : State) (a : Addr) (wL wB : Addr) (h0 : Heap) (n0 : Nat) (v : Option Value) (h : Heap) (L : List Loc) : Prop := v = some (.int (own_is a wL wB)) ∧ Fr n0 L ∧ h = h0
set_option maxRecDepth 65536 in
set_option maxHeartbeats 40000000 in
theorem own_rm1 (l : Launch) (Z : State) (a0 : Array Value) (hw : ∀ d ∈ tables_1, d.before a0 Z = true) (ws : List Jvm.Cond) (a : Addr) (wL wB : Addr) (h0 : Heap) (n0 : Nat) (Z0 : n0 ≤ h0.size) (S_wL : Sta Z h0 "com/example/urd/urd/policy/Namespaces$Binding" "LOCAL" "Lcom/example/urd/urd/policy/Namespaces$Binding;" (.ref wL)) (S_wB : Sta Z h0 "com/example/urd/urd/policy/Namespaces$Binding" "BOTH" "Lcom/example/urd/urd/policy/Namespaces$Binding;" (.ref wB)) :
    MetFree l (⟨"com/example/urd/urd/policy/Namespaces$Binding", "standsForLocal", "()Z"⟩ : MethodName) (head1 (Jvm.Cond.code (⟨"com/example/urd/urd/policy/Namespaces$Binding", "standsForLocal", "()Z"⟩ : MethodName) prog_50_method_5_code 1 (some .boolean) :: ws) ({ frames := 0, cells := 0, slots := 0, locals := 0 } : Room)) (fun aa UU => aa = #[(.ref a)] ∧ Z.Warmed39 UU.vm ∧ UU.heap = h0) (fun _ _ _ _ _ => True) (fun _ UU oo UU' => ∃ vv LL, oo = .returned vv ∧ own_rm1_Q Z a wL wB h0 n0 vv UU'.heap LL ∧ FrameEnd UU oo UU' LL ({ frames := 0, cells := 0, slots := 0, locals := 0 } : Room).cells ({ frames := 0, cells := 0, slots := 0, locals := 0 } : Room).slots) := by
  refine MetFree.of_bodySF (plainFor_of_name own_pn_1) hisR ?_
  intro p e s m args below meth cc s₁ Bd hml0 hP hK
  obtain ⟨rfl, hZ, hh⟩ := hP
  have hx := Bd.exec
  have hby := Bd.bytes
  have hml : cc.maxLocals = 1 := hml0
  have hown : s.vm.findClass "com/example/urd/urd/policy/Namespaces$Binding" = some m.cls := findClass_of_methodNamed Bd.named
  have hnm := (name_of_methodNamed Bd.named Bd.method).1
  have X0 : Stand p l e ({ frames := 0, cells := 0, slots := 0, locals := 0 } : Room) s m #[(.ref a)] below meth cc s₁ [] 0 0 := Stand.of_body Bd
  have e0 : s₁.heap = h0 := by rw [← hh, Bd.state]; rfl
  have N0 := Fr.nil n0
  have k0 : ∀ tt, Steps p.tables e below (s₁.setTop (mkF m 0 #[.val (.ref a)] [])) tt → Steps p.tables e below (s₁.setTop (entryFrame m #[(.ref a)] 1)) tt := fun tt kk => castTop (by first | (simp [entryFrame, mkF, argsToLocals, Value.category]; done) | rfl) kk
  obtain ⟨T1, X1, e1, st1⟩ := getS2 X0 hx hZ hown (host := "") (Or.inl (hw _ (List.mem_of_getElem? (i := 8) rfl))) Via.refl e0 S_wL (g := (mkF m 1 #[.val (.ref a)] [(.ref a)])) rfl (hb hby d1_1)
  have k2 : ∀ tt, Steps p.tables e below (T1.setTop (mkF m 4 #[.val (.ref a)] [(.ref wL), (.ref a)])) tt → Steps p.tables e below (s₁.setTop (entryFrame m #[(.ref a)] 1)) tt := by
    intro tt kk
    refine k0 tt ?_
    show Steps p.tables e below (s₁.setTop (mkF m 0 #[.val (.ref a)] [])) tt
    refine XS.aloadN X0.here hx rfl (hb hby d1_0) rfl rfl ?_
    show Steps p.tables e below (s₁.setTop (mkF m 1 #[.val (.ref a)] [(.ref a)])) tt
    refine st1 _ ?_
    exact kk
  by_cases c4_3 : a = wL
  · have k4 : ∀ tt, Steps p.tables e below (T1.setTop (mkF m 19 #[.val (.ref a)] [(.int (1 : Int32))])) tt → Steps p.tables e below (s₁.setTop (entryFrame m #[(.ref a)] 1)) tt := by
      intro tt kk
      refine k2 tt ?_
      show Steps p.tables e below (T1.setTop (mkF m 4 #[.val (.ref a)] [(.ref wL), (.ref a)])) tt
      refine Jvm.RoadKit.acmp (g := (mkF m 4 #[.val (.ref a)] [(.ref wL), (.ref a)])) X1 hx rfl rfl rfl (pc0 := 4) (pc' := 14) (same := true) rfl (hb hby d1_4) rfl (decide_eq_true (congrArg Value.ref (c4_3))) (by decide) (by decide) ?_
      show Steps p.tables e below (T1.setTop (mkF m 14 #[.val (.ref a)] [])) tt
      refine XS.iconst X1.here hx rfl (hb hby d1_14) ?_
      show Steps p.tables e below (T1.setTop (mkF m 15 #[.val (.ref a)] [(.int (1 : Int32))])) tt
      refine XS.goto X1.here hx rfl (pc0 := 15) (pc' := 19) rfl (hb hby d1_15) (by decide) (by decide) ?_
      exact kk
    obtain ⟨fs, hr, hrun, hended, hW, hsame⟩ := X1.leave (v := some (.int (1 : Int32))) (fun hq => by rw [Bd.returns] at hq; cases hq)
    refine ⟨_, _, k4 _ ?_, hrun, hended, _, _, rfl, ?_, ⟨_, rfl⟩, hW, hsame.mono (by decide) (by decide)⟩
    · show Steps p.tables e below (T1.setTop (mkF m 19 #[.val (.ref a)] [(.int (1 : Int32))])) _
      exact retN X1 hx (t := .boolean) Bd.returns (by simp) (hb hby d1_19) hr
    · show (fun (v : Option Value) (h : Heap) (L : List Loc) => v = some (.int (own_is a wL wB)) ∧ Fr n0 L ∧ h = h0) _ T1.heap _
      rw [e1]
      dsimp only
      refine ⟨?_, N0, rfl⟩
      simp [own_is, c4_3]
  · obtain ⟨T5, X5, e5, st5⟩ := getS2 X1 hx hZ hown (host := "") (Or.inl (hw _ (List.mem_of_getElem? (i := 10) rfl))) Via.refl e1 S_wB (g := (mkF m 8 #[.val (.ref a)] [(.ref a)])) rfl (hb hby d1_8)
    have k6 : ∀ tt, Steps p.tables e below (T5.setTop (mkF m 11 #[.val (.ref a)] [(.ref wB), (.ref a)])) tt → Steps p.tables e below (s₁.setTop (entryFrame m #[(.ref a)] 1)) tt := by
      intro tt kk
      refine k2 tt ?_
      show Steps p.tables e below (T1.setTop (mkF m 4 #[.val (.ref a)] [(.ref wL), (.ref a)])) tt
      refine Jvm.RoadKit.acmp (g := (mkF m 4 #[.val (.ref a)] [(.ref wL), (.ref a)])) X1 hx rfl rfl rfl (pc0 := 4) (pc' := 7) (same := false) rfl (hb hby d1_4) rfl (decide_eq_false fun q => (c4_3) (Value.ref.inj q)) (by decide) (by decide) ?_
      show Steps p.tables e below (T1.setTop (mkF m 7 #[.val (.ref a)] [])) tt
      refine XS.aloadN X1.here hx rfl (hb hby d1_7) rfl rfl ?_
      show Steps p.tables e below (T1.setTop (mkF m 8 #[.val (.ref a)] [(.ref a)])) tt
      refine st5 _ ?_
      exact kk
    by_cases c11_7 : a = wB
    · have k8 : ∀ tt, Steps p.tables e below (T5.setTop (mkF m 19 #[.val (.ref a)] [(.int (1 : Int32))])) tt → Steps p.tables e below (s₁.setTop (entryFrame m #[(.ref a)] 1)) tt := by
        intro tt kk
        refine k6 tt ?_
        show Steps p.tables e below (T5.setTop (mkF m 11 #[.val (.ref a)] [(.ref wB), (.ref a)])) tt
        refine Jvm.RoadKit.acmp (g := (mkF m 11 #[.val (.ref a)] [(.ref wB), (.ref a)])) X5 hx rfl rfl rfl (pc0 := 11) (pc' := 14) (same := true) rfl (hb hby d1_11) rfl (decide_eq_true (congrArg Value.ref (c11_7))) (by decide) (by decide) ?_
        show Steps p.tables e below (T5.setTop (mkF m 14 #[.val (.ref a)] [])) tt
        refine XS.iconst X5.here hx rfl (hb hby d1_14) ?_
        show Steps p.tables e below (T5.setTop (mkF m 15 #[.val (.ref a)] [(.int (1 : Int32))])) tt
        refine XS.goto X5.here hx rfl (pc0 := 15) (pc' := 19) rfl (hb hby d1_15) (by decide) (by decide) ?_
        exact kk
      obtain ⟨fs, hr, hrun, hended, hW, hsame⟩ := X5.leave (v := some (.int (1 : Int32))) (fun hq => by rw [Bd.returns] at hq; cases hq)
      refine ⟨_, _, k8 _ ?_, hrun, hended, _, _, rfl, ?_, ⟨_, rfl⟩, hW, hsame.mono (by decide) (by decide)⟩
      · show Steps p.tables e below (T5.setTop (mkF m 19 #[.val (.ref a)] [(.int (1 : Int32))])) _
        exact retN X5 hx (t := .boolean) Bd.returns (by simp) (hb hby d1_19) hr
      · show (fun (v : Option Value) (h : Heap) (L : List Loc) => v = some (.int (own_is a wL wB)) ∧ Fr n0 L ∧ h = h0) _ T5.heap _
        rw [e5]
        dsimp only
        refine ⟨?_, N0, rfl⟩
        simp [own_is, c4_3, c11_7]
    · have k9 : ∀ tt, Steps p.tables e below (T5.setTop (mkF m 19 #[.val (.ref a)] [(.int (0 : Int32))])) tt → Steps p.tables e below (s₁.setTop (entryFrame m #[(.ref a)] 1)) tt := by
        intro tt kk
        refine k6 tt ?_
        show Steps p.tables e below (T5.setTop (mkF m 11 #[.val (.ref a)] [(.ref wB), (.ref a)])) tt
        refine Jvm.RoadKit.acmp (g := (mkF m 11 #[.val (.ref a)] [(.ref wB), (.ref a)])) X5 hx rfl rfl rfl (pc0 := 11) (pc' := 18) (same := false) rfl (hb hby d1_11) rfl (decide_eq_false fun q => (c11_7) (Value.ref.inj q)) (by decide) (by decide) ?_
        show Steps p.tables e below (T5.setTop (mkF m 18 #[.val (.ref a)] [])) tt
        refine XS.iconst X5.here hx rfl (hb hby d1_18) ?_
        exact kk
      obtain ⟨fs, hr, hrun, hended, hW, hsame⟩ := X5.leave (v := some (.int (0 : Int32))) (fun hq => by rw [Bd.returns] at hq; cases hq)
      refine ⟨_, _, k9 _ ?_, hrun, hended, _, _, rfl, ?_, ⟨_, rfl⟩, hW, hsame.mono (by decide) (by decide)⟩
      · show Steps p.tables e below (T5.setTop (mkF m 19 #[.val (.ref a)] [(.int (0 : Int32))])) _
        exact retN X5 hx (t := .boolean) Bd.returns (by simp) (hb hby d1_19) hr
      · show (fun (v : Option Value) (h : Heap) (L : List Loc) => v = some (.int (own_is a wL wB)) ∧ Fr n0 L ∧ h = h0) _ T5.heap _
        rw [e5]
        dsimp only
        refine ⟨?_, N0, rfl⟩
        simp [own_is, c4_3, c11_7]
theorem own_pn_0 : plainName "com/example/urd/urd/policy/BindingStandsForLocalPinLaw" = true := by first | (simp [plainName, overriddenIn]; done) | decide +kernel
theorem own_pd___Z : parseMethodDescriptor "()Z" = some ⟨[], some .boolean⟩ := by decide +kernel
def own_rm0_Q (Z : State) (k : Int32) (wG wL wB wN : Addr) (h0 : Heap) (n0 : Nat) (v : Option Value) (h : Heap) (L : List Loc) : Prop := v = some (.int (1 : Int32)) ∧ Fr n0 L
set_option maxRecDepth 65536 in
set_option maxHeartbeats 40000000 in
theorem own_rm0 (l : Launch) (Z : State) (a0 : Array Value) (hw : ∀ d ∈ tables_1, d.before a0 Z = true) (ws : List Jvm.Cond) (k : Int32) (wG wL wB wN : Addr) (h0 : Heap) (n0 : Nat) (Z0 : n0 ≤ h0.size) (S_wG : Sta Z h0 "com/example/urd/urd/policy/Namespaces$Binding" "GLOBAL" "Lcom/example/urd/urd/policy/Namespaces$Binding;" (.ref wG)) (S_wL : Sta Z h0 "com/example/urd/urd/policy/Namespaces$Binding" "LOCAL" "Lcom/example/urd/urd/policy/Namespaces$Binding;" (.ref wL)) (S_wB : Sta Z h0 "com/example/urd/urd/policy/Namespaces$Binding" "BOTH" "Lcom/example/urd/urd/policy/Namespaces$Binding;" (.ref wB)) (S_wN : Sta Z h0 "com/example/urd/urd/policy/Namespaces$Binding" "NONE" "Lcom/example/urd/urd/policy/Namespaces$Binding;" (.ref wN)) (E_wG : Exa Z h0 wG "com/example/urd/urd/policy/Namespaces$Binding") (E_wL : Exa Z h0 wL "com/example/urd/urd/policy/Namespaces$Binding") (E_wB : Exa Z h0 wB "com/example/urd/urd/policy/Namespaces$Binding") (E_wN : Exa Z h0 wN "com/example/urd/urd/policy/Namespaces$Binding") (nGL : wG ≠ wL) (nGB : wG ≠ wB) (nNL : wN ≠ wL) (nNB : wN ≠ wB) :
    MetFree l x (head1 (Jvm.Cond.code x code maxLocals ret :: ws) room_1) (fun aa UU => aa = #[(.int k)] ∧ Z.Warmed39 UU.vm ∧ UU.heap = h0) (fun _ _ _ _ _ => True) (fun _ UU oo UU' => ∃ vv LL, oo = .returned vv ∧ own_rm0_Q Z k wG wL wB wN h0 n0 vv UU'.heap LL ∧ FrameEnd UU oo UU' LL room_1.cells room_1.slots) := by
  refine MetFree.of_bodySF (plainFor_of_name own_pn_0) hisR ?_
  intro p e s m args below meth cc s₁ Bd hml0 hP hK
  obtain ⟨rfl, hZ, hh⟩ := hP
  have hx := Bd.exec
  have hby := Bd.bytes
  have hml : cc.maxLocals = 4 := hml0
  have hown : s.vm.findClass "com/example/urd/urd/policy/BindingStandsForLocalPinLaw" = some m.cls := findClass_of_methodNamed Bd.named
  have hnm := (name_of_methodNamed Bd.named Bd.method).1
  have X0 : Stand p l e room_1 s m #[(.int k)] below meth cc s₁ [] 0 0 := Stand.of_body Bd
  have e0 : s₁.heap = h0 := by rw [← hh, Bd.state]; rfl
  have N0 := Fr.nil n0
  have k0 : ∀ tt, Steps p.tables e below (s₁.setTop (mkF m 0 #[.val (.int k), .unset, .unset, .unset] [])) tt → Steps p.tables e below (s₁.setTop (entryFrame m #[(.int k)] maxLocals)) tt := fun tt kk => castTop (by first | (simp [entryFrame, mkF, argsToLocals, Value.category, maxLocals]; done) | rfl) kk
  have k1 : ∀ tt, Steps p.tables e below (s₁.setTop (mkF m 5 #[.val (.int k), .val (.int (k &&& (3 : Int32))), .unset, .unset] [(.int (k &&& (3 : Int32)))])) tt → Steps p.tables e below (s₁.setTop (entryFrame m #[(.int k)] maxLocals)) tt := by
    intro tt kk
    refine k0 tt ?_
    show Steps p.tables e below (s₁.setTop (mkF m 0 #[.val (.int k), .unset, .unset, .unset] [])) tt
    refine XS.iloadN X0.here hx rfl (hb hby at_0) rfl ?_
    show Steps p.tables e below (s₁.setTop (mkF m 1 #[.val (.int k), .unset, .unset, .unset] [(.int k)])) tt
    refine XS.iconst X0.here hx rfl (hb hby at_1) ?_
    show Steps p.tables e below (s₁.setTop (mkF m 2 #[.val (.int k), .unset, .unset, .unset] [(.int (3 : Int32)), (.int k)])) tt
    refine XS.iand X0.here hx rfl (hb hby at_2) rfl ?_
    show Steps p.tables e below (s₁.setTop (mkF m 3 #[.val (.int k), .unset, .unset, .unset] [(.int (k &&& (3 : Int32)))])) tt
    refine XS.istoreN X0.here hx rfl (hb hby at_3) rfl (l' := #[.val (.int k), .val (.int (k &&& (3 : Int32))), .unset, .unset]) rfl ?_
    show Steps p.tables e below (s₁.setTop (mkF m 4 #[.val (.int k), .val (.int (k &&& (3 : Int32))), .unset, .unset] [])) tt
    refine XS.iloadN X0.here hx rfl (hb hby at_4) rfl ?_
    exact kk
  by_cases c5_2 : (k &&& (3 : Int32)) = (0 : Int32)
  · obtain ⟨T3, X3, e3, st3⟩ := getS2 X0 hx hZ hown (host := "") (Or.inl (hw _ (List.mem_of_getElem? (i := 0) rfl))) Via.refl e0 S_wG (g := (mkF m 8 #[.val (.int k), .val (.int (k &&& (3 : Int32))), .unset, .unset] [])) rfl (hb hby at_8)
    obtain ⟨cq4, kq4, q4a, q4b, q4c⟩ := isOf hZ e3 E_wG
    obtain ⟨_, _, ⟨T4, L4, ka4, na4⟩, -, X4, ⟨Lc4, hQ4, l4, y4, z4⟩, st4⟩ := X3.virtualBack hx (y := (⟨"com/example/urd/urd/policy/Namespaces$Binding", "standsForLocal", "()Z"⟩ : MethodName)) (z := (⟨"com/example/urd/urd/policy/Namespaces$Binding", "standsForLocal", "()Z"⟩ : MethodName)) hown (mvT hZ (hw _ (List.mem_of_getElem? (i := 3) rfl))) (mvT hZ (hw _ (List.mem_of_getElem? (i := 4) rfl))) (notFace_of_selects (args := #[]) (mvT hZ (hw _ (List.mem_of_getElem? (i := 6) rfl)))) (mvT hZ (hw _ (List.mem_of_getElem? (i := 6) rfl))) (mvT hZ (hw _ (List.mem_of_getElem? (i := 5) rfl))) (by decide) (backOf (W := 0) (own_rm1 l Z a0 hw [] wG wL wB h0 n0 Z0 S_wL S_wB) hZ (hw _ (List.mem_of_getElem? (i := 7) rfl)) (hw _ (List.mem_of_getElem? (i := 1) rfl)) (by decide) (by decide)) q4a q4c (g := (mkF m 60 #[.val (.int k), .val (.int (k &&& (3 : Int32))), .val (.ref wG), .val (.int (0 : Int32))] [(.ref wG)])) rfl (by rw [hml]; rfl) (Steps.refl _) (argsL := []) (rest := []) (lenOf own_pd___Z rfl) rfl (by show 2 * 0 + _ ≤ _; exact Nat.le_of_eq rfl) (hb hby at_60) (fun _ _ => ⟨rfl, e3, (by decide : 0 + 0 ≤ _), (by decide : 0 + 0 ≤ _)⟩)
    dsimp only [Pt.U, Pt.locs, Pt.cells, Pt.slots] at X4 l4 y4 z4 st4 hQ4
    subst l4 y4 z4
    obtain ⟨rfl, Nq4, hh4⟩ := hQ4
    have N4 := Fr.app N0 Nq4
    have k5 : ∀ tt, Steps p.tables e below (T4.setTop (mkF m 72 #[.val (.int k), .val (.int (k &&& (3 : Int32))), .val (.ref wG), .val (.int (0 : Int32))] [(.int (1 : Int32))])) tt → Steps p.tables e below (s₁.setTop (entryFrame m #[(.int k)] maxLocals)) tt := by
      intro tt kk
      refine k1 tt ?_
      show Steps p.tables e below (s₁.setTop (mkF m 5 #[.val (.int k), .val (.int (k &&& (3 : Int32))), .unset, .unset] [(.int (k &&& (3 : Int32)))])) tt
      refine XS.ifNo X0.here hx rfl (hb hby at_5) rfl ((if0 _ _).trans (teq (c5_2 : (k &&& (3 : Int32)) = (0 : Int32))).2) ?_
      show Steps p.tables e below (s₁.setTop (mkF m 8 #[.val (.int k), .val (.int (k &&& (3 : Int32))), .unset, .unset] [])) tt
      refine st3 _ ?_
      show Steps p.tables e below (T3.setTop (mkF m 11 #[.val (.int k), .val (.int (k &&& (3 : Int32))), .unset, .unset] [(.ref wG)])) tt
      refine XS.astoreN X3.here hx rfl (hb hby at_11) rfl rfl (l' := #[.val (.int k), .val (.int (k &&& (3 : Int32))), .val (.ref wG), .unset]) rfl ?_
      show Steps p.tables e below (T3.setTop (mkF m 12 #[.val (.int k), .val (.int (k &&& (3 : Int32))), .val (.ref wG), .unset] [])) tt
      refine XS.goto X3.here hx rfl (pc0 := 12) (pc' := 43) rfl (hb hby at_12) (by decide) (by decide) ?_
      show Steps p.tables e below (T3.setTop (mkF m 43 #[.val (.int k), .val (.int (k &&& (3 : Int32))), .val (.ref wG), .unset] [])) tt
      refine XS.iloadN X3.here hx rfl (hb hby at_43) rfl ?_
      show Steps p.tables e below (T3.setTop (mkF m 44 #[.val (.int k), .val (.int (k &&& (3 : Int32))), .val (.ref wG), .unset] [(.int (k &&& (3 : Int32)))])) tt
      refine XS.iconst X3.here hx rfl (hb hby at_44) ?_
      show Steps p.tables e below (T3.setTop (mkF m 45 #[.val (.int k), .val (.int (k &&& (3 : Int32))), .val (.ref wG), .unset] [(.int (1 : Int32)), (.int (k &&& (3 : Int32)))])) tt
      refine XS.icmpNo X3.here hx rfl (hb hby at_45) rfl (feq (by rw [c5_2]; decide : ¬ ((k &&& (3 : Int32)) = (1 : Int32)))).1 ?_
      show Steps p.tables e below (T3.setTop (mkF m 48 #[.val (.int k), .val (.int (k &&& (3 : Int32))), .val (.ref wG), .unset] [])) tt
      refine XS.iloadN X3.here hx rfl (hb hby at_48) rfl ?_
      show Steps p.tables e below (T3.setTop (mkF m 49 #[.val (.int k), .val (.int (k &&& (3 : Int32))), .val (.ref wG), .unset] [(.int (k &&& (3 : Int32)))])) tt
      refine XS.iconst X3.here hx rfl (hb hby at_49) ?_
      show Steps p.tables e below (T3.setTop (mkF m 50 #[.val (.int k), .val (.int (k &&& (3 : Int32))), .val (.ref wG), .unset] [(.int (2 : Int32)), (.int (k &&& (3 : Int32)))])) tt
      refine XS.icmpYes X3.here hx rfl (pc0 := 50) (pc' := 57) rfl (hb hby at_50) rfl (feq (by rw [c5_2]; decide : ¬ ((k &&& (3 : Int32)) = (2 : Int32)))).2 (by decide) (by decide) ?_
      show Steps p.tables e below (T3.setTop (mkF m 57 #[.val (.int k), .val (.int (k &&& (3 : Int32))), .val (.ref wG), .unset] [])) tt
      refine XS.iconst X3.here hx rfl (hb hby at_57) ?_
      show Steps p.tables e below (T3.setTop (mkF m 58 #[.val (.int k), .val (.int (k &&& (3 : Int32))), .val (.ref wG), .unset] [(.int (0 : Int32))])) tt
      refine XS.istoreN X3.here hx rfl (hb hby at_58) rfl (l' := #[.val (.int k), .val (.int (k &&& (3 : Int32))), .val (.ref wG), .val (.int (0 : Int32))]) rfl ?_
      show Steps p.tables e below (T3.setTop (mkF m 59 #[.val (.int k), .val (.int (k &&& (3 : Int32))), .val (.ref wG), .val (.int (0 : Int32))] [])) tt
      refine XS.aloadN X3.here hx rfl (hb hby at_59) rfl rfl ?_
      show Steps p.tables e below (T3.setTop (mkF m 60 #[.val (.int k), .val (.int (k &&& (3 : Int32))), .val (.ref wG), .val (.int (0 : Int32))] [(.ref wG)])) tt
      refine st4.trans ?_
      show Steps p.tables e below (T4.setTop (mkF m 63 #[.val (.int k), .val (.int (k &&& (3 : Int32))), .val (.ref wG), .val (.int (0 : Int32))] [(.int (own_is wG wL wB))])) tt
      refine XS.iloadN X4.here hx rfl (hb hby at_63) rfl ?_
      show Steps p.tables e below (T4.setTop (mkF m 64 #[.val (.int k), .val (.int (k &&& (3 : Int32))), .val (.ref wG), .val (.int (0 : Int32))] [(.int (0 : Int32)), (.int (own_is wG wL wB))])) tt
      refine XS.icmpNo X4.here hx rfl (hb hby at_64) rfl (teq (by simp [own_is, nGL, nGB, nNL, nNB] : (own_is wG wL wB) = (0 : Int32))).2 ?_
      show Steps p.tables e below (T4.setTop (mkF m 67 #[.val (.int k), .val (.int (k &&& (3 : Int32))), .val (.ref wG), .val (.int (0 : Int32))] [])) tt
      refine XS.iconst X4.here hx rfl (hb hby at_67) ?_
      show Steps p.tables e below (T4.setTop (mkF m 68 #[.val (.int k), .val (.int (k &&& (3 : Int32))), .val (.ref wG), .val (.int (0 : Int32))] [(.int (1 : Int32))])) tt
      refine XS.goto X4.here hx rfl (pc0 := 68) (pc' := 72) rfl (hb hby at_68) (by decide) (by decide) ?_
      exact kk
    obtain ⟨fs, hr, hrun, hended, hW, hsame⟩ := X4.leave (v := some (.int (1 : Int32))) (fun hq => by rw [Bd.returns] at hq; cases hq)
    refine ⟨_, _, k5 _ ?_, hrun, hended, _, _, rfl, ?_, ⟨_, rfl⟩, hW, hsame.mono (by decide) (by decide)⟩
    · show Steps p.tables e below (T4.setTop (mkF m 72 #[.val (.int k), .val (.int (k &&& (3 : Int32))), .val (.ref wG), .val (.int (0 : Int32))] [(.int (1 : Int32))])) _
      exact retN X4 hx (t := .boolean) Bd.returns (by simp) (hb hby at_72) hr
    · show (fun (v : Option Value) (h : Heap) (L : List Loc) => v = some (.int (1 : Int32)) ∧ Fr n0 L) _ T4.heap _
      rw [hh4]
      dsimp only
      exact ⟨rfl, N4⟩
  · have k6 : ∀ tt, Steps p.tables e below (s₁.setTop (mkF m 17 #[.val (.int k), .val (.int (k &&& (3 : Int32))), .unset, .unset] [(.int (1 : Int32)), (.int (k &&& (3 : Int32)))])) tt → Steps p.tables e below (s₁.setTop (entryFrame m #[(.int k)] maxLocals)) tt := by
      intro tt kk
      refine k1 tt ?_
      show Steps p.tables e below (s₁.setTop (mkF m 5 #[.val (.int k), .val (.int (k &&& (3 : Int32))), .unset, .unset] [(.int (k &&& (3 : Int32)))])) tt
      refine XS.ifYes X0.here hx rfl (pc0 := 5) (pc' := 15) rfl (hb hby at_5) rfl ((if0 _ _).trans (feq (c5_2 : ¬ ((k &&& (3 : Int32)) = (0 : Int32)))).2) (by decide) (by decide) ?_
      show Steps p.tables e below (s₁.setTop (mkF m 15 #[.val (.int k), .val (.int (k &&& (3 : Int32))), .unset, .unset] [])) tt
      refine XS.iloadN X0.here hx rfl (hb hby at_15) rfl ?_
      show Steps p.tables e below (s₁.setTop (mkF m 16 #[.val (.int k), .val (.int (k &&& (3 : Int32))), .unset, .unset] [(.int (k &&& (3 : Int32)))])) tt
      refine XS.iconst X0.here hx rfl (hb hby at_16) ?_
      exact kk
    by_cases c17_7 : (k &&& (3 : Int32)) = (1 : Int32)
    · obtain ⟨T8, X8, e8, st8⟩ := getS2 X0 hx hZ hown (host := "") (Or.inl (hw _ (List.mem_of_getElem? (i := 15) rfl))) Via.refl e0 S_wL (g := (mkF m 20 #[.val (.int k), .val (.int (k &&& (3 : Int32))), .unset, .unset] [])) rfl (hb hby at_20)
      obtain ⟨cq9, kq9, q9a, q9b, q9c⟩ := isOf hZ e8 E_wL
      obtain ⟨_, _, ⟨T9, L9, ka9, na9⟩, -, X9, ⟨Lc9, hQ9, l9, y9, z9⟩, st9⟩ := X8.virtualBack hx (y := (⟨"com/example/urd/urd/policy/Namespaces$Binding", "standsForLocal", "()Z"⟩ : MethodName)) (z := (⟨"com/example/urd/urd/policy/Namespaces$Binding", "standsForLocal", "()Z"⟩ : MethodName)) hown (mvT hZ (hw _ (List.mem_of_getElem? (i := 3) rfl))) (mvT hZ (hw _ (List.mem_of_getElem? (i := 4) rfl))) (notFace_of_selects (args := #[]) (mvT hZ (hw _ (List.mem_of_getElem? (i := 6) rfl)))) (mvT hZ (hw _ (List.mem_of_getElem? (i := 6) rfl))) (mvT hZ (hw _ (List.mem_of_getElem? (i := 5) rfl))) (by decide) (backOf (W := 0) (own_rm1 l Z a0 hw [] wL wL wB h0 n0 Z0 S_wL S_wB) hZ (hw _ (List.mem_of_getElem? (i := 7) rfl)) (hw _ (List.mem_of_getElem? (i := 1) rfl)) (by decide) (by decide)) q9a q9c (g := (mkF m 60 #[.val (.int k), .val (.int (k &&& (3 : Int32))), .val (.ref wL), .val (.int (1 : Int32))] [(.ref wL)])) rfl (by rw [hml]; rfl) (Steps.refl _) (argsL := []) (rest := []) (lenOf own_pd___Z rfl) rfl (by show 2 * 0 + _ ≤ _; exact Nat.le_of_eq rfl) (hb hby at_60) (fun _ _ => ⟨rfl, e8, (by decide : 0 + 0 ≤ _), (by decide : 0 + 0 ≤ _)⟩)
      dsimp only [Pt.U, Pt.locs, Pt.cells, Pt.slots] at X9 l9 y9 z9 st9 hQ9
      subst l9 y9 z9
      obtain ⟨rfl, Nq9, hh9⟩ := hQ9
      have N9 := Fr.app N0 Nq9
      have k10 : ∀ tt, Steps p.tables e below (T9.setTop (mkF m 72 #[.val (.int k), .val (.int (k &&& (3 : Int32))), .val (.ref wL), .val (.int (1 : Int32))] [(.int (1 : Int32))])) tt → Steps p.tables e below (s₁.setTop (entryFrame m #[(.int k)] maxLocals)) tt := by
        intro tt kk
        refine k6 tt ?_
        show Steps p.tables e below (s₁.setTop (mkF m 17 #[.val (.int k), .val (.int (k &&& (3 : Int32))), .unset, .unset] [(.int (1 : Int32)), (.int (k &&& (3 : Int32)))])) tt
        refine XS.icmpNo X0.here hx rfl (hb hby at_17) rfl (teq (c17_7 : (k &&& (3 : Int32)) = (1 : Int32))).2 ?_
        show Steps p.tables e below (s₁.setTop (mkF m 20 #[.val (.int k), .val (.int (k &&& (3 : Int32))), .unset, .unset] [])) tt
        refine st8 _ ?_
        show Steps p.tables e below (T8.setTop (mkF m 23 #[.val (.int k), .val (.int (k &&& (3 : Int32))), .unset, .unset] [(.ref wL)])) tt
        refine XS.astoreN X8.here hx rfl (hb hby at_23) rfl rfl (l' := #[.val (.int k), .val (.int (k &&& (3 : Int32))), .val (.ref wL), .unset]) rfl ?_
        show Steps p.tables e below (T8.setTop (mkF m 24 #[.val (.int k), .val (.int (k &&& (3 : Int32))), .val (.ref wL), .unset] [])) tt
        refine XS.goto X8.here hx rfl (pc0 := 24) (pc' := 43) rfl (hb hby at_24) (by decide) (by decide) ?_
        show Steps p.tables e below (T8.setTop (mkF m 43 #[.val (.int k), .val (.int (k &&& (3 : Int32))), .val (.ref wL), .unset] [])) tt
        refine XS.iloadN X8.here hx rfl (hb hby at_43) rfl ?_
        show Steps p.tables e below (T8.setTop (mkF m 44 #[.val (.int k), .val (.int (k &&& (3 : Int32))), .val (.ref wL), .unset] [(.int (k &&& (3 : Int32)))])) tt
        refine XS.iconst X8.here hx rfl (hb hby at_44) ?_
        show Steps p.tables e below (T8.setTop (mkF m 45 #[.val (.int k), .val (.int (k &&& (3 : Int32))), .val (.ref wL), .unset] [(.int (1 : Int32)), (.int (k &&& (3 : Int32)))])) tt
        refine XS.icmpYes X8.here hx rfl (pc0 := 45) (pc' := 53) rfl (hb hby at_45) rfl (teq (c17_7 : (k &&& (3 : Int32)) = (1 : Int32))).1 (by decide) (by decide) ?_
        show Steps p.tables e below (T8.setTop (mkF m 53 #[.val (.int k), .val (.int (k &&& (3 : Int32))), .val (.ref wL), .unset] [])) tt
        refine XS.iconst X8.here hx rfl (hb hby at_53) ?_
        show Steps p.tables e below (T8.setTop (mkF m 54 #[.val (.int k), .val (.int (k &&& (3 : Int32))), .val (.ref wL), .unset] [(.int (1 : Int32))])) tt
        refine XS.goto X8.here hx rfl (pc0 := 54) (pc' := 58) rfl (hb hby at_54) (by decide) (by decide) ?_
        show Steps p.tables e below (T8.setTop (mkF m 58 #[.val (.int k), .val (.int (k &&& (3 : Int32))), .val (.ref wL), .unset] [(.int (1 : Int32))])) tt
        refine XS.istoreN X8.here hx rfl (hb hby at_58) rfl (l' := #[.val (.int k), .val (.int (k &&& (3 : Int32))), .val (.ref wL), .val (.int (1 : Int32))]) rfl ?_
        show Steps p.tables e below (T8.setTop (mkF m 59 #[.val (.int k), .val (.int (k &&& (3 : Int32))), .val (.ref wL), .val (.int (1 : Int32))] [])) tt
        refine XS.aloadN X8.here hx rfl (hb hby at_59) rfl rfl ?_
        show Steps p.tables e below (T8.setTop (mkF m 60 #[.val (.int k), .val (.int (k &&& (3 : Int32))), .val (.ref wL), .val (.int (1 : Int32))] [(.ref wL)])) tt
        refine st9.trans ?_
        show Steps p.tables e below (T9.setTop (mkF m 63 #[.val (.int k), .val (.int (k &&& (3 : Int32))), .val (.ref wL), .val (.int (1 : Int32))] [(.int (own_is wL wL wB))])) tt
        refine XS.iloadN X9.here hx rfl (hb hby at_63) rfl ?_
        show Steps p.tables e below (T9.setTop (mkF m 64 #[.val (.int k), .val (.int (k &&& (3 : Int32))), .val (.ref wL), .val (.int (1 : Int32))] [(.int (1 : Int32)), (.int (own_is wL wL wB))])) tt
        refine XS.icmpNo X9.here hx rfl (hb hby at_64) rfl (teq (by simp [own_is, nGL, nGB, nNL, nNB] : (own_is wL wL wB) = (1 : Int32))).2 ?_
        show Steps p.tables e below (T9.setTop (mkF m 67 #[.val (.int k), .val (.int (k &&& (3 : Int32))), .val (.ref wL), .val (.int (1 : Int32))] [])) tt
        refine XS.iconst X9.here hx rfl (hb hby at_67) ?_
        show Steps p.tables e below (T9.setTop (mkF m 68 #[.val (.int k), .val (.int (k &&& (3 : Int32))), .val (.ref wL), .val (.int (1 : Int32))] [(.int (1 : Int32))])) tt
        refine XS.goto X9.here hx rfl (pc0 := 68) (pc' := 72) rfl (hb hby at_68) (by decide) (by decide) ?_
        exact kk
      obtain ⟨fs, hr, hrun, hended, hW, hsame⟩ := X9.leave (v := some (.int (1 : Int32))) (fun hq => by rw [Bd.returns] at hq; cases hq)
      refine ⟨_, _, k10 _ ?_, hrun, hended, _, _, rfl, ?_, ⟨_, rfl⟩, hW, hsame.mono (by decide) (by decide)⟩
      · show Steps p.tables e below (T9.setTop (mkF m 72 #[.val (.int k), .val (.int (k &&& (3 : Int32))), .val (.ref wL), .val (.int (1 : Int32))] [(.int (1 : Int32))])) _
        exact retN X9 hx (t := .boolean) Bd.returns (by simp) (hb hby at_72) hr
      · show (fun (v : Option Value) (h : Heap) (L : List Loc) => v = some (.int (1 : Int32)) ∧ Fr n0 L) _ T9.heap _
        rw [hh9]
        dsimp only
        exact ⟨rfl, N9⟩
    · have k11 : ∀ tt, Steps p.tables e below (s₁.setTop (mkF m 29 #[.val (.int k), .val (.int (k &&& (3 : Int32))), .unset, .unset] [(.int (2 : Int32)), (.int (k &&& (3 : Int32)))])) tt → Steps p.tables e below (s₁.setTop (entryFrame m #[(.int k)] maxLocals)) tt := by
        intro tt kk
        refine k6 tt ?_
        show Steps p.tables e below (s₁.setTop (mkF m 17 #[.val (.int k), .val (.int (k &&& (3 : Int32))), .unset, .unset] [(.int (1 : Int32)), (.int (k &&& (3 : Int32)))])) tt
        refine XS.icmpYes X0.here hx rfl (pc0 := 17) (pc' := 27) rfl (hb hby at_17) rfl (feq (c17_7 : ¬ ((k &&& (3 : Int32)) = (1 : Int32)))).2 (by decide) (by decide) ?_
        show Steps p.tables e below (s₁.setTop (mkF m 27 #[.val (.int k), .val (.int (k &&& (3 : Int32))), .unset, .unset] [])) tt
        refine XS.iloadN X0.here hx rfl (hb hby at_27) rfl ?_
        show Steps p.tables e below (s₁.setTop (mkF m 28 #[.val (.int k), .val (.int (k &&& (3 : Int32))), .unset, .unset] [(.int (k &&& (3 : Int32)))])) tt
        refine XS.iconst X0.here hx rfl (hb hby at_28) ?_
        exact kk
      by_cases c29_12 : (k &&& (3 : Int32)) = (2 : Int32)
      · obtain ⟨T13, X13, e13, st13⟩ := getS2 X0 hx hZ hown (host := "") (Or.inl (hw _ (List.mem_of_getElem? (i := 14) rfl))) Via.refl e0 S_wB (g := (mkF m 32 #[.val (.int k), .val (.int (k &&& (3 : Int32))), .unset, .unset] [])) rfl (hb hby at_32)
        obtain ⟨cq14, kq14, q14a, q14b, q14c⟩ := isOf hZ e13 E_wB
        obtain ⟨_, _, ⟨T14, L14, ka14, na14⟩, -, X14, ⟨Lc14, hQ14, l14, y14, z14⟩, st14⟩ := X13.virtualBack hx (y := (⟨"com/example/urd/urd/policy/Namespaces$Binding", "standsForLocal", "()Z"⟩ : MethodName)) (z := (⟨"com/example/urd/urd/policy/Namespaces$Binding", "standsForLocal", "()Z"⟩ : MethodName)) hown (mvT hZ (hw _ (List.mem_of_getElem? (i := 3) rfl))) (mvT hZ (hw _ (List.mem_of_getElem? (i := 4) rfl))) (notFace_of_selects (args := #[]) (mvT hZ (hw _ (List.mem_of_getElem? (i := 6) rfl)))) (mvT hZ (hw _ (List.mem_of_getElem? (i := 6) rfl))) (mvT hZ (hw _ (List.mem_of_getElem? (i := 5) rfl))) (by decide) (backOf (W := 0) (own_rm1 l Z a0 hw [] wB wL wB h0 n0 Z0 S_wL S_wB) hZ (hw _ (List.mem_of_getElem? (i := 7) rfl)) (hw _ (List.mem_of_getElem? (i := 1) rfl)) (by decide) (by decide)) q14a q14c (g := (mkF m 60 #[.val (.int k), .val (.int (k &&& (3 : Int32))), .val (.ref wB), .val (.int (1 : Int32))] [(.ref wB)])) rfl (by rw [hml]; rfl) (Steps.refl _) (argsL := []) (rest := []) (lenOf own_pd___Z rfl) rfl (by show 2 * 0 + _ ≤ _; exact Nat.le_of_eq rfl) (hb hby at_60) (fun _ _ => ⟨rfl, e13, (by decide : 0 + 0 ≤ _), (by decide : 0 + 0 ≤ _)⟩)
        dsimp only [Pt.U, Pt.locs, Pt.cells, Pt.slots] at X14 l14 y14 z14 st14 hQ14
        subst l14 y14 z14
        obtain ⟨rfl, Nq14, hh14⟩ := hQ14
        have N14 := Fr.app N0 Nq14
        have k15 : ∀ tt, Steps p.tables e below (T14.setTop (mkF m 72 #[.val (.int k), .val (.int (k &&& (3 : Int32))), .val (.ref wB), .val (.int (1 : Int32))] [(.int (1 : Int32))])) tt → Steps p.tables e below (s₁.setTop (entryFrame m #[(.int k)] maxLocals)) tt := by
          intro tt kk
          refine k11 tt ?_
          show Steps p.tables e below (s₁.setTop (mkF m 29 #[.val (.int k), .val (.int (k &&& (3 : Int32))), .unset, .unset] [(.int (2 : Int32)), (.int (k &&& (3 : Int32)))])) tt
          refine XS.icmpNo X0.here hx rfl (hb hby at_29) rfl (teq (c29_12 : (k &&& (3 : Int32)) = (2 : Int32))).2 ?_
          show Steps p.tables e below (s₁.setTop (mkF m 32 #[.val (.int k), .val (.int (k &&& (3 : Int32))), .unset, .unset] [])) tt
          refine st13 _ ?_
          show Steps p.tables e below (T13.setTop (mkF m 35 #[.val (.int k), .val (.int (k &&& (3 : Int32))), .unset, .unset] [(.ref wB)])) tt
          refine XS.astoreN X13.here hx rfl (hb hby at_35) rfl rfl (l' := #[.val (.int k), .val (.int (k &&& (3 : Int32))), .val (.ref wB), .unset]) rfl ?_
          show Steps p.tables e below (T13.setTop (mkF m 36 #[.val (.int k), .val (.int (k &&& (3 : Int32))), .val (.ref wB), .unset] [])) tt
          refine XS.goto X13.here hx rfl (pc0 := 36) (pc' := 43) rfl (hb hby at_36) (by decide) (by decide) ?_
          show Steps p.tables e below (T13.setTop (mkF m 43 #[.val (.int k), .val (.int (k &&& (3 : Int32))), .val (.ref wB), .unset] [])) tt
          refine XS.iloadN X13.here hx rfl (hb hby at_43) rfl ?_
          show Steps p.tables e below (T13.setTop (mkF m 44 #[.val (.int k), .val (.int (k &&& (3 : Int32))), .val (.ref wB), .unset] [(.int (k &&& (3 : Int32)))])) tt
          refine XS.iconst X13.here hx rfl (hb hby at_44) ?_
          show Steps p.tables e below (T13.setTop (mkF m 45 #[.val (.int k), .val (.int (k &&& (3 : Int32))), .val (.ref wB), .unset] [(.int (1 : Int32)), (.int (k &&& (3 : Int32)))])) tt
          refine XS.icmpNo X13.here hx rfl (hb hby at_45) rfl (feq (by rw [c29_12]; decide : ¬ ((k &&& (3 : Int32)) = (1 : Int32)))).1 ?_
          show Steps p.tables e below (T13.setTop (mkF m 48 #[.val (.int k), .val (.int (k &&& (3 : Int32))), .val (.ref wB), .unset] [])) tt
          refine XS.iloadN X13.here hx rfl (hb hby at_48) rfl ?_
          show Steps p.tables e below (T13.setTop (mkF m 49 #[.val (.int k), .val (.int (k &&& (3 : Int32))), .val (.ref wB), .unset] [(.int (k &&& (3 : Int32)))])) tt
          refine XS.iconst X13.here hx rfl (hb hby at_49) ?_
          show Steps p.tables e below (T13.setTop (mkF m 50 #[.val (.int k), .val (.int (k &&& (3 : Int32))), .val (.ref wB), .unset] [(.int (2 : Int32)), (.int (k &&& (3 : Int32)))])) tt
          refine XS.icmpNo X13.here hx rfl (hb hby at_50) rfl (teq (c29_12 : (k &&& (3 : Int32)) = (2 : Int32))).2 ?_
          show Steps p.tables e below (T13.setTop (mkF m 53 #[.val (.int k), .val (.int (k &&& (3 : Int32))), .val (.ref wB), .unset] [])) tt
          refine XS.iconst X13.here hx rfl (hb hby at_53) ?_
          show Steps p.tables e below (T13.setTop (mkF m 54 #[.val (.int k), .val (.int (k &&& (3 : Int32))), .val (.ref wB), .unset] [(.int (1 : Int32))])) tt
          refine XS.goto X13.here hx rfl (pc0 := 54) (pc' := 58) rfl (hb hby at_54) (by decide) (by decide) ?_
          show Steps p.tables e below (T13.setTop (mkF m 58 #[.val (.int k), .val (.int (k &&& (3 : Int32))), .val (.ref wB), .unset] [(.int (1 : Int32))])) tt
          refine XS.istoreN X13.here hx rfl (hb hby at_58) rfl (l' := #[.val (.int k), .val (.int (k &&& (3 : Int32))), .val (.ref wB), .val (.int (1 : Int32))]) rfl ?_
          show Steps p.tables e below (T13.setTop (mkF m 59 #[.val (.int k), .val (.int (k &&& (3 : Int32))), .val (.ref wB), .val (.int (1 : Int32))] [])) tt
          refine XS.aloadN X13.here hx rfl (hb hby at_59) rfl rfl ?_
          show Steps p.tables e below (T13.setTop (mkF m 60 #[.val (.int k), .val (.int (k &&& (3 : Int32))), .val (.ref wB), .val (.int (1 : Int32))] [(.ref wB)])) tt
          refine st14.trans ?_
          show Steps p.tables e below (T14.setTop (mkF m 63 #[.val (.int k), .val (.int (k &&& (3 : Int32))), .val (.ref wB), .val (.int (1 : Int32))] [(.int (own_is wB wL wB))])) tt
          refine XS.iloadN X14.here hx rfl (hb hby at_63) rfl ?_
          show Steps p.tables e below (T14.setTop (mkF m 64 #[.val (.int k), .val (.int (k &&& (3 : Int32))), .val (.ref wB), .val (.int (1 : Int32))] [(.int (1 : Int32)), (.int (own_is wB wL wB))])) tt
          refine XS.icmpNo X14.here hx rfl (hb hby at_64) rfl (teq (by simp [own_is, nGL, nGB, nNL, nNB] : (own_is wB wL wB) = (1 : Int32))).2 ?_
          show Steps p.tables e below (T14.setTop (mkF m 67 #[.val (.int k), .val (.int (k &&& (3 : Int32))), .val (.ref wB), .val (.int (1 : Int32))] [])) tt
          refine XS.iconst X14.here hx rfl (hb hby at_67) ?_
          show Steps p.tables e below (T14.setTop (mkF m 68 #[.val (.int k), .val (.int (k &&& (3 : Int32))), .val (.ref wB), .val (.int (1 : Int32))] [(.int (1 : Int32))])) tt
          refine XS.goto X14.here hx rfl (pc0 := 68) (pc' := 72) rfl (hb hby at_68) (by decide) (by decide) ?_
          exact kk
        obtain ⟨fs, hr, hrun, hended, hW, hsame⟩ := X14.leave (v := some (.int (1 : Int32))) (fun hq => by rw [Bd.returns] at hq; cases hq)
        refine ⟨_, _, k15 _ ?_, hrun, hended, _, _, rfl, ?_, ⟨_, rfl⟩, hW, hsame.mono (by decide) (by decide)⟩
        · show Steps p.tables e below (T14.setTop (mkF m 72 #[.val (.int k), .val (.int (k &&& (3 : Int32))), .val (.ref wB), .val (.int (1 : Int32))] [(.int (1 : Int32))])) _
          exact retN X14 hx (t := .boolean) Bd.returns (by simp) (hb hby at_72) hr
        · show (fun (v : Option Value) (h : Heap) (L : List Loc) => v = some (.int (1 : Int32)) ∧ Fr n0 L) _ T14.heap _
          rw [hh14]
          dsimp only
          exact ⟨rfl, N14⟩
      · obtain ⟨T16, X16, e16, st16⟩ := getS2 X0 hx hZ hown (host := "") (Or.inl (hw _ (List.mem_of_getElem? (i := 12) rfl))) Via.refl e0 S_wN (g := (mkF m 39 #[.val (.int k), .val (.int (k &&& (3 : Int32))), .unset, .unset] [])) rfl (hb hby at_39)
        obtain ⟨cq17, kq17, q17a, q17b, q17c⟩ := isOf hZ e16 E_wN
        obtain ⟨_, _, ⟨T17, L17, ka17, na17⟩, -, X17, ⟨Lc17, hQ17, l17, y17, z17⟩, st17⟩ := X16.virtualBack hx (y := (⟨"com/example/urd/urd/policy/Namespaces$Binding", "standsForLocal", "()Z"⟩ : MethodName)) (z := (⟨"com/example/urd/urd/policy/Namespaces$Binding", "standsForLocal", "()Z"⟩ : MethodName)) hown (mvT hZ (hw _ (List.mem_of_getElem? (i := 3) rfl))) (mvT hZ (hw _ (List.mem_of_getElem? (i := 4) rfl))) (notFace_of_selects (args := #[]) (mvT hZ (hw _ (List.mem_of_getElem? (i := 6) rfl)))) (mvT hZ (hw _ (List.mem_of_getElem? (i := 6) rfl))) (mvT hZ (hw _ (List.mem_of_getElem? (i := 5) rfl))) (by decide) (backOf (W := 0) (own_rm1 l Z a0 hw [] wN wL wB h0 n0 Z0 S_wL S_wB) hZ (hw _ (List.mem_of_getElem? (i := 7) rfl)) (hw _ (List.mem_of_getElem? (i := 1) rfl)) (by decide) (by decide)) q17a q17c (g := (mkF m 60 #[.val (.int k), .val (.int (k &&& (3 : Int32))), .val (.ref wN), .val (.int (0 : Int32))] [(.ref wN)])) rfl (by rw [hml]; rfl) (Steps.refl _) (argsL := []) (rest := []) (lenOf own_pd___Z rfl) rfl (by show 2 * 0 + _ ≤ _; exact Nat.le_of_eq rfl) (hb hby at_60) (fun _ _ => ⟨rfl, e16, (by decide : 0 + 0 ≤ _), (by decide : 0 + 0 ≤ _)⟩)
        dsimp only [Pt.U, Pt.locs, Pt.cells, Pt.slots] at X17 l17 y17 z17 st17 hQ17
        subst l17 y17 z17
        obtain ⟨rfl, Nq17, hh17⟩ := hQ17
        have N17 := Fr.app N0 Nq17
        have k18 : ∀ tt, Steps p.tables e below (T17.setTop (mkF m 72 #[.val (.int k), .val (.int (k &&& (3 : Int32))), .val (.ref wN), .val (.int (0 : Int32))] [(.int (1 : Int32))])) tt → Steps p.tables e below (s₁.setTop (entryFrame m #[(.int k)] maxLocals)) tt := by
          intro tt kk
          refine k11 tt ?_
          show Steps p.tables e below (s₁.setTop (mkF m 29 #[.val (.int k), .val (.int (k &&& (3 : Int32))), .unset, .unset] [(.int (2 : Int32)), (.int (k &&& (3 : Int32)))])) tt
          refine XS.icmpYes X0.here hx rfl (pc0 := 29) (pc' := 39) rfl (hb hby at_29) rfl (feq (c29_12 : ¬ ((k &&& (3 : Int32)) = (2 : Int32)))).2 (by decide) (by decide) ?_
          show Steps p.tables e below (s₁.setTop (mkF m 39 #[.val (.int k), .val (.int (k &&& (3 : Int32))), .unset, .unset] [])) tt
          refine st16 _ ?_
          show Steps p.tables e below (T16.setTop (mkF m 42 #[.val (.int k), .val (.int (k &&& (3 : Int32))), .unset, .unset] [(.ref wN)])) tt
          refine XS.astoreN X16.here hx rfl (hb hby at_42) rfl rfl (l' := #[.val (.int k), .val (.int (k &&& (3 : Int32))), .val (.ref wN), .unset]) rfl ?_
          show Steps p.tables e below (T16.setTop (mkF m 43 #[.val (.int k), .val (.int (k &&& (3 : Int32))), .val (.ref wN), .unset] [])) tt
          refine XS.iloadN X16.here hx rfl (hb hby at_43) rfl ?_
          show Steps p.tables e below (T16.setTop (mkF m 44 #[.val (.int k), .val (.int (k &&& (3 : Int32))), .val (.ref wN), .unset] [(.int (k &&& (3 : Int32)))])) tt
          refine XS.iconst X16.here hx rfl (hb hby at_44) ?_
          show Steps p.tables e below (T16.setTop (mkF m 45 #[.val (.int k), .val (.int (k &&& (3 : Int32))), .val (.ref wN), .unset] [(.int (1 : Int32)), (.int (k &&& (3 : Int32)))])) tt
          refine XS.icmpNo X16.here hx rfl (hb hby at_45) rfl (feq (c17_7 : ¬ ((k &&& (3 : Int32)) = (1 : Int32)))).1 ?_
          show Steps p.tables e below (T16.setTop (mkF m 48 #[.val (.int k), .val (.int (k &&& (3 : Int32))), .val (.ref wN), .unset] [])) tt
          refine XS.iloadN X16.here hx rfl (hb hby at_48) rfl ?_
          show Steps p.tables e below (T16.setTop (mkF m 49 #[.val (.int k), .val (.int (k &&& (3 : Int32))), .val (.ref wN), .unset] [(.int (k &&& (3 : Int32)))])) tt
          refine XS.iconst X16.here hx rfl (hb hby at_49) ?_
          show Steps p.tables e below (T16.setTop (mkF m 50 #[.val (.int k), .val (.int (k &&& (3 : Int32))), .val (.ref wN), .unset] [(.int (2 : Int32)), (.int (k &&& (3 : Int32)))])) tt
          refine XS.icmpYes X16.here hx rfl (pc0 := 50) (pc' := 57) rfl (hb hby at_50) rfl (feq (c29_12 : ¬ ((k &&& (3 : Int32)) = (2 : Int32)))).2 (by decide) (by decide) ?_
          show Steps p.tables e below (T16.setTop (mkF m 57 #[.val (.int k), .val (.int (k &&& (3 : Int32))), .val (.ref wN), .unset] [])) tt
          refine XS.iconst X16.here hx rfl (hb hby at_57) ?_
          show Steps p.tables e below (T16.setTop (mkF m 58 #[.val (.int k), .val (.int (k &&& (3 : Int32))), .val (.ref wN), .unset] [(.int (0 : Int32))])) tt
          refine XS.istoreN X16.here hx rfl (hb hby at_58) rfl (l' := #[.val (.int k), .val (.int (k &&& (3 : Int32))), .val (.ref wN), .val (.int (0 : Int32))]) rfl ?_
          show Steps p.tables e below (T16.setTop (mkF m 59 #[.val (.int k), .val (.int (k &&& (3 : Int32))), .val (.ref wN), .val (.int (0 : Int32))] [])) tt
          refine XS.aloadN X16.here hx rfl (hb hby at_59) rfl rfl ?_
          show Steps p.tables e below (T16.setTop (mkF m 60 #[.val (.int k), .val (.int (k &&& (3 : Int32))), .val (.ref wN), .val (.int (0 : Int32))] [(.ref wN)])) tt
          refine st17.trans ?_
          show Steps p.tables e below (T17.setTop (mkF m 63 #[.val (.int k), .val (.int (k &&& (3 : Int32))), .val (.ref wN), .val (.int (0 : Int32))] [(.int (own_is wN wL wB))])) tt
          refine XS.iloadN X17.here hx rfl (hb hby at_63) rfl ?_
          show Steps p.tables e below (T17.setTop (mkF m 64 #[.val (.int k), .val (.int (k &&& (3 : Int32))), .val (.ref wN), .val (.int (0 : Int32))] [(.int (0 : Int32)), (.int (own_is wN wL wB))])) tt
          refine XS.icmpNo X17.here hx rfl (hb hby at_64) rfl (teq (by simp [own_is, nGL, nGB, nNL, nNB] : (own_is wN wL wB) = (0 : Int32))).2 ?_
          show Steps p.tables e below (T17.setTop (mkF m 67 #[.val (.int k), .val (.int (k &&& (3 : Int32))), .val (.ref wN), .val (.int (0 : Int32))] [])) tt
          refine XS.iconst X17.here hx rfl (hb hby at_67) ?_
          show Steps p.tables e below (T17.setTop (mkF m 68 #[.val (.int k), .val (.int (k &&& (3 : Int32))), .val (.ref wN), .val (.int (0 : Int32))] [(.int (1 : Int32))])) tt
          refine XS.goto X17.here hx rfl (pc0 := 68) (pc' := 72) rfl (hb hby at_68) (by decide) (by decide) ?_
          exact kk
        obtain ⟨fs, hr, hrun, hended, hW, hsame⟩ := X17.leave (v := some (.int (1 : Int32))) (fun hq => by rw [Bd.returns] at hq; cases hq)
        refine ⟨_, _, k18 _ ?_, hrun, hended, _, _, rfl, ?_, ⟨_, rfl⟩, hW, hsame.mono (by decide) (by decide)⟩
        · show Steps p.tables e below (T17.setTop (mkF m 72 #[.val (.int k), .val (.int (k &&& (3 : Int32))), .val (.ref wN), .val (.int (0 : Int32))] [(.int (1 : Int32))])) _
          exact retN X17 hx (t := .boolean) Bd.returns (by simp) (hb hby at_72) hr
        · show (fun (v : Option Value) (h : Heap) (L : List Loc) => v = some (.int (1 : Int32)) ∧ Fr n0 L) _ T17.heap _
          rw [hh17]
          dsimp only
          exact ⟨rfl, N17⟩
set_option maxRecDepth 65536 in
set_option maxHeartbeats 40000000 in
theorem comes_1 {Post : Tables → Env → Array Value → State → Outcome → State → Prop} (hpost : ∀ tb e args s v u, (limb_1_1.after args s (.returned v) u = true ∧ limb_1_2.after args s (.returned v) u = true ∧ True) → FrameEnd s (.returned v) u (Jvm.fieldLocs frame_1_writes args s ++ Jvm.arrayLocs frame_1_arrays args s ++ Jvm.staticLocs frame_1_statics s) 0 0 → Post tb e args s (.returned v) u) :
    ArmFor flags0 classFile x code maxLocals ret World_1 tables_1 room_1 Calls_1 rest_1 Pre_1 Post := by
  intro l hfl _ _ p e ha hc hk s m args below hf hA hF happ hP
  obtain ⟨hcalls, hrest, hpre⟩ := hP
  obtain ⟨-, -, -, hnamed, -, -, -, hat⟩ := (Spec.applies_iff hf).mp happ
  obtain ⟨hg, hn⟩ := and_e (Cond.before_iff.mp (show (Jvm.Cond.and given_1 narrow_1).before args s = true from hpre))
  obtain ⟨g1, g2⟩ := and_e hg
  obtain ⟨v0, rfl⟩ : ∃ v0 : Value, args = #[v0] := by
    have hs : args.size = 1 := by simpa [Cond.value, given_1] using g1
    obtain ⟨L⟩ := args
    match L, hs with
    | [v0], _ => exact ⟨v0, rfl⟩
  have hw := fun d (hd : d ∈ tables_1) => atoms_spec (ws := Jvm.Cond.code x code maxLocals ret :: tables_1) hat d (List.mem_cons_of_mem _ hd)
  have hfit : Fit s := fun {y c} hc i hi => by
    obtain ⟨ha, rfl⟩ := Array.getElem?_eq_some_iff.mp hc
    have q := List.all_eq_true.mp ((Array.all_eq_true_iff_forall_mem.mp hF) _ (Array.getElem_mem ha)) i (List.mem_range.mpr hi)
    simpa [Array.getElem?_eq_getElem hi] using q
  obtain ⟨i0, ei0⟩ := is_v g2
  obtain rfl : v0 = (.int i0) := Option.some.inj ei0
  obtain ⟨g3, g4⟩ := and_e hn
  obtain ⟨w_GLOBAL, ev_w_GLOBAL⟩ := exa_v g3
  have E_w_GLOBAL := Exa.start ev_w_GLOBAL g3
  obtain ⟨g5, g6⟩ := and_e g4
  obtain ⟨w_LOCAL, ev_w_LOCAL⟩ := exa_v g5
  have E_w_LOCAL := Exa.start ev_w_LOCAL g5
  obtain ⟨g7, g8⟩ := and_e g6
  obtain ⟨g9, g10⟩ := and_e g8
  obtain ⟨g11, g12⟩ := and_e g10
  obtain ⟨w_BOTH, ev_w_BOTH⟩ := exa_v g11
  have E_w_BOTH := Exa.start ev_w_BOTH g11
  obtain ⟨g13, g14⟩ := and_e g12
  obtain ⟨g15, g16⟩ := and_e g14
  obtain ⟨w_NONE, ev_w_NONE⟩ := exa_v g15
  have E_w_NONE := Exa.start ev_w_NONE g15
  have S_w_GLOBAL := Sta.start ev_w_GLOBAL (Or.inr ⟨(hw _ (List.mem_of_getElem? (i := 1) rfl)), (hw _ (List.mem_of_getElem? (i := 2) rfl))⟩)
  have S_w_LOCAL := Sta.start ev_w_LOCAL (Or.inr ⟨(hw _ (List.mem_of_getElem? (i := 1) rfl)), (hw _ (List.mem_of_getElem? (i := 9) rfl))⟩)
  have S_w_BOTH := Sta.start ev_w_BOTH (Or.inr ⟨(hw _ (List.mem_of_getElem? (i := 1) rfl)), (hw _ (List.mem_of_getElem? (i := 11) rfl))⟩)
  have S_w_NONE := Sta.start ev_w_NONE (Or.inr ⟨(hw _ (List.mem_of_getElem? (i := 1) rfl)), (hw _ (List.mem_of_getElem? (i := 13) rfl))⟩)
  have F_w_GLOBAL_ordinal := own_fld_int ev_w_GLOBAL g7
  have F_w_LOCAL_ordinal := own_fld_int ev_w_LOCAL g9
  have F_w_BOTH_ordinal := own_fld_int ev_w_BOTH g13
  have F_w_NONE_ordinal := own_fld_int ev_w_NONE g16
  obtain ⟨n, o, h1, h2, h3, _, L, rfl, ⟨rfl, N⟩, hq⟩ := own_rm0 l s _ hw tables_1 i0 w_GLOBAL w_LOCAL w_BOTH w_NONE s.heap s.heap.size (Nat.le_refl _) S_w_GLOBAL S_w_LOCAL S_w_BOTH S_w_NONE E_w_GLOBAL E_w_LOCAL E_w_BOTH E_w_NONE (Fld.ne F_w_GLOBAL_ordinal F_w_LOCAL_ordinal (by decide)) (Fld.ne F_w_GLOBAL_ordinal F_w_BOTH_ordinal (by decide)) (Fld.ne F_w_NONE_ordinal F_w_LOCAL_ordinal (by decide)) (Fld.ne F_w_NONE_ordinal F_w_BOTH_ordinal (by decide)) p e ha hc hk s m _ below hf ((Spec.applies_iff_loose hf).mp happ).1 ⟨rfl, State.Warmed39.refl s, rfl⟩ trivial
  refine ⟨n, _, h1, h2, h3, hpost _ _ _ _ _ _ ⟨Cond.after_iff.mpr rfl, Cond.after_iff.mpr (eq_i res_at (Term.int_eval (1)) rfl), trivial⟩ ⟨hq.1, hq.2.1, (hq.2.2.sift fun y hy => Or.inr (N y hy)).mono (by decide) (by decide)⟩⟩
theorem main_1_1 : Claimed_1_1 := comes_1 fun _ _ _ _ _ _ h hF => ⟨h.1, hF⟩
theorem main_1_2 : Claimed_1_2 := comes_1 fun _ _ _ _ _ _ h hF => ⟨h.2.1, hF⟩
end Jvm.Pilot.@@N@@
namespace Jvm.Pilot.@@N@@
open Jvm Jvm.ClassFile Sem Op Lib Jvm.Free Jvm.Stand Jvm.Pilot.@@N@@.Jvm.D
/-! MADE BY PROGRAM (witnessworld.py) out of the Statement's table words and the real class files: 12 classes; the members and pool entries that the words name. The judged class is class 1, her method 1. -/
namespace start1
open Jvm.ClassFile
def u (s : String) : CpInfo := .utf8 (stringToUtf16 s)
/-- a pool by its gaps: so many unusable entries, then the entry; so many at the end -/
def gap : Nat → List CpInfo → List CpInfo
  | 0, r => r
  | n + 1, r => .unusable :: gap n r
def poolList (es : List (Nat × CpInfo)) (last : Nat) : List CpInfo := es.foldr (fun e r => gap e.1 (e.2 :: r)) (gap last [])
def pool (es : List (Nat × CpInfo)) (last : Nat) : Array CpInfo := ⟨poolList es last⟩
def fileOf (pool : Array CpInfo) (this : Nat) (attrs : Array Attribute := #[]) (ms : Array MethodInfo := #[]) (fl : Nat := 33) (sup : Nat := 0) (ifs : Array Nat := #[]) (fds : Array FieldInfo := #[]) : ClassFile where
  minorVersion := 0
  majorVersion := 65
  constantPool := pool
  accessFlags := fl
  thisClass := this
  superClass := sup
  interfaces := ifs
  fields := fds
  methods := ms
  attributes := attrs
def plain (name : String) (sup : Option ClassId) : Class where
  name := name
  kind := .ordinary
  loader := none
  accessFlags := 33
  super := sup
  interfaces := #[]
  cf := none
  fields := #[]
  methods := #[]
  instanceTypes := #[]
  staticTypes := #[]
  resolved := #[]
  callSites := []
  init := .initialized
  statics := none
  mirror := none

def pool0 : Array CpInfo := pool [(5, u "<init>"), (0, u "()V"), (1, .class_ 10), (1, u "java/lang/Object")] 113

def k0m0 : Method := { name := "<init>", desc := "()V", sig := { parameters := [], returnType := none }, accessFlags := 1, code := none }
/-- java/lang/Object -/
def k0 : Class := { plain "java/lang/Object" none with
  accessFlags := 33
  interfaces := #[]
  cf := some (fileOf pool0 8 #[] #[{ accessFlags := 1, nameIndex := 5, descriptorIndex := 6, attributes := #[] }] 33 0 #[] #[])
  fields := #[]
  methods := #[k0m0]
  instanceTypes := #[]
  staticTypes := #[]
  resolved := Array.replicate 124 none
  statics := none }

def pool1 : Array CpInfo := pool [(2, .class_ 4), (1, u "java/lang/Object"), (0, u "<init>"), (0, u "()V"), (0, .fieldref 8 9), (0, .class_ 10), (0, .nameAndType 11 12), (0, u "com/example/urd/urd/policy/Namespaces$Binding"), (0, u "GLOBAL"), (0, u "Lcom/example/urd/urd/policy/Namespaces$Binding;"), (0, .fieldref 8 14), (0, .nameAndType 15 12), (0, u "LOCAL"), (0, .fieldref 8 17), (0, .nameAndType 18 12), (0, u "BOTH"), (0, .fieldref 8 20), (0, .nameAndType 21 12), (0, u "NONE"), (0, .methodref 8 23), (0, .nameAndType 24 25), (0, u "standsForLocal"), (0, u "()Z"), (0, .class_ 27), (0, u "com/example/urd/urd/policy/BindingStandsForLocalPinLaw"), (2, u "law"), (0, u "(I)Z")] 7

def k1m0 : Method := { name := "<init>", desc := "()V", sig := { parameters := [], returnType := none }, accessFlags := 2, code := none }
def k1c1 : Code := { maxStack := 2, maxLocals := 4, code := code, exceptionTable := #[], attributes := #[] }
def k1m1 : Method := { name := "law", desc := "(I)Z", sig := { parameters := [.int], returnType := some .boolean }, accessFlags := 9, code := some k1c1 }
/-- com/example/urd/urd/policy/BindingStandsForLocalPinLaw -/
def k1 : Class := { plain "com/example/urd/urd/policy/BindingStandsForLocalPinLaw" (some 0) with
  accessFlags := 49
  interfaces := #[]
  cf := some (fileOf pool1 26 #[] #[{ accessFlags := 2, nameIndex := 5, descriptorIndex := 6, attributes := #[] }, { accessFlags := 9, nameIndex := 30, descriptorIndex := 31, attributes := #[] }] 49 2 #[] #[])
  fields := #[]
  methods := #[k1m0, k1m1]
  instanceTypes := #[]
  staticTypes := #[]
  resolved := Array.replicate 39 none
  statics := none }

def pool2 : Array CpInfo := pool [(1, .class_ 2), (0, u "java/lang/constant/Constable"), (0, .class_ 4), (0, u "java/lang/Object")] 6

/-- java/lang/constant/Constable -/
def k2 : Class := { plain "java/lang/constant/Constable" (some 0) with
  accessFlags := 1537
  interfaces := #[]
  cf := some (fileOf pool2 1 #[] #[] 1537 3 #[] #[])
  fields := #[]
  methods := #[]
  instanceTypes := #[]
  staticTypes := #[]
  resolved := Array.replicate 11 none
  statics := none }

def pool3 : Array CpInfo := pool [(1, .class_ 2), (0, u "java/lang/Comparable"), (0, .class_ 4), (0, u "java/lang/Object")] 7

/-- java/lang/Comparable -/
def k3 : Class := { plain "java/lang/Comparable" (some 0) with
  accessFlags := 1537
  interfaces := #[]
  cf := some (fileOf pool3 1 #[] #[] 1537 3 #[] #[])
  fields := #[]
  methods := #[]
  instanceTypes := #[]
  staticTypes := #[]
  resolved := Array.replicate 12 none
  statics := none }

def pool4 : Array CpInfo := pool [(1, .class_ 2), (0, u "java/io/Serializable"), (0, .class_ 4), (0, u "java/lang/Object")] 2

/-- java/io/Serializable -/
def k4 : Class := { plain "java/io/Serializable" (some 0) with
  accessFlags := 1537
  interfaces := #[]
  cf := some (fileOf pool4 1 #[] #[] 1537 3 #[] #[])
  fields := #[]
  methods := #[]
  instanceTypes := #[]
  staticTypes := #[]
  resolved := Array.replicate 7 none
  statics := none }

def pool5 : Array CpInfo := pool [(2, .class_ 4), (1, u "java/lang/Enum"), (0, u "name"), (0, u "Ljava/lang/String;"), (2, u "ordinal"), (0, u "I"), (1, .class_ 14), (1, u "java/lang/Object"), (4, u "hash"), (86, .class_ 108), (1, u "java/lang/Enum$EnumDesc"), (2, .class_ 112), (0, u "java/lang/constant/Constable"), (0, .class_ 114), (0, u "java/lang/Comparable"), (0, .class_ 116), (0, u "java/io/Serializable")] 87

/-- java/lang/Enum -/
def k5 : Class := { plain "java/lang/Enum" (some 0) with
  accessFlags := 1057
  interfaces := #[2, 3, 4]
  cf := some (fileOf pool5 2 #[.nestMembers #[106]] #[] 1057 12 #[111, 113, 115] #[{ accessFlags := 18, nameIndex := 5, descriptorIndex := 6, attributes := #[] }, { accessFlags := 18, nameIndex := 9, descriptorIndex := 10, attributes := #[] }, { accessFlags := 2, nameIndex := 19, descriptorIndex := 10, attributes := #[] }])
  fields := #[{ name := "name", type := (.object "java/lang/String"), accessFlags := 18, slot := 0, constantValue := 0 }, { name := "ordinal", type := .int, accessFlags := 18, slot := 1, constantValue := 0 }, { name := "hash", type := .int, accessFlags := 2, slot := 2, constantValue := 0 }]
  methods := #[]
  instanceTypes := #[(.object "java/lang/String"), .int, .int]
  staticTypes := #[]
  resolved := Array.replicate 204 none
  statics := none }

def pool6 : Array CpInfo := pool [(1, .class_ 2), (0, u "com/example/urd/urd/policy/Namespaces$Binding"), (2, u "GLOBAL"), (0, u "Lcom/example/urd/urd/policy/Namespaces$Binding;"), (0, .fieldref 1 8), (0, .nameAndType 9 6), (0, u "LOCAL"), (0, .fieldref 1 11), (0, .nameAndType 12 6), (0, u "BOTH"), (2, u "NONE"), (2, u "$VALUES"), (0, u "[Lcom/example/urd/urd/policy/Namespaces$Binding;"), (6, .class_ 28), (1, u "java/lang/Enum"), (23, u "()Z"), (1, u "standsForLocal"), (5, .class_ 61), (0, u "com/example/urd/urd/policy/Namespaces")] 2

def k6c0 : Code := { maxStack := 2, maxLocals := 1, code := prog_50_method_5_code, exceptionTable := #[], attributes := #[] }
def k6m0 : Method := { name := "standsForLocal", desc := "()Z", sig := { parameters := [], returnType := some .boolean }, accessFlags := 1, code := some k6c0 }
/-- com/example/urd/urd/policy/Namespaces$Binding -/
def k6 : Class := { plain "com/example/urd/urd/policy/Namespaces$Binding" (some 5) with
  accessFlags := 16433
  interfaces := #[]
  cf := some (fileOf pool6 1 #[.nestHost 60] #[{ accessFlags := 1, nameIndex := 54, descriptorIndex := 52, attributes := #[] }] 16433 26 #[] #[{ accessFlags := 16409, nameIndex := 5, descriptorIndex := 6, attributes := #[] }, { accessFlags := 16409, nameIndex := 9, descriptorIndex := 6, attributes := #[] }, { accessFlags := 16409, nameIndex := 12, descriptorIndex := 6, attributes := #[] }, { accessFlags := 16409, nameIndex := 15, descriptorIndex := 6, attributes := #[] }, { accessFlags := 4122, nameIndex := 18, descriptorIndex := 19, attributes := #[] }])
  fields := #[{ name := "GLOBAL", type := (.object "com/example/urd/urd/policy/Namespaces$Binding"), accessFlags := 16409, slot := 0, constantValue := 0 }, { name := "LOCAL", type := (.object "com/example/urd/urd/policy/Namespaces$Binding"), accessFlags := 16409, slot := 1, constantValue := 0 }, { name := "BOTH", type := (.object "com/example/urd/urd/policy/Namespaces$Binding"), accessFlags := 16409, slot := 2, constantValue := 0 }, { name := "NONE", type := (.object "com/example/urd/urd/policy/Namespaces$Binding"), accessFlags := 16409, slot := 3, constantValue := 0 }, { name := "$VALUES", type := (.array (.object "com/example/urd/urd/policy/Namespaces$Binding")), accessFlags := 4122, slot := 4, constantValue := 0 }]
  methods := #[k6m0]
  instanceTypes := #[(.object "java/lang/String"), .int, .int]
  staticTypes := #[(.object "com/example/urd/urd/policy/Namespaces$Binding"), (.object "com/example/urd/urd/policy/Namespaces$Binding"), (.object "com/example/urd/urd/policy/Namespaces$Binding"), (.object "com/example/urd/urd/policy/Namespaces$Binding"), (.array (.object "com/example/urd/urd/policy/Namespaces$Binding"))]
  resolved := Array.replicate 64 none
  statics := some 0 }

def pool7 : Array CpInfo := pool [(1, u "java/lang/Cloneable"), (0, .class_ 1), (0, u "java/lang/Object"), (0, .class_ 3)] 3

/-- java/lang/Cloneable -/
def k7 : Class := { plain "java/lang/Cloneable" (some 0) with
  accessFlags := 1537
  interfaces := #[]
  cf := some (fileOf pool7 2 #[] #[] 1537 4 #[] #[])
  fields := #[]
  methods := #[]
  instanceTypes := #[]
  staticTypes := #[]
  resolved := Array.replicate 8 none
  statics := none }

/-- the primitive byte -/
def k8 : Class := { plain "byte" none with kind := .primitive 'B', accessFlags := 0x411 }
/-- [B -/
def k9 : Class := { plain "[B" (some 0) with kind := .array 8 .byte, interfaces := #[7, 4], accessFlags := 1041 }

/-- the primitive int -/
def k10 : Class := { plain "int" none with kind := .primitive 'I', accessFlags := 0x411 }
/-- [I -/
def k11 : Class := { plain "[I" (some 0) with kind := .array 10 .int, interfaces := #[7, 4], accessFlags := 1041 }

def heap : Heap := #[{ cls := 6, slots := #[.ref 1, .ref 2, .ref 3, .ref 4, .null], vm := .statics 6 },
  { cls := 6, slots := #[.null, .int 0, .int 0], vm := .none },
  { cls := 6, slots := #[.null, .int 1, .int 0], vm := .none },
  { cls := 6, slots := #[.null, .int 2, .int 0], vm := .none },
  { cls := 6, slots := #[.null, .int 3, .int 0], vm := .none }]
def classes : Array Class := #[k0, k1, k2, k3, k4, k5, k6, k7, k8, k9, k10, k11]
def interned : List (Array UInt16 × Addr) := []
def slotsUsed : Nat := 17
def theMethod : MethodId := ⟨1, 1⟩
def args0 : Array Value := #[.int 5]
def aboutOver (below : List Frame) : State where
  vm := { classes := classes, interned := interned.toArray }
  heap := heap
  slotsUsed := slotsUsed
  threads := #[{ frames := .invoking theMethod args0 :: below }]
def below0 : List Frame := [.native { method := ⟨0, 0⟩, args := #[] }]
def about1 : State := aboutOver below0
def p0 : Program := .bare "" "" ""
def e0 : Env := launch0.env 0 0 0
theorem w_frames : about1.frames = Frame.invoking theMethod args0 :: below0 := rfl
set_option maxRecDepth 65536 in
theorem w_args : argsFit about1.vm theMethod args0 = true := by decide +kernel
set_option maxRecDepth 65536 in
theorem w_heap : heapFits about1 = true := by decide +kernel
set_option maxRecDepth 65536 in
theorem w_runnable : about1.curStatus? = some .runnable := by decide +kernel
set_option maxRecDepth 65536 in
theorem w_alone : about1.alone = true := by decide +kernel
set_option maxRecDepth 65536 in
theorem w_named : about1.methodNamed? x = some theMethod := by decide +kernel
set_option maxRecDepth 65536 in
theorem w_hears : about1.hears theMethod below0 = true := by decide +kernel
set_option maxRecDepth 65536 in
theorem w_ripe : about1.ripe theMethod args0 below0 = true := by decide +kernel
theorem w_running : about1.status = .running := rfl
set_option maxRecDepth 65536 in
theorem w_room : about1.hasRoom e0.platform room_1 = true :=
  launch0.hasRoom_least _ room_1 (by decide +kernel) (by decide +kernel) (by decide +kernel) (by decide +kernel) (by decide +kernel) (by decide +kernel)
theorem allAtoms_all (ts : List Jvm.Cond) (a : Array Jvm.Value) (st : Jvm.State) : (allAtoms ts).before a st = ts.all (fun c => c.before a st) := by
  induction ts with
  | nil => rfl
  | cons c t ih =>
    show (Jvm.Cond.and c (allAtoms t)).before a st = _
    rw [Jvm.Cond.before_and, ih, List.all_cons]
def words1 : List Jvm.Cond := Jvm.Cond.code x code maxLocals ret :: tables_1
/-- a 'code' word, met by the world's own term for the bytes: nothing is compared byte by byte -/
theorem code_word {y : MethodName} {bytes : ByteArray} {mx : Nat} {rt : Option FieldType} {a : Array Value} {s : State} {m : MethodId} {meth : Method} {c : Code} (h1 : s.methodNamed? y = some m) (h2 : s.vm.method? m = some meth) (h3 : meth.code = some c) (h4 : c.code = bytes)
    (h5 : (c.maxLocals == mx && c.exceptionTable.isEmpty && decide (c.maxStack ≤ mostOperands) && decide (meth.sig.returnType = rt) && !meth.locks && decide (parseMethodDescriptor y.desc = some meth.sig)) = true) : (Jvm.Cond.code y bytes mx rt).before a s = true := by
  simp only [Bool.and_eq_true, beq_iff_eq, Bool.not_eq_true', decide_eq_true_eq] at h5
  obtain ⟨⟨⟨⟨⟨g1, g2⟩, g3⟩, g4⟩, g5⟩, g6⟩ := h5
  simp [Cond.before, Cond.holds, Cond.value, h1, h2, h3, h4, g1, g2, g3, g4, g5, g6]
def isCode : Jvm.Cond → Bool
  | .code _ _ _ _ => true
  | _ => false
theorem all_split {L : List Jvm.Cond} {P : Jvm.Cond → Bool} (h1 : L.all (fun c => isCode c || P c) = true) (h2 : ∀ c ∈ L.filter isCode, P c = true) : L.all P = true := by
  refine List.all_eq_true.mpr fun c hc => ?_
  have h := List.all_eq_true.mp h1 c hc
  rcases Bool.eq_false_or_eq_true (isCode c) with hi | hi
  · exact h2 c (List.mem_filter.mpr ⟨hc, hi⟩)
  · simpa [hi] using h
set_option maxRecDepth 65536 in
theorem w_c0 : (Jvm.Cond.code x code maxLocals ret).before args0 about1 = true := code_word (m := ⟨1, 1⟩) (meth := k1m1) (c := k1c1) (by decide +kernel) rfl rfl rfl (by decide +kernel)
set_option maxRecDepth 65536 in
theorem w_c1 : (Jvm.Cond.code ({ cls := "com/example/urd/urd/policy/Namespaces$Binding", name := "standsForLocal", desc := "()Z" } : Jvm.MethodName) prog_50_method_5_code (1 : Nat) (Option.some Jvm.ClassFile.FieldType.boolean)).before args0 about1 = true := code_word (m := ⟨6, 0⟩) (meth := k6m0) (c := k6c0) (by decide +kernel) rfl rfl rfl (by decide +kernel)
def codes1 : List Jvm.Cond := [Jvm.Cond.code x code maxLocals ret, Jvm.Cond.code ({ cls := "com/example/urd/urd/policy/Namespaces$Binding", name := "standsForLocal", desc := "()Z" } : Jvm.MethodName) prog_50_method_5_code (1 : Nat) (Option.some Jvm.ClassFile.FieldType.boolean)]
set_option maxRecDepth 65536 in
theorem codes_eq : words1.filter isCode = codes1 := rfl
theorem w_codes : ∀ c ∈ words1.filter isCode, c.before args0 about1 = true := by
  rw [codes_eq]
  intro c hc
  simp only [codes1, List.mem_cons, List.not_mem_nil, or_false] at hc
  rcases hc with rfl | rfl
  · exact w_c0
  · exact w_c1
set_option maxRecDepth 65536 in
theorem w_t1 : words1.all (fun c => isCode c || c.before args0 about1) = true := by decide +kernel
theorem w_tables : (allAtoms (Jvm.Cond.code x code maxLocals ret :: tables_1)).before args0 about1 = true := by
  rw [allAtoms_all]
  show words1.all (fun c => c.before args0 about1) = true
  refine all_split ?_ w_codes
  rw [w_t1]
set_option maxRecDepth 65536 in
theorem w_case : (Jvm.Cond.and given_1 narrow_1).before args0 about1 = true := by decide +kernel
theorem w_applies : (headSpec (Jvm.Cond.code x code maxLocals ret :: tables_1) room_1).applies x e0.platform about1 = true :=
  (Spec.applies_iff w_frames).mpr ⟨w_running, w_runnable, w_alone, w_named, w_hears, w_ripe, w_room, w_tables⟩
theorem atStart : AtStart classFile x code maxLocals ret World_1 tables_1 room_1 Calls_1 rest_1 Pre_1 launch0 p0 e0 about1 theMethod args0 below0 :=
  ⟨lists_1, trivial, launch0.admits_env _ _ _, launch0.least_env, fairChoices_fair.cas, fairChoices_fair.clock, w_frames, w_args, w_heap, w_applies, trivial, trivial, w_case⟩
end start1
theorem witness_1 : WitnessClaimed_1 := ⟨start1.p0, start1.e0, start1.about1, start1.theMethod, start1.args0, start1.below0, start1.atStart⟩
end Jvm.Pilot.@@N@@
