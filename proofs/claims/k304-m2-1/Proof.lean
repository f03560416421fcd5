import JvmDerived
import JvmDerived.Pilot.@@N@@Statement
import JvmDerived.Pilot.@@N@@Code
set_option linter.unusedVariables false
set_option linter.unusedSimpArgs false
namespace Jvm.RoadKit
open Sem ClassFile Op Lib Jvm.Stand Jvm.Free Jvm.LawKit
section New
variable {p : Program} {l : Launch} {e : Env} {R : Room} {s : State} {m : MethodId} {args : Array Value} {below : List Frame} {meth : Method} {c : Code} {T : State} {locs : List Loc} {cells slots : Nat}
theorem retI (X : Stand p l e R s m args below meth c T locs cells slots) (hx : p.tables.exec = Jvm.exec) {pc : Nat} {Ls : Array Slot} {z : Int32} {rest : List Value} (hret : meth.sig.returnType = some .int) (hd : decode c.code pc = .ok (.ireturn, 1)) {fs : List Frame}
    (hl : ∀ (f : JFrame) (acts : List Action), f.method = m → f.locked = none → f.entered = [] → (doReturn e (T.setTop f) acts (some (.int z))).1 = T.setFrames fs) : Steps p.tables e below (T.setTop (mkF m pc Ls (.int z :: rest))) (T.setFrames fs) := by
  have hm' : T.vm.method? m = some meth := X.method'
  have hn : narrow .int (.int z) = .int z := rfl
  show Steps p.tables e below (T.setTop { method := m, pc := pc, locals := Ls, stack := _ :: rest, locked := none }) _
  jvm_step X.here [X.here.top, hx, hd, hm', hret, hn]
  first | (intro acts; rw [hl _ acts rfl rfl rfl]) | rw [hl _ _ rfl rfl rfl]
  exact Steps.refl _
end New
end Jvm.RoadKit
namespace Jvm.Pilot.@@N@@
open Jvm Jvm.ClassFile Sem Op Lib Jvm.Free Jvm.Stand Jvm.LawKit Jvm.RoadKit Bundle Jvm.Pilot.@@N@@.Jvm.D

theorem own_and_bd (x m : Int32) (hm : 0 ≤ m.toInt) : 0 ≤ (x &&& m).toInt ∧ (x &&& m).toInt ≤ m.toInt := by
  have e : (x &&& m).toBitVec.toNat = x.toBitVec.toNat &&& m.toBitVec.toNat := by
    show (x.toBitVec &&& m.toBitVec).toNat = _
    rw [BitVec.toNat_and]
  have l1 : x.toBitVec.toNat &&& m.toBitVec.toNat ≤ m.toBitVec.toNat := Nat.and_le_right
  change 0 ≤ m.toBitVec.toInt at hm
  show 0 ≤ (x &&& m).toBitVec.toInt ∧ (x &&& m).toBitVec.toInt ≤ m.toBitVec.toInt
  rw [BitVec.toInt_eq_toNat_cond] at hm ⊢
  rw [BitVec.toInt_eq_toNat_cond, e]
  have := m.toBitVec.isLt
  split at hm <;> split <;> (try split) <;> omega
theorem own_int_of {x : Int32} {k : Int} (h : x.toInt = k) : x = Int32.ofInt k := by
  rw [← h]; exact (Int32.ofInt_toInt x).symm
theorem own_rem_bd (x y : Int32) (hx : 0 ≤ x.toInt) (hy : 0 < y.toInt) : 0 ≤ (x % y).toInt ∧ (x % y).toInt < y.toInt := by
  have e : (x % y).toInt = x.toInt.tmod y.toInt := by
    first | exact Int32.toInt_mod x y | exact Int32.toInt_srem x y | simp
  rw [e]
  exact ⟨Int.tmod_nonneg _ hx, Int.tmod_lt_of_pos _ hy⟩
theorem own_len {args : Array Value} {s : State} {t : Term} {a : Addr} {cl : Cell} {ty : FieldType} {n : Int32} (ht : t.eval args s none [] s = some (.ref a)) (A : Arr s s.heap a cl ty) (h : (Jvm.Cond.eq (Term.length t) (Term.int n)).value args s none s [] = some true) : cl.slots.size < 2 ^ 31 ∧ cl.slots.size.toInt32 = n := by
  have hA : s.arrayAt? a = some cl := Arr.fin (Vm.Alike.refl _) A
  by_cases q : cl.slots.size < 2 ^ 31
  · refine ⟨q, ?_⟩
    have e := len_f ht hA q
    have e2 : (Term.int n).eval args s none [] s = some (.int n) := rfl
    simp only [Jvm.Cond.value, e, e2] at h
    simpa using h
  · exfalso
    have e : (Term.length t).eval args s none [] s = none := by simp [Term.eval, ht, hA, q]
    simp [Jvm.Cond.value, e] at h
theorem own_elem {args : Array Value} {s : State} {t u : Term} {a : Addr} {cl : Cell} {ty : FieldType} {j : Int32} {i : Nat} {v : Value} (ht : t.eval args s none [] s = some (.ref a)) (A : Arr s s.heap a cl ty) (h : (Jvm.Cond.eq (Term.elem t (Term.int j)) u).value args s none s [] = some true) (hu : u.eval args s none [] s = some v) (hi : j.toNatClampNeg = i) : cl.slots[i]? = some v := by
  subst hi
  obtain ⟨x, y, e1, e2, -, -⟩ := cmp_v (Or.inl h)
  cases hu.symm.trans e2
  have q := elem_in e1 ht (Term.int_eval j) A.1
  simp only [Jvm.Cond.value, e1, hu] at h
  rw [q.2]
  cases x <;> cases v <;> simp_all
theorem own_sta_keep0 {Z : State} {h h' : Heap} {C n d : String} {v : Value} (F : Sta Z h C n d v) (K : Keep h h' []) : Sta Z h' C n d v := by
  obtain ⟨cf, i, k, f, st, cell, h1, h2, h3, h4, h5, r⟩ := F
  exact ⟨cf, i, k, f, st, cell, h1, h2, h3, h4, K.2.1 st cell h5 nin0, r⟩
theorem own_fld_int {args : Array Value} {s : State} {t : Term} {C n d : String} {k : Int32} {x : Addr} (ht : t.eval args s none [] s = some (.ref x)) (h : (Jvm.Cond.eq (Term.field t C n d) (Term.int k)).value args s none s [] = some true) : Fld s s.heap x C n d (.int k) := by
  obtain ⟨v, w, e1, e2, -, -⟩ := cmp_v (Or.inl h)
  rw [fld_at ht] at e1
  have e2' : some (Value.int k) = some w := e2
  cases e2'
  have h' := h
  simp only [Jvm.Cond.value, fld_at ht, e1, e2] at h'
  cases v <;> simp at h'
  subst h'
  exact Fld.start e1
theorem own_fld_ref {args : Array Value} {s : State} {t u : Term} {C n d : String} {x y : Addr} (ht : t.eval args s none [] s = some (.ref x)) (hu : u.eval args s none [] s = some (.ref y)) (h : (Jvm.Cond.eq (Term.field t C n d) u).value args s none s [] = some true) : Fld s s.heap x C n d (.ref y) := by
  obtain ⟨v, w, e1, e2, -, -⟩ := cmp_v (Or.inl h)
  rw [fld_at ht] at e1
  cases hu.symm.trans e2
  have h' := h
  simp only [Jvm.Cond.value, fld_at ht, e1, hu] at h'
  cases v <;> simp at h'
  subst h'
  exact Fld.start e1
def own_same (a b : Addr) : Int32 := if a = b then 1 else 0
theorem own_idx (x : Int32) : ((x &&& (2147483647 : Int32)) % (12 : Int32)) = (0 : Int32) ∨ ((x &&& (2147483647 : Int32)) % (12 : Int32)) = (1 : Int32) ∨ ((x &&& (2147483647 : Int32)) % (12 : Int32)) = (2 : Int32) ∨ ((x &&& (2147483647 : Int32)) % (12 : Int32)) = (3 : Int32) ∨ ((x &&& (2147483647 : Int32)) % (12 : Int32)) = (4 : Int32) ∨ ((x &&& (2147483647 : Int32)) % (12 : Int32)) = (5 : Int32) ∨ ((x &&& (2147483647 : Int32)) % (12 : Int32)) = (6 : Int32) ∨ ((x &&& (2147483647 : Int32)) % (12 : Int32)) = (7 : Int32) ∨ ((x &&& (2147483647 : Int32)) % (12 : Int32)) = (8 : Int32) ∨ ((x &&& (2147483647 : Int32)) % (12 : Int32)) = (9 : Int32) ∨ ((x &&& (2147483647 : Int32)) % (12 : Int32)) = (10 : Int32) ∨ ((x &&& (2147483647 : Int32)) % (12 : Int32)) = (11 : Int32) := by
  obtain ⟨a, b⟩ : 0 ≤ (((x &&& (2147483647 : Int32)) % (12 : Int32))).toInt ∧ (((x &&& (2147483647 : Int32)) % (12 : Int32))).toInt ≤ 11 := (fun q => ⟨q.1, Int.lt_add_one_iff.mp q.2⟩) (own_rem_bd (x &&& (2147483647 : Int32)) (12 : Int32) (own_and_bd x 2147483647 (by decide)).1 (by decide))
  generalize ((x &&& (2147483647 : Int32)) % (12 : Int32)) = z at a b ⊢
  have q : z.toInt = 0 ∨ z.toInt = 1 ∨ z.toInt = 2 ∨ z.toInt = 3 ∨ z.toInt = 4 ∨ z.toInt = 5 ∨ z.toInt = 6 ∨ z.toInt = 7 ∨ z.toInt = 8 ∨ z.toInt = 9 ∨ z.toInt = 10 ∨ z.toInt = 11 := by omega
  rcases q with q | q | q | q | q | q | q | q | q | q | q | q
  · exact Or.inl (own_int_of q)
  · exact Or.inr (Or.inl (own_int_of q))
  · exact Or.inr (Or.inr (Or.inl (own_int_of q)))
  · exact Or.inr (Or.inr (Or.inr (Or.inl (own_int_of q))))
  · exact Or.inr (Or.inr (Or.inr (Or.inr (Or.inl (own_int_of q)))))
  · exact Or.inr (Or.inr (Or.inr (Or.inr (Or.inr (Or.inl (own_int_of q))))))
  · exact Or.inr (Or.inr (Or.inr (Or.inr (Or.inr (Or.inr (Or.inl (own_int_of q)))))))
  · exact Or.inr (Or.inr (Or.inr (Or.inr (Or.inr (Or.inr (Or.inr (Or.inl (own_int_of q))))))))
  · exact Or.inr (Or.inr (Or.inr (Or.inr (Or.inr (Or.inr (Or.inr (Or.inr (Or.inl (own_int_of q)))))))))
  · exact Or.inr (Or.inr (Or.inr (Or.inr (Or.inr (Or.inr (Or.inr (Or.inr (Or.inr (Or.inl (own_int_of q))))))))))
  · exact Or.inr (Or.inr (Or.inr (Or.inr (Or.inr (Or.inr (Or.inr (Or.inr (Or.inr (Or.inr (Or.inl (own_int_of q)))))))))))
  · exact Or.inr (Or.inr (Or.inr (Or.inr (Or.inr (Or.inr (Or.inr (Or.inr (Or.inr (Or.inr (Or.inr (own_int_of q)))))))))))
theorem own_pn_2 : plainName "com/example/cascade_persist/cascadepersist/ColumnType" = true := by first | (simp [plainName, overriddenIn]; done) | decide +kernel
theorem d2_0 : decode prog_5_method_8_code 0 = .ok (.aload_n 0, 1) := by decide +kernel
theorem d2_1 : decode prog_5_method_8_code 1 = .ok (.getfield 66, 3) := by decide +kernel
theorem d2_4 : decode prog_5_method_8_code 4 = .ok (.getstatic 179, 3) := by decide +kernel
theorem d2_7 : decode prog_5_method_8_code 7 = .ok (.if_acmp .ne 7, 3) := by decide +kernel
theorem d2_10 : decode prog_5_method_8_code 10 = .ok (.iconst 1, 1) := by decide +kernel
theorem d2_11 : decode prog_5_method_8_code 11 = .ok (.goto 4, 3) := by decide +kernel
theorem d2_15 : decode prog_5_method_8_code 15 = .ok (.ireturn, 1) := by decide +kernel
theorem d2_14 : decode prog_5_method_8_code 14 = .ok (.iconst 0, 1) := by decide +kernel
def own_rm_takesLength_Q (Z : State) (a : Addr) (sz wS : Addr) (h0 : Heap) (n0 : Nat) (v : Option Value) (h : Heap) (L : List Loc) : Prop := v = some (.int (own_same sz wS)) ∧ Fr n0 L ∧ h = h0
set_option maxRecDepth 65536 in
set_option maxHeartbeats 40000000 in
theorem own_rm_takesLength (l : Launch) (Z : State) (a0 : Array Value) (hw : ∀ d ∈ tables_1, d.before a0 Z = true) (ws : List Jvm.Cond) (a : Addr) (sz wS : Addr) (h0 : Heap) (n0 : Nat) (Z0 : n0 ≤ h0.size) (F : Fld Z h0 a "com/example/cascade_persist/cascadepersist/ColumnType" "size" "Lcom/example/cascade_persist/cascadepersist/ColumnType$Size;" (.ref sz)) (S : Sta Z h0 "com/example/cascade_persist/cascadepersist/ColumnType$Size" "LENGTH" "Lcom/example/cascade_persist/cascadepersist/ColumnType$Size;" (.ref wS)) :
    MetFree l (⟨"com/example/cascade_persist/cascadepersist/ColumnType", "takesLength", "()Z"⟩ : MethodName) (head1 (Jvm.Cond.code (⟨"com/example/cascade_persist/cascadepersist/ColumnType", "takesLength", "()Z"⟩ : MethodName) prog_5_method_8_code 1 (some .boolean) :: ws) ({ frames := 0, cells := 0, slots := 0, locals := 0 } : Room)) (fun aa UU => aa = #[(.ref a)] ∧ Z.Warmed39 UU.vm ∧ UU.heap = h0) (fun _ _ _ _ _ => True) (fun _ UU oo UU' => ∃ vv LL, oo = .returned vv ∧ own_rm_takesLength_Q Z a sz wS h0 n0 vv UU'.heap LL ∧ FrameEnd UU oo UU' LL ({ frames := 0, cells := 0, slots := 0, locals := 0 } : Room).cells ({ frames := 0, cells := 0, slots := 0, locals := 0 } : Room).slots) := by
  refine MetFree.of_bodySF (plainFor_of_name own_pn_2) hisR ?_
  intro p e s m args below meth cc s₁ Bd hml0 hP hK
  obtain ⟨rfl, hZ, hh⟩ := hP
  have hx := Bd.exec
  have hby := Bd.bytes
  have hml : cc.maxLocals = 1 := hml0
  have hown : s.vm.findClass "com/example/cascade_persist/cascadepersist/ColumnType" = some m.cls := findClass_of_methodNamed Bd.named
  have hnm := (name_of_methodNamed Bd.named Bd.method).1
  have X0 : Stand p l e ({ frames := 0, cells := 0, slots := 0, locals := 0 } : Room) s m #[(.ref a)] below meth cc s₁ [] 0 0 := Stand.of_body Bd
  have e0 : s₁.heap = h0 := by rw [← hh, Bd.state]; rfl
  have N0 := Fr.nil n0
  have k0 : ∀ tt, Steps p.tables e below (s₁.setTop (mkF m 0 #[.val (.ref a)] [])) tt → Steps p.tables e below (s₁.setTop (entryFrame m #[(.ref a)] 1)) tt := fun tt kk => castTop (by first | (simp [entryFrame, mkF, argsToLocals, Value.category]; done) | rfl) kk
  obtain ⟨T1, X1, e1, st1⟩ := getF X0 hx hZ hown (host := "") (Or.inl (hw _ (List.mem_of_getElem? (i := 34) rfl))) Via.refl e0 F (g := (mkF m 1 #[.val (.ref a)] [(.ref a)])) rfl rfl (hb hby d2_1)
  obtain ⟨T2, X2, e2, st2⟩ := getS2 X1 hx hZ hown (host := "") (Or.inl (hw _ (List.mem_of_getElem? (i := 45) rfl))) Via.refl e1 S (g := (mkF m 4 #[.val (.ref a)] [(.ref sz)])) rfl (hb hby d2_4)
  have k3 : ∀ tt, Steps p.tables e below (T2.setTop (mkF m 7 #[.val (.ref a)] [(.ref wS), (.ref sz)])) tt → Steps p.tables e below (s₁.setTop (entryFrame m #[(.ref a)] 1)) tt := by
    intro tt kk
    refine k0 tt ?_
    show Steps p.tables e below (s₁.setTop (mkF m 0 #[.val (.ref a)] [])) tt
    refine XS.aloadN X0.here hx rfl (hb hby d2_0) rfl rfl ?_
    show Steps p.tables e below (s₁.setTop (mkF m 1 #[.val (.ref a)] [(.ref a)])) tt
    refine st1 _ ?_
    show Steps p.tables e below (T1.setTop (mkF m 4 #[.val (.ref a)] [(.ref sz)])) tt
    refine st2 _ ?_
    exact kk
  by_cases c7_4 : sz = wS
  · have k5 : ∀ tt, Steps p.tables e below (T2.setTop (mkF m 15 #[.val (.ref a)] [(.int (1 : Int32))])) tt → Steps p.tables e below (s₁.setTop (entryFrame m #[(.ref a)] 1)) tt := by
      intro tt kk
      refine k3 tt ?_
      show Steps p.tables e below (T2.setTop (mkF m 7 #[.val (.ref a)] [(.ref wS), (.ref sz)])) tt
      refine Jvm.RoadKit.acmp (g := (mkF m 7 #[.val (.ref a)] [(.ref wS), (.ref sz)])) X2 hx rfl rfl rfl (pc0 := 7) (pc' := 10) (same := true) rfl (hb hby d2_7) rfl (decide_eq_true (congrArg Value.ref (c7_4))) (by decide) (by decide) ?_
      show Steps p.tables e below (T2.setTop (mkF m 10 #[.val (.ref a)] [])) tt
      refine XS.iconst X2.here hx rfl (hb hby d2_10) ?_
      show Steps p.tables e below (T2.setTop (mkF m 11 #[.val (.ref a)] [(.int (1 : Int32))])) tt
      refine XS.goto X2.here hx rfl (pc0 := 11) (pc' := 15) rfl (hb hby d2_11) (by decide) (by decide) ?_
      exact kk
    obtain ⟨fs, hr, hrun, hended, hW, hsame⟩ := X2.leave (v := some (.int (1 : Int32))) (fun hq => by rw [Bd.returns] at hq; cases hq)
    refine ⟨_, _, k5 _ ?_, hrun, hended, _, _, rfl, ?_, ⟨_, rfl⟩, hW, hsame.mono (by decide) (by decide)⟩
    · show Steps p.tables e below (T2.setTop (mkF m 15 #[.val (.ref a)] [(.int (1 : Int32))])) _
      exact retN X2 hx (t := .boolean) Bd.returns (by simp) (hb hby d2_15) hr
    · show (fun (v : Option Value) (h : Heap) (L : List Loc) => v = some (.int (own_same sz wS)) ∧ Fr n0 L ∧ h = h0) _ T2.heap _
      rw [e2]
      dsimp only
      refine ⟨?_, N0, rfl⟩
      simp [own_same, c7_4]
  · have k6 : ∀ tt, Steps p.tables e below (T2.setTop (mkF m 15 #[.val (.ref a)] [(.int (0 : Int32))])) tt → Steps p.tables e below (s₁.setTop (entryFrame m #[(.ref a)] 1)) tt := by
      intro tt kk
      refine k3 tt ?_
      show Steps p.tables e below (T2.setTop (mkF m 7 #[.val (.ref a)] [(.ref wS), (.ref sz)])) tt
      refine Jvm.RoadKit.acmp (g := (mkF m 7 #[.val (.ref a)] [(.ref wS), (.ref sz)])) X2 hx rfl rfl rfl (pc0 := 7) (pc' := 14) (same := false) rfl (hb hby d2_7) rfl (decide_eq_false fun q => (c7_4) (Value.ref.inj q)) (by decide) (by decide) ?_
      show Steps p.tables e below (T2.setTop (mkF m 14 #[.val (.ref a)] [])) tt
      refine XS.iconst X2.here hx rfl (hb hby d2_14) ?_
      exact kk
    obtain ⟨fs, hr, hrun, hended, hW, hsame⟩ := X2.leave (v := some (.int (0 : Int32))) (fun hq => by rw [Bd.returns] at hq; cases hq)
    refine ⟨_, _, k6 _ ?_, hrun, hended, _, _, rfl, ?_, ⟨_, rfl⟩, hW, hsame.mono (by decide) (by decide)⟩
    · show Steps p.tables e below (T2.setTop (mkF m 15 #[.val (.ref a)] [(.int (0 : Int32))])) _
      exact retN X2 hx (t := .boolean) Bd.returns (by simp) (hb hby d2_15) hr
    · show (fun (v : Option Value) (h : Heap) (L : List Loc) => v = some (.int (own_same sz wS)) ∧ Fr n0 L ∧ h = h0) _ T2.heap _
      rw [e2]
      dsimp only
      refine ⟨?_, N0, rfl⟩
      simp [own_same, c7_4]
theorem own_pn_1 : plainName "com/example/cascade_persist/cascadepersist/ColumnType" = true := by first | (simp [plainName, overriddenIn]; done) | decide +kernel
theorem d1_0 : decode prog_5_method_9_code 0 = .ok (.aload_n 0, 1) := by decide +kernel
theorem d1_1 : decode prog_5_method_9_code 1 = .ok (.getfield 66, 3) := by decide +kernel
theorem d1_4 : decode prog_5_method_9_code 4 = .ok (.getstatic 184, 3) := by decide +kernel
theorem d1_7 : decode prog_5_method_9_code 7 = .ok (.if_acmp .ne 7, 3) := by decide +kernel
theorem d1_10 : decode prog_5_method_9_code 10 = .ok (.iconst 1, 1) := by decide +kernel
theorem d1_11 : decode prog_5_method_9_code 11 = .ok (.goto 4, 3) := by decide +kernel
theorem d1_15 : decode prog_5_method_9_code 15 = .ok (.ireturn, 1) := by decide +kernel
theorem d1_14 : decode prog_5_method_9_code 14 = .ok (.iconst 0, 1) := by decide +kernel
def own_rm_takesPrecision_Q (Z : State) (a : Addr) (sz wS : Addr) (h0 : Heap) (n0 : Nat) (v : Option Value) (h : Heap) (L : List Loc) : Prop := v = some (.int (own_same sz wS)) ∧ Fr n0 L ∧ h = h0
set_option maxRecDepth 65536 in
set_option maxHeartbeats 40000000 in
theorem own_rm_takesPrecision (l : Launch) (Z : State) (a0 : Array Value) (hw : ∀ d ∈ tables_1, d.before a0 Z = true) (ws : List Jvm.Cond) (a : Addr) (sz wS : Addr) (h0 : Heap) (n0 : Nat) (Z0 : n0 ≤ h0.size) (F : Fld Z h0 a "com/example/cascade_persist/cascadepersist/ColumnType" "size" "Lcom/example/cascade_persist/cascadepersist/ColumnType$Size;" (.ref sz)) (S : Sta Z h0 "com/example/cascade_persist/cascadepersist/ColumnType$Size" "PRECISION" "Lcom/example/cascade_persist/cascadepersist/ColumnType$Size;" (.ref wS)) :
    MetFree l (⟨"com/example/cascade_persist/cascadepersist/ColumnType", "takesPrecision", "()Z"⟩ : MethodName) (head1 (Jvm.Cond.code (⟨"com/example/cascade_persist/cascadepersist/ColumnType", "takesPrecision", "()Z"⟩ : MethodName) prog_5_method_9_code 1 (some .boolean) :: ws) ({ frames := 0, cells := 0, slots := 0, locals := 0 } : Room)) (fun aa UU => aa = #[(.ref a)] ∧ Z.Warmed39 UU.vm ∧ UU.heap = h0) (fun _ _ _ _ _ => True) (fun _ UU oo UU' => ∃ vv LL, oo = .returned vv ∧ own_rm_takesPrecision_Q Z a sz wS h0 n0 vv UU'.heap LL ∧ FrameEnd UU oo UU' LL ({ frames := 0, cells := 0, slots := 0, locals := 0 } : Room).cells ({ frames := 0, cells := 0, slots := 0, locals := 0 } : Room).slots) := by
  refine MetFree.of_bodySF (plainFor_of_name own_pn_1) hisR ?_
  intro p e s m args below meth cc s₁ Bd hml0 hP hK
  obtain ⟨rfl, hZ, hh⟩ := hP
  have hx := Bd.exec
  have hby := Bd.bytes
  have hml : cc.maxLocals = 1 := hml0
  have hown : s.vm.findClass "com/example/cascade_persist/cascadepersist/ColumnType" = some m.cls := findClass_of_methodNamed Bd.named
  have hnm := (name_of_methodNamed Bd.named Bd.method).1
  have X0 : Stand p l e ({ frames := 0, cells := 0, slots := 0, locals := 0 } : Room) s m #[(.ref a)] below meth cc s₁ [] 0 0 := Stand.of_body Bd
  have e0 : s₁.heap = h0 := by rw [← hh, Bd.state]; rfl
  have N0 := Fr.nil n0
  have k0 : ∀ tt, Steps p.tables e below (s₁.setTop (mkF m 0 #[.val (.ref a)] [])) tt → Steps p.tables e below (s₁.setTop (entryFrame m #[(.ref a)] 1)) tt := fun tt kk => castTop (by first | (simp [entryFrame, mkF, argsToLocals, Value.category]; done) | rfl) kk
  obtain ⟨T1, X1, e1, st1⟩ := getF X0 hx hZ hown (host := "") (Or.inl (hw _ (List.mem_of_getElem? (i := 34) rfl))) Via.refl e0 F (g := (mkF m 1 #[.val (.ref a)] [(.ref a)])) rfl rfl (hb hby d1_1)
  obtain ⟨T2, X2, e2, st2⟩ := getS2 X1 hx hZ hown (host := "") (Or.inl (hw _ (List.mem_of_getElem? (i := 38) rfl))) Via.refl e1 S (g := (mkF m 4 #[.val (.ref a)] [(.ref sz)])) rfl (hb hby d1_4)
  have k3 : ∀ tt, Steps p.tables e below (T2.setTop (mkF m 7 #[.val (.ref a)] [(.ref wS), (.ref sz)])) tt → Steps p.tables e below (s₁.setTop (entryFrame m #[(.ref a)] 1)) tt := by
    intro tt kk
    refine k0 tt ?_
    show Steps p.tables e below (s₁.setTop (mkF m 0 #[.val (.ref a)] [])) tt
    refine XS.aloadN X0.here hx rfl (hb hby d1_0) rfl rfl ?_
    show Steps p.tables e below (s₁.setTop (mkF m 1 #[.val (.ref a)] [(.ref a)])) tt
    refine st1 _ ?_
    show Steps p.tables e below (T1.setTop (mkF m 4 #[.val (.ref a)] [(.ref sz)])) tt
    refine st2 _ ?_
    exact kk
  by_cases c7_4 : sz = wS
  · have k5 : ∀ tt, Steps p.tables e below (T2.setTop (mkF m 15 #[.val (.ref a)] [(.int (1 : Int32))])) tt → Steps p.tables e below (s₁.setTop (entryFrame m #[(.ref a)] 1)) tt := by
      intro tt kk
      refine k3 tt ?_
      show Steps p.tables e below (T2.setTop (mkF m 7 #[.val (.ref a)] [(.ref wS), (.ref sz)])) tt
      refine Jvm.RoadKit.acmp (g := (mkF m 7 #[.val (.ref a)] [(.ref wS), (.ref sz)])) X2 hx rfl rfl rfl (pc0 := 7) (pc' := 10) (same := true) rfl (hb hby d1_7) rfl (decide_eq_true (congrArg Value.ref (c7_4))) (by decide) (by decide) ?_
      show Steps p.tables e below (T2.setTop (mkF m 10 #[.val (.ref a)] [])) tt
      refine XS.iconst X2.here hx rfl (hb hby d1_10) ?_
      show Steps p.tables e below (T2.setTop (mkF m 11 #[.val (.ref a)] [(.int (1 : Int32))])) tt
      refine XS.goto X2.here hx rfl (pc0 := 11) (pc' := 15) rfl (hb hby d1_11) (by decide) (by decide) ?_
      exact kk
    obtain ⟨fs, hr, hrun, hended, hW, hsame⟩ := X2.leave (v := some (.int (1 : Int32))) (fun hq => by rw [Bd.returns] at hq; cases hq)
    refine ⟨_, _, k5 _ ?_, hrun, hended, _, _, rfl, ?_, ⟨_, rfl⟩, hW, hsame.mono (by decide) (by decide)⟩
    · show Steps p.tables e below (T2.setTop (mkF m 15 #[.val (.ref a)] [(.int (1 : Int32))])) _
      exact retN X2 hx (t := .boolean) Bd.returns (by simp) (hb hby d1_15) hr
    · show (fun (v : Option Value) (h : Heap) (L : List Loc) => v = some (.int (own_same sz wS)) ∧ Fr n0 L ∧ h = h0) _ T2.heap _
      rw [e2]
      dsimp only
      refine ⟨?_, N0, rfl⟩
      simp [own_same, c7_4]
  · have k6 : ∀ tt, Steps p.tables e below (T2.setTop (mkF m 15 #[.val (.ref a)] [(.int (0 : Int32))])) tt → Steps p.tables e below (s₁.setTop (entryFrame m #[(.ref a)] 1)) tt := by
      intro tt kk
      refine k3 tt ?_
      show Steps p.tables e below (T2.setTop (mkF m 7 #[.val (.ref a)] [(.ref wS), (.ref sz)])) tt
      refine Jvm.RoadKit.acmp (g := (mkF m 7 #[.val (.ref a)] [(.ref wS), (.ref sz)])) X2 hx rfl rfl rfl (pc0 := 7) (pc' := 14) (same := false) rfl (hb hby d1_7) rfl (decide_eq_false fun q => (c7_4) (Value.ref.inj q)) (by decide) (by decide) ?_
      show Steps p.tables e below (T2.setTop (mkF m 14 #[.val (.ref a)] [])) tt
      refine XS.iconst X2.here hx rfl (hb hby d1_14) ?_
      exact kk
    obtain ⟨fs, hr, hrun, hended, hW, hsame⟩ := X2.leave (v := some (.int (0 : Int32))) (fun hq => by rw [Bd.returns] at hq; cases hq)
    refine ⟨_, _, k6 _ ?_, hrun, hended, _, _, rfl, ?_, ⟨_, rfl⟩, hW, hsame.mono (by decide) (by decide)⟩
    · show Steps p.tables e below (T2.setTop (mkF m 15 #[.val (.ref a)] [(.int (0 : Int32))])) _
      exact retN X2 hx (t := .boolean) Bd.returns (by simp) (hb hby d1_15) hr
    · show (fun (v : Option Value) (h : Heap) (L : List Loc) => v = some (.int (own_same sz wS)) ∧ Fr n0 L ∧ h = h0) _ T2.heap _
      rw [e2]
      dsimp only
      refine ⟨?_, N0, rfl⟩
      simp [own_same, c7_4]
theorem own_pn_0 : plainName "com/example/cascade_persist/cascadepersist/ColumnTypeTakesPrecisionPinLaw" = true := by first | (simp [plainName, overriddenIn]; done) | decide +kernel
theorem own_pd___Z : parseMethodDescriptor "()Z" = some ⟨[], some .boolean⟩ := by decide +kernel
def own_rm0_Q (Z : State) (k : Int32) (wINTEGER wBIGINT wSMALLINT wBOOLEAN wDOUBLE wREAL wVARCHAR wDECIMAL wDATE wTIMESTAMP wUUID wCLOB zN zL zP : Addr) (h0 : Heap) (n0 : Nat) (v : Option Value) (h : Heap) (L : List Loc) : Prop := v = some (.int (1 : Int32)) ∧ Fr n0 L
set_option maxRecDepth 65536 in
set_option maxHeartbeats 40000000 in
theorem own_rm0 (l : Launch) (Z : State) (a0 : Array Value) (hw : ∀ d ∈ tables_1, d.before a0 Z = true) (ws : List Jvm.Cond) (k : Int32) (wINTEGER wBIGINT wSMALLINT wBOOLEAN wDOUBLE wREAL wVARCHAR wDECIMAL wDATE wTIMESTAMP wUUID wCLOB zN zL zP : Addr) (h0 : Heap) (n0 : Nat) (Z0 : n0 ≤ h0.size) (S_wINTEGER : Sta Z h0 "com/example/cascade_persist/cascadepersist/ColumnType" "INTEGER" "Lcom/example/cascade_persist/cascadepersist/ColumnType;" (.ref wINTEGER)) (S_wBIGINT : Sta Z h0 "com/example/cascade_persist/cascadepersist/ColumnType" "BIGINT" "Lcom/example/cascade_persist/cascadepersist/ColumnType;" (.ref wBIGINT)) (S_wSMALLINT : Sta Z h0 "com/example/cascade_persist/cascadepersist/ColumnType" "SMALLINT" "Lcom/example/cascade_persist/cascadepersist/ColumnType;" (.ref wSMALLINT)) (S_wBOOLEAN : Sta Z h0 "com/example/cascade_persist/cascadepersist/ColumnType" "BOOLEAN" "Lcom/example/cascade_persist/cascadepersist/ColumnType;" (.ref wBOOLEAN)) (S_wDOUBLE : Sta Z h0 "com/example/cascade_persist/cascadepersist/ColumnType" "DOUBLE" "Lcom/example/cascade_persist/cascadepersist/ColumnType;" (.ref wDOUBLE)) (S_wREAL : Sta Z h0 "com/example/cascade_persist/cascadepersist/ColumnType" "REAL" "Lcom/example/cascade_persist/cascadepersist/ColumnType;" (.ref wREAL)) (S_wVARCHAR : Sta Z h0 "com/example/cascade_persist/cascadepersist/ColumnType" "VARCHAR" "Lcom/example/cascade_persist/cascadepersist/ColumnType;" (.ref wVARCHAR)) (S_wDECIMAL : Sta Z h0 "com/example/cascade_persist/cascadepersist/ColumnType" "DECIMAL" "Lcom/example/cascade_persist/cascadepersist/ColumnType;" (.ref wDECIMAL)) (S_wDATE : Sta Z h0 "com/example/cascade_persist/cascadepersist/ColumnType" "DATE" "Lcom/example/cascade_persist/cascadepersist/ColumnType;" (.ref wDATE)) (S_wTIMESTAMP : Sta Z h0 "com/example/cascade_persist/cascadepersist/ColumnType" "TIMESTAMP" "Lcom/example/cascade_persist/cascadepersist/ColumnType;" (.ref wTIMESTAMP)) (S_wUUID : Sta Z h0 "com/example/cascade_persist/cascadepersist/ColumnType" "UUID" "Lcom/example/cascade_persist/cascadepersist/ColumnType;" (.ref wUUID)) (S_wCLOB : Sta Z h0 "com/example/cascade_persist/cascadepersist/ColumnType" "CLOB" "Lcom/example/cascade_persist/cascadepersist/ColumnType;" (.ref wCLOB)) (E_wINTEGER : Exa Z h0 wINTEGER "com/example/cascade_persist/cascadepersist/ColumnType") (E_wBIGINT : Exa Z h0 wBIGINT "com/example/cascade_persist/cascadepersist/ColumnType") (E_wSMALLINT : Exa Z h0 wSMALLINT "com/example/cascade_persist/cascadepersist/ColumnType") (E_wBOOLEAN : Exa Z h0 wBOOLEAN "com/example/cascade_persist/cascadepersist/ColumnType") (E_wDOUBLE : Exa Z h0 wDOUBLE "com/example/cascade_persist/cascadepersist/ColumnType") (E_wREAL : Exa Z h0 wREAL "com/example/cascade_persist/cascadepersist/ColumnType") (E_wVARCHAR : Exa Z h0 wVARCHAR "com/example/cascade_persist/cascadepersist/ColumnType") (E_wDECIMAL : Exa Z h0 wDECIMAL "com/example/cascade_persist/cascadepersist/ColumnType") (E_wDATE : Exa Z h0 wDATE "com/example/cascade_persist/cascadepersist/ColumnType") (E_wTIMESTAMP : Exa Z h0 wTIMESTAMP "com/example/cascade_persist/cascadepersist/ColumnType") (E_wUUID : Exa Z h0 wUUID "com/example/cascade_persist/cascadepersist/ColumnType") (E_wCLOB : Exa Z h0 wCLOB "com/example/cascade_persist/cascadepersist/ColumnType") (F_wINTEGER : Fld Z h0 wINTEGER "com/example/cascade_persist/cascadepersist/ColumnType" "size" "Lcom/example/cascade_persist/cascadepersist/ColumnType$Size;" (.ref zN)) (F_wBIGINT : Fld Z h0 wBIGINT "com/example/cascade_persist/cascadepersist/ColumnType" "size" "Lcom/example/cascade_persist/cascadepersist/ColumnType$Size;" (.ref zN)) (F_wSMALLINT : Fld Z h0 wSMALLINT "com/example/cascade_persist/cascadepersist/ColumnType" "size" "Lcom/example/cascade_persist/cascadepersist/ColumnType$Size;" (.ref zN)) (F_wBOOLEAN : Fld Z h0 wBOOLEAN "com/example/cascade_persist/cascadepersist/ColumnType" "size" "Lcom/example/cascade_persist/cascadepersist/ColumnType$Size;" (.ref zN)) (F_wDOUBLE : Fld Z h0 wDOUBLE "com/example/cascade_persist/cascadepersist/ColumnType" "size" "Lcom/example/cascade_persist/cascadepersist/ColumnType$Size;" (.ref zN)) (F_wREAL : Fld Z h0 wREAL "com/example/cascade_persist/cascadepersist/ColumnType" "size" "Lcom/example/cascade_persist/cascadepersist/ColumnType$Size;" (.ref zN)) (F_wVARCHAR : Fld Z h0 wVARCHAR "com/example/cascade_persist/cascadepersist/ColumnType" "size" "Lcom/example/cascade_persist/cascadepersist/ColumnType$Size;" (.ref zL)) (F_wDECIMAL : Fld Z h0 wDECIMAL "com/example/cascade_persist/cascadepersist/ColumnType" "size" "Lcom/example/cascade_persist/cascadepersist/ColumnType$Size;" (.ref zP)) (F_wDATE : Fld Z h0 wDATE "com/example/cascade_persist/cascadepersist/ColumnType" "size" "Lcom/example/cascade_persist/cascadepersist/ColumnType$Size;" (.ref zN)) (F_wTIMESTAMP : Fld Z h0 wTIMESTAMP "com/example/cascade_persist/cascadepersist/ColumnType" "size" "Lcom/example/cascade_persist/cascadepersist/ColumnType$Size;" (.ref zN)) (F_wUUID : Fld Z h0 wUUID "com/example/cascade_persist/cascadepersist/ColumnType" "size" "Lcom/example/cascade_persist/cascadepersist/ColumnType$Size;" (.ref zN)) (F_wCLOB : Fld Z h0 wCLOB "com/example/cascade_persist/cascadepersist/ColumnType" "size" "Lcom/example/cascade_persist/cascadepersist/ColumnType$Size;" (.ref zN)) (S_zL : Sta Z h0 "com/example/cascade_persist/cascadepersist/ColumnType$Size" "LENGTH" "Lcom/example/cascade_persist/cascadepersist/ColumnType$Size;" (.ref zL)) (S_zP : Sta Z h0 "com/example/cascade_persist/cascadepersist/ColumnType$Size" "PRECISION" "Lcom/example/cascade_persist/cascadepersist/ColumnType$Size;" (.ref zP)) (nNL : zN ≠ zL) (nNP : zN ≠ zP) (nLP : zL ≠ zP) (nPL : zP ≠ zL) :
    MetFree l x (head1 (Jvm.Cond.code x code maxLocals ret :: ws) room_1) (fun aa UU => aa = #[(.int k)] ∧ Z.Warmed39 UU.vm ∧ UU.heap = h0) (fun _ _ _ _ _ => True) (fun _ UU oo UU' => ∃ vv LL, oo = .returned vv ∧ own_rm0_Q Z k wINTEGER wBIGINT wSMALLINT wBOOLEAN wDOUBLE wREAL wVARCHAR wDECIMAL wDATE wTIMESTAMP wUUID wCLOB zN zL zP h0 n0 vv UU'.heap LL ∧ FrameEnd UU oo UU' LL room_1.cells room_1.slots) := by
  refine MetFree.of_bodySF (plainFor_of_name own_pn_0) hisR ?_
  intro p e s m args below meth cc s₁ Bd hml0 hP hK
  obtain ⟨rfl, hZ, hh⟩ := hP
  have hx := Bd.exec
  have hby := Bd.bytes
  have hml : cc.maxLocals = 6 := hml0
  have hown : s.vm.findClass "com/example/cascade_persist/cascadepersist/ColumnTypeTakesPrecisionPinLaw" = some m.cls := findClass_of_methodNamed Bd.named
  have hnm := (name_of_methodNamed Bd.named Bd.method).1
  have X0 : Stand p l e room_1 s m #[(.int k)] below meth cc s₁ [] 0 0 := Stand.of_body Bd
  have e0 : s₁.heap = h0 := by rw [← hh, Bd.state]; rfl
  have N0 := Fr.nil n0
  have k0 : ∀ tt, Steps p.tables e below (s₁.setTop (mkF m 0 #[.val (.int k), .unset, .unset, .unset, .unset, .unset] [])) tt → Steps p.tables e below (s₁.setTop (entryFrame m #[(.int k)] maxLocals)) tt := fun tt kk => castTop (by first | (simp [entryFrame, mkF, argsToLocals, Value.category, maxLocals]; done) | rfl) kk
  obtain ⟨T1, h1, k1, X1, e1, E1, A1, O1, st1⟩ := newR X0 hx hZ hown (hw _ (List.mem_of_getElem? (i := 0) rfl)) (hw _ (List.mem_of_getElem? (i := 1) rfl)) e0 (g := (mkF m 2 #[.val (.int k), .unset, .unset, .unset, .unset, .unset] [(.int (12 : Int32))])) rfl (hb hby at_2) rfl (by decide) (cap := 12) (by decide) (by decide) (by decide) (by decide)
  obtain ⟨b1, g1⟩ : ∃ z, z = h0.size := ⟨_, rfl⟩
  rw [← g1] at A1 st1
  have g_b1 : n0 ≤ b1 := Nat.le_trans Z0 (Nat.le_of_eq g1.symm)
  have sz_b1 : h0.size ≤ b1 := Nat.le_trans (Keep.refl h0 []).1 (Nat.le_of_eq g1.symm)
  have Z1 : n0 ≤ h1.size := Nat.le_trans Z0 E1.1
  have K1 := Keep.ext (Keep.refl h0 []) E1
  have V1 : Arv Z h1 b1 k1 (.object "com/example/cascade_persist/cascadepersist/ColumnType") (12 : Int32) [.null, .null, .null, .null, .null, .null, .null, .null, .null, .null, .null, .null] .null := (Arv.new A1 (by decide)).pad (pad_rep [] .null 12)
  obtain ⟨T2, X2, e2, st2⟩ := getS2 X1 hx hZ hown (host := "") (Or.inl (hw _ (List.mem_of_getElem? (i := 2) rfl))) Via.refl e1 (own_sta_keep0 S_wINTEGER K1) (g := (mkF m 7 #[.val (.int k), .unset, .unset, .unset, .unset, .unset] [(.int (0 : Int32)), (.ref b1), (.ref b1)])) rfl (hb hby at_7)
  obtain ⟨cl3, Ar3, q3, S3, P3, H3, G3⟩ := id V1
  have hin3 : ¬ ((0 : Int32) < 0 ∨ cl3.slots.size ≤ ((0 : Int32)).toNatClampNeg) := inb_of S3 ⟨by decide, by decide⟩
  obtain ⟨T4, h4, X4, e4, W4, st4⟩ := stR X2 hx hZ e2 Ar3 (j := (0 : Int32)) hin3 rfl (Sto.ofV Ar3 q3 O1 (Ins.self (Exa.keep E_wINTEGER K1))) (g := (mkF m 10 #[.val (.int k), .unset, .unset, .unset, .unset, .unset] [(.ref wINTEGER), (.int (0 : Int32)), (.ref b1), (.ref b1)])) rfl rfl (hb hby at_10)
  have V4 : Arv Z h4 b1 k1 (.object "com/example/cascade_persist/cascadepersist/ColumnType") (12 : Int32) [(.ref wINTEGER), .null, .null, .null, .null, .null, .null, .null, .null, .null, .null, .null] .null := Arv.set Ar3 q3 S3 P3 H3 G3 rfl W4 0 rfl (Nat.le_of_ble_eq_true rfl)
  have Z4 : n0 ≤ h4.size := Nat.le_trans Z1 (Keep.of_wr W4).1
  have N4 := Fr.snoc X4 N0 g_b1
  have K4 := Keep.wr K1 W4 (Or.inr sz_b1)
  obtain ⟨T5, X5, e5, st5⟩ := getS2 X4 hx hZ hown (host := "") (Or.inl (hw _ (List.mem_of_getElem? (i := 6) rfl))) Via.refl e4 (own_sta_keep0 S_wBIGINT K4) (g := (mkF m 13 #[.val (.int k), .unset, .unset, .unset, .unset, .unset] [(.int (1 : Int32)), (.ref b1), (.ref b1)])) rfl (hb hby at_13)
  obtain ⟨cl6, Ar6, q6, S6, P6, H6, G6⟩ := id V4
  have hin6 : ¬ ((1 : Int32) < 0 ∨ cl6.slots.size ≤ ((1 : Int32)).toNatClampNeg) := inb_of S6 ⟨by decide, by decide⟩
  obtain ⟨T7, h7, X7, e7, W7, st7⟩ := stR X5 hx hZ e5 Ar6 (j := (1 : Int32)) hin6 rfl (Sto.ofV Ar6 q6 O1 (Ins.self (Exa.keep E_wBIGINT K4))) (g := (mkF m 16 #[.val (.int k), .unset, .unset, .unset, .unset, .unset] [(.ref wBIGINT), (.int (1 : Int32)), (.ref b1), (.ref b1)])) rfl rfl (hb hby at_16)
  have V7 : Arv Z h7 b1 k1 (.object "com/example/cascade_persist/cascadepersist/ColumnType") (12 : Int32) [(.ref wINTEGER), (.ref wBIGINT), .null, .null, .null, .null, .null, .null, .null, .null, .null, .null] .null := Arv.set Ar6 q6 S6 P6 H6 G6 rfl W7 1 rfl (Nat.le_of_ble_eq_true rfl)
  have Z7 : n0 ≤ h7.size := Nat.le_trans Z4 (Keep.of_wr W7).1
  have N7 := Fr.snoc X7 N4 g_b1
  have K7 := Keep.wr K4 W7 (Or.inr sz_b1)
  obtain ⟨T8, X8, e8, st8⟩ := getS2 X7 hx hZ hown (host := "") (Or.inl (hw _ (List.mem_of_getElem? (i := 8) rfl))) Via.refl e7 (own_sta_keep0 S_wSMALLINT K7) (g := (mkF m 19 #[.val (.int k), .unset, .unset, .unset, .unset, .unset] [(.int (2 : Int32)), (.ref b1), (.ref b1)])) rfl (hb hby at_19)
  obtain ⟨cl9, Ar9, q9, S9, P9, H9, G9⟩ := id V7
  have hin9 : ¬ ((2 : Int32) < 0 ∨ cl9.slots.size ≤ ((2 : Int32)).toNatClampNeg) := inb_of S9 ⟨by decide, by decide⟩
  obtain ⟨T10, h10, X10, e10, W10, st10⟩ := stR X8 hx hZ e8 Ar9 (j := (2 : Int32)) hin9 rfl (Sto.ofV Ar9 q9 O1 (Ins.self (Exa.keep E_wSMALLINT K7))) (g := (mkF m 22 #[.val (.int k), .unset, .unset, .unset, .unset, .unset] [(.ref wSMALLINT), (.int (2 : Int32)), (.ref b1), (.ref b1)])) rfl rfl (hb hby at_22)
  have V10 : Arv Z h10 b1 k1 (.object "com/example/cascade_persist/cascadepersist/ColumnType") (12 : Int32) [(.ref wINTEGER), (.ref wBIGINT), (.ref wSMALLINT), .null, .null, .null, .null, .null, .null, .null, .null, .null] .null := Arv.set Ar9 q9 S9 P9 H9 G9 rfl W10 2 rfl (Nat.le_of_ble_eq_true rfl)
  have Z10 : n0 ≤ h10.size := Nat.le_trans Z7 (Keep.of_wr W10).1
  have N10 := Fr.snoc X10 N7 g_b1
  have K10 := Keep.wr K7 W10 (Or.inr sz_b1)
  obtain ⟨T11, X11, e11, st11⟩ := getS2 X10 hx hZ hown (host := "") (Or.inl (hw _ (List.mem_of_getElem? (i := 10) rfl))) Via.refl e10 (own_sta_keep0 S_wBOOLEAN K10) (g := (mkF m 25 #[.val (.int k), .unset, .unset, .unset, .unset, .unset] [(.int (3 : Int32)), (.ref b1), (.ref b1)])) rfl (hb hby at_25)
  obtain ⟨cl12, Ar12, q12, S12, P12, H12, G12⟩ := id V10
  have hin12 : ¬ ((3 : Int32) < 0 ∨ cl12.slots.size ≤ ((3 : Int32)).toNatClampNeg) := inb_of S12 ⟨by decide, by decide⟩
  obtain ⟨T13, h13, X13, e13, W13, st13⟩ := stR X11 hx hZ e11 Ar12 (j := (3 : Int32)) hin12 rfl (Sto.ofV Ar12 q12 O1 (Ins.self (Exa.keep E_wBOOLEAN K10))) (g := (mkF m 28 #[.val (.int k), .unset, .unset, .unset, .unset, .unset] [(.ref wBOOLEAN), (.int (3 : Int32)), (.ref b1), (.ref b1)])) rfl rfl (hb hby at_28)
  have V13 : Arv Z h13 b1 k1 (.object "com/example/cascade_persist/cascadepersist/ColumnType") (12 : Int32) [(.ref wINTEGER), (.ref wBIGINT), (.ref wSMALLINT), (.ref wBOOLEAN), .null, .null, .null, .null, .null, .null, .null, .null] .null := Arv.set Ar12 q12 S12 P12 H12 G12 rfl W13 3 rfl (Nat.le_of_ble_eq_true rfl)
  have Z13 : n0 ≤ h13.size := Nat.le_trans Z10 (Keep.of_wr W13).1
  have N13 := Fr.snoc X13 N10 g_b1
  have K13 := Keep.wr K10 W13 (Or.inr sz_b1)
  obtain ⟨T14, X14, e14, st14⟩ := getS2 X13 hx hZ hown (host := "") (Or.inl (hw _ (List.mem_of_getElem? (i := 12) rfl))) Via.refl e13 (own_sta_keep0 S_wDOUBLE K13) (g := (mkF m 31 #[.val (.int k), .unset, .unset, .unset, .unset, .unset] [(.int (4 : Int32)), (.ref b1), (.ref b1)])) rfl (hb hby at_31)
  obtain ⟨cl15, Ar15, q15, S15, P15, H15, G15⟩ := id V13
  have hin15 : ¬ ((4 : Int32) < 0 ∨ cl15.slots.size ≤ ((4 : Int32)).toNatClampNeg) := inb_of S15 ⟨by decide, by decide⟩
  obtain ⟨T16, h16, X16, e16, W16, st16⟩ := stR X14 hx hZ e14 Ar15 (j := (4 : Int32)) hin15 rfl (Sto.ofV Ar15 q15 O1 (Ins.self (Exa.keep E_wDOUBLE K13))) (g := (mkF m 34 #[.val (.int k), .unset, .unset, .unset, .unset, .unset] [(.ref wDOUBLE), (.int (4 : Int32)), (.ref b1), (.ref b1)])) rfl rfl (hb hby at_34)
  have V16 : Arv Z h16 b1 k1 (.object "com/example/cascade_persist/cascadepersist/ColumnType") (12 : Int32) [(.ref wINTEGER), (.ref wBIGINT), (.ref wSMALLINT), (.ref wBOOLEAN), (.ref wDOUBLE), .null, .null, .null, .null, .null, .null, .null] .null := Arv.set Ar15 q15 S15 P15 H15 G15 rfl W16 4 rfl (Nat.le_of_ble_eq_true rfl)
  have Z16 : n0 ≤ h16.size := Nat.le_trans Z13 (Keep.of_wr W16).1
  have N16 := Fr.snoc X16 N13 g_b1
  have K16 := Keep.wr K13 W16 (Or.inr sz_b1)
  obtain ⟨T17, X17, e17, st17⟩ := getS2 X16 hx hZ hown (host := "") (Or.inl (hw _ (List.mem_of_getElem? (i := 14) rfl))) Via.refl e16 (own_sta_keep0 S_wREAL K16) (g := (mkF m 37 #[.val (.int k), .unset, .unset, .unset, .unset, .unset] [(.int (5 : Int32)), (.ref b1), (.ref b1)])) rfl (hb hby at_37)
  obtain ⟨cl18, Ar18, q18, S18, P18, H18, G18⟩ := id V16
  have hin18 : ¬ ((5 : Int32) < 0 ∨ cl18.slots.size ≤ ((5 : Int32)).toNatClampNeg) := inb_of S18 ⟨by decide, by decide⟩
  obtain ⟨T19, h19, X19, e19, W19, st19⟩ := stR X17 hx hZ e17 Ar18 (j := (5 : Int32)) hin18 rfl (Sto.ofV Ar18 q18 O1 (Ins.self (Exa.keep E_wREAL K16))) (g := (mkF m 40 #[.val (.int k), .unset, .unset, .unset, .unset, .unset] [(.ref wREAL), (.int (5 : Int32)), (.ref b1), (.ref b1)])) rfl rfl (hb hby at_40)
  have V19 : Arv Z h19 b1 k1 (.object "com/example/cascade_persist/cascadepersist/ColumnType") (12 : Int32) [(.ref wINTEGER), (.ref wBIGINT), (.ref wSMALLINT), (.ref wBOOLEAN), (.ref wDOUBLE), (.ref wREAL), .null, .null, .null, .null, .null, .null] .null := Arv.set Ar18 q18 S18 P18 H18 G18 rfl W19 5 rfl (Nat.le_of_ble_eq_true rfl)
  have Z19 : n0 ≤ h19.size := Nat.le_trans Z16 (Keep.of_wr W19).1
  have N19 := Fr.snoc X19 N16 g_b1
  have K19 := Keep.wr K16 W19 (Or.inr sz_b1)
  obtain ⟨T20, X20, e20, st20⟩ := getS2 X19 hx hZ hown (host := "") (Or.inl (hw _ (List.mem_of_getElem? (i := 16) rfl))) Via.refl e19 (own_sta_keep0 S_wVARCHAR K19) (g := (mkF m 44 #[.val (.int k), .unset, .unset, .unset, .unset, .unset] [(.int (6 : Int32)), (.ref b1), (.ref b1)])) rfl (hb hby at_44)
  obtain ⟨cl21, Ar21, q21, S21, P21, H21, G21⟩ := id V19
  have hin21 : ¬ ((6 : Int32) < 0 ∨ cl21.slots.size ≤ ((6 : Int32)).toNatClampNeg) := inb_of S21 ⟨by decide, by decide⟩
  obtain ⟨T22, h22, X22, e22, W22, st22⟩ := stR X20 hx hZ e20 Ar21 (j := (6 : Int32)) hin21 rfl (Sto.ofV Ar21 q21 O1 (Ins.self (Exa.keep E_wVARCHAR K19))) (g := (mkF m 47 #[.val (.int k), .unset, .unset, .unset, .unset, .unset] [(.ref wVARCHAR), (.int (6 : Int32)), (.ref b1), (.ref b1)])) rfl rfl (hb hby at_47)
  have V22 : Arv Z h22 b1 k1 (.object "com/example/cascade_persist/cascadepersist/ColumnType") (12 : Int32) [(.ref wINTEGER), (.ref wBIGINT), (.ref wSMALLINT), (.ref wBOOLEAN), (.ref wDOUBLE), (.ref wREAL), (.ref wVARCHAR), .null, .null, .null, .null, .null] .null := Arv.set Ar21 q21 S21 P21 H21 G21 rfl W22 6 rfl (Nat.le_of_ble_eq_true rfl)
  have Z22 : n0 ≤ h22.size := Nat.le_trans Z19 (Keep.of_wr W22).1
  have N22 := Fr.snoc X22 N19 g_b1
  have K22 := Keep.wr K19 W22 (Or.inr sz_b1)
  obtain ⟨T23, X23, e23, st23⟩ := getS2 X22 hx hZ hown (host := "") (Or.inl (hw _ (List.mem_of_getElem? (i := 18) rfl))) Via.refl e22 (own_sta_keep0 S_wDECIMAL K22) (g := (mkF m 51 #[.val (.int k), .unset, .unset, .unset, .unset, .unset] [(.int (7 : Int32)), (.ref b1), (.ref b1)])) rfl (hb hby at_51)
  obtain ⟨cl24, Ar24, q24, S24, P24, H24, G24⟩ := id V22
  have hin24 : ¬ ((7 : Int32) < 0 ∨ cl24.slots.size ≤ ((7 : Int32)).toNatClampNeg) := inb_of S24 ⟨by decide, by decide⟩
  obtain ⟨T25, h25, X25, e25, W25, st25⟩ := stR X23 hx hZ e23 Ar24 (j := (7 : Int32)) hin24 rfl (Sto.ofV Ar24 q24 O1 (Ins.self (Exa.keep E_wDECIMAL K22))) (g := (mkF m 54 #[.val (.int k), .unset, .unset, .unset, .unset, .unset] [(.ref wDECIMAL), (.int (7 : Int32)), (.ref b1), (.ref b1)])) rfl rfl (hb hby at_54)
  have V25 : Arv Z h25 b1 k1 (.object "com/example/cascade_persist/cascadepersist/ColumnType") (12 : Int32) [(.ref wINTEGER), (.ref wBIGINT), (.ref wSMALLINT), (.ref wBOOLEAN), (.ref wDOUBLE), (.ref wREAL), (.ref wVARCHAR), (.ref wDECIMAL), .null, .null, .null, .null] .null := Arv.set Ar24 q24 S24 P24 H24 G24 rfl W25 7 rfl (Nat.le_of_ble_eq_true rfl)
  have Z25 : n0 ≤ h25.size := Nat.le_trans Z22 (Keep.of_wr W25).1
  have N25 := Fr.snoc X25 N22 g_b1
  have K25 := Keep.wr K22 W25 (Or.inr sz_b1)
  obtain ⟨T26, X26, e26, st26⟩ := getS2 X25 hx hZ hown (host := "") (Or.inl (hw _ (List.mem_of_getElem? (i := 20) rfl))) Via.refl e25 (own_sta_keep0 S_wDATE K25) (g := (mkF m 58 #[.val (.int k), .unset, .unset, .unset, .unset, .unset] [(.int (8 : Int32)), (.ref b1), (.ref b1)])) rfl (hb hby at_58)
  obtain ⟨cl27, Ar27, q27, S27, P27, H27, G27⟩ := id V25
  have hin27 : ¬ ((8 : Int32) < 0 ∨ cl27.slots.size ≤ ((8 : Int32)).toNatClampNeg) := inb_of S27 ⟨by decide, by decide⟩
  obtain ⟨T28, h28, X28, e28, W28, st28⟩ := stR X26 hx hZ e26 Ar27 (j := (8 : Int32)) hin27 rfl (Sto.ofV Ar27 q27 O1 (Ins.self (Exa.keep E_wDATE K25))) (g := (mkF m 61 #[.val (.int k), .unset, .unset, .unset, .unset, .unset] [(.ref wDATE), (.int (8 : Int32)), (.ref b1), (.ref b1)])) rfl rfl (hb hby at_61)
  have V28 : Arv Z h28 b1 k1 (.object "com/example/cascade_persist/cascadepersist/ColumnType") (12 : Int32) [(.ref wINTEGER), (.ref wBIGINT), (.ref wSMALLINT), (.ref wBOOLEAN), (.ref wDOUBLE), (.ref wREAL), (.ref wVARCHAR), (.ref wDECIMAL), (.ref wDATE), .null, .null, .null] .null := Arv.set Ar27 q27 S27 P27 H27 G27 rfl W28 8 rfl (Nat.le_of_ble_eq_true rfl)
  have Z28 : n0 ≤ h28.size := Nat.le_trans Z25 (Keep.of_wr W28).1
  have N28 := Fr.snoc X28 N25 g_b1
  have K28 := Keep.wr K25 W28 (Or.inr sz_b1)
  obtain ⟨T29, X29, e29, st29⟩ := getS2 X28 hx hZ hown (host := "") (Or.inl (hw _ (List.mem_of_getElem? (i := 22) rfl))) Via.refl e28 (own_sta_keep0 S_wTIMESTAMP K28) (g := (mkF m 65 #[.val (.int k), .unset, .unset, .unset, .unset, .unset] [(.int (9 : Int32)), (.ref b1), (.ref b1)])) rfl (hb hby at_65)
  obtain ⟨cl30, Ar30, q30, S30, P30, H30, G30⟩ := id V28
  have hin30 : ¬ ((9 : Int32) < 0 ∨ cl30.slots.size ≤ ((9 : Int32)).toNatClampNeg) := inb_of S30 ⟨by decide, by decide⟩
  obtain ⟨T31, h31, X31, e31, W31, st31⟩ := stR X29 hx hZ e29 Ar30 (j := (9 : Int32)) hin30 rfl (Sto.ofV Ar30 q30 O1 (Ins.self (Exa.keep E_wTIMESTAMP K28))) (g := (mkF m 68 #[.val (.int k), .unset, .unset, .unset, .unset, .unset] [(.ref wTIMESTAMP), (.int (9 : Int32)), (.ref b1), (.ref b1)])) rfl rfl (hb hby at_68)
  have V31 : Arv Z h31 b1 k1 (.object "com/example/cascade_persist/cascadepersist/ColumnType") (12 : Int32) [(.ref wINTEGER), (.ref wBIGINT), (.ref wSMALLINT), (.ref wBOOLEAN), (.ref wDOUBLE), (.ref wREAL), (.ref wVARCHAR), (.ref wDECIMAL), (.ref wDATE), (.ref wTIMESTAMP), .null, .null] .null := Arv.set Ar30 q30 S30 P30 H30 G30 rfl W31 9 rfl (Nat.le_of_ble_eq_true rfl)
  have Z31 : n0 ≤ h31.size := Nat.le_trans Z28 (Keep.of_wr W31).1
  have N31 := Fr.snoc X31 N28 g_b1
  have K31 := Keep.wr K28 W31 (Or.inr sz_b1)
  obtain ⟨T32, X32, e32, st32⟩ := getS2 X31 hx hZ hown (host := "") (Or.inl (hw _ (List.mem_of_getElem? (i := 24) rfl))) Via.refl e31 (own_sta_keep0 S_wUUID K31) (g := (mkF m 72 #[.val (.int k), .unset, .unset, .unset, .unset, .unset] [(.int (10 : Int32)), (.ref b1), (.ref b1)])) rfl (hb hby at_72)
  obtain ⟨cl33, Ar33, q33, S33, P33, H33, G33⟩ := id V31
  have hin33 : ¬ ((10 : Int32) < 0 ∨ cl33.slots.size ≤ ((10 : Int32)).toNatClampNeg) := inb_of S33 ⟨by decide, by decide⟩
  obtain ⟨T34, h34, X34, e34, W34, st34⟩ := stR X32 hx hZ e32 Ar33 (j := (10 : Int32)) hin33 rfl (Sto.ofV Ar33 q33 O1 (Ins.self (Exa.keep E_wUUID K31))) (g := (mkF m 75 #[.val (.int k), .unset, .unset, .unset, .unset, .unset] [(.ref wUUID), (.int (10 : Int32)), (.ref b1), (.ref b1)])) rfl rfl (hb hby at_75)
  have V34 : Arv Z h34 b1 k1 (.object "com/example/cascade_persist/cascadepersist/ColumnType") (12 : Int32) [(.ref wINTEGER), (.ref wBIGINT), (.ref wSMALLINT), (.ref wBOOLEAN), (.ref wDOUBLE), (.ref wREAL), (.ref wVARCHAR), (.ref wDECIMAL), (.ref wDATE), (.ref wTIMESTAMP), (.ref wUUID), .null] .null := Arv.set Ar33 q33 S33 P33 H33 G33 rfl W34 10 rfl (Nat.le_of_ble_eq_true rfl)
  have Z34 : n0 ≤ h34.size := Nat.le_trans Z31 (Keep.of_wr W34).1
  have N34 := Fr.snoc X34 N31 g_b1
  have K34 := Keep.wr K31 W34 (Or.inr sz_b1)
  obtain ⟨T35, X35, e35, st35⟩ := getS2 X34 hx hZ hown (host := "") (Or.inl (hw _ (List.mem_of_getElem? (i := 26) rfl))) Via.refl e34 (own_sta_keep0 S_wCLOB K34) (g := (mkF m 79 #[.val (.int k), .unset, .unset, .unset, .unset, .unset] [(.int (11 : Int32)), (.ref b1), (.ref b1)])) rfl (hb hby at_79)
  obtain ⟨cl36, Ar36, q36, S36, P36, H36, G36⟩ := id V34
  have hin36 : ¬ ((11 : Int32) < 0 ∨ cl36.slots.size ≤ ((11 : Int32)).toNatClampNeg) := inb_of S36 ⟨by decide, by decide⟩
  obtain ⟨T37, h37, X37, e37, W37, st37⟩ := stR X35 hx hZ e35 Ar36 (j := (11 : Int32)) hin36 rfl (Sto.ofV Ar36 q36 O1 (Ins.self (Exa.keep E_wCLOB K34))) (g := (mkF m 82 #[.val (.int k), .unset, .unset, .unset, .unset, .unset] [(.ref wCLOB), (.int (11 : Int32)), (.ref b1), (.ref b1)])) rfl rfl (hb hby at_82)
  have V37 : Arv Z h37 b1 k1 (.object "com/example/cascade_persist/cascadepersist/ColumnType") (12 : Int32) [(.ref wINTEGER), (.ref wBIGINT), (.ref wSMALLINT), (.ref wBOOLEAN), (.ref wDOUBLE), (.ref wREAL), (.ref wVARCHAR), (.ref wDECIMAL), (.ref wDATE), (.ref wTIMESTAMP), (.ref wUUID), (.ref wCLOB)] .null := Arv.set Ar36 q36 S36 P36 H36 G36 rfl W37 11 rfl (Nat.le_of_ble_eq_true rfl)
  have Z37 : n0 ≤ h37.size := Nat.le_trans Z34 (Keep.of_wr W37).1
  have N37 := Fr.snoc X37 N34 g_b1
  have K37 := Keep.wr K34 W37 (Or.inr sz_b1)
  have k38 : ∀ tt, Steps p.tables e below (T37.setTop (mkF m 94 #[.val (.int k), .val (.ref b1), .val (.int ((k &&& (2147483647 : Int32)) % (12 : Int32))), .unset, .unset, .unset] [(.int ((k &&& (2147483647 : Int32)) % (12 : Int32))), (.ref b1)])) tt → Steps p.tables e below (s₁.setTop (entryFrame m #[(.int k)] maxLocals)) tt := by
    intro tt kk
    refine k0 tt ?_
    show Steps p.tables e below (s₁.setTop (mkF m 0 #[.val (.int k), .unset, .unset, .unset, .unset, .unset] [])) tt
    refine XS.bipush X0.here hx rfl (hb hby at_0) ?_
    show Steps p.tables e below (s₁.setTop (mkF m 2 #[.val (.int k), .unset, .unset, .unset, .unset, .unset] [(.int (12 : Int32))])) tt
    refine st1 _ ?_
    show Steps p.tables e below (T1.setTop (mkF m 5 #[.val (.int k), .unset, .unset, .unset, .unset, .unset] [(.ref b1)])) tt
    refine XS.dup X1.here hx rfl (hb hby at_5) rfl rfl ?_
    show Steps p.tables e below (T1.setTop (mkF m 6 #[.val (.int k), .unset, .unset, .unset, .unset, .unset] [(.ref b1), (.ref b1)])) tt
    refine XS.iconst X1.here hx rfl (hb hby at_6) ?_
    show Steps p.tables e below (T1.setTop (mkF m 7 #[.val (.int k), .unset, .unset, .unset, .unset, .unset] [(.int (0 : Int32)), (.ref b1), (.ref b1)])) tt
    refine st2 _ ?_
    show Steps p.tables e below (T2.setTop (mkF m 10 #[.val (.int k), .unset, .unset, .unset, .unset, .unset] [(.ref wINTEGER), (.int (0 : Int32)), (.ref b1), (.ref b1)])) tt
    refine st4 _ ?_
    show Steps p.tables e below (T4.setTop (mkF m 11 #[.val (.int k), .unset, .unset, .unset, .unset, .unset] [(.ref b1)])) tt
    refine XS.dup X4.here hx rfl (hb hby at_11) rfl rfl ?_
    show Steps p.tables e below (T4.setTop (mkF m 12 #[.val (.int k), .unset, .unset, .unset, .unset, .unset] [(.ref b1), (.ref b1)])) tt
    refine XS.iconst X4.here hx rfl (hb hby at_12) ?_
    show Steps p.tables e below (T4.setTop (mkF m 13 #[.val (.int k), .unset, .unset, .unset, .unset, .unset] [(.int (1 : Int32)), (.ref b1), (.ref b1)])) tt
    refine st5 _ ?_
    show Steps p.tables e below (T5.setTop (mkF m 16 #[.val (.int k), .unset, .unset, .unset, .unset, .unset] [(.ref wBIGINT), (.int (1 : Int32)), (.ref b1), (.ref b1)])) tt
    refine st7 _ ?_
    show Steps p.tables e below (T7.setTop (mkF m 17 #[.val (.int k), .unset, .unset, .unset, .unset, .unset] [(.ref b1)])) tt
    refine XS.dup X7.here hx rfl (hb hby at_17) rfl rfl ?_
    show Steps p.tables e below (T7.setTop (mkF m 18 #[.val (.int k), .unset, .unset, .unset, .unset, .unset] [(.ref b1), (.ref b1)])) tt
    refine XS.iconst X7.here hx rfl (hb hby at_18) ?_
    show Steps p.tables e below (T7.setTop (mkF m 19 #[.val (.int k), .unset, .unset, .unset, .unset, .unset] [(.int (2 : Int32)), (.ref b1), (.ref b1)])) tt
    refine st8 _ ?_
    show Steps p.tables e below (T8.setTop (mkF m 22 #[.val (.int k), .unset, .unset, .unset, .unset, .unset] [(.ref wSMALLINT), (.int (2 : Int32)), (.ref b1), (.ref b1)])) tt
    refine st10 _ ?_
    show Steps p.tables e below (T10.setTop (mkF m 23 #[.val (.int k), .unset, .unset, .unset, .unset, .unset] [(.ref b1)])) tt
    refine XS.dup X10.here hx rfl (hb hby at_23) rfl rfl ?_
    show Steps p.tables e below (T10.setTop (mkF m 24 #[.val (.int k), .unset, .unset, .unset, .unset, .unset] [(.ref b1), (.ref b1)])) tt
    refine XS.iconst X10.here hx rfl (hb hby at_24) ?_
    show Steps p.tables e below (T10.setTop (mkF m 25 #[.val (.int k), .unset, .unset, .unset, .unset, .unset] [(.int (3 : Int32)), (.ref b1), (.ref b1)])) tt
    refine st11 _ ?_
    show Steps p.tables e below (T11.setTop (mkF m 28 #[.val (.int k), .unset, .unset, .unset, .unset, .unset] [(.ref wBOOLEAN), (.int (3 : Int32)), (.ref b1), (.ref b1)])) tt
    refine st13 _ ?_
    show Steps p.tables e below (T13.setTop (mkF m 29 #[.val (.int k), .unset, .unset, .unset, .unset, .unset] [(.ref b1)])) tt
    refine XS.dup X13.here hx rfl (hb hby at_29) rfl rfl ?_
    show Steps p.tables e below (T13.setTop (mkF m 30 #[.val (.int k), .unset, .unset, .unset, .unset, .unset] [(.ref b1), (.ref b1)])) tt
    refine XS.iconst X13.here hx rfl (hb hby at_30) ?_
    show Steps p.tables e below (T13.setTop (mkF m 31 #[.val (.int k), .unset, .unset, .unset, .unset, .unset] [(.int (4 : Int32)), (.ref b1), (.ref b1)])) tt
    refine st14 _ ?_
    show Steps p.tables e below (T14.setTop (mkF m 34 #[.val (.int k), .unset, .unset, .unset, .unset, .unset] [(.ref wDOUBLE), (.int (4 : Int32)), (.ref b1), (.ref b1)])) tt
    refine st16 _ ?_
    show Steps p.tables e below (T16.setTop (mkF m 35 #[.val (.int k), .unset, .unset, .unset, .unset, .unset] [(.ref b1)])) tt
    refine XS.dup X16.here hx rfl (hb hby at_35) rfl rfl ?_
    show Steps p.tables e below (T16.setTop (mkF m 36 #[.val (.int k), .unset, .unset, .unset, .unset, .unset] [(.ref b1), (.ref b1)])) tt
    refine XS.iconst X16.here hx rfl (hb hby at_36) ?_
    show Steps p.tables e below (T16.setTop (mkF m 37 #[.val (.int k), .unset, .unset, .unset, .unset, .unset] [(.int (5 : Int32)), (.ref b1), (.ref b1)])) tt
    refine st17 _ ?_
    show Steps p.tables e below (T17.setTop (mkF m 40 #[.val (.int k), .unset, .unset, .unset, .unset, .unset] [(.ref wREAL), (.int (5 : Int32)), (.ref b1), (.ref b1)])) tt
    refine st19 _ ?_
    show Steps p.tables e below (T19.setTop (mkF m 41 #[.val (.int k), .unset, .unset, .unset, .unset, .unset] [(.ref b1)])) tt
    refine XS.dup X19.here hx rfl (hb hby at_41) rfl rfl ?_
    show Steps p.tables e below (T19.setTop (mkF m 42 #[.val (.int k), .unset, .unset, .unset, .unset, .unset] [(.ref b1), (.ref b1)])) tt
    refine XS.bipush X19.here hx rfl (hb hby at_42) ?_
    show Steps p.tables e below (T19.setTop (mkF m 44 #[.val (.int k), .unset, .unset, .unset, .unset, .unset] [(.int (6 : Int32)), (.ref b1), (.ref b1)])) tt
    refine st20 _ ?_
    show Steps p.tables e below (T20.setTop (mkF m 47 #[.val (.int k), .unset, .unset, .unset, .unset, .unset] [(.ref wVARCHAR), (.int (6 : Int32)), (.ref b1), (.ref b1)])) tt
    refine st22 _ ?_
    show Steps p.tables e below (T22.setTop (mkF m 48 #[.val (.int k), .unset, .unset, .unset, .unset, .unset] [(.ref b1)])) tt
    refine XS.dup X22.here hx rfl (hb hby at_48) rfl rfl ?_
    show Steps p.tables e below (T22.setTop (mkF m 49 #[.val (.int k), .unset, .unset, .unset, .unset, .unset] [(.ref b1), (.ref b1)])) tt
    refine XS.bipush X22.here hx rfl (hb hby at_49) ?_
    show Steps p.tables e below (T22.setTop (mkF m 51 #[.val (.int k), .unset, .unset, .unset, .unset, .unset] [(.int (7 : Int32)), (.ref b1), (.ref b1)])) tt
    refine st23 _ ?_
    show Steps p.tables e below (T23.setTop (mkF m 54 #[.val (.int k), .unset, .unset, .unset, .unset, .unset] [(.ref wDECIMAL), (.int (7 : Int32)), (.ref b1), (.ref b1)])) tt
    refine st25 _ ?_
    show Steps p.tables e below (T25.setTop (mkF m 55 #[.val (.int k), .unset, .unset, .unset, .unset, .unset] [(.ref b1)])) tt
    refine XS.dup X25.here hx rfl (hb hby at_55) rfl rfl ?_
    show Steps p.tables e below (T25.setTop (mkF m 56 #[.val (.int k), .unset, .unset, .unset, .unset, .unset] [(.ref b1), (.ref b1)])) tt
    refine XS.bipush X25.here hx rfl (hb hby at_56) ?_
    show Steps p.tables e below (T25.setTop (mkF m 58 #[.val (.int k), .unset, .unset, .unset, .unset, .unset] [(.int (8 : Int32)), (.ref b1), (.ref b1)])) tt
    refine st26 _ ?_
    show Steps p.tables e below (T26.setTop (mkF m 61 #[.val (.int k), .unset, .unset, .unset, .unset, .unset] [(.ref wDATE), (.int (8 : Int32)), (.ref b1), (.ref b1)])) tt
    refine st28 _ ?_
    show Steps p.tables e below (T28.setTop (mkF m 62 #[.val (.int k), .unset, .unset, .unset, .unset, .unset] [(.ref b1)])) tt
    refine XS.dup X28.here hx rfl (hb hby at_62) rfl rfl ?_
    show Steps p.tables e below (T28.setTop (mkF m 63 #[.val (.int k), .unset, .unset, .unset, .unset, .unset] [(.ref b1), (.ref b1)])) tt
    refine XS.bipush X28.here hx rfl (hb hby at_63) ?_
    show Steps p.tables e below (T28.setTop (mkF m 65 #[.val (.int k), .unset, .unset, .unset, .unset, .unset] [(.int (9 : Int32)), (.ref b1), (.ref b1)])) tt
    refine st29 _ ?_
    show Steps p.tables e below (T29.setTop (mkF m 68 #[.val (.int k), .unset, .unset, .unset, .unset, .unset] [(.ref wTIMESTAMP), (.int (9 : Int32)), (.ref b1), (.ref b1)])) tt
    refine st31 _ ?_
    show Steps p.tables e below (T31.setTop (mkF m 69 #[.val (.int k), .unset, .unset, .unset, .unset, .unset] [(.ref b1)])) tt
    refine XS.dup X31.here hx rfl (hb hby at_69) rfl rfl ?_
    show Steps p.tables e below (T31.setTop (mkF m 70 #[.val (.int k), .unset, .unset, .unset, .unset, .unset] [(.ref b1), (.ref b1)])) tt
    refine XS.bipush X31.here hx rfl (hb hby at_70) ?_
    show Steps p.tables e below (T31.setTop (mkF m 72 #[.val (.int k), .unset, .unset, .unset, .unset, .unset] [(.int (10 : Int32)), (.ref b1), (.ref b1)])) tt
    refine st32 _ ?_
    show Steps p.tables e below (T32.setTop (mkF m 75 #[.val (.int k), .unset, .unset, .unset, .unset, .unset] [(.ref wUUID), (.int (10 : Int32)), (.ref b1), (.ref b1)])) tt
    refine st34 _ ?_
    show Steps p.tables e below (T34.setTop (mkF m 76 #[.val (.int k), .unset, .unset, .unset, .unset, .unset] [(.ref b1)])) tt
    refine XS.dup X34.here hx rfl (hb hby at_76) rfl rfl ?_
    show Steps p.tables e below (T34.setTop (mkF m 77 #[.val (.int k), .unset, .unset, .unset, .unset, .unset] [(.ref b1), (.ref b1)])) tt
    refine XS.bipush X34.here hx rfl (hb hby at_77) ?_
    show Steps p.tables e below (T34.setTop (mkF m 79 #[.val (.int k), .unset, .unset, .unset, .unset, .unset] [(.int (11 : Int32)), (.ref b1), (.ref b1)])) tt
    refine st35 _ ?_
    show Steps p.tables e below (T35.setTop (mkF m 82 #[.val (.int k), .unset, .unset, .unset, .unset, .unset] [(.ref wCLOB), (.int (11 : Int32)), (.ref b1), (.ref b1)])) tt
    refine st37 _ ?_
    show Steps p.tables e below (T37.setTop (mkF m 83 #[.val (.int k), .unset, .unset, .unset, .unset, .unset] [(.ref b1)])) tt
    refine XS.astoreN X37.here hx rfl (hb hby at_83) rfl rfl (l' := #[.val (.int k), .val (.ref b1), .unset, .unset, .unset, .unset]) rfl ?_
    show Steps p.tables e below (T37.setTop (mkF m 84 #[.val (.int k), .val (.ref b1), .unset, .unset, .unset, .unset] [])) tt
    refine XS.iloadN X37.here hx rfl (hb hby at_84) rfl ?_
    show Steps p.tables e below (T37.setTop (mkF m 85 #[.val (.int k), .val (.ref b1), .unset, .unset, .unset, .unset] [(.int k)])) tt
    refine X37.ldcInt hx hown (mvT hZ (hw _ (List.mem_of_getElem? (i := 28) rfl))) (g := (mkF m 85 #[.val (.int k), .val (.ref b1), .unset, .unset, .unset, .unset] [(.int k)])) rfl (hb hby at_85) _ ?_
    show Steps p.tables e below (T37.setTop (mkF m 87 #[.val (.int k), .val (.ref b1), .unset, .unset, .unset, .unset] [(.int (2147483647 : Int32)), (.int k)])) tt
    refine XS.iand X37.here hx rfl (hb hby at_87) rfl ?_
    show Steps p.tables e below (T37.setTop (mkF m 88 #[.val (.int k), .val (.ref b1), .unset, .unset, .unset, .unset] [(.int (k &&& (2147483647 : Int32)))])) tt
    refine XS.bipush X37.here hx rfl (hb hby at_88) ?_
    show Steps p.tables e below (T37.setTop (mkF m 90 #[.val (.int k), .val (.ref b1), .unset, .unset, .unset, .unset] [(.int (12 : Int32)), (.int (k &&& (2147483647 : Int32)))])) tt
    refine iremM X37 hx rfl (hb hby at_90) rfl (by decide) ?_
    show Steps p.tables e below (T37.setTop (mkF m 91 #[.val (.int k), .val (.ref b1), .unset, .unset, .unset, .unset] [(.int ((k &&& (2147483647 : Int32)) % (12 : Int32)))])) tt
    refine XS.istoreN X37.here hx rfl (hb hby at_91) rfl (l' := #[.val (.int k), .val (.ref b1), .val (.int ((k &&& (2147483647 : Int32)) % (12 : Int32))), .unset, .unset, .unset]) rfl ?_
    show Steps p.tables e below (T37.setTop (mkF m 92 #[.val (.int k), .val (.ref b1), .val (.int ((k &&& (2147483647 : Int32)) % (12 : Int32))), .unset, .unset, .unset] [])) tt
    refine XS.aloadN X37.here hx rfl (hb hby at_92) rfl rfl ?_
    show Steps p.tables e below (T37.setTop (mkF m 93 #[.val (.int k), .val (.ref b1), .val (.int ((k &&& (2147483647 : Int32)) % (12 : Int32))), .unset, .unset, .unset] [(.ref b1)])) tt
    refine XS.iloadN X37.here hx rfl (hb hby at_93) rfl ?_
    exact kk
  rcases own_idx k with hi | hi | hi | hi | hi | hi | hi | hi | hi | hi | hi | hi
  · have own_mark : True := trivial
    obtain ⟨cl39, Ar39, q39, S39, P39, H39, G39⟩ := id V37
    have hin39 : ¬ (((k &&& (2147483647 : Int32)) % (12 : Int32)) < 0 ∨ cl39.slots.size ≤ (((k &&& (2147483647 : Int32)) % (12 : Int32))).toNatClampNeg) := inb_of S39 (by rw [hi]; exact ⟨by decide, by decide⟩)
    have hat39 : cl39.slots[(((k &&& (2147483647 : Int32)) % (12 : Int32))).toNatClampNeg]? = some (.ref wINTEGER) := Has.at H39 hin39 (by rw [hi]; rfl)
    obtain ⟨cq40, kq40, q40a, q40b, q40c⟩ := isOf hZ e37 (Exa.keep E_wINTEGER K37)
    obtain ⟨_, _, ⟨T40, L40, ka40, na40⟩, -, X40, ⟨Lc40, hQ40, l40, y40, z40⟩, st40⟩ := X37.virtualBack hx (y := (⟨"com/example/cascade_persist/cascadepersist/ColumnType", "takesPrecision", "()Z"⟩ : MethodName)) (z := (⟨"com/example/cascade_persist/cascadepersist/ColumnType", "takesPrecision", "()Z"⟩ : MethodName)) hown (mvT hZ (hw _ (List.mem_of_getElem? (i := 29) rfl))) (mvT hZ (hw _ (List.mem_of_getElem? (i := 30) rfl))) (notFace_of_selects (args := #[]) (mvT hZ (hw _ (List.mem_of_getElem? (i := 32) rfl)))) (mvT hZ (hw _ (List.mem_of_getElem? (i := 32) rfl))) (mvT hZ (hw _ (List.mem_of_getElem? (i := 31) rfl))) (by decide) (backOf (W := 0) (own_rm_takesPrecision l Z a0 hw [] wINTEGER zN zP h37 n0 Z37 (Fld.keep F_wINTEGER K37 nin0) (own_sta_keep0 S_zP K37)) hZ (hw _ (List.mem_of_getElem? (i := 33) rfl)) (hw _ (List.mem_of_getElem? (i := 3) rfl)) (by decide) (by decide)) q40a q40c (g := (mkF m 110 #[.val (.int k), .val (.ref b1), .val (.int ((k &&& (2147483647 : Int32)) % (12 : Int32))), .val (.ref wINTEGER), .val (.int (0 : Int32)), .unset] [(.ref wINTEGER)])) rfl (by rw [hml]; rfl) (Steps.refl _) (argsL := []) (rest := []) (lenOf own_pd___Z rfl) rfl (by show 2 * 0 + _ ≤ _; exact Nat.le_of_eq rfl) (hb hby at_110) (fun _ _ => ⟨rfl, e37, (by decide : 1 + 0 ≤ _), (by decide : 12 + 0 ≤ _)⟩)
    dsimp only [Pt.U, Pt.locs, Pt.cells, Pt.slots] at X40 l40 y40 z40 st40 hQ40
    subst l40 y40 z40
    obtain ⟨hv40, Nq40, hh40⟩ := hQ40
    have N40 := Fr.app N37 Nq40
    rw [show own_same zN zP = (0 : Int32) by simp [own_same, nNL, nNP, nLP, nPL]] at hv40
    subst hv40
    have k41 : ∀ tt, Steps p.tables e below (T40.setTop (mkF m 141 #[.val (.int k), .val (.ref b1), .val (.int ((k &&& (2147483647 : Int32)) % (12 : Int32))), .val (.ref wINTEGER), .val (.int (0 : Int32)), .val (.int (0 : Int32))] [(.int (1 : Int32))])) tt → Steps p.tables e below (s₁.setTop (entryFrame m #[(.int k)] maxLocals)) tt := by
      intro tt kk
      refine k38 tt ?_
      show Steps p.tables e below (T37.setTop (mkF m 94 #[.val (.int k), .val (.ref b1), .val (.int ((k &&& (2147483647 : Int32)) % (12 : Int32))), .unset, .unset, .unset] [(.int ((k &&& (2147483647 : Int32)) % (12 : Int32))), (.ref b1)])) tt
      refine X37.aaload hx (j := ((k &&& (2147483647 : Int32)) % (12 : Int32))) (v := (.ref wINTEGER)) (by rw [e37]; exact Ar39.1) (State.isArrayOf_alike hZ.alike Ar39.2.1) rfl Ar39.2.2 hin39 hat39 (g := (mkF m 94 #[.val (.int k), .val (.ref b1), .val (.int ((k &&& (2147483647 : Int32)) % (12 : Int32))), .unset, .unset, .unset] [(.int ((k &&& (2147483647 : Int32)) % (12 : Int32))), (.ref b1)])) rfl rfl (hb hby at_94) _ ?_
      show Steps p.tables e below (T37.setTop (mkF m 95 #[.val (.int k), .val (.ref b1), .val (.int ((k &&& (2147483647 : Int32)) % (12 : Int32))), .unset, .unset, .unset] [(.ref wINTEGER)])) tt
      refine XS.astoreN X37.here hx rfl (hb hby at_95) rfl rfl (l' := #[.val (.int k), .val (.ref b1), .val (.int ((k &&& (2147483647 : Int32)) % (12 : Int32))), .val (.ref wINTEGER), .unset, .unset]) rfl ?_
      show Steps p.tables e below (T37.setTop (mkF m 96 #[.val (.int k), .val (.ref b1), .val (.int ((k &&& (2147483647 : Int32)) % (12 : Int32))), .val (.ref wINTEGER), .unset, .unset] [])) tt
      refine XS.iloadN X37.here hx rfl (hb hby at_96) rfl ?_
      show Steps p.tables e below (T37.setTop (mkF m 97 #[.val (.int k), .val (.ref b1), .val (.int ((k &&& (2147483647 : Int32)) % (12 : Int32))), .val (.ref wINTEGER), .unset, .unset] [(.int ((k &&& (2147483647 : Int32)) % (12 : Int32)))])) tt
      refine XS.bipush X37.here hx rfl (hb hby at_97) ?_
      show Steps p.tables e below (T37.setTop (mkF m 99 #[.val (.int k), .val (.ref b1), .val (.int ((k &&& (2147483647 : Int32)) % (12 : Int32))), .val (.ref wINTEGER), .unset, .unset] [(.int (7 : Int32)), (.int ((k &&& (2147483647 : Int32)) % (12 : Int32)))])) tt
      refine XS.icmpYes X37.here hx rfl (pc0 := 99) (pc' := 106) rfl (hb hby at_99) rfl (feq (by rw [hi]; decide : ¬ (((k &&& (2147483647 : Int32)) % (12 : Int32)) = (7 : Int32)))).2 (by decide) (by decide) ?_
      show Steps p.tables e below (T37.setTop (mkF m 106 #[.val (.int k), .val (.ref b1), .val (.int ((k &&& (2147483647 : Int32)) % (12 : Int32))), .val (.ref wINTEGER), .unset, .unset] [])) tt
      refine XS.iconst X37.here hx rfl (hb hby at_106) ?_
      show Steps p.tables e below (T37.setTop (mkF m 107 #[.val (.int k), .val (.ref b1), .val (.int ((k &&& (2147483647 : Int32)) % (12 : Int32))), .val (.ref wINTEGER), .unset, .unset] [(.int (0 : Int32))])) tt
      refine XS.istore X37.here hx rfl (hb hby at_107) rfl (l' := #[.val (.int k), .val (.ref b1), .val (.int ((k &&& (2147483647 : Int32)) % (12 : Int32))), .val (.ref wINTEGER), .val (.int (0 : Int32)), .unset]) rfl ?_
      show Steps p.tables e below (T37.setTop (mkF m 109 #[.val (.int k), .val (.ref b1), .val (.int ((k &&& (2147483647 : Int32)) % (12 : Int32))), .val (.ref wINTEGER), .val (.int (0 : Int32)), .unset] [])) tt
      refine XS.aloadN X37.here hx rfl (hb hby at_109) rfl rfl ?_
      show Steps p.tables e below (T37.setTop (mkF m 110 #[.val (.int k), .val (.ref b1), .val (.int ((k &&& (2147483647 : Int32)) % (12 : Int32))), .val (.ref wINTEGER), .val (.int (0 : Int32)), .unset] [(.ref wINTEGER)])) tt
      refine st40.trans ?_
      show Steps p.tables e below (T40.setTop (mkF m 113 #[.val (.int k), .val (.ref b1), .val (.int ((k &&& (2147483647 : Int32)) % (12 : Int32))), .val (.ref wINTEGER), .val (.int (0 : Int32)), .unset] [(.int (0 : Int32))])) tt
      refine XS.istore X40.here hx rfl (hb hby at_113) rfl (l' := #[.val (.int k), .val (.ref b1), .val (.int ((k &&& (2147483647 : Int32)) % (12 : Int32))), .val (.ref wINTEGER), .val (.int (0 : Int32)), .val (.int (0 : Int32))]) rfl ?_
      show Steps p.tables e below (T40.setTop (mkF m 115 #[.val (.int k), .val (.ref b1), .val (.int ((k &&& (2147483647 : Int32)) % (12 : Int32))), .val (.ref wINTEGER), .val (.int (0 : Int32)), .val (.int (0 : Int32))] [])) tt
      refine XS.iload X40.here hx rfl (hb hby at_115) rfl ?_
      show Steps p.tables e below (T40.setTop (mkF m 117 #[.val (.int k), .val (.ref b1), .val (.int ((k &&& (2147483647 : Int32)) % (12 : Int32))), .val (.ref wINTEGER), .val (.int (0 : Int32)), .val (.int (0 : Int32))] [(.int (0 : Int32))])) tt
      refine XS.iload X40.here hx rfl (hb hby at_117) rfl ?_
      show Steps p.tables e below (T40.setTop (mkF m 119 #[.val (.int k), .val (.ref b1), .val (.int ((k &&& (2147483647 : Int32)) % (12 : Int32))), .val (.ref wINTEGER), .val (.int (0 : Int32)), .val (.int (0 : Int32))] [(.int (0 : Int32)), (.int (0 : Int32))])) tt
      refine XS.icmpYes X40.here hx rfl (pc0 := 119) (pc' := 124) rfl (hb hby at_119) rfl (teq (by decide : (0 : Int32) = (0 : Int32))).1 (by decide) (by decide) ?_
      show Steps p.tables e below (T40.setTop (mkF m 124 #[.val (.int k), .val (.ref b1), .val (.int ((k &&& (2147483647 : Int32)) % (12 : Int32))), .val (.ref wINTEGER), .val (.int (0 : Int32)), .val (.int (0 : Int32))] [])) tt
      refine XS.iload X40.here hx rfl (hb hby at_124) rfl ?_
      show Steps p.tables e below (T40.setTop (mkF m 126 #[.val (.int k), .val (.ref b1), .val (.int ((k &&& (2147483647 : Int32)) % (12 : Int32))), .val (.ref wINTEGER), .val (.int (0 : Int32)), .val (.int (0 : Int32))] [(.int (0 : Int32))])) tt
      refine XS.ifYes X40.here hx rfl (pc0 := 126) (pc' := 136) rfl (hb hby at_126) rfl ((if0 _ _).trans (teq (by decide : (0 : Int32) = (0 : Int32))).1) (by decide) (by decide) ?_
      show Steps p.tables e below (T40.setTop (mkF m 136 #[.val (.int k), .val (.ref b1), .val (.int ((k &&& (2147483647 : Int32)) % (12 : Int32))), .val (.ref wINTEGER), .val (.int (0 : Int32)), .val (.int (0 : Int32))] [])) tt
      refine XS.iconst X40.here hx rfl (hb hby at_136) ?_
      show Steps p.tables e below (T40.setTop (mkF m 137 #[.val (.int k), .val (.ref b1), .val (.int ((k &&& (2147483647 : Int32)) % (12 : Int32))), .val (.ref wINTEGER), .val (.int (0 : Int32)), .val (.int (0 : Int32))] [(.int (1 : Int32))])) tt
      refine XS.goto X40.here hx rfl (pc0 := 137) (pc' := 141) rfl (hb hby at_137) (by decide) (by decide) ?_
      exact kk
    obtain ⟨fs, hr, hrun, hended, hW, hsame⟩ := X40.leave (v := some (.int (1 : Int32))) (fun hq => by rw [Bd.returns] at hq; cases hq)
    refine ⟨_, _, k41 _ ?_, hrun, hended, _, _, rfl, ?_, ⟨_, rfl⟩, hW, hsame.mono (by decide) (by decide)⟩
    · show Steps p.tables e below (T40.setTop (mkF m 141 #[.val (.int k), .val (.ref b1), .val (.int ((k &&& (2147483647 : Int32)) % (12 : Int32))), .val (.ref wINTEGER), .val (.int (0 : Int32)), .val (.int (0 : Int32))] [(.int (1 : Int32))])) _
      exact retN X40 hx (t := .boolean) Bd.returns (by simp) (hb hby at_141) hr
    · show (fun (v : Option Value) (h : Heap) (L : List Loc) => v = some (.int (1 : Int32)) ∧ Fr n0 L) _ T40.heap _
      rw [hh40]
      dsimp only
      exact ⟨rfl, N40⟩
  · have own_mark : True := trivial
    obtain ⟨cl42, Ar42, q42, S42, P42, H42, G42⟩ := id V37
    have hin42 : ¬ (((k &&& (2147483647 : Int32)) % (12 : Int32)) < 0 ∨ cl42.slots.size ≤ (((k &&& (2147483647 : Int32)) % (12 : Int32))).toNatClampNeg) := inb_of S42 (by rw [hi]; exact ⟨by decide, by decide⟩)
    have hat42 : cl42.slots[(((k &&& (2147483647 : Int32)) % (12 : Int32))).toNatClampNeg]? = some (.ref wBIGINT) := Has.at H42 hin42 (by rw [hi]; rfl)
    obtain ⟨cq43, kq43, q43a, q43b, q43c⟩ := isOf hZ e37 (Exa.keep E_wBIGINT K37)
    obtain ⟨_, _, ⟨T43, L43, ka43, na43⟩, -, X43, ⟨Lc43, hQ43, l43, y43, z43⟩, st43⟩ := X37.virtualBack hx (y := (⟨"com/example/cascade_persist/cascadepersist/ColumnType", "takesPrecision", "()Z"⟩ : MethodName)) (z := (⟨"com/example/cascade_persist/cascadepersist/ColumnType", "takesPrecision", "()Z"⟩ : MethodName)) hown (mvT hZ (hw _ (List.mem_of_getElem? (i := 29) rfl))) (mvT hZ (hw _ (List.mem_of_getElem? (i := 30) rfl))) (notFace_of_selects (args := #[]) (mvT hZ (hw _ (List.mem_of_getElem? (i := 32) rfl)))) (mvT hZ (hw _ (List.mem_of_getElem? (i := 32) rfl))) (mvT hZ (hw _ (List.mem_of_getElem? (i := 31) rfl))) (by decide) (backOf (W := 0) (own_rm_takesPrecision l Z a0 hw [] wBIGINT zN zP h37 n0 Z37 (Fld.keep F_wBIGINT K37 nin0) (own_sta_keep0 S_zP K37)) hZ (hw _ (List.mem_of_getElem? (i := 33) rfl)) (hw _ (List.mem_of_getElem? (i := 3) rfl)) (by decide) (by decide)) q43a q43c (g := (mkF m 110 #[.val (.int k), .val (.ref b1), .val (.int ((k &&& (2147483647 : Int32)) % (12 : Int32))), .val (.ref wBIGINT), .val (.int (0 : Int32)), .unset] [(.ref wBIGINT)])) rfl (by rw [hml]; rfl) (Steps.refl _) (argsL := []) (rest := []) (lenOf own_pd___Z rfl) rfl (by show 2 * 0 + _ ≤ _; exact Nat.le_of_eq rfl) (hb hby at_110) (fun _ _ => ⟨rfl, e37, (by decide : 1 + 0 ≤ _), (by decide : 12 + 0 ≤ _)⟩)
    dsimp only [Pt.U, Pt.locs, Pt.cells, Pt.slots] at X43 l43 y43 z43 st43 hQ43
    subst l43 y43 z43
    obtain ⟨hv43, Nq43, hh43⟩ := hQ43
    have N43 := Fr.app N37 Nq43
    rw [show own_same zN zP = (0 : Int32) by simp [own_same, nNL, nNP, nLP, nPL]] at hv43
    subst hv43
    have k44 : ∀ tt, Steps p.tables e below (T43.setTop (mkF m 141 #[.val (.int k), .val (.ref b1), .val (.int ((k &&& (2147483647 : Int32)) % (12 : Int32))), .val (.ref wBIGINT), .val (.int (0 : Int32)), .val (.int (0 : Int32))] [(.int (1 : Int32))])) tt → Steps p.tables e below (s₁.setTop (entryFrame m #[(.int k)] maxLocals)) tt := by
      intro tt kk
      refine k38 tt ?_
      show Steps p.tables e below (T37.setTop (mkF m 94 #[.val (.int k), .val (.ref b1), .val (.int ((k &&& (2147483647 : Int32)) % (12 : Int32))), .unset, .unset, .unset] [(.int ((k &&& (2147483647 : Int32)) % (12 : Int32))), (.ref b1)])) tt
      refine X37.aaload hx (j := ((k &&& (2147483647 : Int32)) % (12 : Int32))) (v := (.ref wBIGINT)) (by rw [e37]; exact Ar42.1) (State.isArrayOf_alike hZ.alike Ar42.2.1) rfl Ar42.2.2 hin42 hat42 (g := (mkF m 94 #[.val (.int k), .val (.ref b1), .val (.int ((k &&& (2147483647 : Int32)) % (12 : Int32))), .unset, .unset, .unset] [(.int ((k &&& (2147483647 : Int32)) % (12 : Int32))), (.ref b1)])) rfl rfl (hb hby at_94) _ ?_
      show Steps p.tables e below (T37.setTop (mkF m 95 #[.val (.int k), .val (.ref b1), .val (.int ((k &&& (2147483647 : Int32)) % (12 : Int32))), .unset, .unset, .unset] [(.ref wBIGINT)])) tt
      refine XS.astoreN X37.here hx rfl (hb hby at_95) rfl rfl (l' := #[.val (.int k), .val (.ref b1), .val (.int ((k &&& (2147483647 : Int32)) % (12 : Int32))), .val (.ref wBIGINT), .unset, .unset]) rfl ?_
      show Steps p.tables e below (T37.setTop (mkF m 96 #[.val (.int k), .val (.ref b1), .val (.int ((k &&& (2147483647 : Int32)) % (12 : Int32))), .val (.ref wBIGINT), .unset, .unset] [])) tt
      refine XS.iloadN X37.here hx rfl (hb hby at_96) rfl ?_
      show Steps p.tables e below (T37.setTop (mkF m 97 #[.val (.int k), .val (.ref b1), .val (.int ((k &&& (2147483647 : Int32)) % (12 : Int32))), .val (.ref wBIGINT), .unset, .unset] [(.int ((k &&& (2147483647 : Int32)) % (12 : Int32)))])) tt
      refine XS.bipush X37.here hx rfl (hb hby at_97) ?_
      show Steps p.tables e below (T37.setTop (mkF m 99 #[.val (.int k), .val (.ref b1), .val (.int ((k &&& (2147483647 : Int32)) % (12 : Int32))), .val (.ref wBIGINT), .unset, .unset] [(.int (7 : Int32)), (.int ((k &&& (2147483647 : Int32)) % (12 : Int32)))])) tt
      refine XS.icmpYes X37.here hx rfl (pc0 := 99) (pc' := 106) rfl (hb hby at_99) rfl (feq (by rw [hi]; decide : ¬ (((k &&& (2147483647 : Int32)) % (12 : Int32)) = (7 : Int32)))).2 (by decide) (by decide) ?_
      show Steps p.tables e below (T37.setTop (mkF m 106 #[.val (.int k), .val (.ref b1), .val (.int ((k &&& (2147483647 : Int32)) % (12 : Int32))), .val (.ref wBIGINT), .unset, .unset] [])) tt
      refine XS.iconst X37.here hx rfl (hb hby at_106) ?_
      show Steps p.tables e below (T37.setTop (mkF m 107 #[.val (.int k), .val (.ref b1), .val (.int ((k &&& (2147483647 : Int32)) % (12 : Int32))), .val (.ref wBIGINT), .unset, .unset] [(.int (0 : Int32))])) tt
      refine XS.istore X37.here hx rfl (hb hby at_107) rfl (l' := #[.val (.int k), .val (.ref b1), .val (.int ((k &&& (2147483647 : Int32)) % (12 : Int32))), .val (.ref wBIGINT), .val (.int (0 : Int32)), .unset]) rfl ?_
      show Steps p.tables e below (T37.setTop (mkF m 109 #[.val (.int k), .val (.ref b1), .val (.int ((k &&& (2147483647 : Int32)) % (12 : Int32))), .val (.ref wBIGINT), .val (.int (0 : Int32)), .unset] [])) tt
      refine XS.aloadN X37.here hx rfl (hb hby at_109) rfl rfl ?_
      show Steps p.tables e below (T37.setTop (mkF m 110 #[.val (.int k), .val (.ref b1), .val (.int ((k &&& (2147483647 : Int32)) % (12 : Int32))), .val (.ref wBIGINT), .val (.int (0 : Int32)), .unset] [(.ref wBIGINT)])) tt
      refine st43.trans ?_
      show Steps p.tables e below (T43.setTop (mkF m 113 #[.val (.int k), .val (.ref b1), .val (.int ((k &&& (2147483647 : Int32)) % (12 : Int32))), .val (.ref wBIGINT), .val (.int (0 : Int32)), .unset] [(.int (0 : Int32))])) tt
      refine XS.istore X43.here hx rfl (hb hby at_113) rfl (l' := #[.val (.int k), .val (.ref b1), .val (.int ((k &&& (2147483647 : Int32)) % (12 : Int32))), .val (.ref wBIGINT), .val (.int (0 : Int32)), .val (.int (0 : Int32))]) rfl ?_
      show Steps p.tables e below (T43.setTop (mkF m 115 #[.val (.int k), .val (.ref b1), .val (.int ((k &&& (2147483647 : Int32)) % (12 : Int32))), .val (.ref wBIGINT), .val (.int (0 : Int32)), .val (.int (0 : Int32))] [])) tt
      refine XS.iload X43.here hx rfl (hb hby at_115) rfl ?_
      show Steps p.tables e below (T43.setTop (mkF m 117 #[.val (.int k), .val (.ref b1), .val (.int ((k &&& (2147483647 : Int32)) % (12 : Int32))), .val (.ref wBIGINT), .val (.int (0 : Int32)), .val (.int (0 : Int32))] [(.int (0 : Int32))])) tt
      refine XS.iload X43.here hx rfl (hb hby at_117) rfl ?_
      show Steps p.tables e below (T43.setTop (mkF m 119 #[.val (.int k), .val (.ref b1), .val (.int ((k &&& (2147483647 : Int32)) % (12 : Int32))), .val (.ref wBIGINT), .val (.int (0 : Int32)), .val (.int (0 : Int32))] [(.int (0 : Int32)), (.int (0 : Int32))])) tt
      refine XS.icmpYes X43.here hx rfl (pc0 := 119) (pc' := 124) rfl (hb hby at_119) rfl (teq (by decide : (0 : Int32) = (0 : Int32))).1 (by decide) (by decide) ?_
      show Steps p.tables e below (T43.setTop (mkF m 124 #[.val (.int k), .val (.ref b1), .val (.int ((k &&& (2147483647 : Int32)) % (12 : Int32))), .val (.ref wBIGINT), .val (.int (0 : Int32)), .val (.int (0 : Int32))] [])) tt
      refine XS.iload X43.here hx rfl (hb hby at_124) rfl ?_
      show Steps p.tables e below (T43.setTop (mkF m 126 #[.val (.int k), .val (.ref b1), .val (.int ((k &&& (2147483647 : Int32)) % (12 : Int32))), .val (.ref wBIGINT), .val (.int (0 : Int32)), .val (.int (0 : Int32))] [(.int (0 : Int32))])) tt
      refine XS.ifYes X43.here hx rfl (pc0 := 126) (pc' := 136) rfl (hb hby at_126) rfl ((if0 _ _).trans (teq (by decide : (0 : Int32) = (0 : Int32))).1) (by decide) (by decide) ?_
      show Steps p.tables e below (T43.setTop (mkF m 136 #[.val (.int k), .val (.ref b1), .val (.int ((k &&& (2147483647 : Int32)) % (12 : Int32))), .val (.ref wBIGINT), .val (.int (0 : Int32)), .val (.int (0 : Int32))] [])) tt
      refine XS.iconst X43.here hx rfl (hb hby at_136) ?_
      show Steps p.tables e below (T43.setTop (mkF m 137 #[.val (.int k), .val (.ref b1), .val (.int ((k &&& (2147483647 : Int32)) % (12 : Int32))), .val (.ref wBIGINT), .val (.int (0 : Int32)), .val (.int (0 : Int32))] [(.int (1 : Int32))])) tt
      refine XS.goto X43.here hx rfl (pc0 := 137) (pc' := 141) rfl (hb hby at_137) (by decide) (by decide) ?_
      exact kk
    obtain ⟨fs, hr, hrun, hended, hW, hsame⟩ := X43.leave (v := some (.int (1 : Int32))) (fun hq => by rw [Bd.returns] at hq; cases hq)
    refine ⟨_, _, k44 _ ?_, hrun, hended, _, _, rfl, ?_, ⟨_, rfl⟩, hW, hsame.mono (by decide) (by decide)⟩
    · show Steps p.tables e below (T43.setTop (mkF m 141 #[.val (.int k), .val (.ref b1), .val (.int ((k &&& (2147483647 : Int32)) % (12 : Int32))), .val (.ref wBIGINT), .val (.int (0 : Int32)), .val (.int (0 : Int32))] [(.int (1 : Int32))])) _
      exact retN X43 hx (t := .boolean) Bd.returns (by simp) (hb hby at_141) hr
    · show (fun (v : Option Value) (h : Heap) (L : List Loc) => v = some (.int (1 : Int32)) ∧ Fr n0 L) _ T43.heap _
      rw [hh43]
      dsimp only
      exact ⟨rfl, N43⟩
  · have own_mark : True := trivial
    obtain ⟨cl45, Ar45, q45, S45, P45, H45, G45⟩ := id V37
    have hin45 : ¬ (((k &&& (2147483647 : Int32)) % (12 : Int32)) < 0 ∨ cl45.slots.size ≤ (((k &&& (2147483647 : Int32)) % (12 : Int32))).toNatClampNeg) := inb_of S45 (by rw [hi]; exact ⟨by decide, by decide⟩)
    have hat45 : cl45.slots[(((k &&& (2147483647 : Int32)) % (12 : Int32))).toNatClampNeg]? = some (.ref wSMALLINT) := Has.at H45 hin45 (by rw [hi]; rfl)
    obtain ⟨cq46, kq46, q46a, q46b, q46c⟩ := isOf hZ e37 (Exa.keep E_wSMALLINT K37)
    obtain ⟨_, _, ⟨T46, L46, ka46, na46⟩, -, X46, ⟨Lc46, hQ46, l46, y46, z46⟩, st46⟩ := X37.virtualBack hx (y := (⟨"com/example/cascade_persist/cascadepersist/ColumnType", "takesPrecision", "()Z"⟩ : MethodName)) (z := (⟨"com/example/cascade_persist/cascadepersist/ColumnType", "takesPrecision", "()Z"⟩ : MethodName)) hown (mvT hZ (hw _ (List.mem_of_getElem? (i := 29) rfl))) (mvT hZ (hw _ (List.mem_of_getElem? (i := 30) rfl))) (notFace_of_selects (args := #[]) (mvT hZ (hw _ (List.mem_of_getElem? (i := 32) rfl)))) (mvT hZ (hw _ (List.mem_of_getElem? (i := 32) rfl))) (mvT hZ (hw _ (List.mem_of_getElem? (i := 31) rfl))) (by decide) (backOf (W := 0) (own_rm_takesPrecision l Z a0 hw [] wSMALLINT zN zP h37 n0 Z37 (Fld.keep F_wSMALLINT K37 nin0) (own_sta_keep0 S_zP K37)) hZ (hw _ (List.mem_of_getElem? (i := 33) rfl)) (hw _ (List.mem_of_getElem? (i := 3) rfl)) (by decide) (by decide)) q46a q46c (g := (mkF m 110 #[.val (.int k), .val (.ref b1), .val (.int ((k &&& (2147483647 : Int32)) % (12 : Int32))), .val (.ref wSMALLINT), .val (.int (0 : Int32)), .unset] [(.ref wSMALLINT)])) rfl (by rw [hml]; rfl) (Steps.refl _) (argsL := []) (rest := []) (lenOf own_pd___Z rfl) rfl (by show 2 * 0 + _ ≤ _; exact Nat.le_of_eq rfl) (hb hby at_110) (fun _ _ => ⟨rfl, e37, (by decide : 1 + 0 ≤ _), (by decide : 12 + 0 ≤ _)⟩)
    dsimp only [Pt.U, Pt.locs, Pt.cells, Pt.slots] at X46 l46 y46 z46 st46 hQ46
    subst l46 y46 z46
    obtain ⟨hv46, Nq46, hh46⟩ := hQ46
    have N46 := Fr.app N37 Nq46
    rw [show own_same zN zP = (0 : Int32) by simp [own_same, nNL, nNP, nLP, nPL]] at hv46
    subst hv46
    have k47 : ∀ tt, Steps p.tables e below (T46.setTop (mkF m 141 #[.val (.int k), .val (.ref b1), .val (.int ((k &&& (2147483647 : Int32)) % (12 : Int32))), .val (.ref wSMALLINT), .val (.int (0 : Int32)), .val (.int (0 : Int32))] [(.int (1 : Int32))])) tt → Steps p.tables e below (s₁.setTop (entryFrame m #[(.int k)] maxLocals)) tt := by
      intro tt kk
      refine k38 tt ?_
      show Steps p.tables e below (T37.setTop (mkF m 94 #[.val (.int k), .val (.ref b1), .val (.int ((k &&& (2147483647 : Int32)) % (12 : Int32))), .unset, .unset, .unset] [(.int ((k &&& (2147483647 : Int32)) % (12 : Int32))), (.ref b1)])) tt
      refine X37.aaload hx (j := ((k &&& (2147483647 : Int32)) % (12 : Int32))) (v := (.ref wSMALLINT)) (by rw [e37]; exact Ar45.1) (State.isArrayOf_alike hZ.alike Ar45.2.1) rfl Ar45.2.2 hin45 hat45 (g := (mkF m 94 #[.val (.int k), .val (.ref b1), .val (.int ((k &&& (2147483647 : Int32)) % (12 : Int32))), .unset, .unset, .unset] [(.int ((k &&& (2147483647 : Int32)) % (12 : Int32))), (.ref b1)])) rfl rfl (hb hby at_94) _ ?_
      show Steps p.tables e below (T37.setTop (mkF m 95 #[.val (.int k), .val (.ref b1), .val (.int ((k &&& (2147483647 : Int32)) % (12 : Int32))), .unset, .unset, .unset] [(.ref wSMALLINT)])) tt
      refine XS.astoreN X37.here hx rfl (hb hby at_95) rfl rfl (l' := #[.val (.int k), .val (.ref b1), .val (.int ((k &&& (2147483647 : Int32)) % (12 : Int32))), .val (.ref wSMALLINT), .unset, .unset]) rfl ?_
      show Steps p.tables e below (T37.setTop (mkF m 96 #[.val (.int k), .val (.ref b1), .val (.int ((k &&& (2147483647 : Int32)) % (12 : Int32))), .val (.ref wSMALLINT), .unset, .unset] [])) tt
      refine XS.iloadN X37.here hx rfl (hb hby at_96) rfl ?_
      show Steps p.tables e below (T37.setTop (mkF m 97 #[.val (.int k), .val (.ref b1), .val (.int ((k &&& (2147483647 : Int32)) % (12 : Int32))), .val (.ref wSMALLINT), .unset, .unset] [(.int ((k &&& (2147483647 : Int32)) % (12 : Int32)))])) tt
      refine XS.bipush X37.here hx rfl (hb hby at_97) ?_
      show Steps p.tables e below (T37.setTop (mkF m 99 #[.val (.int k), .val (.ref b1), .val (.int ((k &&& (2147483647 : Int32)) % (12 : Int32))), .val (.ref wSMALLINT), .unset, .unset] [(.int (7 : Int32)), (.int ((k &&& (2147483647 : Int32)) % (12 : Int32)))])) tt
      refine XS.icmpYes X37.here hx rfl (pc0 := 99) (pc' := 106) rfl (hb hby at_99) rfl (feq (by rw [hi]; decide : ¬ (((k &&& (2147483647 : Int32)) % (12 : Int32)) = (7 : Int32)))).2 (by decide) (by decide) ?_
      show Steps p.tables e below (T37.setTop (mkF m 106 #[.val (.int k), .val (.ref b1), .val (.int ((k &&& (2147483647 : Int32)) % (12 : Int32))), .val (.ref wSMALLINT), .unset, .unset] [])) tt
      refine XS.iconst X37.here hx rfl (hb hby at_106) ?_
      show Steps p.tables e below (T37.setTop (mkF m 107 #[.val (.int k), .val (.ref b1), .val (.int ((k &&& (2147483647 : Int32)) % (12 : Int32))), .val (.ref wSMALLINT), .unset, .unset] [(.int (0 : Int32))])) tt
      refine XS.istore X37.here hx rfl (hb hby at_107) rfl (l' := #[.val (.int k), .val (.ref b1), .val (.int ((k &&& (2147483647 : Int32)) % (12 : Int32))), .val (.ref wSMALLINT), .val (.int (0 : Int32)), .unset]) rfl ?_
      show Steps p.tables e below (T37.setTop (mkF m 109 #[.val (.int k), .val (.ref b1), .val (.int ((k &&& (2147483647 : Int32)) % (12 : Int32))), .val (.ref wSMALLINT), .val (.int (0 : Int32)), .unset] [])) tt
      refine XS.aloadN X37.here hx rfl (hb hby at_109) rfl rfl ?_
      show Steps p.tables e below (T37.setTop (mkF m 110 #[.val (.int k), .val (.ref b1), .val (.int ((k &&& (2147483647 : Int32)) % (12 : Int32))), .val (.ref wSMALLINT), .val (.int (0 : Int32)), .unset] [(.ref wSMALLINT)])) tt
      refine st46.trans ?_
      show Steps p.tables e below (T46.setTop (mkF m 113 #[.val (.int k), .val (.ref b1), .val (.int ((k &&& (2147483647 : Int32)) % (12 : Int32))), .val (.ref wSMALLINT), .val (.int (0 : Int32)), .unset] [(.int (0 : Int32))])) tt
      refine XS.istore X46.here hx rfl (hb hby at_113) rfl (l' := #[.val (.int k), .val (.ref b1), .val (.int ((k &&& (2147483647 : Int32)) % (12 : Int32))), .val (.ref wSMALLINT), .val (.int (0 : Int32)), .val (.int (0 : Int32))]) rfl ?_
      show Steps p.tables e below (T46.setTop (mkF m 115 #[.val (.int k), .val (.ref b1), .val (.int ((k &&& (2147483647 : Int32)) % (12 : Int32))), .val (.ref wSMALLINT), .val (.int (0 : Int32)), .val (.int (0 : Int32))] [])) tt
      refine XS.iload X46.here hx rfl (hb hby at_115) rfl ?_
      show Steps p.tables e below (T46.setTop (mkF m 117 #[.val (.int k), .val (.ref b1), .val (.int ((k &&& (2147483647 : Int32)) % (12 : Int32))), .val (.ref wSMALLINT), .val (.int (0 : Int32)), .val (.int (0 : Int32))] [(.int (0 : Int32))])) tt
      refine XS.iload X46.here hx rfl (hb hby at_117) rfl ?_
      show Steps p.tables e below (T46.setTop (mkF m 119 #[.val (.int k), .val (.ref b1), .val (.int ((k &&& (2147483647 : Int32)) % (12 : Int32))), .val (.ref wSMALLINT), .val (.int (0 : Int32)), .val (.int (0 : Int32))] [(.int (0 : Int32)), (.int (0 : Int32))])) tt
      refine XS.icmpYes X46.here hx rfl (pc0 := 119) (pc' := 124) rfl (hb hby at_119) rfl (teq (by decide : (0 : Int32) = (0 : Int32))).1 (by decide) (by decide) ?_
      show Steps p.tables e below (T46.setTop (mkF m 124 #[.val (.int k), .val (.ref b1), .val (.int ((k &&& (2147483647 : Int32)) % (12 : Int32))), .val (.ref wSMALLINT), .val (.int (0 : Int32)), .val (.int (0 : Int32))] [])) tt
      refine XS.iload X46.here hx rfl (hb hby at_124) rfl ?_
      show Steps p.tables e below (T46.setTop (mkF m 126 #[.val (.int k), .val (.ref b1), .val (.int ((k &&& (2147483647 : Int32)) % (12 : Int32))), .val (.ref wSMALLINT), .val (.int (0 : Int32)), .val (.int (0 : Int32))] [(.int (0 : Int32))])) tt
      refine XS.ifYes X46.here hx rfl (pc0 := 126) (pc' := 136) rfl (hb hby at_126) rfl ((if0 _ _).trans (teq (by decide : (0 : Int32) = (0 : Int32))).1) (by decide) (by decide) ?_
      show Steps p.tables e below (T46.setTop (mkF m 136 #[.val (.int k), .val (.ref b1), .val (.int ((k &&& (2147483647 : Int32)) % (12 : Int32))), .val (.ref wSMALLINT), .val (.int (0 : Int32)), .val (.int (0 : Int32))] [])) tt
      refine XS.iconst X46.here hx rfl (hb hby at_136) ?_
      show Steps p.tables e below (T46.setTop (mkF m 137 #[.val (.int k), .val (.ref b1), .val (.int ((k &&& (2147483647 : Int32)) % (12 : Int32))), .val (.ref wSMALLINT), .val (.int (0 : Int32)), .val (.int (0 : Int32))] [(.int (1 : Int32))])) tt
      refine XS.goto X46.here hx rfl (pc0 := 137) (pc' := 141) rfl (hb hby at_137) (by decide) (by decide) ?_
      exact kk
    obtain ⟨fs, hr, hrun, hended, hW, hsame⟩ := X46.leave (v := some (.int (1 : Int32))) (fun hq => by rw [Bd.returns] at hq; cases hq)
    refine ⟨_, _, k47 _ ?_, hrun, hended, _, _, rfl, ?_, ⟨_, rfl⟩, hW, hsame.mono (by decide) (by decide)⟩
    · show Steps p.tables e below (T46.setTop (mkF m 141 #[.val (.int k), .val (.ref b1), .val (.int ((k &&& (2147483647 : Int32)) % (12 : Int32))), .val (.ref wSMALLINT), .val (.int (0 : Int32)), .val (.int (0 : Int32))] [(.int (1 : Int32))])) _
      exact retN X46 hx (t := .boolean) Bd.returns (by simp) (hb hby at_141) hr
    · show (fun (v : Option Value) (h : Heap) (L : List Loc) => v = some (.int (1 : Int32)) ∧ Fr n0 L) _ T46.heap _
      rw [hh46]
      dsimp only
      exact ⟨rfl, N46⟩
  · have own_mark : True := trivial
    obtain ⟨cl48, Ar48, q48, S48, P48, H48, G48⟩ := id V37
    have hin48 : ¬ (((k &&& (2147483647 : Int32)) % (12 : Int32)) < 0 ∨ cl48.slots.size ≤ (((k &&& (2147483647 : Int32)) % (12 : Int32))).toNatClampNeg) := inb_of S48 (by rw [hi]; exact ⟨by decide, by decide⟩)
    have hat48 : cl48.slots[(((k &&& (2147483647 : Int32)) % (12 : Int32))).toNatClampNeg]? = some (.ref wBOOLEAN) := Has.at H48 hin48 (by rw [hi]; rfl)
    obtain ⟨cq49, kq49, q49a, q49b, q49c⟩ := isOf hZ e37 (Exa.keep E_wBOOLEAN K37)
    obtain ⟨_, _, ⟨T49, L49, ka49, na49⟩, -, X49, ⟨Lc49, hQ49, l49, y49, z49⟩, st49⟩ := X37.virtualBack hx (y := (⟨"com/example/cascade_persist/cascadepersist/ColumnType", "takesPrecision", "()Z"⟩ : MethodName)) (z := (⟨"com/example/cascade_persist/cascadepersist/ColumnType", "takesPrecision", "()Z"⟩ : MethodName)) hown (mvT hZ (hw _ (List.mem_of_getElem? (i := 29) rfl))) (mvT hZ (hw _ (List.mem_of_getElem? (i := 30) rfl))) (notFace_of_selects (args := #[]) (mvT hZ (hw _ (List.mem_of_getElem? (i := 32) rfl)))) (mvT hZ (hw _ (List.mem_of_getElem? (i := 32) rfl))) (mvT hZ (hw _ (List.mem_of_getElem? (i := 31) rfl))) (by decide) (backOf (W := 0) (own_rm_takesPrecision l Z a0 hw [] wBOOLEAN zN zP h37 n0 Z37 (Fld.keep F_wBOOLEAN K37 nin0) (own_sta_keep0 S_zP K37)) hZ (hw _ (List.mem_of_getElem? (i := 33) rfl)) (hw _ (List.mem_of_getElem? (i := 3) rfl)) (by decide) (by decide)) q49a q49c (g := (mkF m 110 #[.val (.int k), .val (.ref b1), .val (.int ((k &&& (2147483647 : Int32)) % (12 : Int32))), .val (.ref wBOOLEAN), .val (.int (0 : Int32)), .unset] [(.ref wBOOLEAN)])) rfl (by rw [hml]; rfl) (Steps.refl _) (argsL := []) (rest := []) (lenOf own_pd___Z rfl) rfl (by show 2 * 0 + _ ≤ _; exact Nat.le_of_eq rfl) (hb hby at_110) (fun _ _ => ⟨rfl, e37, (by decide : 1 + 0 ≤ _), (by decide : 12 + 0 ≤ _)⟩)
    dsimp only [Pt.U, Pt.locs, Pt.cells, Pt.slots] at X49 l49 y49 z49 st49 hQ49
    subst l49 y49 z49
    obtain ⟨hv49, Nq49, hh49⟩ := hQ49
    have N49 := Fr.app N37 Nq49
    rw [show own_same zN zP = (0 : Int32) by simp [own_same, nNL, nNP, nLP, nPL]] at hv49
    subst hv49
    have k50 : ∀ tt, Steps p.tables e below (T49.setTop (mkF m 141 #[.val (.int k), .val (.ref b1), .val (.int ((k &&& (2147483647 : Int32)) % (12 : Int32))), .val (.ref wBOOLEAN), .val (.int (0 : Int32)), .val (.int (0 : Int32))] [(.int (1 : Int32))])) tt → Steps p.tables e below (s₁.setTop (entryFrame m #[(.int k)] maxLocals)) tt := by
      intro tt kk
      refine k38 tt ?_
      show Steps p.tables e below (T37.setTop (mkF m 94 #[.val (.int k), .val (.ref b1), .val (.int ((k &&& (2147483647 : Int32)) % (12 : Int32))), .unset, .unset, .unset] [(.int ((k &&& (2147483647 : Int32)) % (12 : Int32))), (.ref b1)])) tt
      refine X37.aaload hx (j := ((k &&& (2147483647 : Int32)) % (12 : Int32))) (v := (.ref wBOOLEAN)) (by rw [e37]; exact Ar48.1) (State.isArrayOf_alike hZ.alike Ar48.2.1) rfl Ar48.2.2 hin48 hat48 (g := (mkF m 94 #[.val (.int k), .val (.ref b1), .val (.int ((k &&& (2147483647 : Int32)) % (12 : Int32))), .unset, .unset, .unset] [(.int ((k &&& (2147483647 : Int32)) % (12 : Int32))), (.ref b1)])) rfl rfl (hb hby at_94) _ ?_
      show Steps p.tables e below (T37.setTop (mkF m 95 #[.val (.int k), .val (.ref b1), .val (.int ((k &&& (2147483647 : Int32)) % (12 : Int32))), .unset, .unset, .unset] [(.ref wBOOLEAN)])) tt
      refine XS.astoreN X37.here hx rfl (hb hby at_95) rfl rfl (l' := #[.val (.int k), .val (.ref b1), .val (.int ((k &&& (2147483647 : Int32)) % (12 : Int32))), .val (.ref wBOOLEAN), .unset, .unset]) rfl ?_
      show Steps p.tables e below (T37.setTop (mkF m 96 #[.val (.int k), .val (.ref b1), .val (.int ((k &&& (2147483647 : Int32)) % (12 : Int32))), .val (.ref wBOOLEAN), .unset, .unset] [])) tt
      refine XS.iloadN X37.here hx rfl (hb hby at_96) rfl ?_
      show Steps p.tables e below (T37.setTop (mkF m 97 #[.val (.int k), .val (.ref b1), .val (.int ((k &&& (2147483647 : Int32)) % (12 : Int32))), .val (.ref wBOOLEAN), .unset, .unset] [(.int ((k &&& (2147483647 : Int32)) % (12 : Int32)))])) tt
      refine XS.bipush X37.here hx rfl (hb hby at_97) ?_
      show Steps p.tables e below (T37.setTop (mkF m 99 #[.val (.int k), .val (.ref b1), .val (.int ((k &&& (2147483647 : Int32)) % (12 : Int32))), .val (.ref wBOOLEAN), .unset, .unset] [(.int (7 : Int32)), (.int ((k &&& (2147483647 : Int32)) % (12 : Int32)))])) tt
      refine XS.icmpYes X37.here hx rfl (pc0 := 99) (pc' := 106) rfl (hb hby at_99) rfl (feq (by rw [hi]; decide : ¬ (((k &&& (2147483647 : Int32)) % (12 : Int32)) = (7 : Int32)))).2 (by decide) (by decide) ?_
      show Steps p.tables e below (T37.setTop (mkF m 106 #[.val (.int k), .val (.ref b1), .val (.int ((k &&& (2147483647 : Int32)) % (12 : Int32))), .val (.ref wBOOLEAN), .unset, .unset] [])) tt
      refine XS.iconst X37.here hx rfl (hb hby at_106) ?_
      show Steps p.tables e below (T37.setTop (mkF m 107 #[.val (.int k), .val (.ref b1), .val (.int ((k &&& (2147483647 : Int32)) % (12 : Int32))), .val (.ref wBOOLEAN), .unset, .unset] [(.int (0 : Int32))])) tt
      refine XS.istore X37.here hx rfl (hb hby at_107) rfl (l' := #[.val (.int k), .val (.ref b1), .val (.int ((k &&& (2147483647 : Int32)) % (12 : Int32))), .val (.ref wBOOLEAN), .val (.int (0 : Int32)), .unset]) rfl ?_
      show Steps p.tables e below (T37.setTop (mkF m 109 #[.val (.int k), .val (.ref b1), .val (.int ((k &&& (2147483647 : Int32)) % (12 : Int32))), .val (.ref wBOOLEAN), .val (.int (0 : Int32)), .unset] [])) tt
      refine XS.aloadN X37.here hx rfl (hb hby at_109) rfl rfl ?_
      show Steps p.tables e below (T37.setTop (mkF m 110 #[.val (.int k), .val (.ref b1), .val (.int ((k &&& (2147483647 : Int32)) % (12 : Int32))), .val (.ref wBOOLEAN), .val (.int (0 : Int32)), .unset] [(.ref wBOOLEAN)])) tt
      refine st49.trans ?_
      show Steps p.tables e below (T49.setTop (mkF m 113 #[.val (.int k), .val (.ref b1), .val (.int ((k &&& (2147483647 : Int32)) % (12 : Int32))), .val (.ref wBOOLEAN), .val (.int (0 : Int32)), .unset] [(.int (0 : Int32))])) tt
      refine XS.istore X49.here hx rfl (hb hby at_113) rfl (l' := #[.val (.int k), .val (.ref b1), .val (.int ((k &&& (2147483647 : Int32)) % (12 : Int32))), .val (.ref wBOOLEAN), .val (.int (0 : Int32)), .val (.int (0 : Int32))]) rfl ?_
      show Steps p.tables e below (T49.setTop (mkF m 115 #[.val (.int k), .val (.ref b1), .val (.int ((k &&& (2147483647 : Int32)) % (12 : Int32))), .val (.ref wBOOLEAN), .val (.int (0 : Int32)), .val (.int (0 : Int32))] [])) tt
      refine XS.iload X49.here hx rfl (hb hby at_115) rfl ?_
      show Steps p.tables e below (T49.setTop (mkF m 117 #[.val (.int k), .val (.ref b1), .val (.int ((k &&& (2147483647 : Int32)) % (12 : Int32))), .val (.ref wBOOLEAN), .val (.int (0 : Int32)), .val (.int (0 : Int32))] [(.int (0 : Int32))])) tt
      refine XS.iload X49.here hx rfl (hb hby at_117) rfl ?_
      show Steps p.tables e below (T49.setTop (mkF m 119 #[.val (.int k), .val (.ref b1), .val (.int ((k &&& (2147483647 : Int32)) % (12 : Int32))), .val (.ref wBOOLEAN), .val (.int (0 : Int32)), .val (.int (0 : Int32))] [(.int (0 : Int32)), (.int (0 : Int32))])) tt
      refine XS.icmpYes X49.here hx rfl (pc0 := 119) (pc' := 124) rfl (hb hby at_119) rfl (teq (by decide : (0 : Int32) = (0 : Int32))).1 (by decide) (by decide) ?_
      show Steps p.tables e below (T49.setTop (mkF m 124 #[.val (.int k), .val (.ref b1), .val (.int ((k &&& (2147483647 : Int32)) % (12 : Int32))), .val (.ref wBOOLEAN), .val (.int (0 : Int32)), .val (.int (0 : Int32))] [])) tt
      refine XS.iload X49.here hx rfl (hb hby at_124) rfl ?_
      show Steps p.tables e below (T49.setTop (mkF m 126 #[.val (.int k), .val (.ref b1), .val (.int ((k &&& (2147483647 : Int32)) % (12 : Int32))), .val (.ref wBOOLEAN), .val (.int (0 : Int32)), .val (.int (0 : Int32))] [(.int (0 : Int32))])) tt
      refine XS.ifYes X49.here hx rfl (pc0 := 126) (pc' := 136) rfl (hb hby at_126) rfl ((if0 _ _).trans (teq (by decide : (0 : Int32) = (0 : Int32))).1) (by decide) (by decide) ?_
      show Steps p.tables e below (T49.setTop (mkF m 136 #[.val (.int k), .val (.ref b1), .val (.int ((k &&& (2147483647 : Int32)) % (12 : Int32))), .val (.ref wBOOLEAN), .val (.int (0 : Int32)), .val (.int (0 : Int32))] [])) tt
      refine XS.iconst X49.here hx rfl (hb hby at_136) ?_
      show Steps p.tables e below (T49.setTop (mkF m 137 #[.val (.int k), .val (.ref b1), .val (.int ((k &&& (2147483647 : Int32)) % (12 : Int32))), .val (.ref wBOOLEAN), .val (.int (0 : Int32)), .val (.int (0 : Int32))] [(.int (1 : Int32))])) tt
      refine XS.goto X49.here hx rfl (pc0 := 137) (pc' := 141) rfl (hb hby at_137) (by decide) (by decide) ?_
      exact kk
    obtain ⟨fs, hr, hrun, hended, hW, hsame⟩ := X49.leave (v := some (.int (1 : Int32))) (fun hq => by rw [Bd.returns] at hq; cases hq)
    refine ⟨_, _, k50 _ ?_, hrun, hended, _, _, rfl, ?_, ⟨_, rfl⟩, hW, hsame.mono (by decide) (by decide)⟩
    · show Steps p.tables e below (T49.setTop (mkF m 141 #[.val (.int k), .val (.ref b1), .val (.int ((k &&& (2147483647 : Int32)) % (12 : Int32))), .val (.ref wBOOLEAN), .val (.int (0 : Int32)), .val (.int (0 : Int32))] [(.int (1 : Int32))])) _
      exact retN X49 hx (t := .boolean) Bd.returns (by simp) (hb hby at_141) hr
    · show (fun (v : Option Value) (h : Heap) (L : List Loc) => v = some (.int (1 : Int32)) ∧ Fr n0 L) _ T49.heap _
      rw [hh49]
      dsimp only
      exact ⟨rfl, N49⟩
  · have own_mark : True := trivial
    obtain ⟨cl51, Ar51, q51, S51, P51, H51, G51⟩ := id V37
    have hin51 : ¬ (((k &&& (2147483647 : Int32)) % (12 : Int32)) < 0 ∨ cl51.slots.size ≤ (((k &&& (2147483647 : Int32)) % (12 : Int32))).toNatClampNeg) := inb_of S51 (by rw [hi]; exact ⟨by decide, by decide⟩)
    have hat51 : cl51.slots[(((k &&& (2147483647 : Int32)) % (12 : Int32))).toNatClampNeg]? = some (.ref wDOUBLE) := Has.at H51 hin51 (by rw [hi]; rfl)
    obtain ⟨cq52, kq52, q52a, q52b, q52c⟩ := isOf hZ e37 (Exa.keep E_wDOUBLE K37)
    obtain ⟨_, _, ⟨T52, L52, ka52, na52⟩, -, X52, ⟨Lc52, hQ52, l52, y52, z52⟩, st52⟩ := X37.virtualBack hx (y := (⟨"com/example/cascade_persist/cascadepersist/ColumnType", "takesPrecision", "()Z"⟩ : MethodName)) (z := (⟨"com/example/cascade_persist/cascadepersist/ColumnType", "takesPrecision", "()Z"⟩ : MethodName)) hown (mvT hZ (hw _ (List.mem_of_getElem? (i := 29) rfl))) (mvT hZ (hw _ (List.mem_of_getElem? (i := 30) rfl))) (notFace_of_selects (args := #[]) (mvT hZ (hw _ (List.mem_of_getElem? (i := 32) rfl)))) (mvT hZ (hw _ (List.mem_of_getElem? (i := 32) rfl))) (mvT hZ (hw _ (List.mem_of_getElem? (i := 31) rfl))) (by decide) (backOf (W := 0) (own_rm_takesPrecision l Z a0 hw [] wDOUBLE zN zP h37 n0 Z37 (Fld.keep F_wDOUBLE K37 nin0) (own_sta_keep0 S_zP K37)) hZ (hw _ (List.mem_of_getElem? (i := 33) rfl)) (hw _ (List.mem_of_getElem? (i := 3) rfl)) (by decide) (by decide)) q52a q52c (g := (mkF m 110 #[.val (.int k), .val (.ref b1), .val (.int ((k &&& (2147483647 : Int32)) % (12 : Int32))), .val (.ref wDOUBLE), .val (.int (0 : Int32)), .unset] [(.ref wDOUBLE)])) rfl (by rw [hml]; rfl) (Steps.refl _) (argsL := []) (rest := []) (lenOf own_pd___Z rfl) rfl (by show 2 * 0 + _ ≤ _; exact Nat.le_of_eq rfl) (hb hby at_110) (fun _ _ => ⟨rfl, e37, (by decide : 1 + 0 ≤ _), (by decide : 12 + 0 ≤ _)⟩)
    dsimp only [Pt.U, Pt.locs, Pt.cells, Pt.slots] at X52 l52 y52 z52 st52 hQ52
    subst l52 y52 z52
    obtain ⟨hv52, Nq52, hh52⟩ := hQ52
    have N52 := Fr.app N37 Nq52
    rw [show own_same zN zP = (0 : Int32) by simp [own_same, nNL, nNP, nLP, nPL]] at hv52
    subst hv52
    have k53 : ∀ tt, Steps p.tables e below (T52.setTop (mkF m 141 #[.val (.int k), .val (.ref b1), .val (.int ((k &&& (2147483647 : Int32)) % (12 : Int32))), .val (.ref wDOUBLE), .val (.int (0 : Int32)), .val (.int (0 : Int32))] [(.int (1 : Int32))])) tt → Steps p.tables e below (s₁.setTop (entryFrame m #[(.int k)] maxLocals)) tt := by
      intro tt kk
      refine k38 tt ?_
      show Steps p.tables e below (T37.setTop (mkF m 94 #[.val (.int k), .val (.ref b1), .val (.int ((k &&& (2147483647 : Int32)) % (12 : Int32))), .unset, .unset, .unset] [(.int ((k &&& (2147483647 : Int32)) % (12 : Int32))), (.ref b1)])) tt
      refine X37.aaload hx (j := ((k &&& (2147483647 : Int32)) % (12 : Int32))) (v := (.ref wDOUBLE)) (by rw [e37]; exact Ar51.1) (State.isArrayOf_alike hZ.alike Ar51.2.1) rfl Ar51.2.2 hin51 hat51 (g := (mkF m 94 #[.val (.int k), .val (.ref b1), .val (.int ((k &&& (2147483647 : Int32)) % (12 : Int32))), .unset, .unset, .unset] [(.int ((k &&& (2147483647 : Int32)) % (12 : Int32))), (.ref b1)])) rfl rfl (hb hby at_94) _ ?_
      show Steps p.tables e below (T37.setTop (mkF m 95 #[.val (.int k), .val (.ref b1), .val (.int ((k &&& (2147483647 : Int32)) % (12 : Int32))), .unset, .unset, .unset] [(.ref wDOUBLE)])) tt
      refine XS.astoreN X37.here hx rfl (hb hby at_95) rfl rfl (l' := #[.val (.int k), .val (.ref b1), .val (.int ((k &&& (2147483647 : Int32)) % (12 : Int32))), .val (.ref wDOUBLE), .unset, .unset]) rfl ?_
      show Steps p.tables e below (T37.setTop (mkF m 96 #[.val (.int k), .val (.ref b1), .val (.int ((k &&& (2147483647 : Int32)) % (12 : Int32))), .val (.ref wDOUBLE), .unset, .unset] [])) tt
      refine XS.iloadN X37.here hx rfl (hb hby at_96) rfl ?_
      show Steps p.tables e below (T37.setTop (mkF m 97 #[.val (.int k), .val (.ref b1), .val (.int ((k &&& (2147483647 : Int32)) % (12 : Int32))), .val (.ref wDOUBLE), .unset, .unset] [(.int ((k &&& (2147483647 : Int32)) % (12 : Int32)))])) tt
      refine XS.bipush X37.here hx rfl (hb hby at_97) ?_
      show Steps p.tables e below (T37.setTop (mkF m 99 #[.val (.int k), .val (.ref b1), .val (.int ((k &&& (2147483647 : Int32)) % (12 : Int32))), .val (.ref wDOUBLE), .unset, .unset] [(.int (7 : Int32)), (.int ((k &&& (2147483647 : Int32)) % (12 : Int32)))])) tt
      refine XS.icmpYes X37.here hx rfl (pc0 := 99) (pc' := 106) rfl (hb hby at_99) rfl (feq (by rw [hi]; decide : ¬ (((k &&& (2147483647 : Int32)) % (12 : Int32)) = (7 : Int32)))).2 (by decide) (by decide) ?_
      show Steps p.tables e below (T37.setTop (mkF m 106 #[.val (.int k), .val (.ref b1), .val (.int ((k &&& (2147483647 : Int32)) % (12 : Int32))), .val (.ref wDOUBLE), .unset, .unset] [])) tt
      refine XS.iconst X37.here hx rfl (hb hby at_106) ?_
      show Steps p.tables e below (T37.setTop (mkF m 107 #[.val (.int k), .val (.ref b1), .val (.int ((k &&& (2147483647 : Int32)) % (12 : Int32))), .val (.ref wDOUBLE), .unset, .unset] [(.int (0 : Int32))])) tt
      refine XS.istore X37.here hx rfl (hb hby at_107) rfl (l' := #[.val (.int k), .val (.ref b1), .val (.int ((k &&& (2147483647 : Int32)) % (12 : Int32))), .val (.ref wDOUBLE), .val (.int (0 : Int32)), .unset]) rfl ?_
      show Steps p.tables e below (T37.setTop (mkF m 109 #[.val (.int k), .val (.ref b1), .val (.int ((k &&& (2147483647 : Int32)) % (12 : Int32))), .val (.ref wDOUBLE), .val (.int (0 : Int32)), .unset] [])) tt
      refine XS.aloadN X37.here hx rfl (hb hby at_109) rfl rfl ?_
      show Steps p.tables e below (T37.setTop (mkF m 110 #[.val (.int k), .val (.ref b1), .val (.int ((k &&& (2147483647 : Int32)) % (12 : Int32))), .val (.ref wDOUBLE), .val (.int (0 : Int32)), .unset] [(.ref wDOUBLE)])) tt
      refine st52.trans ?_
      show Steps p.tables e below (T52.setTop (mkF m 113 #[.val (.int k), .val (.ref b1), .val (.int ((k &&& (2147483647 : Int32)) % (12 : Int32))), .val (.ref wDOUBLE), .val (.int (0 : Int32)), .unset] [(.int (0 : Int32))])) tt
      refine XS.istore X52.here hx rfl (hb hby at_113) rfl (l' := #[.val (.int k), .val (.ref b1), .val (.int ((k &&& (2147483647 : Int32)) % (12 : Int32))), .val (.ref wDOUBLE), .val (.int (0 : Int32)), .val (.int (0 : Int32))]) rfl ?_
      show Steps p.tables e below (T52.setTop (mkF m 115 #[.val (.int k), .val (.ref b1), .val (.int ((k &&& (2147483647 : Int32)) % (12 : Int32))), .val (.ref wDOUBLE), .val (.int (0 : Int32)), .val (.int (0 : Int32))] [])) tt
      refine XS.iload X52.here hx rfl (hb hby at_115) rfl ?_
      show Steps p.tables e below (T52.setTop (mkF m 117 #[.val (.int k), .val (.ref b1), .val (.int ((k &&& (2147483647 : Int32)) % (12 : Int32))), .val (.ref wDOUBLE), .val (.int (0 : Int32)), .val (.int (0 : Int32))] [(.int (0 : Int32))])) tt
      refine XS.iload X52.here hx rfl (hb hby at_117) rfl ?_
      show Steps p.tables e below (T52.setTop (mkF m 119 #[.val (.int k), .val (.ref b1), .val (.int ((k &&& (2147483647 : Int32)) % (12 : Int32))), .val (.ref wDOUBLE), .val (.int (0 : Int32)), .val (.int (0 : Int32))] [(.int (0 : Int32)), (.int (0 : Int32))])) tt
      refine XS.icmpYes X52.here hx rfl (pc0 := 119) (pc' := 124) rfl (hb hby at_119) rfl (teq (by decide : (0 : Int32) = (0 : Int32))).1 (by decide) (by decide) ?_
      show Steps p.tables e below (T52.setTop (mkF m 124 #[.val (.int k), .val (.ref b1), .val (.int ((k &&& (2147483647 : Int32)) % (12 : Int32))), .val (.ref wDOUBLE), .val (.int (0 : Int32)), .val (.int (0 : Int32))] [])) tt
      refine XS.iload X52.here hx rfl (hb hby at_124) rfl ?_
      show Steps p.tables e below (T52.setTop (mkF m 126 #[.val (.int k), .val (.ref b1), .val (.int ((k &&& (2147483647 : Int32)) % (12 : Int32))), .val (.ref wDOUBLE), .val (.int (0 : Int32)), .val (.int (0 : Int32))] [(.int (0 : Int32))])) tt
      refine XS.ifYes X52.here hx rfl (pc0 := 126) (pc' := 136) rfl (hb hby at_126) rfl ((if0 _ _).trans (teq (by decide : (0 : Int32) = (0 : Int32))).1) (by decide) (by decide) ?_
      show Steps p.tables e below (T52.setTop (mkF m 136 #[.val (.int k), .val (.ref b1), .val (.int ((k &&& (2147483647 : Int32)) % (12 : Int32))), .val (.ref wDOUBLE), .val (.int (0 : Int32)), .val (.int (0 : Int32))] [])) tt
      refine XS.iconst X52.here hx rfl (hb hby at_136) ?_
      show Steps p.tables e below (T52.setTop (mkF m 137 #[.val (.int k), .val (.ref b1), .val (.int ((k &&& (2147483647 : Int32)) % (12 : Int32))), .val (.ref wDOUBLE), .val (.int (0 : Int32)), .val (.int (0 : Int32))] [(.int (1 : Int32))])) tt
      refine XS.goto X52.here hx rfl (pc0 := 137) (pc' := 141) rfl (hb hby at_137) (by decide) (by decide) ?_
      exact kk
    obtain ⟨fs, hr, hrun, hended, hW, hsame⟩ := X52.leave (v := some (.int (1 : Int32))) (fun hq => by rw [Bd.returns] at hq; cases hq)
    refine ⟨_, _, k53 _ ?_, hrun, hended, _, _, rfl, ?_, ⟨_, rfl⟩, hW, hsame.mono (by decide) (by decide)⟩
    · show Steps p.tables e below (T52.setTop (mkF m 141 #[.val (.int k), .val (.ref b1), .val (.int ((k &&& (2147483647 : Int32)) % (12 : Int32))), .val (.ref wDOUBLE), .val (.int (0 : Int32)), .val (.int (0 : Int32))] [(.int (1 : Int32))])) _
      exact retN X52 hx (t := .boolean) Bd.returns (by simp) (hb hby at_141) hr
    · show (fun (v : Option Value) (h : Heap) (L : List Loc) => v = some (.int (1 : Int32)) ∧ Fr n0 L) _ T52.heap _
      rw [hh52]
      dsimp only
      exact ⟨rfl, N52⟩
  · have own_mark : True := trivial
    obtain ⟨cl54, Ar54, q54, S54, P54, H54, G54⟩ := id V37
    have hin54 : ¬ (((k &&& (2147483647 : Int32)) % (12 : Int32)) < 0 ∨ cl54.slots.size ≤ (((k &&& (2147483647 : Int32)) % (12 : Int32))).toNatClampNeg) := inb_of S54 (by rw [hi]; exact ⟨by decide, by decide⟩)
    have hat54 : cl54.slots[(((k &&& (2147483647 : Int32)) % (12 : Int32))).toNatClampNeg]? = some (.ref wREAL) := Has.at H54 hin54 (by rw [hi]; rfl)
    obtain ⟨cq55, kq55, q55a, q55b, q55c⟩ := isOf hZ e37 (Exa.keep E_wREAL K37)
    obtain ⟨_, _, ⟨T55, L55, ka55, na55⟩, -, X55, ⟨Lc55, hQ55, l55, y55, z55⟩, st55⟩ := X37.virtualBack hx (y := (⟨"com/example/cascade_persist/cascadepersist/ColumnType", "takesPrecision", "()Z"⟩ : MethodName)) (z := (⟨"com/example/cascade_persist/cascadepersist/ColumnType", "takesPrecision", "()Z"⟩ : MethodName)) hown (mvT hZ (hw _ (List.mem_of_getElem? (i := 29) rfl))) (mvT hZ (hw _ (List.mem_of_getElem? (i := 30) rfl))) (notFace_of_selects (args := #[]) (mvT hZ (hw _ (List.mem_of_getElem? (i := 32) rfl)))) (mvT hZ (hw _ (List.mem_of_getElem? (i := 32) rfl))) (mvT hZ (hw _ (List.mem_of_getElem? (i := 31) rfl))) (by decide) (backOf (W := 0) (own_rm_takesPrecision l Z a0 hw [] wREAL zN zP h37 n0 Z37 (Fld.keep F_wREAL K37 nin0) (own_sta_keep0 S_zP K37)) hZ (hw _ (List.mem_of_getElem? (i := 33) rfl)) (hw _ (List.mem_of_getElem? (i := 3) rfl)) (by decide) (by decide)) q55a q55c (g := (mkF m 110 #[.val (.int k), .val (.ref b1), .val (.int ((k &&& (2147483647 : Int32)) % (12 : Int32))), .val (.ref wREAL), .val (.int (0 : Int32)), .unset] [(.ref wREAL)])) rfl (by rw [hml]; rfl) (Steps.refl _) (argsL := []) (rest := []) (lenOf own_pd___Z rfl) rfl (by show 2 * 0 + _ ≤ _; exact Nat.le_of_eq rfl) (hb hby at_110) (fun _ _ => ⟨rfl, e37, (by decide : 1 + 0 ≤ _), (by decide : 12 + 0 ≤ _)⟩)
    dsimp only [Pt.U, Pt.locs, Pt.cells, Pt.slots] at X55 l55 y55 z55 st55 hQ55
    subst l55 y55 z55
    obtain ⟨hv55, Nq55, hh55⟩ := hQ55
    have N55 := Fr.app N37 Nq55
    rw [show own_same zN zP = (0 : Int32) by simp [own_same, nNL, nNP, nLP, nPL]] at hv55
    subst hv55
    have k56 : ∀ tt, Steps p.tables e below (T55.setTop (mkF m 141 #[.val (.int k), .val (.ref b1), .val (.int ((k &&& (2147483647 : Int32)) % (12 : Int32))), .val (.ref wREAL), .val (.int (0 : Int32)), .val (.int (0 : Int32))] [(.int (1 : Int32))])) tt → Steps p.tables e below (s₁.setTop (entryFrame m #[(.int k)] maxLocals)) tt := by
      intro tt kk
      refine k38 tt ?_
      show Steps p.tables e below (T37.setTop (mkF m 94 #[.val (.int k), .val (.ref b1), .val (.int ((k &&& (2147483647 : Int32)) % (12 : Int32))), .unset, .unset, .unset] [(.int ((k &&& (2147483647 : Int32)) % (12 : Int32))), (.ref b1)])) tt
      refine X37.aaload hx (j := ((k &&& (2147483647 : Int32)) % (12 : Int32))) (v := (.ref wREAL)) (by rw [e37]; exact Ar54.1) (State.isArrayOf_alike hZ.alike Ar54.2.1) rfl Ar54.2.2 hin54 hat54 (g := (mkF m 94 #[.val (.int k), .val (.ref b1), .val (.int ((k &&& (2147483647 : Int32)) % (12 : Int32))), .unset, .unset, .unset] [(.int ((k &&& (2147483647 : Int32)) % (12 : Int32))), (.ref b1)])) rfl rfl (hb hby at_94) _ ?_
      show Steps p.tables e below (T37.setTop (mkF m 95 #[.val (.int k), .val (.ref b1), .val (.int ((k &&& (2147483647 : Int32)) % (12 : Int32))), .unset, .unset, .unset] [(.ref wREAL)])) tt
      refine XS.astoreN X37.here hx rfl (hb hby at_95) rfl rfl (l' := #[.val (.int k), .val (.ref b1), .val (.int ((k &&& (2147483647 : Int32)) % (12 : Int32))), .val (.ref wREAL), .unset, .unset]) rfl ?_
      show Steps p.tables e below (T37.setTop (mkF m 96 #[.val (.int k), .val (.ref b1), .val (.int ((k &&& (2147483647 : Int32)) % (12 : Int32))), .val (.ref wREAL), .unset, .unset] [])) tt
      refine XS.iloadN X37.here hx rfl (hb hby at_96) rfl ?_
      show Steps p.tables e below (T37.setTop (mkF m 97 #[.val (.int k), .val (.ref b1), .val (.int ((k &&& (2147483647 : Int32)) % (12 : Int32))), .val (.ref wREAL), .unset, .unset] [(.int ((k &&& (2147483647 : Int32)) % (12 : Int32)))])) tt
      refine XS.bipush X37.here hx rfl (hb hby at_97) ?_
      show Steps p.tables e below (T37.setTop (mkF m 99 #[.val (.int k), .val (.ref b1), .val (.int ((k &&& (2147483647 : Int32)) % (12 : Int32))), .val (.ref wREAL), .unset, .unset] [(.int (7 : Int32)), (.int ((k &&& (2147483647 : Int32)) % (12 : Int32)))])) tt
      refine XS.icmpYes X37.here hx rfl (pc0 := 99) (pc' := 106) rfl (hb hby at_99) rfl (feq (by rw [hi]; decide : ¬ (((k &&& (2147483647 : Int32)) % (12 : Int32)) = (7 : Int32)))).2 (by decide) (by decide) ?_
      show Steps p.tables e below (T37.setTop (mkF m 106 #[.val (.int k), .val (.ref b1), .val (.int ((k &&& (2147483647 : Int32)) % (12 : Int32))), .val (.ref wREAL), .unset, .unset] [])) tt
      refine XS.iconst X37.here hx rfl (hb hby at_106) ?_
      show Steps p.tables e below (T37.setTop (mkF m 107 #[.val (.int k), .val (.ref b1), .val (.int ((k &&& (2147483647 : Int32)) % (12 : Int32))), .val (.ref wREAL), .unset, .unset] [(.int (0 : Int32))])) tt
      refine XS.istore X37.here hx rfl (hb hby at_107) rfl (l' := #[.val (.int k), .val (.ref b1), .val (.int ((k &&& (2147483647 : Int32)) % (12 : Int32))), .val (.ref wREAL), .val (.int (0 : Int32)), .unset]) rfl ?_
      show Steps p.tables e below (T37.setTop (mkF m 109 #[.val (.int k), .val (.ref b1), .val (.int ((k &&& (2147483647 : Int32)) % (12 : Int32))), .val (.ref wREAL), .val (.int (0 : Int32)), .unset] [])) tt
      refine XS.aloadN X37.here hx rfl (hb hby at_109) rfl rfl ?_
      show Steps p.tables e below (T37.setTop (mkF m 110 #[.val (.int k), .val (.ref b1), .val (.int ((k &&& (2147483647 : Int32)) % (12 : Int32))), .val (.ref wREAL), .val (.int (0 : Int32)), .unset] [(.ref wREAL)])) tt
      refine st55.trans ?_
      show Steps p.tables e below (T55.setTop (mkF m 113 #[.val (.int k), .val (.ref b1), .val (.int ((k &&& (2147483647 : Int32)) % (12 : Int32))), .val (.ref wREAL), .val (.int (0 : Int32)), .unset] [(.int (0 : Int32))])) tt
      refine XS.istore X55.here hx rfl (hb hby at_113) rfl (l' := #[.val (.int k), .val (.ref b1), .val (.int ((k &&& (2147483647 : Int32)) % (12 : Int32))), .val (.ref wREAL), .val (.int (0 : Int32)), .val (.int (0 : Int32))]) rfl ?_
      show Steps p.tables e below (T55.setTop (mkF m 115 #[.val (.int k), .val (.ref b1), .val (.int ((k &&& (2147483647 : Int32)) % (12 : Int32))), .val (.ref wREAL), .val (.int (0 : Int32)), .val (.int (0 : Int32))] [])) tt
      refine XS.iload X55.here hx rfl (hb hby at_115) rfl ?_
      show Steps p.tables e below (T55.setTop (mkF m 117 #[.val (.int k), .val (.ref b1), .val (.int ((k &&& (2147483647 : Int32)) % (12 : Int32))), .val (.ref wREAL), .val (.int (0 : Int32)), .val (.int (0 : Int32))] [(.int (0 : Int32))])) tt
      refine XS.iload X55.here hx rfl (hb hby at_117) rfl ?_
      show Steps p.tables e below (T55.setTop (mkF m 119 #[.val (.int k), .val (.ref b1), .val (.int ((k &&& (2147483647 : Int32)) % (12 : Int32))), .val (.ref wREAL), .val (.int (0 : Int32)), .val (.int (0 : Int32))] [(.int (0 : Int32)), (.int (0 : Int32))])) tt
      refine XS.icmpYes X55.here hx rfl (pc0 := 119) (pc' := 124) rfl (hb hby at_119) rfl (teq (by decide : (0 : Int32) = (0 : Int32))).1 (by decide) (by decide) ?_
      show Steps p.tables e below (T55.setTop (mkF m 124 #[.val (.int k), .val (.ref b1), .val (.int ((k &&& (2147483647 : Int32)) % (12 : Int32))), .val (.ref wREAL), .val (.int (0 : Int32)), .val (.int (0 : Int32))] [])) tt
      refine XS.iload X55.here hx rfl (hb hby at_124) rfl ?_
      show Steps p.tables e below (T55.setTop (mkF m 126 #[.val (.int k), .val (.ref b1), .val (.int ((k &&& (2147483647 : Int32)) % (12 : Int32))), .val (.ref wREAL), .val (.int (0 : Int32)), .val (.int (0 : Int32))] [(.int (0 : Int32))])) tt
      refine XS.ifYes X55.here hx rfl (pc0 := 126) (pc' := 136) rfl (hb hby at_126) rfl ((if0 _ _).trans (teq (by decide : (0 : Int32) = (0 : Int32))).1) (by decide) (by decide) ?_
      show Steps p.tables e below (T55.setTop (mkF m 136 #[.val (.int k), .val (.ref b1), .val (.int ((k &&& (2147483647 : Int32)) % (12 : Int32))), .val (.ref wREAL), .val (.int (0 : Int32)), .val (.int (0 : Int32))] [])) tt
      refine XS.iconst X55.here hx rfl (hb hby at_136) ?_
      show Steps p.tables e below (T55.setTop (mkF m 137 #[.val (.int k), .val (.ref b1), .val (.int ((k &&& (2147483647 : Int32)) % (12 : Int32))), .val (.ref wREAL), .val (.int (0 : Int32)), .val (.int (0 : Int32))] [(.int (1 : Int32))])) tt
      refine XS.goto X55.here hx rfl (pc0 := 137) (pc' := 141) rfl (hb hby at_137) (by decide) (by decide) ?_
      exact kk
    obtain ⟨fs, hr, hrun, hended, hW, hsame⟩ := X55.leave (v := some (.int (1 : Int32))) (fun hq => by rw [Bd.returns] at hq; cases hq)
    refine ⟨_, _, k56 _ ?_, hrun, hended, _, _, rfl, ?_, ⟨_, rfl⟩, hW, hsame.mono (by decide) (by decide)⟩
    · show Steps p.tables e below (T55.setTop (mkF m 141 #[.val (.int k), .val (.ref b1), .val (.int ((k &&& (2147483647 : Int32)) % (12 : Int32))), .val (.ref wREAL), .val (.int (0 : Int32)), .val (.int (0 : Int32))] [(.int (1 : Int32))])) _
      exact retN X55 hx (t := .boolean) Bd.returns (by simp) (hb hby at_141) hr
    · show (fun (v : Option Value) (h : Heap) (L : List Loc) => v = some (.int (1 : Int32)) ∧ Fr n0 L) _ T55.heap _
      rw [hh55]
      dsimp only
      exact ⟨rfl, N55⟩
  · have own_mark : True := trivial
    obtain ⟨cl57, Ar57, q57, S57, P57, H57, G57⟩ := id V37
    have hin57 : ¬ (((k &&& (2147483647 : Int32)) % (12 : Int32)) < 0 ∨ cl57.slots.size ≤ (((k &&& (2147483647 : Int32)) % (12 : Int32))).toNatClampNeg) := inb_of S57 (by rw [hi]; exact ⟨by decide, by decide⟩)
    have hat57 : cl57.slots[(((k &&& (2147483647 : Int32)) % (12 : Int32))).toNatClampNeg]? = some (.ref wVARCHAR) := Has.at H57 hin57 (by rw [hi]; rfl)
    obtain ⟨cq58, kq58, q58a, q58b, q58c⟩ := isOf hZ e37 (Exa.keep E_wVARCHAR K37)
    obtain ⟨_, _, ⟨T58, L58, ka58, na58⟩, -, X58, ⟨Lc58, hQ58, l58, y58, z58⟩, st58⟩ := X37.virtualBack hx (y := (⟨"com/example/cascade_persist/cascadepersist/ColumnType", "takesPrecision", "()Z"⟩ : MethodName)) (z := (⟨"com/example/cascade_persist/cascadepersist/ColumnType", "takesPrecision", "()Z"⟩ : MethodName)) hown (mvT hZ (hw _ (List.mem_of_getElem? (i := 29) rfl))) (mvT hZ (hw _ (List.mem_of_getElem? (i := 30) rfl))) (notFace_of_selects (args := #[]) (mvT hZ (hw _ (List.mem_of_getElem? (i := 32) rfl)))) (mvT hZ (hw _ (List.mem_of_getElem? (i := 32) rfl))) (mvT hZ (hw _ (List.mem_of_getElem? (i := 31) rfl))) (by decide) (backOf (W := 0) (own_rm_takesPrecision l Z a0 hw [] wVARCHAR zL zP h37 n0 Z37 (Fld.keep F_wVARCHAR K37 nin0) (own_sta_keep0 S_zP K37)) hZ (hw _ (List.mem_of_getElem? (i := 33) rfl)) (hw _ (List.mem_of_getElem? (i := 3) rfl)) (by decide) (by decide)) q58a q58c (g := (mkF m 110 #[.val (.int k), .val (.ref b1), .val (.int ((k &&& (2147483647 : Int32)) % (12 : Int32))), .val (.ref wVARCHAR), .val (.int (0 : Int32)), .unset] [(.ref wVARCHAR)])) rfl (by rw [hml]; rfl) (Steps.refl _) (argsL := []) (rest := []) (lenOf own_pd___Z rfl) rfl (by show 2 * 0 + _ ≤ _; exact Nat.le_of_eq rfl) (hb hby at_110) (fun _ _ => ⟨rfl, e37, (by decide : 1 + 0 ≤ _), (by decide : 12 + 0 ≤ _)⟩)
    dsimp only [Pt.U, Pt.locs, Pt.cells, Pt.slots] at X58 l58 y58 z58 st58 hQ58
    subst l58 y58 z58
    obtain ⟨hv58, Nq58, hh58⟩ := hQ58
    have N58 := Fr.app N37 Nq58
    rw [show own_same zL zP = (0 : Int32) by simp [own_same, nNL, nNP, nLP, nPL]] at hv58
    subst hv58
    have k59 : ∀ tt, Steps p.tables e below (T58.setTop (mkF m 141 #[.val (.int k), .val (.ref b1), .val (.int ((k &&& (2147483647 : Int32)) % (12 : Int32))), .val (.ref wVARCHAR), .val (.int (0 : Int32)), .val (.int (0 : Int32))] [(.int (1 : Int32))])) tt → Steps p.tables e below (s₁.setTop (entryFrame m #[(.int k)] maxLocals)) tt := by
      intro tt kk
      refine k38 tt ?_
      show Steps p.tables e below (T37.setTop (mkF m 94 #[.val (.int k), .val (.ref b1), .val (.int ((k &&& (2147483647 : Int32)) % (12 : Int32))), .unset, .unset, .unset] [(.int ((k &&& (2147483647 : Int32)) % (12 : Int32))), (.ref b1)])) tt
      refine X37.aaload hx (j := ((k &&& (2147483647 : Int32)) % (12 : Int32))) (v := (.ref wVARCHAR)) (by rw [e37]; exact Ar57.1) (State.isArrayOf_alike hZ.alike Ar57.2.1) rfl Ar57.2.2 hin57 hat57 (g := (mkF m 94 #[.val (.int k), .val (.ref b1), .val (.int ((k &&& (2147483647 : Int32)) % (12 : Int32))), .unset, .unset, .unset] [(.int ((k &&& (2147483647 : Int32)) % (12 : Int32))), (.ref b1)])) rfl rfl (hb hby at_94) _ ?_
      show Steps p.tables e below (T37.setTop (mkF m 95 #[.val (.int k), .val (.ref b1), .val (.int ((k &&& (2147483647 : Int32)) % (12 : Int32))), .unset, .unset, .unset] [(.ref wVARCHAR)])) tt
      refine XS.astoreN X37.here hx rfl (hb hby at_95) rfl rfl (l' := #[.val (.int k), .val (.ref b1), .val (.int ((k &&& (2147483647 : Int32)) % (12 : Int32))), .val (.ref wVARCHAR), .unset, .unset]) rfl ?_
      show Steps p.tables e below (T37.setTop (mkF m 96 #[.val (.int k), .val (.ref b1), .val (.int ((k &&& (2147483647 : Int32)) % (12 : Int32))), .val (.ref wVARCHAR), .unset, .unset] [])) tt
      refine XS.iloadN X37.here hx rfl (hb hby at_96) rfl ?_
      show Steps p.tables e below (T37.setTop (mkF m 97 #[.val (.int k), .val (.ref b1), .val (.int ((k &&& (2147483647 : Int32)) % (12 : Int32))), .val (.ref wVARCHAR), .unset, .unset] [(.int ((k &&& (2147483647 : Int32)) % (12 : Int32)))])) tt
      refine XS.bipush X37.here hx rfl (hb hby at_97) ?_
      show Steps p.tables e below (T37.setTop (mkF m 99 #[.val (.int k), .val (.ref b1), .val (.int ((k &&& (2147483647 : Int32)) % (12 : Int32))), .val (.ref wVARCHAR), .unset, .unset] [(.int (7 : Int32)), (.int ((k &&& (2147483647 : Int32)) % (12 : Int32)))])) tt
      refine XS.icmpYes X37.here hx rfl (pc0 := 99) (pc' := 106) rfl (hb hby at_99) rfl (feq (by rw [hi]; decide : ¬ (((k &&& (2147483647 : Int32)) % (12 : Int32)) = (7 : Int32)))).2 (by decide) (by decide) ?_
      show Steps p.tables e below (T37.setTop (mkF m 106 #[.val (.int k), .val (.ref b1), .val (.int ((k &&& (2147483647 : Int32)) % (12 : Int32))), .val (.ref wVARCHAR), .unset, .unset] [])) tt
      refine XS.iconst X37.here hx rfl (hb hby at_106) ?_
      show Steps p.tables e below (T37.setTop (mkF m 107 #[.val (.int k), .val (.ref b1), .val (.int ((k &&& (2147483647 : Int32)) % (12 : Int32))), .val (.ref wVARCHAR), .unset, .unset] [(.int (0 : Int32))])) tt
      refine XS.istore X37.here hx rfl (hb hby at_107) rfl (l' := #[.val (.int k), .val (.ref b1), .val (.int ((k &&& (2147483647 : Int32)) % (12 : Int32))), .val (.ref wVARCHAR), .val (.int (0 : Int32)), .unset]) rfl ?_
      show Steps p.tables e below (T37.setTop (mkF m 109 #[.val (.int k), .val (.ref b1), .val (.int ((k &&& (2147483647 : Int32)) % (12 : Int32))), .val (.ref wVARCHAR), .val (.int (0 : Int32)), .unset] [])) tt
      refine XS.aloadN X37.here hx rfl (hb hby at_109) rfl rfl ?_
      show Steps p.tables e below (T37.setTop (mkF m 110 #[.val (.int k), .val (.ref b1), .val (.int ((k &&& (2147483647 : Int32)) % (12 : Int32))), .val (.ref wVARCHAR), .val (.int (0 : Int32)), .unset] [(.ref wVARCHAR)])) tt
      refine st58.trans ?_
      show Steps p.tables e below (T58.setTop (mkF m 113 #[.val (.int k), .val (.ref b1), .val (.int ((k &&& (2147483647 : Int32)) % (12 : Int32))), .val (.ref wVARCHAR), .val (.int (0 : Int32)), .unset] [(.int (0 : Int32))])) tt
      refine XS.istore X58.here hx rfl (hb hby at_113) rfl (l' := #[.val (.int k), .val (.ref b1), .val (.int ((k &&& (2147483647 : Int32)) % (12 : Int32))), .val (.ref wVARCHAR), .val (.int (0 : Int32)), .val (.int (0 : Int32))]) rfl ?_
      show Steps p.tables e below (T58.setTop (mkF m 115 #[.val (.int k), .val (.ref b1), .val (.int ((k &&& (2147483647 : Int32)) % (12 : Int32))), .val (.ref wVARCHAR), .val (.int (0 : Int32)), .val (.int (0 : Int32))] [])) tt
      refine XS.iload X58.here hx rfl (hb hby at_115) rfl ?_
      show Steps p.tables e below (T58.setTop (mkF m 117 #[.val (.int k), .val (.ref b1), .val (.int ((k &&& (2147483647 : Int32)) % (12 : Int32))), .val (.ref wVARCHAR), .val (.int (0 : Int32)), .val (.int (0 : Int32))] [(.int (0 : Int32))])) tt
      refine XS.iload X58.here hx rfl (hb hby at_117) rfl ?_
      show Steps p.tables e below (T58.setTop (mkF m 119 #[.val (.int k), .val (.ref b1), .val (.int ((k &&& (2147483647 : Int32)) % (12 : Int32))), .val (.ref wVARCHAR), .val (.int (0 : Int32)), .val (.int (0 : Int32))] [(.int (0 : Int32)), (.int (0 : Int32))])) tt
      refine XS.icmpYes X58.here hx rfl (pc0 := 119) (pc' := 124) rfl (hb hby at_119) rfl (teq (by decide : (0 : Int32) = (0 : Int32))).1 (by decide) (by decide) ?_
      show Steps p.tables e below (T58.setTop (mkF m 124 #[.val (.int k), .val (.ref b1), .val (.int ((k &&& (2147483647 : Int32)) % (12 : Int32))), .val (.ref wVARCHAR), .val (.int (0 : Int32)), .val (.int (0 : Int32))] [])) tt
      refine XS.iload X58.here hx rfl (hb hby at_124) rfl ?_
      show Steps p.tables e below (T58.setTop (mkF m 126 #[.val (.int k), .val (.ref b1), .val (.int ((k &&& (2147483647 : Int32)) % (12 : Int32))), .val (.ref wVARCHAR), .val (.int (0 : Int32)), .val (.int (0 : Int32))] [(.int (0 : Int32))])) tt
      refine XS.ifYes X58.here hx rfl (pc0 := 126) (pc' := 136) rfl (hb hby at_126) rfl ((if0 _ _).trans (teq (by decide : (0 : Int32) = (0 : Int32))).1) (by decide) (by decide) ?_
      show Steps p.tables e below (T58.setTop (mkF m 136 #[.val (.int k), .val (.ref b1), .val (.int ((k &&& (2147483647 : Int32)) % (12 : Int32))), .val (.ref wVARCHAR), .val (.int (0 : Int32)), .val (.int (0 : Int32))] [])) tt
      refine XS.iconst X58.here hx rfl (hb hby at_136) ?_
      show Steps p.tables e below (T58.setTop (mkF m 137 #[.val (.int k), .val (.ref b1), .val (.int ((k &&& (2147483647 : Int32)) % (12 : Int32))), .val (.ref wVARCHAR), .val (.int (0 : Int32)), .val (.int (0 : Int32))] [(.int (1 : Int32))])) tt
      refine XS.goto X58.here hx rfl (pc0 := 137) (pc' := 141) rfl (hb hby at_137) (by decide) (by decide) ?_
      exact kk
    obtain ⟨fs, hr, hrun, hended, hW, hsame⟩ := X58.leave (v := some (.int (1 : Int32))) (fun hq => by rw [Bd.returns] at hq; cases hq)
    refine ⟨_, _, k59 _ ?_, hrun, hended, _, _, rfl, ?_, ⟨_, rfl⟩, hW, hsame.mono (by decide) (by decide)⟩
    · show Steps p.tables e below (T58.setTop (mkF m 141 #[.val (.int k), .val (.ref b1), .val (.int ((k &&& (2147483647 : Int32)) % (12 : Int32))), .val (.ref wVARCHAR), .val (.int (0 : Int32)), .val (.int (0 : Int32))] [(.int (1 : Int32))])) _
      exact retN X58 hx (t := .boolean) Bd.returns (by simp) (hb hby at_141) hr
    · show (fun (v : Option Value) (h : Heap) (L : List Loc) => v = some (.int (1 : Int32)) ∧ Fr n0 L) _ T58.heap _
      rw [hh58]
      dsimp only
      exact ⟨rfl, N58⟩
  · have own_mark : True := trivial
    obtain ⟨cl60, Ar60, q60, S60, P60, H60, G60⟩ := id V37
    have hin60 : ¬ (((k &&& (2147483647 : Int32)) % (12 : Int32)) < 0 ∨ cl60.slots.size ≤ (((k &&& (2147483647 : Int32)) % (12 : Int32))).toNatClampNeg) := inb_of S60 (by rw [hi]; exact ⟨by decide, by decide⟩)
    have hat60 : cl60.slots[(((k &&& (2147483647 : Int32)) % (12 : Int32))).toNatClampNeg]? = some (.ref wDECIMAL) := Has.at H60 hin60 (by rw [hi]; rfl)
    obtain ⟨cq61, kq61, q61a, q61b, q61c⟩ := isOf hZ e37 (Exa.keep E_wDECIMAL K37)
    obtain ⟨_, _, ⟨T61, L61, ka61, na61⟩, -, X61, ⟨Lc61, hQ61, l61, y61, z61⟩, st61⟩ := X37.virtualBack hx (y := (⟨"com/example/cascade_persist/cascadepersist/ColumnType", "takesPrecision", "()Z"⟩ : MethodName)) (z := (⟨"com/example/cascade_persist/cascadepersist/ColumnType", "takesPrecision", "()Z"⟩ : MethodName)) hown (mvT hZ (hw _ (List.mem_of_getElem? (i := 29) rfl))) (mvT hZ (hw _ (List.mem_of_getElem? (i := 30) rfl))) (notFace_of_selects (args := #[]) (mvT hZ (hw _ (List.mem_of_getElem? (i := 32) rfl)))) (mvT hZ (hw _ (List.mem_of_getElem? (i := 32) rfl))) (mvT hZ (hw _ (List.mem_of_getElem? (i := 31) rfl))) (by decide) (backOf (W := 0) (own_rm_takesPrecision l Z a0 hw [] wDECIMAL zP zP h37 n0 Z37 (Fld.keep F_wDECIMAL K37 nin0) (own_sta_keep0 S_zP K37)) hZ (hw _ (List.mem_of_getElem? (i := 33) rfl)) (hw _ (List.mem_of_getElem? (i := 3) rfl)) (by decide) (by decide)) q61a q61c (g := (mkF m 110 #[.val (.int k), .val (.ref b1), .val (.int ((k &&& (2147483647 : Int32)) % (12 : Int32))), .val (.ref wDECIMAL), .val (.int (1 : Int32)), .unset] [(.ref wDECIMAL)])) rfl (by rw [hml]; rfl) (Steps.refl _) (argsL := []) (rest := []) (lenOf own_pd___Z rfl) rfl (by show 2 * 0 + _ ≤ _; exact Nat.le_of_eq rfl) (hb hby at_110) (fun _ _ => ⟨rfl, e37, (by decide : 1 + 0 ≤ _), (by decide : 12 + 0 ≤ _)⟩)
    dsimp only [Pt.U, Pt.locs, Pt.cells, Pt.slots] at X61 l61 y61 z61 st61 hQ61
    subst l61 y61 z61
    obtain ⟨hv61, Nq61, hh61⟩ := hQ61
    have N61 := Fr.app N37 Nq61
    rw [show own_same zP zP = (1 : Int32) by simp [own_same, nNL, nNP, nLP, nPL]] at hv61
    subst hv61
    obtain ⟨cq62, kq62, q62a, q62b, q62c⟩ := isOf hZ hh61 (Exa.keep E_wDECIMAL K37)
    obtain ⟨_, _, ⟨T62, L62, ka62, na62⟩, -, X62, ⟨Lc62, hQ62, l62, y62, z62⟩, st62⟩ := X61.virtualBack hx (y := (⟨"com/example/cascade_persist/cascadepersist/ColumnType", "takesLength", "()Z"⟩ : MethodName)) (z := (⟨"com/example/cascade_persist/cascadepersist/ColumnType", "takesLength", "()Z"⟩ : MethodName)) hown (mvT hZ (hw _ (List.mem_of_getElem? (i := 40) rfl))) (mvT hZ (hw _ (List.mem_of_getElem? (i := 41) rfl))) (notFace_of_selects (args := #[]) (mvT hZ (hw _ (List.mem_of_getElem? (i := 43) rfl)))) (mvT hZ (hw _ (List.mem_of_getElem? (i := 43) rfl))) (mvT hZ (hw _ (List.mem_of_getElem? (i := 42) rfl))) (by decide) (backOf (W := 0) (own_rm_takesLength l Z a0 hw [] wDECIMAL zP zL h37 n0 Z37 (Fld.keep F_wDECIMAL K37 nin0) (own_sta_keep0 S_zL K37)) hZ (hw _ (List.mem_of_getElem? (i := 44) rfl)) (hw _ (List.mem_of_getElem? (i := 3) rfl)) (by decide) (by decide)) q62a q62c (g := (mkF m 130 #[.val (.int k), .val (.ref b1), .val (.int ((k &&& (2147483647 : Int32)) % (12 : Int32))), .val (.ref wDECIMAL), .val (.int (1 : Int32)), .val (.int (1 : Int32))] [(.ref wDECIMAL)])) rfl (by rw [hml]; rfl) (Steps.refl _) (argsL := []) (rest := []) (lenOf own_pd___Z rfl) rfl (by show 2 * 0 + _ ≤ _; exact Nat.le_of_eq rfl) (hb hby at_130) (fun _ _ => ⟨rfl, hh61, (by decide : 1 + 0 ≤ _), (by decide : 12 + 0 ≤ _)⟩)
    dsimp only [Pt.U, Pt.locs, Pt.cells, Pt.slots] at X62 l62 y62 z62 st62 hQ62
    subst l62 y62 z62
    obtain ⟨hv62, Nq62, hh62⟩ := hQ62
    have N62 := Fr.app N61 Nq62
    rw [show own_same zP zL = (0 : Int32) by simp [own_same, nNL, nNP, nLP, nPL]] at hv62
    subst hv62
    have k63 : ∀ tt, Steps p.tables e below (T62.setTop (mkF m 141 #[.val (.int k), .val (.ref b1), .val (.int ((k &&& (2147483647 : Int32)) % (12 : Int32))), .val (.ref wDECIMAL), .val (.int (1 : Int32)), .val (.int (1 : Int32))] [(.int (1 : Int32))])) tt → Steps p.tables e below (s₁.setTop (entryFrame m #[(.int k)] maxLocals)) tt := by
      intro tt kk
      refine k38 tt ?_
      show Steps p.tables e below (T37.setTop (mkF m 94 #[.val (.int k), .val (.ref b1), .val (.int ((k &&& (2147483647 : Int32)) % (12 : Int32))), .unset, .unset, .unset] [(.int ((k &&& (2147483647 : Int32)) % (12 : Int32))), (.ref b1)])) tt
      refine X37.aaload hx (j := ((k &&& (2147483647 : Int32)) % (12 : Int32))) (v := (.ref wDECIMAL)) (by rw [e37]; exact Ar60.1) (State.isArrayOf_alike hZ.alike Ar60.2.1) rfl Ar60.2.2 hin60 hat60 (g := (mkF m 94 #[.val (.int k), .val (.ref b1), .val (.int ((k &&& (2147483647 : Int32)) % (12 : Int32))), .unset, .unset, .unset] [(.int ((k &&& (2147483647 : Int32)) % (12 : Int32))), (.ref b1)])) rfl rfl (hb hby at_94) _ ?_
      show Steps p.tables e below (T37.setTop (mkF m 95 #[.val (.int k), .val (.ref b1), .val (.int ((k &&& (2147483647 : Int32)) % (12 : Int32))), .unset, .unset, .unset] [(.ref wDECIMAL)])) tt
      refine XS.astoreN X37.here hx rfl (hb hby at_95) rfl rfl (l' := #[.val (.int k), .val (.ref b1), .val (.int ((k &&& (2147483647 : Int32)) % (12 : Int32))), .val (.ref wDECIMAL), .unset, .unset]) rfl ?_
      show Steps p.tables e below (T37.setTop (mkF m 96 #[.val (.int k), .val (.ref b1), .val (.int ((k &&& (2147483647 : Int32)) % (12 : Int32))), .val (.ref wDECIMAL), .unset, .unset] [])) tt
      refine XS.iloadN X37.here hx rfl (hb hby at_96) rfl ?_
      show Steps p.tables e below (T37.setTop (mkF m 97 #[.val (.int k), .val (.ref b1), .val (.int ((k &&& (2147483647 : Int32)) % (12 : Int32))), .val (.ref wDECIMAL), .unset, .unset] [(.int ((k &&& (2147483647 : Int32)) % (12 : Int32)))])) tt
      refine XS.bipush X37.here hx rfl (hb hby at_97) ?_
      show Steps p.tables e below (T37.setTop (mkF m 99 #[.val (.int k), .val (.ref b1), .val (.int ((k &&& (2147483647 : Int32)) % (12 : Int32))), .val (.ref wDECIMAL), .unset, .unset] [(.int (7 : Int32)), (.int ((k &&& (2147483647 : Int32)) % (12 : Int32)))])) tt
      refine XS.icmpNo X37.here hx rfl (hb hby at_99) rfl (teq (hi : ((k &&& (2147483647 : Int32)) % (12 : Int32)) = (7 : Int32))).2 ?_
      show Steps p.tables e below (T37.setTop (mkF m 102 #[.val (.int k), .val (.ref b1), .val (.int ((k &&& (2147483647 : Int32)) % (12 : Int32))), .val (.ref wDECIMAL), .unset, .unset] [])) tt
      refine XS.iconst X37.here hx rfl (hb hby at_102) ?_
      show Steps p.tables e below (T37.setTop (mkF m 103 #[.val (.int k), .val (.ref b1), .val (.int ((k &&& (2147483647 : Int32)) % (12 : Int32))), .val (.ref wDECIMAL), .unset, .unset] [(.int (1 : Int32))])) tt
      refine XS.goto X37.here hx rfl (pc0 := 103) (pc' := 107) rfl (hb hby at_103) (by decide) (by decide) ?_
      show Steps p.tables e below (T37.setTop (mkF m 107 #[.val (.int k), .val (.ref b1), .val (.int ((k &&& (2147483647 : Int32)) % (12 : Int32))), .val (.ref wDECIMAL), .unset, .unset] [(.int (1 : Int32))])) tt
      refine XS.istore X37.here hx rfl (hb hby at_107) rfl (l' := #[.val (.int k), .val (.ref b1), .val (.int ((k &&& (2147483647 : Int32)) % (12 : Int32))), .val (.ref wDECIMAL), .val (.int (1 : Int32)), .unset]) rfl ?_
      show Steps p.tables e below (T37.setTop (mkF m 109 #[.val (.int k), .val (.ref b1), .val (.int ((k &&& (2147483647 : Int32)) % (12 : Int32))), .val (.ref wDECIMAL), .val (.int (1 : Int32)), .unset] [])) tt
      refine XS.aloadN X37.here hx rfl (hb hby at_109) rfl rfl ?_
      show Steps p.tables e below (T37.setTop (mkF m 110 #[.val (.int k), .val (.ref b1), .val (.int ((k &&& (2147483647 : Int32)) % (12 : Int32))), .val (.ref wDECIMAL), .val (.int (1 : Int32)), .unset] [(.ref wDECIMAL)])) tt
      refine st61.trans ?_
      show Steps p.tables e below (T61.setTop (mkF m 113 #[.val (.int k), .val (.ref b1), .val (.int ((k &&& (2147483647 : Int32)) % (12 : Int32))), .val (.ref wDECIMAL), .val (.int (1 : Int32)), .unset] [(.int (1 : Int32))])) tt
      refine XS.istore X61.here hx rfl (hb hby at_113) rfl (l' := #[.val (.int k), .val (.ref b1), .val (.int ((k &&& (2147483647 : Int32)) % (12 : Int32))), .val (.ref wDECIMAL), .val (.int (1 : Int32)), .val (.int (1 : Int32))]) rfl ?_
      show Steps p.tables e below (T61.setTop (mkF m 115 #[.val (.int k), .val (.ref b1), .val (.int ((k &&& (2147483647 : Int32)) % (12 : Int32))), .val (.ref wDECIMAL), .val (.int (1 : Int32)), .val (.int (1 : Int32))] [])) tt
      refine XS.iload X61.here hx rfl (hb hby at_115) rfl ?_
      show Steps p.tables e below (T61.setTop (mkF m 117 #[.val (.int k), .val (.ref b1), .val (.int ((k &&& (2147483647 : Int32)) % (12 : Int32))), .val (.ref wDECIMAL), .val (.int (1 : Int32)), .val (.int (1 : Int32))] [(.int (1 : Int32))])) tt
      refine XS.iload X61.here hx rfl (hb hby at_117) rfl ?_
      show Steps p.tables e below (T61.setTop (mkF m 119 #[.val (.int k), .val (.ref b1), .val (.int ((k &&& (2147483647 : Int32)) % (12 : Int32))), .val (.ref wDECIMAL), .val (.int (1 : Int32)), .val (.int (1 : Int32))] [(.int (1 : Int32)), (.int (1 : Int32))])) tt
      refine XS.icmpYes X61.here hx rfl (pc0 := 119) (pc' := 124) rfl (hb hby at_119) rfl (teq (by decide : (1 : Int32) = (1 : Int32))).1 (by decide) (by decide) ?_
      show Steps p.tables e below (T61.setTop (mkF m 124 #[.val (.int k), .val (.ref b1), .val (.int ((k &&& (2147483647 : Int32)) % (12 : Int32))), .val (.ref wDECIMAL), .val (.int (1 : Int32)), .val (.int (1 : Int32))] [])) tt
      refine XS.iload X61.here hx rfl (hb hby at_124) rfl ?_
      show Steps p.tables e below (T61.setTop (mkF m 126 #[.val (.int k), .val (.ref b1), .val (.int ((k &&& (2147483647 : Int32)) % (12 : Int32))), .val (.ref wDECIMAL), .val (.int (1 : Int32)), .val (.int (1 : Int32))] [(.int (1 : Int32))])) tt
      refine XS.ifNo X61.here hx rfl (hb hby at_126) rfl ((if0 _ _).trans (feq (by decide : ¬ ((1 : Int32) = (0 : Int32)))).1) ?_
      show Steps p.tables e below (T61.setTop (mkF m 129 #[.val (.int k), .val (.ref b1), .val (.int ((k &&& (2147483647 : Int32)) % (12 : Int32))), .val (.ref wDECIMAL), .val (.int (1 : Int32)), .val (.int (1 : Int32))] [])) tt
      refine XS.aloadN X61.here hx rfl (hb hby at_129) rfl rfl ?_
      show Steps p.tables e below (T61.setTop (mkF m 130 #[.val (.int k), .val (.ref b1), .val (.int ((k &&& (2147483647 : Int32)) % (12 : Int32))), .val (.ref wDECIMAL), .val (.int (1 : Int32)), .val (.int (1 : Int32))] [(.ref wDECIMAL)])) tt
      refine st62.trans ?_
      show Steps p.tables e below (T62.setTop (mkF m 133 #[.val (.int k), .val (.ref b1), .val (.int ((k &&& (2147483647 : Int32)) % (12 : Int32))), .val (.ref wDECIMAL), .val (.int (1 : Int32)), .val (.int (1 : Int32))] [(.int (0 : Int32))])) tt
      refine XS.ifNo X62.here hx rfl (hb hby at_133) rfl ((if0 _ _).trans (teq (by decide : (0 : Int32) = (0 : Int32))).2) ?_
      show Steps p.tables e below (T62.setTop (mkF m 136 #[.val (.int k), .val (.ref b1), .val (.int ((k &&& (2147483647 : Int32)) % (12 : Int32))), .val (.ref wDECIMAL), .val (.int (1 : Int32)), .val (.int (1 : Int32))] [])) tt
      refine XS.iconst X62.here hx rfl (hb hby at_136) ?_
      show Steps p.tables e below (T62.setTop (mkF m 137 #[.val (.int k), .val (.ref b1), .val (.int ((k &&& (2147483647 : Int32)) % (12 : Int32))), .val (.ref wDECIMAL), .val (.int (1 : Int32)), .val (.int (1 : Int32))] [(.int (1 : Int32))])) tt
      refine XS.goto X62.here hx rfl (pc0 := 137) (pc' := 141) rfl (hb hby at_137) (by decide) (by decide) ?_
      exact kk
    obtain ⟨fs, hr, hrun, hended, hW, hsame⟩ := X62.leave (v := some (.int (1 : Int32))) (fun hq => by rw [Bd.returns] at hq; cases hq)
    refine ⟨_, _, k63 _ ?_, hrun, hended, _, _, rfl, ?_, ⟨_, rfl⟩, hW, hsame.mono (by decide) (by decide)⟩
    · show Steps p.tables e below (T62.setTop (mkF m 141 #[.val (.int k), .val (.ref b1), .val (.int ((k &&& (2147483647 : Int32)) % (12 : Int32))), .val (.ref wDECIMAL), .val (.int (1 : Int32)), .val (.int (1 : Int32))] [(.int (1 : Int32))])) _
      exact retN X62 hx (t := .boolean) Bd.returns (by simp) (hb hby at_141) hr
    · show (fun (v : Option Value) (h : Heap) (L : List Loc) => v = some (.int (1 : Int32)) ∧ Fr n0 L) _ T62.heap _
      rw [hh62]
      dsimp only
      exact ⟨rfl, N62⟩
  · have own_mark : True := trivial
    obtain ⟨cl64, Ar64, q64, S64, P64, H64, G64⟩ := id V37
    have hin64 : ¬ (((k &&& (2147483647 : Int32)) % (12 : Int32)) < 0 ∨ cl64.slots.size ≤ (((k &&& (2147483647 : Int32)) % (12 : Int32))).toNatClampNeg) := inb_of S64 (by rw [hi]; exact ⟨by decide, by decide⟩)
    have hat64 : cl64.slots[(((k &&& (2147483647 : Int32)) % (12 : Int32))).toNatClampNeg]? = some (.ref wDATE) := Has.at H64 hin64 (by rw [hi]; rfl)
    obtain ⟨cq65, kq65, q65a, q65b, q65c⟩ := isOf hZ e37 (Exa.keep E_wDATE K37)
    obtain ⟨_, _, ⟨T65, L65, ka65, na65⟩, -, X65, ⟨Lc65, hQ65, l65, y65, z65⟩, st65⟩ := X37.virtualBack hx (y := (⟨"com/example/cascade_persist/cascadepersist/ColumnType", "takesPrecision", "()Z"⟩ : MethodName)) (z := (⟨"com/example/cascade_persist/cascadepersist/ColumnType", "takesPrecision", "()Z"⟩ : MethodName)) hown (mvT hZ (hw _ (List.mem_of_getElem? (i := 29) rfl))) (mvT hZ (hw _ (List.mem_of_getElem? (i := 30) rfl))) (notFace_of_selects (args := #[]) (mvT hZ (hw _ (List.mem_of_getElem? (i := 32) rfl)))) (mvT hZ (hw _ (List.mem_of_getElem? (i := 32) rfl))) (mvT hZ (hw _ (List.mem_of_getElem? (i := 31) rfl))) (by decide) (backOf (W := 0) (own_rm_takesPrecision l Z a0 hw [] wDATE zN zP h37 n0 Z37 (Fld.keep F_wDATE K37 nin0) (own_sta_keep0 S_zP K37)) hZ (hw _ (List.mem_of_getElem? (i := 33) rfl)) (hw _ (List.mem_of_getElem? (i := 3) rfl)) (by decide) (by decide)) q65a q65c (g := (mkF m 110 #[.val (.int k), .val (.ref b1), .val (.int ((k &&& (2147483647 : Int32)) % (12 : Int32))), .val (.ref wDATE), .val (.int (0 : Int32)), .unset] [(.ref wDATE)])) rfl (by rw [hml]; rfl) (Steps.refl _) (argsL := []) (rest := []) (lenOf own_pd___Z rfl) rfl (by show 2 * 0 + _ ≤ _; exact Nat.le_of_eq rfl) (hb hby at_110) (fun _ _ => ⟨rfl, e37, (by decide : 1 + 0 ≤ _), (by decide : 12 + 0 ≤ _)⟩)
    dsimp only [Pt.U, Pt.locs, Pt.cells, Pt.slots] at X65 l65 y65 z65 st65 hQ65
    subst l65 y65 z65
    obtain ⟨hv65, Nq65, hh65⟩ := hQ65
    have N65 := Fr.app N37 Nq65
    rw [show own_same zN zP = (0 : Int32) by simp [own_same, nNL, nNP, nLP, nPL]] at hv65
    subst hv65
    have k66 : ∀ tt, Steps p.tables e below (T65.setTop (mkF m 141 #[.val (.int k), .val (.ref b1), .val (.int ((k &&& (2147483647 : Int32)) % (12 : Int32))), .val (.ref wDATE), .val (.int (0 : Int32)), .val (.int (0 : Int32))] [(.int (1 : Int32))])) tt → Steps p.tables e below (s₁.setTop (entryFrame m #[(.int k)] maxLocals)) tt := by
      intro tt kk
      refine k38 tt ?_
      show Steps p.tables e below (T37.setTop (mkF m 94 #[.val (.int k), .val (.ref b1), .val (.int ((k &&& (2147483647 : Int32)) % (12 : Int32))), .unset, .unset, .unset] [(.int ((k &&& (2147483647 : Int32)) % (12 : Int32))), (.ref b1)])) tt
      refine X37.aaload hx (j := ((k &&& (2147483647 : Int32)) % (12 : Int32))) (v := (.ref wDATE)) (by rw [e37]; exact Ar64.1) (State.isArrayOf_alike hZ.alike Ar64.2.1) rfl Ar64.2.2 hin64 hat64 (g := (mkF m 94 #[.val (.int k), .val (.ref b1), .val (.int ((k &&& (2147483647 : Int32)) % (12 : Int32))), .unset, .unset, .unset] [(.int ((k &&& (2147483647 : Int32)) % (12 : Int32))), (.ref b1)])) rfl rfl (hb hby at_94) _ ?_
      show Steps p.tables e below (T37.setTop (mkF m 95 #[.val (.int k), .val (.ref b1), .val (.int ((k &&& (2147483647 : Int32)) % (12 : Int32))), .unset, .unset, .unset] [(.ref wDATE)])) tt
      refine XS.astoreN X37.here hx rfl (hb hby at_95) rfl rfl (l' := #[.val (.int k), .val (.ref b1), .val (.int ((k &&& (2147483647 : Int32)) % (12 : Int32))), .val (.ref wDATE), .unset, .unset]) rfl ?_
      show Steps p.tables e below (T37.setTop (mkF m 96 #[.val (.int k), .val (.ref b1), .val (.int ((k &&& (2147483647 : Int32)) % (12 : Int32))), .val (.ref wDATE), .unset, .unset] [])) tt
      refine XS.iloadN X37.here hx rfl (hb hby at_96) rfl ?_
      show Steps p.tables e below (T37.setTop (mkF m 97 #[.val (.int k), .val (.ref b1), .val (.int ((k &&& (2147483647 : Int32)) % (12 : Int32))), .val (.ref wDATE), .unset, .unset] [(.int ((k &&& (2147483647 : Int32)) % (12 : Int32)))])) tt
      refine XS.bipush X37.here hx rfl (hb hby at_97) ?_
      show Steps p.tables e below (T37.setTop (mkF m 99 #[.val (.int k), .val (.ref b1), .val (.int ((k &&& (2147483647 : Int32)) % (12 : Int32))), .val (.ref wDATE), .unset, .unset] [(.int (7 : Int32)), (.int ((k &&& (2147483647 : Int32)) % (12 : Int32)))])) tt
      refine XS.icmpYes X37.here hx rfl (pc0 := 99) (pc' := 106) rfl (hb hby at_99) rfl (feq (by rw [hi]; decide : ¬ (((k &&& (2147483647 : Int32)) % (12 : Int32)) = (7 : Int32)))).2 (by decide) (by decide) ?_
      show Steps p.tables e below (T37.setTop (mkF m 106 #[.val (.int k), .val (.ref b1), .val (.int ((k &&& (2147483647 : Int32)) % (12 : Int32))), .val (.ref wDATE), .unset, .unset] [])) tt
      refine XS.iconst X37.here hx rfl (hb hby at_106) ?_
      show Steps p.tables e below (T37.setTop (mkF m 107 #[.val (.int k), .val (.ref b1), .val (.int ((k &&& (2147483647 : Int32)) % (12 : Int32))), .val (.ref wDATE), .unset, .unset] [(.int (0 : Int32))])) tt
      refine XS.istore X37.here hx rfl (hb hby at_107) rfl (l' := #[.val (.int k), .val (.ref b1), .val (.int ((k &&& (2147483647 : Int32)) % (12 : Int32))), .val (.ref wDATE), .val (.int (0 : Int32)), .unset]) rfl ?_
      show Steps p.tables e below (T37.setTop (mkF m 109 #[.val (.int k), .val (.ref b1), .val (.int ((k &&& (2147483647 : Int32)) % (12 : Int32))), .val (.ref wDATE), .val (.int (0 : Int32)), .unset] [])) tt
      refine XS.aloadN X37.here hx rfl (hb hby at_109) rfl rfl ?_
      show Steps p.tables e below (T37.setTop (mkF m 110 #[.val (.int k), .val (.ref b1), .val (.int ((k &&& (2147483647 : Int32)) % (12 : Int32))), .val (.ref wDATE), .val (.int (0 : Int32)), .unset] [(.ref wDATE)])) tt
      refine st65.trans ?_
      show Steps p.tables e below (T65.setTop (mkF m 113 #[.val (.int k), .val (.ref b1), .val (.int ((k &&& (2147483647 : Int32)) % (12 : Int32))), .val (.ref wDATE), .val (.int (0 : Int32)), .unset] [(.int (0 : Int32))])) tt
      refine XS.istore X65.here hx rfl (hb hby at_113) rfl (l' := #[.val (.int k), .val (.ref b1), .val (.int ((k &&& (2147483647 : Int32)) % (12 : Int32))), .val (.ref wDATE), .val (.int (0 : Int32)), .val (.int (0 : Int32))]) rfl ?_
      show Steps p.tables e below (T65.setTop (mkF m 115 #[.val (.int k), .val (.ref b1), .val (.int ((k &&& (2147483647 : Int32)) % (12 : Int32))), .val (.ref wDATE), .val (.int (0 : Int32)), .val (.int (0 : Int32))] [])) tt
      refine XS.iload X65.here hx rfl (hb hby at_115) rfl ?_
      show Steps p.tables e below (T65.setTop (mkF m 117 #[.val (.int k), .val (.ref b1), .val (.int ((k &&& (2147483647 : Int32)) % (12 : Int32))), .val (.ref wDATE), .val (.int (0 : Int32)), .val (.int (0 : Int32))] [(.int (0 : Int32))])) tt
      refine XS.iload X65.here hx rfl (hb hby at_117) rfl ?_
      show Steps p.tables e below (T65.setTop (mkF m 119 #[.val (.int k), .val (.ref b1), .val (.int ((k &&& (2147483647 : Int32)) % (12 : Int32))), .val (.ref wDATE), .val (.int (0 : Int32)), .val (.int (0 : Int32))] [(.int (0 : Int32)), (.int (0 : Int32))])) tt
      refine XS.icmpYes X65.here hx rfl (pc0 := 119) (pc' := 124) rfl (hb hby at_119) rfl (teq (by decide : (0 : Int32) = (0 : Int32))).1 (by decide) (by decide) ?_
      show Steps p.tables e below (T65.setTop (mkF m 124 #[.val (.int k), .val (.ref b1), .val (.int ((k &&& (2147483647 : Int32)) % (12 : Int32))), .val (.ref wDATE), .val (.int (0 : Int32)), .val (.int (0 : Int32))] [])) tt
      refine XS.iload X65.here hx rfl (hb hby at_124) rfl ?_
      show Steps p.tables e below (T65.setTop (mkF m 126 #[.val (.int k), .val (.ref b1), .val (.int ((k &&& (2147483647 : Int32)) % (12 : Int32))), .val (.ref wDATE), .val (.int (0 : Int32)), .val (.int (0 : Int32))] [(.int (0 : Int32))])) tt
      refine XS.ifYes X65.here hx rfl (pc0 := 126) (pc' := 136) rfl (hb hby at_126) rfl ((if0 _ _).trans (teq (by decide : (0 : Int32) = (0 : Int32))).1) (by decide) (by decide) ?_
      show Steps p.tables e below (T65.setTop (mkF m 136 #[.val (.int k), .val (.ref b1), .val (.int ((k &&& (2147483647 : Int32)) % (12 : Int32))), .val (.ref wDATE), .val (.int (0 : Int32)), .val (.int (0 : Int32))] [])) tt
      refine XS.iconst X65.here hx rfl (hb hby at_136) ?_
      show Steps p.tables e below (T65.setTop (mkF m 137 #[.val (.int k), .val (.ref b1), .val (.int ((k &&& (2147483647 : Int32)) % (12 : Int32))), .val (.ref wDATE), .val (.int (0 : Int32)), .val (.int (0 : Int32))] [(.int (1 : Int32))])) tt
      refine XS.goto X65.here hx rfl (pc0 := 137) (pc' := 141) rfl (hb hby at_137) (by decide) (by decide) ?_
      exact kk
    obtain ⟨fs, hr, hrun, hended, hW, hsame⟩ := X65.leave (v := some (.int (1 : Int32))) (fun hq => by rw [Bd.returns] at hq; cases hq)
    refine ⟨_, _, k66 _ ?_, hrun, hended, _, _, rfl, ?_, ⟨_, rfl⟩, hW, hsame.mono (by decide) (by decide)⟩
    · show Steps p.tables e below (T65.setTop (mkF m 141 #[.val (.int k), .val (.ref b1), .val (.int ((k &&& (2147483647 : Int32)) % (12 : Int32))), .val (.ref wDATE), .val (.int (0 : Int32)), .val (.int (0 : Int32))] [(.int (1 : Int32))])) _
      exact retN X65 hx (t := .boolean) Bd.returns (by simp) (hb hby at_141) hr
    · show (fun (v : Option Value) (h : Heap) (L : List Loc) => v = some (.int (1 : Int32)) ∧ Fr n0 L) _ T65.heap _
      rw [hh65]
      dsimp only
      exact ⟨rfl, N65⟩
  · have own_mark : True := trivial
    obtain ⟨cl67, Ar67, q67, S67, P67, H67, G67⟩ := id V37
    have hin67 : ¬ (((k &&& (2147483647 : Int32)) % (12 : Int32)) < 0 ∨ cl67.slots.size ≤ (((k &&& (2147483647 : Int32)) % (12 : Int32))).toNatClampNeg) := inb_of S67 (by rw [hi]; exact ⟨by decide, by decide⟩)
    have hat67 : cl67.slots[(((k &&& (2147483647 : Int32)) % (12 : Int32))).toNatClampNeg]? = some (.ref wTIMESTAMP) := Has.at H67 hin67 (by rw [hi]; rfl)
    obtain ⟨cq68, kq68, q68a, q68b, q68c⟩ := isOf hZ e37 (Exa.keep E_wTIMESTAMP K37)
    obtain ⟨_, _, ⟨T68, L68, ka68, na68⟩, -, X68, ⟨Lc68, hQ68, l68, y68, z68⟩, st68⟩ := X37.virtualBack hx (y := (⟨"com/example/cascade_persist/cascadepersist/ColumnType", "takesPrecision", "()Z"⟩ : MethodName)) (z := (⟨"com/example/cascade_persist/cascadepersist/ColumnType", "takesPrecision", "()Z"⟩ : MethodName)) hown (mvT hZ (hw _ (List.mem_of_getElem? (i := 29) rfl))) (mvT hZ (hw _ (List.mem_of_getElem? (i := 30) rfl))) (notFace_of_selects (args := #[]) (mvT hZ (hw _ (List.mem_of_getElem? (i := 32) rfl)))) (mvT hZ (hw _ (List.mem_of_getElem? (i := 32) rfl))) (mvT hZ (hw _ (List.mem_of_getElem? (i := 31) rfl))) (by decide) (backOf (W := 0) (own_rm_takesPrecision l Z a0 hw [] wTIMESTAMP zN zP h37 n0 Z37 (Fld.keep F_wTIMESTAMP K37 nin0) (own_sta_keep0 S_zP K37)) hZ (hw _ (List.mem_of_getElem? (i := 33) rfl)) (hw _ (List.mem_of_getElem? (i := 3) rfl)) (by decide) (by decide)) q68a q68c (g := (mkF m 110 #[.val (.int k), .val (.ref b1), .val (.int ((k &&& (2147483647 : Int32)) % (12 : Int32))), .val (.ref wTIMESTAMP), .val (.int (0 : Int32)), .unset] [(.ref wTIMESTAMP)])) rfl (by rw [hml]; rfl) (Steps.refl _) (argsL := []) (rest := []) (lenOf own_pd___Z rfl) rfl (by show 2 * 0 + _ ≤ _; exact Nat.le_of_eq rfl) (hb hby at_110) (fun _ _ => ⟨rfl, e37, (by decide : 1 + 0 ≤ _), (by decide : 12 + 0 ≤ _)⟩)
    dsimp only [Pt.U, Pt.locs, Pt.cells, Pt.slots] at X68 l68 y68 z68 st68 hQ68
    subst l68 y68 z68
    obtain ⟨hv68, Nq68, hh68⟩ := hQ68
    have N68 := Fr.app N37 Nq68
    rw [show own_same zN zP = (0 : Int32) by simp [own_same, nNL, nNP, nLP, nPL]] at hv68
    subst hv68
    have k69 : ∀ tt, Steps p.tables e below (T68.setTop (mkF m 141 #[.val (.int k), .val (.ref b1), .val (.int ((k &&& (2147483647 : Int32)) % (12 : Int32))), .val (.ref wTIMESTAMP), .val (.int (0 : Int32)), .val (.int (0 : Int32))] [(.int (1 : Int32))])) tt → Steps p.tables e below (s₁.setTop (entryFrame m #[(.int k)] maxLocals)) tt := by
      intro tt kk
      refine k38 tt ?_
      show Steps p.tables e below (T37.setTop (mkF m 94 #[.val (.int k), .val (.ref b1), .val (.int ((k &&& (2147483647 : Int32)) % (12 : Int32))), .unset, .unset, .unset] [(.int ((k &&& (2147483647 : Int32)) % (12 : Int32))), (.ref b1)])) tt
      refine X37.aaload hx (j := ((k &&& (2147483647 : Int32)) % (12 : Int32))) (v := (.ref wTIMESTAMP)) (by rw [e37]; exact Ar67.1) (State.isArrayOf_alike hZ.alike Ar67.2.1) rfl Ar67.2.2 hin67 hat67 (g := (mkF m 94 #[.val (.int k), .val (.ref b1), .val (.int ((k &&& (2147483647 : Int32)) % (12 : Int32))), .unset, .unset, .unset] [(.int ((k &&& (2147483647 : Int32)) % (12 : Int32))), (.ref b1)])) rfl rfl (hb hby at_94) _ ?_
      show Steps p.tables e below (T37.setTop (mkF m 95 #[.val (.int k), .val (.ref b1), .val (.int ((k &&& (2147483647 : Int32)) % (12 : Int32))), .unset, .unset, .unset] [(.ref wTIMESTAMP)])) tt
      refine XS.astoreN X37.here hx rfl (hb hby at_95) rfl rfl (l' := #[.val (.int k), .val (.ref b1), .val (.int ((k &&& (2147483647 : Int32)) % (12 : Int32))), .val (.ref wTIMESTAMP), .unset, .unset]) rfl ?_
      show Steps p.tables e below (T37.setTop (mkF m 96 #[.val (.int k), .val (.ref b1), .val (.int ((k &&& (2147483647 : Int32)) % (12 : Int32))), .val (.ref wTIMESTAMP), .unset, .unset] [])) tt
      refine XS.iloadN X37.here hx rfl (hb hby at_96) rfl ?_
      show Steps p.tables e below (T37.setTop (mkF m 97 #[.val (.int k), .val (.ref b1), .val (.int ((k &&& (2147483647 : Int32)) % (12 : Int32))), .val (.ref wTIMESTAMP), .unset, .unset] [(.int ((k &&& (2147483647 : Int32)) % (12 : Int32)))])) tt
      refine XS.bipush X37.here hx rfl (hb hby at_97) ?_
      show Steps p.tables e below (T37.setTop (mkF m 99 #[.val (.int k), .val (.ref b1), .val (.int ((k &&& (2147483647 : Int32)) % (12 : Int32))), .val (.ref wTIMESTAMP), .unset, .unset] [(.int (7 : Int32)), (.int ((k &&& (2147483647 : Int32)) % (12 : Int32)))])) tt
      refine XS.icmpYes X37.here hx rfl (pc0 := 99) (pc' := 106) rfl (hb hby at_99) rfl (feq (by rw [hi]; decide : ¬ (((k &&& (2147483647 : Int32)) % (12 : Int32)) = (7 : Int32)))).2 (by decide) (by decide) ?_
      show Steps p.tables e below (T37.setTop (mkF m 106 #[.val (.int k), .val (.ref b1), .val (.int ((k &&& (2147483647 : Int32)) % (12 : Int32))), .val (.ref wTIMESTAMP), .unset, .unset] [])) tt
      refine XS.iconst X37.here hx rfl (hb hby at_106) ?_
      show Steps p.tables e below (T37.setTop (mkF m 107 #[.val (.int k), .val (.ref b1), .val (.int ((k &&& (2147483647 : Int32)) % (12 : Int32))), .val (.ref wTIMESTAMP), .unset, .unset] [(.int (0 : Int32))])) tt
      refine XS.istore X37.here hx rfl (hb hby at_107) rfl (l' := #[.val (.int k), .val (.ref b1), .val (.int ((k &&& (2147483647 : Int32)) % (12 : Int32))), .val (.ref wTIMESTAMP), .val (.int (0 : Int32)), .unset]) rfl ?_
      show Steps p.tables e below (T37.setTop (mkF m 109 #[.val (.int k), .val (.ref b1), .val (.int ((k &&& (2147483647 : Int32)) % (12 : Int32))), .val (.ref wTIMESTAMP), .val (.int (0 : Int32)), .unset] [])) tt
      refine XS.aloadN X37.here hx rfl (hb hby at_109) rfl rfl ?_
      show Steps p.tables e below (T37.setTop (mkF m 110 #[.val (.int k), .val (.ref b1), .val (.int ((k &&& (2147483647 : Int32)) % (12 : Int32))), .val (.ref wTIMESTAMP), .val (.int (0 : Int32)), .unset] [(.ref wTIMESTAMP)])) tt
      refine st68.trans ?_
      show Steps p.tables e below (T68.setTop (mkF m 113 #[.val (.int k), .val (.ref b1), .val (.int ((k &&& (2147483647 : Int32)) % (12 : Int32))), .val (.ref wTIMESTAMP), .val (.int (0 : Int32)), .unset] [(.int (0 : Int32))])) tt
      refine XS.istore X68.here hx rfl (hb hby at_113) rfl (l' := #[.val (.int k), .val (.ref b1), .val (.int ((k &&& (2147483647 : Int32)) % (12 : Int32))), .val (.ref wTIMESTAMP), .val (.int (0 : Int32)), .val (.int (0 : Int32))]) rfl ?_
      show Steps p.tables e below (T68.setTop (mkF m 115 #[.val (.int k), .val (.ref b1), .val (.int ((k &&& (2147483647 : Int32)) % (12 : Int32))), .val (.ref wTIMESTAMP), .val (.int (0 : Int32)), .val (.int (0 : Int32))] [])) tt
      refine XS.iload X68.here hx rfl (hb hby at_115) rfl ?_
      show Steps p.tables e below (T68.setTop (mkF m 117 #[.val (.int k), .val (.ref b1), .val (.int ((k &&& (2147483647 : Int32)) % (12 : Int32))), .val (.ref wTIMESTAMP), .val (.int (0 : Int32)), .val (.int (0 : Int32))] [(.int (0 : Int32))])) tt
      refine XS.iload X68.here hx rfl (hb hby at_117) rfl ?_
      show Steps p.tables e below (T68.setTop (mkF m 119 #[.val (.int k), .val (.ref b1), .val (.int ((k &&& (2147483647 : Int32)) % (12 : Int32))), .val (.ref wTIMESTAMP), .val (.int (0 : Int32)), .val (.int (0 : Int32))] [(.int (0 : Int32)), (.int (0 : Int32))])) tt
      refine XS.icmpYes X68.here hx rfl (pc0 := 119) (pc' := 124) rfl (hb hby at_119) rfl (teq (by decide : (0 : Int32) = (0 : Int32))).1 (by decide) (by decide) ?_
      show Steps p.tables e below (T68.setTop (mkF m 124 #[.val (.int k), .val (.ref b1), .val (.int ((k &&& (2147483647 : Int32)) % (12 : Int32))), .val (.ref wTIMESTAMP), .val (.int (0 : Int32)), .val (.int (0 : Int32))] [])) tt
      refine XS.iload X68.here hx rfl (hb hby at_124) rfl ?_
      show Steps p.tables e below (T68.setTop (mkF m 126 #[.val (.int k), .val (.ref b1), .val (.int ((k &&& (2147483647 : Int32)) % (12 : Int32))), .val (.ref wTIMESTAMP), .val (.int (0 : Int32)), .val (.int (0 : Int32))] [(.int (0 : Int32))])) tt
      refine XS.ifYes X68.here hx rfl (pc0 := 126) (pc' := 136) rfl (hb hby at_126) rfl ((if0 _ _).trans (teq (by decide : (0 : Int32) = (0 : Int32))).1) (by decide) (by decide) ?_
      show Steps p.tables e below (T68.setTop (mkF m 136 #[.val (.int k), .val (.ref b1), .val (.int ((k &&& (2147483647 : Int32)) % (12 : Int32))), .val (.ref wTIMESTAMP), .val (.int (0 : Int32)), .val (.int (0 : Int32))] [])) tt
      refine XS.iconst X68.here hx rfl (hb hby at_136) ?_
      show Steps p.tables e below (T68.setTop (mkF m 137 #[.val (.int k), .val (.ref b1), .val (.int ((k &&& (2147483647 : Int32)) % (12 : Int32))), .val (.ref wTIMESTAMP), .val (.int (0 : Int32)), .val (.int (0 : Int32))] [(.int (1 : Int32))])) tt
      refine XS.goto X68.here hx rfl (pc0 := 137) (pc' := 141) rfl (hb hby at_137) (by decide) (by decide) ?_
      exact kk
    obtain ⟨fs, hr, hrun, hended, hW, hsame⟩ := X68.leave (v := some (.int (1 : Int32))) (fun hq => by rw [Bd.returns] at hq; cases hq)
    refine ⟨_, _, k69 _ ?_, hrun, hended, _, _, rfl, ?_, ⟨_, rfl⟩, hW, hsame.mono (by decide) (by decide)⟩
    · show Steps p.tables e below (T68.setTop (mkF m 141 #[.val (.int k), .val (.ref b1), .val (.int ((k &&& (2147483647 : Int32)) % (12 : Int32))), .val (.ref wTIMESTAMP), .val (.int (0 : Int32)), .val (.int (0 : Int32))] [(.int (1 : Int32))])) _
      exact retN X68 hx (t := .boolean) Bd.returns (by simp) (hb hby at_141) hr
    · show (fun (v : Option Value) (h : Heap) (L : List Loc) => v = some (.int (1 : Int32)) ∧ Fr n0 L) _ T68.heap _
      rw [hh68]
      dsimp only
      exact ⟨rfl, N68⟩
  · have own_mark : True := trivial
    obtain ⟨cl70, Ar70, q70, S70, P70, H70, G70⟩ := id V37
    have hin70 : ¬ (((k &&& (2147483647 : Int32)) % (12 : Int32)) < 0 ∨ cl70.slots.size ≤ (((k &&& (2147483647 : Int32)) % (12 : Int32))).toNatClampNeg) := inb_of S70 (by rw [hi]; exact ⟨by decide, by decide⟩)
    have hat70 : cl70.slots[(((k &&& (2147483647 : Int32)) % (12 : Int32))).toNatClampNeg]? = some (.ref wUUID) := Has.at H70 hin70 (by rw [hi]; rfl)
    obtain ⟨cq71, kq71, q71a, q71b, q71c⟩ := isOf hZ e37 (Exa.keep E_wUUID K37)
    obtain ⟨_, _, ⟨T71, L71, ka71, na71⟩, -, X71, ⟨Lc71, hQ71, l71, y71, z71⟩, st71⟩ := X37.virtualBack hx (y := (⟨"com/example/cascade_persist/cascadepersist/ColumnType", "takesPrecision", "()Z"⟩ : MethodName)) (z := (⟨"com/example/cascade_persist/cascadepersist/ColumnType", "takesPrecision", "()Z"⟩ : MethodName)) hown (mvT hZ (hw _ (List.mem_of_getElem? (i := 29) rfl))) (mvT hZ (hw _ (List.mem_of_getElem? (i := 30) rfl))) (notFace_of_selects (args := #[]) (mvT hZ (hw _ (List.mem_of_getElem? (i := 32) rfl)))) (mvT hZ (hw _ (List.mem_of_getElem? (i := 32) rfl))) (mvT hZ (hw _ (List.mem_of_getElem? (i := 31) rfl))) (by decide) (backOf (W := 0) (own_rm_takesPrecision l Z a0 hw [] wUUID zN zP h37 n0 Z37 (Fld.keep F_wUUID K37 nin0) (own_sta_keep0 S_zP K37)) hZ (hw _ (List.mem_of_getElem? (i := 33) rfl)) (hw _ (List.mem_of_getElem? (i := 3) rfl)) (by decide) (by decide)) q71a q71c (g := (mkF m 110 #[.val (.int k), .val (.ref b1), .val (.int ((k &&& (2147483647 : Int32)) % (12 : Int32))), .val (.ref wUUID), .val (.int (0 : Int32)), .unset] [(.ref wUUID)])) rfl (by rw [hml]; rfl) (Steps.refl _) (argsL := []) (rest := []) (lenOf own_pd___Z rfl) rfl (by show 2 * 0 + _ ≤ _; exact Nat.le_of_eq rfl) (hb hby at_110) (fun _ _ => ⟨rfl, e37, (by decide : 1 + 0 ≤ _), (by decide : 12 + 0 ≤ _)⟩)
    dsimp only [Pt.U, Pt.locs, Pt.cells, Pt.slots] at X71 l71 y71 z71 st71 hQ71
    subst l71 y71 z71
    obtain ⟨hv71, Nq71, hh71⟩ := hQ71
    have N71 := Fr.app N37 Nq71
    rw [show own_same zN zP = (0 : Int32) by simp [own_same, nNL, nNP, nLP, nPL]] at hv71
    subst hv71
    have k72 : ∀ tt, Steps p.tables e below (T71.setTop (mkF m 141 #[.val (.int k), .val (.ref b1), .val (.int ((k &&& (2147483647 : Int32)) % (12 : Int32))), .val (.ref wUUID), .val (.int (0 : Int32)), .val (.int (0 : Int32))] [(.int (1 : Int32))])) tt → Steps p.tables e below (s₁.setTop (entryFrame m #[(.int k)] maxLocals)) tt := by
      intro tt kk
      refine k38 tt ?_
      show Steps p.tables e below (T37.setTop (mkF m 94 #[.val (.int k), .val (.ref b1), .val (.int ((k &&& (2147483647 : Int32)) % (12 : Int32))), .unset, .unset, .unset] [(.int ((k &&& (2147483647 : Int32)) % (12 : Int32))), (.ref b1)])) tt
      refine X37.aaload hx (j := ((k &&& (2147483647 : Int32)) % (12 : Int32))) (v := (.ref wUUID)) (by rw [e37]; exact Ar70.1) (State.isArrayOf_alike hZ.alike Ar70.2.1) rfl Ar70.2.2 hin70 hat70 (g := (mkF m 94 #[.val (.int k), .val (.ref b1), .val (.int ((k &&& (2147483647 : Int32)) % (12 : Int32))), .unset, .unset, .unset] [(.int ((k &&& (2147483647 : Int32)) % (12 : Int32))), (.ref b1)])) rfl rfl (hb hby at_94) _ ?_
      show Steps p.tables e below (T37.setTop (mkF m 95 #[.val (.int k), .val (.ref b1), .val (.int ((k &&& (2147483647 : Int32)) % (12 : Int32))), .unset, .unset, .unset] [(.ref wUUID)])) tt
      refine XS.astoreN X37.here hx rfl (hb hby at_95) rfl rfl (l' := #[.val (.int k), .val (.ref b1), .val (.int ((k &&& (2147483647 : Int32)) % (12 : Int32))), .val (.ref wUUID), .unset, .unset]) rfl ?_
      show Steps p.tables e below (T37.setTop (mkF m 96 #[.val (.int k), .val (.ref b1), .val (.int ((k &&& (2147483647 : Int32)) % (12 : Int32))), .val (.ref wUUID), .unset, .unset] [])) tt
      refine XS.iloadN X37.here hx rfl (hb hby at_96) rfl ?_
      show Steps p.tables e below (T37.setTop (mkF m 97 #[.val (.int k), .val (.ref b1), .val (.int ((k &&& (2147483647 : Int32)) % (12 : Int32))), .val (.ref wUUID), .unset, .unset] [(.int ((k &&& (2147483647 : Int32)) % (12 : Int32)))])) tt
      refine XS.bipush X37.here hx rfl (hb hby at_97) ?_
      show Steps p.tables e below (T37.setTop (mkF m 99 #[.val (.int k), .val (.ref b1), .val (.int ((k &&& (2147483647 : Int32)) % (12 : Int32))), .val (.ref wUUID), .unset, .unset] [(.int (7 : Int32)), (.int ((k &&& (2147483647 : Int32)) % (12 : Int32)))])) tt
      refine XS.icmpYes X37.here hx rfl (pc0 := 99) (pc' := 106) rfl (hb hby at_99) rfl (feq (by rw [hi]; decide : ¬ (((k &&& (2147483647 : Int32)) % (12 : Int32)) = (7 : Int32)))).2 (by decide) (by decide) ?_
      show Steps p.tables e below (T37.setTop (mkF m 106 #[.val (.int k), .val (.ref b1), .val (.int ((k &&& (2147483647 : Int32)) % (12 : Int32))), .val (.ref wUUID), .unset, .unset] [])) tt
      refine XS.iconst X37.here hx rfl (hb hby at_106) ?_
      show Steps p.tables e below (T37.setTop (mkF m 107 #[.val (.int k), .val (.ref b1), .val (.int ((k &&& (2147483647 : Int32)) % (12 : Int32))), .val (.ref wUUID), .unset, .unset] [(.int (0 : Int32))])) tt
      refine XS.istore X37.here hx rfl (hb hby at_107) rfl (l' := #[.val (.int k), .val (.ref b1), .val (.int ((k &&& (2147483647 : Int32)) % (12 : Int32))), .val (.ref wUUID), .val (.int (0 : Int32)), .unset]) rfl ?_
      show Steps p.tables e below (T37.setTop (mkF m 109 #[.val (.int k), .val (.ref b1), .val (.int ((k &&& (2147483647 : Int32)) % (12 : Int32))), .val (.ref wUUID), .val (.int (0 : Int32)), .unset] [])) tt
      refine XS.aloadN X37.here hx rfl (hb hby at_109) rfl rfl ?_
      show Steps p.tables e below (T37.setTop (mkF m 110 #[.val (.int k), .val (.ref b1), .val (.int ((k &&& (2147483647 : Int32)) % (12 : Int32))), .val (.ref wUUID), .val (.int (0 : Int32)), .unset] [(.ref wUUID)])) tt
      refine st71.trans ?_
      show Steps p.tables e below (T71.setTop (mkF m 113 #[.val (.int k), .val (.ref b1), .val (.int ((k &&& (2147483647 : Int32)) % (12 : Int32))), .val (.ref wUUID), .val (.int (0 : Int32)), .unset] [(.int (0 : Int32))])) tt
      refine XS.istore X71.here hx rfl (hb hby at_113) rfl (l' := #[.val (.int k), .val (.ref b1), .val (.int ((k &&& (2147483647 : Int32)) % (12 : Int32))), .val (.ref wUUID), .val (.int (0 : Int32)), .val (.int (0 : Int32))]) rfl ?_
      show Steps p.tables e below (T71.setTop (mkF m 115 #[.val (.int k), .val (.ref b1), .val (.int ((k &&& (2147483647 : Int32)) % (12 : Int32))), .val (.ref wUUID), .val (.int (0 : Int32)), .val (.int (0 : Int32))] [])) tt
      refine XS.iload X71.here hx rfl (hb hby at_115) rfl ?_
      show Steps p.tables e below (T71.setTop (mkF m 117 #[.val (.int k), .val (.ref b1), .val (.int ((k &&& (2147483647 : Int32)) % (12 : Int32))), .val (.ref wUUID), .val (.int (0 : Int32)), .val (.int (0 : Int32))] [(.int (0 : Int32))])) tt
      refine XS.iload X71.here hx rfl (hb hby at_117) rfl ?_
      show Steps p.tables e below (T71.setTop (mkF m 119 #[.val (.int k), .val (.ref b1), .val (.int ((k &&& (2147483647 : Int32)) % (12 : Int32))), .val (.ref wUUID), .val (.int (0 : Int32)), .val (.int (0 : Int32))] [(.int (0 : Int32)), (.int (0 : Int32))])) tt
      refine XS.icmpYes X71.here hx rfl (pc0 := 119) (pc' := 124) rfl (hb hby at_119) rfl (teq (by decide : (0 : Int32) = (0 : Int32))).1 (by decide) (by decide) ?_
      show Steps p.tables e below (T71.setTop (mkF m 124 #[.val (.int k), .val (.ref b1), .val (.int ((k &&& (2147483647 : Int32)) % (12 : Int32))), .val (.ref wUUID), .val (.int (0 : Int32)), .val (.int (0 : Int32))] [])) tt
      refine XS.iload X71.here hx rfl (hb hby at_124) rfl ?_
      show Steps p.tables e below (T71.setTop (mkF m 126 #[.val (.int k), .val (.ref b1), .val (.int ((k &&& (2147483647 : Int32)) % (12 : Int32))), .val (.ref wUUID), .val (.int (0 : Int32)), .val (.int (0 : Int32))] [(.int (0 : Int32))])) tt
      refine XS.ifYes X71.here hx rfl (pc0 := 126) (pc' := 136) rfl (hb hby at_126) rfl ((if0 _ _).trans (teq (by decide : (0 : Int32) = (0 : Int32))).1) (by decide) (by decide) ?_
      show Steps p.tables e below (T71.setTop (mkF m 136 #[.val (.int k), .val (.ref b1), .val (.int ((k &&& (2147483647 : Int32)) % (12 : Int32))), .val (.ref wUUID), .val (.int (0 : Int32)), .val (.int (0 : Int32))] [])) tt
      refine XS.iconst X71.here hx rfl (hb hby at_136) ?_
      show Steps p.tables e below (T71.setTop (mkF m 137 #[.val (.int k), .val (.ref b1), .val (.int ((k &&& (2147483647 : Int32)) % (12 : Int32))), .val (.ref wUUID), .val (.int (0 : Int32)), .val (.int (0 : Int32))] [(.int (1 : Int32))])) tt
      refine XS.goto X71.here hx rfl (pc0 := 137) (pc' := 141) rfl (hb hby at_137) (by decide) (by decide) ?_
      exact kk
    obtain ⟨fs, hr, hrun, hended, hW, hsame⟩ := X71.leave (v := some (.int (1 : Int32))) (fun hq => by rw [Bd.returns] at hq; cases hq)
    refine ⟨_, _, k72 _ ?_, hrun, hended, _, _, rfl, ?_, ⟨_, rfl⟩, hW, hsame.mono (by decide) (by decide)⟩
    · show Steps p.tables e below (T71.setTop (mkF m 141 #[.val (.int k), .val (.ref b1), .val (.int ((k &&& (2147483647 : Int32)) % (12 : Int32))), .val (.ref wUUID), .val (.int (0 : Int32)), .val (.int (0 : Int32))] [(.int (1 : Int32))])) _
      exact retN X71 hx (t := .boolean) Bd.returns (by simp) (hb hby at_141) hr
    · show (fun (v : Option Value) (h : Heap) (L : List Loc) => v = some (.int (1 : Int32)) ∧ Fr n0 L) _ T71.heap _
      rw [hh71]
      dsimp only
      exact ⟨rfl, N71⟩
  · have own_mark : True := trivial
    obtain ⟨cl73, Ar73, q73, S73, P73, H73, G73⟩ := id V37
    have hin73 : ¬ (((k &&& (2147483647 : Int32)) % (12 : Int32)) < 0 ∨ cl73.slots.size ≤ (((k &&& (2147483647 : Int32)) % (12 : Int32))).toNatClampNeg) := inb_of S73 (by rw [hi]; exact ⟨by decide, by decide⟩)
    have hat73 : cl73.slots[(((k &&& (2147483647 : Int32)) % (12 : Int32))).toNatClampNeg]? = some (.ref wCLOB) := Has.at H73 hin73 (by rw [hi]; rfl)
    obtain ⟨cq74, kq74, q74a, q74b, q74c⟩ := isOf hZ e37 (Exa.keep E_wCLOB K37)
    obtain ⟨_, _, ⟨T74, L74, ka74, na74⟩, -, X74, ⟨Lc74, hQ74, l74, y74, z74⟩, st74⟩ := X37.virtualBack hx (y := (⟨"com/example/cascade_persist/cascadepersist/ColumnType", "takesPrecision", "()Z"⟩ : MethodName)) (z := (⟨"com/example/cascade_persist/cascadepersist/ColumnType", "takesPrecision", "()Z"⟩ : MethodName)) hown (mvT hZ (hw _ (List.mem_of_getElem? (i := 29) rfl))) (mvT hZ (hw _ (List.mem_of_getElem? (i := 30) rfl))) (notFace_of_selects (args := #[]) (mvT hZ (hw _ (List.mem_of_getElem? (i := 32) rfl)))) (mvT hZ (hw _ (List.mem_of_getElem? (i := 32) rfl))) (mvT hZ (hw _ (List.mem_of_getElem? (i := 31) rfl))) (by decide) (backOf (W := 0) (own_rm_takesPrecision l Z a0 hw [] wCLOB zN zP h37 n0 Z37 (Fld.keep F_wCLOB K37 nin0) (own_sta_keep0 S_zP K37)) hZ (hw _ (List.mem_of_getElem? (i := 33) rfl)) (hw _ (List.mem_of_getElem? (i := 3) rfl)) (by decide) (by decide)) q74a q74c (g := (mkF m 110 #[.val (.int k), .val (.ref b1), .val (.int ((k &&& (2147483647 : Int32)) % (12 : Int32))), .val (.ref wCLOB), .val (.int (0 : Int32)), .unset] [(.ref wCLOB)])) rfl (by rw [hml]; rfl) (Steps.refl _) (argsL := []) (rest := []) (lenOf own_pd___Z rfl) rfl (by show 2 * 0 + _ ≤ _; exact Nat.le_of_eq rfl) (hb hby at_110) (fun _ _ => ⟨rfl, e37, (by decide : 1 + 0 ≤ _), (by decide : 12 + 0 ≤ _)⟩)
    dsimp only [Pt.U, Pt.locs, Pt.cells, Pt.slots] at X74 l74 y74 z74 st74 hQ74
    subst l74 y74 z74
    obtain ⟨hv74, Nq74, hh74⟩ := hQ74
    have N74 := Fr.app N37 Nq74
    rw [show own_same zN zP = (0 : Int32) by simp [own_same, nNL, nNP, nLP, nPL]] at hv74
    subst hv74
    have k75 : ∀ tt, Steps p.tables e below (T74.setTop (mkF m 141 #[.val (.int k), .val (.ref b1), .val (.int ((k &&& (2147483647 : Int32)) % (12 : Int32))), .val (.ref wCLOB), .val (.int (0 : Int32)), .val (.int (0 : Int32))] [(.int (1 : Int32))])) tt → Steps p.tables e below (s₁.setTop (entryFrame m #[(.int k)] maxLocals)) tt := by
      intro tt kk
      refine k38 tt ?_
      show Steps p.tables e below (T37.setTop (mkF m 94 #[.val (.int k), .val (.ref b1), .val (.int ((k &&& (2147483647 : Int32)) % (12 : Int32))), .unset, .unset, .unset] [(.int ((k &&& (2147483647 : Int32)) % (12 : Int32))), (.ref b1)])) tt
      refine X37.aaload hx (j := ((k &&& (2147483647 : Int32)) % (12 : Int32))) (v := (.ref wCLOB)) (by rw [e37]; exact Ar73.1) (State.isArrayOf_alike hZ.alike Ar73.2.1) rfl Ar73.2.2 hin73 hat73 (g := (mkF m 94 #[.val (.int k), .val (.ref b1), .val (.int ((k &&& (2147483647 : Int32)) % (12 : Int32))), .unset, .unset, .unset] [(.int ((k &&& (2147483647 : Int32)) % (12 : Int32))), (.ref b1)])) rfl rfl (hb hby at_94) _ ?_
      show Steps p.tables e below (T37.setTop (mkF m 95 #[.val (.int k), .val (.ref b1), .val (.int ((k &&& (2147483647 : Int32)) % (12 : Int32))), .unset, .unset, .unset] [(.ref wCLOB)])) tt
      refine XS.astoreN X37.here hx rfl (hb hby at_95) rfl rfl (l' := #[.val (.int k), .val (.ref b1), .val (.int ((k &&& (2147483647 : Int32)) % (12 : Int32))), .val (.ref wCLOB), .unset, .unset]) rfl ?_
      show Steps p.tables e below (T37.setTop (mkF m 96 #[.val (.int k), .val (.ref b1), .val (.int ((k &&& (2147483647 : Int32)) % (12 : Int32))), .val (.ref wCLOB), .unset, .unset] [])) tt
      refine XS.iloadN X37.here hx rfl (hb hby at_96) rfl ?_
      show Steps p.tables e below (T37.setTop (mkF m 97 #[.val (.int k), .val (.ref b1), .val (.int ((k &&& (2147483647 : Int32)) % (12 : Int32))), .val (.ref wCLOB), .unset, .unset] [(.int ((k &&& (2147483647 : Int32)) % (12 : Int32)))])) tt
      refine XS.bipush X37.here hx rfl (hb hby at_97) ?_
      show Steps p.tables e below (T37.setTop (mkF m 99 #[.val (.int k), .val (.ref b1), .val (.int ((k &&& (2147483647 : Int32)) % (12 : Int32))), .val (.ref wCLOB), .unset, .unset] [(.int (7 : Int32)), (.int ((k &&& (2147483647 : Int32)) % (12 : Int32)))])) tt
      refine XS.icmpYes X37.here hx rfl (pc0 := 99) (pc' := 106) rfl (hb hby at_99) rfl (feq (by rw [hi]; decide : ¬ (((k &&& (2147483647 : Int32)) % (12 : Int32)) = (7 : Int32)))).2 (by decide) (by decide) ?_
      show Steps p.tables e below (T37.setTop (mkF m 106 #[.val (.int k), .val (.ref b1), .val (.int ((k &&& (2147483647 : Int32)) % (12 : Int32))), .val (.ref wCLOB), .unset, .unset] [])) tt
      refine XS.iconst X37.here hx rfl (hb hby at_106) ?_
      show Steps p.tables e below (T37.setTop (mkF m 107 #[.val (.int k), .val (.ref b1), .val (.int ((k &&& (2147483647 : Int32)) % (12 : Int32))), .val (.ref wCLOB), .unset, .unset] [(.int (0 : Int32))])) tt
      refine XS.istore X37.here hx rfl (hb hby at_107) rfl (l' := #[.val (.int k), .val (.ref b1), .val (.int ((k &&& (2147483647 : Int32)) % (12 : Int32))), .val (.ref wCLOB), .val (.int (0 : Int32)), .unset]) rfl ?_
      show Steps p.tables e below (T37.setTop (mkF m 109 #[.val (.int k), .val (.ref b1), .val (.int ((k &&& (2147483647 : Int32)) % (12 : Int32))), .val (.ref wCLOB), .val (.int (0 : Int32)), .unset] [])) tt
      refine XS.aloadN X37.here hx rfl (hb hby at_109) rfl rfl ?_
      show Steps p.tables e below (T37.setTop (mkF m 110 #[.val (.int k), .val (.ref b1), .val (.int ((k &&& (2147483647 : Int32)) % (12 : Int32))), .val (.ref wCLOB), .val (.int (0 : Int32)), .unset] [(.ref wCLOB)])) tt
      refine st74.trans ?_
      show Steps p.tables e below (T74.setTop (mkF m 113 #[.val (.int k), .val (.ref b1), .val (.int ((k &&& (2147483647 : Int32)) % (12 : Int32))), .val (.ref wCLOB), .val (.int (0 : Int32)), .unset] [(.int (0 : Int32))])) tt
      refine XS.istore X74.here hx rfl (hb hby at_113) rfl (l' := #[.val (.int k), .val (.ref b1), .val (.int ((k &&& (2147483647 : Int32)) % (12 : Int32))), .val (.ref wCLOB), .val (.int (0 : Int32)), .val (.int (0 : Int32))]) rfl ?_
      show Steps p.tables e below (T74.setTop (mkF m 115 #[.val (.int k), .val (.ref b1), .val (.int ((k &&& (2147483647 : Int32)) % (12 : Int32))), .val (.ref wCLOB), .val (.int (0 : Int32)), .val (.int (0 : Int32))] [])) tt
      refine XS.iload X74.here hx rfl (hb hby at_115) rfl ?_
      show Steps p.tables e below (T74.setTop (mkF m 117 #[.val (.int k), .val (.ref b1), .val (.int ((k &&& (2147483647 : Int32)) % (12 : Int32))), .val (.ref wCLOB), .val (.int (0 : Int32)), .val (.int (0 : Int32))] [(.int (0 : Int32))])) tt
      refine XS.iload X74.here hx rfl (hb hby at_117) rfl ?_
      show Steps p.tables e below (T74.setTop (mkF m 119 #[.val (.int k), .val (.ref b1), .val (.int ((k &&& (2147483647 : Int32)) % (12 : Int32))), .val (.ref wCLOB), .val (.int (0 : Int32)), .val (.int (0 : Int32))] [(.int (0 : Int32)), (.int (0 : Int32))])) tt
      refine XS.icmpYes X74.here hx rfl (pc0 := 119) (pc' := 124) rfl (hb hby at_119) rfl (teq (by decide : (0 : Int32) = (0 : Int32))).1 (by decide) (by decide) ?_
      show Steps p.tables e below (T74.setTop (mkF m 124 #[.val (.int k), .val (.ref b1), .val (.int ((k &&& (2147483647 : Int32)) % (12 : Int32))), .val (.ref wCLOB), .val (.int (0 : Int32)), .val (.int (0 : Int32))] [])) tt
      refine XS.iload X74.here hx rfl (hb hby at_124) rfl ?_
      show Steps p.tables e below (T74.setTop (mkF m 126 #[.val (.int k), .val (.ref b1), .val (.int ((k &&& (2147483647 : Int32)) % (12 : Int32))), .val (.ref wCLOB), .val (.int (0 : Int32)), .val (.int (0 : Int32))] [(.int (0 : Int32))])) tt
      refine XS.ifYes X74.here hx rfl (pc0 := 126) (pc' := 136) rfl (hb hby at_126) rfl ((if0 _ _).trans (teq (by decide : (0 : Int32) = (0 : Int32))).1) (by decide) (by decide) ?_
      show Steps p.tables e below (T74.setTop (mkF m 136 #[.val (.int k), .val (.ref b1), .val (.int ((k &&& (2147483647 : Int32)) % (12 : Int32))), .val (.ref wCLOB), .val (.int (0 : Int32)), .val (.int (0 : Int32))] [])) tt
      refine XS.iconst X74.here hx rfl (hb hby at_136) ?_
      show Steps p.tables e below (T74.setTop (mkF m 137 #[.val (.int k), .val (.ref b1), .val (.int ((k &&& (2147483647 : Int32)) % (12 : Int32))), .val (.ref wCLOB), .val (.int (0 : Int32)), .val (.int (0 : Int32))] [(.int (1 : Int32))])) tt
      refine XS.goto X74.here hx rfl (pc0 := 137) (pc' := 141) rfl (hb hby at_137) (by decide) (by decide) ?_
      exact kk
    obtain ⟨fs, hr, hrun, hended, hW, hsame⟩ := X74.leave (v := some (.int (1 : Int32))) (fun hq => by rw [Bd.returns] at hq; cases hq)
    refine ⟨_, _, k75 _ ?_, hrun, hended, _, _, rfl, ?_, ⟨_, rfl⟩, hW, hsame.mono (by decide) (by decide)⟩
    · show Steps p.tables e below (T74.setTop (mkF m 141 #[.val (.int k), .val (.ref b1), .val (.int ((k &&& (2147483647 : Int32)) % (12 : Int32))), .val (.ref wCLOB), .val (.int (0 : Int32)), .val (.int (0 : Int32))] [(.int (1 : Int32))])) _
      exact retN X74 hx (t := .boolean) Bd.returns (by simp) (hb hby at_141) hr
    · show (fun (v : Option Value) (h : Heap) (L : List Loc) => v = some (.int (1 : Int32)) ∧ Fr n0 L) _ T74.heap _
      rw [hh74]
      dsimp only
      exact ⟨rfl, N74⟩
set_option maxRecDepth 65536 in
set_option maxHeartbeats 40000000 in
theorem comes_1 {Post : Tables → Env → Array Value → State → Outcome → State → Prop} (hpost : ∀ tb e args s v u, (limb_1_1.after args s (.returned v) u = true ∧ limb_1_2.after args s (.returned v) u = true ∧ True) → FrameEnd s (.returned v) u (Jvm.fieldLocs frame_1_writes args s ++ Jvm.arrayLocs frame_1_arrays args s ++ Jvm.staticLocs frame_1_statics s) 16 128 → Post tb e args s (.returned v) u) :
    ArmFor flags0 classFile x code maxLocals ret World_1 tables_1 room_1 Calls_1 rest_1 Pre_1 Post := by
  intro l hfl _ _ p e ha hc hk s m args below hf hA hF happ hP
  obtain ⟨hcalls, hrest, hpre⟩ := hP
  obtain ⟨-, -, -, hnamed, -, -, -, hat⟩ := (Spec.applies_iff hf).mp happ
  obtain ⟨hg, hn⟩ := and_e (Cond.before_iff.mp (show (Jvm.Cond.and given_1 narrow_1).before args s = true from hpre))
  obtain ⟨g1, g2⟩ := and_e hg
  obtain ⟨v0, rfl⟩ : ∃ v0 : Value, args = #[v0] := by
    have hs : args.size = 1 := by simpa [Cond.value, given_1] using g1
    obtain ⟨L⟩ := args
    match L, hs with
    | [v0], _ => exact ⟨v0, rfl⟩
  have hw := fun d (hd : d ∈ tables_1) => atoms_spec (ws := Jvm.Cond.code x code maxLocals ret :: tables_1) hat d (List.mem_cons_of_mem _ hd)
  have hfit : Fit s := fun {y c} hc i hi => by
    obtain ⟨ha, rfl⟩ := Array.getElem?_eq_some_iff.mp hc
    have q := List.all_eq_true.mp ((Array.all_eq_true_iff_forall_mem.mp hF) _ (Array.getElem_mem ha)) i (List.mem_range.mpr hi)
    simpa [Array.getElem?_eq_getElem hi] using q
  obtain ⟨i0, ei0⟩ := is_v g2
  obtain rfl : v0 = (.int i0) := Option.some.inj ei0
  obtain ⟨g3, g4⟩ := and_e hn
  obtain ⟨w_INTEGER, ev_w_INTEGER⟩ := exa_v g3
  have E_w_INTEGER := Exa.start ev_w_INTEGER g3
  obtain ⟨g5, g6⟩ := and_e g4
  obtain ⟨w_BIGINT, ev_w_BIGINT⟩ := exa_v g5
  have E_w_BIGINT := Exa.start ev_w_BIGINT g5
  obtain ⟨g7, g8⟩ := and_e g6
  obtain ⟨w_SMALLINT, ev_w_SMALLINT⟩ := exa_v g7
  have E_w_SMALLINT := Exa.start ev_w_SMALLINT g7
  obtain ⟨g9, g10⟩ := and_e g8
  obtain ⟨w_BOOLEAN, ev_w_BOOLEAN⟩ := exa_v g9
  have E_w_BOOLEAN := Exa.start ev_w_BOOLEAN g9
  obtain ⟨g11, g12⟩ := and_e g10
  obtain ⟨w_DOUBLE, ev_w_DOUBLE⟩ := exa_v g11
  have E_w_DOUBLE := Exa.start ev_w_DOUBLE g11
  obtain ⟨g13, g14⟩ := and_e g12
  obtain ⟨w_REAL, ev_w_REAL⟩ := exa_v g13
  have E_w_REAL := Exa.start ev_w_REAL g13
  obtain ⟨g15, g16⟩ := and_e g14
  obtain ⟨w_VARCHAR, ev_w_VARCHAR⟩ := exa_v g15
  have E_w_VARCHAR := Exa.start ev_w_VARCHAR g15
  obtain ⟨g17, g18⟩ := and_e g16
  obtain ⟨w_DECIMAL, ev_w_DECIMAL⟩ := exa_v g17
  have E_w_DECIMAL := Exa.start ev_w_DECIMAL g17
  obtain ⟨g19, g20⟩ := and_e g18
  obtain ⟨w_DATE, ev_w_DATE⟩ := exa_v g19
  have E_w_DATE := Exa.start ev_w_DATE g19
  obtain ⟨g21, g22⟩ := and_e g20
  obtain ⟨w_TIMESTAMP, ev_w_TIMESTAMP⟩ := exa_v g21
  have E_w_TIMESTAMP := Exa.start ev_w_TIMESTAMP g21
  obtain ⟨g23, g24⟩ := and_e g22
  obtain ⟨w_UUID, ev_w_UUID⟩ := exa_v g23
  have E_w_UUID := Exa.start ev_w_UUID g23
  obtain ⟨g25, g26⟩ := and_e g24
  obtain ⟨w_CLOB, ev_w_CLOB⟩ := exa_v g25
  have E_w_CLOB := Exa.start ev_w_CLOB g25
  obtain ⟨g27, g28⟩ := and_e g26
  obtain ⟨w_NONE, ev_w_NONE⟩ := exa_v g27
  have E_w_NONE := Exa.start ev_w_NONE g27
  obtain ⟨g29, g30⟩ := and_e g28
  obtain ⟨g31, g32⟩ := and_e g30
  obtain ⟨w_PRECISION, ev_w_PRECISION⟩ := exa_v g31
  have E_w_PRECISION := Exa.start ev_w_PRECISION g31
  obtain ⟨g33, g34⟩ := and_e g32
  obtain ⟨g35, g36⟩ := and_e g34
  obtain ⟨g37, g38⟩ := and_e g36
  obtain ⟨g39, g40⟩ := and_e g38
  obtain ⟨g41, g42⟩ := and_e g40
  obtain ⟨g43, g44⟩ := and_e g42
  obtain ⟨w_LENGTH, ev_w_LENGTH⟩ := exa_v g43
  have E_w_LENGTH := Exa.start ev_w_LENGTH g43
  obtain ⟨g45, g46⟩ := and_e g44
  obtain ⟨g47, g48⟩ := and_e g46
  obtain ⟨g49, g50⟩ := and_e g48
  obtain ⟨g51, g52⟩ := and_e g50
  obtain ⟨g53, g54⟩ := and_e g52
  obtain ⟨g55, g56⟩ := and_e g54
  obtain ⟨g57, g58⟩ := and_e g56
  obtain ⟨g59, g60⟩ := and_e g58
  have S_w_INTEGER := Sta.start ev_w_INTEGER (Or.inr ⟨(hw _ (List.mem_of_getElem? (i := 3) rfl)), (hw _ (List.mem_of_getElem? (i := 4) rfl))⟩)
  have S_w_BIGINT := Sta.start ev_w_BIGINT (Or.inr ⟨(hw _ (List.mem_of_getElem? (i := 3) rfl)), (hw _ (List.mem_of_getElem? (i := 7) rfl))⟩)
  have S_w_SMALLINT := Sta.start ev_w_SMALLINT (Or.inr ⟨(hw _ (List.mem_of_getElem? (i := 3) rfl)), (hw _ (List.mem_of_getElem? (i := 9) rfl))⟩)
  have S_w_BOOLEAN := Sta.start ev_w_BOOLEAN (Or.inr ⟨(hw _ (List.mem_of_getElem? (i := 3) rfl)), (hw _ (List.mem_of_getElem? (i := 11) rfl))⟩)
  have S_w_DOUBLE := Sta.start ev_w_DOUBLE (Or.inr ⟨(hw _ (List.mem_of_getElem? (i := 3) rfl)), (hw _ (List.mem_of_getElem? (i := 13) rfl))⟩)
  have S_w_REAL := Sta.start ev_w_REAL (Or.inr ⟨(hw _ (List.mem_of_getElem? (i := 3) rfl)), (hw _ (List.mem_of_getElem? (i := 15) rfl))⟩)
  have S_w_VARCHAR := Sta.start ev_w_VARCHAR (Or.inr ⟨(hw _ (List.mem_of_getElem? (i := 3) rfl)), (hw _ (List.mem_of_getElem? (i := 17) rfl))⟩)
  have S_w_DECIMAL := Sta.start ev_w_DECIMAL (Or.inr ⟨(hw _ (List.mem_of_getElem? (i := 3) rfl)), (hw _ (List.mem_of_getElem? (i := 19) rfl))⟩)
  have S_w_DATE := Sta.start ev_w_DATE (Or.inr ⟨(hw _ (List.mem_of_getElem? (i := 3) rfl)), (hw _ (List.mem_of_getElem? (i := 21) rfl))⟩)
  have S_w_TIMESTAMP := Sta.start ev_w_TIMESTAMP (Or.inr ⟨(hw _ (List.mem_of_getElem? (i := 3) rfl)), (hw _ (List.mem_of_getElem? (i := 23) rfl))⟩)
  have S_w_UUID := Sta.start ev_w_UUID (Or.inr ⟨(hw _ (List.mem_of_getElem? (i := 3) rfl)), (hw _ (List.mem_of_getElem? (i := 25) rfl))⟩)
  have S_w_CLOB := Sta.start ev_w_CLOB (Or.inr ⟨(hw _ (List.mem_of_getElem? (i := 3) rfl)), (hw _ (List.mem_of_getElem? (i := 27) rfl))⟩)
  have S_w_NONE := Sta.start ev_w_NONE (Or.inr ⟨(hw _ (List.mem_of_getElem? (i := 36) rfl)), (hw _ (List.mem_of_getElem? (i := 37) rfl))⟩)
  have S_w_PRECISION := Sta.start ev_w_PRECISION (Or.inr ⟨(hw _ (List.mem_of_getElem? (i := 36) rfl)), (hw _ (List.mem_of_getElem? (i := 39) rfl))⟩)
  have S_w_LENGTH := Sta.start ev_w_LENGTH (Or.inr ⟨(hw _ (List.mem_of_getElem? (i := 36) rfl)), (hw _ (List.mem_of_getElem? (i := 46) rfl))⟩)
  have F_w_INTEGER_size := own_fld_ref ev_w_INTEGER ev_w_NONE g29
  have F_w_NONE_ordinal := own_fld_int ev_w_NONE g33
  have F_w_PRECISION_ordinal := own_fld_int ev_w_PRECISION g35
  have F_w_BOOLEAN_size := own_fld_ref ev_w_BOOLEAN ev_w_NONE g37
  have F_w_SMALLINT_size := own_fld_ref ev_w_SMALLINT ev_w_NONE g39
  have F_w_DECIMAL_size := own_fld_ref ev_w_DECIMAL ev_w_PRECISION g41
  have F_w_LENGTH_ordinal := own_fld_int ev_w_LENGTH g45
  have F_w_CLOB_size := own_fld_ref ev_w_CLOB ev_w_NONE g47
  have F_w_DOUBLE_size := own_fld_ref ev_w_DOUBLE ev_w_NONE g49
  have F_w_DATE_size := own_fld_ref ev_w_DATE ev_w_NONE g51
  have F_w_BIGINT_size := own_fld_ref ev_w_BIGINT ev_w_NONE g53
  have F_w_UUID_size := own_fld_ref ev_w_UUID ev_w_NONE g55
  have F_w_TIMESTAMP_size := own_fld_ref ev_w_TIMESTAMP ev_w_NONE g57
  have F_w_VARCHAR_size := own_fld_ref ev_w_VARCHAR ev_w_LENGTH g59
  have F_w_REAL_size := own_fld_ref ev_w_REAL ev_w_NONE g60
  obtain ⟨n, o, h1, h2, h3, _, L, rfl, ⟨rfl, N⟩, hq⟩ := own_rm0 l s _ hw tables_1 i0 w_INTEGER w_BIGINT w_SMALLINT w_BOOLEAN w_DOUBLE w_REAL w_VARCHAR w_DECIMAL w_DATE w_TIMESTAMP w_UUID w_CLOB w_NONE w_LENGTH w_PRECISION s.heap s.heap.size (Nat.le_refl _) S_w_INTEGER S_w_BIGINT S_w_SMALLINT S_w_BOOLEAN S_w_DOUBLE S_w_REAL S_w_VARCHAR S_w_DECIMAL S_w_DATE S_w_TIMESTAMP S_w_UUID S_w_CLOB E_w_INTEGER E_w_BIGINT E_w_SMALLINT E_w_BOOLEAN E_w_DOUBLE E_w_REAL E_w_VARCHAR E_w_DECIMAL E_w_DATE E_w_TIMESTAMP E_w_UUID E_w_CLOB F_w_INTEGER_size F_w_BIGINT_size F_w_SMALLINT_size F_w_BOOLEAN_size F_w_DOUBLE_size F_w_REAL_size F_w_VARCHAR_size F_w_DECIMAL_size F_w_DATE_size F_w_TIMESTAMP_size F_w_UUID_size F_w_CLOB_size S_w_LENGTH S_w_PRECISION (Fld.ne F_w_NONE_ordinal F_w_LENGTH_ordinal (by decide)) (Fld.ne F_w_NONE_ordinal F_w_PRECISION_ordinal (by decide)) (Fld.ne F_w_LENGTH_ordinal F_w_PRECISION_ordinal (by decide)) (Fld.ne F_w_PRECISION_ordinal F_w_LENGTH_ordinal (by decide)) p e ha hc hk s m _ below hf ((Spec.applies_iff_loose hf).mp happ).1 ⟨rfl, State.Warmed39.refl s, rfl⟩ trivial
  refine ⟨n, _, h1, h2, h3, hpost _ _ _ _ _ _ ⟨Cond.after_iff.mpr rfl, Cond.after_iff.mpr (eq_i res_at (Term.int_eval (1)) rfl), trivial⟩ ⟨hq.1, hq.2.1, (hq.2.2.sift fun y hy => Or.inr (N y hy)).mono (by decide) (by decide)⟩⟩
theorem main_1_1 : Claimed_1_1 := comes_1 fun _ _ _ _ _ _ h hF => ⟨h.1, hF⟩
theorem main_1_2 : Claimed_1_2 := comes_1 fun _ _ _ _ _ _ h hF => ⟨h.2.1, hF⟩
end Jvm.Pilot.@@N@@
namespace Jvm.Pilot.@@N@@
open Jvm Jvm.ClassFile Sem Op Lib Jvm.Free Jvm.Stand Jvm.Pilot.@@N@@.Jvm.D
/-! MADE BY PROGRAM (witnessworld.py) out of the Statement's table words and the real class files: 14 classes; the members and pool entries that the words name. The judged class is class 1, her method 1. -/
namespace start1
open Jvm.ClassFile
def u (s : String) : CpInfo := .utf8 (stringToUtf16 s)
/-- a pool by its gaps: so many unusable entries, then the entry; so many at the end -/
def gap : Nat → List CpInfo → List CpInfo
  | 0, r => r
  | n + 1, r => .unusable :: gap n r
def poolList (es : List (Nat × CpInfo)) (last : Nat) : List CpInfo := es.foldr (fun e r => gap e.1 (e.2 :: r)) (gap last [])
def pool (es : List (Nat × CpInfo)) (last : Nat) : Array CpInfo := ⟨poolList es last⟩
def fileOf (pool : Array CpInfo) (this : Nat) (attrs : Array Attribute := #[]) (ms : Array MethodInfo := #[]) (fl : Nat := 33) (sup : Nat := 0) (ifs : Array Nat := #[]) (fds : Array FieldInfo := #[]) : ClassFile where
  minorVersion := 0
  majorVersion := 65
  constantPool := pool
  accessFlags := fl
  thisClass := this
  superClass := sup
  interfaces := ifs
  fields := fds
  methods := ms
  attributes := attrs
def plain (name : String) (sup : Option ClassId) : Class where
  name := name
  kind := .ordinary
  loader := none
  accessFlags := 33
  super := sup
  interfaces := #[]
  cf := none
  fields := #[]
  methods := #[]
  instanceTypes := #[]
  staticTypes := #[]
  resolved := #[]
  callSites := []
  init := .initialized
  statics := none
  mirror := none

def pool0 : Array CpInfo := pool [(5, u "<init>"), (0, u "()V"), (1, .class_ 10), (1, u "java/lang/Object")] 113

def k0m0 : Method := { name := "<init>", desc := "()V", sig := { parameters := [], returnType := none }, accessFlags := 1, code := none }
/-- java/lang/Object -/
def k0 : Class := { plain "java/lang/Object" none with
  accessFlags := 33
  interfaces := #[]
  cf := some (fileOf pool0 8 #[] #[{ accessFlags := 1, nameIndex := 5, descriptorIndex := 6, attributes := #[] }] 33 0 #[] #[])
  fields := #[]
  methods := #[k0m0]
  instanceTypes := #[]
  staticTypes := #[]
  resolved := Array.replicate 124 none
  statics := none }

def pool1 : Array CpInfo := pool [(2, .class_ 4), (1, u "java/lang/Object"), (0, u "<init>"), (0, u "()V"), (0, .class_ 8), (0, u "com/example/cascade_persist/cascadepersist/ColumnType"), (0, .fieldref 7 10), (0, .nameAndType 11 12), (0, u "INTEGER"), (0, u "Lcom/example/cascade_persist/cascadepersist/ColumnType;"), (0, .fieldref 7 14), (0, .nameAndType 15 12), (0, u "BIGINT"), (0, .fieldref 7 17), (0, .nameAndType 18 12), (0, u "SMALLINT"), (0, .fieldref 7 20), (0, .nameAndType 21 12), (0, u "BOOLEAN"), (0, .fieldref 7 23), (0, .nameAndType 24 12), (0, u "DOUBLE"), (0, .fieldref 7 26), (0, .nameAndType 27 12), (0, u "REAL"), (0, .fieldref 7 29), (0, .nameAndType 30 12), (0, u "VARCHAR"), (0, .fieldref 7 32), (0, .nameAndType 33 12), (0, u "DECIMAL"), (0, .fieldref 7 35), (0, .nameAndType 36 12), (0, u "DATE"), (0, .fieldref 7 38), (0, .nameAndType 39 12), (0, u "TIMESTAMP"), (0, .fieldref 7 41), (0, .nameAndType 42 12), (0, u "UUID"), (0, .fieldref 7 44), (0, .nameAndType 45 12), (0, u "CLOB"), (0, .integer 2147483647), (0, .methodref 7 48), (0, .nameAndType 49 50), (0, u "takesPrecision"), (0, u "()Z"), (0, .methodref 7 52), (0, .nameAndType 53 50), (0, u "takesLength"), (0, .class_ 55), (0, u "com/example/cascade_persist/cascadepersist/ColumnTypeTakesPrecisionPinLaw"), (2, u "law"), (0, u "(I)Z")] 5

def k1m0 : Method := { name := "<init>", desc := "()V", sig := { parameters := [], returnType := none }, accessFlags := 1, code := none }
def k1c1 : Code := { maxStack := 4, maxLocals := 6, code := code, exceptionTable := #[], attributes := #[] }
def k1m1 : Method := { name := "law", desc := "(I)Z", sig := { parameters := [.int], returnType := some .boolean }, accessFlags := 9, code := some k1c1 }
/-- com/example/cascade_persist/cascadepersist/ColumnTypeTakesPrecisionPinLaw -/
def k1 : Class := { plain "com/example/cascade_persist/cascadepersist/ColumnTypeTakesPrecisionPinLaw" (some 0) with
  accessFlags := 49
  interfaces := #[]
  cf := some (fileOf pool1 54 #[] #[{ accessFlags := 1, nameIndex := 5, descriptorIndex := 6, attributes := #[] }, { accessFlags := 9, nameIndex := 58, descriptorIndex := 59, attributes := #[] }] 49 2 #[] #[])
  fields := #[]
  methods := #[k1m0, k1m1]
  instanceTypes := #[]
  staticTypes := #[]
  resolved := Array.replicate 65 none
  statics := none }

def pool2 : Array CpInfo := pool [(1, .class_ 2), (0, u "java/lang/constant/Constable"), (0, .class_ 4), (0, u "java/lang/Object")] 6

/-- java/lang/constant/Constable -/
def k2 : Class := { plain "java/lang/constant/Constable" (some 0) with
  accessFlags := 1537
  interfaces := #[]
  cf := some (fileOf pool2 1 #[] #[] 1537 3 #[] #[])
  fields := #[]
  methods := #[]
  instanceTypes := #[]
  staticTypes := #[]
  resolved := Array.replicate 11 none
  statics := none }

def pool3 : Array CpInfo := pool [(1, .class_ 2), (0, u "java/lang/Comparable"), (0, .class_ 4), (0, u "java/lang/Object")] 7

/-- java/lang/Comparable -/
def k3 : Class := { plain "java/lang/Comparable" (some 0) with
  accessFlags := 1537
  interfaces := #[]
  cf := some (fileOf pool3 1 #[] #[] 1537 3 #[] #[])
  fields := #[]
  methods := #[]
  instanceTypes := #[]
  staticTypes := #[]
  resolved := Array.replicate 12 none
  statics := none }

def pool4 : Array CpInfo := pool [(1, .class_ 2), (0, u "java/io/Serializable"), (0, .class_ 4), (0, u "java/lang/Object")] 2

/-- java/io/Serializable -/
def k4 : Class := { plain "java/io/Serializable" (some 0) with
  accessFlags := 1537
  interfaces := #[]
  cf := some (fileOf pool4 1 #[] #[] 1537 3 #[] #[])
  fields := #[]
  methods := #[]
  instanceTypes := #[]
  staticTypes := #[]
  resolved := Array.replicate 7 none
  statics := none }

def pool5 : Array CpInfo := pool [(2, .class_ 4), (1, u "java/lang/Enum"), (0, u "name"), (0, u "Ljava/lang/String;"), (2, u "ordinal"), (0, u "I"), (1, .class_ 14), (1, u "java/lang/Object"), (4, u "hash"), (86, .class_ 108), (1, u "java/lang/Enum$EnumDesc"), (2, .class_ 112), (0, u "java/lang/constant/Constable"), (0, .class_ 114), (0, u "java/lang/Comparable"), (0, .class_ 116), (0, u "java/io/Serializable")] 87

/-- java/lang/Enum -/
def k5 : Class := { plain "java/lang/Enum" (some 0) with
  accessFlags := 1057
  interfaces := #[2, 3, 4]
  cf := some (fileOf pool5 2 #[.nestMembers #[106]] #[] 1057 12 #[111, 113, 115] #[{ accessFlags := 18, nameIndex := 5, descriptorIndex := 6, attributes := #[] }, { accessFlags := 18, nameIndex := 9, descriptorIndex := 10, attributes := #[] }, { accessFlags := 2, nameIndex := 19, descriptorIndex := 10, attributes := #[] }])
  fields := #[{ name := "name", type := (.object "java/lang/String"), accessFlags := 18, slot := 0, constantValue := 0 }, { name := "ordinal", type := .int, accessFlags := 18, slot := 1, constantValue := 0 }, { name := "hash", type := .int, accessFlags := 2, slot := 2, constantValue := 0 }]
  methods := #[]
  instanceTypes := #[(.object "java/lang/String"), .int, .int]
  staticTypes := #[]
  resolved := Array.replicate 204 none
  statics := none }

def pool6 : Array CpInfo := pool [(1, .class_ 2), (0, u "com/example/cascade_persist/cascadepersist/ColumnType"), (2, u "INTEGER"), (0, u "Lcom/example/cascade_persist/cascadepersist/ColumnType;"), (2, u "BIGINT"), (2, u "SMALLINT"), (2, u "BOOLEAN"), (2, u "DOUBLE"), (2, u "REAL"), (2, u "VARCHAR"), (2, u "DECIMAL"), (2, u "DATE"), (2, u "TIMESTAMP"), (2, u "UUID"), (2, u "CLOB"), (2, u "$VALUES"), (0, u "[Lcom/example/cascade_persist/cascadepersist/ColumnType;"), (6, .class_ 52), (1, u "java/lang/Enum"), (8, u "javaType"), (0, u "Ljava/lang/Class;"), (2, u "primitiveType"), (0, .fieldref 1 67), (0, .nameAndType 68 69), (0, u "size"), (0, u "Lcom/example/cascade_persist/cascadepersist/ColumnType$Size;"), (2, u "jdbcType"), (0, u "I"), (105, .fieldref 180 181), (0, .class_ 182), (0, .nameAndType 183 69), (0, u "com/example/cascade_persist/cascadepersist/ColumnType$Size"), (0, u "LENGTH"), (0, .fieldref 180 185), (0, .nameAndType 186 69), (0, u "PRECISION"), (76, u "takesLength"), (0, u "()Z"), (0, u "takesPrecision")] 59

def k6c0 : Code := { maxStack := 2, maxLocals := 1, code := prog_5_method_8_code, exceptionTable := #[], attributes := #[] }
def k6m0 : Method := { name := "takesLength", desc := "()Z", sig := { parameters := [], returnType := some .boolean }, accessFlags := 0, code := some k6c0 }
def k6c1 : Code := { maxStack := 2, maxLocals := 1, code := prog_5_method_9_code, exceptionTable := #[], attributes := #[] }
def k6m1 : Method := { name := "takesPrecision", desc := "()Z", sig := { parameters := [], returnType := some .boolean }, accessFlags := 0, code := some k6c1 }
/-- com/example/cascade_persist/cascadepersist/ColumnType -/
def k6 : Class := { plain "com/example/cascade_persist/cascadepersist/ColumnType" (some 5) with
  accessFlags := 16432
  interfaces := #[]
  cf := some (fileOf pool6 1 #[.nestMembers #[180]] #[{ accessFlags := 0, nameIndex := 263, descriptorIndex := 264, attributes := #[] }, { accessFlags := 0, nameIndex := 265, descriptorIndex := 264, attributes := #[] }] 16432 50 #[] #[{ accessFlags := 16409, nameIndex := 5, descriptorIndex := 6, attributes := #[] }, { accessFlags := 16409, nameIndex := 9, descriptorIndex := 6, attributes := #[] }, { accessFlags := 16409, nameIndex := 12, descriptorIndex := 6, attributes := #[] }, { accessFlags := 16409, nameIndex := 15, descriptorIndex := 6, attributes := #[] }, { accessFlags := 16409, nameIndex := 18, descriptorIndex := 6, attributes := #[] }, { accessFlags := 16409, nameIndex := 21, descriptorIndex := 6, attributes := #[] }, { accessFlags := 16409, nameIndex := 24, descriptorIndex := 6, attributes := #[] }, { accessFlags := 16409, nameIndex := 27, descriptorIndex := 6, attributes := #[] }, { accessFlags := 16409, nameIndex := 30, descriptorIndex := 6, attributes := #[] }, { accessFlags := 16409, nameIndex := 33, descriptorIndex := 6, attributes := #[] }, { accessFlags := 16409, nameIndex := 36, descriptorIndex := 6, attributes := #[] }, { accessFlags := 16409, nameIndex := 39, descriptorIndex := 6, attributes := #[] }, { accessFlags := 18, nameIndex := 61, descriptorIndex := 62, attributes := #[] }, { accessFlags := 18, nameIndex := 65, descriptorIndex := 62, attributes := #[] }, { accessFlags := 18, nameIndex := 68, descriptorIndex := 69, attributes := #[] }, { accessFlags := 18, nameIndex := 72, descriptorIndex := 73, attributes := #[] }, { accessFlags := 4122, nameIndex := 42, descriptorIndex := 43, attributes := #[] }])
  fields := #[{ name := "INTEGER", type := (.object "com/example/cascade_persist/cascadepersist/ColumnType"), accessFlags := 16409, slot := 0, constantValue := 0 }, { name := "BIGINT", type := (.object "com/example/cascade_persist/cascadepersist/ColumnType"), accessFlags := 16409, slot := 1, constantValue := 0 }, { name := "SMALLINT", type := (.object "com/example/cascade_persist/cascadepersist/ColumnType"), accessFlags := 16409, slot := 2, constantValue := 0 }, { name := "BOOLEAN", type := (.object "com/example/cascade_persist/cascadepersist/ColumnType"), accessFlags := 16409, slot := 3, constantValue := 0 }, { name := "DOUBLE", type := (.object "com/example/cascade_persist/cascadepersist/ColumnType"), accessFlags := 16409, slot := 4, constantValue := 0 }, { name := "REAL", type := (.object "com/example/cascade_persist/cascadepersist/ColumnType"), accessFlags := 16409, slot := 5, constantValue := 0 }, { name := "VARCHAR", type := (.object "com/example/cascade_persist/cascadepersist/ColumnType"), accessFlags := 16409, slot := 6, constantValue := 0 }, { name := "DECIMAL", type := (.object "com/example/cascade_persist/cascadepersist/ColumnType"), accessFlags := 16409, slot := 7, constantValue := 0 }, { name := "DATE", type := (.object "com/example/cascade_persist/cascadepersist/ColumnType"), accessFlags := 16409, slot := 8, constantValue := 0 }, { name := "TIMESTAMP", type := (.object "com/example/cascade_persist/cascadepersist/ColumnType"), accessFlags := 16409, slot := 9, constantValue := 0 }, { name := "UUID", type := (.object "com/example/cascade_persist/cascadepersist/ColumnType"), accessFlags := 16409, slot := 10, constantValue := 0 }, { name := "CLOB", type := (.object "com/example/cascade_persist/cascadepersist/ColumnType"), accessFlags := 16409, slot := 11, constantValue := 0 }, { name := "javaType", type := (.object "java/lang/Class"), accessFlags := 18, slot := 3, constantValue := 0 }, { name := "primitiveType", type := (.object "java/lang/Class"), accessFlags := 18, slot := 4, constantValue := 0 }, { name := "size", type := (.object "com/example/cascade_persist/cascadepersist/ColumnType$Size"), accessFlags := 18, slot := 5, constantValue := 0 }, { name := "jdbcType", type := .int, accessFlags := 18, slot := 6, constantValue := 0 }, { name := "$VALUES", type := (.array (.object "com/example/cascade_persist/cascadepersist/ColumnType")), accessFlags := 4122, slot := 12, constantValue := 0 }]
  methods := #[k6m0, k6m1]
  instanceTypes := #[(.object "java/lang/String"), .int, .int, (.object "java/lang/Class"), (.object "java/lang/Class"), (.object "com/example/cascade_persist/cascadepersist/ColumnType$Size"), .int]
  staticTypes := #[(.object "com/example/cascade_persist/cascadepersist/ColumnType"), (.object "com/example/cascade_persist/cascadepersist/ColumnType"), (.object "com/example/cascade_persist/cascadepersist/ColumnType"), (.object "com/example/cascade_persist/cascadepersist/ColumnType"), (.object "com/example/cascade_persist/cascadepersist/ColumnType"), (.object "com/example/cascade_persist/cascadepersist/ColumnType"), (.object "com/example/cascade_persist/cascadepersist/ColumnType"), (.object "com/example/cascade_persist/cascadepersist/ColumnType"), (.object "com/example/cascade_persist/cascadepersist/ColumnType"), (.object "com/example/cascade_persist/cascadepersist/ColumnType"), (.object "com/example/cascade_persist/cascadepersist/ColumnType"), (.object "com/example/cascade_persist/cascadepersist/ColumnType"), (.array (.object "com/example/cascade_persist/cascadepersist/ColumnType"))]
  resolved := Array.replicate 325 none
  statics := some 0 }

def pool7 : Array CpInfo := pool [(1, .class_ 2), (0, u "com/example/cascade_persist/cascadepersist/ColumnType$Size"), (2, u "NONE"), (0, u "Lcom/example/cascade_persist/cascadepersist/ColumnType$Size;"), (2, u "LENGTH"), (2, u "PRECISION"), (2, u "$VALUES"), (0, u "[Lcom/example/cascade_persist/cascadepersist/ColumnType$Size;"), (6, .class_ 25), (1, u "java/lang/Enum"), (26, .class_ 53), (0, u "com/example/cascade_persist/cascadepersist/ColumnType")] 2

/-- com/example/cascade_persist/cascadepersist/ColumnType$Size -/
def k7 : Class := { plain "com/example/cascade_persist/cascadepersist/ColumnType$Size" (some 5) with
  accessFlags := 16432
  interfaces := #[]
  cf := some (fileOf pool7 1 #[.nestHost 52] #[] 16432 23 #[] #[{ accessFlags := 16409, nameIndex := 5, descriptorIndex := 6, attributes := #[] }, { accessFlags := 16409, nameIndex := 9, descriptorIndex := 6, attributes := #[] }, { accessFlags := 16409, nameIndex := 12, descriptorIndex := 6, attributes := #[] }, { accessFlags := 4122, nameIndex := 15, descriptorIndex := 16, attributes := #[] }])
  fields := #[{ name := "NONE", type := (.object "com/example/cascade_persist/cascadepersist/ColumnType$Size"), accessFlags := 16409, slot := 0, constantValue := 0 }, { name := "LENGTH", type := (.object "com/example/cascade_persist/cascadepersist/ColumnType$Size"), accessFlags := 16409, slot := 1, constantValue := 0 }, { name := "PRECISION", type := (.object "com/example/cascade_persist/cascadepersist/ColumnType$Size"), accessFlags := 16409, slot := 2, constantValue := 0 }, { name := "$VALUES", type := (.array (.object "com/example/cascade_persist/cascadepersist/ColumnType$Size")), accessFlags := 4122, slot := 3, constantValue := 0 }]
  methods := #[]
  instanceTypes := #[(.object "java/lang/String"), .int, .int]
  staticTypes := #[(.object "com/example/cascade_persist/cascadepersist/ColumnType$Size"), (.object "com/example/cascade_persist/cascadepersist/ColumnType$Size"), (.object "com/example/cascade_persist/cascadepersist/ColumnType$Size"), (.array (.object "com/example/cascade_persist/cascadepersist/ColumnType$Size"))]
  resolved := Array.replicate 56 none
  statics := some 1 }

def pool8 : Array CpInfo := pool [(1, u "java/lang/Cloneable"), (0, .class_ 1), (0, u "java/lang/Object"), (0, .class_ 3)] 3

/-- java/lang/Cloneable -/
def k8 : Class := { plain "java/lang/Cloneable" (some 0) with
  accessFlags := 1537
  interfaces := #[]
  cf := some (fileOf pool8 2 #[] #[] 1537 4 #[] #[])
  fields := #[]
  methods := #[]
  instanceTypes := #[]
  staticTypes := #[]
  resolved := Array.replicate 8 none
  statics := none }

/-- the primitive byte -/
def k9 : Class := { plain "byte" none with kind := .primitive 'B', accessFlags := 0x411 }
/-- [B -/
def k10 : Class := { plain "[B" (some 0) with kind := .array 9 .byte, interfaces := #[8, 4], accessFlags := 1041 }

/-- the primitive int -/
def k11 : Class := { plain "int" none with kind := .primitive 'I', accessFlags := 0x411 }
/-- [I -/
def k12 : Class := { plain "[I" (some 0) with kind := .array 11 .int, interfaces := #[8, 4], accessFlags := 1041 }

/-- [Lcom/example/cascade_persist/cascadepersist/ColumnType; -/
def k13 : Class := { plain "[Lcom/example/cascade_persist/cascadepersist/ColumnType;" (some 0) with kind := .array 6 (.object "com/example/cascade_persist/cascadepersist/ColumnType"), interfaces := #[8, 4], accessFlags := 1041 }

def heap : Heap := #[{ cls := 6, slots := #[.ref 2, .ref 3, .ref 4, .ref 5, .ref 6, .ref 7, .ref 8, .ref 9, .ref 10, .ref 11, .ref 12, .ref 13, .null], vm := .statics 6 },
  { cls := 7, slots := #[.ref 14, .ref 16, .ref 15, .null], vm := .statics 7 },
  { cls := 6, slots := #[.null, .int 0, .int 0, .null, .null, .ref 14, .int 0], vm := .none },
  { cls := 6, slots := #[.null, .int 0, .int 0, .null, .null, .ref 14, .int 0], vm := .none },
  { cls := 6, slots := #[.null, .int 0, .int 0, .null, .null, .ref 14, .int 0], vm := .none },
  { cls := 6, slots := #[.null, .int 0, .int 0, .null, .null, .ref 14, .int 0], vm := .none },
  { cls := 6, slots := #[.null, .int 0, .int 0, .null, .null, .ref 14, .int 0], vm := .none },
  { cls := 6, slots := #[.null, .int 0, .int 0, .null, .null, .ref 14, .int 0], vm := .none },
  { cls := 6, slots := #[.null, .int 0, .int 0, .null, .null, .ref 16, .int 0], vm := .none },
  { cls := 6, slots := #[.null, .int 0, .int 0, .null, .null, .ref 15, .int 0], vm := .none },
  { cls := 6, slots := #[.null, .int 0, .int 0, .null, .null, .ref 14, .int 0], vm := .none },
  { cls := 6, slots := #[.null, .int 0, .int 0, .null, .null, .ref 14, .int 0], vm := .none },
  { cls := 6, slots := #[.null, .int 0, .int 0, .null, .null, .ref 14, .int 0], vm := .none },
  { cls := 6, slots := #[.null, .int 0, .int 0, .null, .null, .ref 14, .int 0], vm := .none },
  { cls := 7, slots := #[.null, .int 0, .int 0], vm := .none },
  { cls := 7, slots := #[.null, .int 2, .int 0], vm := .none },
  { cls := 7, slots := #[.null, .int 1, .int 0], vm := .none }]
def classes : Array Class := #[k0, k1, k2, k3, k4, k5, k6, k7, k8, k9, k10, k11, k12, k13]
def interned : List (Array UInt16 × Addr) := []
def slotsUsed : Nat := 110
def theMethod : MethodId := ⟨1, 1⟩
def args0 : Array Value := #[.int 5]
def aboutOver (below : List Frame) : State where
  vm := { classes := classes, interned := interned.toArray }
  heap := heap
  slotsUsed := slotsUsed
  threads := #[{ frames := .invoking theMethod args0 :: below }]
def below0 : List Frame := [.native { method := ⟨0, 0⟩, args := #[] }]
def about1 : State := aboutOver below0
def p0 : Program := .bare "" "" ""
def e0 : Env := launch0.env 0 0 0
theorem w_frames : about1.frames = Frame.invoking theMethod args0 :: below0 := rfl
set_option maxRecDepth 65536 in
theorem w_args : argsFit about1.vm theMethod args0 = true := by decide +kernel
set_option maxRecDepth 65536 in
theorem w_heap : heapFits about1 = true := by decide +kernel
set_option maxRecDepth 65536 in
theorem w_runnable : about1.curStatus? = some .runnable := by decide +kernel
set_option maxRecDepth 65536 in
theorem w_alone : about1.alone = true := by decide +kernel
set_option maxRecDepth 65536 in
theorem w_named : about1.methodNamed? x = some theMethod := by decide +kernel
set_option maxRecDepth 65536 in
theorem w_hears : about1.hears theMethod below0 = true := by decide +kernel
set_option maxRecDepth 65536 in
theorem w_ripe : about1.ripe theMethod args0 below0 = true := by decide +kernel
theorem w_running : about1.status = .running := rfl
set_option maxRecDepth 65536 in
theorem w_room : about1.hasRoom e0.platform room_1 = true :=
  launch0.hasRoom_least _ room_1 (by decide +kernel) (by decide +kernel) (by decide +kernel) (by decide +kernel) (by decide +kernel) (by decide +kernel)
theorem allAtoms_all (ts : List Jvm.Cond) (a : Array Jvm.Value) (st : Jvm.State) : (allAtoms ts).before a st = ts.all (fun c => c.before a st) := by
  induction ts with
  | nil => rfl
  | cons c t ih =>
    show (Jvm.Cond.and c (allAtoms t)).before a st = _
    rw [Jvm.Cond.before_and, ih, List.all_cons]
def words1 : List Jvm.Cond := Jvm.Cond.code x code maxLocals ret :: tables_1
/-- a 'code' word, met by the world's own term for the bytes: nothing is compared byte by byte -/
theorem code_word {y : MethodName} {bytes : ByteArray} {mx : Nat} {rt : Option FieldType} {a : Array Value} {s : State} {m : MethodId} {meth : Method} {c : Code} (h1 : s.methodNamed? y = some m) (h2 : s.vm.method? m = some meth) (h3 : meth.code = some c) (h4 : c.code = bytes)
    (h5 : (c.maxLocals == mx && c.exceptionTable.isEmpty && decide (c.maxStack ≤ mostOperands) && decide (meth.sig.returnType = rt) && !meth.locks && decide (parseMethodDescriptor y.desc = some meth.sig)) = true) : (Jvm.Cond.code y bytes mx rt).before a s = true := by
  simp only [Bool.and_eq_true, beq_iff_eq, Bool.not_eq_true', decide_eq_true_eq] at h5
  obtain ⟨⟨⟨⟨⟨g1, g2⟩, g3⟩, g4⟩, g5⟩, g6⟩ := h5
  simp [Cond.before, Cond.holds, Cond.value, h1, h2, h3, h4, g1, g2, g3, g4, g5, g6]
def isCode : Jvm.Cond → Bool
  | .code _ _ _ _ => true
  | _ => false
theorem all_split {L : List Jvm.Cond} {P : Jvm.Cond → Bool} (h1 : L.all (fun c => isCode c || P c) = true) (h2 : ∀ c ∈ L.filter isCode, P c = true) : L.all P = true := by
  refine List.all_eq_true.mpr fun c hc => ?_
  have h := List.all_eq_true.mp h1 c hc
  rcases Bool.eq_false_or_eq_true (isCode c) with hi | hi
  · exact h2 c (List.mem_filter.mpr ⟨hc, hi⟩)
  · simpa [hi] using h
set_option maxRecDepth 65536 in
theorem w_c0 : (Jvm.Cond.code x code maxLocals ret).before args0 about1 = true := code_word (m := ⟨1, 1⟩) (meth := k1m1) (c := k1c1) (by decide +kernel) rfl rfl rfl (by decide +kernel)
set_option maxRecDepth 65536 in
theorem w_c1 : (Jvm.Cond.code ({ cls := "com/example/cascade_persist/cascadepersist/ColumnType", name := "takesPrecision", desc := "()Z" } : Jvm.MethodName) prog_5_method_9_code (1 : Nat) (Option.some Jvm.ClassFile.FieldType.boolean)).before args0 about1 = true := code_word (m := ⟨6, 1⟩) (meth := k6m1) (c := k6c1) (by decide +kernel) rfl rfl rfl (by decide +kernel)
set_option maxRecDepth 65536 in
theorem w_c2 : (Jvm.Cond.code ({ cls := "com/example/cascade_persist/cascadepersist/ColumnType", name := "takesLength", desc := "()Z" } : Jvm.MethodName) prog_5_method_8_code (1 : Nat) (Option.some Jvm.ClassFile.FieldType.boolean)).before args0 about1 = true := code_word (m := ⟨6, 0⟩) (meth := k6m0) (c := k6c0) (by decide +kernel) rfl rfl rfl (by decide +kernel)
def codes1 : List Jvm.Cond := [Jvm.Cond.code x code maxLocals ret, Jvm.Cond.code ({ cls := "com/example/cascade_persist/cascadepersist/ColumnType", name := "takesPrecision", desc := "()Z" } : Jvm.MethodName) prog_5_method_9_code (1 : Nat) (Option.some Jvm.ClassFile.FieldType.boolean), Jvm.Cond.code ({ cls := "com/example/cascade_persist/cascadepersist/ColumnType", name := "takesLength", desc := "()Z" } : Jvm.MethodName) prog_5_method_8_code (1 : Nat) (Option.some Jvm.ClassFile.FieldType.boolean)]
set_option maxRecDepth 65536 in
theorem codes_eq : words1.filter isCode = codes1 := rfl
theorem w_codes : ∀ c ∈ words1.filter isCode, c.before args0 about1 = true := by
  rw [codes_eq]
  intro c hc
  simp only [codes1, List.mem_cons, List.not_mem_nil, or_false] at hc
  rcases hc with rfl | rfl | rfl
  · exact w_c0
  · exact w_c1
  · exact w_c2
set_option maxRecDepth 65536 in
theorem w_t1 : (words1.take 24).all (fun c => isCode c || c.before args0 about1) = true := by decide +kernel
set_option maxRecDepth 65536 in
theorem w_t2 : (words1.drop 24).all (fun c => isCode c || c.before args0 about1) = true := by decide +kernel
theorem w_tables : (allAtoms (Jvm.Cond.code x code maxLocals ret :: tables_1)).before args0 about1 = true := by
  rw [allAtoms_all]
  show words1.all (fun c => c.before args0 about1) = true
  refine all_split ?_ w_codes
  rw [← List.take_append_drop 24 words1, List.all_append, w_t1, w_t2]
  rfl
set_option maxRecDepth 65536 in
theorem w_case : (Jvm.Cond.and given_1 narrow_1).before args0 about1 = true := by decide +kernel
theorem w_applies : (headSpec (Jvm.Cond.code x code maxLocals ret :: tables_1) room_1).applies x e0.platform about1 = true :=
  (Spec.applies_iff w_frames).mpr ⟨w_running, w_runnable, w_alone, w_named, w_hears, w_ripe, w_room, w_tables⟩
theorem atStart : AtStart classFile x code maxLocals ret World_1 tables_1 room_1 Calls_1 rest_1 Pre_1 launch0 p0 e0 about1 theMethod args0 below0 :=
  ⟨lists_1, trivial, launch0.admits_env _ _ _, launch0.least_env, fairChoices_fair.cas, fairChoices_fair.clock, w_frames, w_args, w_heap, w_applies, trivial, trivial, w_case⟩
end start1
theorem witness_1 : WitnessClaimed_1 := ⟨start1.p0, start1.e0, start1.about1, start1.theMethod, start1.args0, start1.below0, start1.atStart⟩
end Jvm.Pilot.@@N@@
