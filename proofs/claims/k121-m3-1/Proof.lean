import JvmDerived
import JvmDerived.Pilot.@@N@@Statement
import JvmDerived.Pilot.@@N@@Code
set_option linter.unusedVariables false
set_option linter.unusedSimpArgs false
namespace Jvm.RoadKit
open Sem ClassFile Op Lib Jvm.Stand Jvm.Free Jvm.LawKit
section New
variable {p : Program} {l : Launch} {e : Env} {R : Room} {s : State} {m : MethodId} {args : Array Value} {below : List Frame} {meth : Method} {c : Code} {T : State} {locs : List Loc} {cells slots : Nat}
theorem retI (X : Stand p l e R s m args below meth c T locs cells slots) (hx : p.tables.exec = Jvm.exec) {pc : Nat} {Ls : Array Slot} {z : Int32} {rest : List Value} (hret : meth.sig.returnType = some .int) (hd : decode c.code pc = .ok (.ireturn, 1)) {fs : List Frame}
    (hl : ∀ (f : JFrame) (acts : List Action), f.method = m → f.locked = none → f.entered = [] → (doReturn e (T.setTop f) acts (some (.int z))).1 = T.setFrames fs) : Steps p.tables e below (T.setTop (mkF m pc Ls (.int z :: rest))) (T.setFrames fs) := by
  have hm' : T.vm.method? m = some meth := X.method'
  have hn : narrow .int (.int z) = .int z := rfl
  show Steps p.tables e below (T.setTop { method := m, pc := pc, locals := Ls, stack := _ :: rest, locked := none }) _
  jvm_step X.here [X.here.top, hx, hd, hm', hret, hn]
  first | (intro acts; rw [hl _ acts rfl rfl rfl]) | rw [hl _ _ rfl rfl rfl]
  exact Steps.refl _
end New
end Jvm.RoadKit
namespace Jvm.Pilot.@@N@@
open Jvm Jvm.ClassFile Sem Op Lib Jvm.Free Jvm.Stand Jvm.LawKit Jvm.RoadKit Bundle Jvm.Pilot.@@N@@.Jvm.D

theorem own_and_bd (x m : Int32) (hm : 0 ≤ m.toInt) : 0 ≤ (x &&& m).toInt ∧ (x &&& m).toInt ≤ m.toInt := by
  have e : (x &&& m).toBitVec.toNat = x.toBitVec.toNat &&& m.toBitVec.toNat := by
    show (x.toBitVec &&& m.toBitVec).toNat = _
    rw [BitVec.toNat_and]
  have l1 : x.toBitVec.toNat &&& m.toBitVec.toNat ≤ m.toBitVec.toNat := Nat.and_le_right
  change 0 ≤ m.toBitVec.toInt at hm
  show 0 ≤ (x &&& m).toBitVec.toInt ∧ (x &&& m).toBitVec.toInt ≤ m.toBitVec.toInt
  rw [BitVec.toInt_eq_toNat_cond] at hm ⊢
  rw [BitVec.toInt_eq_toNat_cond, e]
  have := m.toBitVec.isLt
  split at hm <;> split <;> (try split) <;> omega
theorem own_int_of {x : Int32} {k : Int} (h : x.toInt = k) : x = Int32.ofInt k := by
  rw [← h]; exact (Int32.ofInt_toInt x).symm
theorem own_rem_bd (x y : Int32) (hx : 0 ≤ x.toInt) (hy : 0 < y.toInt) : 0 ≤ (x % y).toInt ∧ (x % y).toInt < y.toInt := by
  have e : (x % y).toInt = x.toInt.tmod y.toInt := by
    first | exact Int32.toInt_mod x y | exact Int32.toInt_srem x y | simp
  rw [e]
  exact ⟨Int.tmod_nonneg _ hx, Int.tmod_lt_of_pos _ hy⟩
theorem own_len {args : Array Value} {s : State} {t : Term} {a : Addr} {cl : Cell} {ty : FieldType} {n : Int32} (ht : t.eval args s none [] s = some (.ref a)) (A : Arr s s.heap a cl ty) (h : (Jvm.Cond.eq (Term.length t) (Term.int n)).value args s none s [] = some true) : cl.slots.size < 2 ^ 31 ∧ cl.slots.size.toInt32 = n := by
  have hA : s.arrayAt? a = some cl := Arr.fin (Vm.Alike.refl _) A
  by_cases q : cl.slots.size < 2 ^ 31
  · refine ⟨q, ?_⟩
    have e := len_f ht hA q
    have e2 : (Term.int n).eval args s none [] s = some (.int n) := rfl
    simp only [Jvm.Cond.value, e, e2] at h
    simpa using h
  · exfalso
    have e : (Term.length t).eval args s none [] s = none := by simp [Term.eval, ht, hA, q]
    simp [Jvm.Cond.value, e] at h
theorem own_elem {args : Array Value} {s : State} {t u : Term} {a : Addr} {cl : Cell} {ty : FieldType} {j : Int32} {i : Nat} {v : Value} (ht : t.eval args s none [] s = some (.ref a)) (A : Arr s s.heap a cl ty) (h : (Jvm.Cond.eq (Term.elem t (Term.int j)) u).value args s none s [] = some true) (hu : u.eval args s none [] s = some v) (hi : j.toNatClampNeg = i) : cl.slots[i]? = some v := by
  subst hi
  obtain ⟨x, y, e1, e2, -, -⟩ := cmp_v (Or.inl h)
  cases hu.symm.trans e2
  have q := elem_in e1 ht (Term.int_eval j) A.1
  simp only [Jvm.Cond.value, e1, hu] at h
  rw [q.2]
  cases x <;> cases v <;> simp_all
theorem own_sta_keep0 {Z : State} {h h' : Heap} {C n d : String} {v : Value} (F : Sta Z h C n d v) (K : Keep h h' []) : Sta Z h' C n d v := by
  obtain ⟨cf, i, k, f, st, cell, h1, h2, h3, h4, h5, r⟩ := F
  exact ⟨cf, i, k, f, st, cell, h1, h2, h3, h4, K.2.1 st cell h5 nin0, r⟩
theorem own_fld_int {args : Array Value} {s : State} {t : Term} {C n d : String} {k : Int32} {x : Addr} (ht : t.eval args s none [] s = some (.ref x)) (h : (Jvm.Cond.eq (Term.field t C n d) (Term.int k)).value args s none s [] = some true) : Fld s s.heap x C n d (.int k) := by
  obtain ⟨v, w, e1, e2, -, -⟩ := cmp_v (Or.inl h)
  rw [fld_at ht] at e1
  have e2' : some (Value.int k) = some w := e2
  cases e2'
  have h' := h
  simp only [Jvm.Cond.value, fld_at ht, e1, e2] at h'
  cases v <;> simp at h'
  subst h'
  exact Fld.start e1
theorem own_fld_ref {args : Array Value} {s : State} {t u : Term} {C n d : String} {x y : Addr} (ht : t.eval args s none [] s = some (.ref x)) (hu : u.eval args s none [] s = some (.ref y)) (h : (Jvm.Cond.eq (Term.field t C n d) u).value args s none s [] = some true) : Fld s s.heap x C n d (.ref y) := by
  obtain ⟨v, w, e1, e2, -, -⟩ := cmp_v (Or.inl h)
  rw [fld_at ht] at e1
  cases hu.symm.trans e2
  have h' := h
  simp only [Jvm.Cond.value, fld_at ht, e1, hu] at h'
  cases v <;> simp at h'
  subst h'
  exact Fld.start e1
def own_of (c : Int32) (wM wT wO wR : Addr) : Value := if c = 1 then .ref wM else if c = 2 then .ref wT else if c = 3 then .ref wO else if c = 4 then .ref wR else .null
theorem own_of1 {c : Int32} {wM wT wO wR : Addr} (h : c = (1 : Int32)) : own_of c wM wT wO wR = .ref wM := by subst h; rfl
theorem own_of2 {c : Int32} {wM wT wO wR : Addr} (h : c = (2 : Int32)) : own_of c wM wT wO wR = .ref wT := by subst h; rfl
theorem own_of3 {c : Int32} {wM wT wO wR : Addr} (h : c = (3 : Int32)) : own_of c wM wT wO wR = .ref wO := by subst h; rfl
theorem own_of4 {c : Int32} {wM wT wO wR : Addr} (h : c = (4 : Int32)) : own_of c wM wT wO wR = .ref wR := by subst h; rfl
theorem own_of0 {c : Int32} {wM wT wO wR : Addr} (h1 : ¬ c = (1 : Int32)) (h2 : ¬ c = (2 : Int32)) (h3 : ¬ c = (3 : Int32)) (h4 : ¬ c = (4 : Int32)) : own_of c wM wT wO wR = .null := by simp [own_of, h1, h2, h3, h4]
theorem own_pn_2 : plainName "com/example/gavel/gavel/store/Kind" = true := by first | (simp [plainName, overriddenIn]; done) | decide +kernel
theorem d2_0 : decode prog_35_method_1_code 0 = .ok (.getstatic 16, 3) := by decide +kernel
theorem d2_3 : decode prog_35_method_1_code 3 = .ok (.invokevirtual 20, 3) := by decide +kernel
theorem d2_6 : decode prog_35_method_1_code 6 = .ok (.checkcast 21, 3) := by decide +kernel
theorem d2_9 : decode prog_35_method_1_code 9 = .ok (.areturn, 1) := by decide +kernel
def own_rmV_Q (Z : State)  (wA : Addr) (kA : ClassId) (wM wT wO wR : Addr) (h0 : Heap) (n0 : Nat) (v : Option Value) (h : Heap) (L : List Loc) : Prop := ∃ b : Addr, v = some (.ref b) ∧ Fr n0 L ∧ Keep h0 h [] ∧ Arv Z h b kA (.object "com/example/gavel/gavel/store/Kind") (4 : Int32) [(.ref wM), (.ref wT), (.ref wO), (.ref wR)] .null ∧ h0.size ≤ b ∧ Exa Z h b "[Lcom/example/gavel/gavel/store/Kind;"
set_option maxRecDepth 65536 in
set_option maxHeartbeats 40000000 in
theorem own_rmV (l : Launch) (Z : State) (a0 : Array Value) (hw : ∀ d ∈ tables_1, d.before a0 Z = true) (ws : List Jvm.Cond)  (wA : Addr) (kA : ClassId) (wM wT wO wR : Addr) (h0 : Heap) (n0 : Nat) (Z0 : n0 ≤ h0.size) (S_A : Sta Z h0 "com/example/gavel/gavel/store/Kind" "$VALUES" "[Lcom/example/gavel/gavel/store/Kind;" (.ref wA)) (E_A : Exa Z h0 wA "[Lcom/example/gavel/gavel/store/Kind;") (V_A : Arv Z h0 wA kA (.object "com/example/gavel/gavel/store/Kind") (4 : Int32) [(.ref wM), (.ref wT), (.ref wO), (.ref wR)] .null) :
    MetFree l (⟨"com/example/gavel/gavel/store/Kind", "values", "()[Lcom/example/gavel/gavel/store/Kind;"⟩ : MethodName) (head1 (Jvm.Cond.code (⟨"com/example/gavel/gavel/store/Kind", "values", "()[Lcom/example/gavel/gavel/store/Kind;"⟩ : MethodName) prog_35_method_1_code 0 (some (.array (.object "com/example/gavel/gavel/store/Kind"))) :: ws) ({ frames := 1, cells := 1, slots := 4, locals := 14 } : Room)) (fun aa UU => aa = #[] ∧ Z.Warmed39 UU.vm ∧ UU.heap = h0) (fun _ _ _ _ _ => True) (fun _ UU oo UU' => ∃ vv LL, oo = .returned vv ∧ own_rmV_Q Z wA kA wM wT wO wR h0 n0 vv UU'.heap LL ∧ FrameEnd UU oo UU' LL ({ frames := 1, cells := 1, slots := 4, locals := 14 } : Room).cells ({ frames := 1, cells := 1, slots := 4, locals := 14 } : Room).slots) := by
  refine MetFree.of_bodySF (plainFor_of_name own_pn_2) hisR ?_
  intro p e s m args below meth cc s₁ Bd hml0 hP hK
  obtain ⟨rfl, hZ, hh⟩ := hP
  have hx := Bd.exec
  have hby := Bd.bytes
  have hml : cc.maxLocals = 0 := hml0
  have hown : s.vm.findClass "com/example/gavel/gavel/store/Kind" = some m.cls := findClass_of_methodNamed Bd.named
  have hnm := (name_of_methodNamed Bd.named Bd.method).1
  have X0 : Stand p l e ({ frames := 1, cells := 1, slots := 4, locals := 14 } : Room) s m #[] below meth cc s₁ [] 0 0 := Stand.of_body Bd
  have e0 : s₁.heap = h0 := by rw [← hh, Bd.state]; rfl
  have N0 := Fr.nil n0
  have k0 : ∀ tt, Steps p.tables e below (s₁.setTop (mkF m 0 #[] [])) tt → Steps p.tables e below (s₁.setTop (entryFrame m #[] 0)) tt := fun tt kk => castTop (by first | (simp [entryFrame, mkF, argsToLocals, Value.category]; done) | rfl) kk
  obtain ⟨T1, X1, e1, st1⟩ := getS2 X0 hx hZ hown (host := "") (Or.inl (hw _ (List.mem_of_getElem? (i := 7) rfl))) Via.refl e0 S_A (g := (mkF m 0 #[] [])) rfl (hb hby d2_0)
  obtain ⟨cl2, Ar2, q2, S2, P2, H2, G2⟩ := id V_A
  have FC2 : FitC Z cl2 := fitC_of Ar2 fun i hi v hv => by rw [H2 i hi] at hv; cases hv; exact G2 i hi
  obtain ⟨T3, h3, X3, e3, E3, A3, Ex3, st3⟩ := cloneA X1 hx hZ hown (hw _ (List.mem_of_getElem? (i := 9) rfl)) (hw _ (List.mem_of_getElem? (i := 10) rfl)) (hw _ (List.mem_of_getElem? (i := 14) rfl)) (hw _ (List.mem_of_getElem? (i := 12) rfl)) (hw _ (List.mem_of_getElem? (i := 13) rfl)) (hw _ (List.mem_of_getElem? (i := 15) rfl)) e1 Ar2 E_A FC2 (g := (mkF m 3 #[] [(.ref wA)])) rfl (by rw [hml]; rfl) rfl (hb hby d2_3) (by decide) (W := 0) (cap := 4) (by show 2 * 0 + _ ≤ _; exact Nat.le_of_eq rfl) (by decide) (by rw [S2]; decide) (by decide) (by decide)
  obtain ⟨b3, g3⟩ : ∃ z, z = h0.size := ⟨_, rfl⟩
  rw [← g3] at A3 Ex3 st3
  have g_b3 : n0 ≤ b3 := Nat.le_trans Z0 (Nat.le_of_eq g3.symm)
  have sz_b3 : h0.size ≤ b3 := Nat.le_trans (Keep.refl h0 []).1 (Nat.le_of_eq g3.symm)
  have Z3 : n0 ≤ h3.size := Nat.le_trans Z0 E3.1
  have K3 := Keep.ext (Keep.refl h0 []) E3
  have V3 : Arv Z h3 b3 kA (.object "com/example/gavel/gavel/store/Kind") (4 : Int32) [(.ref wM), (.ref wT), (.ref wO), (.ref wR)] .null := ⟨_, A3, q2, S2, P2, H2, G2⟩
  obtain ⟨T4, X4, e4, st4⟩ := castY X3 hx hZ hown (hw _ (List.mem_of_getElem? (i := 21) rfl)) e3 (Ins.self Ex3) (g := (mkF m 6 #[] [(.ref b3)])) rfl rfl (hb hby d2_6)
  have k5 : ∀ tt, Steps p.tables e below (T4.setTop (mkF m 9 #[] [(.ref b3)])) tt → Steps p.tables e below (s₁.setTop (entryFrame m #[] 0)) tt := by
    intro tt kk
    refine k0 tt ?_
    show Steps p.tables e below (s₁.setTop (mkF m 0 #[] [])) tt
    refine st1 _ ?_
    show Steps p.tables e below (T1.setTop (mkF m 3 #[] [(.ref wA)])) tt
    refine st3 _ ?_
    show Steps p.tables e below (T3.setTop (mkF m 6 #[] [(.ref b3)])) tt
    refine st4 _ ?_
    exact kk
  obtain ⟨fs, hr, hrun, hended, hW, hsame⟩ := X4.leave (v := some (.ref b3)) (fun hq => by rw [Bd.returns] at hq; cases hq)
  refine ⟨_, _, k5 _ ?_, hrun, hended, _, _, rfl, ?_, ⟨_, rfl⟩, hW, hsame.mono (by decide) (by decide)⟩
  · show Steps p.tables e below (T4.setTop (mkF m 9 #[] [(.ref b3)])) _
    jvm_step X4.here [X4.here.top, hx, (hb hby d2_9), X4.method', Bd.returns, Value.isRef, FieldType.isReference]
    first | (intro acts; rw [hr _ acts rfl rfl rfl]) | rw [hr _ _ rfl rfl rfl]
    exact Steps.refl _
  · show (fun (v : Option Value) (h : Heap) (L : List Loc) => ∃ b : Addr, v = some (.ref b) ∧ Fr n0 L ∧ Keep h0 h [] ∧ Arv Z h b kA (.object "com/example/gavel/gavel/store/Kind") (4 : Int32) [(.ref wM), (.ref wT), (.ref wO), (.ref wR)] .null ∧ h0.size ≤ b ∧ Exa Z h b "[Lcom/example/gavel/gavel/store/Kind;") _ T4.heap _
    rw [e4]
    dsimp only
    exact ⟨_, rfl, N0, K3, V3, sz_b3, Ex3⟩
theorem own_pn_1 : plainName "com/example/gavel/gavel/store/Kind" = true := by first | (simp [plainName, overriddenIn]; done) | decide +kernel
theorem d1_0 : decode prog_35_method_6_code 0 = .ok (.invokestatic 39, 3) := by decide +kernel
theorem own_pd____Lcom_example_gavel_gavel_store_Kind_ : parseMethodDescriptor "()[Lcom/example/gavel/gavel/store/Kind;" = some ⟨[], some (.array (.object "com/example/gavel/gavel/store/Kind"))⟩ := by decide +kernel
theorem d1_3 : decode prog_35_method_6_code 3 = .ok (.astore_n 1, 1) := by decide +kernel
theorem d1_4 : decode prog_35_method_6_code 4 = .ok (.aload_n 1, 1) := by decide +kernel
theorem d1_5 : decode prog_35_method_6_code 5 = .ok (.arraylength, 1) := by decide +kernel
theorem d1_6 : decode prog_35_method_6_code 6 = .ok (.istore_n 2, 1) := by decide +kernel
theorem d1_7 : decode prog_35_method_6_code 7 = .ok (.iconst 0, 1) := by decide +kernel
theorem d1_8 : decode prog_35_method_6_code 8 = .ok (.istore_n 3, 1) := by decide +kernel
theorem d1_9 : decode prog_35_method_6_code 9 = .ok (.iload_n 3, 1) := by decide +kernel
theorem d1_10 : decode prog_35_method_6_code 10 = .ok (.iload_n 2, 1) := by decide +kernel
theorem d1_11 : decode prog_35_method_6_code 11 = .ok (.if_icmp .ge 26, 3) := by decide +kernel
theorem d1_14 : decode prog_35_method_6_code 14 = .ok (.aload_n 1, 1) := by decide +kernel
theorem d1_15 : decode prog_35_method_6_code 15 = .ok (.iload_n 3, 1) := by decide +kernel
theorem d1_16 : decode prog_35_method_6_code 16 = .ok (.aaload, 1) := by decide +kernel
theorem d1_17 : decode prog_35_method_6_code 17 = .ok (.astore 4, 2) := by decide +kernel
theorem d1_19 : decode prog_35_method_6_code 19 = .ok (.aload 4, 2) := by decide +kernel
theorem d1_21 : decode prog_35_method_6_code 21 = .ok (.getfield 35, 3) := by decide +kernel
theorem d1_24 : decode prog_35_method_6_code 24 = .ok (.iload_n 0, 1) := by decide +kernel
theorem d1_25 : decode prog_35_method_6_code 25 = .ok (.if_icmp .ne 6, 3) := by decide +kernel
theorem d1_28 : decode prog_35_method_6_code 28 = .ok (.aload 4, 2) := by decide +kernel
theorem d1_30 : decode prog_35_method_6_code 30 = .ok (.areturn, 1) := by decide +kernel
theorem d1_31 : decode prog_35_method_6_code 31 = .ok (.iinc 3 1, 3) := by decide +kernel
theorem d1_34 : decode prog_35_method_6_code 34 = .ok (.goto (-25), 3) := by decide +kernel
theorem d1_37 : decode prog_35_method_6_code 37 = .ok (.aconst_null, 1) := by decide +kernel
theorem d1_38 : decode prog_35_method_6_code 38 = .ok (.areturn, 1) := by decide +kernel
def own_rmO_Q (Z : State) (c : Int32) (wA : Addr) (kA : ClassId) (wM wT wO wR : Addr) (h0 : Heap) (n0 : Nat) (v : Option Value) (h : Heap) (L : List Loc) : Prop := v = some (own_of c wM wT wO wR) ∧ Fr n0 L ∧ Keep h0 h []
set_option maxRecDepth 65536 in
set_option maxHeartbeats 40000000 in
theorem own_rmO (l : Launch) (Z : State) (a0 : Array Value) (hw : ∀ d ∈ tables_1, d.before a0 Z = true) (ws : List Jvm.Cond) (c : Int32) (wA : Addr) (kA : ClassId) (wM wT wO wR : Addr) (h0 : Heap) (n0 : Nat) (Z0 : n0 ≤ h0.size) (S_A : Sta Z h0 "com/example/gavel/gavel/store/Kind" "$VALUES" "[Lcom/example/gavel/gavel/store/Kind;" (.ref wA)) (E_A : Exa Z h0 wA "[Lcom/example/gavel/gavel/store/Kind;") (V_A : Arv Z h0 wA kA (.object "com/example/gavel/gavel/store/Kind") (4 : Int32) [(.ref wM), (.ref wT), (.ref wO), (.ref wR)] .null) (F_wM : Fld Z h0 wM "com/example/gavel/gavel/store/Kind" "code" "I" (.int (1 : Int32))) (F_wT : Fld Z h0 wT "com/example/gavel/gavel/store/Kind" "code" "I" (.int (2 : Int32))) (F_wO : Fld Z h0 wO "com/example/gavel/gavel/store/Kind" "code" "I" (.int (3 : Int32))) (F_wR : Fld Z h0 wR "com/example/gavel/gavel/store/Kind" "code" "I" (.int (4 : Int32))) :
    MetFree l (⟨"com/example/gavel/gavel/store/Kind", "of", "(I)Lcom/example/gavel/gavel/store/Kind;"⟩ : MethodName) (head1 (Jvm.Cond.code (⟨"com/example/gavel/gavel/store/Kind", "of", "(I)Lcom/example/gavel/gavel/store/Kind;"⟩ : MethodName) prog_35_method_6_code 5 (some (.object "com/example/gavel/gavel/store/Kind")) :: ws) ({ frames := 2, cells := 1, slots := 4, locals := 25 } : Room)) (fun aa UU => aa = #[(.int c)] ∧ Z.Warmed39 UU.vm ∧ UU.heap = h0) (fun _ _ _ _ _ => True) (fun _ UU oo UU' => ∃ vv LL, oo = .returned vv ∧ own_rmO_Q Z c wA kA wM wT wO wR h0 n0 vv UU'.heap LL ∧ FrameEnd UU oo UU' LL ({ frames := 2, cells := 1, slots := 4, locals := 25 } : Room).cells ({ frames := 2, cells := 1, slots := 4, locals := 25 } : Room).slots) := by
  refine MetFree.of_bodySF (plainFor_of_name own_pn_1) hisR ?_
  intro p e s m args below meth cc s₁ Bd hml0 hP hK
  obtain ⟨rfl, hZ, hh⟩ := hP
  have hx := Bd.exec
  have hby := Bd.bytes
  have hml : cc.maxLocals = 5 := hml0
  have hown : s.vm.findClass "com/example/gavel/gavel/store/Kind" = some m.cls := findClass_of_methodNamed Bd.named
  have hnm := (name_of_methodNamed Bd.named Bd.method).1
  have X0 : Stand p l e ({ frames := 2, cells := 1, slots := 4, locals := 25 } : Room) s m #[(.int c)] below meth cc s₁ [] 0 0 := Stand.of_body Bd
  have e0 : s₁.heap = h0 := by rw [← hh, Bd.state]; rfl
  have N0 := Fr.nil n0
  have k0 : ∀ tt, Steps p.tables e below (s₁.setTop (mkF m 0 #[.val (.int c), .unset, .unset, .unset, .unset] [])) tt → Steps p.tables e below (s₁.setTop (entryFrame m #[(.int c)] 5)) tt := fun tt kk => castTop (by first | (simp [entryFrame, mkF, argsToLocals, Value.category]; done) | rfl) kk
  obtain ⟨_, _, ⟨T1, L1, ka1, na1⟩, -, X1, ⟨Lc1, hQ1, l1, y1, z1⟩, st1⟩ := Jvm.LawKit.callS X0 hx (y := (⟨"com/example/gavel/gavel/store/Kind", "values", "()[Lcom/example/gavel/gavel/store/Kind;"⟩ : MethodName)) hown (mvT hZ (hw _ (List.mem_of_getElem? (i := 4) rfl))) (mvT hZ (hw _ (List.mem_of_getElem? (i := 5) rfl))) (mvT hZ (hw _ (List.mem_of_getElem? (i := 2) rfl))) (mvT hZ (hw _ (List.mem_of_getElem? (i := 6) rfl))) (by decide) (backOf (W := 0) (own_rmV l Z a0 hw [] wA kA wM wT wO wR h0 n0 Z0 S_A E_A V_A) hZ (hw _ (List.mem_of_getElem? (i := 6) rfl)) (hw _ (List.mem_of_getElem? (i := 2) rfl)) (by decide) (by decide)) (g := (mkF m 0 #[.val (.int c), .unset, .unset, .unset, .unset] [])) rfl (by rw [hml]; rfl) (argsL := []) (rest := []) (lenOf own_pd____Lcom_example_gavel_gavel_store_Kind_ rfl) rfl (by show 2 * 0 + _ ≤ _; exact Nat.le_of_eq rfl) (hb hby d1_0) (fun _ _ => ⟨rfl, e0, (by decide : 0 + 1 ≤ _), (by decide : 0 + 4 ≤ _)⟩)
  dsimp only [Pt.U, Pt.locs, Pt.cells, Pt.slots] at X1 l1 y1 z1 st1 hQ1
  subst l1 y1 z1
  obtain ⟨bv1, rfl, Nq1, K1, V1, sz1, Ex1⟩ := hQ1
  have N1 := Fr.app N0 Nq1
  have Z1 : n0 ≤ T1.heap.size := Nat.le_trans Z0 K1.1
  have Kt1 := Keep.trans (Keep.refl h0 []) K1 all0
  obtain ⟨cl2, Ar2, q2, S2, P2, H2, G2⟩ := id V1
  obtain ⟨cl3, Ar3, q3, S3, P3, H3, G3⟩ := id V1
  have hin3 : ¬ ((0 : Int32) < 0 ∨ cl3.slots.size ≤ ((0 : Int32)).toNatClampNeg) := inb_of S3 ⟨by decide, by decide⟩
  have hat3 : cl3.slots[((0 : Int32)).toNatClampNeg]? = some (.ref wM) := Has.at H3 hin3 rfl
  obtain ⟨T4, X4, e4, st4⟩ := getF X1 hx hZ hown (host := "") (Or.inl (hw _ (List.mem_of_getElem? (i := 23) rfl))) Via.refl rfl (Fld.keep F_wM Kt1 nin0) (g := (mkF m 21 #[.val (.int c), .val (.ref bv1), .val (.int (4 : Int32)), .val (.int (0 : Int32)), .val (.ref wM)] [(.ref wM)])) rfl rfl (hb hby d1_21)
  have k5 : ∀ tt, Steps p.tables e below (T4.setTop (mkF m 25 #[.val (.int c), .val (.ref bv1), .val (.int (4 : Int32)), .val (.int (0 : Int32)), .val (.ref wM)] [(.int c), (.int (1 : Int32))])) tt → Steps p.tables e below (s₁.setTop (entryFrame m #[(.int c)] 5)) tt := by
    intro tt kk
    refine k0 tt ?_
    show Steps p.tables e below (s₁.setTop (mkF m 0 #[.val (.int c), .unset, .unset, .unset, .unset] [])) tt
    refine st1 _ ?_
    show Steps p.tables e below (T1.setTop (mkF m 3 #[.val (.int c), .unset, .unset, .unset, .unset] [(.ref bv1)])) tt
    refine XS.astoreN X1.here hx rfl (hb hby d1_3) rfl rfl (l' := #[.val (.int c), .val (.ref bv1), .unset, .unset, .unset]) rfl ?_
    show Steps p.tables e below (T1.setTop (mkF m 4 #[.val (.int c), .val (.ref bv1), .unset, .unset, .unset] [])) tt
    refine XS.aloadN X1.here hx rfl (hb hby d1_4) rfl rfl ?_
    show Steps p.tables e below (T1.setTop (mkF m 5 #[.val (.int c), .val (.ref bv1), .unset, .unset, .unset] [(.ref bv1)])) tt
    refine X1.arraylength hx (by exact Ar2.1) (State.isArrayOf_alike hZ.alike Ar2.2.1) (g := (mkF m 5 #[.val (.int c), .val (.ref bv1), .unset, .unset, .unset] [(.ref bv1)])) rfl rfl (hb hby d1_5) _ ?_
    rw [len_of S2 P2]
    show Steps p.tables e below (T1.setTop (mkF m 6 #[.val (.int c), .val (.ref bv1), .unset, .unset, .unset] [(.int (4 : Int32))])) tt
    refine XS.istoreN X1.here hx rfl (hb hby d1_6) rfl (l' := #[.val (.int c), .val (.ref bv1), .val (.int (4 : Int32)), .unset, .unset]) rfl ?_
    show Steps p.tables e below (T1.setTop (mkF m 7 #[.val (.int c), .val (.ref bv1), .val (.int (4 : Int32)), .unset, .unset] [])) tt
    refine XS.iconst X1.here hx rfl (hb hby d1_7) ?_
    show Steps p.tables e below (T1.setTop (mkF m 8 #[.val (.int c), .val (.ref bv1), .val (.int (4 : Int32)), .unset, .unset] [(.int (0 : Int32))])) tt
    refine XS.istoreN X1.here hx rfl (hb hby d1_8) rfl (l' := #[.val (.int c), .val (.ref bv1), .val (.int (4 : Int32)), .val (.int (0 : Int32)), .unset]) rfl ?_
    show Steps p.tables e below (T1.setTop (mkF m 9 #[.val (.int c), .val (.ref bv1), .val (.int (4 : Int32)), .val (.int (0 : Int32)), .unset] [])) tt
    refine XS.iloadN X1.here hx rfl (hb hby d1_9) rfl ?_
    show Steps p.tables e below (T1.setTop (mkF m 10 #[.val (.int c), .val (.ref bv1), .val (.int (4 : Int32)), .val (.int (0 : Int32)), .unset] [(.int (0 : Int32))])) tt
    refine XS.iloadN X1.here hx rfl (hb hby d1_10) rfl ?_
    show Steps p.tables e below (T1.setTop (mkF m 11 #[.val (.int c), .val (.ref bv1), .val (.int (4 : Int32)), .val (.int (0 : Int32)), .unset] [(.int (4 : Int32)), (.int (0 : Int32))])) tt
    refine XS.icmpNo X1.here hx rfl (hb hby d1_11) rfl (tlt (by decide : (0 : Int32) < (4 : Int32))).2.1 ?_
    show Steps p.tables e below (T1.setTop (mkF m 14 #[.val (.int c), .val (.ref bv1), .val (.int (4 : Int32)), .val (.int (0 : Int32)), .unset] [])) tt
    refine XS.aloadN X1.here hx rfl (hb hby d1_14) rfl rfl ?_
    show Steps p.tables e below (T1.setTop (mkF m 15 #[.val (.int c), .val (.ref bv1), .val (.int (4 : Int32)), .val (.int (0 : Int32)), .unset] [(.ref bv1)])) tt
    refine XS.iloadN X1.here hx rfl (hb hby d1_15) rfl ?_
    show Steps p.tables e below (T1.setTop (mkF m 16 #[.val (.int c), .val (.ref bv1), .val (.int (4 : Int32)), .val (.int (0 : Int32)), .unset] [(.int (0 : Int32)), (.ref bv1)])) tt
    refine X1.aaload hx (j := (0 : Int32)) (v := (.ref wM)) (by exact Ar3.1) (State.isArrayOf_alike hZ.alike Ar3.2.1) rfl Ar3.2.2 hin3 hat3 (g := (mkF m 16 #[.val (.int c), .val (.ref bv1), .val (.int (4 : Int32)), .val (.int (0 : Int32)), .unset] [(.int (0 : Int32)), (.ref bv1)])) rfl rfl (hb hby d1_16) _ ?_
    show Steps p.tables e below (T1.setTop (mkF m 17 #[.val (.int c), .val (.ref bv1), .val (.int (4 : Int32)), .val (.int (0 : Int32)), .unset] [(.ref wM)])) tt
    refine XS.astore X1.here hx rfl (hb hby d1_17) rfl rfl (l' := #[.val (.int c), .val (.ref bv1), .val (.int (4 : Int32)), .val (.int (0 : Int32)), .val (.ref wM)]) rfl ?_
    show Steps p.tables e below (T1.setTop (mkF m 19 #[.val (.int c), .val (.ref bv1), .val (.int (4 : Int32)), .val (.int (0 : Int32)), .val (.ref wM)] [])) tt
    refine XS.aload X1.here hx rfl (hb hby d1_19) rfl rfl ?_
    show Steps p.tables e below (T1.setTop (mkF m 21 #[.val (.int c), .val (.ref bv1), .val (.int (4 : Int32)), .val (.int (0 : Int32)), .val (.ref wM)] [(.ref wM)])) tt
    refine st4 _ ?_
    show Steps p.tables e below (T4.setTop (mkF m 24 #[.val (.int c), .val (.ref bv1), .val (.int (4 : Int32)), .val (.int (0 : Int32)), .val (.ref wM)] [(.int (1 : Int32))])) tt
    refine XS.iloadN X4.here hx rfl (hb hby d1_24) rfl ?_
    exact kk
  by_cases hc0 : (1 : Int32) = c
  · have k6 : ∀ tt, Steps p.tables e below (T4.setTop (mkF m 30 #[.val (.int c), .val (.ref bv1), .val (.int (4 : Int32)), .val (.int (0 : Int32)), .val (.ref wM)] [(.ref wM)])) tt → Steps p.tables e below (s₁.setTop (entryFrame m #[(.int c)] 5)) tt := by
      intro tt kk
      refine k5 tt ?_
      show Steps p.tables e below (T4.setTop (mkF m 25 #[.val (.int c), .val (.ref bv1), .val (.int (4 : Int32)), .val (.int (0 : Int32)), .val (.ref wM)] [(.int c), (.int (1 : Int32))])) tt
      refine XS.icmpNo X4.here hx rfl (hb hby d1_25) rfl (teq (hc0 : (1 : Int32) = c)).2 ?_
      show Steps p.tables e below (T4.setTop (mkF m 28 #[.val (.int c), .val (.ref bv1), .val (.int (4 : Int32)), .val (.int (0 : Int32)), .val (.ref wM)] [])) tt
      refine XS.aload X4.here hx rfl (hb hby d1_28) rfl rfl ?_
      exact kk
    obtain ⟨fs, hr, hrun, hended, hW, hsame⟩ := X4.leave (v := some (.ref wM)) (fun hq => by rw [Bd.returns] at hq; cases hq)
    refine ⟨_, _, k6 _ ?_, hrun, hended, _, _, rfl, ?_, ⟨_, rfl⟩, hW, hsame.mono (by decide) (by decide)⟩
    · show Steps p.tables e below (T4.setTop (mkF m 30 #[.val (.int c), .val (.ref bv1), .val (.int (4 : Int32)), .val (.int (0 : Int32)), .val (.ref wM)] [(.ref wM)])) _
      jvm_step X4.here [X4.here.top, hx, (hb hby d1_30), X4.method', Bd.returns, Value.isRef, FieldType.isReference]
      first | (intro acts; rw [hr _ acts rfl rfl rfl]) | rw [hr _ _ rfl rfl rfl]
      exact Steps.refl _
    · show (fun (v : Option Value) (h : Heap) (L : List Loc) => v = some (own_of c wM wT wO wR) ∧ Fr n0 L ∧ Keep h0 h []) _ T4.heap _
      rw [e4]
      dsimp only
      refine ⟨?_, N1, Kt1⟩
      simp [own_of, hc0.symm]
  · obtain ⟨cl7, Ar7, q7, S7, P7, H7, G7⟩ := id V1
    have hin7 : ¬ ((1 : Int32) < 0 ∨ cl7.slots.size ≤ ((1 : Int32)).toNatClampNeg) := inb_of S7 ⟨by decide, by decide⟩
    have hat7 : cl7.slots[((1 : Int32)).toNatClampNeg]? = some (.ref wT) := Has.at H7 hin7 rfl
    obtain ⟨T8, X8, e8, st8⟩ := getF X4 hx hZ hown (host := "") (Or.inl (hw _ (List.mem_of_getElem? (i := 23) rfl))) Via.refl e4 (Fld.keep F_wT Kt1 nin0) (g := (mkF m 21 #[.val (.int c), .val (.ref bv1), .val (.int (4 : Int32)), .val (.int (1 : Int32)), .val (.ref wT)] [(.ref wT)])) rfl rfl (hb hby d1_21)
    have k9 : ∀ tt, Steps p.tables e below (T8.setTop (mkF m 25 #[.val (.int c), .val (.ref bv1), .val (.int (4 : Int32)), .val (.int (1 : Int32)), .val (.ref wT)] [(.int c), (.int (2 : Int32))])) tt → Steps p.tables e below (s₁.setTop (entryFrame m #[(.int c)] 5)) tt := by
      intro tt kk
      refine k5 tt ?_
      show Steps p.tables e below (T4.setTop (mkF m 25 #[.val (.int c), .val (.ref bv1), .val (.int (4 : Int32)), .val (.int (0 : Int32)), .val (.ref wM)] [(.int c), (.int (1 : Int32))])) tt
      refine XS.icmpYes X4.here hx rfl (pc0 := 25) (pc' := 31) rfl (hb hby d1_25) rfl (feq (hc0 : ¬ ((1 : Int32) = c))).2 (by decide) (by decide) ?_
      show Steps p.tables e below (T4.setTop (mkF m 31 #[.val (.int c), .val (.ref bv1), .val (.int (4 : Int32)), .val (.int (0 : Int32)), .val (.ref wM)] [])) tt
      refine XS.iinc X4.here hx rfl (hb hby d1_31) rfl (l' := #[.val (.int c), .val (.ref bv1), .val (.int (4 : Int32)), .val (.int (1 : Int32)), .val (.ref wM)]) rfl ?_
      show Steps p.tables e below (T4.setTop (mkF m 34 #[.val (.int c), .val (.ref bv1), .val (.int (4 : Int32)), .val (.int (1 : Int32)), .val (.ref wM)] [])) tt
      refine XS.goto X4.here hx rfl (pc0 := 34) (pc' := 9) rfl (hb hby d1_34) (by decide) (by decide) ?_
      show Steps p.tables e below (T4.setTop (mkF m 9 #[.val (.int c), .val (.ref bv1), .val (.int (4 : Int32)), .val (.int (1 : Int32)), .val (.ref wM)] [])) tt
      refine XS.iloadN X4.here hx rfl (hb hby d1_9) rfl ?_
      show Steps p.tables e below (T4.setTop (mkF m 10 #[.val (.int c), .val (.ref bv1), .val (.int (4 : Int32)), .val (.int (1 : Int32)), .val (.ref wM)] [(.int (1 : Int32))])) tt
      refine XS.iloadN X4.here hx rfl (hb hby d1_10) rfl ?_
      show Steps p.tables e below (T4.setTop (mkF m 11 #[.val (.int c), .val (.ref bv1), .val (.int (4 : Int32)), .val (.int (1 : Int32)), .val (.ref wM)] [(.int (4 : Int32)), (.int (1 : Int32))])) tt
      refine XS.icmpNo X4.here hx rfl (hb hby d1_11) rfl (tlt (by decide : (1 : Int32) < (4 : Int32))).2.1 ?_
      show Steps p.tables e below (T4.setTop (mkF m 14 #[.val (.int c), .val (.ref bv1), .val (.int (4 : Int32)), .val (.int (1 : Int32)), .val (.ref wM)] [])) tt
      refine XS.aloadN X4.here hx rfl (hb hby d1_14) rfl rfl ?_
      show Steps p.tables e below (T4.setTop (mkF m 15 #[.val (.int c), .val (.ref bv1), .val (.int (4 : Int32)), .val (.int (1 : Int32)), .val (.ref wM)] [(.ref bv1)])) tt
      refine XS.iloadN X4.here hx rfl (hb hby d1_15) rfl ?_
      show Steps p.tables e below (T4.setTop (mkF m 16 #[.val (.int c), .val (.ref bv1), .val (.int (4 : Int32)), .val (.int (1 : Int32)), .val (.ref wM)] [(.int (1 : Int32)), (.ref bv1)])) tt
      refine X4.aaload hx (j := (1 : Int32)) (v := (.ref wT)) (by rw [e4]; exact Ar7.1) (State.isArrayOf_alike hZ.alike Ar7.2.1) rfl Ar7.2.2 hin7 hat7 (g := (mkF m 16 #[.val (.int c), .val (.ref bv1), .val (.int (4 : Int32)), .val (.int (1 : Int32)), .val (.ref wM)] [(.int (1 : Int32)), (.ref bv1)])) rfl rfl (hb hby d1_16) _ ?_
      show Steps p.tables e below (T4.setTop (mkF m 17 #[.val (.int c), .val (.ref bv1), .val (.int (4 : Int32)), .val (.int (1 : Int32)), .val (.ref wM)] [(.ref wT)])) tt
      refine XS.astore X4.here hx rfl (hb hby d1_17) rfl rfl (l' := #[.val (.int c), .val (.ref bv1), .val (.int (4 : Int32)), .val (.int (1 : Int32)), .val (.ref wT)]) rfl ?_
      show Steps p.tables e below (T4.setTop (mkF m 19 #[.val (.int c), .val (.ref bv1), .val (.int (4 : Int32)), .val (.int (1 : Int32)), .val (.ref wT)] [])) tt
      refine XS.aload X4.here hx rfl (hb hby d1_19) rfl rfl ?_
      show Steps p.tables e below (T4.setTop (mkF m 21 #[.val (.int c), .val (.ref bv1), .val (.int (4 : Int32)), .val (.int (1 : Int32)), .val (.ref wT)] [(.ref wT)])) tt
      refine st8 _ ?_
      show Steps p.tables e below (T8.setTop (mkF m 24 #[.val (.int c), .val (.ref bv1), .val (.int (4 : Int32)), .val (.int (1 : Int32)), .val (.ref wT)] [(.int (2 : Int32))])) tt
      refine XS.iloadN X8.here hx rfl (hb hby d1_24) rfl ?_
      exact kk
    by_cases hc1 : (2 : Int32) = c
    · have k10 : ∀ tt, Steps p.tables e below (T8.setTop (mkF m 30 #[.val (.int c), .val (.ref bv1), .val (.int (4 : Int32)), .val (.int (1 : Int32)), .val (.ref wT)] [(.ref wT)])) tt → Steps p.tables e below (s₁.setTop (entryFrame m #[(.int c)] 5)) tt := by
        intro tt kk
        refine k9 tt ?_
        show Steps p.tables e below (T8.setTop (mkF m 25 #[.val (.int c), .val (.ref bv1), .val (.int (4 : Int32)), .val (.int (1 : Int32)), .val (.ref wT)] [(.int c), (.int (2 : Int32))])) tt
        refine XS.icmpNo X8.here hx rfl (hb hby d1_25) rfl (teq (hc1 : (2 : Int32) = c)).2 ?_
        show Steps p.tables e below (T8.setTop (mkF m 28 #[.val (.int c), .val (.ref bv1), .val (.int (4 : Int32)), .val (.int (1 : Int32)), .val (.ref wT)] [])) tt
        refine XS.aload X8.here hx rfl (hb hby d1_28) rfl rfl ?_
        exact kk
      obtain ⟨fs, hr, hrun, hended, hW, hsame⟩ := X8.leave (v := some (.ref wT)) (fun hq => by rw [Bd.returns] at hq; cases hq)
      refine ⟨_, _, k10 _ ?_, hrun, hended, _, _, rfl, ?_, ⟨_, rfl⟩, hW, hsame.mono (by decide) (by decide)⟩
      · show Steps p.tables e below (T8.setTop (mkF m 30 #[.val (.int c), .val (.ref bv1), .val (.int (4 : Int32)), .val (.int (1 : Int32)), .val (.ref wT)] [(.ref wT)])) _
        jvm_step X8.here [X8.here.top, hx, (hb hby d1_30), X8.method', Bd.returns, Value.isRef, FieldType.isReference]
        first | (intro acts; rw [hr _ acts rfl rfl rfl]) | rw [hr _ _ rfl rfl rfl]
        exact Steps.refl _
      · show (fun (v : Option Value) (h : Heap) (L : List Loc) => v = some (own_of c wM wT wO wR) ∧ Fr n0 L ∧ Keep h0 h []) _ T8.heap _
        rw [e8]
        dsimp only
        refine ⟨?_, N1, Kt1⟩
        simp [own_of, Ne.symm hc0, hc1.symm]
    · obtain ⟨cl11, Ar11, q11, S11, P11, H11, G11⟩ := id V1
      have hin11 : ¬ ((2 : Int32) < 0 ∨ cl11.slots.size ≤ ((2 : Int32)).toNatClampNeg) := inb_of S11 ⟨by decide, by decide⟩
      have hat11 : cl11.slots[((2 : Int32)).toNatClampNeg]? = some (.ref wO) := Has.at H11 hin11 rfl
      obtain ⟨T12, X12, e12, st12⟩ := getF X8 hx hZ hown (host := "") (Or.inl (hw _ (List.mem_of_getElem? (i := 23) rfl))) Via.refl e8 (Fld.keep F_wO Kt1 nin0) (g := (mkF m 21 #[.val (.int c), .val (.ref bv1), .val (.int (4 : Int32)), .val (.int (2 : Int32)), .val (.ref wO)] [(.ref wO)])) rfl rfl (hb hby d1_21)
      have k13 : ∀ tt, Steps p.tables e below (T12.setTop (mkF m 25 #[.val (.int c), .val (.ref bv1), .val (.int (4 : Int32)), .val (.int (2 : Int32)), .val (.ref wO)] [(.int c), (.int (3 : Int32))])) tt → Steps p.tables e below (s₁.setTop (entryFrame m #[(.int c)] 5)) tt := by
        intro tt kk
        refine k9 tt ?_
        show Steps p.tables e below (T8.setTop (mkF m 25 #[.val (.int c), .val (.ref bv1), .val (.int (4 : Int32)), .val (.int (1 : Int32)), .val (.ref wT)] [(.int c), (.int (2 : Int32))])) tt
        refine XS.icmpYes X8.here hx rfl (pc0 := 25) (pc' := 31) rfl (hb hby d1_25) rfl (feq (hc1 : ¬ ((2 : Int32) = c))).2 (by decide) (by decide) ?_
        show Steps p.tables e below (T8.setTop (mkF m 31 #[.val (.int c), .val (.ref bv1), .val (.int (4 : Int32)), .val (.int (1 : Int32)), .val (.ref wT)] [])) tt
        refine XS.iinc X8.here hx rfl (hb hby d1_31) rfl (l' := #[.val (.int c), .val (.ref bv1), .val (.int (4 : Int32)), .val (.int (2 : Int32)), .val (.ref wT)]) rfl ?_
        show Steps p.tables e below (T8.setTop (mkF m 34 #[.val (.int c), .val (.ref bv1), .val (.int (4 : Int32)), .val (.int (2 : Int32)), .val (.ref wT)] [])) tt
        refine XS.goto X8.here hx rfl (pc0 := 34) (pc' := 9) rfl (hb hby d1_34) (by decide) (by decide) ?_
        show Steps p.tables e below (T8.setTop (mkF m 9 #[.val (.int c), .val (.ref bv1), .val (.int (4 : Int32)), .val (.int (2 : Int32)), .val (.ref wT)] [])) tt
        refine XS.iloadN X8.here hx rfl (hb hby d1_9) rfl ?_
        show Steps p.tables e below (T8.setTop (mkF m 10 #[.val (.int c), .val (.ref bv1), .val (.int (4 : Int32)), .val (.int (2 : Int32)), .val (.ref wT)] [(.int (2 : Int32))])) tt
        refine XS.iloadN X8.here hx rfl (hb hby d1_10) rfl ?_
        show Steps p.tables e below (T8.setTop (mkF m 11 #[.val (.int c), .val (.ref bv1), .val (.int (4 : Int32)), .val (.int (2 : Int32)), .val (.ref wT)] [(.int (4 : Int32)), (.int (2 : Int32))])) tt
        refine XS.icmpNo X8.here hx rfl (hb hby d1_11) rfl (tlt (by decide : (2 : Int32) < (4 : Int32))).2.1 ?_
        show Steps p.tables e below (T8.setTop (mkF m 14 #[.val (.int c), .val (.ref bv1), .val (.int (4 : Int32)), .val (.int (2 : Int32)), .val (.ref wT)] [])) tt
        refine XS.aloadN X8.here hx rfl (hb hby d1_14) rfl rfl ?_
        show Steps p.tables e below (T8.setTop (mkF m 15 #[.val (.int c), .val (.ref bv1), .val (.int (4 : Int32)), .val (.int (2 : Int32)), .val (.ref wT)] [(.ref bv1)])) tt
        refine XS.iloadN X8.here hx rfl (hb hby d1_15) rfl ?_
        show Steps p.tables e below (T8.setTop (mkF m 16 #[.val (.int c), .val (.ref bv1), .val (.int (4 : Int32)), .val (.int (2 : Int32)), .val (.ref wT)] [(.int (2 : Int32)), (.ref bv1)])) tt
        refine X8.aaload hx (j := (2 : Int32)) (v := (.ref wO)) (by rw [e8]; exact Ar11.1) (State.isArrayOf_alike hZ.alike Ar11.2.1) rfl Ar11.2.2 hin11 hat11 (g := (mkF m 16 #[.val (.int c), .val (.ref bv1), .val (.int (4 : Int32)), .val (.int (2 : Int32)), .val (.ref wT)] [(.int (2 : Int32)), (.ref bv1)])) rfl rfl (hb hby d1_16) _ ?_
        show Steps p.tables e below (T8.setTop (mkF m 17 #[.val (.int c), .val (.ref bv1), .val (.int (4 : Int32)), .val (.int (2 : Int32)), .val (.ref wT)] [(.ref wO)])) tt
        refine XS.astore X8.here hx rfl (hb hby d1_17) rfl rfl (l' := #[.val (.int c), .val (.ref bv1), .val (.int (4 : Int32)), .val (.int (2 : Int32)), .val (.ref wO)]) rfl ?_
        show Steps p.tables e below (T8.setTop (mkF m 19 #[.val (.int c), .val (.ref bv1), .val (.int (4 : Int32)), .val (.int (2 : Int32)), .val (.ref wO)] [])) tt
        refine XS.aload X8.here hx rfl (hb hby d1_19) rfl rfl ?_
        show Steps p.tables e below (T8.setTop (mkF m 21 #[.val (.int c), .val (.ref bv1), .val (.int (4 : Int32)), .val (.int (2 : Int32)), .val (.ref wO)] [(.ref wO)])) tt
        refine st12 _ ?_
        show Steps p.tables e below (T12.setTop (mkF m 24 #[.val (.int c), .val (.ref bv1), .val (.int (4 : Int32)), .val (.int (2 : Int32)), .val (.ref wO)] [(.int (3 : Int32))])) tt
        refine XS.iloadN X12.here hx rfl (hb hby d1_24) rfl ?_
        exact kk
      by_cases hc2 : (3 : Int32) = c
      · have k14 : ∀ tt, Steps p.tables e below (T12.setTop (mkF m 30 #[.val (.int c), .val (.ref bv1), .val (.int (4 : Int32)), .val (.int (2 : Int32)), .val (.ref wO)] [(.ref wO)])) tt → Steps p.tables e below (s₁.setTop (entryFrame m #[(.int c)] 5)) tt := by
          intro tt kk
          refine k13 tt ?_
          show Steps p.tables e below (T12.setTop (mkF m 25 #[.val (.int c), .val (.ref bv1), .val (.int (4 : Int32)), .val (.int (2 : Int32)), .val (.ref wO)] [(.int c), (.int (3 : Int32))])) tt
          refine XS.icmpNo X12.here hx rfl (hb hby d1_25) rfl (teq (hc2 : (3 : Int32) = c)).2 ?_
          show Steps p.tables e below (T12.setTop (mkF m 28 #[.val (.int c), .val (.ref bv1), .val (.int (4 : Int32)), .val (.int (2 : Int32)), .val (.ref wO)] [])) tt
          refine XS.aload X12.here hx rfl (hb hby d1_28) rfl rfl ?_
          exact kk
        obtain ⟨fs, hr, hrun, hended, hW, hsame⟩ := X12.leave (v := some (.ref wO)) (fun hq => by rw [Bd.returns] at hq; cases hq)
        refine ⟨_, _, k14 _ ?_, hrun, hended, _, _, rfl, ?_, ⟨_, rfl⟩, hW, hsame.mono (by decide) (by decide)⟩
        · show Steps p.tables e below (T12.setTop (mkF m 30 #[.val (.int c), .val (.ref bv1), .val (.int (4 : Int32)), .val (.int (2 : Int32)), .val (.ref wO)] [(.ref wO)])) _
          jvm_step X12.here [X12.here.top, hx, (hb hby d1_30), X12.method', Bd.returns, Value.isRef, FieldType.isReference]
          first | (intro acts; rw [hr _ acts rfl rfl rfl]) | rw [hr _ _ rfl rfl rfl]
          exact Steps.refl _
        · show (fun (v : Option Value) (h : Heap) (L : List Loc) => v = some (own_of c wM wT wO wR) ∧ Fr n0 L ∧ Keep h0 h []) _ T12.heap _
          rw [e12]
          dsimp only
          refine ⟨?_, N1, Kt1⟩
          simp [own_of, Ne.symm hc0, Ne.symm hc1, hc2.symm]
      · obtain ⟨cl15, Ar15, q15, S15, P15, H15, G15⟩ := id V1
        have hin15 : ¬ ((3 : Int32) < 0 ∨ cl15.slots.size ≤ ((3 : Int32)).toNatClampNeg) := inb_of S15 ⟨by decide, by decide⟩
        have hat15 : cl15.slots[((3 : Int32)).toNatClampNeg]? = some (.ref wR) := Has.at H15 hin15 rfl
        obtain ⟨T16, X16, e16, st16⟩ := getF X12 hx hZ hown (host := "") (Or.inl (hw _ (List.mem_of_getElem? (i := 23) rfl))) Via.refl e12 (Fld.keep F_wR Kt1 nin0) (g := (mkF m 21 #[.val (.int c), .val (.ref bv1), .val (.int (4 : Int32)), .val (.int (3 : Int32)), .val (.ref wR)] [(.ref wR)])) rfl rfl (hb hby d1_21)
        have k17 : ∀ tt, Steps p.tables e below (T16.setTop (mkF m 25 #[.val (.int c), .val (.ref bv1), .val (.int (4 : Int32)), .val (.int (3 : Int32)), .val (.ref wR)] [(.int c), (.int (4 : Int32))])) tt → Steps p.tables e below (s₁.setTop (entryFrame m #[(.int c)] 5)) tt := by
          intro tt kk
          refine k13 tt ?_
          show Steps p.tables e below (T12.setTop (mkF m 25 #[.val (.int c), .val (.ref bv1), .val (.int (4 : Int32)), .val (.int (2 : Int32)), .val (.ref wO)] [(.int c), (.int (3 : Int32))])) tt
          refine XS.icmpYes X12.here hx rfl (pc0 := 25) (pc' := 31) rfl (hb hby d1_25) rfl (feq (hc2 : ¬ ((3 : Int32) = c))).2 (by decide) (by decide) ?_
          show Steps p.tables e below (T12.setTop (mkF m 31 #[.val (.int c), .val (.ref bv1), .val (.int (4 : Int32)), .val (.int (2 : Int32)), .val (.ref wO)] [])) tt
          refine XS.iinc X12.here hx rfl (hb hby d1_31) rfl (l' := #[.val (.int c), .val (.ref bv1), .val (.int (4 : Int32)), .val (.int (3 : Int32)), .val (.ref wO)]) rfl ?_
          show Steps p.tables e below (T12.setTop (mkF m 34 #[.val (.int c), .val (.ref bv1), .val (.int (4 : Int32)), .val (.int (3 : Int32)), .val (.ref wO)] [])) tt
          refine XS.goto X12.here hx rfl (pc0 := 34) (pc' := 9) rfl (hb hby d1_34) (by decide) (by decide) ?_
          show Steps p.tables e below (T12.setTop (mkF m 9 #[.val (.int c), .val (.ref bv1), .val (.int (4 : Int32)), .val (.int (3 : Int32)), .val (.ref wO)] [])) tt
          refine XS.iloadN X12.here hx rfl (hb hby d1_9) rfl ?_
          show Steps p.tables e below (T12.setTop (mkF m 10 #[.val (.int c), .val (.ref bv1), .val (.int (4 : Int32)), .val (.int (3 : Int32)), .val (.ref wO)] [(.int (3 : Int32))])) tt
          refine XS.iloadN X12.here hx rfl (hb hby d1_10) rfl ?_
          show Steps p.tables e below (T12.setTop (mkF m 11 #[.val (.int c), .val (.ref bv1), .val (.int (4 : Int32)), .val (.int (3 : Int32)), .val (.ref wO)] [(.int (4 : Int32)), (.int (3 : Int32))])) tt
          refine XS.icmpNo X12.here hx rfl (hb hby d1_11) rfl (tlt (by decide : (3 : Int32) < (4 : Int32))).2.1 ?_
          show Steps p.tables e below (T12.setTop (mkF m 14 #[.val (.int c), .val (.ref bv1), .val (.int (4 : Int32)), .val (.int (3 : Int32)), .val (.ref wO)] [])) tt
          refine XS.aloadN X12.here hx rfl (hb hby d1_14) rfl rfl ?_
          show Steps p.tables e below (T12.setTop (mkF m 15 #[.val (.int c), .val (.ref bv1), .val (.int (4 : Int32)), .val (.int (3 : Int32)), .val (.ref wO)] [(.ref bv1)])) tt
          refine XS.iloadN X12.here hx rfl (hb hby d1_15) rfl ?_
          show Steps p.tables e below (T12.setTop (mkF m 16 #[.val (.int c), .val (.ref bv1), .val (.int (4 : Int32)), .val (.int (3 : Int32)), .val (.ref wO)] [(.int (3 : Int32)), (.ref bv1)])) tt
          refine X12.aaload hx (j := (3 : Int32)) (v := (.ref wR)) (by rw [e12]; exact Ar15.1) (State.isArrayOf_alike hZ.alike Ar15.2.1) rfl Ar15.2.2 hin15 hat15 (g := (mkF m 16 #[.val (.int c), .val (.ref bv1), .val (.int (4 : Int32)), .val (.int (3 : Int32)), .val (.ref wO)] [(.int (3 : Int32)), (.ref bv1)])) rfl rfl (hb hby d1_16) _ ?_
          show Steps p.tables e below (T12.setTop (mkF m 17 #[.val (.int c), .val (.ref bv1), .val (.int (4 : Int32)), .val (.int (3 : Int32)), .val (.ref wO)] [(.ref wR)])) tt
          refine XS.astore X12.here hx rfl (hb hby d1_17) rfl rfl (l' := #[.val (.int c), .val (.ref bv1), .val (.int (4 : Int32)), .val (.int (3 : Int32)), .val (.ref wR)]) rfl ?_
          show Steps p.tables e below (T12.setTop (mkF m 19 #[.val (.int c), .val (.ref bv1), .val (.int (4 : Int32)), .val (.int (3 : Int32)), .val (.ref wR)] [])) tt
          refine XS.aload X12.here hx rfl (hb hby d1_19) rfl rfl ?_
          show Steps p.tables e below (T12.setTop (mkF m 21 #[.val (.int c), .val (.ref bv1), .val (.int (4 : Int32)), .val (.int (3 : Int32)), .val (.ref wR)] [(.ref wR)])) tt
          refine st16 _ ?_
          show Steps p.tables e below (T16.setTop (mkF m 24 #[.val (.int c), .val (.ref bv1), .val (.int (4 : Int32)), .val (.int (3 : Int32)), .val (.ref wR)] [(.int (4 : Int32))])) tt
          refine XS.iloadN X16.here hx rfl (hb hby d1_24) rfl ?_
          exact kk
        by_cases hc3 : (4 : Int32) = c
        · have k18 : ∀ tt, Steps p.tables e below (T16.setTop (mkF m 30 #[.val (.int c), .val (.ref bv1), .val (.int (4 : Int32)), .val (.int (3 : Int32)), .val (.ref wR)] [(.ref wR)])) tt → Steps p.tables e below (s₁.setTop (entryFrame m #[(.int c)] 5)) tt := by
            intro tt kk
            refine k17 tt ?_
            show Steps p.tables e below (T16.setTop (mkF m 25 #[.val (.int c), .val (.ref bv1), .val (.int (4 : Int32)), .val (.int (3 : Int32)), .val (.ref wR)] [(.int c), (.int (4 : Int32))])) tt
            refine XS.icmpNo X16.here hx rfl (hb hby d1_25) rfl (teq (hc3 : (4 : Int32) = c)).2 ?_
            show Steps p.tables e below (T16.setTop (mkF m 28 #[.val (.int c), .val (.ref bv1), .val (.int (4 : Int32)), .val (.int (3 : Int32)), .val (.ref wR)] [])) tt
            refine XS.aload X16.here hx rfl (hb hby d1_28) rfl rfl ?_
            exact kk
          obtain ⟨fs, hr, hrun, hended, hW, hsame⟩ := X16.leave (v := some (.ref wR)) (fun hq => by rw [Bd.returns] at hq; cases hq)
          refine ⟨_, _, k18 _ ?_, hrun, hended, _, _, rfl, ?_, ⟨_, rfl⟩, hW, hsame.mono (by decide) (by decide)⟩
          · show Steps p.tables e below (T16.setTop (mkF m 30 #[.val (.int c), .val (.ref bv1), .val (.int (4 : Int32)), .val (.int (3 : Int32)), .val (.ref wR)] [(.ref wR)])) _
            jvm_step X16.here [X16.here.top, hx, (hb hby d1_30), X16.method', Bd.returns, Value.isRef, FieldType.isReference]
            first | (intro acts; rw [hr _ acts rfl rfl rfl]) | rw [hr _ _ rfl rfl rfl]
            exact Steps.refl _
          · show (fun (v : Option Value) (h : Heap) (L : List Loc) => v = some (own_of c wM wT wO wR) ∧ Fr n0 L ∧ Keep h0 h []) _ T16.heap _
            rw [e16]
            dsimp only
            refine ⟨?_, N1, Kt1⟩
            simp [own_of, Ne.symm hc0, Ne.symm hc1, Ne.symm hc2, hc3.symm]
        · have k19 : ∀ tt, Steps p.tables e below (T16.setTop (mkF m 38 #[.val (.int c), .val (.ref bv1), .val (.int (4 : Int32)), .val (.int (4 : Int32)), .val (.ref wR)] [.null])) tt → Steps p.tables e below (s₁.setTop (entryFrame m #[(.int c)] 5)) tt := by
            intro tt kk
            refine k17 tt ?_
            show Steps p.tables e below (T16.setTop (mkF m 25 #[.val (.int c), .val (.ref bv1), .val (.int (4 : Int32)), .val (.int (3 : Int32)), .val (.ref wR)] [(.int c), (.int (4 : Int32))])) tt
            refine XS.icmpYes X16.here hx rfl (pc0 := 25) (pc' := 31) rfl (hb hby d1_25) rfl (feq (hc3 : ¬ ((4 : Int32) = c))).2 (by decide) (by decide) ?_
            show Steps p.tables e below (T16.setTop (mkF m 31 #[.val (.int c), .val (.ref bv1), .val (.int (4 : Int32)), .val (.int (3 : Int32)), .val (.ref wR)] [])) tt
            refine XS.iinc X16.here hx rfl (hb hby d1_31) rfl (l' := #[.val (.int c), .val (.ref bv1), .val (.int (4 : Int32)), .val (.int (4 : Int32)), .val (.ref wR)]) rfl ?_
            show Steps p.tables e below (T16.setTop (mkF m 34 #[.val (.int c), .val (.ref bv1), .val (.int (4 : Int32)), .val (.int (4 : Int32)), .val (.ref wR)] [])) tt
            refine XS.goto X16.here hx rfl (pc0 := 34) (pc' := 9) rfl (hb hby d1_34) (by decide) (by decide) ?_
            show Steps p.tables e below (T16.setTop (mkF m 9 #[.val (.int c), .val (.ref bv1), .val (.int (4 : Int32)), .val (.int (4 : Int32)), .val (.ref wR)] [])) tt
            refine XS.iloadN X16.here hx rfl (hb hby d1_9) rfl ?_
            show Steps p.tables e below (T16.setTop (mkF m 10 #[.val (.int c), .val (.ref bv1), .val (.int (4 : Int32)), .val (.int (4 : Int32)), .val (.ref wR)] [(.int (4 : Int32))])) tt
            refine XS.iloadN X16.here hx rfl (hb hby d1_10) rfl ?_
            show Steps p.tables e below (T16.setTop (mkF m 11 #[.val (.int c), .val (.ref bv1), .val (.int (4 : Int32)), .val (.int (4 : Int32)), .val (.ref wR)] [(.int (4 : Int32)), (.int (4 : Int32))])) tt
            refine XS.icmpYes X16.here hx rfl (pc0 := 11) (pc' := 37) rfl (hb hby d1_11) rfl (flt (by decide : ¬ ((4 : Int32) < (4 : Int32)))).2.1 (by decide) (by decide) ?_
            show Steps p.tables e below (T16.setTop (mkF m 37 #[.val (.int c), .val (.ref bv1), .val (.int (4 : Int32)), .val (.int (4 : Int32)), .val (.ref wR)] [])) tt
            refine XS.aconstNull X16.here hx rfl (hb hby d1_37) ?_
            exact kk
          obtain ⟨fs, hr, hrun, hended, hW, hsame⟩ := X16.leave (v := some .null) (fun hq => by rw [Bd.returns] at hq; cases hq)
          refine ⟨_, _, k19 _ ?_, hrun, hended, _, _, rfl, ?_, ⟨_, rfl⟩, hW, hsame.mono (by decide) (by decide)⟩
          · show Steps p.tables e below (T16.setTop (mkF m 38 #[.val (.int c), .val (.ref bv1), .val (.int (4 : Int32)), .val (.int (4 : Int32)), .val (.ref wR)] [.null])) _
            jvm_step X16.here [X16.here.top, hx, (hb hby d1_38), X16.method', Bd.returns, Value.isRef, FieldType.isReference]
            first | (intro acts; rw [hr _ acts rfl rfl rfl]) | rw [hr _ _ rfl rfl rfl]
            exact Steps.refl _
          · show (fun (v : Option Value) (h : Heap) (L : List Loc) => v = some (own_of c wM wT wO wR) ∧ Fr n0 L ∧ Keep h0 h []) _ T16.heap _
            rw [e16]
            dsimp only
            refine ⟨?_, N1, Kt1⟩
            simp [own_of, Ne.symm hc0, Ne.symm hc1, Ne.symm hc2, Ne.symm hc3]
theorem own_pn_3 : plainName "com/example/gavel/gavel/store/KindOfPinLaw" = true := by first | (simp [plainName, overriddenIn]; done) | decide +kernel
theorem d3_0 : decode method_2_code 0 = .ok (.iload_n 0, 1) := by decide +kernel
theorem d3_1 : decode method_2_code 1 = .ok (.iconst 1, 1) := by decide +kernel
theorem d3_2 : decode method_2_code 2 = .ok (.if_icmp .ne 7, 3) := by decide +kernel
theorem d3_5 : decode method_2_code 5 = .ok (.getstatic 7, 3) := by decide +kernel
theorem d3_8 : decode method_2_code 8 = .ok (.areturn, 1) := by decide +kernel
theorem d3_9 : decode method_2_code 9 = .ok (.iload_n 0, 1) := by decide +kernel
theorem d3_10 : decode method_2_code 10 = .ok (.iconst 2, 1) := by decide +kernel
theorem d3_11 : decode method_2_code 11 = .ok (.if_icmp .ne 7, 3) := by decide +kernel
theorem d3_14 : decode method_2_code 14 = .ok (.getstatic 13, 3) := by decide +kernel
theorem d3_17 : decode method_2_code 17 = .ok (.areturn, 1) := by decide +kernel
theorem d3_18 : decode method_2_code 18 = .ok (.iload_n 0, 1) := by decide +kernel
theorem d3_19 : decode method_2_code 19 = .ok (.iconst 3, 1) := by decide +kernel
theorem d3_20 : decode method_2_code 20 = .ok (.if_icmp .ne 7, 3) := by decide +kernel
theorem d3_23 : decode method_2_code 23 = .ok (.getstatic 16, 3) := by decide +kernel
theorem d3_26 : decode method_2_code 26 = .ok (.areturn, 1) := by decide +kernel
theorem d3_27 : decode method_2_code 27 = .ok (.iload_n 0, 1) := by decide +kernel
theorem d3_28 : decode method_2_code 28 = .ok (.iconst 4, 1) := by decide +kernel
theorem d3_29 : decode method_2_code 29 = .ok (.if_icmp .ne 7, 3) := by decide +kernel
theorem d3_32 : decode method_2_code 32 = .ok (.getstatic 19, 3) := by decide +kernel
theorem d3_35 : decode method_2_code 35 = .ok (.areturn, 1) := by decide +kernel
theorem d3_36 : decode method_2_code 36 = .ok (.aconst_null, 1) := by decide +kernel
theorem d3_37 : decode method_2_code 37 = .ok (.areturn, 1) := by decide +kernel
def own_rmE_Q (Z : State) (c : Int32) (wM wT wO wR : Addr) (h0 : Heap) (n0 : Nat) (v : Option Value) (h : Heap) (L : List Loc) : Prop := v = some (own_of c wM wT wO wR) ∧ Fr n0 L ∧ h = h0
set_option maxRecDepth 65536 in
set_option maxHeartbeats 40000000 in
theorem own_rmE (l : Launch) (Z : State) (a0 : Array Value) (hw : ∀ d ∈ tables_1, d.before a0 Z = true) (ws : List Jvm.Cond) (c : Int32) (wM wT wO wR : Addr) (h0 : Heap) (n0 : Nat) (Z0 : n0 ≤ h0.size) (S_wM : Sta Z h0 "com/example/gavel/gavel/store/Kind" "MESSAGE" "Lcom/example/gavel/gavel/store/Kind;" (.ref wM)) (S_wT : Sta Z h0 "com/example/gavel/gavel/store/Kind" "TOMBSTONE" "Lcom/example/gavel/gavel/store/Kind;" (.ref wT)) (S_wO : Sta Z h0 "com/example/gavel/gavel/store/Kind" "MODERATION" "Lcom/example/gavel/gavel/store/Kind;" (.ref wO)) (S_wR : Sta Z h0 "com/example/gavel/gavel/store/Kind" "RETRACTION" "Lcom/example/gavel/gavel/store/Kind;" (.ref wR)) :
    MetFree l (⟨"com/example/gavel/gavel/store/KindOfPinLaw", "expected", "(I)Lcom/example/gavel/gavel/store/Kind;"⟩ : MethodName) (head1 (Jvm.Cond.code (⟨"com/example/gavel/gavel/store/KindOfPinLaw", "expected", "(I)Lcom/example/gavel/gavel/store/Kind;"⟩ : MethodName) method_2_code 1 (some (.object "com/example/gavel/gavel/store/Kind")) :: ws) ({ frames := 0, cells := 0, slots := 0, locals := 0 } : Room)) (fun aa UU => aa = #[(.int c)] ∧ Z.Warmed39 UU.vm ∧ UU.heap = h0) (fun _ _ _ _ _ => True) (fun _ UU oo UU' => ∃ vv LL, oo = .returned vv ∧ own_rmE_Q Z c wM wT wO wR h0 n0 vv UU'.heap LL ∧ FrameEnd UU oo UU' LL ({ frames := 0, cells := 0, slots := 0, locals := 0 } : Room).cells ({ frames := 0, cells := 0, slots := 0, locals := 0 } : Room).slots) := by
  refine MetFree.of_bodySF (plainFor_of_name own_pn_3) hisR ?_
  intro p e s m args below meth cc s₁ Bd hml0 hP hK
  obtain ⟨rfl, hZ, hh⟩ := hP
  have hx := Bd.exec
  have hby := Bd.bytes
  have hml : cc.maxLocals = 1 := hml0
  have hown : s.vm.findClass "com/example/gavel/gavel/store/KindOfPinLaw" = some m.cls := findClass_of_methodNamed Bd.named
  have hnm := (name_of_methodNamed Bd.named Bd.method).1
  have X0 : Stand p l e ({ frames := 0, cells := 0, slots := 0, locals := 0 } : Room) s m #[(.int c)] below meth cc s₁ [] 0 0 := Stand.of_body Bd
  have e0 : s₁.heap = h0 := by rw [← hh, Bd.state]; rfl
  have N0 := Fr.nil n0
  have k0 : ∀ tt, Steps p.tables e below (s₁.setTop (mkF m 0 #[.val (.int c)] [])) tt → Steps p.tables e below (s₁.setTop (entryFrame m #[(.int c)] 1)) tt := fun tt kk => castTop (by first | (simp [entryFrame, mkF, argsToLocals, Value.category]; done) | rfl) kk
  have k1 : ∀ tt, Steps p.tables e below (s₁.setTop (mkF m 2 #[.val (.int c)] [(.int (1 : Int32)), (.int c)])) tt → Steps p.tables e below (s₁.setTop (entryFrame m #[(.int c)] 1)) tt := by
    intro tt kk
    refine k0 tt ?_
    show Steps p.tables e below (s₁.setTop (mkF m 0 #[.val (.int c)] [])) tt
    refine XS.iloadN X0.here hx rfl (hb hby d3_0) rfl ?_
    show Steps p.tables e below (s₁.setTop (mkF m 1 #[.val (.int c)] [(.int c)])) tt
    refine XS.iconst X0.here hx rfl (hb hby d3_1) ?_
    exact kk
  by_cases c2_2 : c = (1 : Int32)
  · obtain ⟨T3, X3, e3, st3⟩ := getS2 X0 hx hZ hown (host := "") (Or.inl (hw _ (List.mem_of_getElem? (i := 29) rfl))) Via.refl e0 S_wM (g := (mkF m 5 #[.val (.int c)] [])) rfl (hb hby d3_5)
    have k4 : ∀ tt, Steps p.tables e below (T3.setTop (mkF m 8 #[.val (.int c)] [(.ref wM)])) tt → Steps p.tables e below (s₁.setTop (entryFrame m #[(.int c)] 1)) tt := by
      intro tt kk
      refine k1 tt ?_
      show Steps p.tables e below (s₁.setTop (mkF m 2 #[.val (.int c)] [(.int (1 : Int32)), (.int c)])) tt
      refine XS.icmpNo X0.here hx rfl (hb hby d3_2) rfl (teq (c2_2 : c = (1 : Int32))).2 ?_
      show Steps p.tables e below (s₁.setTop (mkF m 5 #[.val (.int c)] [])) tt
      refine st3 _ ?_
      exact kk
    obtain ⟨fs, hr, hrun, hended, hW, hsame⟩ := X3.leave (v := some (.ref wM)) (fun hq => by rw [Bd.returns] at hq; cases hq)
    refine ⟨_, _, k4 _ ?_, hrun, hended, _, _, rfl, ?_, ⟨_, rfl⟩, hW, hsame.mono (by decide) (by decide)⟩
    · show Steps p.tables e below (T3.setTop (mkF m 8 #[.val (.int c)] [(.ref wM)])) _
      jvm_step X3.here [X3.here.top, hx, (hb hby d3_8), X3.method', Bd.returns, Value.isRef, FieldType.isReference]
      first | (intro acts; rw [hr _ acts rfl rfl rfl]) | rw [hr _ _ rfl rfl rfl]
      exact Steps.refl _
    · show (fun (v : Option Value) (h : Heap) (L : List Loc) => v = some (own_of c wM wT wO wR) ∧ Fr n0 L ∧ h = h0) _ T3.heap _
      rw [e3]
      dsimp only
      refine ⟨?_, N0, rfl⟩
      simp [own_of, c2_2]
  · have k5 : ∀ tt, Steps p.tables e below (s₁.setTop (mkF m 11 #[.val (.int c)] [(.int (2 : Int32)), (.int c)])) tt → Steps p.tables e below (s₁.setTop (entryFrame m #[(.int c)] 1)) tt := by
      intro tt kk
      refine k1 tt ?_
      show Steps p.tables e below (s₁.setTop (mkF m 2 #[.val (.int c)] [(.int (1 : Int32)), (.int c)])) tt
      refine XS.icmpYes X0.here hx rfl (pc0 := 2) (pc' := 9) rfl (hb hby d3_2) rfl (feq (c2_2 : ¬ (c = (1 : Int32)))).2 (by decide) (by decide) ?_
      show Steps p.tables e below (s₁.setTop (mkF m 9 #[.val (.int c)] [])) tt
      refine XS.iloadN X0.here hx rfl (hb hby d3_9) rfl ?_
      show Steps p.tables e below (s₁.setTop (mkF m 10 #[.val (.int c)] [(.int c)])) tt
      refine XS.iconst X0.here hx rfl (hb hby d3_10) ?_
      exact kk
    by_cases c11_6 : c = (2 : Int32)
    · obtain ⟨T7, X7, e7, st7⟩ := getS2 X0 hx hZ hown (host := "") (Or.inl (hw _ (List.mem_of_getElem? (i := 35) rfl))) Via.refl e0 S_wT (g := (mkF m 14 #[.val (.int c)] [])) rfl (hb hby d3_14)
      have k8 : ∀ tt, Steps p.tables e below (T7.setTop (mkF m 17 #[.val (.int c)] [(.ref wT)])) tt → Steps p.tables e below (s₁.setTop (entryFrame m #[(.int c)] 1)) tt := by
        intro tt kk
        refine k5 tt ?_
        show Steps p.tables e below (s₁.setTop (mkF m 11 #[.val (.int c)] [(.int (2 : Int32)), (.int c)])) tt
        refine XS.icmpNo X0.here hx rfl (hb hby d3_11) rfl (teq (c11_6 : c = (2 : Int32))).2 ?_
        show Steps p.tables e below (s₁.setTop (mkF m 14 #[.val (.int c)] [])) tt
        refine st7 _ ?_
        exact kk
      obtain ⟨fs, hr, hrun, hended, hW, hsame⟩ := X7.leave (v := some (.ref wT)) (fun hq => by rw [Bd.returns] at hq; cases hq)
      refine ⟨_, _, k8 _ ?_, hrun, hended, _, _, rfl, ?_, ⟨_, rfl⟩, hW, hsame.mono (by decide) (by decide)⟩
      · show Steps p.tables e below (T7.setTop (mkF m 17 #[.val (.int c)] [(.ref wT)])) _
        jvm_step X7.here [X7.here.top, hx, (hb hby d3_17), X7.method', Bd.returns, Value.isRef, FieldType.isReference]
        first | (intro acts; rw [hr _ acts rfl rfl rfl]) | rw [hr _ _ rfl rfl rfl]
        exact Steps.refl _
      · show (fun (v : Option Value) (h : Heap) (L : List Loc) => v = some (own_of c wM wT wO wR) ∧ Fr n0 L ∧ h = h0) _ T7.heap _
        rw [e7]
        dsimp only
        refine ⟨?_, N0, rfl⟩
        simp [own_of, c2_2, c11_6]
    · have k9 : ∀ tt, Steps p.tables e below (s₁.setTop (mkF m 20 #[.val (.int c)] [(.int (3 : Int32)), (.int c)])) tt → Steps p.tables e below (s₁.setTop (entryFrame m #[(.int c)] 1)) tt := by
        intro tt kk
        refine k5 tt ?_
        show Steps p.tables e below (s₁.setTop (mkF m 11 #[.val (.int c)] [(.int (2 : Int32)), (.int c)])) tt
        refine XS.icmpYes X0.here hx rfl (pc0 := 11) (pc' := 18) rfl (hb hby d3_11) rfl (feq (c11_6 : ¬ (c = (2 : Int32)))).2 (by decide) (by decide) ?_
        show Steps p.tables e below (s₁.setTop (mkF m 18 #[.val (.int c)] [])) tt
        refine XS.iloadN X0.here hx rfl (hb hby d3_18) rfl ?_
        show Steps p.tables e below (s₁.setTop (mkF m 19 #[.val (.int c)] [(.int c)])) tt
        refine XS.iconst X0.here hx rfl (hb hby d3_19) ?_
        exact kk
      by_cases c20_10 : c = (3 : Int32)
      · obtain ⟨T11, X11, e11, st11⟩ := getS2 X0 hx hZ hown (host := "") (Or.inl (hw _ (List.mem_of_getElem? (i := 36) rfl))) Via.refl e0 S_wO (g := (mkF m 23 #[.val (.int c)] [])) rfl (hb hby d3_23)
        have k12 : ∀ tt, Steps p.tables e below (T11.setTop (mkF m 26 #[.val (.int c)] [(.ref wO)])) tt → Steps p.tables e below (s₁.setTop (entryFrame m #[(.int c)] 1)) tt := by
          intro tt kk
          refine k9 tt ?_
          show Steps p.tables e below (s₁.setTop (mkF m 20 #[.val (.int c)] [(.int (3 : Int32)), (.int c)])) tt
          refine XS.icmpNo X0.here hx rfl (hb hby d3_20) rfl (teq (c20_10 : c = (3 : Int32))).2 ?_
          show Steps p.tables e below (s₁.setTop (mkF m 23 #[.val (.int c)] [])) tt
          refine st11 _ ?_
          exact kk
        obtain ⟨fs, hr, hrun, hended, hW, hsame⟩ := X11.leave (v := some (.ref wO)) (fun hq => by rw [Bd.returns] at hq; cases hq)
        refine ⟨_, _, k12 _ ?_, hrun, hended, _, _, rfl, ?_, ⟨_, rfl⟩, hW, hsame.mono (by decide) (by decide)⟩
        · show Steps p.tables e below (T11.setTop (mkF m 26 #[.val (.int c)] [(.ref wO)])) _
          jvm_step X11.here [X11.here.top, hx, (hb hby d3_26), X11.method', Bd.returns, Value.isRef, FieldType.isReference]
          first | (intro acts; rw [hr _ acts rfl rfl rfl]) | rw [hr _ _ rfl rfl rfl]
          exact Steps.refl _
        · show (fun (v : Option Value) (h : Heap) (L : List Loc) => v = some (own_of c wM wT wO wR) ∧ Fr n0 L ∧ h = h0) _ T11.heap _
          rw [e11]
          dsimp only
          refine ⟨?_, N0, rfl⟩
          simp [own_of, c2_2, c11_6, c20_10]
      · have k13 : ∀ tt, Steps p.tables e below (s₁.setTop (mkF m 29 #[.val (.int c)] [(.int (4 : Int32)), (.int c)])) tt → Steps p.tables e below (s₁.setTop (entryFrame m #[(.int c)] 1)) tt := by
          intro tt kk
          refine k9 tt ?_
          show Steps p.tables e below (s₁.setTop (mkF m 20 #[.val (.int c)] [(.int (3 : Int32)), (.int c)])) tt
          refine XS.icmpYes X0.here hx rfl (pc0 := 20) (pc' := 27) rfl (hb hby d3_20) rfl (feq (c20_10 : ¬ (c = (3 : Int32)))).2 (by decide) (by decide) ?_
          show Steps p.tables e below (s₁.setTop (mkF m 27 #[.val (.int c)] [])) tt
          refine XS.iloadN X0.here hx rfl (hb hby d3_27) rfl ?_
          show Steps p.tables e below (s₁.setTop (mkF m 28 #[.val (.int c)] [(.int c)])) tt
          refine XS.iconst X0.here hx rfl (hb hby d3_28) ?_
          exact kk
        by_cases c29_14 : c = (4 : Int32)
        · obtain ⟨T15, X15, e15, st15⟩ := getS2 X0 hx hZ hown (host := "") (Or.inl (hw _ (List.mem_of_getElem? (i := 37) rfl))) Via.refl e0 S_wR (g := (mkF m 32 #[.val (.int c)] [])) rfl (hb hby d3_32)
          have k16 : ∀ tt, Steps p.tables e below (T15.setTop (mkF m 35 #[.val (.int c)] [(.ref wR)])) tt → Steps p.tables e below (s₁.setTop (entryFrame m #[(.int c)] 1)) tt := by
            intro tt kk
            refine k13 tt ?_
            show Steps p.tables e below (s₁.setTop (mkF m 29 #[.val (.int c)] [(.int (4 : Int32)), (.int c)])) tt
            refine XS.icmpNo X0.here hx rfl (hb hby d3_29) rfl (teq (c29_14 : c = (4 : Int32))).2 ?_
            show Steps p.tables e below (s₁.setTop (mkF m 32 #[.val (.int c)] [])) tt
            refine st15 _ ?_
            exact kk
          obtain ⟨fs, hr, hrun, hended, hW, hsame⟩ := X15.leave (v := some (.ref wR)) (fun hq => by rw [Bd.returns] at hq; cases hq)
          refine ⟨_, _, k16 _ ?_, hrun, hended, _, _, rfl, ?_, ⟨_, rfl⟩, hW, hsame.mono (by decide) (by decide)⟩
          · show Steps p.tables e below (T15.setTop (mkF m 35 #[.val (.int c)] [(.ref wR)])) _
            jvm_step X15.here [X15.here.top, hx, (hb hby d3_35), X15.method', Bd.returns, Value.isRef, FieldType.isReference]
            first | (intro acts; rw [hr _ acts rfl rfl rfl]) | rw [hr _ _ rfl rfl rfl]
            exact Steps.refl _
          · show (fun (v : Option Value) (h : Heap) (L : List Loc) => v = some (own_of c wM wT wO wR) ∧ Fr n0 L ∧ h = h0) _ T15.heap _
            rw [e15]
            dsimp only
            refine ⟨?_, N0, rfl⟩
            simp [own_of, c2_2, c11_6, c20_10, c29_14]
        · have k17 : ∀ tt, Steps p.tables e below (s₁.setTop (mkF m 37 #[.val (.int c)] [.null])) tt → Steps p.tables e below (s₁.setTop (entryFrame m #[(.int c)] 1)) tt := by
            intro tt kk
            refine k13 tt ?_
            show Steps p.tables e below (s₁.setTop (mkF m 29 #[.val (.int c)] [(.int (4 : Int32)), (.int c)])) tt
            refine XS.icmpYes X0.here hx rfl (pc0 := 29) (pc' := 36) rfl (hb hby d3_29) rfl (feq (c29_14 : ¬ (c = (4 : Int32)))).2 (by decide) (by decide) ?_
            show Steps p.tables e below (s₁.setTop (mkF m 36 #[.val (.int c)] [])) tt
            refine XS.aconstNull X0.here hx rfl (hb hby d3_36) ?_
            exact kk
          obtain ⟨fs, hr, hrun, hended, hW, hsame⟩ := X0.leave (v := some .null) (fun hq => by rw [Bd.returns] at hq; cases hq)
          refine ⟨_, _, k17 _ ?_, hrun, hended, _, _, rfl, ?_, ⟨_, rfl⟩, hW, hsame.mono (by decide) (by decide)⟩
          · show Steps p.tables e below (s₁.setTop (mkF m 37 #[.val (.int c)] [.null])) _
            jvm_step X0.here [X0.here.top, hx, (hb hby d3_37), X0.method', Bd.returns, Value.isRef, FieldType.isReference]
            first | (intro acts; rw [hr _ acts rfl rfl rfl]) | rw [hr _ _ rfl rfl rfl]
            exact Steps.refl _
          · show (fun (v : Option Value) (h : Heap) (L : List Loc) => v = some (own_of c wM wT wO wR) ∧ Fr n0 L ∧ h = h0) _ s₁.heap _
            rw [e0]
            dsimp only
            refine ⟨?_, N0, rfl⟩
            simp [own_of, c2_2, c11_6, c20_10, c29_14]
theorem own_pn_4 : plainName "com/example/gavel/gavel/store/Kind" = true := by first | (simp [plainName, overriddenIn]; done) | decide +kernel
theorem d4_0 : decode prog_35_method_5_code 0 = .ok (.aload_n 0, 1) := by decide +kernel
theorem d4_1 : decode prog_35_method_5_code 1 = .ok (.getfield 35, 3) := by decide +kernel
theorem d4_4 : decode prog_35_method_5_code 4 = .ok (.ireturn, 1) := by decide +kernel
def own_rmC_Q (Z : State) (a : Addr) (z : Int32) (h0 : Heap) (n0 : Nat) (v : Option Value) (h : Heap) (L : List Loc) : Prop := v = some (.int z) ∧ Fr n0 L ∧ h = h0
set_option maxRecDepth 65536 in
set_option maxHeartbeats 40000000 in
theorem own_rmC (l : Launch) (Z : State) (a0 : Array Value) (hw : ∀ d ∈ tables_1, d.before a0 Z = true) (ws : List Jvm.Cond) (a : Addr) (z : Int32) (h0 : Heap) (n0 : Nat) (Z0 : n0 ≤ h0.size) (F : Fld Z h0 a "com/example/gavel/gavel/store/Kind" "code" "I" (.int z)) :
    MetFree l (⟨"com/example/gavel/gavel/store/Kind", "code", "()I"⟩ : MethodName) (head1 (Jvm.Cond.code (⟨"com/example/gavel/gavel/store/Kind", "code", "()I"⟩ : MethodName) prog_35_method_5_code 1 (some .int) :: ws) ({ frames := 0, cells := 0, slots := 0, locals := 0 } : Room)) (fun aa UU => aa = #[(.ref a)] ∧ Z.Warmed39 UU.vm ∧ UU.heap = h0) (fun _ _ _ _ _ => True) (fun _ UU oo UU' => ∃ vv LL, oo = .returned vv ∧ own_rmC_Q Z a z h0 n0 vv UU'.heap LL ∧ FrameEnd UU oo UU' LL ({ frames := 0, cells := 0, slots := 0, locals := 0 } : Room).cells ({ frames := 0, cells := 0, slots := 0, locals := 0 } : Room).slots) := by
  refine MetFree.of_bodySF (plainFor_of_name own_pn_4) hisR ?_
  intro p e s m args below meth cc s₁ Bd hml0 hP hK
  obtain ⟨rfl, hZ, hh⟩ := hP
  have hx := Bd.exec
  have hby := Bd.bytes
  have hml : cc.maxLocals = 1 := hml0
  have hown : s.vm.findClass "com/example/gavel/gavel/store/Kind" = some m.cls := findClass_of_methodNamed Bd.named
  have hnm := (name_of_methodNamed Bd.named Bd.method).1
  have X0 : Stand p l e ({ frames := 0, cells := 0, slots := 0, locals := 0 } : Room) s m #[(.ref a)] below meth cc s₁ [] 0 0 := Stand.of_body Bd
  have e0 : s₁.heap = h0 := by rw [← hh, Bd.state]; rfl
  have N0 := Fr.nil n0
  have k0 : ∀ tt, Steps p.tables e below (s₁.setTop (mkF m 0 #[.val (.ref a)] [])) tt → Steps p.tables e below (s₁.setTop (entryFrame m #[(.ref a)] 1)) tt := fun tt kk => castTop (by first | (simp [entryFrame, mkF, argsToLocals, Value.category]; done) | rfl) kk
  obtain ⟨T1, X1, e1, st1⟩ := getF X0 hx hZ hown (host := "") (Or.inl (hw _ (List.mem_of_getElem? (i := 23) rfl))) Via.refl e0 F (g := (mkF m 1 #[.val (.ref a)] [(.ref a)])) rfl rfl (hb hby d4_1)
  have k2 : ∀ tt, Steps p.tables e below (T1.setTop (mkF m 4 #[.val (.ref a)] [(.int z)])) tt → Steps p.tables e below (s₁.setTop (entryFrame m #[(.ref a)] 1)) tt := by
    intro tt kk
    refine k0 tt ?_
    show Steps p.tables e below (s₁.setTop (mkF m 0 #[.val (.ref a)] [])) tt
    refine XS.aloadN X0.here hx rfl (hb hby d4_0) rfl rfl ?_
    show Steps p.tables e below (s₁.setTop (mkF m 1 #[.val (.ref a)] [(.ref a)])) tt
    refine st1 _ ?_
    exact kk
  obtain ⟨fs, hr, hrun, hended, hW, hsame⟩ := X1.leave (v := some (.int z)) (fun hq => by rw [Bd.returns] at hq; cases hq)
  refine ⟨_, _, k2 _ ?_, hrun, hended, _, _, rfl, ?_, ⟨_, rfl⟩, hW, hsame.mono (by decide) (by decide)⟩
  · show Steps p.tables e below (T1.setTop (mkF m 4 #[.val (.ref a)] [(.int z)])) _
    exact retI X1 hx Bd.returns (hb hby d4_4) hr
  · show (fun (v : Option Value) (h : Heap) (L : List Loc) => v = some (.int z) ∧ Fr n0 L ∧ h = h0) _ T1.heap _
    rw [e1]
    dsimp only
    exact ⟨rfl, N0, rfl⟩
theorem own_pn_0 : plainName "com/example/gavel/gavel/store/KindOfPinLaw" = true := by first | (simp [plainName, overriddenIn]; done) | decide +kernel
theorem own_pd__I_Lcom_example_gavel_gavel_store_Kind_ : parseMethodDescriptor "(I)Lcom/example/gavel/gavel/store/Kind;" = some ⟨[.int], some (.object "com/example/gavel/gavel/store/Kind")⟩ := by decide +kernel
theorem own_pd___I : parseMethodDescriptor "()I" = some ⟨[], some .int⟩ := by decide +kernel
def own_rm0_Q (Z : State) (x1 : Int32) (sel : Int32) (wA : Addr) (kA : ClassId) (wM wT wO wR : Addr) (h0 : Heap) (n0 : Nat) (v : Option Value) (h : Heap) (L : List Loc) : Prop := v = some (.int (1 : Int32)) ∧ Fr n0 L
set_option maxRecDepth 65536 in
set_option maxHeartbeats 40000000 in
theorem own_rm0 (l : Launch) (Z : State) (a0 : Array Value) (hw : ∀ d ∈ tables_1, d.before a0 Z = true) (ws : List Jvm.Cond) (x1 : Int32) (sel : Int32) (wA : Addr) (kA : ClassId) (wM wT wO wR : Addr) (h0 : Heap) (n0 : Nat) (Z0 : n0 ≤ h0.size) (S_A : Sta Z h0 "com/example/gavel/gavel/store/Kind" "$VALUES" "[Lcom/example/gavel/gavel/store/Kind;" (.ref wA)) (E_A : Exa Z h0 wA "[Lcom/example/gavel/gavel/store/Kind;") (V_A : Arv Z h0 wA kA (.object "com/example/gavel/gavel/store/Kind") (4 : Int32) [(.ref wM), (.ref wT), (.ref wO), (.ref wR)] .null) (F_wM : Fld Z h0 wM "com/example/gavel/gavel/store/Kind" "code" "I" (.int (1 : Int32))) (F_wT : Fld Z h0 wT "com/example/gavel/gavel/store/Kind" "code" "I" (.int (2 : Int32))) (F_wO : Fld Z h0 wO "com/example/gavel/gavel/store/Kind" "code" "I" (.int (3 : Int32))) (F_wR : Fld Z h0 wR "com/example/gavel/gavel/store/Kind" "code" "I" (.int (4 : Int32))) (S_wM : Sta Z h0 "com/example/gavel/gavel/store/Kind" "MESSAGE" "Lcom/example/gavel/gavel/store/Kind;" (.ref wM)) (S_wT : Sta Z h0 "com/example/gavel/gavel/store/Kind" "TOMBSTONE" "Lcom/example/gavel/gavel/store/Kind;" (.ref wT)) (S_wO : Sta Z h0 "com/example/gavel/gavel/store/Kind" "MODERATION" "Lcom/example/gavel/gavel/store/Kind;" (.ref wO)) (S_wR : Sta Z h0 "com/example/gavel/gavel/store/Kind" "RETRACTION" "Lcom/example/gavel/gavel/store/Kind;" (.ref wR)) (E_wM : Exa Z h0 wM "com/example/gavel/gavel/store/Kind") (E_wT : Exa Z h0 wT "com/example/gavel/gavel/store/Kind") (E_wO : Exa Z h0 wO "com/example/gavel/gavel/store/Kind") (E_wR : Exa Z h0 wR "com/example/gavel/gavel/store/Kind") :
    MetFree l x (head1 (Jvm.Cond.code x code maxLocals ret :: ws) room_1) (fun aa UU => aa = #[(.int x1), (.int sel)] ∧ Z.Warmed39 UU.vm ∧ UU.heap = h0) (fun _ _ _ _ _ => True) (fun _ UU oo UU' => ∃ vv LL, oo = .returned vv ∧ own_rm0_Q Z x1 sel wA kA wM wT wO wR h0 n0 vv UU'.heap LL ∧ FrameEnd UU oo UU' LL room_1.cells room_1.slots) := by
  refine MetFree.of_bodySF (plainFor_of_name own_pn_0) hisR ?_
  intro p e s m args below meth cc s₁ Bd hml0 hP hK
  obtain ⟨rfl, hZ, hh⟩ := hP
  have hx := Bd.exec
  have hby := Bd.bytes
  have hml : cc.maxLocals = 6 := hml0
  have hown : s.vm.findClass "com/example/gavel/gavel/store/KindOfPinLaw" = some m.cls := findClass_of_methodNamed Bd.named
  have hnm := (name_of_methodNamed Bd.named Bd.method).1
  have X0 : Stand p l e room_1 s m #[(.int x1), (.int sel)] below meth cc s₁ [] 0 0 := Stand.of_body Bd
  have e0 : s₁.heap = h0 := by rw [← hh, Bd.state]; rfl
  have N0 := Fr.nil n0
  have k0 : ∀ tt, Steps p.tables e below (s₁.setTop (mkF m 0 #[.val (.int x1), .val (.int sel), .unset, .unset, .unset, .unset] [])) tt → Steps p.tables e below (s₁.setTop (entryFrame m #[(.int x1), (.int sel)] maxLocals)) tt := fun tt kk => castTop (by first | (simp [entryFrame, mkF, argsToLocals, Value.category, maxLocals]; done) | rfl) kk
  have k1 : ∀ tt, Steps p.tables e below (s₁.setTop (mkF m 3 #[.val (.int x1), .val (.int sel), .unset, .unset, .unset, .unset] [(.int (sel &&& (1 : Int32)))])) tt → Steps p.tables e below (s₁.setTop (entryFrame m #[(.int x1), (.int sel)] maxLocals)) tt := by
    intro tt kk
    refine k0 tt ?_
    show Steps p.tables e below (s₁.setTop (mkF m 0 #[.val (.int x1), .val (.int sel), .unset, .unset, .unset, .unset] [])) tt
    refine XS.iloadN X0.here hx rfl (hb hby at_0) rfl ?_
    show Steps p.tables e below (s₁.setTop (mkF m 1 #[.val (.int x1), .val (.int sel), .unset, .unset, .unset, .unset] [(.int sel)])) tt
    refine XS.iconst X0.here hx rfl (hb hby at_1) ?_
    show Steps p.tables e below (s₁.setTop (mkF m 2 #[.val (.int x1), .val (.int sel), .unset, .unset, .unset, .unset] [(.int (1 : Int32)), (.int sel)])) tt
    refine XS.iand X0.here hx rfl (hb hby at_2) rfl ?_
    exact kk
  by_cases c3_2 : (sel &&& (1 : Int32)) = (0 : Int32)
  · have k3 : ∀ tt, Steps p.tables e below (s₁.setTop (mkF m 30 #[.val (.int x1), .val (.int sel), .val (.int (0 : Int32)), .val (.int x1), .unset, .unset] [(.int x1)])) tt → Steps p.tables e below (s₁.setTop (entryFrame m #[(.int x1), (.int sel)] maxLocals)) tt := by
      intro tt kk
      refine k1 tt ?_
      show Steps p.tables e below (s₁.setTop (mkF m 3 #[.val (.int x1), .val (.int sel), .unset, .unset, .unset, .unset] [(.int (sel &&& (1 : Int32)))])) tt
      refine XS.ifYes X0.here hx rfl (pc0 := 3) (pc' := 10) rfl (hb hby at_3) rfl ((if0 _ _).trans (teq (c3_2 : (sel &&& (1 : Int32)) = (0 : Int32))).1) (by decide) (by decide) ?_
      show Steps p.tables e below (s₁.setTop (mkF m 10 #[.val (.int x1), .val (.int sel), .unset, .unset, .unset, .unset] [])) tt
      refine XS.iconst X0.here hx rfl (hb hby at_10) ?_
      show Steps p.tables e below (s₁.setTop (mkF m 11 #[.val (.int x1), .val (.int sel), .unset, .unset, .unset, .unset] [(.int (0 : Int32))])) tt
      refine XS.istoreN X0.here hx rfl (hb hby at_11) rfl (l' := #[.val (.int x1), .val (.int sel), .val (.int (0 : Int32)), .unset, .unset, .unset]) rfl ?_
      show Steps p.tables e below (s₁.setTop (mkF m 12 #[.val (.int x1), .val (.int sel), .val (.int (0 : Int32)), .unset, .unset, .unset] [])) tt
      refine XS.iloadN X0.here hx rfl (hb hby at_12) rfl ?_
      show Steps p.tables e below (s₁.setTop (mkF m 13 #[.val (.int x1), .val (.int sel), .val (.int (0 : Int32)), .unset, .unset, .unset] [(.int (0 : Int32))])) tt
      refine XS.ifYes X0.here hx rfl (pc0 := 13) (pc' := 27) rfl (hb hby at_13) rfl ((if0 _ _).trans (teq (by decide : (0 : Int32) = (0 : Int32))).1) (by decide) (by decide) ?_
      show Steps p.tables e below (s₁.setTop (mkF m 27 #[.val (.int x1), .val (.int sel), .val (.int (0 : Int32)), .unset, .unset, .unset] [])) tt
      refine XS.iloadN X0.here hx rfl (hb hby at_27) rfl ?_
      show Steps p.tables e below (s₁.setTop (mkF m 28 #[.val (.int x1), .val (.int sel), .val (.int (0 : Int32)), .unset, .unset, .unset] [(.int x1)])) tt
      refine XS.istoreN X0.here hx rfl (hb hby at_28) rfl (l' := #[.val (.int x1), .val (.int sel), .val (.int (0 : Int32)), .val (.int x1), .unset, .unset]) rfl ?_
      show Steps p.tables e below (s₁.setTop (mkF m 29 #[.val (.int x1), .val (.int sel), .val (.int (0 : Int32)), .val (.int x1), .unset, .unset] [])) tt
      refine XS.iloadN X0.here hx rfl (hb hby at_29) rfl ?_
      exact kk
    by_cases hk1 : x1 = (1 : Int32)
    · have own_mark : True := trivial
      obtain ⟨_, _, ⟨T4, L4, ka4, na4⟩, -, X4, ⟨Lc4, hQ4, l4, y4, z4⟩, st4⟩ := Jvm.LawKit.callS X0 hx (y := (⟨"com/example/gavel/gavel/store/Kind", "of", "(I)Lcom/example/gavel/gavel/store/Kind;"⟩ : MethodName)) hown (mvT hZ (hw _ (List.mem_of_getElem? (i := 0) rfl))) (mvT hZ (hw _ (List.mem_of_getElem? (i := 1) rfl))) (mvT hZ (hw _ (List.mem_of_getElem? (i := 2) rfl))) (mvT hZ (hw _ (List.mem_of_getElem? (i := 3) rfl))) (by decide) (backOf (W := 0) (own_rmO l Z a0 hw [] x1 wA kA wM wT wO wR h0 n0 Z0 S_A E_A V_A F_wM F_wT F_wO F_wR) hZ (hw _ (List.mem_of_getElem? (i := 3) rfl)) (hw _ (List.mem_of_getElem? (i := 2) rfl)) (by decide) (by decide)) (g := (mkF m 30 #[.val (.int x1), .val (.int sel), .val (.int (0 : Int32)), .val (.int x1), .unset, .unset] [(.int x1)])) rfl (by rw [hml]; rfl) (argsL := [(.int x1)]) (rest := []) (lenOf own_pd__I_Lcom_example_gavel_gavel_store_Kind_ rfl) rfl (by show 2 * 0 + _ ≤ _; exact Nat.le_of_eq rfl) (hb hby at_30) (fun _ _ => ⟨rfl, e0, (by decide : 0 + 1 ≤ _), (by decide : 0 + 4 ≤ _)⟩)
      dsimp only [Pt.U, Pt.locs, Pt.cells, Pt.slots] at X4 l4 y4 z4 st4 hQ4
      subst l4 y4 z4
      obtain ⟨hv4, Nq4, K4⟩ := hQ4
      have N4 := Fr.app N0 Nq4
      have Z4 : n0 ≤ T4.heap.size := Nat.le_trans Z0 K4.1
      have Kt4 := Keep.trans (Keep.refl h0 []) K4 all0
      rw [own_of1 hk1] at hv4
      subst hv4
      obtain ⟨_, _, ⟨T5, L5, ka5, na5⟩, -, X5, ⟨Lc5, hQ5, l5, y5, z5⟩, st5⟩ := Jvm.LawKit.callS X4 hx (y := (⟨"com/example/gavel/gavel/store/KindOfPinLaw", "expected", "(I)Lcom/example/gavel/gavel/store/Kind;"⟩ : MethodName)) hown (mvT hZ (hw _ (List.mem_of_getElem? (i := 25) rfl))) (mvT hZ (hw _ (List.mem_of_getElem? (i := 26) rfl))) (mvT hZ (hw _ (List.mem_of_getElem? (i := 27) rfl))) (mvT hZ (hw _ (List.mem_of_getElem? (i := 28) rfl))) (by decide) (backOf (W := 0) (own_rmE l Z a0 hw [] x1 wM wT wO wR T4.heap n0 Z4 (own_sta_keep0 S_wM Kt4) (own_sta_keep0 S_wT Kt4) (own_sta_keep0 S_wO Kt4) (own_sta_keep0 S_wR Kt4)) hZ (hw _ (List.mem_of_getElem? (i := 28) rfl)) (hw _ (List.mem_of_getElem? (i := 27) rfl)) (by decide) (by decide)) (g := (mkF m 36 #[.val (.int x1), .val (.int sel), .val (.int (0 : Int32)), .val (.int x1), .val (.ref wM), .unset] [(.int x1)])) rfl (by rw [hml]; rfl) (argsL := [(.int x1)]) (rest := []) (lenOf own_pd__I_Lcom_example_gavel_gavel_store_Kind_ rfl) rfl (by show 2 * 0 + _ ≤ _; exact Nat.le_of_eq rfl) (hb hby at_36) (fun _ _ => ⟨rfl, rfl, (by decide : 1 + 0 ≤ _), (by decide : 4 + 0 ≤ _)⟩)
      dsimp only [Pt.U, Pt.locs, Pt.cells, Pt.slots] at X5 l5 y5 z5 st5 hQ5
      subst l5 y5 z5
      obtain ⟨hv5, Nq5, hh5⟩ := hQ5
      have N5 := Fr.app N4 Nq5
      rw [own_of1 hk1] at hv5
      subst hv5
      obtain ⟨cq6, kq6, q6a, q6b, q6c⟩ := isOf hZ hh5 (Exa.keep E_wM Kt4)
      obtain ⟨_, _, ⟨T6, L6, ka6, na6⟩, -, X6, ⟨Lc6, hQ6, l6, y6, z6⟩, st6⟩ := X5.virtualBack hx (y := (⟨"com/example/gavel/gavel/store/Kind", "code", "()I"⟩ : MethodName)) (z := (⟨"com/example/gavel/gavel/store/Kind", "code", "()I"⟩ : MethodName)) hown (mvT hZ (hw _ (List.mem_of_getElem? (i := 30) rfl))) (mvT hZ (hw _ (List.mem_of_getElem? (i := 31) rfl))) (notFace_of_selects (args := #[]) (mvT hZ (hw _ (List.mem_of_getElem? (i := 33) rfl)))) (mvT hZ (hw _ (List.mem_of_getElem? (i := 33) rfl))) (mvT hZ (hw _ (List.mem_of_getElem? (i := 32) rfl))) (by decide) (backOf (W := 0) (own_rmC l Z a0 hw [] wM (1 : Int32) T4.heap n0 Z4 (Fld.keep F_wM Kt4 nin0)) hZ (hw _ (List.mem_of_getElem? (i := 34) rfl)) (hw _ (List.mem_of_getElem? (i := 2) rfl)) (by decide) (by decide)) q6a q6c (g := (mkF m 57 #[.val (.int x1), .val (.int sel), .val (.int (0 : Int32)), .val (.int x1), .val (.ref wM), .val (.ref wM)] [(.ref wM)])) rfl (by rw [hml]; rfl) (Steps.refl _) (argsL := []) (rest := []) (lenOf own_pd___I rfl) rfl (by show 2 * 0 + _ ≤ _; exact Nat.le_of_eq rfl) (hb hby at_57) (fun _ _ => ⟨rfl, hh5, (by decide : 1 + 0 ≤ _), (by decide : 4 + 0 ≤ _)⟩)
      dsimp only [Pt.U, Pt.locs, Pt.cells, Pt.slots] at X6 l6 y6 z6 st6 hQ6
      subst l6 y6 z6
      obtain ⟨rfl, Nq6, hh6⟩ := hQ6
      have N6 := Fr.app N5 Nq6
      have k7 : ∀ tt, Steps p.tables e below (T6.setTop (mkF m 67 #[.val (.int x1), .val (.int sel), .val (.int (0 : Int32)), .val (.int x1), .val (.ref wM), .val (.ref wM)] [(.int (1 : Int32))])) tt → Steps p.tables e below (s₁.setTop (entryFrame m #[(.int x1), (.int sel)] maxLocals)) tt := by
        intro tt kk
        refine k3 tt ?_
        show Steps p.tables e below (s₁.setTop (mkF m 30 #[.val (.int x1), .val (.int sel), .val (.int (0 : Int32)), .val (.int x1), .unset, .unset] [(.int x1)])) tt
        refine st4 _ ?_
        show Steps p.tables e below (T4.setTop (mkF m 33 #[.val (.int x1), .val (.int sel), .val (.int (0 : Int32)), .val (.int x1), .unset, .unset] [(.ref wM)])) tt
        refine XS.astore X4.here hx rfl (hb hby at_33) rfl rfl (l' := #[.val (.int x1), .val (.int sel), .val (.int (0 : Int32)), .val (.int x1), .val (.ref wM), .unset]) rfl ?_
        show Steps p.tables e below (T4.setTop (mkF m 35 #[.val (.int x1), .val (.int sel), .val (.int (0 : Int32)), .val (.int x1), .val (.ref wM), .unset] [])) tt
        refine XS.iloadN X4.here hx rfl (hb hby at_35) rfl ?_
        show Steps p.tables e below (T4.setTop (mkF m 36 #[.val (.int x1), .val (.int sel), .val (.int (0 : Int32)), .val (.int x1), .val (.ref wM), .unset] [(.int x1)])) tt
        refine st5 _ ?_
        show Steps p.tables e below (T5.setTop (mkF m 39 #[.val (.int x1), .val (.int sel), .val (.int (0 : Int32)), .val (.int x1), .val (.ref wM), .unset] [(.ref wM)])) tt
        refine XS.astore X5.here hx rfl (hb hby at_39) rfl rfl (l' := #[.val (.int x1), .val (.int sel), .val (.int (0 : Int32)), .val (.int x1), .val (.ref wM), .val (.ref wM)]) rfl ?_
        show Steps p.tables e below (T5.setTop (mkF m 41 #[.val (.int x1), .val (.int sel), .val (.int (0 : Int32)), .val (.int x1), .val (.ref wM), .val (.ref wM)] [])) tt
        refine XS.aload X5.here hx rfl (hb hby at_41) rfl rfl ?_
        show Steps p.tables e below (T5.setTop (mkF m 43 #[.val (.int x1), .val (.int sel), .val (.int (0 : Int32)), .val (.int x1), .val (.ref wM), .val (.ref wM)] [(.ref wM)])) tt
        refine XS.aload X5.here hx rfl (hb hby at_43) rfl rfl ?_
        show Steps p.tables e below (T5.setTop (mkF m 45 #[.val (.int x1), .val (.int sel), .val (.int (0 : Int32)), .val (.int x1), .val (.ref wM), .val (.ref wM)] [(.ref wM), (.ref wM)])) tt
        refine Jvm.RoadKit.acmp (g := (mkF m 45 #[.val (.int x1), .val (.int sel), .val (.int (0 : Int32)), .val (.int x1), .val (.ref wM), .val (.ref wM)] [(.ref wM), (.ref wM)])) X5 hx rfl rfl rfl (pc0 := 45) (pc' := 50) (same := true) rfl (hb hby at_45) rfl (decide_eq_true rfl) (by decide) (by decide) ?_
        show Steps p.tables e below (T5.setTop (mkF m 50 #[.val (.int x1), .val (.int sel), .val (.int (0 : Int32)), .val (.int x1), .val (.ref wM), .val (.ref wM)] [])) tt
        refine XS.aload X5.here hx rfl (hb hby at_50) rfl rfl ?_
        show Steps p.tables e below (T5.setTop (mkF m 52 #[.val (.int x1), .val (.int sel), .val (.int (0 : Int32)), .val (.int x1), .val (.ref wM), .val (.ref wM)] [(.ref wM)])) tt
        refine XS.ifnullNo X5.here hx rfl (hb hby at_52) rfl ?_
        show Steps p.tables e below (T5.setTop (mkF m 55 #[.val (.int x1), .val (.int sel), .val (.int (0 : Int32)), .val (.int x1), .val (.ref wM), .val (.ref wM)] [])) tt
        refine XS.aload X5.here hx rfl (hb hby at_55) rfl rfl ?_
        show Steps p.tables e below (T5.setTop (mkF m 57 #[.val (.int x1), .val (.int sel), .val (.int (0 : Int32)), .val (.int x1), .val (.ref wM), .val (.ref wM)] [(.ref wM)])) tt
        refine st6.trans ?_
        show Steps p.tables e below (T6.setTop (mkF m 60 #[.val (.int x1), .val (.int sel), .val (.int (0 : Int32)), .val (.int x1), .val (.ref wM), .val (.ref wM)] [(.int (1 : Int32))])) tt
        refine XS.iloadN X6.here hx rfl (hb hby at_60) rfl ?_
        show Steps p.tables e below (T6.setTop (mkF m 61 #[.val (.int x1), .val (.int sel), .val (.int (0 : Int32)), .val (.int x1), .val (.ref wM), .val (.ref wM)] [(.int x1), (.int (1 : Int32))])) tt
        refine XS.icmpYes X6.here hx rfl (pc0 := 61) (pc' := 66) rfl (hb hby at_61) rfl (teq (by rw [hk1] : (1 : Int32) = x1)).1 (by decide) (by decide) ?_
        show Steps p.tables e below (T6.setTop (mkF m 66 #[.val (.int x1), .val (.int sel), .val (.int (0 : Int32)), .val (.int x1), .val (.ref wM), .val (.ref wM)] [])) tt
        refine XS.iconst X6.here hx rfl (hb hby at_66) ?_
        exact kk
      obtain ⟨fs, hr, hrun, hended, hW, hsame⟩ := X6.leave (v := some (.int (1 : Int32))) (fun hq => by rw [Bd.returns] at hq; cases hq)
      refine ⟨_, _, k7 _ ?_, hrun, hended, _, _, rfl, ?_, ⟨_, rfl⟩, hW, hsame.mono (by decide) (by decide)⟩
      · show Steps p.tables e below (T6.setTop (mkF m 67 #[.val (.int x1), .val (.int sel), .val (.int (0 : Int32)), .val (.int x1), .val (.ref wM), .val (.ref wM)] [(.int (1 : Int32))])) _
        exact retN X6 hx (t := .boolean) Bd.returns (by simp) (hb hby at_67) hr
      · show (fun (v : Option Value) (h : Heap) (L : List Loc) => v = some (.int (1 : Int32)) ∧ Fr n0 L) _ T6.heap _
        rw [hh6]
        dsimp only
        exact ⟨rfl, N6⟩
    · have own_mark : True := trivial
      by_cases hk2 : x1 = (2 : Int32)
      · have own_mark : True := trivial
        obtain ⟨_, _, ⟨T8, L8, ka8, na8⟩, -, X8, ⟨Lc8, hQ8, l8, y8, z8⟩, st8⟩ := Jvm.LawKit.callS X0 hx (y := (⟨"com/example/gavel/gavel/store/Kind", "of", "(I)Lcom/example/gavel/gavel/store/Kind;"⟩ : MethodName)) hown (mvT hZ (hw _ (List.mem_of_getElem? (i := 0) rfl))) (mvT hZ (hw _ (List.mem_of_getElem? (i := 1) rfl))) (mvT hZ (hw _ (List.mem_of_getElem? (i := 2) rfl))) (mvT hZ (hw _ (List.mem_of_getElem? (i := 3) rfl))) (by decide) (backOf (W := 0) (own_rmO l Z a0 hw [] x1 wA kA wM wT wO wR h0 n0 Z0 S_A E_A V_A F_wM F_wT F_wO F_wR) hZ (hw _ (List.mem_of_getElem? (i := 3) rfl)) (hw _ (List.mem_of_getElem? (i := 2) rfl)) (by decide) (by decide)) (g := (mkF m 30 #[.val (.int x1), .val (.int sel), .val (.int (0 : Int32)), .val (.int x1), .unset, .unset] [(.int x1)])) rfl (by rw [hml]; rfl) (argsL := [(.int x1)]) (rest := []) (lenOf own_pd__I_Lcom_example_gavel_gavel_store_Kind_ rfl) rfl (by show 2 * 0 + _ ≤ _; exact Nat.le_of_eq rfl) (hb hby at_30) (fun _ _ => ⟨rfl, e0, (by decide : 0 + 1 ≤ _), (by decide : 0 + 4 ≤ _)⟩)
        dsimp only [Pt.U, Pt.locs, Pt.cells, Pt.slots] at X8 l8 y8 z8 st8 hQ8
        subst l8 y8 z8
        obtain ⟨hv8, Nq8, K8⟩ := hQ8
        have N8 := Fr.app N0 Nq8
        have Z8 : n0 ≤ T8.heap.size := Nat.le_trans Z0 K8.1
        have Kt8 := Keep.trans (Keep.refl h0 []) K8 all0
        rw [own_of2 hk2] at hv8
        subst hv8
        obtain ⟨_, _, ⟨T9, L9, ka9, na9⟩, -, X9, ⟨Lc9, hQ9, l9, y9, z9⟩, st9⟩ := Jvm.LawKit.callS X8 hx (y := (⟨"com/example/gavel/gavel/store/KindOfPinLaw", "expected", "(I)Lcom/example/gavel/gavel/store/Kind;"⟩ : MethodName)) hown (mvT hZ (hw _ (List.mem_of_getElem? (i := 25) rfl))) (mvT hZ (hw _ (List.mem_of_getElem? (i := 26) rfl))) (mvT hZ (hw _ (List.mem_of_getElem? (i := 27) rfl))) (mvT hZ (hw _ (List.mem_of_getElem? (i := 28) rfl))) (by decide) (backOf (W := 0) (own_rmE l Z a0 hw [] x1 wM wT wO wR T8.heap n0 Z8 (own_sta_keep0 S_wM Kt8) (own_sta_keep0 S_wT Kt8) (own_sta_keep0 S_wO Kt8) (own_sta_keep0 S_wR Kt8)) hZ (hw _ (List.mem_of_getElem? (i := 28) rfl)) (hw _ (List.mem_of_getElem? (i := 27) rfl)) (by decide) (by decide)) (g := (mkF m 36 #[.val (.int x1), .val (.int sel), .val (.int (0 : Int32)), .val (.int x1), .val (.ref wT), .unset] [(.int x1)])) rfl (by rw [hml]; rfl) (argsL := [(.int x1)]) (rest := []) (lenOf own_pd__I_Lcom_example_gavel_gavel_store_Kind_ rfl) rfl (by show 2 * 0 + _ ≤ _; exact Nat.le_of_eq rfl) (hb hby at_36) (fun _ _ => ⟨rfl, rfl, (by decide : 1 + 0 ≤ _), (by decide : 4 + 0 ≤ _)⟩)
        dsimp only [Pt.U, Pt.locs, Pt.cells, Pt.slots] at X9 l9 y9 z9 st9 hQ9
        subst l9 y9 z9
        obtain ⟨hv9, Nq9, hh9⟩ := hQ9
        have N9 := Fr.app N8 Nq9
        rw [own_of2 hk2] at hv9
        subst hv9
        obtain ⟨cq10, kq10, q10a, q10b, q10c⟩ := isOf hZ hh9 (Exa.keep E_wT Kt8)
        obtain ⟨_, _, ⟨T10, L10, ka10, na10⟩, -, X10, ⟨Lc10, hQ10, l10, y10, z10⟩, st10⟩ := X9.virtualBack hx (y := (⟨"com/example/gavel/gavel/store/Kind", "code", "()I"⟩ : MethodName)) (z := (⟨"com/example/gavel/gavel/store/Kind", "code", "()I"⟩ : MethodName)) hown (mvT hZ (hw _ (List.mem_of_getElem? (i := 30) rfl))) (mvT hZ (hw _ (List.mem_of_getElem? (i := 31) rfl))) (notFace_of_selects (args := #[]) (mvT hZ (hw _ (List.mem_of_getElem? (i := 33) rfl)))) (mvT hZ (hw _ (List.mem_of_getElem? (i := 33) rfl))) (mvT hZ (hw _ (List.mem_of_getElem? (i := 32) rfl))) (by decide) (backOf (W := 0) (own_rmC l Z a0 hw [] wT (2 : Int32) T8.heap n0 Z8 (Fld.keep F_wT Kt8 nin0)) hZ (hw _ (List.mem_of_getElem? (i := 34) rfl)) (hw _ (List.mem_of_getElem? (i := 2) rfl)) (by decide) (by decide)) q10a q10c (g := (mkF m 57 #[.val (.int x1), .val (.int sel), .val (.int (0 : Int32)), .val (.int x1), .val (.ref wT), .val (.ref wT)] [(.ref wT)])) rfl (by rw [hml]; rfl) (Steps.refl _) (argsL := []) (rest := []) (lenOf own_pd___I rfl) rfl (by show 2 * 0 + _ ≤ _; exact Nat.le_of_eq rfl) (hb hby at_57) (fun _ _ => ⟨rfl, hh9, (by decide : 1 + 0 ≤ _), (by decide : 4 + 0 ≤ _)⟩)
        dsimp only [Pt.U, Pt.locs, Pt.cells, Pt.slots] at X10 l10 y10 z10 st10 hQ10
        subst l10 y10 z10
        obtain ⟨rfl, Nq10, hh10⟩ := hQ10
        have N10 := Fr.app N9 Nq10
        have k11 : ∀ tt, Steps p.tables e below (T10.setTop (mkF m 67 #[.val (.int x1), .val (.int sel), .val (.int (0 : Int32)), .val (.int x1), .val (.ref wT), .val (.ref wT)] [(.int (1 : Int32))])) tt → Steps p.tables e below (s₁.setTop (entryFrame m #[(.int x1), (.int sel)] maxLocals)) tt := by
          intro tt kk
          refine k3 tt ?_
          show Steps p.tables e below (s₁.setTop (mkF m 30 #[.val (.int x1), .val (.int sel), .val (.int (0 : Int32)), .val (.int x1), .unset, .unset] [(.int x1)])) tt
          refine st8 _ ?_
          show Steps p.tables e below (T8.setTop (mkF m 33 #[.val (.int x1), .val (.int sel), .val (.int (0 : Int32)), .val (.int x1), .unset, .unset] [(.ref wT)])) tt
          refine XS.astore X8.here hx rfl (hb hby at_33) rfl rfl (l' := #[.val (.int x1), .val (.int sel), .val (.int (0 : Int32)), .val (.int x1), .val (.ref wT), .unset]) rfl ?_
          show Steps p.tables e below (T8.setTop (mkF m 35 #[.val (.int x1), .val (.int sel), .val (.int (0 : Int32)), .val (.int x1), .val (.ref wT), .unset] [])) tt
          refine XS.iloadN X8.here hx rfl (hb hby at_35) rfl ?_
          show Steps p.tables e below (T8.setTop (mkF m 36 #[.val (.int x1), .val (.int sel), .val (.int (0 : Int32)), .val (.int x1), .val (.ref wT), .unset] [(.int x1)])) tt
          refine st9 _ ?_
          show Steps p.tables e below (T9.setTop (mkF m 39 #[.val (.int x1), .val (.int sel), .val (.int (0 : Int32)), .val (.int x1), .val (.ref wT), .unset] [(.ref wT)])) tt
          refine XS.astore X9.here hx rfl (hb hby at_39) rfl rfl (l' := #[.val (.int x1), .val (.int sel), .val (.int (0 : Int32)), .val (.int x1), .val (.ref wT), .val (.ref wT)]) rfl ?_
          show Steps p.tables e below (T9.setTop (mkF m 41 #[.val (.int x1), .val (.int sel), .val (.int (0 : Int32)), .val (.int x1), .val (.ref wT), .val (.ref wT)] [])) tt
          refine XS.aload X9.here hx rfl (hb hby at_41) rfl rfl ?_
          show Steps p.tables e below (T9.setTop (mkF m 43 #[.val (.int x1), .val (.int sel), .val (.int (0 : Int32)), .val (.int x1), .val (.ref wT), .val (.ref wT)] [(.ref wT)])) tt
          refine XS.aload X9.here hx rfl (hb hby at_43) rfl rfl ?_
          show Steps p.tables e below (T9.setTop (mkF m 45 #[.val (.int x1), .val (.int sel), .val (.int (0 : Int32)), .val (.int x1), .val (.ref wT), .val (.ref wT)] [(.ref wT), (.ref wT)])) tt
          refine Jvm.RoadKit.acmp (g := (mkF m 45 #[.val (.int x1), .val (.int sel), .val (.int (0 : Int32)), .val (.int x1), .val (.ref wT), .val (.ref wT)] [(.ref wT), (.ref wT)])) X9 hx rfl rfl rfl (pc0 := 45) (pc' := 50) (same := true) rfl (hb hby at_45) rfl (decide_eq_true rfl) (by decide) (by decide) ?_
          show Steps p.tables e below (T9.setTop (mkF m 50 #[.val (.int x1), .val (.int sel), .val (.int (0 : Int32)), .val (.int x1), .val (.ref wT), .val (.ref wT)] [])) tt
          refine XS.aload X9.here hx rfl (hb hby at_50) rfl rfl ?_
          show Steps p.tables e below (T9.setTop (mkF m 52 #[.val (.int x1), .val (.int sel), .val (.int (0 : Int32)), .val (.int x1), .val (.ref wT), .val (.ref wT)] [(.ref wT)])) tt
          refine XS.ifnullNo X9.here hx rfl (hb hby at_52) rfl ?_
          show Steps p.tables e below (T9.setTop (mkF m 55 #[.val (.int x1), .val (.int sel), .val (.int (0 : Int32)), .val (.int x1), .val (.ref wT), .val (.ref wT)] [])) tt
          refine XS.aload X9.here hx rfl (hb hby at_55) rfl rfl ?_
          show Steps p.tables e below (T9.setTop (mkF m 57 #[.val (.int x1), .val (.int sel), .val (.int (0 : Int32)), .val (.int x1), .val (.ref wT), .val (.ref wT)] [(.ref wT)])) tt
          refine st10.trans ?_
          show Steps p.tables e below (T10.setTop (mkF m 60 #[.val (.int x1), .val (.int sel), .val (.int (0 : Int32)), .val (.int x1), .val (.ref wT), .val (.ref wT)] [(.int (2 : Int32))])) tt
          refine XS.iloadN X10.here hx rfl (hb hby at_60) rfl ?_
          show Steps p.tables e below (T10.setTop (mkF m 61 #[.val (.int x1), .val (.int sel), .val (.int (0 : Int32)), .val (.int x1), .val (.ref wT), .val (.ref wT)] [(.int x1), (.int (2 : Int32))])) tt
          refine XS.icmpYes X10.here hx rfl (pc0 := 61) (pc' := 66) rfl (hb hby at_61) rfl (teq (by rw [hk2] : (2 : Int32) = x1)).1 (by decide) (by decide) ?_
          show Steps p.tables e below (T10.setTop (mkF m 66 #[.val (.int x1), .val (.int sel), .val (.int (0 : Int32)), .val (.int x1), .val (.ref wT), .val (.ref wT)] [])) tt
          refine XS.iconst X10.here hx rfl (hb hby at_66) ?_
          exact kk
        obtain ⟨fs, hr, hrun, hended, hW, hsame⟩ := X10.leave (v := some (.int (1 : Int32))) (fun hq => by rw [Bd.returns] at hq; cases hq)
        refine ⟨_, _, k11 _ ?_, hrun, hended, _, _, rfl, ?_, ⟨_, rfl⟩, hW, hsame.mono (by decide) (by decide)⟩
        · show Steps p.tables e below (T10.setTop (mkF m 67 #[.val (.int x1), .val (.int sel), .val (.int (0 : Int32)), .val (.int x1), .val (.ref wT), .val (.ref wT)] [(.int (1 : Int32))])) _
          exact retN X10 hx (t := .boolean) Bd.returns (by simp) (hb hby at_67) hr
        · show (fun (v : Option Value) (h : Heap) (L : List Loc) => v = some (.int (1 : Int32)) ∧ Fr n0 L) _ T10.heap _
          rw [hh10]
          dsimp only
          exact ⟨rfl, N10⟩
      · have own_mark : True := trivial
        by_cases hk3 : x1 = (3 : Int32)
        · have own_mark : True := trivial
          obtain ⟨_, _, ⟨T12, L12, ka12, na12⟩, -, X12, ⟨Lc12, hQ12, l12, y12, z12⟩, st12⟩ := Jvm.LawKit.callS X0 hx (y := (⟨"com/example/gavel/gavel/store/Kind", "of", "(I)Lcom/example/gavel/gavel/store/Kind;"⟩ : MethodName)) hown (mvT hZ (hw _ (List.mem_of_getElem? (i := 0) rfl))) (mvT hZ (hw _ (List.mem_of_getElem? (i := 1) rfl))) (mvT hZ (hw _ (List.mem_of_getElem? (i := 2) rfl))) (mvT hZ (hw _ (List.mem_of_getElem? (i := 3) rfl))) (by decide) (backOf (W := 0) (own_rmO l Z a0 hw [] x1 wA kA wM wT wO wR h0 n0 Z0 S_A E_A V_A F_wM F_wT F_wO F_wR) hZ (hw _ (List.mem_of_getElem? (i := 3) rfl)) (hw _ (List.mem_of_getElem? (i := 2) rfl)) (by decide) (by decide)) (g := (mkF m 30 #[.val (.int x1), .val (.int sel), .val (.int (0 : Int32)), .val (.int x1), .unset, .unset] [(.int x1)])) rfl (by rw [hml]; rfl) (argsL := [(.int x1)]) (rest := []) (lenOf own_pd__I_Lcom_example_gavel_gavel_store_Kind_ rfl) rfl (by show 2 * 0 + _ ≤ _; exact Nat.le_of_eq rfl) (hb hby at_30) (fun _ _ => ⟨rfl, e0, (by decide : 0 + 1 ≤ _), (by decide : 0 + 4 ≤ _)⟩)
          dsimp only [Pt.U, Pt.locs, Pt.cells, Pt.slots] at X12 l12 y12 z12 st12 hQ12
          subst l12 y12 z12
          obtain ⟨hv12, Nq12, K12⟩ := hQ12
          have N12 := Fr.app N0 Nq12
          have Z12 : n0 ≤ T12.heap.size := Nat.le_trans Z0 K12.1
          have Kt12 := Keep.trans (Keep.refl h0 []) K12 all0
          rw [own_of3 hk3] at hv12
          subst hv12
          obtain ⟨_, _, ⟨T13, L13, ka13, na13⟩, -, X13, ⟨Lc13, hQ13, l13, y13, z13⟩, st13⟩ := Jvm.LawKit.callS X12 hx (y := (⟨"com/example/gavel/gavel/store/KindOfPinLaw", "expected", "(I)Lcom/example/gavel/gavel/store/Kind;"⟩ : MethodName)) hown (mvT hZ (hw _ (List.mem_of_getElem? (i := 25) rfl))) (mvT hZ (hw _ (List.mem_of_getElem? (i := 26) rfl))) (mvT hZ (hw _ (List.mem_of_getElem? (i := 27) rfl))) (mvT hZ (hw _ (List.mem_of_getElem? (i := 28) rfl))) (by decide) (backOf (W := 0) (own_rmE l Z a0 hw [] x1 wM wT wO wR T12.heap n0 Z12 (own_sta_keep0 S_wM Kt12) (own_sta_keep0 S_wT Kt12) (own_sta_keep0 S_wO Kt12) (own_sta_keep0 S_wR Kt12)) hZ (hw _ (List.mem_of_getElem? (i := 28) rfl)) (hw _ (List.mem_of_getElem? (i := 27) rfl)) (by decide) (by decide)) (g := (mkF m 36 #[.val (.int x1), .val (.int sel), .val (.int (0 : Int32)), .val (.int x1), .val (.ref wO), .unset] [(.int x1)])) rfl (by rw [hml]; rfl) (argsL := [(.int x1)]) (rest := []) (lenOf own_pd__I_Lcom_example_gavel_gavel_store_Kind_ rfl) rfl (by show 2 * 0 + _ ≤ _; exact Nat.le_of_eq rfl) (hb hby at_36) (fun _ _ => ⟨rfl, rfl, (by decide : 1 + 0 ≤ _), (by decide : 4 + 0 ≤ _)⟩)
          dsimp only [Pt.U, Pt.locs, Pt.cells, Pt.slots] at X13 l13 y13 z13 st13 hQ13
          subst l13 y13 z13
          obtain ⟨hv13, Nq13, hh13⟩ := hQ13
          have N13 := Fr.app N12 Nq13
          rw [own_of3 hk3] at hv13
          subst hv13
          obtain ⟨cq14, kq14, q14a, q14b, q14c⟩ := isOf hZ hh13 (Exa.keep E_wO Kt12)
          obtain ⟨_, _, ⟨T14, L14, ka14, na14⟩, -, X14, ⟨Lc14, hQ14, l14, y14, z14⟩, st14⟩ := X13.virtualBack hx (y := (⟨"com/example/gavel/gavel/store/Kind", "code", "()I"⟩ : MethodName)) (z := (⟨"com/example/gavel/gavel/store/Kind", "code", "()I"⟩ : MethodName)) hown (mvT hZ (hw _ (List.mem_of_getElem? (i := 30) rfl))) (mvT hZ (hw _ (List.mem_of_getElem? (i := 31) rfl))) (notFace_of_selects (args := #[]) (mvT hZ (hw _ (List.mem_of_getElem? (i := 33) rfl)))) (mvT hZ (hw _ (List.mem_of_getElem? (i := 33) rfl))) (mvT hZ (hw _ (List.mem_of_getElem? (i := 32) rfl))) (by decide) (backOf (W := 0) (own_rmC l Z a0 hw [] wO (3 : Int32) T12.heap n0 Z12 (Fld.keep F_wO Kt12 nin0)) hZ (hw _ (List.mem_of_getElem? (i := 34) rfl)) (hw _ (List.mem_of_getElem? (i := 2) rfl)) (by decide) (by decide)) q14a q14c (g := (mkF m 57 #[.val (.int x1), .val (.int sel), .val (.int (0 : Int32)), .val (.int x1), .val (.ref wO), .val (.ref wO)] [(.ref wO)])) rfl (by rw [hml]; rfl) (Steps.refl _) (argsL := []) (rest := []) (lenOf own_pd___I rfl) rfl (by show 2 * 0 + _ ≤ _; exact Nat.le_of_eq rfl) (hb hby at_57) (fun _ _ => ⟨rfl, hh13, (by decide : 1 + 0 ≤ _), (by decide : 4 + 0 ≤ _)⟩)
          dsimp only [Pt.U, Pt.locs, Pt.cells, Pt.slots] at X14 l14 y14 z14 st14 hQ14
          subst l14 y14 z14
          obtain ⟨rfl, Nq14, hh14⟩ := hQ14
          have N14 := Fr.app N13 Nq14
          have k15 : ∀ tt, Steps p.tables e below (T14.setTop (mkF m 67 #[.val (.int x1), .val (.int sel), .val (.int (0 : Int32)), .val (.int x1), .val (.ref wO), .val (.ref wO)] [(.int (1 : Int32))])) tt → Steps p.tables e below (s₁.setTop (entryFrame m #[(.int x1), (.int sel)] maxLocals)) tt := by
            intro tt kk
            refine k3 tt ?_
            show Steps p.tables e below (s₁.setTop (mkF m 30 #[.val (.int x1), .val (.int sel), .val (.int (0 : Int32)), .val (.int x1), .unset, .unset] [(.int x1)])) tt
            refine st12 _ ?_
            show Steps p.tables e below (T12.setTop (mkF m 33 #[.val (.int x1), .val (.int sel), .val (.int (0 : Int32)), .val (.int x1), .unset, .unset] [(.ref wO)])) tt
            refine XS.astore X12.here hx rfl (hb hby at_33) rfl rfl (l' := #[.val (.int x1), .val (.int sel), .val (.int (0 : Int32)), .val (.int x1), .val (.ref wO), .unset]) rfl ?_
            show Steps p.tables e below (T12.setTop (mkF m 35 #[.val (.int x1), .val (.int sel), .val (.int (0 : Int32)), .val (.int x1), .val (.ref wO), .unset] [])) tt
            refine XS.iloadN X12.here hx rfl (hb hby at_35) rfl ?_
            show Steps p.tables e below (T12.setTop (mkF m 36 #[.val (.int x1), .val (.int sel), .val (.int (0 : Int32)), .val (.int x1), .val (.ref wO), .unset] [(.int x1)])) tt
            refine st13 _ ?_
            show Steps p.tables e below (T13.setTop (mkF m 39 #[.val (.int x1), .val (.int sel), .val (.int (0 : Int32)), .val (.int x1), .val (.ref wO), .unset] [(.ref wO)])) tt
            refine XS.astore X13.here hx rfl (hb hby at_39) rfl rfl (l' := #[.val (.int x1), .val (.int sel), .val (.int (0 : Int32)), .val (.int x1), .val (.ref wO), .val (.ref wO)]) rfl ?_
            show Steps p.tables e below (T13.setTop (mkF m 41 #[.val (.int x1), .val (.int sel), .val (.int (0 : Int32)), .val (.int x1), .val (.ref wO), .val (.ref wO)] [])) tt
            refine XS.aload X13.here hx rfl (hb hby at_41) rfl rfl ?_
            show Steps p.tables e below (T13.setTop (mkF m 43 #[.val (.int x1), .val (.int sel), .val (.int (0 : Int32)), .val (.int x1), .val (.ref wO), .val (.ref wO)] [(.ref wO)])) tt
            refine XS.aload X13.here hx rfl (hb hby at_43) rfl rfl ?_
            show Steps p.tables e below (T13.setTop (mkF m 45 #[.val (.int x1), .val (.int sel), .val (.int (0 : Int32)), .val (.int x1), .val (.ref wO), .val (.ref wO)] [(.ref wO), (.ref wO)])) tt
            refine Jvm.RoadKit.acmp (g := (mkF m 45 #[.val (.int x1), .val (.int sel), .val (.int (0 : Int32)), .val (.int x1), .val (.ref wO), .val (.ref wO)] [(.ref wO), (.ref wO)])) X13 hx rfl rfl rfl (pc0 := 45) (pc' := 50) (same := true) rfl (hb hby at_45) rfl (decide_eq_true rfl) (by decide) (by decide) ?_
            show Steps p.tables e below (T13.setTop (mkF m 50 #[.val (.int x1), .val (.int sel), .val (.int (0 : Int32)), .val (.int x1), .val (.ref wO), .val (.ref wO)] [])) tt
            refine XS.aload X13.here hx rfl (hb hby at_50) rfl rfl ?_
            show Steps p.tables e below (T13.setTop (mkF m 52 #[.val (.int x1), .val (.int sel), .val (.int (0 : Int32)), .val (.int x1), .val (.ref wO), .val (.ref wO)] [(.ref wO)])) tt
            refine XS.ifnullNo X13.here hx rfl (hb hby at_52) rfl ?_
            show Steps p.tables e below (T13.setTop (mkF m 55 #[.val (.int x1), .val (.int sel), .val (.int (0 : Int32)), .val (.int x1), .val (.ref wO), .val (.ref wO)] [])) tt
            refine XS.aload X13.here hx rfl (hb hby at_55) rfl rfl ?_
            show Steps p.tables e below (T13.setTop (mkF m 57 #[.val (.int x1), .val (.int sel), .val (.int (0 : Int32)), .val (.int x1), .val (.ref wO), .val (.ref wO)] [(.ref wO)])) tt
            refine st14.trans ?_
            show Steps p.tables e below (T14.setTop (mkF m 60 #[.val (.int x1), .val (.int sel), .val (.int (0 : Int32)), .val (.int x1), .val (.ref wO), .val (.ref wO)] [(.int (3 : Int32))])) tt
            refine XS.iloadN X14.here hx rfl (hb hby at_60) rfl ?_
            show Steps p.tables e below (T14.setTop (mkF m 61 #[.val (.int x1), .val (.int sel), .val (.int (0 : Int32)), .val (.int x1), .val (.ref wO), .val (.ref wO)] [(.int x1), (.int (3 : Int32))])) tt
            refine XS.icmpYes X14.here hx rfl (pc0 := 61) (pc' := 66) rfl (hb hby at_61) rfl (teq (by rw [hk3] : (3 : Int32) = x1)).1 (by decide) (by decide) ?_
            show Steps p.tables e below (T14.setTop (mkF m 66 #[.val (.int x1), .val (.int sel), .val (.int (0 : Int32)), .val (.int x1), .val (.ref wO), .val (.ref wO)] [])) tt
            refine XS.iconst X14.here hx rfl (hb hby at_66) ?_
            exact kk
          obtain ⟨fs, hr, hrun, hended, hW, hsame⟩ := X14.leave (v := some (.int (1 : Int32))) (fun hq => by rw [Bd.returns] at hq; cases hq)
          refine ⟨_, _, k15 _ ?_, hrun, hended, _, _, rfl, ?_, ⟨_, rfl⟩, hW, hsame.mono (by decide) (by decide)⟩
          · show Steps p.tables e below (T14.setTop (mkF m 67 #[.val (.int x1), .val (.int sel), .val (.int (0 : Int32)), .val (.int x1), .val (.ref wO), .val (.ref wO)] [(.int (1 : Int32))])) _
            exact retN X14 hx (t := .boolean) Bd.returns (by simp) (hb hby at_67) hr
          · show (fun (v : Option Value) (h : Heap) (L : List Loc) => v = some (.int (1 : Int32)) ∧ Fr n0 L) _ T14.heap _
            rw [hh14]
            dsimp only
            exact ⟨rfl, N14⟩
        · have own_mark : True := trivial
          by_cases hk4 : x1 = (4 : Int32)
          · have own_mark : True := trivial
            obtain ⟨_, _, ⟨T16, L16, ka16, na16⟩, -, X16, ⟨Lc16, hQ16, l16, y16, z16⟩, st16⟩ := Jvm.LawKit.callS X0 hx (y := (⟨"com/example/gavel/gavel/store/Kind", "of", "(I)Lcom/example/gavel/gavel/store/Kind;"⟩ : MethodName)) hown (mvT hZ (hw _ (List.mem_of_getElem? (i := 0) rfl))) (mvT hZ (hw _ (List.mem_of_getElem? (i := 1) rfl))) (mvT hZ (hw _ (List.mem_of_getElem? (i := 2) rfl))) (mvT hZ (hw _ (List.mem_of_getElem? (i := 3) rfl))) (by decide) (backOf (W := 0) (own_rmO l Z a0 hw [] x1 wA kA wM wT wO wR h0 n0 Z0 S_A E_A V_A F_wM F_wT F_wO F_wR) hZ (hw _ (List.mem_of_getElem? (i := 3) rfl)) (hw _ (List.mem_of_getElem? (i := 2) rfl)) (by decide) (by decide)) (g := (mkF m 30 #[.val (.int x1), .val (.int sel), .val (.int (0 : Int32)), .val (.int x1), .unset, .unset] [(.int x1)])) rfl (by rw [hml]; rfl) (argsL := [(.int x1)]) (rest := []) (lenOf own_pd__I_Lcom_example_gavel_gavel_store_Kind_ rfl) rfl (by show 2 * 0 + _ ≤ _; exact Nat.le_of_eq rfl) (hb hby at_30) (fun _ _ => ⟨rfl, e0, (by decide : 0 + 1 ≤ _), (by decide : 0 + 4 ≤ _)⟩)
            dsimp only [Pt.U, Pt.locs, Pt.cells, Pt.slots] at X16 l16 y16 z16 st16 hQ16
            subst l16 y16 z16
            obtain ⟨hv16, Nq16, K16⟩ := hQ16
            have N16 := Fr.app N0 Nq16
            have Z16 : n0 ≤ T16.heap.size := Nat.le_trans Z0 K16.1
            have Kt16 := Keep.trans (Keep.refl h0 []) K16 all0
            rw [own_of4 hk4] at hv16
            subst hv16
            obtain ⟨_, _, ⟨T17, L17, ka17, na17⟩, -, X17, ⟨Lc17, hQ17, l17, y17, z17⟩, st17⟩ := Jvm.LawKit.callS X16 hx (y := (⟨"com/example/gavel/gavel/store/KindOfPinLaw", "expected", "(I)Lcom/example/gavel/gavel/store/Kind;"⟩ : MethodName)) hown (mvT hZ (hw _ (List.mem_of_getElem? (i := 25) rfl))) (mvT hZ (hw _ (List.mem_of_getElem? (i := 26) rfl))) (mvT hZ (hw _ (List.mem_of_getElem? (i := 27) rfl))) (mvT hZ (hw _ (List.mem_of_getElem? (i := 28) rfl))) (by decide) (backOf (W := 0) (own_rmE l Z a0 hw [] x1 wM wT wO wR T16.heap n0 Z16 (own_sta_keep0 S_wM Kt16) (own_sta_keep0 S_wT Kt16) (own_sta_keep0 S_wO Kt16) (own_sta_keep0 S_wR Kt16)) hZ (hw _ (List.mem_of_getElem? (i := 28) rfl)) (hw _ (List.mem_of_getElem? (i := 27) rfl)) (by decide) (by decide)) (g := (mkF m 36 #[.val (.int x1), .val (.int sel), .val (.int (0 : Int32)), .val (.int x1), .val (.ref wR), .unset] [(.int x1)])) rfl (by rw [hml]; rfl) (argsL := [(.int x1)]) (rest := []) (lenOf own_pd__I_Lcom_example_gavel_gavel_store_Kind_ rfl) rfl (by show 2 * 0 + _ ≤ _; exact Nat.le_of_eq rfl) (hb hby at_36) (fun _ _ => ⟨rfl, rfl, (by decide : 1 + 0 ≤ _), (by decide : 4 + 0 ≤ _)⟩)
            dsimp only [Pt.U, Pt.locs, Pt.cells, Pt.slots] at X17 l17 y17 z17 st17 hQ17
            subst l17 y17 z17
            obtain ⟨hv17, Nq17, hh17⟩ := hQ17
            have N17 := Fr.app N16 Nq17
            rw [own_of4 hk4] at hv17
            subst hv17
            obtain ⟨cq18, kq18, q18a, q18b, q18c⟩ := isOf hZ hh17 (Exa.keep E_wR Kt16)
            obtain ⟨_, _, ⟨T18, L18, ka18, na18⟩, -, X18, ⟨Lc18, hQ18, l18, y18, z18⟩, st18⟩ := X17.virtualBack hx (y := (⟨"com/example/gavel/gavel/store/Kind", "code", "()I"⟩ : MethodName)) (z := (⟨"com/example/gavel/gavel/store/Kind", "code", "()I"⟩ : MethodName)) hown (mvT hZ (hw _ (List.mem_of_getElem? (i := 30) rfl))) (mvT hZ (hw _ (List.mem_of_getElem? (i := 31) rfl))) (notFace_of_selects (args := #[]) (mvT hZ (hw _ (List.mem_of_getElem? (i := 33) rfl)))) (mvT hZ (hw _ (List.mem_of_getElem? (i := 33) rfl))) (mvT hZ (hw _ (List.mem_of_getElem? (i := 32) rfl))) (by decide) (backOf (W := 0) (own_rmC l Z a0 hw [] wR (4 : Int32) T16.heap n0 Z16 (Fld.keep F_wR Kt16 nin0)) hZ (hw _ (List.mem_of_getElem? (i := 34) rfl)) (hw _ (List.mem_of_getElem? (i := 2) rfl)) (by decide) (by decide)) q18a q18c (g := (mkF m 57 #[.val (.int x1), .val (.int sel), .val (.int (0 : Int32)), .val (.int x1), .val (.ref wR), .val (.ref wR)] [(.ref wR)])) rfl (by rw [hml]; rfl) (Steps.refl _) (argsL := []) (rest := []) (lenOf own_pd___I rfl) rfl (by show 2 * 0 + _ ≤ _; exact Nat.le_of_eq rfl) (hb hby at_57) (fun _ _ => ⟨rfl, hh17, (by decide : 1 + 0 ≤ _), (by decide : 4 + 0 ≤ _)⟩)
            dsimp only [Pt.U, Pt.locs, Pt.cells, Pt.slots] at X18 l18 y18 z18 st18 hQ18
            subst l18 y18 z18
            obtain ⟨rfl, Nq18, hh18⟩ := hQ18
            have N18 := Fr.app N17 Nq18
            have k19 : ∀ tt, Steps p.tables e below (T18.setTop (mkF m 67 #[.val (.int x1), .val (.int sel), .val (.int (0 : Int32)), .val (.int x1), .val (.ref wR), .val (.ref wR)] [(.int (1 : Int32))])) tt → Steps p.tables e below (s₁.setTop (entryFrame m #[(.int x1), (.int sel)] maxLocals)) tt := by
              intro tt kk
              refine k3 tt ?_
              show Steps p.tables e below (s₁.setTop (mkF m 30 #[.val (.int x1), .val (.int sel), .val (.int (0 : Int32)), .val (.int x1), .unset, .unset] [(.int x1)])) tt
              refine st16 _ ?_
              show Steps p.tables e below (T16.setTop (mkF m 33 #[.val (.int x1), .val (.int sel), .val (.int (0 : Int32)), .val (.int x1), .unset, .unset] [(.ref wR)])) tt
              refine XS.astore X16.here hx rfl (hb hby at_33) rfl rfl (l' := #[.val (.int x1), .val (.int sel), .val (.int (0 : Int32)), .val (.int x1), .val (.ref wR), .unset]) rfl ?_
              show Steps p.tables e below (T16.setTop (mkF m 35 #[.val (.int x1), .val (.int sel), .val (.int (0 : Int32)), .val (.int x1), .val (.ref wR), .unset] [])) tt
              refine XS.iloadN X16.here hx rfl (hb hby at_35) rfl ?_
              show Steps p.tables e below (T16.setTop (mkF m 36 #[.val (.int x1), .val (.int sel), .val (.int (0 : Int32)), .val (.int x1), .val (.ref wR), .unset] [(.int x1)])) tt
              refine st17 _ ?_
              show Steps p.tables e below (T17.setTop (mkF m 39 #[.val (.int x1), .val (.int sel), .val (.int (0 : Int32)), .val (.int x1), .val (.ref wR), .unset] [(.ref wR)])) tt
              refine XS.astore X17.here hx rfl (hb hby at_39) rfl rfl (l' := #[.val (.int x1), .val (.int sel), .val (.int (0 : Int32)), .val (.int x1), .val (.ref wR), .val (.ref wR)]) rfl ?_
              show Steps p.tables e below (T17.setTop (mkF m 41 #[.val (.int x1), .val (.int sel), .val (.int (0 : Int32)), .val (.int x1), .val (.ref wR), .val (.ref wR)] [])) tt
              refine XS.aload X17.here hx rfl (hb hby at_41) rfl rfl ?_
              show Steps p.tables e below (T17.setTop (mkF m 43 #[.val (.int x1), .val (.int sel), .val (.int (0 : Int32)), .val (.int x1), .val (.ref wR), .val (.ref wR)] [(.ref wR)])) tt
              refine XS.aload X17.here hx rfl (hb hby at_43) rfl rfl ?_
              show Steps p.tables e below (T17.setTop (mkF m 45 #[.val (.int x1), .val (.int sel), .val (.int (0 : Int32)), .val (.int x1), .val (.ref wR), .val (.ref wR)] [(.ref wR), (.ref wR)])) tt
              refine Jvm.RoadKit.acmp (g := (mkF m 45 #[.val (.int x1), .val (.int sel), .val (.int (0 : Int32)), .val (.int x1), .val (.ref wR), .val (.ref wR)] [(.ref wR), (.ref wR)])) X17 hx rfl rfl rfl (pc0 := 45) (pc' := 50) (same := true) rfl (hb hby at_45) rfl (decide_eq_true rfl) (by decide) (by decide) ?_
              show Steps p.tables e below (T17.setTop (mkF m 50 #[.val (.int x1), .val (.int sel), .val (.int (0 : Int32)), .val (.int x1), .val (.ref wR), .val (.ref wR)] [])) tt
              refine XS.aload X17.here hx rfl (hb hby at_50) rfl rfl ?_
              show Steps p.tables e below (T17.setTop (mkF m 52 #[.val (.int x1), .val (.int sel), .val (.int (0 : Int32)), .val (.int x1), .val (.ref wR), .val (.ref wR)] [(.ref wR)])) tt
              refine XS.ifnullNo X17.here hx rfl (hb hby at_52) rfl ?_
              show Steps p.tables e below (T17.setTop (mkF m 55 #[.val (.int x1), .val (.int sel), .val (.int (0 : Int32)), .val (.int x1), .val (.ref wR), .val (.ref wR)] [])) tt
              refine XS.aload X17.here hx rfl (hb hby at_55) rfl rfl ?_
              show Steps p.tables e below (T17.setTop (mkF m 57 #[.val (.int x1), .val (.int sel), .val (.int (0 : Int32)), .val (.int x1), .val (.ref wR), .val (.ref wR)] [(.ref wR)])) tt
              refine st18.trans ?_
              show Steps p.tables e below (T18.setTop (mkF m 60 #[.val (.int x1), .val (.int sel), .val (.int (0 : Int32)), .val (.int x1), .val (.ref wR), .val (.ref wR)] [(.int (4 : Int32))])) tt
              refine XS.iloadN X18.here hx rfl (hb hby at_60) rfl ?_
              show Steps p.tables e below (T18.setTop (mkF m 61 #[.val (.int x1), .val (.int sel), .val (.int (0 : Int32)), .val (.int x1), .val (.ref wR), .val (.ref wR)] [(.int x1), (.int (4 : Int32))])) tt
              refine XS.icmpYes X18.here hx rfl (pc0 := 61) (pc' := 66) rfl (hb hby at_61) rfl (teq (by rw [hk4] : (4 : Int32) = x1)).1 (by decide) (by decide) ?_
              show Steps p.tables e below (T18.setTop (mkF m 66 #[.val (.int x1), .val (.int sel), .val (.int (0 : Int32)), .val (.int x1), .val (.ref wR), .val (.ref wR)] [])) tt
              refine XS.iconst X18.here hx rfl (hb hby at_66) ?_
              exact kk
            obtain ⟨fs, hr, hrun, hended, hW, hsame⟩ := X18.leave (v := some (.int (1 : Int32))) (fun hq => by rw [Bd.returns] at hq; cases hq)
            refine ⟨_, _, k19 _ ?_, hrun, hended, _, _, rfl, ?_, ⟨_, rfl⟩, hW, hsame.mono (by decide) (by decide)⟩
            · show Steps p.tables e below (T18.setTop (mkF m 67 #[.val (.int x1), .val (.int sel), .val (.int (0 : Int32)), .val (.int x1), .val (.ref wR), .val (.ref wR)] [(.int (1 : Int32))])) _
              exact retN X18 hx (t := .boolean) Bd.returns (by simp) (hb hby at_67) hr
            · show (fun (v : Option Value) (h : Heap) (L : List Loc) => v = some (.int (1 : Int32)) ∧ Fr n0 L) _ T18.heap _
              rw [hh18]
              dsimp only
              exact ⟨rfl, N18⟩
          · have own_mark : True := trivial
            obtain ⟨_, _, ⟨T20, L20, ka20, na20⟩, -, X20, ⟨Lc20, hQ20, l20, y20, z20⟩, st20⟩ := Jvm.LawKit.callS X0 hx (y := (⟨"com/example/gavel/gavel/store/Kind", "of", "(I)Lcom/example/gavel/gavel/store/Kind;"⟩ : MethodName)) hown (mvT hZ (hw _ (List.mem_of_getElem? (i := 0) rfl))) (mvT hZ (hw _ (List.mem_of_getElem? (i := 1) rfl))) (mvT hZ (hw _ (List.mem_of_getElem? (i := 2) rfl))) (mvT hZ (hw _ (List.mem_of_getElem? (i := 3) rfl))) (by decide) (backOf (W := 0) (own_rmO l Z a0 hw [] x1 wA kA wM wT wO wR h0 n0 Z0 S_A E_A V_A F_wM F_wT F_wO F_wR) hZ (hw _ (List.mem_of_getElem? (i := 3) rfl)) (hw _ (List.mem_of_getElem? (i := 2) rfl)) (by decide) (by decide)) (g := (mkF m 30 #[.val (.int x1), .val (.int sel), .val (.int (0 : Int32)), .val (.int x1), .unset, .unset] [(.int x1)])) rfl (by rw [hml]; rfl) (argsL := [(.int x1)]) (rest := []) (lenOf own_pd__I_Lcom_example_gavel_gavel_store_Kind_ rfl) rfl (by show 2 * 0 + _ ≤ _; exact Nat.le_of_eq rfl) (hb hby at_30) (fun _ _ => ⟨rfl, e0, (by decide : 0 + 1 ≤ _), (by decide : 0 + 4 ≤ _)⟩)
            dsimp only [Pt.U, Pt.locs, Pt.cells, Pt.slots] at X20 l20 y20 z20 st20 hQ20
            subst l20 y20 z20
            obtain ⟨hv20, Nq20, K20⟩ := hQ20
            have N20 := Fr.app N0 Nq20
            have Z20 : n0 ≤ T20.heap.size := Nat.le_trans Z0 K20.1
            have Kt20 := Keep.trans (Keep.refl h0 []) K20 all0
            rw [own_of0 hk1 hk2 hk3 hk4] at hv20
            subst hv20
            obtain ⟨_, _, ⟨T21, L21, ka21, na21⟩, -, X21, ⟨Lc21, hQ21, l21, y21, z21⟩, st21⟩ := Jvm.LawKit.callS X20 hx (y := (⟨"com/example/gavel/gavel/store/KindOfPinLaw", "expected", "(I)Lcom/example/gavel/gavel/store/Kind;"⟩ : MethodName)) hown (mvT hZ (hw _ (List.mem_of_getElem? (i := 25) rfl))) (mvT hZ (hw _ (List.mem_of_getElem? (i := 26) rfl))) (mvT hZ (hw _ (List.mem_of_getElem? (i := 27) rfl))) (mvT hZ (hw _ (List.mem_of_getElem? (i := 28) rfl))) (by decide) (backOf (W := 0) (own_rmE l Z a0 hw [] x1 wM wT wO wR T20.heap n0 Z20 (own_sta_keep0 S_wM Kt20) (own_sta_keep0 S_wT Kt20) (own_sta_keep0 S_wO Kt20) (own_sta_keep0 S_wR Kt20)) hZ (hw _ (List.mem_of_getElem? (i := 28) rfl)) (hw _ (List.mem_of_getElem? (i := 27) rfl)) (by decide) (by decide)) (g := (mkF m 36 #[.val (.int x1), .val (.int sel), .val (.int (0 : Int32)), .val (.int x1), .val .null, .unset] [(.int x1)])) rfl (by rw [hml]; rfl) (argsL := [(.int x1)]) (rest := []) (lenOf own_pd__I_Lcom_example_gavel_gavel_store_Kind_ rfl) rfl (by show 2 * 0 + _ ≤ _; exact Nat.le_of_eq rfl) (hb hby at_36) (fun _ _ => ⟨rfl, rfl, (by decide : 1 + 0 ≤ _), (by decide : 4 + 0 ≤ _)⟩)
            dsimp only [Pt.U, Pt.locs, Pt.cells, Pt.slots] at X21 l21 y21 z21 st21 hQ21
            subst l21 y21 z21
            obtain ⟨hv21, Nq21, hh21⟩ := hQ21
            have N21 := Fr.app N20 Nq21
            rw [own_of0 hk1 hk2 hk3 hk4] at hv21
            subst hv21
            have k22 : ∀ tt, Steps p.tables e below (T21.setTop (mkF m 67 #[.val (.int x1), .val (.int sel), .val (.int (0 : Int32)), .val (.int x1), .val .null, .val .null] [(.int (1 : Int32))])) tt → Steps p.tables e below (s₁.setTop (entryFrame m #[(.int x1), (.int sel)] maxLocals)) tt := by
              intro tt kk
              refine k3 tt ?_
              show Steps p.tables e below (s₁.setTop (mkF m 30 #[.val (.int x1), .val (.int sel), .val (.int (0 : Int32)), .val (.int x1), .unset, .unset] [(.int x1)])) tt
              refine st20 _ ?_
              show Steps p.tables e below (T20.setTop (mkF m 33 #[.val (.int x1), .val (.int sel), .val (.int (0 : Int32)), .val (.int x1), .unset, .unset] [.null])) tt
              refine XS.astore X20.here hx rfl (hb hby at_33) rfl rfl (l' := #[.val (.int x1), .val (.int sel), .val (.int (0 : Int32)), .val (.int x1), .val .null, .unset]) rfl ?_
              show Steps p.tables e below (T20.setTop (mkF m 35 #[.val (.int x1), .val (.int sel), .val (.int (0 : Int32)), .val (.int x1), .val .null, .unset] [])) tt
              refine XS.iloadN X20.here hx rfl (hb hby at_35) rfl ?_
              show Steps p.tables e below (T20.setTop (mkF m 36 #[.val (.int x1), .val (.int sel), .val (.int (0 : Int32)), .val (.int x1), .val .null, .unset] [(.int x1)])) tt
              refine st21 _ ?_
              show Steps p.tables e below (T21.setTop (mkF m 39 #[.val (.int x1), .val (.int sel), .val (.int (0 : Int32)), .val (.int x1), .val .null, .unset] [.null])) tt
              refine XS.astore X21.here hx rfl (hb hby at_39) rfl rfl (l' := #[.val (.int x1), .val (.int sel), .val (.int (0 : Int32)), .val (.int x1), .val .null, .val .null]) rfl ?_
              show Steps p.tables e below (T21.setTop (mkF m 41 #[.val (.int x1), .val (.int sel), .val (.int (0 : Int32)), .val (.int x1), .val .null, .val .null] [])) tt
              refine XS.aload X21.here hx rfl (hb hby at_41) rfl rfl ?_
              show Steps p.tables e below (T21.setTop (mkF m 43 #[.val (.int x1), .val (.int sel), .val (.int (0 : Int32)), .val (.int x1), .val .null, .val .null] [.null])) tt
              refine XS.aload X21.here hx rfl (hb hby at_43) rfl rfl ?_
              show Steps p.tables e below (T21.setTop (mkF m 45 #[.val (.int x1), .val (.int sel), .val (.int (0 : Int32)), .val (.int x1), .val .null, .val .null] [.null, .null])) tt
              refine Jvm.RoadKit.acmp (g := (mkF m 45 #[.val (.int x1), .val (.int sel), .val (.int (0 : Int32)), .val (.int x1), .val .null, .val .null] [.null, .null])) X21 hx rfl rfl rfl (pc0 := 45) (pc' := 50) (same := true) rfl (hb hby at_45) rfl (decide_eq_true rfl) (by decide) (by decide) ?_
              show Steps p.tables e below (T21.setTop (mkF m 50 #[.val (.int x1), .val (.int sel), .val (.int (0 : Int32)), .val (.int x1), .val .null, .val .null] [])) tt
              refine XS.aload X21.here hx rfl (hb hby at_50) rfl rfl ?_
              show Steps p.tables e below (T21.setTop (mkF m 52 #[.val (.int x1), .val (.int sel), .val (.int (0 : Int32)), .val (.int x1), .val .null, .val .null] [.null])) tt
              refine XS.ifnullYes X21.here hx rfl (pc0 := 52) (pc' := 66) rfl (hb hby at_52) rfl (by decide) (by decide) ?_
              show Steps p.tables e below (T21.setTop (mkF m 66 #[.val (.int x1), .val (.int sel), .val (.int (0 : Int32)), .val (.int x1), .val .null, .val .null] [])) tt
              refine XS.iconst X21.here hx rfl (hb hby at_66) ?_
              exact kk
            obtain ⟨fs, hr, hrun, hended, hW, hsame⟩ := X21.leave (v := some (.int (1 : Int32))) (fun hq => by rw [Bd.returns] at hq; cases hq)
            refine ⟨_, _, k22 _ ?_, hrun, hended, _, _, rfl, ?_, ⟨_, rfl⟩, hW, hsame.mono (by decide) (by decide)⟩
            · show Steps p.tables e below (T21.setTop (mkF m 67 #[.val (.int x1), .val (.int sel), .val (.int (0 : Int32)), .val (.int x1), .val .null, .val .null] [(.int (1 : Int32))])) _
              exact retN X21 hx (t := .boolean) Bd.returns (by simp) (hb hby at_67) hr
            · show (fun (v : Option Value) (h : Heap) (L : List Loc) => v = some (.int (1 : Int32)) ∧ Fr n0 L) _ T21.heap _
              rw [hh21]
              dsimp only
              exact ⟨rfl, N21⟩
  · have k23 : ∀ tt, Steps p.tables e below (s₁.setTop (mkF m 30 #[.val (.int x1), .val (.int sel), .val (.int (1 : Int32)), .val (.int ((((sel.toUInt32 >>> ((1 : Int32) &&& 31).toUInt32).toInt32) &&& (7 : Int32)) - (1 : Int32))), .unset, .unset] [(.int ((((sel.toUInt32 >>> ((1 : Int32) &&& 31).toUInt32).toInt32) &&& (7 : Int32)) - (1 : Int32)))])) tt → Steps p.tables e below (s₁.setTop (entryFrame m #[(.int x1), (.int sel)] maxLocals)) tt := by
      intro tt kk
      refine k1 tt ?_
      show Steps p.tables e below (s₁.setTop (mkF m 3 #[.val (.int x1), .val (.int sel), .unset, .unset, .unset, .unset] [(.int (sel &&& (1 : Int32)))])) tt
      refine XS.ifNo X0.here hx rfl (hb hby at_3) rfl ((if0 _ _).trans (feq (c3_2 : ¬ ((sel &&& (1 : Int32)) = (0 : Int32)))).1) ?_
      show Steps p.tables e below (s₁.setTop (mkF m 6 #[.val (.int x1), .val (.int sel), .unset, .unset, .unset, .unset] [])) tt
      refine XS.iconst X0.here hx rfl (hb hby at_6) ?_
      show Steps p.tables e below (s₁.setTop (mkF m 7 #[.val (.int x1), .val (.int sel), .unset, .unset, .unset, .unset] [(.int (1 : Int32))])) tt
      refine XS.goto X0.here hx rfl (pc0 := 7) (pc' := 11) rfl (hb hby at_7) (by decide) (by decide) ?_
      show Steps p.tables e below (s₁.setTop (mkF m 11 #[.val (.int x1), .val (.int sel), .unset, .unset, .unset, .unset] [(.int (1 : Int32))])) tt
      refine XS.istoreN X0.here hx rfl (hb hby at_11) rfl (l' := #[.val (.int x1), .val (.int sel), .val (.int (1 : Int32)), .unset, .unset, .unset]) rfl ?_
      show Steps p.tables e below (s₁.setTop (mkF m 12 #[.val (.int x1), .val (.int sel), .val (.int (1 : Int32)), .unset, .unset, .unset] [])) tt
      refine XS.iloadN X0.here hx rfl (hb hby at_12) rfl ?_
      show Steps p.tables e below (s₁.setTop (mkF m 13 #[.val (.int x1), .val (.int sel), .val (.int (1 : Int32)), .unset, .unset, .unset] [(.int (1 : Int32))])) tt
      refine XS.ifNo X0.here hx rfl (hb hby at_13) rfl ((if0 _ _).trans (feq (by decide : ¬ ((1 : Int32) = (0 : Int32)))).1) ?_
      show Steps p.tables e below (s₁.setTop (mkF m 16 #[.val (.int x1), .val (.int sel), .val (.int (1 : Int32)), .unset, .unset, .unset] [])) tt
      refine XS.iloadN X0.here hx rfl (hb hby at_16) rfl ?_
      show Steps p.tables e below (s₁.setTop (mkF m 17 #[.val (.int x1), .val (.int sel), .val (.int (1 : Int32)), .unset, .unset, .unset] [(.int sel)])) tt
      refine XS.iconst X0.here hx rfl (hb hby at_17) ?_
      show Steps p.tables e below (s₁.setTop (mkF m 18 #[.val (.int x1), .val (.int sel), .val (.int (1 : Int32)), .unset, .unset, .unset] [(.int (1 : Int32)), (.int sel)])) tt
      refine XS.iushr X0.here hx rfl (hb hby at_18) rfl ?_
      show Steps p.tables e below (s₁.setTop (mkF m 19 #[.val (.int x1), .val (.int sel), .val (.int (1 : Int32)), .unset, .unset, .unset] [(.int ((sel.toUInt32 >>> ((1 : Int32) &&& 31).toUInt32).toInt32))])) tt
      refine XS.bipush X0.here hx rfl (hb hby at_19) ?_
      show Steps p.tables e below (s₁.setTop (mkF m 21 #[.val (.int x1), .val (.int sel), .val (.int (1 : Int32)), .unset, .unset, .unset] [(.int (7 : Int32)), (.int ((sel.toUInt32 >>> ((1 : Int32) &&& 31).toUInt32).toInt32))])) tt
      refine XS.iand X0.here hx rfl (hb hby at_21) rfl ?_
      show Steps p.tables e below (s₁.setTop (mkF m 22 #[.val (.int x1), .val (.int sel), .val (.int (1 : Int32)), .unset, .unset, .unset] [(.int (((sel.toUInt32 >>> ((1 : Int32) &&& 31).toUInt32).toInt32) &&& (7 : Int32)))])) tt
      refine XS.iconst X0.here hx rfl (hb hby at_22) ?_
      show Steps p.tables e below (s₁.setTop (mkF m 23 #[.val (.int x1), .val (.int sel), .val (.int (1 : Int32)), .unset, .unset, .unset] [(.int (1 : Int32)), (.int (((sel.toUInt32 >>> ((1 : Int32) &&& 31).toUInt32).toInt32) &&& (7 : Int32)))])) tt
      refine XS.isub X0.here hx rfl (hb hby at_23) rfl ?_
      show Steps p.tables e below (s₁.setTop (mkF m 24 #[.val (.int x1), .val (.int sel), .val (.int (1 : Int32)), .unset, .unset, .unset] [(.int ((((sel.toUInt32 >>> ((1 : Int32) &&& 31).toUInt32).toInt32) &&& (7 : Int32)) - (1 : Int32)))])) tt
      refine XS.goto X0.here hx rfl (pc0 := 24) (pc' := 28) rfl (hb hby at_24) (by decide) (by decide) ?_
      show Steps p.tables e below (s₁.setTop (mkF m 28 #[.val (.int x1), .val (.int sel), .val (.int (1 : Int32)), .unset, .unset, .unset] [(.int ((((sel.toUInt32 >>> ((1 : Int32) &&& 31).toUInt32).toInt32) &&& (7 : Int32)) - (1 : Int32)))])) tt
      refine XS.istoreN X0.here hx rfl (hb hby at_28) rfl (l' := #[.val (.int x1), .val (.int sel), .val (.int (1 : Int32)), .val (.int ((((sel.toUInt32 >>> ((1 : Int32) &&& 31).toUInt32).toInt32) &&& (7 : Int32)) - (1 : Int32))), .unset, .unset]) rfl ?_
      show Steps p.tables e below (s₁.setTop (mkF m 29 #[.val (.int x1), .val (.int sel), .val (.int (1 : Int32)), .val (.int ((((sel.toUInt32 >>> ((1 : Int32) &&& 31).toUInt32).toInt32) &&& (7 : Int32)) - (1 : Int32))), .unset, .unset] [])) tt
      refine XS.iloadN X0.here hx rfl (hb hby at_29) rfl ?_
      exact kk
    by_cases hk1 : ((((sel.toUInt32 >>> ((1 : Int32) &&& 31).toUInt32).toInt32) &&& (7 : Int32)) - (1 : Int32)) = (1 : Int32)
    · have own_mark : True := trivial
      obtain ⟨_, _, ⟨T24, L24, ka24, na24⟩, -, X24, ⟨Lc24, hQ24, l24, y24, z24⟩, st24⟩ := Jvm.LawKit.callS X0 hx (y := (⟨"com/example/gavel/gavel/store/Kind", "of", "(I)Lcom/example/gavel/gavel/store/Kind;"⟩ : MethodName)) hown (mvT hZ (hw _ (List.mem_of_getElem? (i := 0) rfl))) (mvT hZ (hw _ (List.mem_of_getElem? (i := 1) rfl))) (mvT hZ (hw _ (List.mem_of_getElem? (i := 2) rfl))) (mvT hZ (hw _ (List.mem_of_getElem? (i := 3) rfl))) (by decide) (backOf (W := 0) (own_rmO l Z a0 hw [] ((((sel.toUInt32 >>> ((1 : Int32) &&& 31).toUInt32).toInt32) &&& (7 : Int32)) - (1 : Int32)) wA kA wM wT wO wR h0 n0 Z0 S_A E_A V_A F_wM F_wT F_wO F_wR) hZ (hw _ (List.mem_of_getElem? (i := 3) rfl)) (hw _ (List.mem_of_getElem? (i := 2) rfl)) (by decide) (by decide)) (g := (mkF m 30 #[.val (.int x1), .val (.int sel), .val (.int (1 : Int32)), .val (.int ((((sel.toUInt32 >>> ((1 : Int32) &&& 31).toUInt32).toInt32) &&& (7 : Int32)) - (1 : Int32))), .unset, .unset] [(.int ((((sel.toUInt32 >>> ((1 : Int32) &&& 31).toUInt32).toInt32) &&& (7 : Int32)) - (1 : Int32)))])) rfl (by rw [hml]; rfl) (argsL := [(.int ((((sel.toUInt32 >>> ((1 : Int32) &&& 31).toUInt32).toInt32) &&& (7 : Int32)) - (1 : Int32)))]) (rest := []) (lenOf own_pd__I_Lcom_example_gavel_gavel_store_Kind_ rfl) rfl (by show 2 * 0 + _ ≤ _; exact Nat.le_of_eq rfl) (hb hby at_30) (fun _ _ => ⟨rfl, e0, (by decide : 0 + 1 ≤ _), (by decide : 0 + 4 ≤ _)⟩)
      dsimp only [Pt.U, Pt.locs, Pt.cells, Pt.slots] at X24 l24 y24 z24 st24 hQ24
      subst l24 y24 z24
      obtain ⟨hv24, Nq24, K24⟩ := hQ24
      have N24 := Fr.app N0 Nq24
      have Z24 : n0 ≤ T24.heap.size := Nat.le_trans Z0 K24.1
      have Kt24 := Keep.trans (Keep.refl h0 []) K24 all0
      rw [own_of1 hk1] at hv24
      subst hv24
      obtain ⟨_, _, ⟨T25, L25, ka25, na25⟩, -, X25, ⟨Lc25, hQ25, l25, y25, z25⟩, st25⟩ := Jvm.LawKit.callS X24 hx (y := (⟨"com/example/gavel/gavel/store/KindOfPinLaw", "expected", "(I)Lcom/example/gavel/gavel/store/Kind;"⟩ : MethodName)) hown (mvT hZ (hw _ (List.mem_of_getElem? (i := 25) rfl))) (mvT hZ (hw _ (List.mem_of_getElem? (i := 26) rfl))) (mvT hZ (hw _ (List.mem_of_getElem? (i := 27) rfl))) (mvT hZ (hw _ (List.mem_of_getElem? (i := 28) rfl))) (by decide) (backOf (W := 0) (own_rmE l Z a0 hw [] ((((sel.toUInt32 >>> ((1 : Int32) &&& 31).toUInt32).toInt32) &&& (7 : Int32)) - (1 : Int32)) wM wT wO wR T24.heap n0 Z24 (own_sta_keep0 S_wM Kt24) (own_sta_keep0 S_wT Kt24) (own_sta_keep0 S_wO Kt24) (own_sta_keep0 S_wR Kt24)) hZ (hw _ (List.mem_of_getElem? (i := 28) rfl)) (hw _ (List.mem_of_getElem? (i := 27) rfl)) (by decide) (by decide)) (g := (mkF m 36 #[.val (.int x1), .val (.int sel), .val (.int (1 : Int32)), .val (.int ((((sel.toUInt32 >>> ((1 : Int32) &&& 31).toUInt32).toInt32) &&& (7 : Int32)) - (1 : Int32))), .val (.ref wM), .unset] [(.int ((((sel.toUInt32 >>> ((1 : Int32) &&& 31).toUInt32).toInt32) &&& (7 : Int32)) - (1 : Int32)))])) rfl (by rw [hml]; rfl) (argsL := [(.int ((((sel.toUInt32 >>> ((1 : Int32) &&& 31).toUInt32).toInt32) &&& (7 : Int32)) - (1 : Int32)))]) (rest := []) (lenOf own_pd__I_Lcom_example_gavel_gavel_store_Kind_ rfl) rfl (by show 2 * 0 + _ ≤ _; exact Nat.le_of_eq rfl) (hb hby at_36) (fun _ _ => ⟨rfl, rfl, (by decide : 1 + 0 ≤ _), (by decide : 4 + 0 ≤ _)⟩)
      dsimp only [Pt.U, Pt.locs, Pt.cells, Pt.slots] at X25 l25 y25 z25 st25 hQ25
      subst l25 y25 z25
      obtain ⟨hv25, Nq25, hh25⟩ := hQ25
      have N25 := Fr.app N24 Nq25
      rw [own_of1 hk1] at hv25
      subst hv25
      obtain ⟨cq26, kq26, q26a, q26b, q26c⟩ := isOf hZ hh25 (Exa.keep E_wM Kt24)
      obtain ⟨_, _, ⟨T26, L26, ka26, na26⟩, -, X26, ⟨Lc26, hQ26, l26, y26, z26⟩, st26⟩ := X25.virtualBack hx (y := (⟨"com/example/gavel/gavel/store/Kind", "code", "()I"⟩ : MethodName)) (z := (⟨"com/example/gavel/gavel/store/Kind", "code", "()I"⟩ : MethodName)) hown (mvT hZ (hw _ (List.mem_of_getElem? (i := 30) rfl))) (mvT hZ (hw _ (List.mem_of_getElem? (i := 31) rfl))) (notFace_of_selects (args := #[]) (mvT hZ (hw _ (List.mem_of_getElem? (i := 33) rfl)))) (mvT hZ (hw _ (List.mem_of_getElem? (i := 33) rfl))) (mvT hZ (hw _ (List.mem_of_getElem? (i := 32) rfl))) (by decide) (backOf (W := 0) (own_rmC l Z a0 hw [] wM (1 : Int32) T24.heap n0 Z24 (Fld.keep F_wM Kt24 nin0)) hZ (hw _ (List.mem_of_getElem? (i := 34) rfl)) (hw _ (List.mem_of_getElem? (i := 2) rfl)) (by decide) (by decide)) q26a q26c (g := (mkF m 57 #[.val (.int x1), .val (.int sel), .val (.int (1 : Int32)), .val (.int ((((sel.toUInt32 >>> ((1 : Int32) &&& 31).toUInt32).toInt32) &&& (7 : Int32)) - (1 : Int32))), .val (.ref wM), .val (.ref wM)] [(.ref wM)])) rfl (by rw [hml]; rfl) (Steps.refl _) (argsL := []) (rest := []) (lenOf own_pd___I rfl) rfl (by show 2 * 0 + _ ≤ _; exact Nat.le_of_eq rfl) (hb hby at_57) (fun _ _ => ⟨rfl, hh25, (by decide : 1 + 0 ≤ _), (by decide : 4 + 0 ≤ _)⟩)
      dsimp only [Pt.U, Pt.locs, Pt.cells, Pt.slots] at X26 l26 y26 z26 st26 hQ26
      subst l26 y26 z26
      obtain ⟨rfl, Nq26, hh26⟩ := hQ26
      have N26 := Fr.app N25 Nq26
      have k27 : ∀ tt, Steps p.tables e below (T26.setTop (mkF m 67 #[.val (.int x1), .val (.int sel), .val (.int (1 : Int32)), .val (.int ((((sel.toUInt32 >>> ((1 : Int32) &&& 31).toUInt32).toInt32) &&& (7 : Int32)) - (1 : Int32))), .val (.ref wM), .val (.ref wM)] [(.int (1 : Int32))])) tt → Steps p.tables e below (s₁.setTop (entryFrame m #[(.int x1), (.int sel)] maxLocals)) tt := by
        intro tt kk
        refine k23 tt ?_
        show Steps p.tables e below (s₁.setTop (mkF m 30 #[.val (.int x1), .val (.int sel), .val (.int (1 : Int32)), .val (.int ((((sel.toUInt32 >>> ((1 : Int32) &&& 31).toUInt32).toInt32) &&& (7 : Int32)) - (1 : Int32))), .unset, .unset] [(.int ((((sel.toUInt32 >>> ((1 : Int32) &&& 31).toUInt32).toInt32) &&& (7 : Int32)) - (1 : Int32)))])) tt
        refine st24 _ ?_
        show Steps p.tables e below (T24.setTop (mkF m 33 #[.val (.int x1), .val (.int sel), .val (.int (1 : Int32)), .val (.int ((((sel.toUInt32 >>> ((1 : Int32) &&& 31).toUInt32).toInt32) &&& (7 : Int32)) - (1 : Int32))), .unset, .unset] [(.ref wM)])) tt
        refine XS.astore X24.here hx rfl (hb hby at_33) rfl rfl (l' := #[.val (.int x1), .val (.int sel), .val (.int (1 : Int32)), .val (.int ((((sel.toUInt32 >>> ((1 : Int32) &&& 31).toUInt32).toInt32) &&& (7 : Int32)) - (1 : Int32))), .val (.ref wM), .unset]) rfl ?_
        show Steps p.tables e below (T24.setTop (mkF m 35 #[.val (.int x1), .val (.int sel), .val (.int (1 : Int32)), .val (.int ((((sel.toUInt32 >>> ((1 : Int32) &&& 31).toUInt32).toInt32) &&& (7 : Int32)) - (1 : Int32))), .val (.ref wM), .unset] [])) tt
        refine XS.iloadN X24.here hx rfl (hb hby at_35) rfl ?_
        show Steps p.tables e below (T24.setTop (mkF m 36 #[.val (.int x1), .val (.int sel), .val (.int (1 : Int32)), .val (.int ((((sel.toUInt32 >>> ((1 : Int32) &&& 31).toUInt32).toInt32) &&& (7 : Int32)) - (1 : Int32))), .val (.ref wM), .unset] [(.int ((((sel.toUInt32 >>> ((1 : Int32) &&& 31).toUInt32).toInt32) &&& (7 : Int32)) - (1 : Int32)))])) tt
        refine st25 _ ?_
        show Steps p.tables e below (T25.setTop (mkF m 39 #[.val (.int x1), .val (.int sel), .val (.int (1 : Int32)), .val (.int ((((sel.toUInt32 >>> ((1 : Int32) &&& 31).toUInt32).toInt32) &&& (7 : Int32)) - (1 : Int32))), .val (.ref wM), .unset] [(.ref wM)])) tt
        refine XS.astore X25.here hx rfl (hb hby at_39) rfl rfl (l' := #[.val (.int x1), .val (.int sel), .val (.int (1 : Int32)), .val (.int ((((sel.toUInt32 >>> ((1 : Int32) &&& 31).toUInt32).toInt32) &&& (7 : Int32)) - (1 : Int32))), .val (.ref wM), .val (.ref wM)]) rfl ?_
        show Steps p.tables e below (T25.setTop (mkF m 41 #[.val (.int x1), .val (.int sel), .val (.int (1 : Int32)), .val (.int ((((sel.toUInt32 >>> ((1 : Int32) &&& 31).toUInt32).toInt32) &&& (7 : Int32)) - (1 : Int32))), .val (.ref wM), .val (.ref wM)] [])) tt
        refine XS.aload X25.here hx rfl (hb hby at_41) rfl rfl ?_
        show Steps p.tables e below (T25.setTop (mkF m 43 #[.val (.int x1), .val (.int sel), .val (.int (1 : Int32)), .val (.int ((((sel.toUInt32 >>> ((1 : Int32) &&& 31).toUInt32).toInt32) &&& (7 : Int32)) - (1 : Int32))), .val (.ref wM), .val (.ref wM)] [(.ref wM)])) tt
        refine XS.aload X25.here hx rfl (hb hby at_43) rfl rfl ?_
        show Steps p.tables e below (T25.setTop (mkF m 45 #[.val (.int x1), .val (.int sel), .val (.int (1 : Int32)), .val (.int ((((sel.toUInt32 >>> ((1 : Int32) &&& 31).toUInt32).toInt32) &&& (7 : Int32)) - (1 : Int32))), .val (.ref wM), .val (.ref wM)] [(.ref wM), (.ref wM)])) tt
        refine Jvm.RoadKit.acmp (g := (mkF m 45 #[.val (.int x1), .val (.int sel), .val (.int (1 : Int32)), .val (.int ((((sel.toUInt32 >>> ((1 : Int32) &&& 31).toUInt32).toInt32) &&& (7 : Int32)) - (1 : Int32))), .val (.ref wM), .val (.ref wM)] [(.ref wM), (.ref wM)])) X25 hx rfl rfl rfl (pc0 := 45) (pc' := 50) (same := true) rfl (hb hby at_45) rfl (decide_eq_true rfl) (by decide) (by decide) ?_
        show Steps p.tables e below (T25.setTop (mkF m 50 #[.val (.int x1), .val (.int sel), .val (.int (1 : Int32)), .val (.int ((((sel.toUInt32 >>> ((1 : Int32) &&& 31).toUInt32).toInt32) &&& (7 : Int32)) - (1 : Int32))), .val (.ref wM), .val (.ref wM)] [])) tt
        refine XS.aload X25.here hx rfl (hb hby at_50) rfl rfl ?_
        show Steps p.tables e below (T25.setTop (mkF m 52 #[.val (.int x1), .val (.int sel), .val (.int (1 : Int32)), .val (.int ((((sel.toUInt32 >>> ((1 : Int32) &&& 31).toUInt32).toInt32) &&& (7 : Int32)) - (1 : Int32))), .val (.ref wM), .val (.ref wM)] [(.ref wM)])) tt
        refine XS.ifnullNo X25.here hx rfl (hb hby at_52) rfl ?_
        show Steps p.tables e below (T25.setTop (mkF m 55 #[.val (.int x1), .val (.int sel), .val (.int (1 : Int32)), .val (.int ((((sel.toUInt32 >>> ((1 : Int32) &&& 31).toUInt32).toInt32) &&& (7 : Int32)) - (1 : Int32))), .val (.ref wM), .val (.ref wM)] [])) tt
        refine XS.aload X25.here hx rfl (hb hby at_55) rfl rfl ?_
        show Steps p.tables e below (T25.setTop (mkF m 57 #[.val (.int x1), .val (.int sel), .val (.int (1 : Int32)), .val (.int ((((sel.toUInt32 >>> ((1 : Int32) &&& 31).toUInt32).toInt32) &&& (7 : Int32)) - (1 : Int32))), .val (.ref wM), .val (.ref wM)] [(.ref wM)])) tt
        refine st26.trans ?_
        show Steps p.tables e below (T26.setTop (mkF m 60 #[.val (.int x1), .val (.int sel), .val (.int (1 : Int32)), .val (.int ((((sel.toUInt32 >>> ((1 : Int32) &&& 31).toUInt32).toInt32) &&& (7 : Int32)) - (1 : Int32))), .val (.ref wM), .val (.ref wM)] [(.int (1 : Int32))])) tt
        refine XS.iloadN X26.here hx rfl (hb hby at_60) rfl ?_
        show Steps p.tables e below (T26.setTop (mkF m 61 #[.val (.int x1), .val (.int sel), .val (.int (1 : Int32)), .val (.int ((((sel.toUInt32 >>> ((1 : Int32) &&& 31).toUInt32).toInt32) &&& (7 : Int32)) - (1 : Int32))), .val (.ref wM), .val (.ref wM)] [(.int ((((sel.toUInt32 >>> ((1 : Int32) &&& 31).toUInt32).toInt32) &&& (7 : Int32)) - (1 : Int32))), (.int (1 : Int32))])) tt
        refine XS.icmpYes X26.here hx rfl (pc0 := 61) (pc' := 66) rfl (hb hby at_61) rfl (teq (by rw [hk1] : (1 : Int32) = ((((sel.toUInt32 >>> ((1 : Int32) &&& 31).toUInt32).toInt32) &&& (7 : Int32)) - (1 : Int32)))).1 (by decide) (by decide) ?_
        show Steps p.tables e below (T26.setTop (mkF m 66 #[.val (.int x1), .val (.int sel), .val (.int (1 : Int32)), .val (.int ((((sel.toUInt32 >>> ((1 : Int32) &&& 31).toUInt32).toInt32) &&& (7 : Int32)) - (1 : Int32))), .val (.ref wM), .val (.ref wM)] [])) tt
        refine XS.iconst X26.here hx rfl (hb hby at_66) ?_
        exact kk
      obtain ⟨fs, hr, hrun, hended, hW, hsame⟩ := X26.leave (v := some (.int (1 : Int32))) (fun hq => by rw [Bd.returns] at hq; cases hq)
      refine ⟨_, _, k27 _ ?_, hrun, hended, _, _, rfl, ?_, ⟨_, rfl⟩, hW, hsame.mono (by decide) (by decide)⟩
      · show Steps p.tables e below (T26.setTop (mkF m 67 #[.val (.int x1), .val (.int sel), .val (.int (1 : Int32)), .val (.int ((((sel.toUInt32 >>> ((1 : Int32) &&& 31).toUInt32).toInt32) &&& (7 : Int32)) - (1 : Int32))), .val (.ref wM), .val (.ref wM)] [(.int (1 : Int32))])) _
        exact retN X26 hx (t := .boolean) Bd.returns (by simp) (hb hby at_67) hr
      · show (fun (v : Option Value) (h : Heap) (L : List Loc) => v = some (.int (1 : Int32)) ∧ Fr n0 L) _ T26.heap _
        rw [hh26]
        dsimp only
        exact ⟨rfl, N26⟩
    · have own_mark : True := trivial
      by_cases hk2 : ((((sel.toUInt32 >>> ((1 : Int32) &&& 31).toUInt32).toInt32) &&& (7 : Int32)) - (1 : Int32)) = (2 : Int32)
      · have own_mark : True := trivial
        obtain ⟨_, _, ⟨T28, L28, ka28, na28⟩, -, X28, ⟨Lc28, hQ28, l28, y28, z28⟩, st28⟩ := Jvm.LawKit.callS X0 hx (y := (⟨"com/example/gavel/gavel/store/Kind", "of", "(I)Lcom/example/gavel/gavel/store/Kind;"⟩ : MethodName)) hown (mvT hZ (hw _ (List.mem_of_getElem? (i := 0) rfl))) (mvT hZ (hw _ (List.mem_of_getElem? (i := 1) rfl))) (mvT hZ (hw _ (List.mem_of_getElem? (i := 2) rfl))) (mvT hZ (hw _ (List.mem_of_getElem? (i := 3) rfl))) (by decide) (backOf (W := 0) (own_rmO l Z a0 hw [] ((((sel.toUInt32 >>> ((1 : Int32) &&& 31).toUInt32).toInt32) &&& (7 : Int32)) - (1 : Int32)) wA kA wM wT wO wR h0 n0 Z0 S_A E_A V_A F_wM F_wT F_wO F_wR) hZ (hw _ (List.mem_of_getElem? (i := 3) rfl)) (hw _ (List.mem_of_getElem? (i := 2) rfl)) (by decide) (by decide)) (g := (mkF m 30 #[.val (.int x1), .val (.int sel), .val (.int (1 : Int32)), .val (.int ((((sel.toUInt32 >>> ((1 : Int32) &&& 31).toUInt32).toInt32) &&& (7 : Int32)) - (1 : Int32))), .unset, .unset] [(.int ((((sel.toUInt32 >>> ((1 : Int32) &&& 31).toUInt32).toInt32) &&& (7 : Int32)) - (1 : Int32)))])) rfl (by rw [hml]; rfl) (argsL := [(.int ((((sel.toUInt32 >>> ((1 : Int32) &&& 31).toUInt32).toInt32) &&& (7 : Int32)) - (1 : Int32)))]) (rest := []) (lenOf own_pd__I_Lcom_example_gavel_gavel_store_Kind_ rfl) rfl (by show 2 * 0 + _ ≤ _; exact Nat.le_of_eq rfl) (hb hby at_30) (fun _ _ => ⟨rfl, e0, (by decide : 0 + 1 ≤ _), (by decide : 0 + 4 ≤ _)⟩)
        dsimp only [Pt.U, Pt.locs, Pt.cells, Pt.slots] at X28 l28 y28 z28 st28 hQ28
        subst l28 y28 z28
        obtain ⟨hv28, Nq28, K28⟩ := hQ28
        have N28 := Fr.app N0 Nq28
        have Z28 : n0 ≤ T28.heap.size := Nat.le_trans Z0 K28.1
        have Kt28 := Keep.trans (Keep.refl h0 []) K28 all0
        rw [own_of2 hk2] at hv28
        subst hv28
        obtain ⟨_, _, ⟨T29, L29, ka29, na29⟩, -, X29, ⟨Lc29, hQ29, l29, y29, z29⟩, st29⟩ := Jvm.LawKit.callS X28 hx (y := (⟨"com/example/gavel/gavel/store/KindOfPinLaw", "expected", "(I)Lcom/example/gavel/gavel/store/Kind;"⟩ : MethodName)) hown (mvT hZ (hw _ (List.mem_of_getElem? (i := 25) rfl))) (mvT hZ (hw _ (List.mem_of_getElem? (i := 26) rfl))) (mvT hZ (hw _ (List.mem_of_getElem? (i := 27) rfl))) (mvT hZ (hw _ (List.mem_of_getElem? (i := 28) rfl))) (by decide) (backOf (W := 0) (own_rmE l Z a0 hw [] ((((sel.toUInt32 >>> ((1 : Int32) &&& 31).toUInt32).toInt32) &&& (7 : Int32)) - (1 : Int32)) wM wT wO wR T28.heap n0 Z28 (own_sta_keep0 S_wM Kt28) (own_sta_keep0 S_wT Kt28) (own_sta_keep0 S_wO Kt28) (own_sta_keep0 S_wR Kt28)) hZ (hw _ (List.mem_of_getElem? (i := 28) rfl)) (hw _ (List.mem_of_getElem? (i := 27) rfl)) (by decide) (by decide)) (g := (mkF m 36 #[.val (.int x1), .val (.int sel), .val (.int (1 : Int32)), .val (.int ((((sel.toUInt32 >>> ((1 : Int32) &&& 31).toUInt32).toInt32) &&& (7 : Int32)) - (1 : Int32))), .val (.ref wT), .unset] [(.int ((((sel.toUInt32 >>> ((1 : Int32) &&& 31).toUInt32).toInt32) &&& (7 : Int32)) - (1 : Int32)))])) rfl (by rw [hml]; rfl) (argsL := [(.int ((((sel.toUInt32 >>> ((1 : Int32) &&& 31).toUInt32).toInt32) &&& (7 : Int32)) - (1 : Int32)))]) (rest := []) (lenOf own_pd__I_Lcom_example_gavel_gavel_store_Kind_ rfl) rfl (by show 2 * 0 + _ ≤ _; exact Nat.le_of_eq rfl) (hb hby at_36) (fun _ _ => ⟨rfl, rfl, (by decide : 1 + 0 ≤ _), (by decide : 4 + 0 ≤ _)⟩)
        dsimp only [Pt.U, Pt.locs, Pt.cells, Pt.slots] at X29 l29 y29 z29 st29 hQ29
        subst l29 y29 z29
        obtain ⟨hv29, Nq29, hh29⟩ := hQ29
        have N29 := Fr.app N28 Nq29
        rw [own_of2 hk2] at hv29
        subst hv29
        obtain ⟨cq30, kq30, q30a, q30b, q30c⟩ := isOf hZ hh29 (Exa.keep E_wT Kt28)
        obtain ⟨_, _, ⟨T30, L30, ka30, na30⟩, -, X30, ⟨Lc30, hQ30, l30, y30, z30⟩, st30⟩ := X29.virtualBack hx (y := (⟨"com/example/gavel/gavel/store/Kind", "code", "()I"⟩ : MethodName)) (z := (⟨"com/example/gavel/gavel/store/Kind", "code", "()I"⟩ : MethodName)) hown (mvT hZ (hw _ (List.mem_of_getElem? (i := 30) rfl))) (mvT hZ (hw _ (List.mem_of_getElem? (i := 31) rfl))) (notFace_of_selects (args := #[]) (mvT hZ (hw _ (List.mem_of_getElem? (i := 33) rfl)))) (mvT hZ (hw _ (List.mem_of_getElem? (i := 33) rfl))) (mvT hZ (hw _ (List.mem_of_getElem? (i := 32) rfl))) (by decide) (backOf (W := 0) (own_rmC l Z a0 hw [] wT (2 : Int32) T28.heap n0 Z28 (Fld.keep F_wT Kt28 nin0)) hZ (hw _ (List.mem_of_getElem? (i := 34) rfl)) (hw _ (List.mem_of_getElem? (i := 2) rfl)) (by decide) (by decide)) q30a q30c (g := (mkF m 57 #[.val (.int x1), .val (.int sel), .val (.int (1 : Int32)), .val (.int ((((sel.toUInt32 >>> ((1 : Int32) &&& 31).toUInt32).toInt32) &&& (7 : Int32)) - (1 : Int32))), .val (.ref wT), .val (.ref wT)] [(.ref wT)])) rfl (by rw [hml]; rfl) (Steps.refl _) (argsL := []) (rest := []) (lenOf own_pd___I rfl) rfl (by show 2 * 0 + _ ≤ _; exact Nat.le_of_eq rfl) (hb hby at_57) (fun _ _ => ⟨rfl, hh29, (by decide : 1 + 0 ≤ _), (by decide : 4 + 0 ≤ _)⟩)
        dsimp only [Pt.U, Pt.locs, Pt.cells, Pt.slots] at X30 l30 y30 z30 st30 hQ30
        subst l30 y30 z30
        obtain ⟨rfl, Nq30, hh30⟩ := hQ30
        have N30 := Fr.app N29 Nq30
        have k31 : ∀ tt, Steps p.tables e below (T30.setTop (mkF m 67 #[.val (.int x1), .val (.int sel), .val (.int (1 : Int32)), .val (.int ((((sel.toUInt32 >>> ((1 : Int32) &&& 31).toUInt32).toInt32) &&& (7 : Int32)) - (1 : Int32))), .val (.ref wT), .val (.ref wT)] [(.int (1 : Int32))])) tt → Steps p.tables e below (s₁.setTop (entryFrame m #[(.int x1), (.int sel)] maxLocals)) tt := by
          intro tt kk
          refine k23 tt ?_
          show Steps p.tables e below (s₁.setTop (mkF m 30 #[.val (.int x1), .val (.int sel), .val (.int (1 : Int32)), .val (.int ((((sel.toUInt32 >>> ((1 : Int32) &&& 31).toUInt32).toInt32) &&& (7 : Int32)) - (1 : Int32))), .unset, .unset] [(.int ((((sel.toUInt32 >>> ((1 : Int32) &&& 31).toUInt32).toInt32) &&& (7 : Int32)) - (1 : Int32)))])) tt
          refine st28 _ ?_
          show Steps p.tables e below (T28.setTop (mkF m 33 #[.val (.int x1), .val (.int sel), .val (.int (1 : Int32)), .val (.int ((((sel.toUInt32 >>> ((1 : Int32) &&& 31).toUInt32).toInt32) &&& (7 : Int32)) - (1 : Int32))), .unset, .unset] [(.ref wT)])) tt
          refine XS.astore X28.here hx rfl (hb hby at_33) rfl rfl (l' := #[.val (.int x1), .val (.int sel), .val (.int (1 : Int32)), .val (.int ((((sel.toUInt32 >>> ((1 : Int32) &&& 31).toUInt32).toInt32) &&& (7 : Int32)) - (1 : Int32))), .val (.ref wT), .unset]) rfl ?_
          show Steps p.tables e below (T28.setTop (mkF m 35 #[.val (.int x1), .val (.int sel), .val (.int (1 : Int32)), .val (.int ((((sel.toUInt32 >>> ((1 : Int32) &&& 31).toUInt32).toInt32) &&& (7 : Int32)) - (1 : Int32))), .val (.ref wT), .unset] [])) tt
          refine XS.iloadN X28.here hx rfl (hb hby at_35) rfl ?_
          show Steps p.tables e below (T28.setTop (mkF m 36 #[.val (.int x1), .val (.int sel), .val (.int (1 : Int32)), .val (.int ((((sel.toUInt32 >>> ((1 : Int32) &&& 31).toUInt32).toInt32) &&& (7 : Int32)) - (1 : Int32))), .val (.ref wT), .unset] [(.int ((((sel.toUInt32 >>> ((1 : Int32) &&& 31).toUInt32).toInt32) &&& (7 : Int32)) - (1 : Int32)))])) tt
          refine st29 _ ?_
          show Steps p.tables e below (T29.setTop (mkF m 39 #[.val (.int x1), .val (.int sel), .val (.int (1 : Int32)), .val (.int ((((sel.toUInt32 >>> ((1 : Int32) &&& 31).toUInt32).toInt32) &&& (7 : Int32)) - (1 : Int32))), .val (.ref wT), .unset] [(.ref wT)])) tt
          refine XS.astore X29.here hx rfl (hb hby at_39) rfl rfl (l' := #[.val (.int x1), .val (.int sel), .val (.int (1 : Int32)), .val (.int ((((sel.toUInt32 >>> ((1 : Int32) &&& 31).toUInt32).toInt32) &&& (7 : Int32)) - (1 : Int32))), .val (.ref wT), .val (.ref wT)]) rfl ?_
          show Steps p.tables e below (T29.setTop (mkF m 41 #[.val (.int x1), .val (.int sel), .val (.int (1 : Int32)), .val (.int ((((sel.toUInt32 >>> ((1 : Int32) &&& 31).toUInt32).toInt32) &&& (7 : Int32)) - (1 : Int32))), .val (.ref wT), .val (.ref wT)] [])) tt
          refine XS.aload X29.here hx rfl (hb hby at_41) rfl rfl ?_
          show Steps p.tables e below (T29.setTop (mkF m 43 #[.val (.int x1), .val (.int sel), .val (.int (1 : Int32)), .val (.int ((((sel.toUInt32 >>> ((1 : Int32) &&& 31).toUInt32).toInt32) &&& (7 : Int32)) - (1 : Int32))), .val (.ref wT), .val (.ref wT)] [(.ref wT)])) tt
          refine XS.aload X29.here hx rfl (hb hby at_43) rfl rfl ?_
          show Steps p.tables e below (T29.setTop (mkF m 45 #[.val (.int x1), .val (.int sel), .val (.int (1 : Int32)), .val (.int ((((sel.toUInt32 >>> ((1 : Int32) &&& 31).toUInt32).toInt32) &&& (7 : Int32)) - (1 : Int32))), .val (.ref wT), .val (.ref wT)] [(.ref wT), (.ref wT)])) tt
          refine Jvm.RoadKit.acmp (g := (mkF m 45 #[.val (.int x1), .val (.int sel), .val (.int (1 : Int32)), .val (.int ((((sel.toUInt32 >>> ((1 : Int32) &&& 31).toUInt32).toInt32) &&& (7 : Int32)) - (1 : Int32))), .val (.ref wT), .val (.ref wT)] [(.ref wT), (.ref wT)])) X29 hx rfl rfl rfl (pc0 := 45) (pc' := 50) (same := true) rfl (hb hby at_45) rfl (decide_eq_true rfl) (by decide) (by decide) ?_
          show Steps p.tables e below (T29.setTop (mkF m 50 #[.val (.int x1), .val (.int sel), .val (.int (1 : Int32)), .val (.int ((((sel.toUInt32 >>> ((1 : Int32) &&& 31).toUInt32).toInt32) &&& (7 : Int32)) - (1 : Int32))), .val (.ref wT), .val (.ref wT)] [])) tt
          refine XS.aload X29.here hx rfl (hb hby at_50) rfl rfl ?_
          show Steps p.tables e below (T29.setTop (mkF m 52 #[.val (.int x1), .val (.int sel), .val (.int (1 : Int32)), .val (.int ((((sel.toUInt32 >>> ((1 : Int32) &&& 31).toUInt32).toInt32) &&& (7 : Int32)) - (1 : Int32))), .val (.ref wT), .val (.ref wT)] [(.ref wT)])) tt
          refine XS.ifnullNo X29.here hx rfl (hb hby at_52) rfl ?_
          show Steps p.tables e below (T29.setTop (mkF m 55 #[.val (.int x1), .val (.int sel), .val (.int (1 : Int32)), .val (.int ((((sel.toUInt32 >>> ((1 : Int32) &&& 31).toUInt32).toInt32) &&& (7 : Int32)) - (1 : Int32))), .val (.ref wT), .val (.ref wT)] [])) tt
          refine XS.aload X29.here hx rfl (hb hby at_55) rfl rfl ?_
          show Steps p.tables e below (T29.setTop (mkF m 57 #[.val (.int x1), .val (.int sel), .val (.int (1 : Int32)), .val (.int ((((sel.toUInt32 >>> ((1 : Int32) &&& 31).toUInt32).toInt32) &&& (7 : Int32)) - (1 : Int32))), .val (.ref wT), .val (.ref wT)] [(.ref wT)])) tt
          refine st30.trans ?_
          show Steps p.tables e below (T30.setTop (mkF m 60 #[.val (.int x1), .val (.int sel), .val (.int (1 : Int32)), .val (.int ((((sel.toUInt32 >>> ((1 : Int32) &&& 31).toUInt32).toInt32) &&& (7 : Int32)) - (1 : Int32))), .val (.ref wT), .val (.ref wT)] [(.int (2 : Int32))])) tt
          refine XS.iloadN X30.here hx rfl (hb hby at_60) rfl ?_
          show Steps p.tables e below (T30.setTop (mkF m 61 #[.val (.int x1), .val (.int sel), .val (.int (1 : Int32)), .val (.int ((((sel.toUInt32 >>> ((1 : Int32) &&& 31).toUInt32).toInt32) &&& (7 : Int32)) - (1 : Int32))), .val (.ref wT), .val (.ref wT)] [(.int ((((sel.toUInt32 >>> ((1 : Int32) &&& 31).toUInt32).toInt32) &&& (7 : Int32)) - (1 : Int32))), (.int (2 : Int32))])) tt
          refine XS.icmpYes X30.here hx rfl (pc0 := 61) (pc' := 66) rfl (hb hby at_61) rfl (teq (by rw [hk2] : (2 : Int32) = ((((sel.toUInt32 >>> ((1 : Int32) &&& 31).toUInt32).toInt32) &&& (7 : Int32)) - (1 : Int32)))).1 (by decide) (by decide) ?_
          show Steps p.tables e below (T30.setTop (mkF m 66 #[.val (.int x1), .val (.int sel), .val (.int (1 : Int32)), .val (.int ((((sel.toUInt32 >>> ((1 : Int32) &&& 31).toUInt32).toInt32) &&& (7 : Int32)) - (1 : Int32))), .val (.ref wT), .val (.ref wT)] [])) tt
          refine XS.iconst X30.here hx rfl (hb hby at_66) ?_
          exact kk
        obtain ⟨fs, hr, hrun, hended, hW, hsame⟩ := X30.leave (v := some (.int (1 : Int32))) (fun hq => by rw [Bd.returns] at hq; cases hq)
        refine ⟨_, _, k31 _ ?_, hrun, hended, _, _, rfl, ?_, ⟨_, rfl⟩, hW, hsame.mono (by decide) (by decide)⟩
        · show Steps p.tables e below (T30.setTop (mkF m 67 #[.val (.int x1), .val (.int sel), .val (.int (1 : Int32)), .val (.int ((((sel.toUInt32 >>> ((1 : Int32) &&& 31).toUInt32).toInt32) &&& (7 : Int32)) - (1 : Int32))), .val (.ref wT), .val (.ref wT)] [(.int (1 : Int32))])) _
          exact retN X30 hx (t := .boolean) Bd.returns (by simp) (hb hby at_67) hr
        · show (fun (v : Option Value) (h : Heap) (L : List Loc) => v = some (.int (1 : Int32)) ∧ Fr n0 L) _ T30.heap _
          rw [hh30]
          dsimp only
          exact ⟨rfl, N30⟩
      · have own_mark : True := trivial
        by_cases hk3 : ((((sel.toUInt32 >>> ((1 : Int32) &&& 31).toUInt32).toInt32) &&& (7 : Int32)) - (1 : Int32)) = (3 : Int32)
        · have own_mark : True := trivial
          obtain ⟨_, _, ⟨T32, L32, ka32, na32⟩, -, X32, ⟨Lc32, hQ32, l32, y32, z32⟩, st32⟩ := Jvm.LawKit.callS X0 hx (y := (⟨"com/example/gavel/gavel/store/Kind", "of", "(I)Lcom/example/gavel/gavel/store/Kind;"⟩ : MethodName)) hown (mvT hZ (hw _ (List.mem_of_getElem? (i := 0) rfl))) (mvT hZ (hw _ (List.mem_of_getElem? (i := 1) rfl))) (mvT hZ (hw _ (List.mem_of_getElem? (i := 2) rfl))) (mvT hZ (hw _ (List.mem_of_getElem? (i := 3) rfl))) (by decide) (backOf (W := 0) (own_rmO l Z a0 hw [] ((((sel.toUInt32 >>> ((1 : Int32) &&& 31).toUInt32).toInt32) &&& (7 : Int32)) - (1 : Int32)) wA kA wM wT wO wR h0 n0 Z0 S_A E_A V_A F_wM F_wT F_wO F_wR) hZ (hw _ (List.mem_of_getElem? (i := 3) rfl)) (hw _ (List.mem_of_getElem? (i := 2) rfl)) (by decide) (by decide)) (g := (mkF m 30 #[.val (.int x1), .val (.int sel), .val (.int (1 : Int32)), .val (.int ((((sel.toUInt32 >>> ((1 : Int32) &&& 31).toUInt32).toInt32) &&& (7 : Int32)) - (1 : Int32))), .unset, .unset] [(.int ((((sel.toUInt32 >>> ((1 : Int32) &&& 31).toUInt32).toInt32) &&& (7 : Int32)) - (1 : Int32)))])) rfl (by rw [hml]; rfl) (argsL := [(.int ((((sel.toUInt32 >>> ((1 : Int32) &&& 31).toUInt32).toInt32) &&& (7 : Int32)) - (1 : Int32)))]) (rest := []) (lenOf own_pd__I_Lcom_example_gavel_gavel_store_Kind_ rfl) rfl (by show 2 * 0 + _ ≤ _; exact Nat.le_of_eq rfl) (hb hby at_30) (fun _ _ => ⟨rfl, e0, (by decide : 0 + 1 ≤ _), (by decide : 0 + 4 ≤ _)⟩)
          dsimp only [Pt.U, Pt.locs, Pt.cells, Pt.slots] at X32 l32 y32 z32 st32 hQ32
          subst l32 y32 z32
          obtain ⟨hv32, Nq32, K32⟩ := hQ32
          have N32 := Fr.app N0 Nq32
          have Z32 : n0 ≤ T32.heap.size := Nat.le_trans Z0 K32.1
          have Kt32 := Keep.trans (Keep.refl h0 []) K32 all0
          rw [own_of3 hk3] at hv32
          subst hv32
          obtain ⟨_, _, ⟨T33, L33, ka33, na33⟩, -, X33, ⟨Lc33, hQ33, l33, y33, z33⟩, st33⟩ := Jvm.LawKit.callS X32 hx (y := (⟨"com/example/gavel/gavel/store/KindOfPinLaw", "expected", "(I)Lcom/example/gavel/gavel/store/Kind;"⟩ : MethodName)) hown (mvT hZ (hw _ (List.mem_of_getElem? (i := 25) rfl))) (mvT hZ (hw _ (List.mem_of_getElem? (i := 26) rfl))) (mvT hZ (hw _ (List.mem_of_getElem? (i := 27) rfl))) (mvT hZ (hw _ (List.mem_of_getElem? (i := 28) rfl))) (by decide) (backOf (W := 0) (own_rmE l Z a0 hw [] ((((sel.toUInt32 >>> ((1 : Int32) &&& 31).toUInt32).toInt32) &&& (7 : Int32)) - (1 : Int32)) wM wT wO wR T32.heap n0 Z32 (own_sta_keep0 S_wM Kt32) (own_sta_keep0 S_wT Kt32) (own_sta_keep0 S_wO Kt32) (own_sta_keep0 S_wR Kt32)) hZ (hw _ (List.mem_of_getElem? (i := 28) rfl)) (hw _ (List.mem_of_getElem? (i := 27) rfl)) (by decide) (by decide)) (g := (mkF m 36 #[.val (.int x1), .val (.int sel), .val (.int (1 : Int32)), .val (.int ((((sel.toUInt32 >>> ((1 : Int32) &&& 31).toUInt32).toInt32) &&& (7 : Int32)) - (1 : Int32))), .val (.ref wO), .unset] [(.int ((((sel.toUInt32 >>> ((1 : Int32) &&& 31).toUInt32).toInt32) &&& (7 : Int32)) - (1 : Int32)))])) rfl (by rw [hml]; rfl) (argsL := [(.int ((((sel.toUInt32 >>> ((1 : Int32) &&& 31).toUInt32).toInt32) &&& (7 : Int32)) - (1 : Int32)))]) (rest := []) (lenOf own_pd__I_Lcom_example_gavel_gavel_store_Kind_ rfl) rfl (by show 2 * 0 + _ ≤ _; exact Nat.le_of_eq rfl) (hb hby at_36) (fun _ _ => ⟨rfl, rfl, (by decide : 1 + 0 ≤ _), (by decide : 4 + 0 ≤ _)⟩)
          dsimp only [Pt.U, Pt.locs, Pt.cells, Pt.slots] at X33 l33 y33 z33 st33 hQ33
          subst l33 y33 z33
          obtain ⟨hv33, Nq33, hh33⟩ := hQ33
          have N33 := Fr.app N32 Nq33
          rw [own_of3 hk3] at hv33
          subst hv33
          obtain ⟨cq34, kq34, q34a, q34b, q34c⟩ := isOf hZ hh33 (Exa.keep E_wO Kt32)
          obtain ⟨_, _, ⟨T34, L34, ka34, na34⟩, -, X34, ⟨Lc34, hQ34, l34, y34, z34⟩, st34⟩ := X33.virtualBack hx (y := (⟨"com/example/gavel/gavel/store/Kind", "code", "()I"⟩ : MethodName)) (z := (⟨"com/example/gavel/gavel/store/Kind", "code", "()I"⟩ : MethodName)) hown (mvT hZ (hw _ (List.mem_of_getElem? (i := 30) rfl))) (mvT hZ (hw _ (List.mem_of_getElem? (i := 31) rfl))) (notFace_of_selects (args := #[]) (mvT hZ (hw _ (List.mem_of_getElem? (i := 33) rfl)))) (mvT hZ (hw _ (List.mem_of_getElem? (i := 33) rfl))) (mvT hZ (hw _ (List.mem_of_getElem? (i := 32) rfl))) (by decide) (backOf (W := 0) (own_rmC l Z a0 hw [] wO (3 : Int32) T32.heap n0 Z32 (Fld.keep F_wO Kt32 nin0)) hZ (hw _ (List.mem_of_getElem? (i := 34) rfl)) (hw _ (List.mem_of_getElem? (i := 2) rfl)) (by decide) (by decide)) q34a q34c (g := (mkF m 57 #[.val (.int x1), .val (.int sel), .val (.int (1 : Int32)), .val (.int ((((sel.toUInt32 >>> ((1 : Int32) &&& 31).toUInt32).toInt32) &&& (7 : Int32)) - (1 : Int32))), .val (.ref wO), .val (.ref wO)] [(.ref wO)])) rfl (by rw [hml]; rfl) (Steps.refl _) (argsL := []) (rest := []) (lenOf own_pd___I rfl) rfl (by show 2 * 0 + _ ≤ _; exact Nat.le_of_eq rfl) (hb hby at_57) (fun _ _ => ⟨rfl, hh33, (by decide : 1 + 0 ≤ _), (by decide : 4 + 0 ≤ _)⟩)
          dsimp only [Pt.U, Pt.locs, Pt.cells, Pt.slots] at X34 l34 y34 z34 st34 hQ34
          subst l34 y34 z34
          obtain ⟨rfl, Nq34, hh34⟩ := hQ34
          have N34 := Fr.app N33 Nq34
          have k35 : ∀ tt, Steps p.tables e below (T34.setTop (mkF m 67 #[.val (.int x1), .val (.int sel), .val (.int (1 : Int32)), .val (.int ((((sel.toUInt32 >>> ((1 : Int32) &&& 31).toUInt32).toInt32) &&& (7 : Int32)) - (1 : Int32))), .val (.ref wO), .val (.ref wO)] [(.int (1 : Int32))])) tt → Steps p.tables e below (s₁.setTop (entryFrame m #[(.int x1), (.int sel)] maxLocals)) tt := by
            intro tt kk
            refine k23 tt ?_
            show Steps p.tables e below (s₁.setTop (mkF m 30 #[.val (.int x1), .val (.int sel), .val (.int (1 : Int32)), .val (.int ((((sel.toUInt32 >>> ((1 : Int32) &&& 31).toUInt32).toInt32) &&& (7 : Int32)) - (1 : Int32))), .unset, .unset] [(.int ((((sel.toUInt32 >>> ((1 : Int32) &&& 31).toUInt32).toInt32) &&& (7 : Int32)) - (1 : Int32)))])) tt
            refine st32 _ ?_
            show Steps p.tables e below (T32.setTop (mkF m 33 #[.val (.int x1), .val (.int sel), .val (.int (1 : Int32)), .val (.int ((((sel.toUInt32 >>> ((1 : Int32) &&& 31).toUInt32).toInt32) &&& (7 : Int32)) - (1 : Int32))), .unset, .unset] [(.ref wO)])) tt
            refine XS.astore X32.here hx rfl (hb hby at_33) rfl rfl (l' := #[.val (.int x1), .val (.int sel), .val (.int (1 : Int32)), .val (.int ((((sel.toUInt32 >>> ((1 : Int32) &&& 31).toUInt32).toInt32) &&& (7 : Int32)) - (1 : Int32))), .val (.ref wO), .unset]) rfl ?_
            show Steps p.tables e below (T32.setTop (mkF m 35 #[.val (.int x1), .val (.int sel), .val (.int (1 : Int32)), .val (.int ((((sel.toUInt32 >>> ((1 : Int32) &&& 31).toUInt32).toInt32) &&& (7 : Int32)) - (1 : Int32))), .val (.ref wO), .unset] [])) tt
            refine XS.iloadN X32.here hx rfl (hb hby at_35) rfl ?_
            show Steps p.tables e below (T32.setTop (mkF m 36 #[.val (.int x1), .val (.int sel), .val (.int (1 : Int32)), .val (.int ((((sel.toUInt32 >>> ((1 : Int32) &&& 31).toUInt32).toInt32) &&& (7 : Int32)) - (1 : Int32))), .val (.ref wO), .unset] [(.int ((((sel.toUInt32 >>> ((1 : Int32) &&& 31).toUInt32).toInt32) &&& (7 : Int32)) - (1 : Int32)))])) tt
            refine st33 _ ?_
            show Steps p.tables e below (T33.setTop (mkF m 39 #[.val (.int x1), .val (.int sel), .val (.int (1 : Int32)), .val (.int ((((sel.toUInt32 >>> ((1 : Int32) &&& 31).toUInt32).toInt32) &&& (7 : Int32)) - (1 : Int32))), .val (.ref wO), .unset] [(.ref wO)])) tt
            refine XS.astore X33.here hx rfl (hb hby at_39) rfl rfl (l' := #[.val (.int x1), .val (.int sel), .val (.int (1 : Int32)), .val (.int ((((sel.toUInt32 >>> ((1 : Int32) &&& 31).toUInt32).toInt32) &&& (7 : Int32)) - (1 : Int32))), .val (.ref wO), .val (.ref wO)]) rfl ?_
            show Steps p.tables e below (T33.setTop (mkF m 41 #[.val (.int x1), .val (.int sel), .val (.int (1 : Int32)), .val (.int ((((sel.toUInt32 >>> ((1 : Int32) &&& 31).toUInt32).toInt32) &&& (7 : Int32)) - (1 : Int32))), .val (.ref wO), .val (.ref wO)] [])) tt
            refine XS.aload X33.here hx rfl (hb hby at_41) rfl rfl ?_
            show Steps p.tables e below (T33.setTop (mkF m 43 #[.val (.int x1), .val (.int sel), .val (.int (1 : Int32)), .val (.int ((((sel.toUInt32 >>> ((1 : Int32) &&& 31).toUInt32).toInt32) &&& (7 : Int32)) - (1 : Int32))), .val (.ref wO), .val (.ref wO)] [(.ref wO)])) tt
            refine XS.aload X33.here hx rfl (hb hby at_43) rfl rfl ?_
            show Steps p.tables e below (T33.setTop (mkF m 45 #[.val (.int x1), .val (.int sel), .val (.int (1 : Int32)), .val (.int ((((sel.toUInt32 >>> ((1 : Int32) &&& 31).toUInt32).toInt32) &&& (7 : Int32)) - (1 : Int32))), .val (.ref wO), .val (.ref wO)] [(.ref wO), (.ref wO)])) tt
            refine Jvm.RoadKit.acmp (g := (mkF m 45 #[.val (.int x1), .val (.int sel), .val (.int (1 : Int32)), .val (.int ((((sel.toUInt32 >>> ((1 : Int32) &&& 31).toUInt32).toInt32) &&& (7 : Int32)) - (1 : Int32))), .val (.ref wO), .val (.ref wO)] [(.ref wO), (.ref wO)])) X33 hx rfl rfl rfl (pc0 := 45) (pc' := 50) (same := true) rfl (hb hby at_45) rfl (decide_eq_true rfl) (by decide) (by decide) ?_
            show Steps p.tables e below (T33.setTop (mkF m 50 #[.val (.int x1), .val (.int sel), .val (.int (1 : Int32)), .val (.int ((((sel.toUInt32 >>> ((1 : Int32) &&& 31).toUInt32).toInt32) &&& (7 : Int32)) - (1 : Int32))), .val (.ref wO), .val (.ref wO)] [])) tt
            refine XS.aload X33.here hx rfl (hb hby at_50) rfl rfl ?_
            show Steps p.tables e below (T33.setTop (mkF m 52 #[.val (.int x1), .val (.int sel), .val (.int (1 : Int32)), .val (.int ((((sel.toUInt32 >>> ((1 : Int32) &&& 31).toUInt32).toInt32) &&& (7 : Int32)) - (1 : Int32))), .val (.ref wO), .val (.ref wO)] [(.ref wO)])) tt
            refine XS.ifnullNo X33.here hx rfl (hb hby at_52) rfl ?_
            show Steps p.tables e below (T33.setTop (mkF m 55 #[.val (.int x1), .val (.int sel), .val (.int (1 : Int32)), .val (.int ((((sel.toUInt32 >>> ((1 : Int32) &&& 31).toUInt32).toInt32) &&& (7 : Int32)) - (1 : Int32))), .val (.ref wO), .val (.ref wO)] [])) tt
            refine XS.aload X33.here hx rfl (hb hby at_55) rfl rfl ?_
            show Steps p.tables e below (T33.setTop (mkF m 57 #[.val (.int x1), .val (.int sel), .val (.int (1 : Int32)), .val (.int ((((sel.toUInt32 >>> ((1 : Int32) &&& 31).toUInt32).toInt32) &&& (7 : Int32)) - (1 : Int32))), .val (.ref wO), .val (.ref wO)] [(.ref wO)])) tt
            refine st34.trans ?_
            show Steps p.tables e below (T34.setTop (mkF m 60 #[.val (.int x1), .val (.int sel), .val (.int (1 : Int32)), .val (.int ((((sel.toUInt32 >>> ((1 : Int32) &&& 31).toUInt32).toInt32) &&& (7 : Int32)) - (1 : Int32))), .val (.ref wO), .val (.ref wO)] [(.int (3 : Int32))])) tt
            refine XS.iloadN X34.here hx rfl (hb hby at_60) rfl ?_
            show Steps p.tables e below (T34.setTop (mkF m 61 #[.val (.int x1), .val (.int sel), .val (.int (1 : Int32)), .val (.int ((((sel.toUInt32 >>> ((1 : Int32) &&& 31).toUInt32).toInt32) &&& (7 : Int32)) - (1 : Int32))), .val (.ref wO), .val (.ref wO)] [(.int ((((sel.toUInt32 >>> ((1 : Int32) &&& 31).toUInt32).toInt32) &&& (7 : Int32)) - (1 : Int32))), (.int (3 : Int32))])) tt
            refine XS.icmpYes X34.here hx rfl (pc0 := 61) (pc' := 66) rfl (hb hby at_61) rfl (teq (by rw [hk3] : (3 : Int32) = ((((sel.toUInt32 >>> ((1 : Int32) &&& 31).toUInt32).toInt32) &&& (7 : Int32)) - (1 : Int32)))).1 (by decide) (by decide) ?_
            show Steps p.tables e below (T34.setTop (mkF m 66 #[.val (.int x1), .val (.int sel), .val (.int (1 : Int32)), .val (.int ((((sel.toUInt32 >>> ((1 : Int32) &&& 31).toUInt32).toInt32) &&& (7 : Int32)) - (1 : Int32))), .val (.ref wO), .val (.ref wO)] [])) tt
            refine XS.iconst X34.here hx rfl (hb hby at_66) ?_
            exact kk
          obtain ⟨fs, hr, hrun, hended, hW, hsame⟩ := X34.leave (v := some (.int (1 : Int32))) (fun hq => by rw [Bd.returns] at hq; cases hq)
          refine ⟨_, _, k35 _ ?_, hrun, hended, _, _, rfl, ?_, ⟨_, rfl⟩, hW, hsame.mono (by decide) (by decide)⟩
          · show Steps p.tables e below (T34.setTop (mkF m 67 #[.val (.int x1), .val (.int sel), .val (.int (1 : Int32)), .val (.int ((((sel.toUInt32 >>> ((1 : Int32) &&& 31).toUInt32).toInt32) &&& (7 : Int32)) - (1 : Int32))), .val (.ref wO), .val (.ref wO)] [(.int (1 : Int32))])) _
            exact retN X34 hx (t := .boolean) Bd.returns (by simp) (hb hby at_67) hr
          · show (fun (v : Option Value) (h : Heap) (L : List Loc) => v = some (.int (1 : Int32)) ∧ Fr n0 L) _ T34.heap _
            rw [hh34]
            dsimp only
            exact ⟨rfl, N34⟩
        · have own_mark : True := trivial
          by_cases hk4 : ((((sel.toUInt32 >>> ((1 : Int32) &&& 31).toUInt32).toInt32) &&& (7 : Int32)) - (1 : Int32)) = (4 : Int32)
          · have own_mark : True := trivial
            obtain ⟨_, _, ⟨T36, L36, ka36, na36⟩, -, X36, ⟨Lc36, hQ36, l36, y36, z36⟩, st36⟩ := Jvm.LawKit.callS X0 hx (y := (⟨"com/example/gavel/gavel/store/Kind", "of", "(I)Lcom/example/gavel/gavel/store/Kind;"⟩ : MethodName)) hown (mvT hZ (hw _ (List.mem_of_getElem? (i := 0) rfl))) (mvT hZ (hw _ (List.mem_of_getElem? (i := 1) rfl))) (mvT hZ (hw _ (List.mem_of_getElem? (i := 2) rfl))) (mvT hZ (hw _ (List.mem_of_getElem? (i := 3) rfl))) (by decide) (backOf (W := 0) (own_rmO l Z a0 hw [] ((((sel.toUInt32 >>> ((1 : Int32) &&& 31).toUInt32).toInt32) &&& (7 : Int32)) - (1 : Int32)) wA kA wM wT wO wR h0 n0 Z0 S_A E_A V_A F_wM F_wT F_wO F_wR) hZ (hw _ (List.mem_of_getElem? (i := 3) rfl)) (hw _ (List.mem_of_getElem? (i := 2) rfl)) (by decide) (by decide)) (g := (mkF m 30 #[.val (.int x1), .val (.int sel), .val (.int (1 : Int32)), .val (.int ((((sel.toUInt32 >>> ((1 : Int32) &&& 31).toUInt32).toInt32) &&& (7 : Int32)) - (1 : Int32))), .unset, .unset] [(.int ((((sel.toUInt32 >>> ((1 : Int32) &&& 31).toUInt32).toInt32) &&& (7 : Int32)) - (1 : Int32)))])) rfl (by rw [hml]; rfl) (argsL := [(.int ((((sel.toUInt32 >>> ((1 : Int32) &&& 31).toUInt32).toInt32) &&& (7 : Int32)) - (1 : Int32)))]) (rest := []) (lenOf own_pd__I_Lcom_example_gavel_gavel_store_Kind_ rfl) rfl (by show 2 * 0 + _ ≤ _; exact Nat.le_of_eq rfl) (hb hby at_30) (fun _ _ => ⟨rfl, e0, (by decide : 0 + 1 ≤ _), (by decide : 0 + 4 ≤ _)⟩)
            dsimp only [Pt.U, Pt.locs, Pt.cells, Pt.slots] at X36 l36 y36 z36 st36 hQ36
            subst l36 y36 z36
            obtain ⟨hv36, Nq36, K36⟩ := hQ36
            have N36 := Fr.app N0 Nq36
            have Z36 : n0 ≤ T36.heap.size := Nat.le_trans Z0 K36.1
            have Kt36 := Keep.trans (Keep.refl h0 []) K36 all0
            rw [own_of4 hk4] at hv36
            subst hv36
            obtain ⟨_, _, ⟨T37, L37, ka37, na37⟩, -, X37, ⟨Lc37, hQ37, l37, y37, z37⟩, st37⟩ := Jvm.LawKit.callS X36 hx (y := (⟨"com/example/gavel/gavel/store/KindOfPinLaw", "expected", "(I)Lcom/example/gavel/gavel/store/Kind;"⟩ : MethodName)) hown (mvT hZ (hw _ (List.mem_of_getElem? (i := 25) rfl))) (mvT hZ (hw _ (List.mem_of_getElem? (i := 26) rfl))) (mvT hZ (hw _ (List.mem_of_getElem? (i := 27) rfl))) (mvT hZ (hw _ (List.mem_of_getElem? (i := 28) rfl))) (by decide) (backOf (W := 0) (own_rmE l Z a0 hw [] ((((sel.toUInt32 >>> ((1 : Int32) &&& 31).toUInt32).toInt32) &&& (7 : Int32)) - (1 : Int32)) wM wT wO wR T36.heap n0 Z36 (own_sta_keep0 S_wM Kt36) (own_sta_keep0 S_wT Kt36) (own_sta_keep0 S_wO Kt36) (own_sta_keep0 S_wR Kt36)) hZ (hw _ (List.mem_of_getElem? (i := 28) rfl)) (hw _ (List.mem_of_getElem? (i := 27) rfl)) (by decide) (by decide)) (g := (mkF m 36 #[.val (.int x1), .val (.int sel), .val (.int (1 : Int32)), .val (.int ((((sel.toUInt32 >>> ((1 : Int32) &&& 31).toUInt32).toInt32) &&& (7 : Int32)) - (1 : Int32))), .val (.ref wR), .unset] [(.int ((((sel.toUInt32 >>> ((1 : Int32) &&& 31).toUInt32).toInt32) &&& (7 : Int32)) - (1 : Int32)))])) rfl (by rw [hml]; rfl) (argsL := [(.int ((((sel.toUInt32 >>> ((1 : Int32) &&& 31).toUInt32).toInt32) &&& (7 : Int32)) - (1 : Int32)))]) (rest := []) (lenOf own_pd__I_Lcom_example_gavel_gavel_store_Kind_ rfl) rfl (by show 2 * 0 + _ ≤ _; exact Nat.le_of_eq rfl) (hb hby at_36) (fun _ _ => ⟨rfl, rfl, (by decide : 1 + 0 ≤ _), (by decide : 4 + 0 ≤ _)⟩)
            dsimp only [Pt.U, Pt.locs, Pt.cells, Pt.slots] at X37 l37 y37 z37 st37 hQ37
            subst l37 y37 z37
            obtain ⟨hv37, Nq37, hh37⟩ := hQ37
            have N37 := Fr.app N36 Nq37
            rw [own_of4 hk4] at hv37
            subst hv37
            obtain ⟨cq38, kq38, q38a, q38b, q38c⟩ := isOf hZ hh37 (Exa.keep E_wR Kt36)
            obtain ⟨_, _, ⟨T38, L38, ka38, na38⟩, -, X38, ⟨Lc38, hQ38, l38, y38, z38⟩, st38⟩ := X37.virtualBack hx (y := (⟨"com/example/gavel/gavel/store/Kind", "code", "()I"⟩ : MethodName)) (z := (⟨"com/example/gavel/gavel/store/Kind", "code", "()I"⟩ : MethodName)) hown (mvT hZ (hw _ (List.mem_of_getElem? (i := 30) rfl))) (mvT hZ (hw _ (List.mem_of_getElem? (i := 31) rfl))) (notFace_of_selects (args := #[]) (mvT hZ (hw _ (List.mem_of_getElem? (i := 33) rfl)))) (mvT hZ (hw _ (List.mem_of_getElem? (i := 33) rfl))) (mvT hZ (hw _ (List.mem_of_getElem? (i := 32) rfl))) (by decide) (backOf (W := 0) (own_rmC l Z a0 hw [] wR (4 : Int32) T36.heap n0 Z36 (Fld.keep F_wR Kt36 nin0)) hZ (hw _ (List.mem_of_getElem? (i := 34) rfl)) (hw _ (List.mem_of_getElem? (i := 2) rfl)) (by decide) (by decide)) q38a q38c (g := (mkF m 57 #[.val (.int x1), .val (.int sel), .val (.int (1 : Int32)), .val (.int ((((sel.toUInt32 >>> ((1 : Int32) &&& 31).toUInt32).toInt32) &&& (7 : Int32)) - (1 : Int32))), .val (.ref wR), .val (.ref wR)] [(.ref wR)])) rfl (by rw [hml]; rfl) (Steps.refl _) (argsL := []) (rest := []) (lenOf own_pd___I rfl) rfl (by show 2 * 0 + _ ≤ _; exact Nat.le_of_eq rfl) (hb hby at_57) (fun _ _ => ⟨rfl, hh37, (by decide : 1 + 0 ≤ _), (by decide : 4 + 0 ≤ _)⟩)
            dsimp only [Pt.U, Pt.locs, Pt.cells, Pt.slots] at X38 l38 y38 z38 st38 hQ38
            subst l38 y38 z38
            obtain ⟨rfl, Nq38, hh38⟩ := hQ38
            have N38 := Fr.app N37 Nq38
            have k39 : ∀ tt, Steps p.tables e below (T38.setTop (mkF m 67 #[.val (.int x1), .val (.int sel), .val (.int (1 : Int32)), .val (.int ((((sel.toUInt32 >>> ((1 : Int32) &&& 31).toUInt32).toInt32) &&& (7 : Int32)) - (1 : Int32))), .val (.ref wR), .val (.ref wR)] [(.int (1 : Int32))])) tt → Steps p.tables e below (s₁.setTop (entryFrame m #[(.int x1), (.int sel)] maxLocals)) tt := by
              intro tt kk
              refine k23 tt ?_
              show Steps p.tables e below (s₁.setTop (mkF m 30 #[.val (.int x1), .val (.int sel), .val (.int (1 : Int32)), .val (.int ((((sel.toUInt32 >>> ((1 : Int32) &&& 31).toUInt32).toInt32) &&& (7 : Int32)) - (1 : Int32))), .unset, .unset] [(.int ((((sel.toUInt32 >>> ((1 : Int32) &&& 31).toUInt32).toInt32) &&& (7 : Int32)) - (1 : Int32)))])) tt
              refine st36 _ ?_
              show Steps p.tables e below (T36.setTop (mkF m 33 #[.val (.int x1), .val (.int sel), .val (.int (1 : Int32)), .val (.int ((((sel.toUInt32 >>> ((1 : Int32) &&& 31).toUInt32).toInt32) &&& (7 : Int32)) - (1 : Int32))), .unset, .unset] [(.ref wR)])) tt
              refine XS.astore X36.here hx rfl (hb hby at_33) rfl rfl (l' := #[.val (.int x1), .val (.int sel), .val (.int (1 : Int32)), .val (.int ((((sel.toUInt32 >>> ((1 : Int32) &&& 31).toUInt32).toInt32) &&& (7 : Int32)) - (1 : Int32))), .val (.ref wR), .unset]) rfl ?_
              show Steps p.tables e below (T36.setTop (mkF m 35 #[.val (.int x1), .val (.int sel), .val (.int (1 : Int32)), .val (.int ((((sel.toUInt32 >>> ((1 : Int32) &&& 31).toUInt32).toInt32) &&& (7 : Int32)) - (1 : Int32))), .val (.ref wR), .unset] [])) tt
              refine XS.iloadN X36.here hx rfl (hb hby at_35) rfl ?_
              show Steps p.tables e below (T36.setTop (mkF m 36 #[.val (.int x1), .val (.int sel), .val (.int (1 : Int32)), .val (.int ((((sel.toUInt32 >>> ((1 : Int32) &&& 31).toUInt32).toInt32) &&& (7 : Int32)) - (1 : Int32))), .val (.ref wR), .unset] [(.int ((((sel.toUInt32 >>> ((1 : Int32) &&& 31).toUInt32).toInt32) &&& (7 : Int32)) - (1 : Int32)))])) tt
              refine st37 _ ?_
              show Steps p.tables e below (T37.setTop (mkF m 39 #[.val (.int x1), .val (.int sel), .val (.int (1 : Int32)), .val (.int ((((sel.toUInt32 >>> ((1 : Int32) &&& 31).toUInt32).toInt32) &&& (7 : Int32)) - (1 : Int32))), .val (.ref wR), .unset] [(.ref wR)])) tt
              refine XS.astore X37.here hx rfl (hb hby at_39) rfl rfl (l' := #[.val (.int x1), .val (.int sel), .val (.int (1 : Int32)), .val (.int ((((sel.toUInt32 >>> ((1 : Int32) &&& 31).toUInt32).toInt32) &&& (7 : Int32)) - (1 : Int32))), .val (.ref wR), .val (.ref wR)]) rfl ?_
              show Steps p.tables e below (T37.setTop (mkF m 41 #[.val (.int x1), .val (.int sel), .val (.int (1 : Int32)), .val (.int ((((sel.toUInt32 >>> ((1 : Int32) &&& 31).toUInt32).toInt32) &&& (7 : Int32)) - (1 : Int32))), .val (.ref wR), .val (.ref wR)] [])) tt
              refine XS.aload X37.here hx rfl (hb hby at_41) rfl rfl ?_
              show Steps p.tables e below (T37.setTop (mkF m 43 #[.val (.int x1), .val (.int sel), .val (.int (1 : Int32)), .val (.int ((((sel.toUInt32 >>> ((1 : Int32) &&& 31).toUInt32).toInt32) &&& (7 : Int32)) - (1 : Int32))), .val (.ref wR), .val (.ref wR)] [(.ref wR)])) tt
              refine XS.aload X37.here hx rfl (hb hby at_43) rfl rfl ?_
              show Steps p.tables e below (T37.setTop (mkF m 45 #[.val (.int x1), .val (.int sel), .val (.int (1 : Int32)), .val (.int ((((sel.toUInt32 >>> ((1 : Int32) &&& 31).toUInt32).toInt32) &&& (7 : Int32)) - (1 : Int32))), .val (.ref wR), .val (.ref wR)] [(.ref wR), (.ref wR)])) tt
              refine Jvm.RoadKit.acmp (g := (mkF m 45 #[.val (.int x1), .val (.int sel), .val (.int (1 : Int32)), .val (.int ((((sel.toUInt32 >>> ((1 : Int32) &&& 31).toUInt32).toInt32) &&& (7 : Int32)) - (1 : Int32))), .val (.ref wR), .val (.ref wR)] [(.ref wR), (.ref wR)])) X37 hx rfl rfl rfl (pc0 := 45) (pc' := 50) (same := true) rfl (hb hby at_45) rfl (decide_eq_true rfl) (by decide) (by decide) ?_
              show Steps p.tables e below (T37.setTop (mkF m 50 #[.val (.int x1), .val (.int sel), .val (.int (1 : Int32)), .val (.int ((((sel.toUInt32 >>> ((1 : Int32) &&& 31).toUInt32).toInt32) &&& (7 : Int32)) - (1 : Int32))), .val (.ref wR), .val (.ref wR)] [])) tt
              refine XS.aload X37.here hx rfl (hb hby at_50) rfl rfl ?_
              show Steps p.tables e below (T37.setTop (mkF m 52 #[.val (.int x1), .val (.int sel), .val (.int (1 : Int32)), .val (.int ((((sel.toUInt32 >>> ((1 : Int32) &&& 31).toUInt32).toInt32) &&& (7 : Int32)) - (1 : Int32))), .val (.ref wR), .val (.ref wR)] [(.ref wR)])) tt
              refine XS.ifnullNo X37.here hx rfl (hb hby at_52) rfl ?_
              show Steps p.tables e below (T37.setTop (mkF m 55 #[.val (.int x1), .val (.int sel), .val (.int (1 : Int32)), .val (.int ((((sel.toUInt32 >>> ((1 : Int32) &&& 31).toUInt32).toInt32) &&& (7 : Int32)) - (1 : Int32))), .val (.ref wR), .val (.ref wR)] [])) tt
              refine XS.aload X37.here hx rfl (hb hby at_55) rfl rfl ?_
              show Steps p.tables e below (T37.setTop (mkF m 57 #[.val (.int x1), .val (.int sel), .val (.int (1 : Int32)), .val (.int ((((sel.toUInt32 >>> ((1 : Int32) &&& 31).toUInt32).toInt32) &&& (7 : Int32)) - (1 : Int32))), .val (.ref wR), .val (.ref wR)] [(.ref wR)])) tt
              refine st38.trans ?_
              show Steps p.tables e below (T38.setTop (mkF m 60 #[.val (.int x1), .val (.int sel), .val (.int (1 : Int32)), .val (.int ((((sel.toUInt32 >>> ((1 : Int32) &&& 31).toUInt32).toInt32) &&& (7 : Int32)) - (1 : Int32))), .val (.ref wR), .val (.ref wR)] [(.int (4 : Int32))])) tt
              refine XS.iloadN X38.here hx rfl (hb hby at_60) rfl ?_
              show Steps p.tables e below (T38.setTop (mkF m 61 #[.val (.int x1), .val (.int sel), .val (.int (1 : Int32)), .val (.int ((((sel.toUInt32 >>> ((1 : Int32) &&& 31).toUInt32).toInt32) &&& (7 : Int32)) - (1 : Int32))), .val (.ref wR), .val (.ref wR)] [(.int ((((sel.toUInt32 >>> ((1 : Int32) &&& 31).toUInt32).toInt32) &&& (7 : Int32)) - (1 : Int32))), (.int (4 : Int32))])) tt
              refine XS.icmpYes X38.here hx rfl (pc0 := 61) (pc' := 66) rfl (hb hby at_61) rfl (teq (by rw [hk4] : (4 : Int32) = ((((sel.toUInt32 >>> ((1 : Int32) &&& 31).toUInt32).toInt32) &&& (7 : Int32)) - (1 : Int32)))).1 (by decide) (by decide) ?_
              show Steps p.tables e below (T38.setTop (mkF m 66 #[.val (.int x1), .val (.int sel), .val (.int (1 : Int32)), .val (.int ((((sel.toUInt32 >>> ((1 : Int32) &&& 31).toUInt32).toInt32) &&& (7 : Int32)) - (1 : Int32))), .val (.ref wR), .val (.ref wR)] [])) tt
              refine XS.iconst X38.here hx rfl (hb hby at_66) ?_
              exact kk
            obtain ⟨fs, hr, hrun, hended, hW, hsame⟩ := X38.leave (v := some (.int (1 : Int32))) (fun hq => by rw [Bd.returns] at hq; cases hq)
            refine ⟨_, _, k39 _ ?_, hrun, hended, _, _, rfl, ?_, ⟨_, rfl⟩, hW, hsame.mono (by decide) (by decide)⟩
            · show Steps p.tables e below (T38.setTop (mkF m 67 #[.val (.int x1), .val (.int sel), .val (.int (1 : Int32)), .val (.int ((((sel.toUInt32 >>> ((1 : Int32) &&& 31).toUInt32).toInt32) &&& (7 : Int32)) - (1 : Int32))), .val (.ref wR), .val (.ref wR)] [(.int (1 : Int32))])) _
              exact retN X38 hx (t := .boolean) Bd.returns (by simp) (hb hby at_67) hr
            · show (fun (v : Option Value) (h : Heap) (L : List Loc) => v = some (.int (1 : Int32)) ∧ Fr n0 L) _ T38.heap _
              rw [hh38]
              dsimp only
              exact ⟨rfl, N38⟩
          · have own_mark : True := trivial
            obtain ⟨_, _, ⟨T40, L40, ka40, na40⟩, -, X40, ⟨Lc40, hQ40, l40, y40, z40⟩, st40⟩ := Jvm.LawKit.callS X0 hx (y := (⟨"com/example/gavel/gavel/store/Kind", "of", "(I)Lcom/example/gavel/gavel/store/Kind;"⟩ : MethodName)) hown (mvT hZ (hw _ (List.mem_of_getElem? (i := 0) rfl))) (mvT hZ (hw _ (List.mem_of_getElem? (i := 1) rfl))) (mvT hZ (hw _ (List.mem_of_getElem? (i := 2) rfl))) (mvT hZ (hw _ (List.mem_of_getElem? (i := 3) rfl))) (by decide) (backOf (W := 0) (own_rmO l Z a0 hw [] ((((sel.toUInt32 >>> ((1 : Int32) &&& 31).toUInt32).toInt32) &&& (7 : Int32)) - (1 : Int32)) wA kA wM wT wO wR h0 n0 Z0 S_A E_A V_A F_wM F_wT F_wO F_wR) hZ (hw _ (List.mem_of_getElem? (i := 3) rfl)) (hw _ (List.mem_of_getElem? (i := 2) rfl)) (by decide) (by decide)) (g := (mkF m 30 #[.val (.int x1), .val (.int sel), .val (.int (1 : Int32)), .val (.int ((((sel.toUInt32 >>> ((1 : Int32) &&& 31).toUInt32).toInt32) &&& (7 : Int32)) - (1 : Int32))), .unset, .unset] [(.int ((((sel.toUInt32 >>> ((1 : Int32) &&& 31).toUInt32).toInt32) &&& (7 : Int32)) - (1 : Int32)))])) rfl (by rw [hml]; rfl) (argsL := [(.int ((((sel.toUInt32 >>> ((1 : Int32) &&& 31).toUInt32).toInt32) &&& (7 : Int32)) - (1 : Int32)))]) (rest := []) (lenOf own_pd__I_Lcom_example_gavel_gavel_store_Kind_ rfl) rfl (by show 2 * 0 + _ ≤ _; exact Nat.le_of_eq rfl) (hb hby at_30) (fun _ _ => ⟨rfl, e0, (by decide : 0 + 1 ≤ _), (by decide : 0 + 4 ≤ _)⟩)
            dsimp only [Pt.U, Pt.locs, Pt.cells, Pt.slots] at X40 l40 y40 z40 st40 hQ40
            subst l40 y40 z40
            obtain ⟨hv40, Nq40, K40⟩ := hQ40
            have N40 := Fr.app N0 Nq40
            have Z40 : n0 ≤ T40.heap.size := Nat.le_trans Z0 K40.1
            have Kt40 := Keep.trans (Keep.refl h0 []) K40 all0
            rw [own_of0 hk1 hk2 hk3 hk4] at hv40
            subst hv40
            obtain ⟨_, _, ⟨T41, L41, ka41, na41⟩, -, X41, ⟨Lc41, hQ41, l41, y41, z41⟩, st41⟩ := Jvm.LawKit.callS X40 hx (y := (⟨"com/example/gavel/gavel/store/KindOfPinLaw", "expected", "(I)Lcom/example/gavel/gavel/store/Kind;"⟩ : MethodName)) hown (mvT hZ (hw _ (List.mem_of_getElem? (i := 25) rfl))) (mvT hZ (hw _ (List.mem_of_getElem? (i := 26) rfl))) (mvT hZ (hw _ (List.mem_of_getElem? (i := 27) rfl))) (mvT hZ (hw _ (List.mem_of_getElem? (i := 28) rfl))) (by decide) (backOf (W := 0) (own_rmE l Z a0 hw [] ((((sel.toUInt32 >>> ((1 : Int32) &&& 31).toUInt32).toInt32) &&& (7 : Int32)) - (1 : Int32)) wM wT wO wR T40.heap n0 Z40 (own_sta_keep0 S_wM Kt40) (own_sta_keep0 S_wT Kt40) (own_sta_keep0 S_wO Kt40) (own_sta_keep0 S_wR Kt40)) hZ (hw _ (List.mem_of_getElem? (i := 28) rfl)) (hw _ (List.mem_of_getElem? (i := 27) rfl)) (by decide) (by decide)) (g := (mkF m 36 #[.val (.int x1), .val (.int sel), .val (.int (1 : Int32)), .val (.int ((((sel.toUInt32 >>> ((1 : Int32) &&& 31).toUInt32).toInt32) &&& (7 : Int32)) - (1 : Int32))), .val .null, .unset] [(.int ((((sel.toUInt32 >>> ((1 : Int32) &&& 31).toUInt32).toInt32) &&& (7 : Int32)) - (1 : Int32)))])) rfl (by rw [hml]; rfl) (argsL := [(.int ((((sel.toUInt32 >>> ((1 : Int32) &&& 31).toUInt32).toInt32) &&& (7 : Int32)) - (1 : Int32)))]) (rest := []) (lenOf own_pd__I_Lcom_example_gavel_gavel_store_Kind_ rfl) rfl (by show 2 * 0 + _ ≤ _; exact Nat.le_of_eq rfl) (hb hby at_36) (fun _ _ => ⟨rfl, rfl, (by decide : 1 + 0 ≤ _), (by decide : 4 + 0 ≤ _)⟩)
            dsimp only [Pt.U, Pt.locs, Pt.cells, Pt.slots] at X41 l41 y41 z41 st41 hQ41
            subst l41 y41 z41
            obtain ⟨hv41, Nq41, hh41⟩ := hQ41
            have N41 := Fr.app N40 Nq41
            rw [own_of0 hk1 hk2 hk3 hk4] at hv41
            subst hv41
            have k42 : ∀ tt, Steps p.tables e below (T41.setTop (mkF m 67 #[.val (.int x1), .val (.int sel), .val (.int (1 : Int32)), .val (.int ((((sel.toUInt32 >>> ((1 : Int32) &&& 31).toUInt32).toInt32) &&& (7 : Int32)) - (1 : Int32))), .val .null, .val .null] [(.int (1 : Int32))])) tt → Steps p.tables e below (s₁.setTop (entryFrame m #[(.int x1), (.int sel)] maxLocals)) tt := by
              intro tt kk
              refine k23 tt ?_
              show Steps p.tables e below (s₁.setTop (mkF m 30 #[.val (.int x1), .val (.int sel), .val (.int (1 : Int32)), .val (.int ((((sel.toUInt32 >>> ((1 : Int32) &&& 31).toUInt32).toInt32) &&& (7 : Int32)) - (1 : Int32))), .unset, .unset] [(.int ((((sel.toUInt32 >>> ((1 : Int32) &&& 31).toUInt32).toInt32) &&& (7 : Int32)) - (1 : Int32)))])) tt
              refine st40 _ ?_
              show Steps p.tables e below (T40.setTop (mkF m 33 #[.val (.int x1), .val (.int sel), .val (.int (1 : Int32)), .val (.int ((((sel.toUInt32 >>> ((1 : Int32) &&& 31).toUInt32).toInt32) &&& (7 : Int32)) - (1 : Int32))), .unset, .unset] [.null])) tt
              refine XS.astore X40.here hx rfl (hb hby at_33) rfl rfl (l' := #[.val (.int x1), .val (.int sel), .val (.int (1 : Int32)), .val (.int ((((sel.toUInt32 >>> ((1 : Int32) &&& 31).toUInt32).toInt32) &&& (7 : Int32)) - (1 : Int32))), .val .null, .unset]) rfl ?_
              show Steps p.tables e below (T40.setTop (mkF m 35 #[.val (.int x1), .val (.int sel), .val (.int (1 : Int32)), .val (.int ((((sel.toUInt32 >>> ((1 : Int32) &&& 31).toUInt32).toInt32) &&& (7 : Int32)) - (1 : Int32))), .val .null, .unset] [])) tt
              refine XS.iloadN X40.here hx rfl (hb hby at_35) rfl ?_
              show Steps p.tables e below (T40.setTop (mkF m 36 #[.val (.int x1), .val (.int sel), .val (.int (1 : Int32)), .val (.int ((((sel.toUInt32 >>> ((1 : Int32) &&& 31).toUInt32).toInt32) &&& (7 : Int32)) - (1 : Int32))), .val .null, .unset] [(.int ((((sel.toUInt32 >>> ((1 : Int32) &&& 31).toUInt32).toInt32) &&& (7 : Int32)) - (1 : Int32)))])) tt
              refine st41 _ ?_
              show Steps p.tables e below (T41.setTop (mkF m 39 #[.val (.int x1), .val (.int sel), .val (.int (1 : Int32)), .val (.int ((((sel.toUInt32 >>> ((1 : Int32) &&& 31).toUInt32).toInt32) &&& (7 : Int32)) - (1 : Int32))), .val .null, .unset] [.null])) tt
              refine XS.astore X41.here hx rfl (hb hby at_39) rfl rfl (l' := #[.val (.int x1), .val (.int sel), .val (.int (1 : Int32)), .val (.int ((((sel.toUInt32 >>> ((1 : Int32) &&& 31).toUInt32).toInt32) &&& (7 : Int32)) - (1 : Int32))), .val .null, .val .null]) rfl ?_
              show Steps p.tables e below (T41.setTop (mkF m 41 #[.val (.int x1), .val (.int sel), .val (.int (1 : Int32)), .val (.int ((((sel.toUInt32 >>> ((1 : Int32) &&& 31).toUInt32).toInt32) &&& (7 : Int32)) - (1 : Int32))), .val .null, .val .null] [])) tt
              refine XS.aload X41.here hx rfl (hb hby at_41) rfl rfl ?_
              show Steps p.tables e below (T41.setTop (mkF m 43 #[.val (.int x1), .val (.int sel), .val (.int (1 : Int32)), .val (.int ((((sel.toUInt32 >>> ((1 : Int32) &&& 31).toUInt32).toInt32) &&& (7 : Int32)) - (1 : Int32))), .val .null, .val .null] [.null])) tt
              refine XS.aload X41.here hx rfl (hb hby at_43) rfl rfl ?_
              show Steps p.tables e below (T41.setTop (mkF m 45 #[.val (.int x1), .val (.int sel), .val (.int (1 : Int32)), .val (.int ((((sel.toUInt32 >>> ((1 : Int32) &&& 31).toUInt32).toInt32) &&& (7 : Int32)) - (1 : Int32))), .val .null, .val .null] [.null, .null])) tt
              refine Jvm.RoadKit.acmp (g := (mkF m 45 #[.val (.int x1), .val (.int sel), .val (.int (1 : Int32)), .val (.int ((((sel.toUInt32 >>> ((1 : Int32) &&& 31).toUInt32).toInt32) &&& (7 : Int32)) - (1 : Int32))), .val .null, .val .null] [.null, .null])) X41 hx rfl rfl rfl (pc0 := 45) (pc' := 50) (same := true) rfl (hb hby at_45) rfl (decide_eq_true rfl) (by decide) (by decide) ?_
              show Steps p.tables e below (T41.setTop (mkF m 50 #[.val (.int x1), .val (.int sel), .val (.int (1 : Int32)), .val (.int ((((sel.toUInt32 >>> ((1 : Int32) &&& 31).toUInt32).toInt32) &&& (7 : Int32)) - (1 : Int32))), .val .null, .val .null] [])) tt
              refine XS.aload X41.here hx rfl (hb hby at_50) rfl rfl ?_
              show Steps p.tables e below (T41.setTop (mkF m 52 #[.val (.int x1), .val (.int sel), .val (.int (1 : Int32)), .val (.int ((((sel.toUInt32 >>> ((1 : Int32) &&& 31).toUInt32).toInt32) &&& (7 : Int32)) - (1 : Int32))), .val .null, .val .null] [.null])) tt
              refine XS.ifnullYes X41.here hx rfl (pc0 := 52) (pc' := 66) rfl (hb hby at_52) rfl (by decide) (by decide) ?_
              show Steps p.tables e below (T41.setTop (mkF m 66 #[.val (.int x1), .val (.int sel), .val (.int (1 : Int32)), .val (.int ((((sel.toUInt32 >>> ((1 : Int32) &&& 31).toUInt32).toInt32) &&& (7 : Int32)) - (1 : Int32))), .val .null, .val .null] [])) tt
              refine XS.iconst X41.here hx rfl (hb hby at_66) ?_
              exact kk
            obtain ⟨fs, hr, hrun, hended, hW, hsame⟩ := X41.leave (v := some (.int (1 : Int32))) (fun hq => by rw [Bd.returns] at hq; cases hq)
            refine ⟨_, _, k42 _ ?_, hrun, hended, _, _, rfl, ?_, ⟨_, rfl⟩, hW, hsame.mono (by decide) (by decide)⟩
            · show Steps p.tables e below (T41.setTop (mkF m 67 #[.val (.int x1), .val (.int sel), .val (.int (1 : Int32)), .val (.int ((((sel.toUInt32 >>> ((1 : Int32) &&& 31).toUInt32).toInt32) &&& (7 : Int32)) - (1 : Int32))), .val .null, .val .null] [(.int (1 : Int32))])) _
              exact retN X41 hx (t := .boolean) Bd.returns (by simp) (hb hby at_67) hr
            · show (fun (v : Option Value) (h : Heap) (L : List Loc) => v = some (.int (1 : Int32)) ∧ Fr n0 L) _ T41.heap _
              rw [hh41]
              dsimp only
              exact ⟨rfl, N41⟩
set_option maxRecDepth 65536 in
set_option maxHeartbeats 40000000 in
theorem comes_1 {Post : Tables → Env → Array Value → State → Outcome → State → Prop} (hpost : ∀ tb e args s v u, (limb_1_1.after args s (.returned v) u = true ∧ limb_1_2.after args s (.returned v) u = true ∧ True) → FrameEnd s (.returned v) u (Jvm.fieldLocs frame_1_writes args s ++ Jvm.arrayLocs frame_1_arrays args s ++ Jvm.staticLocs frame_1_statics s) 16 128 → Post tb e args s (.returned v) u) :
    ArmFor flags0 classFile x code maxLocals ret World_1 tables_1 room_1 Calls_1 rest_1 Pre_1 Post := by
  intro l hfl _ _ p e ha hc hk s m args below hf hA hF happ hP
  obtain ⟨hcalls, hrest, hpre⟩ := hP
  obtain ⟨-, -, -, hnamed, -, -, -, hat⟩ := (Spec.applies_iff hf).mp happ
  obtain ⟨hg, hn⟩ := and_e (Cond.before_iff.mp (show (Jvm.Cond.and given_1 narrow_1).before args s = true from hpre))
  obtain ⟨g1, g2⟩ := and_e hg
  obtain ⟨g3, g4⟩ := and_e g2
  obtain ⟨v0, v1, rfl⟩ : ∃ v0 v1 : Value, args = #[v0, v1] := by
    have hs : args.size = 2 := by simpa [Cond.value, given_1] using g1
    obtain ⟨L⟩ := args
    match L, hs with
    | [v0, v1], _ => exact ⟨v0, v1, rfl⟩
  have hw := fun d (hd : d ∈ tables_1) => atoms_spec (ws := Jvm.Cond.code x code maxLocals ret :: tables_1) hat d (List.mem_cons_of_mem _ hd)
  have hfit : Fit s := fun {y c} hc i hi => by
    obtain ⟨ha, rfl⟩ := Array.getElem?_eq_some_iff.mp hc
    have q := List.all_eq_true.mp ((Array.all_eq_true_iff_forall_mem.mp hF) _ (Array.getElem_mem ha)) i (List.mem_range.mpr hi)
    simpa [Array.getElem?_eq_getElem hi] using q
  obtain ⟨i0, ei0⟩ := is_v g3
  obtain rfl : v0 = (.int i0) := Option.some.inj ei0
  obtain ⟨i1, ei1⟩ := is_v g4
  obtain rfl : v1 = (.int i1) := Option.some.inj ei1
  obtain ⟨g5, g6⟩ := and_e hn
  obtain ⟨w__VALUES, ev_w__VALUES⟩ := arr_v g5
  obtain ⟨cl_w__VALUES, A_w__VALUES⟩ := Arr.start ev_w__VALUES g5
  obtain ⟨g7, g8⟩ := and_e g6
  have E_w__VALUES := Exa.start ev_w__VALUES g7
  obtain ⟨g9, g10⟩ := and_e g8
  obtain ⟨g11, g12⟩ := and_e g10
  obtain ⟨w_MESSAGE, ev_w_MESSAGE⟩ := exa_v g11
  have E_w_MESSAGE := Exa.start ev_w_MESSAGE g11
  obtain ⟨g13, g14⟩ := and_e g12
  obtain ⟨g15, g16⟩ := and_e g14
  obtain ⟨w_TOMBSTONE, ev_w_TOMBSTONE⟩ := exa_v g15
  have E_w_TOMBSTONE := Exa.start ev_w_TOMBSTONE g15
  obtain ⟨g17, g18⟩ := and_e g16
  obtain ⟨g19, g20⟩ := and_e g18
  obtain ⟨w_MODERATION, ev_w_MODERATION⟩ := exa_v g19
  have E_w_MODERATION := Exa.start ev_w_MODERATION g19
  obtain ⟨g21, g22⟩ := and_e g20
  obtain ⟨g23, g24⟩ := and_e g22
  obtain ⟨w_RETRACTION, ev_w_RETRACTION⟩ := exa_v g23
  have E_w_RETRACTION := Exa.start ev_w_RETRACTION g23
  obtain ⟨g25, g26⟩ := and_e g24
  obtain ⟨g27, g28⟩ := and_e g26
  obtain ⟨g29, g30⟩ := and_e g28
  obtain ⟨g31, g32⟩ := and_e g30
  have S_w__VALUES := Sta.start ev_w__VALUES (Or.inl (hw _ (List.mem_of_getElem? (i := 20) rfl)))
  have S_w_MESSAGE := Sta.start ev_w_MESSAGE (Or.inr ⟨(hw _ (List.mem_of_getElem? (i := 2) rfl)), (hw _ (List.mem_of_getElem? (i := 16) rfl))⟩)
  have S_w_TOMBSTONE := Sta.start ev_w_TOMBSTONE (Or.inr ⟨(hw _ (List.mem_of_getElem? (i := 2) rfl)), (hw _ (List.mem_of_getElem? (i := 17) rfl))⟩)
  have S_w_MODERATION := Sta.start ev_w_MODERATION (Or.inr ⟨(hw _ (List.mem_of_getElem? (i := 2) rfl)), (hw _ (List.mem_of_getElem? (i := 18) rfl))⟩)
  have S_w_RETRACTION := Sta.start ev_w_RETRACTION (Or.inr ⟨(hw _ (List.mem_of_getElem? (i := 2) rfl)), (hw _ (List.mem_of_getElem? (i := 19) rfl))⟩)
  obtain ⟨L1_w__VALUES, L2_w__VALUES⟩ := own_len ev_w__VALUES A_w__VALUES g9
  have L_w__VALUES_0 : cl_w__VALUES.slots[0]? = some (.ref w_MESSAGE) := own_elem ev_w__VALUES A_w__VALUES g13 ev_w_MESSAGE rfl
  have L_w__VALUES_1 : cl_w__VALUES.slots[1]? = some (.ref w_TOMBSTONE) := own_elem ev_w__VALUES A_w__VALUES g17 ev_w_TOMBSTONE rfl
  have L_w__VALUES_2 : cl_w__VALUES.slots[2]? = some (.ref w_MODERATION) := own_elem ev_w__VALUES A_w__VALUES g21 ev_w_MODERATION rfl
  have L_w__VALUES_3 : cl_w__VALUES.slots[3]? = some (.ref w_RETRACTION) := own_elem ev_w__VALUES A_w__VALUES g25 ev_w_RETRACTION rfl
  have F_w_MESSAGE_code := own_fld_int ev_w_MESSAGE g27
  have F_w_TOMBSTONE_code := own_fld_int ev_w_TOMBSTONE g29
  have F_w_MODERATION_code := own_fld_int ev_w_MODERATION g31
  have F_w_RETRACTION_code := own_fld_int ev_w_RETRACTION g32
  have V_w__VALUES : Arv s s.heap w__VALUES cl_w__VALUES.cls (.object "com/example/gavel/gavel/store/Kind") (4 : Int32) [(.ref w_MESSAGE), (.ref w_TOMBSTONE), (.ref w_MODERATION), (.ref w_RETRACTION)] .null := Arv.start hfit A_w__VALUES L1_w__VALUES L2_w__VALUES (by decide) rfl ⟨L_w__VALUES_0, L_w__VALUES_1, L_w__VALUES_2, L_w__VALUES_3, trivial⟩
  obtain ⟨n, o, h1, h2, h3, _, L, rfl, ⟨rfl, N⟩, hq⟩ := own_rm0 l s _ hw tables_1 i0 i1 w__VALUES cl_w__VALUES.cls w_MESSAGE w_TOMBSTONE w_MODERATION w_RETRACTION s.heap s.heap.size (Nat.le_refl _) S_w__VALUES E_w__VALUES V_w__VALUES F_w_MESSAGE_code F_w_TOMBSTONE_code F_w_MODERATION_code F_w_RETRACTION_code S_w_MESSAGE S_w_TOMBSTONE S_w_MODERATION S_w_RETRACTION E_w_MESSAGE E_w_TOMBSTONE E_w_MODERATION E_w_RETRACTION p e ha hc hk s m _ below hf ((Spec.applies_iff_loose hf).mp happ).1 ⟨rfl, State.Warmed39.refl s, rfl⟩ trivial
  refine ⟨n, _, h1, h2, h3, hpost _ _ _ _ _ _ ⟨Cond.after_iff.mpr rfl, Cond.after_iff.mpr (eq_i res_at (Term.int_eval (1)) rfl), trivial⟩ ⟨hq.1, hq.2.1, (hq.2.2.sift fun y hy => Or.inr (N y hy)).mono (by decide) (by decide)⟩⟩
theorem main_1_1 : Claimed_1_1 := comes_1 fun _ _ _ _ _ _ h hF => ⟨h.1, hF⟩
theorem main_1_2 : Claimed_1_2 := comes_1 fun _ _ _ _ _ _ h hF => ⟨h.2.1, hF⟩
end Jvm.Pilot.@@N@@
namespace Jvm.Pilot.@@N@@
open Jvm Jvm.ClassFile Sem Op Lib Jvm.Free Jvm.Stand Jvm.Pilot.@@N@@.Jvm.D
/-! MADE BY PROGRAM (witnessworld.py) out of the Statement's table words and the real class files: 13 classes; the members and pool entries that the words name. The judged class is class 1, her method 2. -/
namespace start1
open Jvm.ClassFile
def u (s : String) : CpInfo := .utf8 (stringToUtf16 s)
/-- a pool by its gaps: so many unusable entries, then the entry; so many at the end -/
def gap : Nat → List CpInfo → List CpInfo
  | 0, r => r
  | n + 1, r => .unusable :: gap n r
def poolList (es : List (Nat × CpInfo)) (last : Nat) : List CpInfo := es.foldr (fun e r => gap e.1 (e.2 :: r)) (gap last [])
def pool (es : List (Nat × CpInfo)) (last : Nat) : Array CpInfo := ⟨poolList es last⟩
def fileOf (pool : Array CpInfo) (this : Nat) (attrs : Array Attribute := #[]) (ms : Array MethodInfo := #[]) (fl : Nat := 33) (sup : Nat := 0) (ifs : Array Nat := #[]) (fds : Array FieldInfo := #[]) : ClassFile where
  minorVersion := 0
  majorVersion := 65
  constantPool := pool
  accessFlags := fl
  thisClass := this
  superClass := sup
  interfaces := ifs
  fields := fds
  methods := ms
  attributes := attrs
def plain (name : String) (sup : Option ClassId) : Class where
  name := name
  kind := .ordinary
  loader := none
  accessFlags := 33
  super := sup
  interfaces := #[]
  cf := none
  fields := #[]
  methods := #[]
  instanceTypes := #[]
  staticTypes := #[]
  resolved := #[]
  callSites := []
  init := .initialized
  statics := none
  mirror := none

def pool0 : Array CpInfo := pool [(5, u "<init>"), (0, u "()V"), (1, .class_ 10), (1, u "java/lang/Object"), (85, u "clone"), (0, u "()Ljava/lang/Object;")] 26

def k0m0 : Method := { name := "<init>", desc := "()V", sig := { parameters := [], returnType := none }, accessFlags := 1, code := none }
def k0m1 : Method := { name := "clone", desc := "()Ljava/lang/Object;", sig := { parameters := [], returnType := some (.object "java/lang/Object") }, accessFlags := 260, code := none }
/-- java/lang/Object -/
def k0 : Class := { plain "java/lang/Object" none with
  accessFlags := 33
  interfaces := #[]
  cf := some (fileOf pool0 8 #[] #[{ accessFlags := 1, nameIndex := 5, descriptorIndex := 6, attributes := #[] }, { accessFlags := 260, nameIndex := 96, descriptorIndex := 97, attributes := #[] }] 33 0 #[] #[])
  fields := #[]
  methods := #[k0m0, k0m1]
  instanceTypes := #[]
  staticTypes := #[]
  resolved := Array.replicate 124 none
  statics := none }

def pool1 : Array CpInfo := pool [(2, .class_ 4), (1, u "java/lang/Object"), (0, u "<init>"), (0, u "()V"), (0, .fieldref 8 9), (0, .class_ 10), (0, .nameAndType 11 12), (0, u "com/example/gavel/gavel/store/Kind"), (0, u "MESSAGE"), (0, u "Lcom/example/gavel/gavel/store/Kind;"), (0, .fieldref 8 14), (0, .nameAndType 15 12), (0, u "TOMBSTONE"), (0, .fieldref 8 17), (0, .nameAndType 18 12), (0, u "MODERATION"), (0, .fieldref 8 20), (0, .nameAndType 21 12), (0, u "RETRACTION"), (0, .methodref 8 23), (0, .nameAndType 24 25), (0, u "of"), (0, u "(I)Lcom/example/gavel/gavel/store/Kind;"), (0, .methodref 27 28), (0, .class_ 29), (0, .nameAndType 30 25), (0, u "com/example/gavel/gavel/store/KindOfPinLaw"), (0, u "expected"), (0, .methodref 8 32), (0, .nameAndType 33 34), (0, u "code"), (0, u "()I"), (3, u "law"), (0, u "(II)Z")] 2

def k1m0 : Method := { name := "<init>", desc := "()V", sig := { parameters := [], returnType := none }, accessFlags := 1, code := none }
def k1c1 : Code := { maxStack := 2, maxLocals := 1, code := method_2_code, exceptionTable := #[], attributes := #[] }
def k1m1 : Method := { name := "expected", desc := "(I)Lcom/example/gavel/gavel/store/Kind;", sig := { parameters := [.int], returnType := some (.object "com/example/gavel/gavel/store/Kind") }, accessFlags := 10, code := some k1c1 }
def k1c2 : Code := { maxStack := 2, maxLocals := 6, code := code, exceptionTable := #[], attributes := #[] }
def k1m2 : Method := { name := "law", desc := "(II)Z", sig := { parameters := [.int, .int], returnType := some .boolean }, accessFlags := 9, code := some k1c2 }
/-- com/example/gavel/gavel/store/KindOfPinLaw -/
def k1 : Class := { plain "com/example/gavel/gavel/store/KindOfPinLaw" (some 0) with
  accessFlags := 49
  interfaces := #[]
  cf := some (fileOf pool1 27 #[] #[{ accessFlags := 1, nameIndex := 5, descriptorIndex := 6, attributes := #[] }, { accessFlags := 10, nameIndex := 30, descriptorIndex := 25, attributes := #[] }, { accessFlags := 9, nameIndex := 38, descriptorIndex := 39, attributes := #[] }] 49 2 #[] #[])
  fields := #[]
  methods := #[k1m0, k1m1, k1m2]
  instanceTypes := #[]
  staticTypes := #[]
  resolved := Array.replicate 42 none
  statics := none }

def pool2 : Array CpInfo := pool [(1, .class_ 2), (0, u "java/lang/constant/Constable"), (0, .class_ 4), (0, u "java/lang/Object")] 6

/-- java/lang/constant/Constable -/
def k2 : Class := { plain "java/lang/constant/Constable" (some 0) with
  accessFlags := 1537
  interfaces := #[]
  cf := some (fileOf pool2 1 #[] #[] 1537 3 #[] #[])
  fields := #[]
  methods := #[]
  instanceTypes := #[]
  staticTypes := #[]
  resolved := Array.replicate 11 none
  statics := none }

def pool3 : Array CpInfo := pool [(1, .class_ 2), (0, u "java/lang/Comparable"), (0, .class_ 4), (0, u "java/lang/Object")] 7

/-- java/lang/Comparable -/
def k3 : Class := { plain "java/lang/Comparable" (some 0) with
  accessFlags := 1537
  interfaces := #[]
  cf := some (fileOf pool3 1 #[] #[] 1537 3 #[] #[])
  fields := #[]
  methods := #[]
  instanceTypes := #[]
  staticTypes := #[]
  resolved := Array.replicate 12 none
  statics := none }

def pool4 : Array CpInfo := pool [(1, .class_ 2), (0, u "java/io/Serializable"), (0, .class_ 4), (0, u "java/lang/Object")] 2

/-- java/io/Serializable -/
def k4 : Class := { plain "java/io/Serializable" (some 0) with
  accessFlags := 1537
  interfaces := #[]
  cf := some (fileOf pool4 1 #[] #[] 1537 3 #[] #[])
  fields := #[]
  methods := #[]
  instanceTypes := #[]
  staticTypes := #[]
  resolved := Array.replicate 7 none
  statics := none }

def pool5 : Array CpInfo := pool [(2, .class_ 4), (1, u "java/lang/Enum"), (0, u "name"), (0, u "Ljava/lang/String;"), (2, u "ordinal"), (0, u "I"), (1, .class_ 14), (1, u "java/lang/Object"), (4, u "hash"), (86, .class_ 108), (1, u "java/lang/Enum$EnumDesc"), (2, .class_ 112), (0, u "java/lang/constant/Constable"), (0, .class_ 114), (0, u "java/lang/Comparable"), (0, .class_ 116), (0, u "java/io/Serializable")] 87

/-- java/lang/Enum -/
def k5 : Class := { plain "java/lang/Enum" (some 0) with
  accessFlags := 1057
  interfaces := #[2, 3, 4]
  cf := some (fileOf pool5 2 #[.nestMembers #[106]] #[] 1057 12 #[111, 113, 115] #[{ accessFlags := 18, nameIndex := 5, descriptorIndex := 6, attributes := #[] }, { accessFlags := 18, nameIndex := 9, descriptorIndex := 10, attributes := #[] }, { accessFlags := 2, nameIndex := 19, descriptorIndex := 10, attributes := #[] }])
  fields := #[{ name := "name", type := (.object "java/lang/String"), accessFlags := 18, slot := 0, constantValue := 0 }, { name := "ordinal", type := .int, accessFlags := 18, slot := 1, constantValue := 0 }, { name := "hash", type := .int, accessFlags := 2, slot := 2, constantValue := 0 }]
  methods := #[]
  instanceTypes := #[(.object "java/lang/String"), .int, .int]
  staticTypes := #[]
  resolved := Array.replicate 204 none
  statics := none }

def pool6 : Array CpInfo := pool [(1, .class_ 2), (0, u "com/example/gavel/gavel/store/Kind"), (2, u "MESSAGE"), (0, u "Lcom/example/gavel/gavel/store/Kind;"), (2, u "TOMBSTONE"), (2, u "MODERATION"), (2, u "RETRACTION"), (0, .fieldref 1 17), (0, .nameAndType 18 19), (0, u "$VALUES"), (0, u "[Lcom/example/gavel/gavel/store/Kind;"), (0, .methodref 21 22), (0, .class_ 19), (0, .nameAndType 23 24), (0, u "clone"), (0, u "()Ljava/lang/Object;"), (1, .class_ 28), (1, u "java/lang/Enum"), (6, .fieldref 1 36), (0, .nameAndType 37 38), (0, u "code"), (0, u "I"), (0, .methodref 1 40), (0, .nameAndType 41 42), (0, u "values"), (0, u "()[Lcom/example/gavel/gavel/store/Kind;"), (19, u "()I"), (0, u "of"), (0, u "(I)Lcom/example/gavel/gavel/store/Kind;")] 5

def k6c0 : Code := { maxStack := 1, maxLocals := 0, code := prog_35_method_1_code, exceptionTable := #[], attributes := #[] }
def k6m0 : Method := { name := "values", desc := "()[Lcom/example/gavel/gavel/store/Kind;", sig := { parameters := [], returnType := some (.array (.object "com/example/gavel/gavel/store/Kind")) }, accessFlags := 9, code := some k6c0 }
def k6c1 : Code := { maxStack := 1, maxLocals := 1, code := prog_35_method_5_code, exceptionTable := #[], attributes := #[] }
def k6m1 : Method := { name := "code", desc := "()I", sig := { parameters := [], returnType := some .int }, accessFlags := 0, code := some k6c1 }
def k6c2 : Code := { maxStack := 2, maxLocals := 5, code := prog_35_method_6_code, exceptionTable := #[], attributes := #[] }
def k6m2 : Method := { name := "of", desc := "(I)Lcom/example/gavel/gavel/store/Kind;", sig := { parameters := [.int], returnType := some (.object "com/example/gavel/gavel/store/Kind") }, accessFlags := 8, code := some k6c2 }
/-- com/example/gavel/gavel/store/Kind -/
def k6 : Class := { plain "com/example/gavel/gavel/store/Kind" (some 5) with
  accessFlags := 16433
  interfaces := #[]
  cf := some (fileOf pool6 1 #[] #[{ accessFlags := 9, nameIndex := 41, descriptorIndex := 42, attributes := #[] }, { accessFlags := 0, nameIndex := 37, descriptorIndex := 62, attributes := #[] }, { accessFlags := 8, nameIndex := 63, descriptorIndex := 64, attributes := #[] }] 16433 26 #[] #[{ accessFlags := 16409, nameIndex := 5, descriptorIndex := 6, attributes := #[] }, { accessFlags := 16409, nameIndex := 9, descriptorIndex := 6, attributes := #[] }, { accessFlags := 16409, nameIndex := 12, descriptorIndex := 6, attributes := #[] }, { accessFlags := 16409, nameIndex := 15, descriptorIndex := 6, attributes := #[] }, { accessFlags := 18, nameIndex := 37, descriptorIndex := 38, attributes := #[] }, { accessFlags := 4122, nameIndex := 18, descriptorIndex := 19, attributes := #[] }])
  fields := #[{ name := "MESSAGE", type := (.object "com/example/gavel/gavel/store/Kind"), accessFlags := 16409, slot := 0, constantValue := 0 }, { name := "TOMBSTONE", type := (.object "com/example/gavel/gavel/store/Kind"), accessFlags := 16409, slot := 1, constantValue := 0 }, { name := "MODERATION", type := (.object "com/example/gavel/gavel/store/Kind"), accessFlags := 16409, slot := 2, constantValue := 0 }, { name := "RETRACTION", type := (.object "com/example/gavel/gavel/store/Kind"), accessFlags := 16409, slot := 3, constantValue := 0 }, { name := "code", type := .int, accessFlags := 18, slot := 3, constantValue := 0 }, { name := "$VALUES", type := (.array (.object "com/example/gavel/gavel/store/Kind")), accessFlags := 4122, slot := 4, constantValue := 0 }]
  methods := #[k6m0, k6m1, k6m2]
  instanceTypes := #[(.object "java/lang/String"), .int, .int, .int]
  staticTypes := #[(.object "com/example/gavel/gavel/store/Kind"), (.object "com/example/gavel/gavel/store/Kind"), (.object "com/example/gavel/gavel/store/Kind"), (.object "com/example/gavel/gavel/store/Kind"), (.array (.object "com/example/gavel/gavel/store/Kind"))]
  resolved := Array.replicate 70 none
  statics := some 0 }

def pool7 : Array CpInfo := pool [(1, .class_ 2), (0, u "java/lang/Cloneable"), (0, .class_ 4), (0, u "java/lang/Object")] 2

/-- java/lang/Cloneable -/
def k7 : Class := { plain "java/lang/Cloneable" (some 0) with
  accessFlags := 1537
  interfaces := #[]
  cf := some (fileOf pool7 1 #[] #[] 1537 3 #[] #[])
  fields := #[]
  methods := #[]
  instanceTypes := #[]
  staticTypes := #[]
  resolved := Array.replicate 7 none
  statics := none }

/-- the primitive byte -/
def k8 : Class := { plain "byte" none with kind := .primitive 'B', accessFlags := 0x411 }
/-- [B -/
def k9 : Class := { plain "[B" (some 0) with kind := .array 8 .byte, interfaces := #[7, 4], accessFlags := 1041 }

/-- the primitive int -/
def k10 : Class := { plain "int" none with kind := .primitive 'I', accessFlags := 0x411 }
/-- [I -/
def k11 : Class := { plain "[I" (some 0) with kind := .array 10 .int, interfaces := #[7, 4], accessFlags := 1041 }

/-- [Lcom/example/gavel/gavel/store/Kind; -/
def k12 : Class := { plain "[Lcom/example/gavel/gavel/store/Kind;" (some 0) with kind := .array 6 (.object "com/example/gavel/gavel/store/Kind"), interfaces := #[7, 4], accessFlags := 1041 }

def heap : Heap := #[{ cls := 6, slots := #[.ref 2, .ref 3, .ref 4, .ref 5, .ref 1], vm := .statics 6 },
  { cls := 12, slots := #[.ref 2, .ref 3, .ref 4, .ref 5], vm := .none },
  { cls := 6, slots := #[.null, .int 0, .int 0, .int 1], vm := .none },
  { cls := 6, slots := #[.null, .int 0, .int 0, .int 2], vm := .none },
  { cls := 6, slots := #[.null, .int 0, .int 0, .int 3], vm := .none },
  { cls := 6, slots := #[.null, .int 0, .int 0, .int 4], vm := .none }]
def classes : Array Class := #[k0, k1, k2, k3, k4, k5, k6, k7, k8, k9, k10, k11, k12]
def interned : List (Array UInt16 × Addr) := []
def slotsUsed : Nat := 25
def theMethod : MethodId := ⟨1, 2⟩
def args0 : Array Value := #[.int 5, .int 6]
def aboutOver (below : List Frame) : State where
  vm := { classes := classes, interned := interned.toArray }
  heap := heap
  slotsUsed := slotsUsed
  threads := #[{ frames := .invoking theMethod args0 :: below }]
def below0 : List Frame := [.native { method := ⟨0, 0⟩, args := #[] }]
def about1 : State := aboutOver below0
def p0 : Program := .bare "" "" ""
def e0 : Env := launch0.env 0 0 0
theorem w_frames : about1.frames = Frame.invoking theMethod args0 :: below0 := rfl
set_option maxRecDepth 65536 in
theorem w_args : argsFit about1.vm theMethod args0 = true := by decide +kernel
set_option maxRecDepth 65536 in
theorem w_heap : heapFits about1 = true := by decide +kernel
set_option maxRecDepth 65536 in
theorem w_runnable : about1.curStatus? = some .runnable := by decide +kernel
set_option maxRecDepth 65536 in
theorem w_alone : about1.alone = true := by decide +kernel
set_option maxRecDepth 65536 in
theorem w_named : about1.methodNamed? x = some theMethod := by decide +kernel
set_option maxRecDepth 65536 in
theorem w_hears : about1.hears theMethod below0 = true := by decide +kernel
set_option maxRecDepth 65536 in
theorem w_ripe : about1.ripe theMethod args0 below0 = true := by decide +kernel
theorem w_running : about1.status = .running := rfl
set_option maxRecDepth 65536 in
theorem w_room : about1.hasRoom e0.platform room_1 = true :=
  launch0.hasRoom_least _ room_1 (by decide +kernel) (by decide +kernel) (by decide +kernel) (by decide +kernel) (by decide +kernel) (by decide +kernel)
theorem allAtoms_all (ts : List Jvm.Cond) (a : Array Jvm.Value) (st : Jvm.State) : (allAtoms ts).before a st = ts.all (fun c => c.before a st) := by
  induction ts with
  | nil => rfl
  | cons c t ih =>
    show (Jvm.Cond.and c (allAtoms t)).before a st = _
    rw [Jvm.Cond.before_and, ih, List.all_cons]
def words1 : List Jvm.Cond := Jvm.Cond.code x code maxLocals ret :: tables_1
/-- a 'code' word, met by the world's own term for the bytes: nothing is compared byte by byte -/
theorem code_word {y : MethodName} {bytes : ByteArray} {mx : Nat} {rt : Option FieldType} {a : Array Value} {s : State} {m : MethodId} {meth : Method} {c : Code} (h1 : s.methodNamed? y = some m) (h2 : s.vm.method? m = some meth) (h3 : meth.code = some c) (h4 : c.code = bytes)
    (h5 : (c.maxLocals == mx && c.exceptionTable.isEmpty && decide (c.maxStack ≤ mostOperands) && decide (meth.sig.returnType = rt) && !meth.locks && decide (parseMethodDescriptor y.desc = some meth.sig)) = true) : (Jvm.Cond.code y bytes mx rt).before a s = true := by
  simp only [Bool.and_eq_true, beq_iff_eq, Bool.not_eq_true', decide_eq_true_eq] at h5
  obtain ⟨⟨⟨⟨⟨g1, g2⟩, g3⟩, g4⟩, g5⟩, g6⟩ := h5
  simp [Cond.before, Cond.holds, Cond.value, h1, h2, h3, h4, g1, g2, g3, g4, g5, g6]
def isCode : Jvm.Cond → Bool
  | .code _ _ _ _ => true
  | _ => false
theorem all_split {L : List Jvm.Cond} {P : Jvm.Cond → Bool} (h1 : L.all (fun c => isCode c || P c) = true) (h2 : ∀ c ∈ L.filter isCode, P c = true) : L.all P = true := by
  refine List.all_eq_true.mpr fun c hc => ?_
  have h := List.all_eq_true.mp h1 c hc
  rcases Bool.eq_false_or_eq_true (isCode c) with hi | hi
  · exact h2 c (List.mem_filter.mpr ⟨hc, hi⟩)
  · simpa [hi] using h
set_option maxRecDepth 65536 in
theorem w_c0 : (Jvm.Cond.code x code maxLocals ret).before args0 about1 = true := code_word (m := ⟨1, 2⟩) (meth := k1m2) (c := k1c2) (by decide +kernel) rfl rfl rfl (by decide +kernel)
set_option maxRecDepth 65536 in
theorem w_c1 : (Jvm.Cond.code ({ cls := "com/example/gavel/gavel/store/Kind", name := "of", desc := "(I)Lcom/example/gavel/gavel/store/Kind;" } : Jvm.MethodName) prog_35_method_6_code (5 : Nat) (Option.some (Jvm.ClassFile.FieldType.object "com/example/gavel/gavel/store/Kind"))).before args0 about1 = true := code_word (m := ⟨6, 2⟩) (meth := k6m2) (c := k6c2) (by decide +kernel) rfl rfl rfl (by decide +kernel)
set_option maxRecDepth 65536 in
theorem w_c2 : (Jvm.Cond.code ({ cls := "com/example/gavel/gavel/store/Kind", name := "values", desc := "()[Lcom/example/gavel/gavel/store/Kind;" } : Jvm.MethodName) prog_35_method_1_code (0 : Nat) (Option.some (Jvm.ClassFile.FieldType.array (Jvm.ClassFile.FieldType.object "com/example/gavel/gavel/store/Kind")))).before args0 about1 = true := code_word (m := ⟨6, 0⟩) (meth := k6m0) (c := k6c0) (by decide +kernel) rfl rfl rfl (by decide +kernel)
set_option maxRecDepth 65536 in
theorem w_c3 : (Jvm.Cond.code ({ cls := "com/example/gavel/gavel/store/KindOfPinLaw", name := "expected", desc := "(I)Lcom/example/gavel/gavel/store/Kind;" } : Jvm.MethodName) method_2_code (1 : Nat) (Option.some (Jvm.ClassFile.FieldType.object "com/example/gavel/gavel/store/Kind"))).before args0 about1 = true := code_word (m := ⟨1, 1⟩) (meth := k1m1) (c := k1c1) (by decide +kernel) rfl rfl rfl (by decide +kernel)
set_option maxRecDepth 65536 in
theorem w_c4 : (Jvm.Cond.code ({ cls := "com/example/gavel/gavel/store/Kind", name := "code", desc := "()I" } : Jvm.MethodName) prog_35_method_5_code (1 : Nat) (Option.some Jvm.ClassFile.FieldType.int)).before args0 about1 = true := code_word (m := ⟨6, 1⟩) (meth := k6m1) (c := k6c1) (by decide +kernel) rfl rfl rfl (by decide +kernel)
def codes1 : List Jvm.Cond := [Jvm.Cond.code x code maxLocals ret, Jvm.Cond.code ({ cls := "com/example/gavel/gavel/store/Kind", name := "of", desc := "(I)Lcom/example/gavel/gavel/store/Kind;" } : Jvm.MethodName) prog_35_method_6_code (5 : Nat) (Option.some (Jvm.ClassFile.FieldType.object "com/example/gavel/gavel/store/Kind")), Jvm.Cond.code ({ cls := "com/example/gavel/gavel/store/Kind", name := "values", desc := "()[Lcom/example/gavel/gavel/store/Kind;" } : Jvm.MethodName) prog_35_method_1_code (0 : Nat) (Option.some (Jvm.ClassFile.FieldType.array (Jvm.ClassFile.FieldType.object "com/example/gavel/gavel/store/Kind"))), Jvm.Cond.code ({ cls := "com/example/gavel/gavel/store/KindOfPinLaw", name := "expected", desc := "(I)Lcom/example/gavel/gavel/store/Kind;" } : Jvm.MethodName) method_2_code (1 : Nat) (Option.some (Jvm.ClassFile.FieldType.object "com/example/gavel/gavel/store/Kind")), Jvm.Cond.code ({ cls := "com/example/gavel/gavel/store/Kind", name := "code", desc := "()I" } : Jvm.MethodName) prog_35_method_5_code (1 : Nat) (Option.some Jvm.ClassFile.FieldType.int)]
set_option maxRecDepth 65536 in
theorem codes_eq : words1.filter isCode = codes1 := rfl
theorem w_codes : ∀ c ∈ words1.filter isCode, c.before args0 about1 = true := by
  rw [codes_eq]
  intro c hc
  simp only [codes1, List.mem_cons, List.not_mem_nil, or_false] at hc
  rcases hc with rfl | rfl | rfl | rfl | rfl
  · exact w_c0
  · exact w_c1
  · exact w_c2
  · exact w_c3
  · exact w_c4
set_option maxRecDepth 65536 in
theorem w_t1 : (words1.take 24).all (fun c => isCode c || c.before args0 about1) = true := by decide +kernel
set_option maxRecDepth 65536 in
theorem w_t2 : (words1.drop 24).all (fun c => isCode c || c.before args0 about1) = true := by decide +kernel
theorem w_tables : (allAtoms (Jvm.Cond.code x code maxLocals ret :: tables_1)).before args0 about1 = true := by
  rw [allAtoms_all]
  show words1.all (fun c => c.before args0 about1) = true
  refine all_split ?_ w_codes
  rw [← List.take_append_drop 24 words1, List.all_append, w_t1, w_t2]
  rfl
set_option maxRecDepth 65536 in
theorem w_case : (Jvm.Cond.and given_1 narrow_1).before args0 about1 = true := by decide +kernel
theorem w_applies : (headSpec (Jvm.Cond.code x code maxLocals ret :: tables_1) room_1).applies x e0.platform about1 = true :=
  (Spec.applies_iff w_frames).mpr ⟨w_running, w_runnable, w_alone, w_named, w_hears, w_ripe, w_room, w_tables⟩
theorem atStart : AtStart classFile x code maxLocals ret World_1 tables_1 room_1 Calls_1 rest_1 Pre_1 launch0 p0 e0 about1 theMethod args0 below0 :=
  ⟨lists_1, trivial, launch0.admits_env _ _ _, launch0.least_env, fairChoices_fair.cas, fairChoices_fair.clock, w_frames, w_args, w_heap, w_applies, trivial, trivial, w_case⟩
end start1
theorem witness_1 : WitnessClaimed_1 := ⟨start1.p0, start1.e0, start1.about1, start1.theMethod, start1.args0, start1.below0, start1.atStart⟩
end Jvm.Pilot.@@N@@
