import JvmDerived
import JvmDerived.Pilot.@@N@@Statement
import JvmDerived.Pilot.@@N@@Code
set_option linter.unusedVariables false
set_option linter.unusedSimpArgs false
namespace Jvm.RoadKit
open Sem ClassFile Op Lib Jvm.Stand Jvm.Free Jvm.LawKit
section New
variable {p : Program} {l : Launch} {e : Env} {R : Room} {s : State} {m : MethodId} {args : Array Value} {below : List Frame} {meth : Method} {c : Code} {T : State} {locs : List Loc} {cells slots : Nat}
theorem retI (X : Stand p l e R s m args below meth c T locs cells slots) (hx : p.tables.exec = Jvm.exec) {pc : Nat} {Ls : Array Slot} {z : Int32} {rest : List Value} (hret : meth.sig.returnType = some .int) (hd : decode c.code pc = .ok (.ireturn, 1)) {fs : List Frame}
    (hl : ∀ (f : JFrame) (acts : List Action), f.method = m → f.locked = none → f.entered = [] → (doReturn e (T.setTop f) acts (some (.int z))).1 = T.setFrames fs) : Steps p.tables e below (T.setTop (mkF m pc Ls (.int z :: rest))) (T.setFrames fs) := by
  have hm' : T.vm.method? m = some meth := X.method'
  have hn : narrow .int (.int z) = .int z := rfl
  show Steps p.tables e below (T.setTop { method := m, pc := pc, locals := Ls, stack := _ :: rest, locked := none }) _
  jvm_step X.here [X.here.top, hx, hd, hm', hret, hn]
  first | (intro acts; rw [hl _ acts rfl rfl rfl]) | rw [hl _ _ rfl rfl rfl]
  exact Steps.refl _
end New
end Jvm.RoadKit
namespace Jvm.Pilot.@@N@@
open Jvm Jvm.ClassFile Sem Op Lib Jvm.Free Jvm.Stand Jvm.LawKit Jvm.RoadKit Bundle Jvm.Pilot.@@N@@.Jvm.D

theorem own_and_bd (x m : Int32) (hm : 0 ≤ m.toInt) : 0 ≤ (x &&& m).toInt ∧ (x &&& m).toInt ≤ m.toInt := by
  have e : (x &&& m).toBitVec.toNat = x.toBitVec.toNat &&& m.toBitVec.toNat := by
    show (x.toBitVec &&& m.toBitVec).toNat = _
    rw [BitVec.toNat_and]
  have l1 : x.toBitVec.toNat &&& m.toBitVec.toNat ≤ m.toBitVec.toNat := Nat.and_le_right
  change 0 ≤ m.toBitVec.toInt at hm
  show 0 ≤ (x &&& m).toBitVec.toInt ∧ (x &&& m).toBitVec.toInt ≤ m.toBitVec.toInt
  rw [BitVec.toInt_eq_toNat_cond] at hm ⊢
  rw [BitVec.toInt_eq_toNat_cond, e]
  have := m.toBitVec.isLt
  split at hm <;> split <;> (try split) <;> omega
theorem own_int_of {x : Int32} {k : Int} (h : x.toInt = k) : x = Int32.ofInt k := by
  rw [← h]; exact (Int32.ofInt_toInt x).symm
theorem own_rem_bd (x y : Int32) (hx : 0 ≤ x.toInt) (hy : 0 < y.toInt) : 0 ≤ (x % y).toInt ∧ (x % y).toInt < y.toInt := by
  have e : (x % y).toInt = x.toInt.tmod y.toInt := by
    first | exact Int32.toInt_mod x y | exact Int32.toInt_srem x y | simp
  rw [e]
  exact ⟨Int.tmod_nonneg _ hx, Int.tmod_lt_of_pos _ hy⟩
theorem own_len {args : Array Value} {s : State} {t : Term} {a : Addr} {cl : Cell} {ty : FieldType} {n : Int32} (ht : t.eval args s none [] s = some (.ref a)) (A : Arr s s.heap a cl ty) (h : (Jvm.Cond.eq (Term.length t) (Term.int n)).value args s none s [] = some true) : cl.slots.size < 2 ^ 31 ∧ cl.slots.size.toInt32 = n := by
  have hA : s.arrayAt? a = some cl := Arr.fin (Vm.Alike.refl _) A
  by_cases q : cl.slots.size < 2 ^ 31
  · refine ⟨q, ?_⟩
    have e := len_f ht hA q
    have e2 : (Term.int n).eval args s none [] s = some (.int n) := rfl
    simp only [Jvm.Cond.value, e, e2] at h
    simpa using h
  · exfalso
    have e : (Term.length t).eval args s none [] s = none := by simp [Term.eval, ht, hA, q]
    simp [Jvm.Cond.value, e] at h
theorem own_elem {args : Array Value} {s : State} {t u : Term} {a : Addr} {cl : Cell} {ty : FieldType} {j : Int32} {i : Nat} {v : Value} (ht : t.eval args s none [] s = some (.ref a)) (A : Arr s s.heap a cl ty) (h : (Jvm.Cond.eq (Term.elem t (Term.int j)) u).value args s none s [] = some true) (hu : u.eval args s none [] s = some v) (hi : j.toNatClampNeg = i) : cl.slots[i]? = some v := by
  subst hi
  obtain ⟨x, y, e1, e2, -, -⟩ := cmp_v (Or.inl h)
  cases hu.symm.trans e2
  have q := elem_in e1 ht (Term.int_eval j) A.1
  simp only [Jvm.Cond.value, e1, hu] at h
  rw [q.2]
  cases x <;> cases v <;> simp_all
theorem own_sta_keep0 {Z : State} {h h' : Heap} {C n d : String} {v : Value} (F : Sta Z h C n d v) (K : Keep h h' []) : Sta Z h' C n d v := by
  obtain ⟨cf, i, k, f, st, cell, h1, h2, h3, h4, h5, r⟩ := F
  exact ⟨cf, i, k, f, st, cell, h1, h2, h3, h4, K.2.1 st cell h5 nin0, r⟩
theorem own_fld_int {args : Array Value} {s : State} {t : Term} {C n d : String} {k : Int32} {x : Addr} (ht : t.eval args s none [] s = some (.ref x)) (h : (Jvm.Cond.eq (Term.field t C n d) (Term.int k)).value args s none s [] = some true) : Fld s s.heap x C n d (.int k) := by
  obtain ⟨v, w, e1, e2, -, -⟩ := cmp_v (Or.inl h)
  rw [fld_at ht] at e1
  have e2' : some (Value.int k) = some w := e2
  cases e2'
  have h' := h
  simp only [Jvm.Cond.value, fld_at ht, e1, e2] at h'
  cases v <;> simp at h'
  subst h'
  exact Fld.start e1
theorem own_fld_ref {args : Array Value} {s : State} {t u : Term} {C n d : String} {x y : Addr} (ht : t.eval args s none [] s = some (.ref x)) (hu : u.eval args s none [] s = some (.ref y)) (h : (Jvm.Cond.eq (Term.field t C n d) u).value args s none s [] = some true) : Fld s s.heap x C n d (.ref y) := by
  obtain ⟨v, w, e1, e2, -, -⟩ := cmp_v (Or.inl h)
  rw [fld_at ht] at e1
  cases hu.symm.trans e2
  have h' := h
  simp only [Jvm.Cond.value, fld_at ht, e1, hu] at h'
  cases v <;> simp at h'
  subst h'
  exact Fld.start e1
def own_P (z : Int) : Prop := (847 ≤ z ∧ z ≤ 847) ∨ (4447 ≤ z ∧ z ≤ 4448) ∨ (6068 ≤ z ∧ z ≤ 6069) ∨ (6155 ≤ z ∧ z ≤ 6157) ∨ (6159 ≤ z ∧ z ≤ 6159) ∨ (8293 ≤ z ∧ z ≤ 8293) ∨ (10240 ≤ z ∧ z ≤ 10240) ∨ (12644 ≤ z ∧ z ≤ 12644) ∨ (65024 ≤ z ∧ z ≤ 65039) ∨ (65440 ≤ z ∧ z ≤ 65440) ∨ (65520 ≤ z ∧ z ≤ 65528) ∨ (917504 ≤ z ∧ z ≤ 917504) ∨ (917506 ≤ z ∧ z ≤ 917535) ∨ (917632 ≤ z ∧ z ≤ 921599)
instance (z : Int) : Decidable (own_P z) := by unfold own_P; infer_instance
def own_bl (c : Int32) : Int32 := if own_P c.toInt then 1 else 0
theorem own_ltI {c k : Int32} {n : Int} (hk : k.toInt = n) (h : c < k) : c.toInt < n := hk ▸ Int32.lt_iff_toInt_lt.mp h
theorem own_nltI {c k : Int32} {n : Int} (hk : k.toInt = n) (h : ¬ c < k) : n ≤ c.toInt := by rw [Int32.lt_iff_toInt_lt, hk] at h; omega
theorem own_gtI {c k : Int32} {n : Int} (hk : k.toInt = n) (h : k < c) : n < c.toInt := hk ▸ Int32.lt_iff_toInt_lt.mp h
theorem own_ngtI {c k : Int32} {n : Int} (hk : k.toInt = n) (h : ¬ k < c) : c.toInt ≤ n := by rw [Int32.lt_iff_toInt_lt, hk] at h; omega
theorem own_eqI {c k : Int32} {n : Int} (hk : k.toInt = n) (h : c = k) : c.toInt = n := h ▸ hk
theorem own_neI {c k : Int32} {n : Int} (hk : k.toInt = n) (h : ¬ c = k) : c.toInt ≠ n := fun q => h (Int32.toInt_inj.mp (q.trans hk.symm))
theorem own_outI {c k k' : Int32} {n n' : Int} (hk : k.toInt = n) (hk' : k'.toInt = n') (h : ¬ (¬ c < k ∧ ¬ k' < c)) : c.toInt < n ∨ n' < c.toInt := by
  rw [Int32.lt_iff_toInt_lt, Int32.lt_iff_toInt_lt, hk, hk'] at h; omega
theorem own_ushr1 (x : Int32) : 0 ≤ (((x.toUInt32 >>> ((1 : Int32) &&& 31).toUInt32).toInt32)).toInt := by
  have e : (((x.toUInt32 >>> ((1 : Int32) &&& 31).toUInt32).toInt32)).toBitVec.toNat = x.toBitVec.toNat / 2 := by
    have h1 : ((1 : Int32) &&& 31).toUInt32 = 1 := by decide
    rw [h1]
    show (x.toUInt32 >>> (1 : UInt32)).toBitVec.toNat = _
    rw [UInt32.toBitVec_shiftRight]
    show (x.toBitVec >>> (1 : BitVec 32)).toNat = _
    simp [BitVec.toNat_ushiftRight, Nat.shiftRight_eq_div_pow]
  show 0 ≤ (((x.toUInt32 >>> ((1 : Int32) &&& 31).toUInt32).toInt32)).toBitVec.toInt
  rw [BitVec.toInt_eq_toNat_cond, e]
  have := x.toBitVec.isLt
  split <;> omega
theorem own_inb (x n : Int32) (h : 0 ≤ x.toInt) (hn : 0 < n.toInt) : ¬ (x % n) < 0 ∧ (x % n) < n := by
  obtain ⟨a, b⟩ := own_rem_bd x n h hn
  exact ⟨fun q => absurd (Int32.lt_iff_toInt_lt.mp q) (Int.not_lt.mpr a), Int32.lt_iff_toInt_lt.mpr b⟩
theorem own_getI (l : List Int32) (i : Nat) : ∃ z : Int32, (l.map Value.int).getD i (.int 0) = .int z := by
  induction l generalizing i with
  | nil => exact ⟨0, rfl⟩
  | cons a l ih => cases i with
    | zero => exact ⟨a, rfl⟩
    | succ i => exact ih i
theorem own_pn_1 : plainName "com/example/hopguard/hopguard/core/VisibleText" = true := by first | (simp [plainName, overriddenIn]; done) | decide +kernel
theorem d1_0 : decode prog_9_method_5_code 0 = .ok (.iconst 0, 1) := by decide +kernel
theorem d1_1 : decode prog_9_method_5_code 1 = .ok (.istore_n 1, 1) := by decide +kernel
theorem d1_2 : decode prog_9_method_5_code 2 = .ok (.iload_n 1, 1) := by decide +kernel
theorem d1_3 : decode prog_9_method_5_code 3 = .ok (.getstatic 79, 3) := by decide +kernel
theorem d1_6 : decode prog_9_method_5_code 6 = .ok (.arraylength, 1) := by decide +kernel
theorem d1_7 : decode prog_9_method_5_code 7 = .ok (.if_icmp .ge 31, 3) := by decide +kernel
theorem d1_10 : decode prog_9_method_5_code 10 = .ok (.getstatic 79, 3) := by decide +kernel
theorem d1_13 : decode prog_9_method_5_code 13 = .ok (.iload_n 1, 1) := by decide +kernel
theorem d1_14 : decode prog_9_method_5_code 14 = .ok (.iaload, 1) := by decide +kernel
theorem d1_15 : decode prog_9_method_5_code 15 = .ok (.iload_n 0, 1) := by decide +kernel
theorem d1_16 : decode prog_9_method_5_code 16 = .ok (.if_icmp .gt 22, 3) := by decide +kernel
theorem d1_38 : decode prog_9_method_5_code 38 = .ok (.iconst 0, 1) := by decide +kernel
theorem d1_39 : decode prog_9_method_5_code 39 = .ok (.ireturn, 1) := by decide +kernel
theorem d1_19 : decode prog_9_method_5_code 19 = .ok (.iload_n 0, 1) := by decide +kernel
theorem d1_20 : decode prog_9_method_5_code 20 = .ok (.getstatic 79, 3) := by decide +kernel
theorem d1_23 : decode prog_9_method_5_code 23 = .ok (.iload_n 1, 1) := by decide +kernel
theorem d1_24 : decode prog_9_method_5_code 24 = .ok (.iconst 1, 1) := by decide +kernel
theorem d1_25 : decode prog_9_method_5_code 25 = .ok (.iadd, 1) := by decide +kernel
theorem d1_26 : decode prog_9_method_5_code 26 = .ok (.iaload, 1) := by decide +kernel
theorem d1_27 : decode prog_9_method_5_code 27 = .ok (.if_icmp .gt 5, 3) := by decide +kernel
theorem d1_32 : decode prog_9_method_5_code 32 = .ok (.iinc 1 2, 3) := by decide +kernel
theorem d1_35 : decode prog_9_method_5_code 35 = .ok (.goto (-33), 3) := by decide +kernel
theorem d1_30 : decode prog_9_method_5_code 30 = .ok (.iconst 1, 1) := by decide +kernel
theorem d1_31 : decode prog_9_method_5_code 31 = .ok (.ireturn, 1) := by decide +kernel
def own_rmB_Q (Z : State) (c : Int32) (wA : Addr) (kA : ClassId) (h0 : Heap) (n0 : Nat) (v : Option Value) (h : Heap) (L : List Loc) : Prop := v = some (.int (own_bl c)) ∧ Fr n0 L ∧ h = h0
set_option maxRecDepth 65536 in
set_option maxHeartbeats 40000000 in
theorem own_rmB (l : Launch) (Z : State) (a0 : Array Value) (hw : ∀ d ∈ tables_1, d.before a0 Z = true) (ws : List Jvm.Cond) (c : Int32) (wA : Addr) (kA : ClassId) (h0 : Heap) (n0 : Nat) (Z0 : n0 ≤ h0.size) (S_A : Sta Z h0 "com/example/hopguard/hopguard/core/VisibleText" "BLANK_RANGES" "[I" (.ref wA)) (V_A : Arv Z h0 wA kA .int (28 : Int32) [(.int (847 : Int32)), (.int (847 : Int32)), (.int (4447 : Int32)), (.int (4448 : Int32)), (.int (6068 : Int32)), (.int (6069 : Int32)), (.int (6155 : Int32)), (.int (6157 : Int32)), (.int (6159 : Int32)), (.int (6159 : Int32)), (.int (8293 : Int32)), (.int (8293 : Int32)), (.int (10240 : Int32)), (.int (10240 : Int32)), (.int (12644 : Int32)), (.int (12644 : Int32)), (.int (65024 : Int32)), (.int (65039 : Int32)), (.int (65440 : Int32)), (.int (65440 : Int32)), (.int (65520 : Int32)), (.int (65528 : Int32)), (.int (917504 : Int32)), (.int (917504 : Int32)), (.int (917506 : Int32)), (.int (917535 : Int32)), (.int (917632 : Int32)), (.int (921599 : Int32))] (.int (0 : Int32))) :
    MetFree l (⟨"com/example/hopguard/hopguard/core/VisibleText", "isBlank", "(I)Z"⟩ : MethodName) (head1 (Jvm.Cond.code (⟨"com/example/hopguard/hopguard/core/VisibleText", "isBlank", "(I)Z"⟩ : MethodName) prog_9_method_5_code 2 (some .boolean) :: ws) ({ frames := 0, cells := 0, slots := 0, locals := 0 } : Room)) (fun aa UU => aa = #[(.int c)] ∧ Z.Warmed39 UU.vm ∧ UU.heap = h0) (fun _ _ _ _ _ => True) (fun _ UU oo UU' => ∃ vv LL, oo = .returned vv ∧ own_rmB_Q Z c wA kA h0 n0 vv UU'.heap LL ∧ FrameEnd UU oo UU' LL ({ frames := 0, cells := 0, slots := 0, locals := 0 } : Room).cells ({ frames := 0, cells := 0, slots := 0, locals := 0 } : Room).slots) := by
  refine MetFree.of_bodySF (plainFor_of_name own_pn_1) hisR ?_
  intro p e s m args below meth cc s₁ Bd hml0 hP hK
  obtain ⟨rfl, hZ, hh⟩ := hP
  have hx := Bd.exec
  have hby := Bd.bytes
  have hml : cc.maxLocals = 2 := hml0
  have hown : s.vm.findClass "com/example/hopguard/hopguard/core/VisibleText" = some m.cls := findClass_of_methodNamed Bd.named
  have hnm := (name_of_methodNamed Bd.named Bd.method).1
  have X0 : Stand p l e ({ frames := 0, cells := 0, slots := 0, locals := 0 } : Room) s m #[(.int c)] below meth cc s₁ [] 0 0 := Stand.of_body Bd
  have e0 : s₁.heap = h0 := by rw [← hh, Bd.state]; rfl
  have N0 := Fr.nil n0
  have k0 : ∀ tt, Steps p.tables e below (s₁.setTop (mkF m 0 #[.val (.int c), .unset] [])) tt → Steps p.tables e below (s₁.setTop (entryFrame m #[(.int c)] 2)) tt := fun tt kk => castTop (by first | (simp [entryFrame, mkF, argsToLocals, Value.category]; done) | rfl) kk
  obtain ⟨T1, X1, e1, st1⟩ := getS2 X0 hx hZ hown (host := "") (Or.inl (hw _ (List.mem_of_getElem? (i := 4) rfl))) Via.refl e0 S_A (g := (mkF m 3 #[.val (.int c), .val (.int (0 : Int32))] [(.int (0 : Int32))])) rfl (hb hby d1_3)
  obtain ⟨cl2, Ar2, q2, S2, P2, H2, G2⟩ := id V_A
  obtain ⟨T3, X3, e3, st3⟩ := getS2 X1 hx hZ hown (host := "") (Or.inl (hw _ (List.mem_of_getElem? (i := 4) rfl))) Via.refl e1 S_A (g := (mkF m 10 #[.val (.int c), .val (.int (0 : Int32))] [])) rfl (hb hby d1_10)
  obtain ⟨cl4, Ar4, q4, S4, P4, H4, G4⟩ := id V_A
  have hin4 : ¬ ((0 : Int32) < 0 ∨ cl4.slots.size ≤ ((0 : Int32)).toNatClampNeg) := inb_of S4 ⟨by decide, by decide⟩
  have hat4 : cl4.slots[((0 : Int32)).toNatClampNeg]? = some (.int (847 : Int32)) := Has.at H4 hin4 rfl
  have k6 : ∀ tt, Steps p.tables e below (T3.setTop (mkF m 16 #[.val (.int c), .val (.int (0 : Int32))] [(.int c), (.int (847 : Int32))])) tt → Steps p.tables e below (s₁.setTop (entryFrame m #[(.int c)] 2)) tt := by
    intro tt kk
    refine k0 tt ?_
    show Steps p.tables e below (s₁.setTop (mkF m 0 #[.val (.int c), .unset] [])) tt
    refine XS.iconst X0.here hx rfl (hb hby d1_0) ?_
    show Steps p.tables e below (s₁.setTop (mkF m 1 #[.val (.int c), .unset] [(.int (0 : Int32))])) tt
    refine XS.istoreN X0.here hx rfl (hb hby d1_1) rfl (l' := #[.val (.int c), .val (.int (0 : Int32))]) rfl ?_
    show Steps p.tables e below (s₁.setTop (mkF m 2 #[.val (.int c), .val (.int (0 : Int32))] [])) tt
    refine XS.iloadN X0.here hx rfl (hb hby d1_2) rfl ?_
    show Steps p.tables e below (s₁.setTop (mkF m 3 #[.val (.int c), .val (.int (0 : Int32))] [(.int (0 : Int32))])) tt
    refine st1 _ ?_
    show Steps p.tables e below (T1.setTop (mkF m 6 #[.val (.int c), .val (.int (0 : Int32))] [(.ref wA), (.int (0 : Int32))])) tt
    refine X1.arraylength hx (by rw [e1]; exact Ar2.1) (State.isArrayOf_alike hZ.alike Ar2.2.1) (g := (mkF m 6 #[.val (.int c), .val (.int (0 : Int32))] [(.ref wA), (.int (0 : Int32))])) rfl rfl (hb hby d1_6) _ ?_
    rw [len_of S2 P2]
    show Steps p.tables e below (T1.setTop (mkF m 7 #[.val (.int c), .val (.int (0 : Int32))] [(.int (28 : Int32)), (.int (0 : Int32))])) tt
    refine XS.icmpNo X1.here hx rfl (hb hby d1_7) rfl (tlt (by decide : (0 : Int32) < (28 : Int32))).2.1 ?_
    show Steps p.tables e below (T1.setTop (mkF m 10 #[.val (.int c), .val (.int (0 : Int32))] [])) tt
    refine st3 _ ?_
    show Steps p.tables e below (T3.setTop (mkF m 13 #[.val (.int c), .val (.int (0 : Int32))] [(.ref wA)])) tt
    refine XS.iloadN X3.here hx rfl (hb hby d1_13) rfl ?_
    show Steps p.tables e below (T3.setTop (mkF m 14 #[.val (.int c), .val (.int (0 : Int32))] [(.int (0 : Int32)), (.ref wA)])) tt
    refine X3.iaload hx (j := (0 : Int32)) (v := (.int (847 : Int32))) (by rw [e3]; exact Ar4.1) (State.isArrayOf_alike hZ.alike Ar4.2.1) Ar4.2.2 hin4 hat4 (g := (mkF m 14 #[.val (.int c), .val (.int (0 : Int32))] [(.int (0 : Int32)), (.ref wA)])) rfl rfl (hb hby d1_14) _ ?_
    show Steps p.tables e below (T3.setTop (mkF m 15 #[.val (.int c), .val (.int (0 : Int32))] [(.int (847 : Int32))])) tt
    refine XS.iloadN X3.here hx rfl (hb hby d1_15) rfl ?_
    exact kk
  by_cases hc4 : c < (847 : Int32)
  · have k7 : ∀ tt, Steps p.tables e below (T3.setTop (mkF m 39 #[.val (.int c), .val (.int (0 : Int32))] [(.int (0 : Int32))])) tt → Steps p.tables e below (s₁.setTop (entryFrame m #[(.int c)] 2)) tt := by
      intro tt kk
      refine k6 tt ?_
      show Steps p.tables e below (T3.setTop (mkF m 16 #[.val (.int c), .val (.int (0 : Int32))] [(.int c), (.int (847 : Int32))])) tt
      refine XS.icmpYes X3.here hx rfl (pc0 := 16) (pc' := 38) rfl (hb hby d1_16) rfl (tlt (hc4 : c < (847 : Int32))).2.2.1 (by decide) (by decide) ?_
      show Steps p.tables e below (T3.setTop (mkF m 38 #[.val (.int c), .val (.int (0 : Int32))] [])) tt
      refine XS.iconst X3.here hx rfl (hb hby d1_38) ?_
      exact kk
    obtain ⟨fs, hr, hrun, hended, hW, hsame⟩ := X3.leave (v := some (.int (0 : Int32))) (fun hq => by rw [Bd.returns] at hq; cases hq)
    refine ⟨_, _, k7 _ ?_, hrun, hended, _, _, rfl, ?_, ⟨_, rfl⟩, hW, hsame.mono (by decide) (by decide)⟩
    · show Steps p.tables e below (T3.setTop (mkF m 39 #[.val (.int c), .val (.int (0 : Int32))] [(.int (0 : Int32))])) _
      exact retN X3 hx (t := .boolean) Bd.returns (by simp) (hb hby d1_39) hr
    · show (fun (v : Option Value) (h : Heap) (L : List Loc) => v = some (.int (own_bl c)) ∧ Fr n0 L ∧ h = h0) _ T3.heap _
      rw [e3]
      dsimp only
      refine ⟨?_, N0, rfl⟩
      have z0 := own_ltI (n := 847) rfl hc4
      unfold own_bl
      rw [if_neg (show ¬ own_P c.toInt by unfold own_P; omega)]
  · obtain ⟨T8, X8, e8, st8⟩ := getS2 X3 hx hZ hown (host := "") (Or.inl (hw _ (List.mem_of_getElem? (i := 4) rfl))) Via.refl e3 S_A (g := (mkF m 20 #[.val (.int c), .val (.int (0 : Int32))] [(.int c)])) rfl (hb hby d1_20)
    obtain ⟨cl9, Ar9, q9, S9, P9, H9, G9⟩ := id V_A
    have hin9 : ¬ ((1 : Int32) < 0 ∨ cl9.slots.size ≤ ((1 : Int32)).toNatClampNeg) := inb_of S9 ⟨by decide, by decide⟩
    have hat9 : cl9.slots[((1 : Int32)).toNatClampNeg]? = some (.int (847 : Int32)) := Has.at H9 hin9 rfl
    have k11 : ∀ tt, Steps p.tables e below (T8.setTop (mkF m 27 #[.val (.int c), .val (.int (0 : Int32))] [(.int (847 : Int32)), (.int c)])) tt → Steps p.tables e below (s₁.setTop (entryFrame m #[(.int c)] 2)) tt := by
      intro tt kk
      refine k6 tt ?_
      show Steps p.tables e below (T3.setTop (mkF m 16 #[.val (.int c), .val (.int (0 : Int32))] [(.int c), (.int (847 : Int32))])) tt
      refine XS.icmpNo X3.here hx rfl (hb hby d1_16) rfl (flt (hc4 : ¬ (c < (847 : Int32)))).2.2.1 ?_
      show Steps p.tables e below (T3.setTop (mkF m 19 #[.val (.int c), .val (.int (0 : Int32))] [])) tt
      refine XS.iloadN X3.here hx rfl (hb hby d1_19) rfl ?_
      show Steps p.tables e below (T3.setTop (mkF m 20 #[.val (.int c), .val (.int (0 : Int32))] [(.int c)])) tt
      refine st8 _ ?_
      show Steps p.tables e below (T8.setTop (mkF m 23 #[.val (.int c), .val (.int (0 : Int32))] [(.ref wA), (.int c)])) tt
      refine XS.iloadN X8.here hx rfl (hb hby d1_23) rfl ?_
      show Steps p.tables e below (T8.setTop (mkF m 24 #[.val (.int c), .val (.int (0 : Int32))] [(.int (0 : Int32)), (.ref wA), (.int c)])) tt
      refine XS.iconst X8.here hx rfl (hb hby d1_24) ?_
      show Steps p.tables e below (T8.setTop (mkF m 25 #[.val (.int c), .val (.int (0 : Int32))] [(.int (1 : Int32)), (.int (0 : Int32)), (.ref wA), (.int c)])) tt
      refine XS.iadd X8.here hx rfl (hb hby d1_25) rfl ?_
      show Steps p.tables e below (T8.setTop (mkF m 26 #[.val (.int c), .val (.int (0 : Int32))] [(.int (1 : Int32)), (.ref wA), (.int c)])) tt
      refine X8.iaload hx (j := (1 : Int32)) (v := (.int (847 : Int32))) (by rw [e8]; exact Ar9.1) (State.isArrayOf_alike hZ.alike Ar9.2.1) Ar9.2.2 hin9 hat9 (g := (mkF m 26 #[.val (.int c), .val (.int (0 : Int32))] [(.int (1 : Int32)), (.ref wA), (.int c)])) rfl rfl (hb hby d1_26) _ ?_
      exact kk
    by_cases hc9 : (847 : Int32) < c
    · obtain ⟨T12, X12, e12, st12⟩ := getS2 X8 hx hZ hown (host := "") (Or.inl (hw _ (List.mem_of_getElem? (i := 4) rfl))) Via.refl e8 S_A (g := (mkF m 3 #[.val (.int c), .val (.int (2 : Int32))] [(.int (2 : Int32))])) rfl (hb hby d1_3)
      obtain ⟨cl13, Ar13, q13, S13, P13, H13, G13⟩ := id V_A
      obtain ⟨T14, X14, e14, st14⟩ := getS2 X12 hx hZ hown (host := "") (Or.inl (hw _ (List.mem_of_getElem? (i := 4) rfl))) Via.refl e12 S_A (g := (mkF m 10 #[.val (.int c), .val (.int (2 : Int32))] [])) rfl (hb hby d1_10)
      obtain ⟨cl15, Ar15, q15, S15, P15, H15, G15⟩ := id V_A
      have hin15 : ¬ ((2 : Int32) < 0 ∨ cl15.slots.size ≤ ((2 : Int32)).toNatClampNeg) := inb_of S15 ⟨by decide, by decide⟩
      have hat15 : cl15.slots[((2 : Int32)).toNatClampNeg]? = some (.int (4447 : Int32)) := Has.at H15 hin15 rfl
      have k17 : ∀ tt, Steps p.tables e below (T14.setTop (mkF m 16 #[.val (.int c), .val (.int (2 : Int32))] [(.int c), (.int (4447 : Int32))])) tt → Steps p.tables e below (s₁.setTop (entryFrame m #[(.int c)] 2)) tt := by
        intro tt kk
        refine k11 tt ?_
        show Steps p.tables e below (T8.setTop (mkF m 27 #[.val (.int c), .val (.int (0 : Int32))] [(.int (847 : Int32)), (.int c)])) tt
        refine XS.icmpYes X8.here hx rfl (pc0 := 27) (pc' := 32) rfl (hb hby d1_27) rfl (tlt (hc9 : (847 : Int32) < c)).2.2.1 (by decide) (by decide) ?_
        show Steps p.tables e below (T8.setTop (mkF m 32 #[.val (.int c), .val (.int (0 : Int32))] [])) tt
        refine XS.iinc X8.here hx rfl (hb hby d1_32) rfl (l' := #[.val (.int c), .val (.int (2 : Int32))]) rfl ?_
        show Steps p.tables e below (T8.setTop (mkF m 35 #[.val (.int c), .val (.int (2 : Int32))] [])) tt
        refine XS.goto X8.here hx rfl (pc0 := 35) (pc' := 2) rfl (hb hby d1_35) (by decide) (by decide) ?_
        show Steps p.tables e below (T8.setTop (mkF m 2 #[.val (.int c), .val (.int (2 : Int32))] [])) tt
        refine XS.iloadN X8.here hx rfl (hb hby d1_2) rfl ?_
        show Steps p.tables e below (T8.setTop (mkF m 3 #[.val (.int c), .val (.int (2 : Int32))] [(.int (2 : Int32))])) tt
        refine st12 _ ?_
        show Steps p.tables e below (T12.setTop (mkF m 6 #[.val (.int c), .val (.int (2 : Int32))] [(.ref wA), (.int (2 : Int32))])) tt
        refine X12.arraylength hx (by rw [e12]; exact Ar13.1) (State.isArrayOf_alike hZ.alike Ar13.2.1) (g := (mkF m 6 #[.val (.int c), .val (.int (2 : Int32))] [(.ref wA), (.int (2 : Int32))])) rfl rfl (hb hby d1_6) _ ?_
        rw [len_of S13 P13]
        show Steps p.tables e below (T12.setTop (mkF m 7 #[.val (.int c), .val (.int (2 : Int32))] [(.int (28 : Int32)), (.int (2 : Int32))])) tt
        refine XS.icmpNo X12.here hx rfl (hb hby d1_7) rfl (tlt (by decide : (2 : Int32) < (28 : Int32))).2.1 ?_
        show Steps p.tables e below (T12.setTop (mkF m 10 #[.val (.int c), .val (.int (2 : Int32))] [])) tt
        refine st14 _ ?_
        show Steps p.tables e below (T14.setTop (mkF m 13 #[.val (.int c), .val (.int (2 : Int32))] [(.ref wA)])) tt
        refine XS.iloadN X14.here hx rfl (hb hby d1_13) rfl ?_
        show Steps p.tables e below (T14.setTop (mkF m 14 #[.val (.int c), .val (.int (2 : Int32))] [(.int (2 : Int32)), (.ref wA)])) tt
        refine X14.iaload hx (j := (2 : Int32)) (v := (.int (4447 : Int32))) (by rw [e14]; exact Ar15.1) (State.isArrayOf_alike hZ.alike Ar15.2.1) Ar15.2.2 hin15 hat15 (g := (mkF m 14 #[.val (.int c), .val (.int (2 : Int32))] [(.int (2 : Int32)), (.ref wA)])) rfl rfl (hb hby d1_14) _ ?_
        show Steps p.tables e below (T14.setTop (mkF m 15 #[.val (.int c), .val (.int (2 : Int32))] [(.int (4447 : Int32))])) tt
        refine XS.iloadN X14.here hx rfl (hb hby d1_15) rfl ?_
        exact kk
      by_cases hc15 : c < (4447 : Int32)
      · have k18 : ∀ tt, Steps p.tables e below (T14.setTop (mkF m 39 #[.val (.int c), .val (.int (2 : Int32))] [(.int (0 : Int32))])) tt → Steps p.tables e below (s₁.setTop (entryFrame m #[(.int c)] 2)) tt := by
          intro tt kk
          refine k17 tt ?_
          show Steps p.tables e below (T14.setTop (mkF m 16 #[.val (.int c), .val (.int (2 : Int32))] [(.int c), (.int (4447 : Int32))])) tt
          refine XS.icmpYes X14.here hx rfl (pc0 := 16) (pc' := 38) rfl (hb hby d1_16) rfl (tlt (hc15 : c < (4447 : Int32))).2.2.1 (by decide) (by decide) ?_
          show Steps p.tables e below (T14.setTop (mkF m 38 #[.val (.int c), .val (.int (2 : Int32))] [])) tt
          refine XS.iconst X14.here hx rfl (hb hby d1_38) ?_
          exact kk
        obtain ⟨fs, hr, hrun, hended, hW, hsame⟩ := X14.leave (v := some (.int (0 : Int32))) (fun hq => by rw [Bd.returns] at hq; cases hq)
        refine ⟨_, _, k18 _ ?_, hrun, hended, _, _, rfl, ?_, ⟨_, rfl⟩, hW, hsame.mono (by decide) (by decide)⟩
        · show Steps p.tables e below (T14.setTop (mkF m 39 #[.val (.int c), .val (.int (2 : Int32))] [(.int (0 : Int32))])) _
          exact retN X14 hx (t := .boolean) Bd.returns (by simp) (hb hby d1_39) hr
        · show (fun (v : Option Value) (h : Heap) (L : List Loc) => v = some (.int (own_bl c)) ∧ Fr n0 L ∧ h = h0) _ T14.heap _
          rw [e14]
          dsimp only
          refine ⟨?_, N0, rfl⟩
          have z1 := own_gtI (n := 847) rfl hc9
          have z2 := own_ltI (n := 4447) rfl hc15
          unfold own_bl
          rw [if_neg (show ¬ own_P c.toInt by unfold own_P; omega)]
      · obtain ⟨T19, X19, e19, st19⟩ := getS2 X14 hx hZ hown (host := "") (Or.inl (hw _ (List.mem_of_getElem? (i := 4) rfl))) Via.refl e14 S_A (g := (mkF m 20 #[.val (.int c), .val (.int (2 : Int32))] [(.int c)])) rfl (hb hby d1_20)
        obtain ⟨cl20, Ar20, q20, S20, P20, H20, G20⟩ := id V_A
        have hin20 : ¬ ((3 : Int32) < 0 ∨ cl20.slots.size ≤ ((3 : Int32)).toNatClampNeg) := inb_of S20 ⟨by decide, by decide⟩
        have hat20 : cl20.slots[((3 : Int32)).toNatClampNeg]? = some (.int (4448 : Int32)) := Has.at H20 hin20 rfl
        have k22 : ∀ tt, Steps p.tables e below (T19.setTop (mkF m 27 #[.val (.int c), .val (.int (2 : Int32))] [(.int (4448 : Int32)), (.int c)])) tt → Steps p.tables e below (s₁.setTop (entryFrame m #[(.int c)] 2)) tt := by
          intro tt kk
          refine k17 tt ?_
          show Steps p.tables e below (T14.setTop (mkF m 16 #[.val (.int c), .val (.int (2 : Int32))] [(.int c), (.int (4447 : Int32))])) tt
          refine XS.icmpNo X14.here hx rfl (hb hby d1_16) rfl (flt (hc15 : ¬ (c < (4447 : Int32)))).2.2.1 ?_
          show Steps p.tables e below (T14.setTop (mkF m 19 #[.val (.int c), .val (.int (2 : Int32))] [])) tt
          refine XS.iloadN X14.here hx rfl (hb hby d1_19) rfl ?_
          show Steps p.tables e below (T14.setTop (mkF m 20 #[.val (.int c), .val (.int (2 : Int32))] [(.int c)])) tt
          refine st19 _ ?_
          show Steps p.tables e below (T19.setTop (mkF m 23 #[.val (.int c), .val (.int (2 : Int32))] [(.ref wA), (.int c)])) tt
          refine XS.iloadN X19.here hx rfl (hb hby d1_23) rfl ?_
          show Steps p.tables e below (T19.setTop (mkF m 24 #[.val (.int c), .val (.int (2 : Int32))] [(.int (2 : Int32)), (.ref wA), (.int c)])) tt
          refine XS.iconst X19.here hx rfl (hb hby d1_24) ?_
          show Steps p.tables e below (T19.setTop (mkF m 25 #[.val (.int c), .val (.int (2 : Int32))] [(.int (1 : Int32)), (.int (2 : Int32)), (.ref wA), (.int c)])) tt
          refine XS.iadd X19.here hx rfl (hb hby d1_25) rfl ?_
          show Steps p.tables e below (T19.setTop (mkF m 26 #[.val (.int c), .val (.int (2 : Int32))] [(.int (3 : Int32)), (.ref wA), (.int c)])) tt
          refine X19.iaload hx (j := (3 : Int32)) (v := (.int (4448 : Int32))) (by rw [e19]; exact Ar20.1) (State.isArrayOf_alike hZ.alike Ar20.2.1) Ar20.2.2 hin20 hat20 (g := (mkF m 26 #[.val (.int c), .val (.int (2 : Int32))] [(.int (3 : Int32)), (.ref wA), (.int c)])) rfl rfl (hb hby d1_26) _ ?_
          exact kk
        by_cases hc20 : (4448 : Int32) < c
        · obtain ⟨T23, X23, e23, st23⟩ := getS2 X19 hx hZ hown (host := "") (Or.inl (hw _ (List.mem_of_getElem? (i := 4) rfl))) Via.refl e19 S_A (g := (mkF m 3 #[.val (.int c), .val (.int (4 : Int32))] [(.int (4 : Int32))])) rfl (hb hby d1_3)
          obtain ⟨cl24, Ar24, q24, S24, P24, H24, G24⟩ := id V_A
          obtain ⟨T25, X25, e25, st25⟩ := getS2 X23 hx hZ hown (host := "") (Or.inl (hw _ (List.mem_of_getElem? (i := 4) rfl))) Via.refl e23 S_A (g := (mkF m 10 #[.val (.int c), .val (.int (4 : Int32))] [])) rfl (hb hby d1_10)
          obtain ⟨cl26, Ar26, q26, S26, P26, H26, G26⟩ := id V_A
          have hin26 : ¬ ((4 : Int32) < 0 ∨ cl26.slots.size ≤ ((4 : Int32)).toNatClampNeg) := inb_of S26 ⟨by decide, by decide⟩
          have hat26 : cl26.slots[((4 : Int32)).toNatClampNeg]? = some (.int (6068 : Int32)) := Has.at H26 hin26 rfl
          have k28 : ∀ tt, Steps p.tables e below (T25.setTop (mkF m 16 #[.val (.int c), .val (.int (4 : Int32))] [(.int c), (.int (6068 : Int32))])) tt → Steps p.tables e below (s₁.setTop (entryFrame m #[(.int c)] 2)) tt := by
            intro tt kk
            refine k22 tt ?_
            show Steps p.tables e below (T19.setTop (mkF m 27 #[.val (.int c), .val (.int (2 : Int32))] [(.int (4448 : Int32)), (.int c)])) tt
            refine XS.icmpYes X19.here hx rfl (pc0 := 27) (pc' := 32) rfl (hb hby d1_27) rfl (tlt (hc20 : (4448 : Int32) < c)).2.2.1 (by decide) (by decide) ?_
            show Steps p.tables e below (T19.setTop (mkF m 32 #[.val (.int c), .val (.int (2 : Int32))] [])) tt
            refine XS.iinc X19.here hx rfl (hb hby d1_32) rfl (l' := #[.val (.int c), .val (.int (4 : Int32))]) rfl ?_
            show Steps p.tables e below (T19.setTop (mkF m 35 #[.val (.int c), .val (.int (4 : Int32))] [])) tt
            refine XS.goto X19.here hx rfl (pc0 := 35) (pc' := 2) rfl (hb hby d1_35) (by decide) (by decide) ?_
            show Steps p.tables e below (T19.setTop (mkF m 2 #[.val (.int c), .val (.int (4 : Int32))] [])) tt
            refine XS.iloadN X19.here hx rfl (hb hby d1_2) rfl ?_
            show Steps p.tables e below (T19.setTop (mkF m 3 #[.val (.int c), .val (.int (4 : Int32))] [(.int (4 : Int32))])) tt
            refine st23 _ ?_
            show Steps p.tables e below (T23.setTop (mkF m 6 #[.val (.int c), .val (.int (4 : Int32))] [(.ref wA), (.int (4 : Int32))])) tt
            refine X23.arraylength hx (by rw [e23]; exact Ar24.1) (State.isArrayOf_alike hZ.alike Ar24.2.1) (g := (mkF m 6 #[.val (.int c), .val (.int (4 : Int32))] [(.ref wA), (.int (4 : Int32))])) rfl rfl (hb hby d1_6) _ ?_
            rw [len_of S24 P24]
            show Steps p.tables e below (T23.setTop (mkF m 7 #[.val (.int c), .val (.int (4 : Int32))] [(.int (28 : Int32)), (.int (4 : Int32))])) tt
            refine XS.icmpNo X23.here hx rfl (hb hby d1_7) rfl (tlt (by decide : (4 : Int32) < (28 : Int32))).2.1 ?_
            show Steps p.tables e below (T23.setTop (mkF m 10 #[.val (.int c), .val (.int (4 : Int32))] [])) tt
            refine st25 _ ?_
            show Steps p.tables e below (T25.setTop (mkF m 13 #[.val (.int c), .val (.int (4 : Int32))] [(.ref wA)])) tt
            refine XS.iloadN X25.here hx rfl (hb hby d1_13) rfl ?_
            show Steps p.tables e below (T25.setTop (mkF m 14 #[.val (.int c), .val (.int (4 : Int32))] [(.int (4 : Int32)), (.ref wA)])) tt
            refine X25.iaload hx (j := (4 : Int32)) (v := (.int (6068 : Int32))) (by rw [e25]; exact Ar26.1) (State.isArrayOf_alike hZ.alike Ar26.2.1) Ar26.2.2 hin26 hat26 (g := (mkF m 14 #[.val (.int c), .val (.int (4 : Int32))] [(.int (4 : Int32)), (.ref wA)])) rfl rfl (hb hby d1_14) _ ?_
            show Steps p.tables e below (T25.setTop (mkF m 15 #[.val (.int c), .val (.int (4 : Int32))] [(.int (6068 : Int32))])) tt
            refine XS.iloadN X25.here hx rfl (hb hby d1_15) rfl ?_
            exact kk
          by_cases hc26 : c < (6068 : Int32)
          · have k29 : ∀ tt, Steps p.tables e below (T25.setTop (mkF m 39 #[.val (.int c), .val (.int (4 : Int32))] [(.int (0 : Int32))])) tt → Steps p.tables e below (s₁.setTop (entryFrame m #[(.int c)] 2)) tt := by
              intro tt kk
              refine k28 tt ?_
              show Steps p.tables e below (T25.setTop (mkF m 16 #[.val (.int c), .val (.int (4 : Int32))] [(.int c), (.int (6068 : Int32))])) tt
              refine XS.icmpYes X25.here hx rfl (pc0 := 16) (pc' := 38) rfl (hb hby d1_16) rfl (tlt (hc26 : c < (6068 : Int32))).2.2.1 (by decide) (by decide) ?_
              show Steps p.tables e below (T25.setTop (mkF m 38 #[.val (.int c), .val (.int (4 : Int32))] [])) tt
              refine XS.iconst X25.here hx rfl (hb hby d1_38) ?_
              exact kk
            obtain ⟨fs, hr, hrun, hended, hW, hsame⟩ := X25.leave (v := some (.int (0 : Int32))) (fun hq => by rw [Bd.returns] at hq; cases hq)
            refine ⟨_, _, k29 _ ?_, hrun, hended, _, _, rfl, ?_, ⟨_, rfl⟩, hW, hsame.mono (by decide) (by decide)⟩
            · show Steps p.tables e below (T25.setTop (mkF m 39 #[.val (.int c), .val (.int (4 : Int32))] [(.int (0 : Int32))])) _
              exact retN X25 hx (t := .boolean) Bd.returns (by simp) (hb hby d1_39) hr
            · show (fun (v : Option Value) (h : Heap) (L : List Loc) => v = some (.int (own_bl c)) ∧ Fr n0 L ∧ h = h0) _ T25.heap _
              rw [e25]
              dsimp only
              refine ⟨?_, N0, rfl⟩
              have z3 := own_gtI (n := 4448) rfl hc20
              have z4 := own_ltI (n := 6068) rfl hc26
              unfold own_bl
              rw [if_neg (show ¬ own_P c.toInt by unfold own_P; omega)]
          · obtain ⟨T30, X30, e30, st30⟩ := getS2 X25 hx hZ hown (host := "") (Or.inl (hw _ (List.mem_of_getElem? (i := 4) rfl))) Via.refl e25 S_A (g := (mkF m 20 #[.val (.int c), .val (.int (4 : Int32))] [(.int c)])) rfl (hb hby d1_20)
            obtain ⟨cl31, Ar31, q31, S31, P31, H31, G31⟩ := id V_A
            have hin31 : ¬ ((5 : Int32) < 0 ∨ cl31.slots.size ≤ ((5 : Int32)).toNatClampNeg) := inb_of S31 ⟨by decide, by decide⟩
            have hat31 : cl31.slots[((5 : Int32)).toNatClampNeg]? = some (.int (6069 : Int32)) := Has.at H31 hin31 rfl
            have k33 : ∀ tt, Steps p.tables e below (T30.setTop (mkF m 27 #[.val (.int c), .val (.int (4 : Int32))] [(.int (6069 : Int32)), (.int c)])) tt → Steps p.tables e below (s₁.setTop (entryFrame m #[(.int c)] 2)) tt := by
              intro tt kk
              refine k28 tt ?_
              show Steps p.tables e below (T25.setTop (mkF m 16 #[.val (.int c), .val (.int (4 : Int32))] [(.int c), (.int (6068 : Int32))])) tt
              refine XS.icmpNo X25.here hx rfl (hb hby d1_16) rfl (flt (hc26 : ¬ (c < (6068 : Int32)))).2.2.1 ?_
              show Steps p.tables e below (T25.setTop (mkF m 19 #[.val (.int c), .val (.int (4 : Int32))] [])) tt
              refine XS.iloadN X25.here hx rfl (hb hby d1_19) rfl ?_
              show Steps p.tables e below (T25.setTop (mkF m 20 #[.val (.int c), .val (.int (4 : Int32))] [(.int c)])) tt
              refine st30 _ ?_
              show Steps p.tables e below (T30.setTop (mkF m 23 #[.val (.int c), .val (.int (4 : Int32))] [(.ref wA), (.int c)])) tt
              refine XS.iloadN X30.here hx rfl (hb hby d1_23) rfl ?_
              show Steps p.tables e below (T30.setTop (mkF m 24 #[.val (.int c), .val (.int (4 : Int32))] [(.int (4 : Int32)), (.ref wA), (.int c)])) tt
              refine XS.iconst X30.here hx rfl (hb hby d1_24) ?_
              show Steps p.tables e below (T30.setTop (mkF m 25 #[.val (.int c), .val (.int (4 : Int32))] [(.int (1 : Int32)), (.int (4 : Int32)), (.ref wA), (.int c)])) tt
              refine XS.iadd X30.here hx rfl (hb hby d1_25) rfl ?_
              show Steps p.tables e below (T30.setTop (mkF m 26 #[.val (.int c), .val (.int (4 : Int32))] [(.int (5 : Int32)), (.ref wA), (.int c)])) tt
              refine X30.iaload hx (j := (5 : Int32)) (v := (.int (6069 : Int32))) (by rw [e30]; exact Ar31.1) (State.isArrayOf_alike hZ.alike Ar31.2.1) Ar31.2.2 hin31 hat31 (g := (mkF m 26 #[.val (.int c), .val (.int (4 : Int32))] [(.int (5 : Int32)), (.ref wA), (.int c)])) rfl rfl (hb hby d1_26) _ ?_
              exact kk
            by_cases hc31 : (6069 : Int32) < c
            · obtain ⟨T34, X34, e34, st34⟩ := getS2 X30 hx hZ hown (host := "") (Or.inl (hw _ (List.mem_of_getElem? (i := 4) rfl))) Via.refl e30 S_A (g := (mkF m 3 #[.val (.int c), .val (.int (6 : Int32))] [(.int (6 : Int32))])) rfl (hb hby d1_3)
              obtain ⟨cl35, Ar35, q35, S35, P35, H35, G35⟩ := id V_A
              obtain ⟨T36, X36, e36, st36⟩ := getS2 X34 hx hZ hown (host := "") (Or.inl (hw _ (List.mem_of_getElem? (i := 4) rfl))) Via.refl e34 S_A (g := (mkF m 10 #[.val (.int c), .val (.int (6 : Int32))] [])) rfl (hb hby d1_10)
              obtain ⟨cl37, Ar37, q37, S37, P37, H37, G37⟩ := id V_A
              have hin37 : ¬ ((6 : Int32) < 0 ∨ cl37.slots.size ≤ ((6 : Int32)).toNatClampNeg) := inb_of S37 ⟨by decide, by decide⟩
              have hat37 : cl37.slots[((6 : Int32)).toNatClampNeg]? = some (.int (6155 : Int32)) := Has.at H37 hin37 rfl
              have k39 : ∀ tt, Steps p.tables e below (T36.setTop (mkF m 16 #[.val (.int c), .val (.int (6 : Int32))] [(.int c), (.int (6155 : Int32))])) tt → Steps p.tables e below (s₁.setTop (entryFrame m #[(.int c)] 2)) tt := by
                intro tt kk
                refine k33 tt ?_
                show Steps p.tables e below (T30.setTop (mkF m 27 #[.val (.int c), .val (.int (4 : Int32))] [(.int (6069 : Int32)), (.int c)])) tt
                refine XS.icmpYes X30.here hx rfl (pc0 := 27) (pc' := 32) rfl (hb hby d1_27) rfl (tlt (hc31 : (6069 : Int32) < c)).2.2.1 (by decide) (by decide) ?_
                show Steps p.tables e below (T30.setTop (mkF m 32 #[.val (.int c), .val (.int (4 : Int32))] [])) tt
                refine XS.iinc X30.here hx rfl (hb hby d1_32) rfl (l' := #[.val (.int c), .val (.int (6 : Int32))]) rfl ?_
                show Steps p.tables e below (T30.setTop (mkF m 35 #[.val (.int c), .val (.int (6 : Int32))] [])) tt
                refine XS.goto X30.here hx rfl (pc0 := 35) (pc' := 2) rfl (hb hby d1_35) (by decide) (by decide) ?_
                show Steps p.tables e below (T30.setTop (mkF m 2 #[.val (.int c), .val (.int (6 : Int32))] [])) tt
                refine XS.iloadN X30.here hx rfl (hb hby d1_2) rfl ?_
                show Steps p.tables e below (T30.setTop (mkF m 3 #[.val (.int c), .val (.int (6 : Int32))] [(.int (6 : Int32))])) tt
                refine st34 _ ?_
                show Steps p.tables e below (T34.setTop (mkF m 6 #[.val (.int c), .val (.int (6 : Int32))] [(.ref wA), (.int (6 : Int32))])) tt
                refine X34.arraylength hx (by rw [e34]; exact Ar35.1) (State.isArrayOf_alike hZ.alike Ar35.2.1) (g := (mkF m 6 #[.val (.int c), .val (.int (6 : Int32))] [(.ref wA), (.int (6 : Int32))])) rfl rfl (hb hby d1_6) _ ?_
                rw [len_of S35 P35]
                show Steps p.tables e below (T34.setTop (mkF m 7 #[.val (.int c), .val (.int (6 : Int32))] [(.int (28 : Int32)), (.int (6 : Int32))])) tt
                refine XS.icmpNo X34.here hx rfl (hb hby d1_7) rfl (tlt (by decide : (6 : Int32) < (28 : Int32))).2.1 ?_
                show Steps p.tables e below (T34.setTop (mkF m 10 #[.val (.int c), .val (.int (6 : Int32))] [])) tt
                refine st36 _ ?_
                show Steps p.tables e below (T36.setTop (mkF m 13 #[.val (.int c), .val (.int (6 : Int32))] [(.ref wA)])) tt
                refine XS.iloadN X36.here hx rfl (hb hby d1_13) rfl ?_
                show Steps p.tables e below (T36.setTop (mkF m 14 #[.val (.int c), .val (.int (6 : Int32))] [(.int (6 : Int32)), (.ref wA)])) tt
                refine X36.iaload hx (j := (6 : Int32)) (v := (.int (6155 : Int32))) (by rw [e36]; exact Ar37.1) (State.isArrayOf_alike hZ.alike Ar37.2.1) Ar37.2.2 hin37 hat37 (g := (mkF m 14 #[.val (.int c), .val (.int (6 : Int32))] [(.int (6 : Int32)), (.ref wA)])) rfl rfl (hb hby d1_14) _ ?_
                show Steps p.tables e below (T36.setTop (mkF m 15 #[.val (.int c), .val (.int (6 : Int32))] [(.int (6155 : Int32))])) tt
                refine XS.iloadN X36.here hx rfl (hb hby d1_15) rfl ?_
                exact kk
              by_cases hc37 : c < (6155 : Int32)
              · have k40 : ∀ tt, Steps p.tables e below (T36.setTop (mkF m 39 #[.val (.int c), .val (.int (6 : Int32))] [(.int (0 : Int32))])) tt → Steps p.tables e below (s₁.setTop (entryFrame m #[(.int c)] 2)) tt := by
                  intro tt kk
                  refine k39 tt ?_
                  show Steps p.tables e below (T36.setTop (mkF m 16 #[.val (.int c), .val (.int (6 : Int32))] [(.int c), (.int (6155 : Int32))])) tt
                  refine XS.icmpYes X36.here hx rfl (pc0 := 16) (pc' := 38) rfl (hb hby d1_16) rfl (tlt (hc37 : c < (6155 : Int32))).2.2.1 (by decide) (by decide) ?_
                  show Steps p.tables e below (T36.setTop (mkF m 38 #[.val (.int c), .val (.int (6 : Int32))] [])) tt
                  refine XS.iconst X36.here hx rfl (hb hby d1_38) ?_
                  exact kk
                obtain ⟨fs, hr, hrun, hended, hW, hsame⟩ := X36.leave (v := some (.int (0 : Int32))) (fun hq => by rw [Bd.returns] at hq; cases hq)
                refine ⟨_, _, k40 _ ?_, hrun, hended, _, _, rfl, ?_, ⟨_, rfl⟩, hW, hsame.mono (by decide) (by decide)⟩
                · show Steps p.tables e below (T36.setTop (mkF m 39 #[.val (.int c), .val (.int (6 : Int32))] [(.int (0 : Int32))])) _
                  exact retN X36 hx (t := .boolean) Bd.returns (by simp) (hb hby d1_39) hr
                · show (fun (v : Option Value) (h : Heap) (L : List Loc) => v = some (.int (own_bl c)) ∧ Fr n0 L ∧ h = h0) _ T36.heap _
                  rw [e36]
                  dsimp only
                  refine ⟨?_, N0, rfl⟩
                  have z5 := own_gtI (n := 6069) rfl hc31
                  have z6 := own_ltI (n := 6155) rfl hc37
                  unfold own_bl
                  rw [if_neg (show ¬ own_P c.toInt by unfold own_P; omega)]
              · obtain ⟨T41, X41, e41, st41⟩ := getS2 X36 hx hZ hown (host := "") (Or.inl (hw _ (List.mem_of_getElem? (i := 4) rfl))) Via.refl e36 S_A (g := (mkF m 20 #[.val (.int c), .val (.int (6 : Int32))] [(.int c)])) rfl (hb hby d1_20)
                obtain ⟨cl42, Ar42, q42, S42, P42, H42, G42⟩ := id V_A
                have hin42 : ¬ ((7 : Int32) < 0 ∨ cl42.slots.size ≤ ((7 : Int32)).toNatClampNeg) := inb_of S42 ⟨by decide, by decide⟩
                have hat42 : cl42.slots[((7 : Int32)).toNatClampNeg]? = some (.int (6157 : Int32)) := Has.at H42 hin42 rfl
                have k44 : ∀ tt, Steps p.tables e below (T41.setTop (mkF m 27 #[.val (.int c), .val (.int (6 : Int32))] [(.int (6157 : Int32)), (.int c)])) tt → Steps p.tables e below (s₁.setTop (entryFrame m #[(.int c)] 2)) tt := by
                  intro tt kk
                  refine k39 tt ?_
                  show Steps p.tables e below (T36.setTop (mkF m 16 #[.val (.int c), .val (.int (6 : Int32))] [(.int c), (.int (6155 : Int32))])) tt
                  refine XS.icmpNo X36.here hx rfl (hb hby d1_16) rfl (flt (hc37 : ¬ (c < (6155 : Int32)))).2.2.1 ?_
                  show Steps p.tables e below (T36.setTop (mkF m 19 #[.val (.int c), .val (.int (6 : Int32))] [])) tt
                  refine XS.iloadN X36.here hx rfl (hb hby d1_19) rfl ?_
                  show Steps p.tables e below (T36.setTop (mkF m 20 #[.val (.int c), .val (.int (6 : Int32))] [(.int c)])) tt
                  refine st41 _ ?_
                  show Steps p.tables e below (T41.setTop (mkF m 23 #[.val (.int c), .val (.int (6 : Int32))] [(.ref wA), (.int c)])) tt
                  refine XS.iloadN X41.here hx rfl (hb hby d1_23) rfl ?_
                  show Steps p.tables e below (T41.setTop (mkF m 24 #[.val (.int c), .val (.int (6 : Int32))] [(.int (6 : Int32)), (.ref wA), (.int c)])) tt
                  refine XS.iconst X41.here hx rfl (hb hby d1_24) ?_
                  show Steps p.tables e below (T41.setTop (mkF m 25 #[.val (.int c), .val (.int (6 : Int32))] [(.int (1 : Int32)), (.int (6 : Int32)), (.ref wA), (.int c)])) tt
                  refine XS.iadd X41.here hx rfl (hb hby d1_25) rfl ?_
                  show Steps p.tables e below (T41.setTop (mkF m 26 #[.val (.int c), .val (.int (6 : Int32))] [(.int (7 : Int32)), (.ref wA), (.int c)])) tt
                  refine X41.iaload hx (j := (7 : Int32)) (v := (.int (6157 : Int32))) (by rw [e41]; exact Ar42.1) (State.isArrayOf_alike hZ.alike Ar42.2.1) Ar42.2.2 hin42 hat42 (g := (mkF m 26 #[.val (.int c), .val (.int (6 : Int32))] [(.int (7 : Int32)), (.ref wA), (.int c)])) rfl rfl (hb hby d1_26) _ ?_
                  exact kk
                by_cases hc42 : (6157 : Int32) < c
                · obtain ⟨T45, X45, e45, st45⟩ := getS2 X41 hx hZ hown (host := "") (Or.inl (hw _ (List.mem_of_getElem? (i := 4) rfl))) Via.refl e41 S_A (g := (mkF m 3 #[.val (.int c), .val (.int (8 : Int32))] [(.int (8 : Int32))])) rfl (hb hby d1_3)
                  obtain ⟨cl46, Ar46, q46, S46, P46, H46, G46⟩ := id V_A
                  obtain ⟨T47, X47, e47, st47⟩ := getS2 X45 hx hZ hown (host := "") (Or.inl (hw _ (List.mem_of_getElem? (i := 4) rfl))) Via.refl e45 S_A (g := (mkF m 10 #[.val (.int c), .val (.int (8 : Int32))] [])) rfl (hb hby d1_10)
                  obtain ⟨cl48, Ar48, q48, S48, P48, H48, G48⟩ := id V_A
                  have hin48 : ¬ ((8 : Int32) < 0 ∨ cl48.slots.size ≤ ((8 : Int32)).toNatClampNeg) := inb_of S48 ⟨by decide, by decide⟩
                  have hat48 : cl48.slots[((8 : Int32)).toNatClampNeg]? = some (.int (6159 : Int32)) := Has.at H48 hin48 rfl
                  have k50 : ∀ tt, Steps p.tables e below (T47.setTop (mkF m 16 #[.val (.int c), .val (.int (8 : Int32))] [(.int c), (.int (6159 : Int32))])) tt → Steps p.tables e below (s₁.setTop (entryFrame m #[(.int c)] 2)) tt := by
                    intro tt kk
                    refine k44 tt ?_
                    show Steps p.tables e below (T41.setTop (mkF m 27 #[.val (.int c), .val (.int (6 : Int32))] [(.int (6157 : Int32)), (.int c)])) tt
                    refine XS.icmpYes X41.here hx rfl (pc0 := 27) (pc' := 32) rfl (hb hby d1_27) rfl (tlt (hc42 : (6157 : Int32) < c)).2.2.1 (by decide) (by decide) ?_
                    show Steps p.tables e below (T41.setTop (mkF m 32 #[.val (.int c), .val (.int (6 : Int32))] [])) tt
                    refine XS.iinc X41.here hx rfl (hb hby d1_32) rfl (l' := #[.val (.int c), .val (.int (8 : Int32))]) rfl ?_
                    show Steps p.tables e below (T41.setTop (mkF m 35 #[.val (.int c), .val (.int (8 : Int32))] [])) tt
                    refine XS.goto X41.here hx rfl (pc0 := 35) (pc' := 2) rfl (hb hby d1_35) (by decide) (by decide) ?_
                    show Steps p.tables e below (T41.setTop (mkF m 2 #[.val (.int c), .val (.int (8 : Int32))] [])) tt
                    refine XS.iloadN X41.here hx rfl (hb hby d1_2) rfl ?_
                    show Steps p.tables e below (T41.setTop (mkF m 3 #[.val (.int c), .val (.int (8 : Int32))] [(.int (8 : Int32))])) tt
                    refine st45 _ ?_
                    show Steps p.tables e below (T45.setTop (mkF m 6 #[.val (.int c), .val (.int (8 : Int32))] [(.ref wA), (.int (8 : Int32))])) tt
                    refine X45.arraylength hx (by rw [e45]; exact Ar46.1) (State.isArrayOf_alike hZ.alike Ar46.2.1) (g := (mkF m 6 #[.val (.int c), .val (.int (8 : Int32))] [(.ref wA), (.int (8 : Int32))])) rfl rfl (hb hby d1_6) _ ?_
                    rw [len_of S46 P46]
                    show Steps p.tables e below (T45.setTop (mkF m 7 #[.val (.int c), .val (.int (8 : Int32))] [(.int (28 : Int32)), (.int (8 : Int32))])) tt
                    refine XS.icmpNo X45.here hx rfl (hb hby d1_7) rfl (tlt (by decide : (8 : Int32) < (28 : Int32))).2.1 ?_
                    show Steps p.tables e below (T45.setTop (mkF m 10 #[.val (.int c), .val (.int (8 : Int32))] [])) tt
                    refine st47 _ ?_
                    show Steps p.tables e below (T47.setTop (mkF m 13 #[.val (.int c), .val (.int (8 : Int32))] [(.ref wA)])) tt
                    refine XS.iloadN X47.here hx rfl (hb hby d1_13) rfl ?_
                    show Steps p.tables e below (T47.setTop (mkF m 14 #[.val (.int c), .val (.int (8 : Int32))] [(.int (8 : Int32)), (.ref wA)])) tt
                    refine X47.iaload hx (j := (8 : Int32)) (v := (.int (6159 : Int32))) (by rw [e47]; exact Ar48.1) (State.isArrayOf_alike hZ.alike Ar48.2.1) Ar48.2.2 hin48 hat48 (g := (mkF m 14 #[.val (.int c), .val (.int (8 : Int32))] [(.int (8 : Int32)), (.ref wA)])) rfl rfl (hb hby d1_14) _ ?_
                    show Steps p.tables e below (T47.setTop (mkF m 15 #[.val (.int c), .val (.int (8 : Int32))] [(.int (6159 : Int32))])) tt
                    refine XS.iloadN X47.here hx rfl (hb hby d1_15) rfl ?_
                    exact kk
                  by_cases hc48 : c < (6159 : Int32)
                  · have k51 : ∀ tt, Steps p.tables e below (T47.setTop (mkF m 39 #[.val (.int c), .val (.int (8 : Int32))] [(.int (0 : Int32))])) tt → Steps p.tables e below (s₁.setTop (entryFrame m #[(.int c)] 2)) tt := by
                      intro tt kk
                      refine k50 tt ?_
                      show Steps p.tables e below (T47.setTop (mkF m 16 #[.val (.int c), .val (.int (8 : Int32))] [(.int c), (.int (6159 : Int32))])) tt
                      refine XS.icmpYes X47.here hx rfl (pc0 := 16) (pc' := 38) rfl (hb hby d1_16) rfl (tlt (hc48 : c < (6159 : Int32))).2.2.1 (by decide) (by decide) ?_
                      show Steps p.tables e below (T47.setTop (mkF m 38 #[.val (.int c), .val (.int (8 : Int32))] [])) tt
                      refine XS.iconst X47.here hx rfl (hb hby d1_38) ?_
                      exact kk
                    obtain ⟨fs, hr, hrun, hended, hW, hsame⟩ := X47.leave (v := some (.int (0 : Int32))) (fun hq => by rw [Bd.returns] at hq; cases hq)
                    refine ⟨_, _, k51 _ ?_, hrun, hended, _, _, rfl, ?_, ⟨_, rfl⟩, hW, hsame.mono (by decide) (by decide)⟩
                    · show Steps p.tables e below (T47.setTop (mkF m 39 #[.val (.int c), .val (.int (8 : Int32))] [(.int (0 : Int32))])) _
                      exact retN X47 hx (t := .boolean) Bd.returns (by simp) (hb hby d1_39) hr
                    · show (fun (v : Option Value) (h : Heap) (L : List Loc) => v = some (.int (own_bl c)) ∧ Fr n0 L ∧ h = h0) _ T47.heap _
                      rw [e47]
                      dsimp only
                      refine ⟨?_, N0, rfl⟩
                      have z7 := own_gtI (n := 6157) rfl hc42
                      have z8 := own_ltI (n := 6159) rfl hc48
                      unfold own_bl
                      rw [if_neg (show ¬ own_P c.toInt by unfold own_P; omega)]
                  · obtain ⟨T52, X52, e52, st52⟩ := getS2 X47 hx hZ hown (host := "") (Or.inl (hw _ (List.mem_of_getElem? (i := 4) rfl))) Via.refl e47 S_A (g := (mkF m 20 #[.val (.int c), .val (.int (8 : Int32))] [(.int c)])) rfl (hb hby d1_20)
                    obtain ⟨cl53, Ar53, q53, S53, P53, H53, G53⟩ := id V_A
                    have hin53 : ¬ ((9 : Int32) < 0 ∨ cl53.slots.size ≤ ((9 : Int32)).toNatClampNeg) := inb_of S53 ⟨by decide, by decide⟩
                    have hat53 : cl53.slots[((9 : Int32)).toNatClampNeg]? = some (.int (6159 : Int32)) := Has.at H53 hin53 rfl
                    have k55 : ∀ tt, Steps p.tables e below (T52.setTop (mkF m 27 #[.val (.int c), .val (.int (8 : Int32))] [(.int (6159 : Int32)), (.int c)])) tt → Steps p.tables e below (s₁.setTop (entryFrame m #[(.int c)] 2)) tt := by
                      intro tt kk
                      refine k50 tt ?_
                      show Steps p.tables e below (T47.setTop (mkF m 16 #[.val (.int c), .val (.int (8 : Int32))] [(.int c), (.int (6159 : Int32))])) tt
                      refine XS.icmpNo X47.here hx rfl (hb hby d1_16) rfl (flt (hc48 : ¬ (c < (6159 : Int32)))).2.2.1 ?_
                      show Steps p.tables e below (T47.setTop (mkF m 19 #[.val (.int c), .val (.int (8 : Int32))] [])) tt
                      refine XS.iloadN X47.here hx rfl (hb hby d1_19) rfl ?_
                      show Steps p.tables e below (T47.setTop (mkF m 20 #[.val (.int c), .val (.int (8 : Int32))] [(.int c)])) tt
                      refine st52 _ ?_
                      show Steps p.tables e below (T52.setTop (mkF m 23 #[.val (.int c), .val (.int (8 : Int32))] [(.ref wA), (.int c)])) tt
                      refine XS.iloadN X52.here hx rfl (hb hby d1_23) rfl ?_
                      show Steps p.tables e below (T52.setTop (mkF m 24 #[.val (.int c), .val (.int (8 : Int32))] [(.int (8 : Int32)), (.ref wA), (.int c)])) tt
                      refine XS.iconst X52.here hx rfl (hb hby d1_24) ?_
                      show Steps p.tables e below (T52.setTop (mkF m 25 #[.val (.int c), .val (.int (8 : Int32))] [(.int (1 : Int32)), (.int (8 : Int32)), (.ref wA), (.int c)])) tt
                      refine XS.iadd X52.here hx rfl (hb hby d1_25) rfl ?_
                      show Steps p.tables e below (T52.setTop (mkF m 26 #[.val (.int c), .val (.int (8 : Int32))] [(.int (9 : Int32)), (.ref wA), (.int c)])) tt
                      refine X52.iaload hx (j := (9 : Int32)) (v := (.int (6159 : Int32))) (by rw [e52]; exact Ar53.1) (State.isArrayOf_alike hZ.alike Ar53.2.1) Ar53.2.2 hin53 hat53 (g := (mkF m 26 #[.val (.int c), .val (.int (8 : Int32))] [(.int (9 : Int32)), (.ref wA), (.int c)])) rfl rfl (hb hby d1_26) _ ?_
                      exact kk
                    by_cases hc53 : (6159 : Int32) < c
                    · obtain ⟨T56, X56, e56, st56⟩ := getS2 X52 hx hZ hown (host := "") (Or.inl (hw _ (List.mem_of_getElem? (i := 4) rfl))) Via.refl e52 S_A (g := (mkF m 3 #[.val (.int c), .val (.int (10 : Int32))] [(.int (10 : Int32))])) rfl (hb hby d1_3)
                      obtain ⟨cl57, Ar57, q57, S57, P57, H57, G57⟩ := id V_A
                      obtain ⟨T58, X58, e58, st58⟩ := getS2 X56 hx hZ hown (host := "") (Or.inl (hw _ (List.mem_of_getElem? (i := 4) rfl))) Via.refl e56 S_A (g := (mkF m 10 #[.val (.int c), .val (.int (10 : Int32))] [])) rfl (hb hby d1_10)
                      obtain ⟨cl59, Ar59, q59, S59, P59, H59, G59⟩ := id V_A
                      have hin59 : ¬ ((10 : Int32) < 0 ∨ cl59.slots.size ≤ ((10 : Int32)).toNatClampNeg) := inb_of S59 ⟨by decide, by decide⟩
                      have hat59 : cl59.slots[((10 : Int32)).toNatClampNeg]? = some (.int (8293 : Int32)) := Has.at H59 hin59 rfl
                      have k61 : ∀ tt, Steps p.tables e below (T58.setTop (mkF m 16 #[.val (.int c), .val (.int (10 : Int32))] [(.int c), (.int (8293 : Int32))])) tt → Steps p.tables e below (s₁.setTop (entryFrame m #[(.int c)] 2)) tt := by
                        intro tt kk
                        refine k55 tt ?_
                        show Steps p.tables e below (T52.setTop (mkF m 27 #[.val (.int c), .val (.int (8 : Int32))] [(.int (6159 : Int32)), (.int c)])) tt
                        refine XS.icmpYes X52.here hx rfl (pc0 := 27) (pc' := 32) rfl (hb hby d1_27) rfl (tlt (hc53 : (6159 : Int32) < c)).2.2.1 (by decide) (by decide) ?_
                        show Steps p.tables e below (T52.setTop (mkF m 32 #[.val (.int c), .val (.int (8 : Int32))] [])) tt
                        refine XS.iinc X52.here hx rfl (hb hby d1_32) rfl (l' := #[.val (.int c), .val (.int (10 : Int32))]) rfl ?_
                        show Steps p.tables e below (T52.setTop (mkF m 35 #[.val (.int c), .val (.int (10 : Int32))] [])) tt
                        refine XS.goto X52.here hx rfl (pc0 := 35) (pc' := 2) rfl (hb hby d1_35) (by decide) (by decide) ?_
                        show Steps p.tables e below (T52.setTop (mkF m 2 #[.val (.int c), .val (.int (10 : Int32))] [])) tt
                        refine XS.iloadN X52.here hx rfl (hb hby d1_2) rfl ?_
                        show Steps p.tables e below (T52.setTop (mkF m 3 #[.val (.int c), .val (.int (10 : Int32))] [(.int (10 : Int32))])) tt
                        refine st56 _ ?_
                        show Steps p.tables e below (T56.setTop (mkF m 6 #[.val (.int c), .val (.int (10 : Int32))] [(.ref wA), (.int (10 : Int32))])) tt
                        refine X56.arraylength hx (by rw [e56]; exact Ar57.1) (State.isArrayOf_alike hZ.alike Ar57.2.1) (g := (mkF m 6 #[.val (.int c), .val (.int (10 : Int32))] [(.ref wA), (.int (10 : Int32))])) rfl rfl (hb hby d1_6) _ ?_
                        rw [len_of S57 P57]
                        show Steps p.tables e below (T56.setTop (mkF m 7 #[.val (.int c), .val (.int (10 : Int32))] [(.int (28 : Int32)), (.int (10 : Int32))])) tt
                        refine XS.icmpNo X56.here hx rfl (hb hby d1_7) rfl (tlt (by decide : (10 : Int32) < (28 : Int32))).2.1 ?_
                        show Steps p.tables e below (T56.setTop (mkF m 10 #[.val (.int c), .val (.int (10 : Int32))] [])) tt
                        refine st58 _ ?_
                        show Steps p.tables e below (T58.setTop (mkF m 13 #[.val (.int c), .val (.int (10 : Int32))] [(.ref wA)])) tt
                        refine XS.iloadN X58.here hx rfl (hb hby d1_13) rfl ?_
                        show Steps p.tables e below (T58.setTop (mkF m 14 #[.val (.int c), .val (.int (10 : Int32))] [(.int (10 : Int32)), (.ref wA)])) tt
                        refine X58.iaload hx (j := (10 : Int32)) (v := (.int (8293 : Int32))) (by rw [e58]; exact Ar59.1) (State.isArrayOf_alike hZ.alike Ar59.2.1) Ar59.2.2 hin59 hat59 (g := (mkF m 14 #[.val (.int c), .val (.int (10 : Int32))] [(.int (10 : Int32)), (.ref wA)])) rfl rfl (hb hby d1_14) _ ?_
                        show Steps p.tables e below (T58.setTop (mkF m 15 #[.val (.int c), .val (.int (10 : Int32))] [(.int (8293 : Int32))])) tt
                        refine XS.iloadN X58.here hx rfl (hb hby d1_15) rfl ?_
                        exact kk
                      by_cases hc59 : c < (8293 : Int32)
                      · have k62 : ∀ tt, Steps p.tables e below (T58.setTop (mkF m 39 #[.val (.int c), .val (.int (10 : Int32))] [(.int (0 : Int32))])) tt → Steps p.tables e below (s₁.setTop (entryFrame m #[(.int c)] 2)) tt := by
                          intro tt kk
                          refine k61 tt ?_
                          show Steps p.tables e below (T58.setTop (mkF m 16 #[.val (.int c), .val (.int (10 : Int32))] [(.int c), (.int (8293 : Int32))])) tt
                          refine XS.icmpYes X58.here hx rfl (pc0 := 16) (pc' := 38) rfl (hb hby d1_16) rfl (tlt (hc59 : c < (8293 : Int32))).2.2.1 (by decide) (by decide) ?_
                          show Steps p.tables e below (T58.setTop (mkF m 38 #[.val (.int c), .val (.int (10 : Int32))] [])) tt
                          refine XS.iconst X58.here hx rfl (hb hby d1_38) ?_
                          exact kk
                        obtain ⟨fs, hr, hrun, hended, hW, hsame⟩ := X58.leave (v := some (.int (0 : Int32))) (fun hq => by rw [Bd.returns] at hq; cases hq)
                        refine ⟨_, _, k62 _ ?_, hrun, hended, _, _, rfl, ?_, ⟨_, rfl⟩, hW, hsame.mono (by decide) (by decide)⟩
                        · show Steps p.tables e below (T58.setTop (mkF m 39 #[.val (.int c), .val (.int (10 : Int32))] [(.int (0 : Int32))])) _
                          exact retN X58 hx (t := .boolean) Bd.returns (by simp) (hb hby d1_39) hr
                        · show (fun (v : Option Value) (h : Heap) (L : List Loc) => v = some (.int (own_bl c)) ∧ Fr n0 L ∧ h = h0) _ T58.heap _
                          rw [e58]
                          dsimp only
                          refine ⟨?_, N0, rfl⟩
                          have z9 := own_gtI (n := 6159) rfl hc53
                          have z10 := own_ltI (n := 8293) rfl hc59
                          unfold own_bl
                          rw [if_neg (show ¬ own_P c.toInt by unfold own_P; omega)]
                      · obtain ⟨T63, X63, e63, st63⟩ := getS2 X58 hx hZ hown (host := "") (Or.inl (hw _ (List.mem_of_getElem? (i := 4) rfl))) Via.refl e58 S_A (g := (mkF m 20 #[.val (.int c), .val (.int (10 : Int32))] [(.int c)])) rfl (hb hby d1_20)
                        obtain ⟨cl64, Ar64, q64, S64, P64, H64, G64⟩ := id V_A
                        have hin64 : ¬ ((11 : Int32) < 0 ∨ cl64.slots.size ≤ ((11 : Int32)).toNatClampNeg) := inb_of S64 ⟨by decide, by decide⟩
                        have hat64 : cl64.slots[((11 : Int32)).toNatClampNeg]? = some (.int (8293 : Int32)) := Has.at H64 hin64 rfl
                        have k66 : ∀ tt, Steps p.tables e below (T63.setTop (mkF m 27 #[.val (.int c), .val (.int (10 : Int32))] [(.int (8293 : Int32)), (.int c)])) tt → Steps p.tables e below (s₁.setTop (entryFrame m #[(.int c)] 2)) tt := by
                          intro tt kk
                          refine k61 tt ?_
                          show Steps p.tables e below (T58.setTop (mkF m 16 #[.val (.int c), .val (.int (10 : Int32))] [(.int c), (.int (8293 : Int32))])) tt
                          refine XS.icmpNo X58.here hx rfl (hb hby d1_16) rfl (flt (hc59 : ¬ (c < (8293 : Int32)))).2.2.1 ?_
                          show Steps p.tables e below (T58.setTop (mkF m 19 #[.val (.int c), .val (.int (10 : Int32))] [])) tt
                          refine XS.iloadN X58.here hx rfl (hb hby d1_19) rfl ?_
                          show Steps p.tables e below (T58.setTop (mkF m 20 #[.val (.int c), .val (.int (10 : Int32))] [(.int c)])) tt
                          refine st63 _ ?_
                          show Steps p.tables e below (T63.setTop (mkF m 23 #[.val (.int c), .val (.int (10 : Int32))] [(.ref wA), (.int c)])) tt
                          refine XS.iloadN X63.here hx rfl (hb hby d1_23) rfl ?_
                          show Steps p.tables e below (T63.setTop (mkF m 24 #[.val (.int c), .val (.int (10 : Int32))] [(.int (10 : Int32)), (.ref wA), (.int c)])) tt
                          refine XS.iconst X63.here hx rfl (hb hby d1_24) ?_
                          show Steps p.tables e below (T63.setTop (mkF m 25 #[.val (.int c), .val (.int (10 : Int32))] [(.int (1 : Int32)), (.int (10 : Int32)), (.ref wA), (.int c)])) tt
                          refine XS.iadd X63.here hx rfl (hb hby d1_25) rfl ?_
                          show Steps p.tables e below (T63.setTop (mkF m 26 #[.val (.int c), .val (.int (10 : Int32))] [(.int (11 : Int32)), (.ref wA), (.int c)])) tt
                          refine X63.iaload hx (j := (11 : Int32)) (v := (.int (8293 : Int32))) (by rw [e63]; exact Ar64.1) (State.isArrayOf_alike hZ.alike Ar64.2.1) Ar64.2.2 hin64 hat64 (g := (mkF m 26 #[.val (.int c), .val (.int (10 : Int32))] [(.int (11 : Int32)), (.ref wA), (.int c)])) rfl rfl (hb hby d1_26) _ ?_
                          exact kk
                        by_cases hc64 : (8293 : Int32) < c
                        · obtain ⟨T67, X67, e67, st67⟩ := getS2 X63 hx hZ hown (host := "") (Or.inl (hw _ (List.mem_of_getElem? (i := 4) rfl))) Via.refl e63 S_A (g := (mkF m 3 #[.val (.int c), .val (.int (12 : Int32))] [(.int (12 : Int32))])) rfl (hb hby d1_3)
                          obtain ⟨cl68, Ar68, q68, S68, P68, H68, G68⟩ := id V_A
                          obtain ⟨T69, X69, e69, st69⟩ := getS2 X67 hx hZ hown (host := "") (Or.inl (hw _ (List.mem_of_getElem? (i := 4) rfl))) Via.refl e67 S_A (g := (mkF m 10 #[.val (.int c), .val (.int (12 : Int32))] [])) rfl (hb hby d1_10)
                          obtain ⟨cl70, Ar70, q70, S70, P70, H70, G70⟩ := id V_A
                          have hin70 : ¬ ((12 : Int32) < 0 ∨ cl70.slots.size ≤ ((12 : Int32)).toNatClampNeg) := inb_of S70 ⟨by decide, by decide⟩
                          have hat70 : cl70.slots[((12 : Int32)).toNatClampNeg]? = some (.int (10240 : Int32)) := Has.at H70 hin70 rfl
                          have k72 : ∀ tt, Steps p.tables e below (T69.setTop (mkF m 16 #[.val (.int c), .val (.int (12 : Int32))] [(.int c), (.int (10240 : Int32))])) tt → Steps p.tables e below (s₁.setTop (entryFrame m #[(.int c)] 2)) tt := by
                            intro tt kk
                            refine k66 tt ?_
                            show Steps p.tables e below (T63.setTop (mkF m 27 #[.val (.int c), .val (.int (10 : Int32))] [(.int (8293 : Int32)), (.int c)])) tt
                            refine XS.icmpYes X63.here hx rfl (pc0 := 27) (pc' := 32) rfl (hb hby d1_27) rfl (tlt (hc64 : (8293 : Int32) < c)).2.2.1 (by decide) (by decide) ?_
                            show Steps p.tables e below (T63.setTop (mkF m 32 #[.val (.int c), .val (.int (10 : Int32))] [])) tt
                            refine XS.iinc X63.here hx rfl (hb hby d1_32) rfl (l' := #[.val (.int c), .val (.int (12 : Int32))]) rfl ?_
                            show Steps p.tables e below (T63.setTop (mkF m 35 #[.val (.int c), .val (.int (12 : Int32))] [])) tt
                            refine XS.goto X63.here hx rfl (pc0 := 35) (pc' := 2) rfl (hb hby d1_35) (by decide) (by decide) ?_
                            show Steps p.tables e below (T63.setTop (mkF m 2 #[.val (.int c), .val (.int (12 : Int32))] [])) tt
                            refine XS.iloadN X63.here hx rfl (hb hby d1_2) rfl ?_
                            show Steps p.tables e below (T63.setTop (mkF m 3 #[.val (.int c), .val (.int (12 : Int32))] [(.int (12 : Int32))])) tt
                            refine st67 _ ?_
                            show Steps p.tables e below (T67.setTop (mkF m 6 #[.val (.int c), .val (.int (12 : Int32))] [(.ref wA), (.int (12 : Int32))])) tt
                            refine X67.arraylength hx (by rw [e67]; exact Ar68.1) (State.isArrayOf_alike hZ.alike Ar68.2.1) (g := (mkF m 6 #[.val (.int c), .val (.int (12 : Int32))] [(.ref wA), (.int (12 : Int32))])) rfl rfl (hb hby d1_6) _ ?_
                            rw [len_of S68 P68]
                            show Steps p.tables e below (T67.setTop (mkF m 7 #[.val (.int c), .val (.int (12 : Int32))] [(.int (28 : Int32)), (.int (12 : Int32))])) tt
                            refine XS.icmpNo X67.here hx rfl (hb hby d1_7) rfl (tlt (by decide : (12 : Int32) < (28 : Int32))).2.1 ?_
                            show Steps p.tables e below (T67.setTop (mkF m 10 #[.val (.int c), .val (.int (12 : Int32))] [])) tt
                            refine st69 _ ?_
                            show Steps p.tables e below (T69.setTop (mkF m 13 #[.val (.int c), .val (.int (12 : Int32))] [(.ref wA)])) tt
                            refine XS.iloadN X69.here hx rfl (hb hby d1_13) rfl ?_
                            show Steps p.tables e below (T69.setTop (mkF m 14 #[.val (.int c), .val (.int (12 : Int32))] [(.int (12 : Int32)), (.ref wA)])) tt
                            refine X69.iaload hx (j := (12 : Int32)) (v := (.int (10240 : Int32))) (by rw [e69]; exact Ar70.1) (State.isArrayOf_alike hZ.alike Ar70.2.1) Ar70.2.2 hin70 hat70 (g := (mkF m 14 #[.val (.int c), .val (.int (12 : Int32))] [(.int (12 : Int32)), (.ref wA)])) rfl rfl (hb hby d1_14) _ ?_
                            show Steps p.tables e below (T69.setTop (mkF m 15 #[.val (.int c), .val (.int (12 : Int32))] [(.int (10240 : Int32))])) tt
                            refine XS.iloadN X69.here hx rfl (hb hby d1_15) rfl ?_
                            exact kk
                          by_cases hc70 : c < (10240 : Int32)
                          · have k73 : ∀ tt, Steps p.tables e below (T69.setTop (mkF m 39 #[.val (.int c), .val (.int (12 : Int32))] [(.int (0 : Int32))])) tt → Steps p.tables e below (s₁.setTop (entryFrame m #[(.int c)] 2)) tt := by
                              intro tt kk
                              refine k72 tt ?_
                              show Steps p.tables e below (T69.setTop (mkF m 16 #[.val (.int c), .val (.int (12 : Int32))] [(.int c), (.int (10240 : Int32))])) tt
                              refine XS.icmpYes X69.here hx rfl (pc0 := 16) (pc' := 38) rfl (hb hby d1_16) rfl (tlt (hc70 : c < (10240 : Int32))).2.2.1 (by decide) (by decide) ?_
                              show Steps p.tables e below (T69.setTop (mkF m 38 #[.val (.int c), .val (.int (12 : Int32))] [])) tt
                              refine XS.iconst X69.here hx rfl (hb hby d1_38) ?_
                              exact kk
                            obtain ⟨fs, hr, hrun, hended, hW, hsame⟩ := X69.leave (v := some (.int (0 : Int32))) (fun hq => by rw [Bd.returns] at hq; cases hq)
                            refine ⟨_, _, k73 _ ?_, hrun, hended, _, _, rfl, ?_, ⟨_, rfl⟩, hW, hsame.mono (by decide) (by decide)⟩
                            · show Steps p.tables e below (T69.setTop (mkF m 39 #[.val (.int c), .val (.int (12 : Int32))] [(.int (0 : Int32))])) _
                              exact retN X69 hx (t := .boolean) Bd.returns (by simp) (hb hby d1_39) hr
                            · show (fun (v : Option Value) (h : Heap) (L : List Loc) => v = some (.int (own_bl c)) ∧ Fr n0 L ∧ h = h0) _ T69.heap _
                              rw [e69]
                              dsimp only
                              refine ⟨?_, N0, rfl⟩
                              have z11 := own_gtI (n := 8293) rfl hc64
                              have z12 := own_ltI (n := 10240) rfl hc70
                              unfold own_bl
                              rw [if_neg (show ¬ own_P c.toInt by unfold own_P; omega)]
                          · obtain ⟨T74, X74, e74, st74⟩ := getS2 X69 hx hZ hown (host := "") (Or.inl (hw _ (List.mem_of_getElem? (i := 4) rfl))) Via.refl e69 S_A (g := (mkF m 20 #[.val (.int c), .val (.int (12 : Int32))] [(.int c)])) rfl (hb hby d1_20)
                            obtain ⟨cl75, Ar75, q75, S75, P75, H75, G75⟩ := id V_A
                            have hin75 : ¬ ((13 : Int32) < 0 ∨ cl75.slots.size ≤ ((13 : Int32)).toNatClampNeg) := inb_of S75 ⟨by decide, by decide⟩
                            have hat75 : cl75.slots[((13 : Int32)).toNatClampNeg]? = some (.int (10240 : Int32)) := Has.at H75 hin75 rfl
                            have k77 : ∀ tt, Steps p.tables e below (T74.setTop (mkF m 27 #[.val (.int c), .val (.int (12 : Int32))] [(.int (10240 : Int32)), (.int c)])) tt → Steps p.tables e below (s₁.setTop (entryFrame m #[(.int c)] 2)) tt := by
                              intro tt kk
                              refine k72 tt ?_
                              show Steps p.tables e below (T69.setTop (mkF m 16 #[.val (.int c), .val (.int (12 : Int32))] [(.int c), (.int (10240 : Int32))])) tt
                              refine XS.icmpNo X69.here hx rfl (hb hby d1_16) rfl (flt (hc70 : ¬ (c < (10240 : Int32)))).2.2.1 ?_
                              show Steps p.tables e below (T69.setTop (mkF m 19 #[.val (.int c), .val (.int (12 : Int32))] [])) tt
                              refine XS.iloadN X69.here hx rfl (hb hby d1_19) rfl ?_
                              show Steps p.tables e below (T69.setTop (mkF m 20 #[.val (.int c), .val (.int (12 : Int32))] [(.int c)])) tt
                              refine st74 _ ?_
                              show Steps p.tables e below (T74.setTop (mkF m 23 #[.val (.int c), .val (.int (12 : Int32))] [(.ref wA), (.int c)])) tt
                              refine XS.iloadN X74.here hx rfl (hb hby d1_23) rfl ?_
                              show Steps p.tables e below (T74.setTop (mkF m 24 #[.val (.int c), .val (.int (12 : Int32))] [(.int (12 : Int32)), (.ref wA), (.int c)])) tt
                              refine XS.iconst X74.here hx rfl (hb hby d1_24) ?_
                              show Steps p.tables e below (T74.setTop (mkF m 25 #[.val (.int c), .val (.int (12 : Int32))] [(.int (1 : Int32)), (.int (12 : Int32)), (.ref wA), (.int c)])) tt
                              refine XS.iadd X74.here hx rfl (hb hby d1_25) rfl ?_
                              show Steps p.tables e below (T74.setTop (mkF m 26 #[.val (.int c), .val (.int (12 : Int32))] [(.int (13 : Int32)), (.ref wA), (.int c)])) tt
                              refine X74.iaload hx (j := (13 : Int32)) (v := (.int (10240 : Int32))) (by rw [e74]; exact Ar75.1) (State.isArrayOf_alike hZ.alike Ar75.2.1) Ar75.2.2 hin75 hat75 (g := (mkF m 26 #[.val (.int c), .val (.int (12 : Int32))] [(.int (13 : Int32)), (.ref wA), (.int c)])) rfl rfl (hb hby d1_26) _ ?_
                              exact kk
                            by_cases hc75 : (10240 : Int32) < c
                            · obtain ⟨T78, X78, e78, st78⟩ := getS2 X74 hx hZ hown (host := "") (Or.inl (hw _ (List.mem_of_getElem? (i := 4) rfl))) Via.refl e74 S_A (g := (mkF m 3 #[.val (.int c), .val (.int (14 : Int32))] [(.int (14 : Int32))])) rfl (hb hby d1_3)
                              obtain ⟨cl79, Ar79, q79, S79, P79, H79, G79⟩ := id V_A
                              obtain ⟨T80, X80, e80, st80⟩ := getS2 X78 hx hZ hown (host := "") (Or.inl (hw _ (List.mem_of_getElem? (i := 4) rfl))) Via.refl e78 S_A (g := (mkF m 10 #[.val (.int c), .val (.int (14 : Int32))] [])) rfl (hb hby d1_10)
                              obtain ⟨cl81, Ar81, q81, S81, P81, H81, G81⟩ := id V_A
                              have hin81 : ¬ ((14 : Int32) < 0 ∨ cl81.slots.size ≤ ((14 : Int32)).toNatClampNeg) := inb_of S81 ⟨by decide, by decide⟩
                              have hat81 : cl81.slots[((14 : Int32)).toNatClampNeg]? = some (.int (12644 : Int32)) := Has.at H81 hin81 rfl
                              have k83 : ∀ tt, Steps p.tables e below (T80.setTop (mkF m 16 #[.val (.int c), .val (.int (14 : Int32))] [(.int c), (.int (12644 : Int32))])) tt → Steps p.tables e below (s₁.setTop (entryFrame m #[(.int c)] 2)) tt := by
                                intro tt kk
                                refine k77 tt ?_
                                show Steps p.tables e below (T74.setTop (mkF m 27 #[.val (.int c), .val (.int (12 : Int32))] [(.int (10240 : Int32)), (.int c)])) tt
                                refine XS.icmpYes X74.here hx rfl (pc0 := 27) (pc' := 32) rfl (hb hby d1_27) rfl (tlt (hc75 : (10240 : Int32) < c)).2.2.1 (by decide) (by decide) ?_
                                show Steps p.tables e below (T74.setTop (mkF m 32 #[.val (.int c), .val (.int (12 : Int32))] [])) tt
                                refine XS.iinc X74.here hx rfl (hb hby d1_32) rfl (l' := #[.val (.int c), .val (.int (14 : Int32))]) rfl ?_
                                show Steps p.tables e below (T74.setTop (mkF m 35 #[.val (.int c), .val (.int (14 : Int32))] [])) tt
                                refine XS.goto X74.here hx rfl (pc0 := 35) (pc' := 2) rfl (hb hby d1_35) (by decide) (by decide) ?_
                                show Steps p.tables e below (T74.setTop (mkF m 2 #[.val (.int c), .val (.int (14 : Int32))] [])) tt
                                refine XS.iloadN X74.here hx rfl (hb hby d1_2) rfl ?_
                                show Steps p.tables e below (T74.setTop (mkF m 3 #[.val (.int c), .val (.int (14 : Int32))] [(.int (14 : Int32))])) tt
                                refine st78 _ ?_
                                show Steps p.tables e below (T78.setTop (mkF m 6 #[.val (.int c), .val (.int (14 : Int32))] [(.ref wA), (.int (14 : Int32))])) tt
                                refine X78.arraylength hx (by rw [e78]; exact Ar79.1) (State.isArrayOf_alike hZ.alike Ar79.2.1) (g := (mkF m 6 #[.val (.int c), .val (.int (14 : Int32))] [(.ref wA), (.int (14 : Int32))])) rfl rfl (hb hby d1_6) _ ?_
                                rw [len_of S79 P79]
                                show Steps p.tables e below (T78.setTop (mkF m 7 #[.val (.int c), .val (.int (14 : Int32))] [(.int (28 : Int32)), (.int (14 : Int32))])) tt
                                refine XS.icmpNo X78.here hx rfl (hb hby d1_7) rfl (tlt (by decide : (14 : Int32) < (28 : Int32))).2.1 ?_
                                show Steps p.tables e below (T78.setTop (mkF m 10 #[.val (.int c), .val (.int (14 : Int32))] [])) tt
                                refine st80 _ ?_
                                show Steps p.tables e below (T80.setTop (mkF m 13 #[.val (.int c), .val (.int (14 : Int32))] [(.ref wA)])) tt
                                refine XS.iloadN X80.here hx rfl (hb hby d1_13) rfl ?_
                                show Steps p.tables e below (T80.setTop (mkF m 14 #[.val (.int c), .val (.int (14 : Int32))] [(.int (14 : Int32)), (.ref wA)])) tt
                                refine X80.iaload hx (j := (14 : Int32)) (v := (.int (12644 : Int32))) (by rw [e80]; exact Ar81.1) (State.isArrayOf_alike hZ.alike Ar81.2.1) Ar81.2.2 hin81 hat81 (g := (mkF m 14 #[.val (.int c), .val (.int (14 : Int32))] [(.int (14 : Int32)), (.ref wA)])) rfl rfl (hb hby d1_14) _ ?_
                                show Steps p.tables e below (T80.setTop (mkF m 15 #[.val (.int c), .val (.int (14 : Int32))] [(.int (12644 : Int32))])) tt
                                refine XS.iloadN X80.here hx rfl (hb hby d1_15) rfl ?_
                                exact kk
                              by_cases hc81 : c < (12644 : Int32)
                              · have k84 : ∀ tt, Steps p.tables e below (T80.setTop (mkF m 39 #[.val (.int c), .val (.int (14 : Int32))] [(.int (0 : Int32))])) tt → Steps p.tables e below (s₁.setTop (entryFrame m #[(.int c)] 2)) tt := by
                                  intro tt kk
                                  refine k83 tt ?_
                                  show Steps p.tables e below (T80.setTop (mkF m 16 #[.val (.int c), .val (.int (14 : Int32))] [(.int c), (.int (12644 : Int32))])) tt
                                  refine XS.icmpYes X80.here hx rfl (pc0 := 16) (pc' := 38) rfl (hb hby d1_16) rfl (tlt (hc81 : c < (12644 : Int32))).2.2.1 (by decide) (by decide) ?_
                                  show Steps p.tables e below (T80.setTop (mkF m 38 #[.val (.int c), .val (.int (14 : Int32))] [])) tt
                                  refine XS.iconst X80.here hx rfl (hb hby d1_38) ?_
                                  exact kk
                                obtain ⟨fs, hr, hrun, hended, hW, hsame⟩ := X80.leave (v := some (.int (0 : Int32))) (fun hq => by rw [Bd.returns] at hq; cases hq)
                                refine ⟨_, _, k84 _ ?_, hrun, hended, _, _, rfl, ?_, ⟨_, rfl⟩, hW, hsame.mono (by decide) (by decide)⟩
                                · show Steps p.tables e below (T80.setTop (mkF m 39 #[.val (.int c), .val (.int (14 : Int32))] [(.int (0 : Int32))])) _
                                  exact retN X80 hx (t := .boolean) Bd.returns (by simp) (hb hby d1_39) hr
                                · show (fun (v : Option Value) (h : Heap) (L : List Loc) => v = some (.int (own_bl c)) ∧ Fr n0 L ∧ h = h0) _ T80.heap _
                                  rw [e80]
                                  dsimp only
                                  refine ⟨?_, N0, rfl⟩
                                  have z13 := own_gtI (n := 10240) rfl hc75
                                  have z14 := own_ltI (n := 12644) rfl hc81
                                  unfold own_bl
                                  rw [if_neg (show ¬ own_P c.toInt by unfold own_P; omega)]
                              · obtain ⟨T85, X85, e85, st85⟩ := getS2 X80 hx hZ hown (host := "") (Or.inl (hw _ (List.mem_of_getElem? (i := 4) rfl))) Via.refl e80 S_A (g := (mkF m 20 #[.val (.int c), .val (.int (14 : Int32))] [(.int c)])) rfl (hb hby d1_20)
                                obtain ⟨cl86, Ar86, q86, S86, P86, H86, G86⟩ := id V_A
                                have hin86 : ¬ ((15 : Int32) < 0 ∨ cl86.slots.size ≤ ((15 : Int32)).toNatClampNeg) := inb_of S86 ⟨by decide, by decide⟩
                                have hat86 : cl86.slots[((15 : Int32)).toNatClampNeg]? = some (.int (12644 : Int32)) := Has.at H86 hin86 rfl
                                have k88 : ∀ tt, Steps p.tables e below (T85.setTop (mkF m 27 #[.val (.int c), .val (.int (14 : Int32))] [(.int (12644 : Int32)), (.int c)])) tt → Steps p.tables e below (s₁.setTop (entryFrame m #[(.int c)] 2)) tt := by
                                  intro tt kk
                                  refine k83 tt ?_
                                  show Steps p.tables e below (T80.setTop (mkF m 16 #[.val (.int c), .val (.int (14 : Int32))] [(.int c), (.int (12644 : Int32))])) tt
                                  refine XS.icmpNo X80.here hx rfl (hb hby d1_16) rfl (flt (hc81 : ¬ (c < (12644 : Int32)))).2.2.1 ?_
                                  show Steps p.tables e below (T80.setTop (mkF m 19 #[.val (.int c), .val (.int (14 : Int32))] [])) tt
                                  refine XS.iloadN X80.here hx rfl (hb hby d1_19) rfl ?_
                                  show Steps p.tables e below (T80.setTop (mkF m 20 #[.val (.int c), .val (.int (14 : Int32))] [(.int c)])) tt
                                  refine st85 _ ?_
                                  show Steps p.tables e below (T85.setTop (mkF m 23 #[.val (.int c), .val (.int (14 : Int32))] [(.ref wA), (.int c)])) tt
                                  refine XS.iloadN X85.here hx rfl (hb hby d1_23) rfl ?_
                                  show Steps p.tables e below (T85.setTop (mkF m 24 #[.val (.int c), .val (.int (14 : Int32))] [(.int (14 : Int32)), (.ref wA), (.int c)])) tt
                                  refine XS.iconst X85.here hx rfl (hb hby d1_24) ?_
                                  show Steps p.tables e below (T85.setTop (mkF m 25 #[.val (.int c), .val (.int (14 : Int32))] [(.int (1 : Int32)), (.int (14 : Int32)), (.ref wA), (.int c)])) tt
                                  refine XS.iadd X85.here hx rfl (hb hby d1_25) rfl ?_
                                  show Steps p.tables e below (T85.setTop (mkF m 26 #[.val (.int c), .val (.int (14 : Int32))] [(.int (15 : Int32)), (.ref wA), (.int c)])) tt
                                  refine X85.iaload hx (j := (15 : Int32)) (v := (.int (12644 : Int32))) (by rw [e85]; exact Ar86.1) (State.isArrayOf_alike hZ.alike Ar86.2.1) Ar86.2.2 hin86 hat86 (g := (mkF m 26 #[.val (.int c), .val (.int (14 : Int32))] [(.int (15 : Int32)), (.ref wA), (.int c)])) rfl rfl (hb hby d1_26) _ ?_
                                  exact kk
                                by_cases hc86 : (12644 : Int32) < c
                                · obtain ⟨T89, X89, e89, st89⟩ := getS2 X85 hx hZ hown (host := "") (Or.inl (hw _ (List.mem_of_getElem? (i := 4) rfl))) Via.refl e85 S_A (g := (mkF m 3 #[.val (.int c), .val (.int (16 : Int32))] [(.int (16 : Int32))])) rfl (hb hby d1_3)
                                  obtain ⟨cl90, Ar90, q90, S90, P90, H90, G90⟩ := id V_A
                                  obtain ⟨T91, X91, e91, st91⟩ := getS2 X89 hx hZ hown (host := "") (Or.inl (hw _ (List.mem_of_getElem? (i := 4) rfl))) Via.refl e89 S_A (g := (mkF m 10 #[.val (.int c), .val (.int (16 : Int32))] [])) rfl (hb hby d1_10)
                                  obtain ⟨cl92, Ar92, q92, S92, P92, H92, G92⟩ := id V_A
                                  have hin92 : ¬ ((16 : Int32) < 0 ∨ cl92.slots.size ≤ ((16 : Int32)).toNatClampNeg) := inb_of S92 ⟨by decide, by decide⟩
                                  have hat92 : cl92.slots[((16 : Int32)).toNatClampNeg]? = some (.int (65024 : Int32)) := Has.at H92 hin92 rfl
                                  have k94 : ∀ tt, Steps p.tables e below (T91.setTop (mkF m 16 #[.val (.int c), .val (.int (16 : Int32))] [(.int c), (.int (65024 : Int32))])) tt → Steps p.tables e below (s₁.setTop (entryFrame m #[(.int c)] 2)) tt := by
                                    intro tt kk
                                    refine k88 tt ?_
                                    show Steps p.tables e below (T85.setTop (mkF m 27 #[.val (.int c), .val (.int (14 : Int32))] [(.int (12644 : Int32)), (.int c)])) tt
                                    refine XS.icmpYes X85.here hx rfl (pc0 := 27) (pc' := 32) rfl (hb hby d1_27) rfl (tlt (hc86 : (12644 : Int32) < c)).2.2.1 (by decide) (by decide) ?_
                                    show Steps p.tables e below (T85.setTop (mkF m 32 #[.val (.int c), .val (.int (14 : Int32))] [])) tt
                                    refine XS.iinc X85.here hx rfl (hb hby d1_32) rfl (l' := #[.val (.int c), .val (.int (16 : Int32))]) rfl ?_
                                    show Steps p.tables e below (T85.setTop (mkF m 35 #[.val (.int c), .val (.int (16 : Int32))] [])) tt
                                    refine XS.goto X85.here hx rfl (pc0 := 35) (pc' := 2) rfl (hb hby d1_35) (by decide) (by decide) ?_
                                    show Steps p.tables e below (T85.setTop (mkF m 2 #[.val (.int c), .val (.int (16 : Int32))] [])) tt
                                    refine XS.iloadN X85.here hx rfl (hb hby d1_2) rfl ?_
                                    show Steps p.tables e below (T85.setTop (mkF m 3 #[.val (.int c), .val (.int (16 : Int32))] [(.int (16 : Int32))])) tt
                                    refine st89 _ ?_
                                    show Steps p.tables e below (T89.setTop (mkF m 6 #[.val (.int c), .val (.int (16 : Int32))] [(.ref wA), (.int (16 : Int32))])) tt
                                    refine X89.arraylength hx (by rw [e89]; exact Ar90.1) (State.isArrayOf_alike hZ.alike Ar90.2.1) (g := (mkF m 6 #[.val (.int c), .val (.int (16 : Int32))] [(.ref wA), (.int (16 : Int32))])) rfl rfl (hb hby d1_6) _ ?_
                                    rw [len_of S90 P90]
                                    show Steps p.tables e below (T89.setTop (mkF m 7 #[.val (.int c), .val (.int (16 : Int32))] [(.int (28 : Int32)), (.int (16 : Int32))])) tt
                                    refine XS.icmpNo X89.here hx rfl (hb hby d1_7) rfl (tlt (by decide : (16 : Int32) < (28 : Int32))).2.1 ?_
                                    show Steps p.tables e below (T89.setTop (mkF m 10 #[.val (.int c), .val (.int (16 : Int32))] [])) tt
                                    refine st91 _ ?_
                                    show Steps p.tables e below (T91.setTop (mkF m 13 #[.val (.int c), .val (.int (16 : Int32))] [(.ref wA)])) tt
                                    refine XS.iloadN X91.here hx rfl (hb hby d1_13) rfl ?_
                                    show Steps p.tables e below (T91.setTop (mkF m 14 #[.val (.int c), .val (.int (16 : Int32))] [(.int (16 : Int32)), (.ref wA)])) tt
                                    refine X91.iaload hx (j := (16 : Int32)) (v := (.int (65024 : Int32))) (by rw [e91]; exact Ar92.1) (State.isArrayOf_alike hZ.alike Ar92.2.1) Ar92.2.2 hin92 hat92 (g := (mkF m 14 #[.val (.int c), .val (.int (16 : Int32))] [(.int (16 : Int32)), (.ref wA)])) rfl rfl (hb hby d1_14) _ ?_
                                    show Steps p.tables e below (T91.setTop (mkF m 15 #[.val (.int c), .val (.int (16 : Int32))] [(.int (65024 : Int32))])) tt
                                    refine XS.iloadN X91.here hx rfl (hb hby d1_15) rfl ?_
                                    exact kk
                                  by_cases hc92 : c < (65024 : Int32)
                                  · have k95 : ∀ tt, Steps p.tables e below (T91.setTop (mkF m 39 #[.val (.int c), .val (.int (16 : Int32))] [(.int (0 : Int32))])) tt → Steps p.tables e below (s₁.setTop (entryFrame m #[(.int c)] 2)) tt := by
                                      intro tt kk
                                      refine k94 tt ?_
                                      show Steps p.tables e below (T91.setTop (mkF m 16 #[.val (.int c), .val (.int (16 : Int32))] [(.int c), (.int (65024 : Int32))])) tt
                                      refine XS.icmpYes X91.here hx rfl (pc0 := 16) (pc' := 38) rfl (hb hby d1_16) rfl (tlt (hc92 : c < (65024 : Int32))).2.2.1 (by decide) (by decide) ?_
                                      show Steps p.tables e below (T91.setTop (mkF m 38 #[.val (.int c), .val (.int (16 : Int32))] [])) tt
                                      refine XS.iconst X91.here hx rfl (hb hby d1_38) ?_
                                      exact kk
                                    obtain ⟨fs, hr, hrun, hended, hW, hsame⟩ := X91.leave (v := some (.int (0 : Int32))) (fun hq => by rw [Bd.returns] at hq; cases hq)
                                    refine ⟨_, _, k95 _ ?_, hrun, hended, _, _, rfl, ?_, ⟨_, rfl⟩, hW, hsame.mono (by decide) (by decide)⟩
                                    · show Steps p.tables e below (T91.setTop (mkF m 39 #[.val (.int c), .val (.int (16 : Int32))] [(.int (0 : Int32))])) _
                                      exact retN X91 hx (t := .boolean) Bd.returns (by simp) (hb hby d1_39) hr
                                    · show (fun (v : Option Value) (h : Heap) (L : List Loc) => v = some (.int (own_bl c)) ∧ Fr n0 L ∧ h = h0) _ T91.heap _
                                      rw [e91]
                                      dsimp only
                                      refine ⟨?_, N0, rfl⟩
                                      have z15 := own_gtI (n := 12644) rfl hc86
                                      have z16 := own_ltI (n := 65024) rfl hc92
                                      unfold own_bl
                                      rw [if_neg (show ¬ own_P c.toInt by unfold own_P; omega)]
                                  · obtain ⟨T96, X96, e96, st96⟩ := getS2 X91 hx hZ hown (host := "") (Or.inl (hw _ (List.mem_of_getElem? (i := 4) rfl))) Via.refl e91 S_A (g := (mkF m 20 #[.val (.int c), .val (.int (16 : Int32))] [(.int c)])) rfl (hb hby d1_20)
                                    obtain ⟨cl97, Ar97, q97, S97, P97, H97, G97⟩ := id V_A
                                    have hin97 : ¬ ((17 : Int32) < 0 ∨ cl97.slots.size ≤ ((17 : Int32)).toNatClampNeg) := inb_of S97 ⟨by decide, by decide⟩
                                    have hat97 : cl97.slots[((17 : Int32)).toNatClampNeg]? = some (.int (65039 : Int32)) := Has.at H97 hin97 rfl
                                    have k99 : ∀ tt, Steps p.tables e below (T96.setTop (mkF m 27 #[.val (.int c), .val (.int (16 : Int32))] [(.int (65039 : Int32)), (.int c)])) tt → Steps p.tables e below (s₁.setTop (entryFrame m #[(.int c)] 2)) tt := by
                                      intro tt kk
                                      refine k94 tt ?_
                                      show Steps p.tables e below (T91.setTop (mkF m 16 #[.val (.int c), .val (.int (16 : Int32))] [(.int c), (.int (65024 : Int32))])) tt
                                      refine XS.icmpNo X91.here hx rfl (hb hby d1_16) rfl (flt (hc92 : ¬ (c < (65024 : Int32)))).2.2.1 ?_
                                      show Steps p.tables e below (T91.setTop (mkF m 19 #[.val (.int c), .val (.int (16 : Int32))] [])) tt
                                      refine XS.iloadN X91.here hx rfl (hb hby d1_19) rfl ?_
                                      show Steps p.tables e below (T91.setTop (mkF m 20 #[.val (.int c), .val (.int (16 : Int32))] [(.int c)])) tt
                                      refine st96 _ ?_
                                      show Steps p.tables e below (T96.setTop (mkF m 23 #[.val (.int c), .val (.int (16 : Int32))] [(.ref wA), (.int c)])) tt
                                      refine XS.iloadN X96.here hx rfl (hb hby d1_23) rfl ?_
                                      show Steps p.tables e below (T96.setTop (mkF m 24 #[.val (.int c), .val (.int (16 : Int32))] [(.int (16 : Int32)), (.ref wA), (.int c)])) tt
                                      refine XS.iconst X96.here hx rfl (hb hby d1_24) ?_
                                      show Steps p.tables e below (T96.setTop (mkF m 25 #[.val (.int c), .val (.int (16 : Int32))] [(.int (1 : Int32)), (.int (16 : Int32)), (.ref wA), (.int c)])) tt
                                      refine XS.iadd X96.here hx rfl (hb hby d1_25) rfl ?_
                                      show Steps p.tables e below (T96.setTop (mkF m 26 #[.val (.int c), .val (.int (16 : Int32))] [(.int (17 : Int32)), (.ref wA), (.int c)])) tt
                                      refine X96.iaload hx (j := (17 : Int32)) (v := (.int (65039 : Int32))) (by rw [e96]; exact Ar97.1) (State.isArrayOf_alike hZ.alike Ar97.2.1) Ar97.2.2 hin97 hat97 (g := (mkF m 26 #[.val (.int c), .val (.int (16 : Int32))] [(.int (17 : Int32)), (.ref wA), (.int c)])) rfl rfl (hb hby d1_26) _ ?_
                                      exact kk
                                    by_cases hc97 : (65039 : Int32) < c
                                    · obtain ⟨T100, X100, e100, st100⟩ := getS2 X96 hx hZ hown (host := "") (Or.inl (hw _ (List.mem_of_getElem? (i := 4) rfl))) Via.refl e96 S_A (g := (mkF m 3 #[.val (.int c), .val (.int (18 : Int32))] [(.int (18 : Int32))])) rfl (hb hby d1_3)
                                      obtain ⟨cl101, Ar101, q101, S101, P101, H101, G101⟩ := id V_A
                                      obtain ⟨T102, X102, e102, st102⟩ := getS2 X100 hx hZ hown (host := "") (Or.inl (hw _ (List.mem_of_getElem? (i := 4) rfl))) Via.refl e100 S_A (g := (mkF m 10 #[.val (.int c), .val (.int (18 : Int32))] [])) rfl (hb hby d1_10)
                                      obtain ⟨cl103, Ar103, q103, S103, P103, H103, G103⟩ := id V_A
                                      have hin103 : ¬ ((18 : Int32) < 0 ∨ cl103.slots.size ≤ ((18 : Int32)).toNatClampNeg) := inb_of S103 ⟨by decide, by decide⟩
                                      have hat103 : cl103.slots[((18 : Int32)).toNatClampNeg]? = some (.int (65440 : Int32)) := Has.at H103 hin103 rfl
                                      have k105 : ∀ tt, Steps p.tables e below (T102.setTop (mkF m 16 #[.val (.int c), .val (.int (18 : Int32))] [(.int c), (.int (65440 : Int32))])) tt → Steps p.tables e below (s₁.setTop (entryFrame m #[(.int c)] 2)) tt := by
                                        intro tt kk
                                        refine k99 tt ?_
                                        show Steps p.tables e below (T96.setTop (mkF m 27 #[.val (.int c), .val (.int (16 : Int32))] [(.int (65039 : Int32)), (.int c)])) tt
                                        refine XS.icmpYes X96.here hx rfl (pc0 := 27) (pc' := 32) rfl (hb hby d1_27) rfl (tlt (hc97 : (65039 : Int32) < c)).2.2.1 (by decide) (by decide) ?_
                                        show Steps p.tables e below (T96.setTop (mkF m 32 #[.val (.int c), .val (.int (16 : Int32))] [])) tt
                                        refine XS.iinc X96.here hx rfl (hb hby d1_32) rfl (l' := #[.val (.int c), .val (.int (18 : Int32))]) rfl ?_
                                        show Steps p.tables e below (T96.setTop (mkF m 35 #[.val (.int c), .val (.int (18 : Int32))] [])) tt
                                        refine XS.goto X96.here hx rfl (pc0 := 35) (pc' := 2) rfl (hb hby d1_35) (by decide) (by decide) ?_
                                        show Steps p.tables e below (T96.setTop (mkF m 2 #[.val (.int c), .val (.int (18 : Int32))] [])) tt
                                        refine XS.iloadN X96.here hx rfl (hb hby d1_2) rfl ?_
                                        show Steps p.tables e below (T96.setTop (mkF m 3 #[.val (.int c), .val (.int (18 : Int32))] [(.int (18 : Int32))])) tt
                                        refine st100 _ ?_
                                        show Steps p.tables e below (T100.setTop (mkF m 6 #[.val (.int c), .val (.int (18 : Int32))] [(.ref wA), (.int (18 : Int32))])) tt
                                        refine X100.arraylength hx (by rw [e100]; exact Ar101.1) (State.isArrayOf_alike hZ.alike Ar101.2.1) (g := (mkF m 6 #[.val (.int c), .val (.int (18 : Int32))] [(.ref wA), (.int (18 : Int32))])) rfl rfl (hb hby d1_6) _ ?_
                                        rw [len_of S101 P101]
                                        show Steps p.tables e below (T100.setTop (mkF m 7 #[.val (.int c), .val (.int (18 : Int32))] [(.int (28 : Int32)), (.int (18 : Int32))])) tt
                                        refine XS.icmpNo X100.here hx rfl (hb hby d1_7) rfl (tlt (by decide : (18 : Int32) < (28 : Int32))).2.1 ?_
                                        show Steps p.tables e below (T100.setTop (mkF m 10 #[.val (.int c), .val (.int (18 : Int32))] [])) tt
                                        refine st102 _ ?_
                                        show Steps p.tables e below (T102.setTop (mkF m 13 #[.val (.int c), .val (.int (18 : Int32))] [(.ref wA)])) tt
                                        refine XS.iloadN X102.here hx rfl (hb hby d1_13) rfl ?_
                                        show Steps p.tables e below (T102.setTop (mkF m 14 #[.val (.int c), .val (.int (18 : Int32))] [(.int (18 : Int32)), (.ref wA)])) tt
                                        refine X102.iaload hx (j := (18 : Int32)) (v := (.int (65440 : Int32))) (by rw [e102]; exact Ar103.1) (State.isArrayOf_alike hZ.alike Ar103.2.1) Ar103.2.2 hin103 hat103 (g := (mkF m 14 #[.val (.int c), .val (.int (18 : Int32))] [(.int (18 : Int32)), (.ref wA)])) rfl rfl (hb hby d1_14) _ ?_
                                        show Steps p.tables e below (T102.setTop (mkF m 15 #[.val (.int c), .val (.int (18 : Int32))] [(.int (65440 : Int32))])) tt
                                        refine XS.iloadN X102.here hx rfl (hb hby d1_15) rfl ?_
                                        exact kk
                                      by_cases hc103 : c < (65440 : Int32)
                                      · have k106 : ∀ tt, Steps p.tables e below (T102.setTop (mkF m 39 #[.val (.int c), .val (.int (18 : Int32))] [(.int (0 : Int32))])) tt → Steps p.tables e below (s₁.setTop (entryFrame m #[(.int c)] 2)) tt := by
                                          intro tt kk
                                          refine k105 tt ?_
                                          show Steps p.tables e below (T102.setTop (mkF m 16 #[.val (.int c), .val (.int (18 : Int32))] [(.int c), (.int (65440 : Int32))])) tt
                                          refine XS.icmpYes X102.here hx rfl (pc0 := 16) (pc' := 38) rfl (hb hby d1_16) rfl (tlt (hc103 : c < (65440 : Int32))).2.2.1 (by decide) (by decide) ?_
                                          show Steps p.tables e below (T102.setTop (mkF m 38 #[.val (.int c), .val (.int (18 : Int32))] [])) tt
                                          refine XS.iconst X102.here hx rfl (hb hby d1_38) ?_
                                          exact kk
                                        obtain ⟨fs, hr, hrun, hended, hW, hsame⟩ := X102.leave (v := some (.int (0 : Int32))) (fun hq => by rw [Bd.returns] at hq; cases hq)
                                        refine ⟨_, _, k106 _ ?_, hrun, hended, _, _, rfl, ?_, ⟨_, rfl⟩, hW, hsame.mono (by decide) (by decide)⟩
                                        · show Steps p.tables e below (T102.setTop (mkF m 39 #[.val (.int c), .val (.int (18 : Int32))] [(.int (0 : Int32))])) _
                                          exact retN X102 hx (t := .boolean) Bd.returns (by simp) (hb hby d1_39) hr
                                        · show (fun (v : Option Value) (h : Heap) (L : List Loc) => v = some (.int (own_bl c)) ∧ Fr n0 L ∧ h = h0) _ T102.heap _
                                          rw [e102]
                                          dsimp only
                                          refine ⟨?_, N0, rfl⟩
                                          have z17 := own_gtI (n := 65039) rfl hc97
                                          have z18 := own_ltI (n := 65440) rfl hc103
                                          unfold own_bl
                                          rw [if_neg (show ¬ own_P c.toInt by unfold own_P; omega)]
                                      · obtain ⟨T107, X107, e107, st107⟩ := getS2 X102 hx hZ hown (host := "") (Or.inl (hw _ (List.mem_of_getElem? (i := 4) rfl))) Via.refl e102 S_A (g := (mkF m 20 #[.val (.int c), .val (.int (18 : Int32))] [(.int c)])) rfl (hb hby d1_20)
                                        obtain ⟨cl108, Ar108, q108, S108, P108, H108, G108⟩ := id V_A
                                        have hin108 : ¬ ((19 : Int32) < 0 ∨ cl108.slots.size ≤ ((19 : Int32)).toNatClampNeg) := inb_of S108 ⟨by decide, by decide⟩
                                        have hat108 : cl108.slots[((19 : Int32)).toNatClampNeg]? = some (.int (65440 : Int32)) := Has.at H108 hin108 rfl
                                        have k110 : ∀ tt, Steps p.tables e below (T107.setTop (mkF m 27 #[.val (.int c), .val (.int (18 : Int32))] [(.int (65440 : Int32)), (.int c)])) tt → Steps p.tables e below (s₁.setTop (entryFrame m #[(.int c)] 2)) tt := by
                                          intro tt kk
                                          refine k105 tt ?_
                                          show Steps p.tables e below (T102.setTop (mkF m 16 #[.val (.int c), .val (.int (18 : Int32))] [(.int c), (.int (65440 : Int32))])) tt
                                          refine XS.icmpNo X102.here hx rfl (hb hby d1_16) rfl (flt (hc103 : ¬ (c < (65440 : Int32)))).2.2.1 ?_
                                          show Steps p.tables e below (T102.setTop (mkF m 19 #[.val (.int c), .val (.int (18 : Int32))] [])) tt
                                          refine XS.iloadN X102.here hx rfl (hb hby d1_19) rfl ?_
                                          show Steps p.tables e below (T102.setTop (mkF m 20 #[.val (.int c), .val (.int (18 : Int32))] [(.int c)])) tt
                                          refine st107 _ ?_
                                          show Steps p.tables e below (T107.setTop (mkF m 23 #[.val (.int c), .val (.int (18 : Int32))] [(.ref wA), (.int c)])) tt
                                          refine XS.iloadN X107.here hx rfl (hb hby d1_23) rfl ?_
                                          show Steps p.tables e below (T107.setTop (mkF m 24 #[.val (.int c), .val (.int (18 : Int32))] [(.int (18 : Int32)), (.ref wA), (.int c)])) tt
                                          refine XS.iconst X107.here hx rfl (hb hby d1_24) ?_
                                          show Steps p.tables e below (T107.setTop (mkF m 25 #[.val (.int c), .val (.int (18 : Int32))] [(.int (1 : Int32)), (.int (18 : Int32)), (.ref wA), (.int c)])) tt
                                          refine XS.iadd X107.here hx rfl (hb hby d1_25) rfl ?_
                                          show Steps p.tables e below (T107.setTop (mkF m 26 #[.val (.int c), .val (.int (18 : Int32))] [(.int (19 : Int32)), (.ref wA), (.int c)])) tt
                                          refine X107.iaload hx (j := (19 : Int32)) (v := (.int (65440 : Int32))) (by rw [e107]; exact Ar108.1) (State.isArrayOf_alike hZ.alike Ar108.2.1) Ar108.2.2 hin108 hat108 (g := (mkF m 26 #[.val (.int c), .val (.int (18 : Int32))] [(.int (19 : Int32)), (.ref wA), (.int c)])) rfl rfl (hb hby d1_26) _ ?_
                                          exact kk
                                        by_cases hc108 : (65440 : Int32) < c
                                        · obtain ⟨T111, X111, e111, st111⟩ := getS2 X107 hx hZ hown (host := "") (Or.inl (hw _ (List.mem_of_getElem? (i := 4) rfl))) Via.refl e107 S_A (g := (mkF m 3 #[.val (.int c), .val (.int (20 : Int32))] [(.int (20 : Int32))])) rfl (hb hby d1_3)
                                          obtain ⟨cl112, Ar112, q112, S112, P112, H112, G112⟩ := id V_A
                                          obtain ⟨T113, X113, e113, st113⟩ := getS2 X111 hx hZ hown (host := "") (Or.inl (hw _ (List.mem_of_getElem? (i := 4) rfl))) Via.refl e111 S_A (g := (mkF m 10 #[.val (.int c), .val (.int (20 : Int32))] [])) rfl (hb hby d1_10)
                                          obtain ⟨cl114, Ar114, q114, S114, P114, H114, G114⟩ := id V_A
                                          have hin114 : ¬ ((20 : Int32) < 0 ∨ cl114.slots.size ≤ ((20 : Int32)).toNatClampNeg) := inb_of S114 ⟨by decide, by decide⟩
                                          have hat114 : cl114.slots[((20 : Int32)).toNatClampNeg]? = some (.int (65520 : Int32)) := Has.at H114 hin114 rfl
                                          have k116 : ∀ tt, Steps p.tables e below (T113.setTop (mkF m 16 #[.val (.int c), .val (.int (20 : Int32))] [(.int c), (.int (65520 : Int32))])) tt → Steps p.tables e below (s₁.setTop (entryFrame m #[(.int c)] 2)) tt := by
                                            intro tt kk
                                            refine k110 tt ?_
                                            show Steps p.tables e below (T107.setTop (mkF m 27 #[.val (.int c), .val (.int (18 : Int32))] [(.int (65440 : Int32)), (.int c)])) tt
                                            refine XS.icmpYes X107.here hx rfl (pc0 := 27) (pc' := 32) rfl (hb hby d1_27) rfl (tlt (hc108 : (65440 : Int32) < c)).2.2.1 (by decide) (by decide) ?_
                                            show Steps p.tables e below (T107.setTop (mkF m 32 #[.val (.int c), .val (.int (18 : Int32))] [])) tt
                                            refine XS.iinc X107.here hx rfl (hb hby d1_32) rfl (l' := #[.val (.int c), .val (.int (20 : Int32))]) rfl ?_
                                            show Steps p.tables e below (T107.setTop (mkF m 35 #[.val (.int c), .val (.int (20 : Int32))] [])) tt
                                            refine XS.goto X107.here hx rfl (pc0 := 35) (pc' := 2) rfl (hb hby d1_35) (by decide) (by decide) ?_
                                            show Steps p.tables e below (T107.setTop (mkF m 2 #[.val (.int c), .val (.int (20 : Int32))] [])) tt
                                            refine XS.iloadN X107.here hx rfl (hb hby d1_2) rfl ?_
                                            show Steps p.tables e below (T107.setTop (mkF m 3 #[.val (.int c), .val (.int (20 : Int32))] [(.int (20 : Int32))])) tt
                                            refine st111 _ ?_
                                            show Steps p.tables e below (T111.setTop (mkF m 6 #[.val (.int c), .val (.int (20 : Int32))] [(.ref wA), (.int (20 : Int32))])) tt
                                            refine X111.arraylength hx (by rw [e111]; exact Ar112.1) (State.isArrayOf_alike hZ.alike Ar112.2.1) (g := (mkF m 6 #[.val (.int c), .val (.int (20 : Int32))] [(.ref wA), (.int (20 : Int32))])) rfl rfl (hb hby d1_6) _ ?_
                                            rw [len_of S112 P112]
                                            show Steps p.tables e below (T111.setTop (mkF m 7 #[.val (.int c), .val (.int (20 : Int32))] [(.int (28 : Int32)), (.int (20 : Int32))])) tt
                                            refine XS.icmpNo X111.here hx rfl (hb hby d1_7) rfl (tlt (by decide : (20 : Int32) < (28 : Int32))).2.1 ?_
                                            show Steps p.tables e below (T111.setTop (mkF m 10 #[.val (.int c), .val (.int (20 : Int32))] [])) tt
                                            refine st113 _ ?_
                                            show Steps p.tables e below (T113.setTop (mkF m 13 #[.val (.int c), .val (.int (20 : Int32))] [(.ref wA)])) tt
                                            refine XS.iloadN X113.here hx rfl (hb hby d1_13) rfl ?_
                                            show Steps p.tables e below (T113.setTop (mkF m 14 #[.val (.int c), .val (.int (20 : Int32))] [(.int (20 : Int32)), (.ref wA)])) tt
                                            refine X113.iaload hx (j := (20 : Int32)) (v := (.int (65520 : Int32))) (by rw [e113]; exact Ar114.1) (State.isArrayOf_alike hZ.alike Ar114.2.1) Ar114.2.2 hin114 hat114 (g := (mkF m 14 #[.val (.int c), .val (.int (20 : Int32))] [(.int (20 : Int32)), (.ref wA)])) rfl rfl (hb hby d1_14) _ ?_
                                            show Steps p.tables e below (T113.setTop (mkF m 15 #[.val (.int c), .val (.int (20 : Int32))] [(.int (65520 : Int32))])) tt
                                            refine XS.iloadN X113.here hx rfl (hb hby d1_15) rfl ?_
                                            exact kk
                                          by_cases hc114 : c < (65520 : Int32)
                                          · have k117 : ∀ tt, Steps p.tables e below (T113.setTop (mkF m 39 #[.val (.int c), .val (.int (20 : Int32))] [(.int (0 : Int32))])) tt → Steps p.tables e below (s₁.setTop (entryFrame m #[(.int c)] 2)) tt := by
                                              intro tt kk
                                              refine k116 tt ?_
                                              show Steps p.tables e below (T113.setTop (mkF m 16 #[.val (.int c), .val (.int (20 : Int32))] [(.int c), (.int (65520 : Int32))])) tt
                                              refine XS.icmpYes X113.here hx rfl (pc0 := 16) (pc' := 38) rfl (hb hby d1_16) rfl (tlt (hc114 : c < (65520 : Int32))).2.2.1 (by decide) (by decide) ?_
                                              show Steps p.tables e below (T113.setTop (mkF m 38 #[.val (.int c), .val (.int (20 : Int32))] [])) tt
                                              refine XS.iconst X113.here hx rfl (hb hby d1_38) ?_
                                              exact kk
                                            obtain ⟨fs, hr, hrun, hended, hW, hsame⟩ := X113.leave (v := some (.int (0 : Int32))) (fun hq => by rw [Bd.returns] at hq; cases hq)
                                            refine ⟨_, _, k117 _ ?_, hrun, hended, _, _, rfl, ?_, ⟨_, rfl⟩, hW, hsame.mono (by decide) (by decide)⟩
                                            · show Steps p.tables e below (T113.setTop (mkF m 39 #[.val (.int c), .val (.int (20 : Int32))] [(.int (0 : Int32))])) _
                                              exact retN X113 hx (t := .boolean) Bd.returns (by simp) (hb hby d1_39) hr
                                            · show (fun (v : Option Value) (h : Heap) (L : List Loc) => v = some (.int (own_bl c)) ∧ Fr n0 L ∧ h = h0) _ T113.heap _
                                              rw [e113]
                                              dsimp only
                                              refine ⟨?_, N0, rfl⟩
                                              have z19 := own_gtI (n := 65440) rfl hc108
                                              have z20 := own_ltI (n := 65520) rfl hc114
                                              unfold own_bl
                                              rw [if_neg (show ¬ own_P c.toInt by unfold own_P; omega)]
                                          · obtain ⟨T118, X118, e118, st118⟩ := getS2 X113 hx hZ hown (host := "") (Or.inl (hw _ (List.mem_of_getElem? (i := 4) rfl))) Via.refl e113 S_A (g := (mkF m 20 #[.val (.int c), .val (.int (20 : Int32))] [(.int c)])) rfl (hb hby d1_20)
                                            obtain ⟨cl119, Ar119, q119, S119, P119, H119, G119⟩ := id V_A
                                            have hin119 : ¬ ((21 : Int32) < 0 ∨ cl119.slots.size ≤ ((21 : Int32)).toNatClampNeg) := inb_of S119 ⟨by decide, by decide⟩
                                            have hat119 : cl119.slots[((21 : Int32)).toNatClampNeg]? = some (.int (65528 : Int32)) := Has.at H119 hin119 rfl
                                            have k121 : ∀ tt, Steps p.tables e below (T118.setTop (mkF m 27 #[.val (.int c), .val (.int (20 : Int32))] [(.int (65528 : Int32)), (.int c)])) tt → Steps p.tables e below (s₁.setTop (entryFrame m #[(.int c)] 2)) tt := by
                                              intro tt kk
                                              refine k116 tt ?_
                                              show Steps p.tables e below (T113.setTop (mkF m 16 #[.val (.int c), .val (.int (20 : Int32))] [(.int c), (.int (65520 : Int32))])) tt
                                              refine XS.icmpNo X113.here hx rfl (hb hby d1_16) rfl (flt (hc114 : ¬ (c < (65520 : Int32)))).2.2.1 ?_
                                              show Steps p.tables e below (T113.setTop (mkF m 19 #[.val (.int c), .val (.int (20 : Int32))] [])) tt
                                              refine XS.iloadN X113.here hx rfl (hb hby d1_19) rfl ?_
                                              show Steps p.tables e below (T113.setTop (mkF m 20 #[.val (.int c), .val (.int (20 : Int32))] [(.int c)])) tt
                                              refine st118 _ ?_
                                              show Steps p.tables e below (T118.setTop (mkF m 23 #[.val (.int c), .val (.int (20 : Int32))] [(.ref wA), (.int c)])) tt
                                              refine XS.iloadN X118.here hx rfl (hb hby d1_23) rfl ?_
                                              show Steps p.tables e below (T118.setTop (mkF m 24 #[.val (.int c), .val (.int (20 : Int32))] [(.int (20 : Int32)), (.ref wA), (.int c)])) tt
                                              refine XS.iconst X118.here hx rfl (hb hby d1_24) ?_
                                              show Steps p.tables e below (T118.setTop (mkF m 25 #[.val (.int c), .val (.int (20 : Int32))] [(.int (1 : Int32)), (.int (20 : Int32)), (.ref wA), (.int c)])) tt
                                              refine XS.iadd X118.here hx rfl (hb hby d1_25) rfl ?_
                                              show Steps p.tables e below (T118.setTop (mkF m 26 #[.val (.int c), .val (.int (20 : Int32))] [(.int (21 : Int32)), (.ref wA), (.int c)])) tt
                                              refine X118.iaload hx (j := (21 : Int32)) (v := (.int (65528 : Int32))) (by rw [e118]; exact Ar119.1) (State.isArrayOf_alike hZ.alike Ar119.2.1) Ar119.2.2 hin119 hat119 (g := (mkF m 26 #[.val (.int c), .val (.int (20 : Int32))] [(.int (21 : Int32)), (.ref wA), (.int c)])) rfl rfl (hb hby d1_26) _ ?_
                                              exact kk
                                            by_cases hc119 : (65528 : Int32) < c
                                            · obtain ⟨T122, X122, e122, st122⟩ := getS2 X118 hx hZ hown (host := "") (Or.inl (hw _ (List.mem_of_getElem? (i := 4) rfl))) Via.refl e118 S_A (g := (mkF m 3 #[.val (.int c), .val (.int (22 : Int32))] [(.int (22 : Int32))])) rfl (hb hby d1_3)
                                              obtain ⟨cl123, Ar123, q123, S123, P123, H123, G123⟩ := id V_A
                                              obtain ⟨T124, X124, e124, st124⟩ := getS2 X122 hx hZ hown (host := "") (Or.inl (hw _ (List.mem_of_getElem? (i := 4) rfl))) Via.refl e122 S_A (g := (mkF m 10 #[.val (.int c), .val (.int (22 : Int32))] [])) rfl (hb hby d1_10)
                                              obtain ⟨cl125, Ar125, q125, S125, P125, H125, G125⟩ := id V_A
                                              have hin125 : ¬ ((22 : Int32) < 0 ∨ cl125.slots.size ≤ ((22 : Int32)).toNatClampNeg) := inb_of S125 ⟨by decide, by decide⟩
                                              have hat125 : cl125.slots[((22 : Int32)).toNatClampNeg]? = some (.int (917504 : Int32)) := Has.at H125 hin125 rfl
                                              have k127 : ∀ tt, Steps p.tables e below (T124.setTop (mkF m 16 #[.val (.int c), .val (.int (22 : Int32))] [(.int c), (.int (917504 : Int32))])) tt → Steps p.tables e below (s₁.setTop (entryFrame m #[(.int c)] 2)) tt := by
                                                intro tt kk
                                                refine k121 tt ?_
                                                show Steps p.tables e below (T118.setTop (mkF m 27 #[.val (.int c), .val (.int (20 : Int32))] [(.int (65528 : Int32)), (.int c)])) tt
                                                refine XS.icmpYes X118.here hx rfl (pc0 := 27) (pc' := 32) rfl (hb hby d1_27) rfl (tlt (hc119 : (65528 : Int32) < c)).2.2.1 (by decide) (by decide) ?_
                                                show Steps p.tables e below (T118.setTop (mkF m 32 #[.val (.int c), .val (.int (20 : Int32))] [])) tt
                                                refine XS.iinc X118.here hx rfl (hb hby d1_32) rfl (l' := #[.val (.int c), .val (.int (22 : Int32))]) rfl ?_
                                                show Steps p.tables e below (T118.setTop (mkF m 35 #[.val (.int c), .val (.int (22 : Int32))] [])) tt
                                                refine XS.goto X118.here hx rfl (pc0 := 35) (pc' := 2) rfl (hb hby d1_35) (by decide) (by decide) ?_
                                                show Steps p.tables e below (T118.setTop (mkF m 2 #[.val (.int c), .val (.int (22 : Int32))] [])) tt
                                                refine XS.iloadN X118.here hx rfl (hb hby d1_2) rfl ?_
                                                show Steps p.tables e below (T118.setTop (mkF m 3 #[.val (.int c), .val (.int (22 : Int32))] [(.int (22 : Int32))])) tt
                                                refine st122 _ ?_
                                                show Steps p.tables e below (T122.setTop (mkF m 6 #[.val (.int c), .val (.int (22 : Int32))] [(.ref wA), (.int (22 : Int32))])) tt
                                                refine X122.arraylength hx (by rw [e122]; exact Ar123.1) (State.isArrayOf_alike hZ.alike Ar123.2.1) (g := (mkF m 6 #[.val (.int c), .val (.int (22 : Int32))] [(.ref wA), (.int (22 : Int32))])) rfl rfl (hb hby d1_6) _ ?_
                                                rw [len_of S123 P123]
                                                show Steps p.tables e below (T122.setTop (mkF m 7 #[.val (.int c), .val (.int (22 : Int32))] [(.int (28 : Int32)), (.int (22 : Int32))])) tt
                                                refine XS.icmpNo X122.here hx rfl (hb hby d1_7) rfl (tlt (by decide : (22 : Int32) < (28 : Int32))).2.1 ?_
                                                show Steps p.tables e below (T122.setTop (mkF m 10 #[.val (.int c), .val (.int (22 : Int32))] [])) tt
                                                refine st124 _ ?_
                                                show Steps p.tables e below (T124.setTop (mkF m 13 #[.val (.int c), .val (.int (22 : Int32))] [(.ref wA)])) tt
                                                refine XS.iloadN X124.here hx rfl (hb hby d1_13) rfl ?_
                                                show Steps p.tables e below (T124.setTop (mkF m 14 #[.val (.int c), .val (.int (22 : Int32))] [(.int (22 : Int32)), (.ref wA)])) tt
                                                refine X124.iaload hx (j := (22 : Int32)) (v := (.int (917504 : Int32))) (by rw [e124]; exact Ar125.1) (State.isArrayOf_alike hZ.alike Ar125.2.1) Ar125.2.2 hin125 hat125 (g := (mkF m 14 #[.val (.int c), .val (.int (22 : Int32))] [(.int (22 : Int32)), (.ref wA)])) rfl rfl (hb hby d1_14) _ ?_
                                                show Steps p.tables e below (T124.setTop (mkF m 15 #[.val (.int c), .val (.int (22 : Int32))] [(.int (917504 : Int32))])) tt
                                                refine XS.iloadN X124.here hx rfl (hb hby d1_15) rfl ?_
                                                exact kk
                                              by_cases hc125 : c < (917504 : Int32)
                                              · have k128 : ∀ tt, Steps p.tables e below (T124.setTop (mkF m 39 #[.val (.int c), .val (.int (22 : Int32))] [(.int (0 : Int32))])) tt → Steps p.tables e below (s₁.setTop (entryFrame m #[(.int c)] 2)) tt := by
                                                  intro tt kk
                                                  refine k127 tt ?_
                                                  show Steps p.tables e below (T124.setTop (mkF m 16 #[.val (.int c), .val (.int (22 : Int32))] [(.int c), (.int (917504 : Int32))])) tt
                                                  refine XS.icmpYes X124.here hx rfl (pc0 := 16) (pc' := 38) rfl (hb hby d1_16) rfl (tlt (hc125 : c < (917504 : Int32))).2.2.1 (by decide) (by decide) ?_
                                                  show Steps p.tables e below (T124.setTop (mkF m 38 #[.val (.int c), .val (.int (22 : Int32))] [])) tt
                                                  refine XS.iconst X124.here hx rfl (hb hby d1_38) ?_
                                                  exact kk
                                                obtain ⟨fs, hr, hrun, hended, hW, hsame⟩ := X124.leave (v := some (.int (0 : Int32))) (fun hq => by rw [Bd.returns] at hq; cases hq)
                                                refine ⟨_, _, k128 _ ?_, hrun, hended, _, _, rfl, ?_, ⟨_, rfl⟩, hW, hsame.mono (by decide) (by decide)⟩
                                                · show Steps p.tables e below (T124.setTop (mkF m 39 #[.val (.int c), .val (.int (22 : Int32))] [(.int (0 : Int32))])) _
                                                  exact retN X124 hx (t := .boolean) Bd.returns (by simp) (hb hby d1_39) hr
                                                · show (fun (v : Option Value) (h : Heap) (L : List Loc) => v = some (.int (own_bl c)) ∧ Fr n0 L ∧ h = h0) _ T124.heap _
                                                  rw [e124]
                                                  dsimp only
                                                  refine ⟨?_, N0, rfl⟩
                                                  have z21 := own_gtI (n := 65528) rfl hc119
                                                  have z22 := own_ltI (n := 917504) rfl hc125
                                                  unfold own_bl
                                                  rw [if_neg (show ¬ own_P c.toInt by unfold own_P; omega)]
                                              · obtain ⟨T129, X129, e129, st129⟩ := getS2 X124 hx hZ hown (host := "") (Or.inl (hw _ (List.mem_of_getElem? (i := 4) rfl))) Via.refl e124 S_A (g := (mkF m 20 #[.val (.int c), .val (.int (22 : Int32))] [(.int c)])) rfl (hb hby d1_20)
                                                obtain ⟨cl130, Ar130, q130, S130, P130, H130, G130⟩ := id V_A
                                                have hin130 : ¬ ((23 : Int32) < 0 ∨ cl130.slots.size ≤ ((23 : Int32)).toNatClampNeg) := inb_of S130 ⟨by decide, by decide⟩
                                                have hat130 : cl130.slots[((23 : Int32)).toNatClampNeg]? = some (.int (917504 : Int32)) := Has.at H130 hin130 rfl
                                                have k132 : ∀ tt, Steps p.tables e below (T129.setTop (mkF m 27 #[.val (.int c), .val (.int (22 : Int32))] [(.int (917504 : Int32)), (.int c)])) tt → Steps p.tables e below (s₁.setTop (entryFrame m #[(.int c)] 2)) tt := by
                                                  intro tt kk
                                                  refine k127 tt ?_
                                                  show Steps p.tables e below (T124.setTop (mkF m 16 #[.val (.int c), .val (.int (22 : Int32))] [(.int c), (.int (917504 : Int32))])) tt
                                                  refine XS.icmpNo X124.here hx rfl (hb hby d1_16) rfl (flt (hc125 : ¬ (c < (917504 : Int32)))).2.2.1 ?_
                                                  show Steps p.tables e below (T124.setTop (mkF m 19 #[.val (.int c), .val (.int (22 : Int32))] [])) tt
                                                  refine XS.iloadN X124.here hx rfl (hb hby d1_19) rfl ?_
                                                  show Steps p.tables e below (T124.setTop (mkF m 20 #[.val (.int c), .val (.int (22 : Int32))] [(.int c)])) tt
                                                  refine st129 _ ?_
                                                  show Steps p.tables e below (T129.setTop (mkF m 23 #[.val (.int c), .val (.int (22 : Int32))] [(.ref wA), (.int c)])) tt
                                                  refine XS.iloadN X129.here hx rfl (hb hby d1_23) rfl ?_
                                                  show Steps p.tables e below (T129.setTop (mkF m 24 #[.val (.int c), .val (.int (22 : Int32))] [(.int (22 : Int32)), (.ref wA), (.int c)])) tt
                                                  refine XS.iconst X129.here hx rfl (hb hby d1_24) ?_
                                                  show Steps p.tables e below (T129.setTop (mkF m 25 #[.val (.int c), .val (.int (22 : Int32))] [(.int (1 : Int32)), (.int (22 : Int32)), (.ref wA), (.int c)])) tt
                                                  refine XS.iadd X129.here hx rfl (hb hby d1_25) rfl ?_
                                                  show Steps p.tables e below (T129.setTop (mkF m 26 #[.val (.int c), .val (.int (22 : Int32))] [(.int (23 : Int32)), (.ref wA), (.int c)])) tt
                                                  refine X129.iaload hx (j := (23 : Int32)) (v := (.int (917504 : Int32))) (by rw [e129]; exact Ar130.1) (State.isArrayOf_alike hZ.alike Ar130.2.1) Ar130.2.2 hin130 hat130 (g := (mkF m 26 #[.val (.int c), .val (.int (22 : Int32))] [(.int (23 : Int32)), (.ref wA), (.int c)])) rfl rfl (hb hby d1_26) _ ?_
                                                  exact kk
                                                by_cases hc130 : (917504 : Int32) < c
                                                · obtain ⟨T133, X133, e133, st133⟩ := getS2 X129 hx hZ hown (host := "") (Or.inl (hw _ (List.mem_of_getElem? (i := 4) rfl))) Via.refl e129 S_A (g := (mkF m 3 #[.val (.int c), .val (.int (24 : Int32))] [(.int (24 : Int32))])) rfl (hb hby d1_3)
                                                  obtain ⟨cl134, Ar134, q134, S134, P134, H134, G134⟩ := id V_A
                                                  obtain ⟨T135, X135, e135, st135⟩ := getS2 X133 hx hZ hown (host := "") (Or.inl (hw _ (List.mem_of_getElem? (i := 4) rfl))) Via.refl e133 S_A (g := (mkF m 10 #[.val (.int c), .val (.int (24 : Int32))] [])) rfl (hb hby d1_10)
                                                  obtain ⟨cl136, Ar136, q136, S136, P136, H136, G136⟩ := id V_A
                                                  have hin136 : ¬ ((24 : Int32) < 0 ∨ cl136.slots.size ≤ ((24 : Int32)).toNatClampNeg) := inb_of S136 ⟨by decide, by decide⟩
                                                  have hat136 : cl136.slots[((24 : Int32)).toNatClampNeg]? = some (.int (917506 : Int32)) := Has.at H136 hin136 rfl
                                                  have k138 : ∀ tt, Steps p.tables e below (T135.setTop (mkF m 16 #[.val (.int c), .val (.int (24 : Int32))] [(.int c), (.int (917506 : Int32))])) tt → Steps p.tables e below (s₁.setTop (entryFrame m #[(.int c)] 2)) tt := by
                                                    intro tt kk
                                                    refine k132 tt ?_
                                                    show Steps p.tables e below (T129.setTop (mkF m 27 #[.val (.int c), .val (.int (22 : Int32))] [(.int (917504 : Int32)), (.int c)])) tt
                                                    refine XS.icmpYes X129.here hx rfl (pc0 := 27) (pc' := 32) rfl (hb hby d1_27) rfl (tlt (hc130 : (917504 : Int32) < c)).2.2.1 (by decide) (by decide) ?_
                                                    show Steps p.tables e below (T129.setTop (mkF m 32 #[.val (.int c), .val (.int (22 : Int32))] [])) tt
                                                    refine XS.iinc X129.here hx rfl (hb hby d1_32) rfl (l' := #[.val (.int c), .val (.int (24 : Int32))]) rfl ?_
                                                    show Steps p.tables e below (T129.setTop (mkF m 35 #[.val (.int c), .val (.int (24 : Int32))] [])) tt
                                                    refine XS.goto X129.here hx rfl (pc0 := 35) (pc' := 2) rfl (hb hby d1_35) (by decide) (by decide) ?_
                                                    show Steps p.tables e below (T129.setTop (mkF m 2 #[.val (.int c), .val (.int (24 : Int32))] [])) tt
                                                    refine XS.iloadN X129.here hx rfl (hb hby d1_2) rfl ?_
                                                    show Steps p.tables e below (T129.setTop (mkF m 3 #[.val (.int c), .val (.int (24 : Int32))] [(.int (24 : Int32))])) tt
                                                    refine st133 _ ?_
                                                    show Steps p.tables e below (T133.setTop (mkF m 6 #[.val (.int c), .val (.int (24 : Int32))] [(.ref wA), (.int (24 : Int32))])) tt
                                                    refine X133.arraylength hx (by rw [e133]; exact Ar134.1) (State.isArrayOf_alike hZ.alike Ar134.2.1) (g := (mkF m 6 #[.val (.int c), .val (.int (24 : Int32))] [(.ref wA), (.int (24 : Int32))])) rfl rfl (hb hby d1_6) _ ?_
                                                    rw [len_of S134 P134]
                                                    show Steps p.tables e below (T133.setTop (mkF m 7 #[.val (.int c), .val (.int (24 : Int32))] [(.int (28 : Int32)), (.int (24 : Int32))])) tt
                                                    refine XS.icmpNo X133.here hx rfl (hb hby d1_7) rfl (tlt (by decide : (24 : Int32) < (28 : Int32))).2.1 ?_
                                                    show Steps p.tables e below (T133.setTop (mkF m 10 #[.val (.int c), .val (.int (24 : Int32))] [])) tt
                                                    refine st135 _ ?_
                                                    show Steps p.tables e below (T135.setTop (mkF m 13 #[.val (.int c), .val (.int (24 : Int32))] [(.ref wA)])) tt
                                                    refine XS.iloadN X135.here hx rfl (hb hby d1_13) rfl ?_
                                                    show Steps p.tables e below (T135.setTop (mkF m 14 #[.val (.int c), .val (.int (24 : Int32))] [(.int (24 : Int32)), (.ref wA)])) tt
                                                    refine X135.iaload hx (j := (24 : Int32)) (v := (.int (917506 : Int32))) (by rw [e135]; exact Ar136.1) (State.isArrayOf_alike hZ.alike Ar136.2.1) Ar136.2.2 hin136 hat136 (g := (mkF m 14 #[.val (.int c), .val (.int (24 : Int32))] [(.int (24 : Int32)), (.ref wA)])) rfl rfl (hb hby d1_14) _ ?_
                                                    show Steps p.tables e below (T135.setTop (mkF m 15 #[.val (.int c), .val (.int (24 : Int32))] [(.int (917506 : Int32))])) tt
                                                    refine XS.iloadN X135.here hx rfl (hb hby d1_15) rfl ?_
                                                    exact kk
                                                  by_cases hc136 : c < (917506 : Int32)
                                                  · have k139 : ∀ tt, Steps p.tables e below (T135.setTop (mkF m 39 #[.val (.int c), .val (.int (24 : Int32))] [(.int (0 : Int32))])) tt → Steps p.tables e below (s₁.setTop (entryFrame m #[(.int c)] 2)) tt := by
                                                      intro tt kk
                                                      refine k138 tt ?_
                                                      show Steps p.tables e below (T135.setTop (mkF m 16 #[.val (.int c), .val (.int (24 : Int32))] [(.int c), (.int (917506 : Int32))])) tt
                                                      refine XS.icmpYes X135.here hx rfl (pc0 := 16) (pc' := 38) rfl (hb hby d1_16) rfl (tlt (hc136 : c < (917506 : Int32))).2.2.1 (by decide) (by decide) ?_
                                                      show Steps p.tables e below (T135.setTop (mkF m 38 #[.val (.int c), .val (.int (24 : Int32))] [])) tt
                                                      refine XS.iconst X135.here hx rfl (hb hby d1_38) ?_
                                                      exact kk
                                                    obtain ⟨fs, hr, hrun, hended, hW, hsame⟩ := X135.leave (v := some (.int (0 : Int32))) (fun hq => by rw [Bd.returns] at hq; cases hq)
                                                    refine ⟨_, _, k139 _ ?_, hrun, hended, _, _, rfl, ?_, ⟨_, rfl⟩, hW, hsame.mono (by decide) (by decide)⟩
                                                    · show Steps p.tables e below (T135.setTop (mkF m 39 #[.val (.int c), .val (.int (24 : Int32))] [(.int (0 : Int32))])) _
                                                      exact retN X135 hx (t := .boolean) Bd.returns (by simp) (hb hby d1_39) hr
                                                    · show (fun (v : Option Value) (h : Heap) (L : List Loc) => v = some (.int (own_bl c)) ∧ Fr n0 L ∧ h = h0) _ T135.heap _
                                                      rw [e135]
                                                      dsimp only
                                                      refine ⟨?_, N0, rfl⟩
                                                      have z23 := own_gtI (n := 917504) rfl hc130
                                                      have z24 := own_ltI (n := 917506) rfl hc136
                                                      unfold own_bl
                                                      rw [if_neg (show ¬ own_P c.toInt by unfold own_P; omega)]
                                                  · obtain ⟨T140, X140, e140, st140⟩ := getS2 X135 hx hZ hown (host := "") (Or.inl (hw _ (List.mem_of_getElem? (i := 4) rfl))) Via.refl e135 S_A (g := (mkF m 20 #[.val (.int c), .val (.int (24 : Int32))] [(.int c)])) rfl (hb hby d1_20)
                                                    obtain ⟨cl141, Ar141, q141, S141, P141, H141, G141⟩ := id V_A
                                                    have hin141 : ¬ ((25 : Int32) < 0 ∨ cl141.slots.size ≤ ((25 : Int32)).toNatClampNeg) := inb_of S141 ⟨by decide, by decide⟩
                                                    have hat141 : cl141.slots[((25 : Int32)).toNatClampNeg]? = some (.int (917535 : Int32)) := Has.at H141 hin141 rfl
                                                    have k143 : ∀ tt, Steps p.tables e below (T140.setTop (mkF m 27 #[.val (.int c), .val (.int (24 : Int32))] [(.int (917535 : Int32)), (.int c)])) tt → Steps p.tables e below (s₁.setTop (entryFrame m #[(.int c)] 2)) tt := by
                                                      intro tt kk
                                                      refine k138 tt ?_
                                                      show Steps p.tables e below (T135.setTop (mkF m 16 #[.val (.int c), .val (.int (24 : Int32))] [(.int c), (.int (917506 : Int32))])) tt
                                                      refine XS.icmpNo X135.here hx rfl (hb hby d1_16) rfl (flt (hc136 : ¬ (c < (917506 : Int32)))).2.2.1 ?_
                                                      show Steps p.tables e below (T135.setTop (mkF m 19 #[.val (.int c), .val (.int (24 : Int32))] [])) tt
                                                      refine XS.iloadN X135.here hx rfl (hb hby d1_19) rfl ?_
                                                      show Steps p.tables e below (T135.setTop (mkF m 20 #[.val (.int c), .val (.int (24 : Int32))] [(.int c)])) tt
                                                      refine st140 _ ?_
                                                      show Steps p.tables e below (T140.setTop (mkF m 23 #[.val (.int c), .val (.int (24 : Int32))] [(.ref wA), (.int c)])) tt
                                                      refine XS.iloadN X140.here hx rfl (hb hby d1_23) rfl ?_
                                                      show Steps p.tables e below (T140.setTop (mkF m 24 #[.val (.int c), .val (.int (24 : Int32))] [(.int (24 : Int32)), (.ref wA), (.int c)])) tt
                                                      refine XS.iconst X140.here hx rfl (hb hby d1_24) ?_
                                                      show Steps p.tables e below (T140.setTop (mkF m 25 #[.val (.int c), .val (.int (24 : Int32))] [(.int (1 : Int32)), (.int (24 : Int32)), (.ref wA), (.int c)])) tt
                                                      refine XS.iadd X140.here hx rfl (hb hby d1_25) rfl ?_
                                                      show Steps p.tables e below (T140.setTop (mkF m 26 #[.val (.int c), .val (.int (24 : Int32))] [(.int (25 : Int32)), (.ref wA), (.int c)])) tt
                                                      refine X140.iaload hx (j := (25 : Int32)) (v := (.int (917535 : Int32))) (by rw [e140]; exact Ar141.1) (State.isArrayOf_alike hZ.alike Ar141.2.1) Ar141.2.2 hin141 hat141 (g := (mkF m 26 #[.val (.int c), .val (.int (24 : Int32))] [(.int (25 : Int32)), (.ref wA), (.int c)])) rfl rfl (hb hby d1_26) _ ?_
                                                      exact kk
                                                    by_cases hc141 : (917535 : Int32) < c
                                                    · obtain ⟨T144, X144, e144, st144⟩ := getS2 X140 hx hZ hown (host := "") (Or.inl (hw _ (List.mem_of_getElem? (i := 4) rfl))) Via.refl e140 S_A (g := (mkF m 3 #[.val (.int c), .val (.int (26 : Int32))] [(.int (26 : Int32))])) rfl (hb hby d1_3)
                                                      obtain ⟨cl145, Ar145, q145, S145, P145, H145, G145⟩ := id V_A
                                                      obtain ⟨T146, X146, e146, st146⟩ := getS2 X144 hx hZ hown (host := "") (Or.inl (hw _ (List.mem_of_getElem? (i := 4) rfl))) Via.refl e144 S_A (g := (mkF m 10 #[.val (.int c), .val (.int (26 : Int32))] [])) rfl (hb hby d1_10)
                                                      obtain ⟨cl147, Ar147, q147, S147, P147, H147, G147⟩ := id V_A
                                                      have hin147 : ¬ ((26 : Int32) < 0 ∨ cl147.slots.size ≤ ((26 : Int32)).toNatClampNeg) := inb_of S147 ⟨by decide, by decide⟩
                                                      have hat147 : cl147.slots[((26 : Int32)).toNatClampNeg]? = some (.int (917632 : Int32)) := Has.at H147 hin147 rfl
                                                      have k149 : ∀ tt, Steps p.tables e below (T146.setTop (mkF m 16 #[.val (.int c), .val (.int (26 : Int32))] [(.int c), (.int (917632 : Int32))])) tt → Steps p.tables e below (s₁.setTop (entryFrame m #[(.int c)] 2)) tt := by
                                                        intro tt kk
                                                        refine k143 tt ?_
                                                        show Steps p.tables e below (T140.setTop (mkF m 27 #[.val (.int c), .val (.int (24 : Int32))] [(.int (917535 : Int32)), (.int c)])) tt
                                                        refine XS.icmpYes X140.here hx rfl (pc0 := 27) (pc' := 32) rfl (hb hby d1_27) rfl (tlt (hc141 : (917535 : Int32) < c)).2.2.1 (by decide) (by decide) ?_
                                                        show Steps p.tables e below (T140.setTop (mkF m 32 #[.val (.int c), .val (.int (24 : Int32))] [])) tt
                                                        refine XS.iinc X140.here hx rfl (hb hby d1_32) rfl (l' := #[.val (.int c), .val (.int (26 : Int32))]) rfl ?_
                                                        show Steps p.tables e below (T140.setTop (mkF m 35 #[.val (.int c), .val (.int (26 : Int32))] [])) tt
                                                        refine XS.goto X140.here hx rfl (pc0 := 35) (pc' := 2) rfl (hb hby d1_35) (by decide) (by decide) ?_
                                                        show Steps p.tables e below (T140.setTop (mkF m 2 #[.val (.int c), .val (.int (26 : Int32))] [])) tt
                                                        refine XS.iloadN X140.here hx rfl (hb hby d1_2) rfl ?_
                                                        show Steps p.tables e below (T140.setTop (mkF m 3 #[.val (.int c), .val (.int (26 : Int32))] [(.int (26 : Int32))])) tt
                                                        refine st144 _ ?_
                                                        show Steps p.tables e below (T144.setTop (mkF m 6 #[.val (.int c), .val (.int (26 : Int32))] [(.ref wA), (.int (26 : Int32))])) tt
                                                        refine X144.arraylength hx (by rw [e144]; exact Ar145.1) (State.isArrayOf_alike hZ.alike Ar145.2.1) (g := (mkF m 6 #[.val (.int c), .val (.int (26 : Int32))] [(.ref wA), (.int (26 : Int32))])) rfl rfl (hb hby d1_6) _ ?_
                                                        rw [len_of S145 P145]
                                                        show Steps p.tables e below (T144.setTop (mkF m 7 #[.val (.int c), .val (.int (26 : Int32))] [(.int (28 : Int32)), (.int (26 : Int32))])) tt
                                                        refine XS.icmpNo X144.here hx rfl (hb hby d1_7) rfl (tlt (by decide : (26 : Int32) < (28 : Int32))).2.1 ?_
                                                        show Steps p.tables e below (T144.setTop (mkF m 10 #[.val (.int c), .val (.int (26 : Int32))] [])) tt
                                                        refine st146 _ ?_
                                                        show Steps p.tables e below (T146.setTop (mkF m 13 #[.val (.int c), .val (.int (26 : Int32))] [(.ref wA)])) tt
                                                        refine XS.iloadN X146.here hx rfl (hb hby d1_13) rfl ?_
                                                        show Steps p.tables e below (T146.setTop (mkF m 14 #[.val (.int c), .val (.int (26 : Int32))] [(.int (26 : Int32)), (.ref wA)])) tt
                                                        refine X146.iaload hx (j := (26 : Int32)) (v := (.int (917632 : Int32))) (by rw [e146]; exact Ar147.1) (State.isArrayOf_alike hZ.alike Ar147.2.1) Ar147.2.2 hin147 hat147 (g := (mkF m 14 #[.val (.int c), .val (.int (26 : Int32))] [(.int (26 : Int32)), (.ref wA)])) rfl rfl (hb hby d1_14) _ ?_
                                                        show Steps p.tables e below (T146.setTop (mkF m 15 #[.val (.int c), .val (.int (26 : Int32))] [(.int (917632 : Int32))])) tt
                                                        refine XS.iloadN X146.here hx rfl (hb hby d1_15) rfl ?_
                                                        exact kk
                                                      by_cases hc147 : c < (917632 : Int32)
                                                      · have k150 : ∀ tt, Steps p.tables e below (T146.setTop (mkF m 39 #[.val (.int c), .val (.int (26 : Int32))] [(.int (0 : Int32))])) tt → Steps p.tables e below (s₁.setTop (entryFrame m #[(.int c)] 2)) tt := by
                                                          intro tt kk
                                                          refine k149 tt ?_
                                                          show Steps p.tables e below (T146.setTop (mkF m 16 #[.val (.int c), .val (.int (26 : Int32))] [(.int c), (.int (917632 : Int32))])) tt
                                                          refine XS.icmpYes X146.here hx rfl (pc0 := 16) (pc' := 38) rfl (hb hby d1_16) rfl (tlt (hc147 : c < (917632 : Int32))).2.2.1 (by decide) (by decide) ?_
                                                          show Steps p.tables e below (T146.setTop (mkF m 38 #[.val (.int c), .val (.int (26 : Int32))] [])) tt
                                                          refine XS.iconst X146.here hx rfl (hb hby d1_38) ?_
                                                          exact kk
                                                        obtain ⟨fs, hr, hrun, hended, hW, hsame⟩ := X146.leave (v := some (.int (0 : Int32))) (fun hq => by rw [Bd.returns] at hq; cases hq)
                                                        refine ⟨_, _, k150 _ ?_, hrun, hended, _, _, rfl, ?_, ⟨_, rfl⟩, hW, hsame.mono (by decide) (by decide)⟩
                                                        · show Steps p.tables e below (T146.setTop (mkF m 39 #[.val (.int c), .val (.int (26 : Int32))] [(.int (0 : Int32))])) _
                                                          exact retN X146 hx (t := .boolean) Bd.returns (by simp) (hb hby d1_39) hr
                                                        · show (fun (v : Option Value) (h : Heap) (L : List Loc) => v = some (.int (own_bl c)) ∧ Fr n0 L ∧ h = h0) _ T146.heap _
                                                          rw [e146]
                                                          dsimp only
                                                          refine ⟨?_, N0, rfl⟩
                                                          have z25 := own_gtI (n := 917535) rfl hc141
                                                          have z26 := own_ltI (n := 917632) rfl hc147
                                                          unfold own_bl
                                                          rw [if_neg (show ¬ own_P c.toInt by unfold own_P; omega)]
                                                      · obtain ⟨T151, X151, e151, st151⟩ := getS2 X146 hx hZ hown (host := "") (Or.inl (hw _ (List.mem_of_getElem? (i := 4) rfl))) Via.refl e146 S_A (g := (mkF m 20 #[.val (.int c), .val (.int (26 : Int32))] [(.int c)])) rfl (hb hby d1_20)
                                                        obtain ⟨cl152, Ar152, q152, S152, P152, H152, G152⟩ := id V_A
                                                        have hin152 : ¬ ((27 : Int32) < 0 ∨ cl152.slots.size ≤ ((27 : Int32)).toNatClampNeg) := inb_of S152 ⟨by decide, by decide⟩
                                                        have hat152 : cl152.slots[((27 : Int32)).toNatClampNeg]? = some (.int (921599 : Int32)) := Has.at H152 hin152 rfl
                                                        have k154 : ∀ tt, Steps p.tables e below (T151.setTop (mkF m 27 #[.val (.int c), .val (.int (26 : Int32))] [(.int (921599 : Int32)), (.int c)])) tt → Steps p.tables e below (s₁.setTop (entryFrame m #[(.int c)] 2)) tt := by
                                                          intro tt kk
                                                          refine k149 tt ?_
                                                          show Steps p.tables e below (T146.setTop (mkF m 16 #[.val (.int c), .val (.int (26 : Int32))] [(.int c), (.int (917632 : Int32))])) tt
                                                          refine XS.icmpNo X146.here hx rfl (hb hby d1_16) rfl (flt (hc147 : ¬ (c < (917632 : Int32)))).2.2.1 ?_
                                                          show Steps p.tables e below (T146.setTop (mkF m 19 #[.val (.int c), .val (.int (26 : Int32))] [])) tt
                                                          refine XS.iloadN X146.here hx rfl (hb hby d1_19) rfl ?_
                                                          show Steps p.tables e below (T146.setTop (mkF m 20 #[.val (.int c), .val (.int (26 : Int32))] [(.int c)])) tt
                                                          refine st151 _ ?_
                                                          show Steps p.tables e below (T151.setTop (mkF m 23 #[.val (.int c), .val (.int (26 : Int32))] [(.ref wA), (.int c)])) tt
                                                          refine XS.iloadN X151.here hx rfl (hb hby d1_23) rfl ?_
                                                          show Steps p.tables e below (T151.setTop (mkF m 24 #[.val (.int c), .val (.int (26 : Int32))] [(.int (26 : Int32)), (.ref wA), (.int c)])) tt
                                                          refine XS.iconst X151.here hx rfl (hb hby d1_24) ?_
                                                          show Steps p.tables e below (T151.setTop (mkF m 25 #[.val (.int c), .val (.int (26 : Int32))] [(.int (1 : Int32)), (.int (26 : Int32)), (.ref wA), (.int c)])) tt
                                                          refine XS.iadd X151.here hx rfl (hb hby d1_25) rfl ?_
                                                          show Steps p.tables e below (T151.setTop (mkF m 26 #[.val (.int c), .val (.int (26 : Int32))] [(.int (27 : Int32)), (.ref wA), (.int c)])) tt
                                                          refine X151.iaload hx (j := (27 : Int32)) (v := (.int (921599 : Int32))) (by rw [e151]; exact Ar152.1) (State.isArrayOf_alike hZ.alike Ar152.2.1) Ar152.2.2 hin152 hat152 (g := (mkF m 26 #[.val (.int c), .val (.int (26 : Int32))] [(.int (27 : Int32)), (.ref wA), (.int c)])) rfl rfl (hb hby d1_26) _ ?_
                                                          exact kk
                                                        by_cases hc152 : (921599 : Int32) < c
                                                        · obtain ⟨T155, X155, e155, st155⟩ := getS2 X151 hx hZ hown (host := "") (Or.inl (hw _ (List.mem_of_getElem? (i := 4) rfl))) Via.refl e151 S_A (g := (mkF m 3 #[.val (.int c), .val (.int (28 : Int32))] [(.int (28 : Int32))])) rfl (hb hby d1_3)
                                                          obtain ⟨cl156, Ar156, q156, S156, P156, H156, G156⟩ := id V_A
                                                          have k157 : ∀ tt, Steps p.tables e below (T155.setTop (mkF m 39 #[.val (.int c), .val (.int (28 : Int32))] [(.int (0 : Int32))])) tt → Steps p.tables e below (s₁.setTop (entryFrame m #[(.int c)] 2)) tt := by
                                                            intro tt kk
                                                            refine k154 tt ?_
                                                            show Steps p.tables e below (T151.setTop (mkF m 27 #[.val (.int c), .val (.int (26 : Int32))] [(.int (921599 : Int32)), (.int c)])) tt
                                                            refine XS.icmpYes X151.here hx rfl (pc0 := 27) (pc' := 32) rfl (hb hby d1_27) rfl (tlt (hc152 : (921599 : Int32) < c)).2.2.1 (by decide) (by decide) ?_
                                                            show Steps p.tables e below (T151.setTop (mkF m 32 #[.val (.int c), .val (.int (26 : Int32))] [])) tt
                                                            refine XS.iinc X151.here hx rfl (hb hby d1_32) rfl (l' := #[.val (.int c), .val (.int (28 : Int32))]) rfl ?_
                                                            show Steps p.tables e below (T151.setTop (mkF m 35 #[.val (.int c), .val (.int (28 : Int32))] [])) tt
                                                            refine XS.goto X151.here hx rfl (pc0 := 35) (pc' := 2) rfl (hb hby d1_35) (by decide) (by decide) ?_
                                                            show Steps p.tables e below (T151.setTop (mkF m 2 #[.val (.int c), .val (.int (28 : Int32))] [])) tt
                                                            refine XS.iloadN X151.here hx rfl (hb hby d1_2) rfl ?_
                                                            show Steps p.tables e below (T151.setTop (mkF m 3 #[.val (.int c), .val (.int (28 : Int32))] [(.int (28 : Int32))])) tt
                                                            refine st155 _ ?_
                                                            show Steps p.tables e below (T155.setTop (mkF m 6 #[.val (.int c), .val (.int (28 : Int32))] [(.ref wA), (.int (28 : Int32))])) tt
                                                            refine X155.arraylength hx (by rw [e155]; exact Ar156.1) (State.isArrayOf_alike hZ.alike Ar156.2.1) (g := (mkF m 6 #[.val (.int c), .val (.int (28 : Int32))] [(.ref wA), (.int (28 : Int32))])) rfl rfl (hb hby d1_6) _ ?_
                                                            rw [len_of S156 P156]
                                                            show Steps p.tables e below (T155.setTop (mkF m 7 #[.val (.int c), .val (.int (28 : Int32))] [(.int (28 : Int32)), (.int (28 : Int32))])) tt
                                                            refine XS.icmpYes X155.here hx rfl (pc0 := 7) (pc' := 38) rfl (hb hby d1_7) rfl (flt (by decide : ¬ ((28 : Int32) < (28 : Int32)))).2.1 (by decide) (by decide) ?_
                                                            show Steps p.tables e below (T155.setTop (mkF m 38 #[.val (.int c), .val (.int (28 : Int32))] [])) tt
                                                            refine XS.iconst X155.here hx rfl (hb hby d1_38) ?_
                                                            exact kk
                                                          obtain ⟨fs, hr, hrun, hended, hW, hsame⟩ := X155.leave (v := some (.int (0 : Int32))) (fun hq => by rw [Bd.returns] at hq; cases hq)
                                                          refine ⟨_, _, k157 _ ?_, hrun, hended, _, _, rfl, ?_, ⟨_, rfl⟩, hW, hsame.mono (by decide) (by decide)⟩
                                                          · show Steps p.tables e below (T155.setTop (mkF m 39 #[.val (.int c), .val (.int (28 : Int32))] [(.int (0 : Int32))])) _
                                                            exact retN X155 hx (t := .boolean) Bd.returns (by simp) (hb hby d1_39) hr
                                                          · show (fun (v : Option Value) (h : Heap) (L : List Loc) => v = some (.int (own_bl c)) ∧ Fr n0 L ∧ h = h0) _ T155.heap _
                                                            rw [e155]
                                                            dsimp only
                                                            refine ⟨?_, N0, rfl⟩
                                                            have z26 := own_nltI (n := 917632) rfl hc147
                                                            have z27 := own_gtI (n := 921599) rfl hc152
                                                            unfold own_bl
                                                            rw [if_neg (show ¬ own_P c.toInt by unfold own_P; omega)]
                                                        · have k158 : ∀ tt, Steps p.tables e below (T151.setTop (mkF m 31 #[.val (.int c), .val (.int (26 : Int32))] [(.int (1 : Int32))])) tt → Steps p.tables e below (s₁.setTop (entryFrame m #[(.int c)] 2)) tt := by
                                                            intro tt kk
                                                            refine k154 tt ?_
                                                            show Steps p.tables e below (T151.setTop (mkF m 27 #[.val (.int c), .val (.int (26 : Int32))] [(.int (921599 : Int32)), (.int c)])) tt
                                                            refine XS.icmpNo X151.here hx rfl (hb hby d1_27) rfl (flt (hc152 : ¬ ((921599 : Int32) < c))).2.2.1 ?_
                                                            show Steps p.tables e below (T151.setTop (mkF m 30 #[.val (.int c), .val (.int (26 : Int32))] [])) tt
                                                            refine XS.iconst X151.here hx rfl (hb hby d1_30) ?_
                                                            exact kk
                                                          obtain ⟨fs, hr, hrun, hended, hW, hsame⟩ := X151.leave (v := some (.int (1 : Int32))) (fun hq => by rw [Bd.returns] at hq; cases hq)
                                                          refine ⟨_, _, k158 _ ?_, hrun, hended, _, _, rfl, ?_, ⟨_, rfl⟩, hW, hsame.mono (by decide) (by decide)⟩
                                                          · show Steps p.tables e below (T151.setTop (mkF m 31 #[.val (.int c), .val (.int (26 : Int32))] [(.int (1 : Int32))])) _
                                                            exact retN X151 hx (t := .boolean) Bd.returns (by simp) (hb hby d1_31) hr
                                                          · show (fun (v : Option Value) (h : Heap) (L : List Loc) => v = some (.int (own_bl c)) ∧ Fr n0 L ∧ h = h0) _ T151.heap _
                                                            rw [e151]
                                                            dsimp only
                                                            refine ⟨?_, N0, rfl⟩
                                                            have z26 := own_nltI (n := 917632) rfl hc147
                                                            have z27 := own_ngtI (n := 921599) rfl hc152
                                                            unfold own_bl
                                                            rw [if_pos (show own_P c.toInt by unfold own_P; omega)]
                                                    · have k159 : ∀ tt, Steps p.tables e below (T140.setTop (mkF m 31 #[.val (.int c), .val (.int (24 : Int32))] [(.int (1 : Int32))])) tt → Steps p.tables e below (s₁.setTop (entryFrame m #[(.int c)] 2)) tt := by
                                                        intro tt kk
                                                        refine k143 tt ?_
                                                        show Steps p.tables e below (T140.setTop (mkF m 27 #[.val (.int c), .val (.int (24 : Int32))] [(.int (917535 : Int32)), (.int c)])) tt
                                                        refine XS.icmpNo X140.here hx rfl (hb hby d1_27) rfl (flt (hc141 : ¬ ((917535 : Int32) < c))).2.2.1 ?_
                                                        show Steps p.tables e below (T140.setTop (mkF m 30 #[.val (.int c), .val (.int (24 : Int32))] [])) tt
                                                        refine XS.iconst X140.here hx rfl (hb hby d1_30) ?_
                                                        exact kk
                                                      obtain ⟨fs, hr, hrun, hended, hW, hsame⟩ := X140.leave (v := some (.int (1 : Int32))) (fun hq => by rw [Bd.returns] at hq; cases hq)
                                                      refine ⟨_, _, k159 _ ?_, hrun, hended, _, _, rfl, ?_, ⟨_, rfl⟩, hW, hsame.mono (by decide) (by decide)⟩
                                                      · show Steps p.tables e below (T140.setTop (mkF m 31 #[.val (.int c), .val (.int (24 : Int32))] [(.int (1 : Int32))])) _
                                                        exact retN X140 hx (t := .boolean) Bd.returns (by simp) (hb hby d1_31) hr
                                                      · show (fun (v : Option Value) (h : Heap) (L : List Loc) => v = some (.int (own_bl c)) ∧ Fr n0 L ∧ h = h0) _ T140.heap _
                                                        rw [e140]
                                                        dsimp only
                                                        refine ⟨?_, N0, rfl⟩
                                                        have z24 := own_nltI (n := 917506) rfl hc136
                                                        have z25 := own_ngtI (n := 917535) rfl hc141
                                                        unfold own_bl
                                                        rw [if_pos (show own_P c.toInt by unfold own_P; omega)]
                                                · have k160 : ∀ tt, Steps p.tables e below (T129.setTop (mkF m 31 #[.val (.int c), .val (.int (22 : Int32))] [(.int (1 : Int32))])) tt → Steps p.tables e below (s₁.setTop (entryFrame m #[(.int c)] 2)) tt := by
                                                    intro tt kk
                                                    refine k132 tt ?_
                                                    show Steps p.tables e below (T129.setTop (mkF m 27 #[.val (.int c), .val (.int (22 : Int32))] [(.int (917504 : Int32)), (.int c)])) tt
                                                    refine XS.icmpNo X129.here hx rfl (hb hby d1_27) rfl (flt (hc130 : ¬ ((917504 : Int32) < c))).2.2.1 ?_
                                                    show Steps p.tables e below (T129.setTop (mkF m 30 #[.val (.int c), .val (.int (22 : Int32))] [])) tt
                                                    refine XS.iconst X129.here hx rfl (hb hby d1_30) ?_
                                                    exact kk
                                                  obtain ⟨fs, hr, hrun, hended, hW, hsame⟩ := X129.leave (v := some (.int (1 : Int32))) (fun hq => by rw [Bd.returns] at hq; cases hq)
                                                  refine ⟨_, _, k160 _ ?_, hrun, hended, _, _, rfl, ?_, ⟨_, rfl⟩, hW, hsame.mono (by decide) (by decide)⟩
                                                  · show Steps p.tables e below (T129.setTop (mkF m 31 #[.val (.int c), .val (.int (22 : Int32))] [(.int (1 : Int32))])) _
                                                    exact retN X129 hx (t := .boolean) Bd.returns (by simp) (hb hby d1_31) hr
                                                  · show (fun (v : Option Value) (h : Heap) (L : List Loc) => v = some (.int (own_bl c)) ∧ Fr n0 L ∧ h = h0) _ T129.heap _
                                                    rw [e129]
                                                    dsimp only
                                                    refine ⟨?_, N0, rfl⟩
                                                    have z22 := own_nltI (n := 917504) rfl hc125
                                                    have z23 := own_ngtI (n := 917504) rfl hc130
                                                    unfold own_bl
                                                    rw [if_pos (show own_P c.toInt by unfold own_P; omega)]
                                            · have k161 : ∀ tt, Steps p.tables e below (T118.setTop (mkF m 31 #[.val (.int c), .val (.int (20 : Int32))] [(.int (1 : Int32))])) tt → Steps p.tables e below (s₁.setTop (entryFrame m #[(.int c)] 2)) tt := by
                                                intro tt kk
                                                refine k121 tt ?_
                                                show Steps p.tables e below (T118.setTop (mkF m 27 #[.val (.int c), .val (.int (20 : Int32))] [(.int (65528 : Int32)), (.int c)])) tt
                                                refine XS.icmpNo X118.here hx rfl (hb hby d1_27) rfl (flt (hc119 : ¬ ((65528 : Int32) < c))).2.2.1 ?_
                                                show Steps p.tables e below (T118.setTop (mkF m 30 #[.val (.int c), .val (.int (20 : Int32))] [])) tt
                                                refine XS.iconst X118.here hx rfl (hb hby d1_30) ?_
                                                exact kk
                                              obtain ⟨fs, hr, hrun, hended, hW, hsame⟩ := X118.leave (v := some (.int (1 : Int32))) (fun hq => by rw [Bd.returns] at hq; cases hq)
                                              refine ⟨_, _, k161 _ ?_, hrun, hended, _, _, rfl, ?_, ⟨_, rfl⟩, hW, hsame.mono (by decide) (by decide)⟩
                                              · show Steps p.tables e below (T118.setTop (mkF m 31 #[.val (.int c), .val (.int (20 : Int32))] [(.int (1 : Int32))])) _
                                                exact retN X118 hx (t := .boolean) Bd.returns (by simp) (hb hby d1_31) hr
                                              · show (fun (v : Option Value) (h : Heap) (L : List Loc) => v = some (.int (own_bl c)) ∧ Fr n0 L ∧ h = h0) _ T118.heap _
                                                rw [e118]
                                                dsimp only
                                                refine ⟨?_, N0, rfl⟩
                                                have z20 := own_nltI (n := 65520) rfl hc114
                                                have z21 := own_ngtI (n := 65528) rfl hc119
                                                unfold own_bl
                                                rw [if_pos (show own_P c.toInt by unfold own_P; omega)]
                                        · have k162 : ∀ tt, Steps p.tables e below (T107.setTop (mkF m 31 #[.val (.int c), .val (.int (18 : Int32))] [(.int (1 : Int32))])) tt → Steps p.tables e below (s₁.setTop (entryFrame m #[(.int c)] 2)) tt := by
                                            intro tt kk
                                            refine k110 tt ?_
                                            show Steps p.tables e below (T107.setTop (mkF m 27 #[.val (.int c), .val (.int (18 : Int32))] [(.int (65440 : Int32)), (.int c)])) tt
                                            refine XS.icmpNo X107.here hx rfl (hb hby d1_27) rfl (flt (hc108 : ¬ ((65440 : Int32) < c))).2.2.1 ?_
                                            show Steps p.tables e below (T107.setTop (mkF m 30 #[.val (.int c), .val (.int (18 : Int32))] [])) tt
                                            refine XS.iconst X107.here hx rfl (hb hby d1_30) ?_
                                            exact kk
                                          obtain ⟨fs, hr, hrun, hended, hW, hsame⟩ := X107.leave (v := some (.int (1 : Int32))) (fun hq => by rw [Bd.returns] at hq; cases hq)
                                          refine ⟨_, _, k162 _ ?_, hrun, hended, _, _, rfl, ?_, ⟨_, rfl⟩, hW, hsame.mono (by decide) (by decide)⟩
                                          · show Steps p.tables e below (T107.setTop (mkF m 31 #[.val (.int c), .val (.int (18 : Int32))] [(.int (1 : Int32))])) _
                                            exact retN X107 hx (t := .boolean) Bd.returns (by simp) (hb hby d1_31) hr
                                          · show (fun (v : Option Value) (h : Heap) (L : List Loc) => v = some (.int (own_bl c)) ∧ Fr n0 L ∧ h = h0) _ T107.heap _
                                            rw [e107]
                                            dsimp only
                                            refine ⟨?_, N0, rfl⟩
                                            have z18 := own_nltI (n := 65440) rfl hc103
                                            have z19 := own_ngtI (n := 65440) rfl hc108
                                            unfold own_bl
                                            rw [if_pos (show own_P c.toInt by unfold own_P; omega)]
                                    · have k163 : ∀ tt, Steps p.tables e below (T96.setTop (mkF m 31 #[.val (.int c), .val (.int (16 : Int32))] [(.int (1 : Int32))])) tt → Steps p.tables e below (s₁.setTop (entryFrame m #[(.int c)] 2)) tt := by
                                        intro tt kk
                                        refine k99 tt ?_
                                        show Steps p.tables e below (T96.setTop (mkF m 27 #[.val (.int c), .val (.int (16 : Int32))] [(.int (65039 : Int32)), (.int c)])) tt
                                        refine XS.icmpNo X96.here hx rfl (hb hby d1_27) rfl (flt (hc97 : ¬ ((65039 : Int32) < c))).2.2.1 ?_
                                        show Steps p.tables e below (T96.setTop (mkF m 30 #[.val (.int c), .val (.int (16 : Int32))] [])) tt
                                        refine XS.iconst X96.here hx rfl (hb hby d1_30) ?_
                                        exact kk
                                      obtain ⟨fs, hr, hrun, hended, hW, hsame⟩ := X96.leave (v := some (.int (1 : Int32))) (fun hq => by rw [Bd.returns] at hq; cases hq)
                                      refine ⟨_, _, k163 _ ?_, hrun, hended, _, _, rfl, ?_, ⟨_, rfl⟩, hW, hsame.mono (by decide) (by decide)⟩
                                      · show Steps p.tables e below (T96.setTop (mkF m 31 #[.val (.int c), .val (.int (16 : Int32))] [(.int (1 : Int32))])) _
                                        exact retN X96 hx (t := .boolean) Bd.returns (by simp) (hb hby d1_31) hr
                                      · show (fun (v : Option Value) (h : Heap) (L : List Loc) => v = some (.int (own_bl c)) ∧ Fr n0 L ∧ h = h0) _ T96.heap _
                                        rw [e96]
                                        dsimp only
                                        refine ⟨?_, N0, rfl⟩
                                        have z16 := own_nltI (n := 65024) rfl hc92
                                        have z17 := own_ngtI (n := 65039) rfl hc97
                                        unfold own_bl
                                        rw [if_pos (show own_P c.toInt by unfold own_P; omega)]
                                · have k164 : ∀ tt, Steps p.tables e below (T85.setTop (mkF m 31 #[.val (.int c), .val (.int (14 : Int32))] [(.int (1 : Int32))])) tt → Steps p.tables e below (s₁.setTop (entryFrame m #[(.int c)] 2)) tt := by
                                    intro tt kk
                                    refine k88 tt ?_
                                    show Steps p.tables e below (T85.setTop (mkF m 27 #[.val (.int c), .val (.int (14 : Int32))] [(.int (12644 : Int32)), (.int c)])) tt
                                    refine XS.icmpNo X85.here hx rfl (hb hby d1_27) rfl (flt (hc86 : ¬ ((12644 : Int32) < c))).2.2.1 ?_
                                    show Steps p.tables e below (T85.setTop (mkF m 30 #[.val (.int c), .val (.int (14 : Int32))] [])) tt
                                    refine XS.iconst X85.here hx rfl (hb hby d1_30) ?_
                                    exact kk
                                  obtain ⟨fs, hr, hrun, hended, hW, hsame⟩ := X85.leave (v := some (.int (1 : Int32))) (fun hq => by rw [Bd.returns] at hq; cases hq)
                                  refine ⟨_, _, k164 _ ?_, hrun, hended, _, _, rfl, ?_, ⟨_, rfl⟩, hW, hsame.mono (by decide) (by decide)⟩
                                  · show Steps p.tables e below (T85.setTop (mkF m 31 #[.val (.int c), .val (.int (14 : Int32))] [(.int (1 : Int32))])) _
                                    exact retN X85 hx (t := .boolean) Bd.returns (by simp) (hb hby d1_31) hr
                                  · show (fun (v : Option Value) (h : Heap) (L : List Loc) => v = some (.int (own_bl c)) ∧ Fr n0 L ∧ h = h0) _ T85.heap _
                                    rw [e85]
                                    dsimp only
                                    refine ⟨?_, N0, rfl⟩
                                    have z14 := own_nltI (n := 12644) rfl hc81
                                    have z15 := own_ngtI (n := 12644) rfl hc86
                                    unfold own_bl
                                    rw [if_pos (show own_P c.toInt by unfold own_P; omega)]
                            · have k165 : ∀ tt, Steps p.tables e below (T74.setTop (mkF m 31 #[.val (.int c), .val (.int (12 : Int32))] [(.int (1 : Int32))])) tt → Steps p.tables e below (s₁.setTop (entryFrame m #[(.int c)] 2)) tt := by
                                intro tt kk
                                refine k77 tt ?_
                                show Steps p.tables e below (T74.setTop (mkF m 27 #[.val (.int c), .val (.int (12 : Int32))] [(.int (10240 : Int32)), (.int c)])) tt
                                refine XS.icmpNo X74.here hx rfl (hb hby d1_27) rfl (flt (hc75 : ¬ ((10240 : Int32) < c))).2.2.1 ?_
                                show Steps p.tables e below (T74.setTop (mkF m 30 #[.val (.int c), .val (.int (12 : Int32))] [])) tt
                                refine XS.iconst X74.here hx rfl (hb hby d1_30) ?_
                                exact kk
                              obtain ⟨fs, hr, hrun, hended, hW, hsame⟩ := X74.leave (v := some (.int (1 : Int32))) (fun hq => by rw [Bd.returns] at hq; cases hq)
                              refine ⟨_, _, k165 _ ?_, hrun, hended, _, _, rfl, ?_, ⟨_, rfl⟩, hW, hsame.mono (by decide) (by decide)⟩
                              · show Steps p.tables e below (T74.setTop (mkF m 31 #[.val (.int c), .val (.int (12 : Int32))] [(.int (1 : Int32))])) _
                                exact retN X74 hx (t := .boolean) Bd.returns (by simp) (hb hby d1_31) hr
                              · show (fun (v : Option Value) (h : Heap) (L : List Loc) => v = some (.int (own_bl c)) ∧ Fr n0 L ∧ h = h0) _ T74.heap _
                                rw [e74]
                                dsimp only
                                refine ⟨?_, N0, rfl⟩
                                have z12 := own_nltI (n := 10240) rfl hc70
                                have z13 := own_ngtI (n := 10240) rfl hc75
                                unfold own_bl
                                rw [if_pos (show own_P c.toInt by unfold own_P; omega)]
                        · have k166 : ∀ tt, Steps p.tables e below (T63.setTop (mkF m 31 #[.val (.int c), .val (.int (10 : Int32))] [(.int (1 : Int32))])) tt → Steps p.tables e below (s₁.setTop (entryFrame m #[(.int c)] 2)) tt := by
                            intro tt kk
                            refine k66 tt ?_
                            show Steps p.tables e below (T63.setTop (mkF m 27 #[.val (.int c), .val (.int (10 : Int32))] [(.int (8293 : Int32)), (.int c)])) tt
                            refine XS.icmpNo X63.here hx rfl (hb hby d1_27) rfl (flt (hc64 : ¬ ((8293 : Int32) < c))).2.2.1 ?_
                            show Steps p.tables e below (T63.setTop (mkF m 30 #[.val (.int c), .val (.int (10 : Int32))] [])) tt
                            refine XS.iconst X63.here hx rfl (hb hby d1_30) ?_
                            exact kk
                          obtain ⟨fs, hr, hrun, hended, hW, hsame⟩ := X63.leave (v := some (.int (1 : Int32))) (fun hq => by rw [Bd.returns] at hq; cases hq)
                          refine ⟨_, _, k166 _ ?_, hrun, hended, _, _, rfl, ?_, ⟨_, rfl⟩, hW, hsame.mono (by decide) (by decide)⟩
                          · show Steps p.tables e below (T63.setTop (mkF m 31 #[.val (.int c), .val (.int (10 : Int32))] [(.int (1 : Int32))])) _
                            exact retN X63 hx (t := .boolean) Bd.returns (by simp) (hb hby d1_31) hr
                          · show (fun (v : Option Value) (h : Heap) (L : List Loc) => v = some (.int (own_bl c)) ∧ Fr n0 L ∧ h = h0) _ T63.heap _
                            rw [e63]
                            dsimp only
                            refine ⟨?_, N0, rfl⟩
                            have z10 := own_nltI (n := 8293) rfl hc59
                            have z11 := own_ngtI (n := 8293) rfl hc64
                            unfold own_bl
                            rw [if_pos (show own_P c.toInt by unfold own_P; omega)]
                    · have k167 : ∀ tt, Steps p.tables e below (T52.setTop (mkF m 31 #[.val (.int c), .val (.int (8 : Int32))] [(.int (1 : Int32))])) tt → Steps p.tables e below (s₁.setTop (entryFrame m #[(.int c)] 2)) tt := by
                        intro tt kk
                        refine k55 tt ?_
                        show Steps p.tables e below (T52.setTop (mkF m 27 #[.val (.int c), .val (.int (8 : Int32))] [(.int (6159 : Int32)), (.int c)])) tt
                        refine XS.icmpNo X52.here hx rfl (hb hby d1_27) rfl (flt (hc53 : ¬ ((6159 : Int32) < c))).2.2.1 ?_
                        show Steps p.tables e below (T52.setTop (mkF m 30 #[.val (.int c), .val (.int (8 : Int32))] [])) tt
                        refine XS.iconst X52.here hx rfl (hb hby d1_30) ?_
                        exact kk
                      obtain ⟨fs, hr, hrun, hended, hW, hsame⟩ := X52.leave (v := some (.int (1 : Int32))) (fun hq => by rw [Bd.returns] at hq; cases hq)
                      refine ⟨_, _, k167 _ ?_, hrun, hended, _, _, rfl, ?_, ⟨_, rfl⟩, hW, hsame.mono (by decide) (by decide)⟩
                      · show Steps p.tables e below (T52.setTop (mkF m 31 #[.val (.int c), .val (.int (8 : Int32))] [(.int (1 : Int32))])) _
                        exact retN X52 hx (t := .boolean) Bd.returns (by simp) (hb hby d1_31) hr
                      · show (fun (v : Option Value) (h : Heap) (L : List Loc) => v = some (.int (own_bl c)) ∧ Fr n0 L ∧ h = h0) _ T52.heap _
                        rw [e52]
                        dsimp only
                        refine ⟨?_, N0, rfl⟩
                        have z8 := own_nltI (n := 6159) rfl hc48
                        have z9 := own_ngtI (n := 6159) rfl hc53
                        unfold own_bl
                        rw [if_pos (show own_P c.toInt by unfold own_P; omega)]
                · have k168 : ∀ tt, Steps p.tables e below (T41.setTop (mkF m 31 #[.val (.int c), .val (.int (6 : Int32))] [(.int (1 : Int32))])) tt → Steps p.tables e below (s₁.setTop (entryFrame m #[(.int c)] 2)) tt := by
                    intro tt kk
                    refine k44 tt ?_
                    show Steps p.tables e below (T41.setTop (mkF m 27 #[.val (.int c), .val (.int (6 : Int32))] [(.int (6157 : Int32)), (.int c)])) tt
                    refine XS.icmpNo X41.here hx rfl (hb hby d1_27) rfl (flt (hc42 : ¬ ((6157 : Int32) < c))).2.2.1 ?_
                    show Steps p.tables e below (T41.setTop (mkF m 30 #[.val (.int c), .val (.int (6 : Int32))] [])) tt
                    refine XS.iconst X41.here hx rfl (hb hby d1_30) ?_
                    exact kk
                  obtain ⟨fs, hr, hrun, hended, hW, hsame⟩ := X41.leave (v := some (.int (1 : Int32))) (fun hq => by rw [Bd.returns] at hq; cases hq)
                  refine ⟨_, _, k168 _ ?_, hrun, hended, _, _, rfl, ?_, ⟨_, rfl⟩, hW, hsame.mono (by decide) (by decide)⟩
                  · show Steps p.tables e below (T41.setTop (mkF m 31 #[.val (.int c), .val (.int (6 : Int32))] [(.int (1 : Int32))])) _
                    exact retN X41 hx (t := .boolean) Bd.returns (by simp) (hb hby d1_31) hr
                  · show (fun (v : Option Value) (h : Heap) (L : List Loc) => v = some (.int (own_bl c)) ∧ Fr n0 L ∧ h = h0) _ T41.heap _
                    rw [e41]
                    dsimp only
                    refine ⟨?_, N0, rfl⟩
                    have z6 := own_nltI (n := 6155) rfl hc37
                    have z7 := own_ngtI (n := 6157) rfl hc42
                    unfold own_bl
                    rw [if_pos (show own_P c.toInt by unfold own_P; omega)]
            · have k169 : ∀ tt, Steps p.tables e below (T30.setTop (mkF m 31 #[.val (.int c), .val (.int (4 : Int32))] [(.int (1 : Int32))])) tt → Steps p.tables e below (s₁.setTop (entryFrame m #[(.int c)] 2)) tt := by
                intro tt kk
                refine k33 tt ?_
                show Steps p.tables e below (T30.setTop (mkF m 27 #[.val (.int c), .val (.int (4 : Int32))] [(.int (6069 : Int32)), (.int c)])) tt
                refine XS.icmpNo X30.here hx rfl (hb hby d1_27) rfl (flt (hc31 : ¬ ((6069 : Int32) < c))).2.2.1 ?_
                show Steps p.tables e below (T30.setTop (mkF m 30 #[.val (.int c), .val (.int (4 : Int32))] [])) tt
                refine XS.iconst X30.here hx rfl (hb hby d1_30) ?_
                exact kk
              obtain ⟨fs, hr, hrun, hended, hW, hsame⟩ := X30.leave (v := some (.int (1 : Int32))) (fun hq => by rw [Bd.returns] at hq; cases hq)
              refine ⟨_, _, k169 _ ?_, hrun, hended, _, _, rfl, ?_, ⟨_, rfl⟩, hW, hsame.mono (by decide) (by decide)⟩
              · show Steps p.tables e below (T30.setTop (mkF m 31 #[.val (.int c), .val (.int (4 : Int32))] [(.int (1 : Int32))])) _
                exact retN X30 hx (t := .boolean) Bd.returns (by simp) (hb hby d1_31) hr
              · show (fun (v : Option Value) (h : Heap) (L : List Loc) => v = some (.int (own_bl c)) ∧ Fr n0 L ∧ h = h0) _ T30.heap _
                rw [e30]
                dsimp only
                refine ⟨?_, N0, rfl⟩
                have z4 := own_nltI (n := 6068) rfl hc26
                have z5 := own_ngtI (n := 6069) rfl hc31
                unfold own_bl
                rw [if_pos (show own_P c.toInt by unfold own_P; omega)]
        · have k170 : ∀ tt, Steps p.tables e below (T19.setTop (mkF m 31 #[.val (.int c), .val (.int (2 : Int32))] [(.int (1 : Int32))])) tt → Steps p.tables e below (s₁.setTop (entryFrame m #[(.int c)] 2)) tt := by
            intro tt kk
            refine k22 tt ?_
            show Steps p.tables e below (T19.setTop (mkF m 27 #[.val (.int c), .val (.int (2 : Int32))] [(.int (4448 : Int32)), (.int c)])) tt
            refine XS.icmpNo X19.here hx rfl (hb hby d1_27) rfl (flt (hc20 : ¬ ((4448 : Int32) < c))).2.2.1 ?_
            show Steps p.tables e below (T19.setTop (mkF m 30 #[.val (.int c), .val (.int (2 : Int32))] [])) tt
            refine XS.iconst X19.here hx rfl (hb hby d1_30) ?_
            exact kk
          obtain ⟨fs, hr, hrun, hended, hW, hsame⟩ := X19.leave (v := some (.int (1 : Int32))) (fun hq => by rw [Bd.returns] at hq; cases hq)
          refine ⟨_, _, k170 _ ?_, hrun, hended, _, _, rfl, ?_, ⟨_, rfl⟩, hW, hsame.mono (by decide) (by decide)⟩
          · show Steps p.tables e below (T19.setTop (mkF m 31 #[.val (.int c), .val (.int (2 : Int32))] [(.int (1 : Int32))])) _
            exact retN X19 hx (t := .boolean) Bd.returns (by simp) (hb hby d1_31) hr
          · show (fun (v : Option Value) (h : Heap) (L : List Loc) => v = some (.int (own_bl c)) ∧ Fr n0 L ∧ h = h0) _ T19.heap _
            rw [e19]
            dsimp only
            refine ⟨?_, N0, rfl⟩
            have z2 := own_nltI (n := 4447) rfl hc15
            have z3 := own_ngtI (n := 4448) rfl hc20
            unfold own_bl
            rw [if_pos (show own_P c.toInt by unfold own_P; omega)]
    · have k171 : ∀ tt, Steps p.tables e below (T8.setTop (mkF m 31 #[.val (.int c), .val (.int (0 : Int32))] [(.int (1 : Int32))])) tt → Steps p.tables e below (s₁.setTop (entryFrame m #[(.int c)] 2)) tt := by
        intro tt kk
        refine k11 tt ?_
        show Steps p.tables e below (T8.setTop (mkF m 27 #[.val (.int c), .val (.int (0 : Int32))] [(.int (847 : Int32)), (.int c)])) tt
        refine XS.icmpNo X8.here hx rfl (hb hby d1_27) rfl (flt (hc9 : ¬ ((847 : Int32) < c))).2.2.1 ?_
        show Steps p.tables e below (T8.setTop (mkF m 30 #[.val (.int c), .val (.int (0 : Int32))] [])) tt
        refine XS.iconst X8.here hx rfl (hb hby d1_30) ?_
        exact kk
      obtain ⟨fs, hr, hrun, hended, hW, hsame⟩ := X8.leave (v := some (.int (1 : Int32))) (fun hq => by rw [Bd.returns] at hq; cases hq)
      refine ⟨_, _, k171 _ ?_, hrun, hended, _, _, rfl, ?_, ⟨_, rfl⟩, hW, hsame.mono (by decide) (by decide)⟩
      · show Steps p.tables e below (T8.setTop (mkF m 31 #[.val (.int c), .val (.int (0 : Int32))] [(.int (1 : Int32))])) _
        exact retN X8 hx (t := .boolean) Bd.returns (by simp) (hb hby d1_31) hr
      · show (fun (v : Option Value) (h : Heap) (L : List Loc) => v = some (.int (own_bl c)) ∧ Fr n0 L ∧ h = h0) _ T8.heap _
        rw [e8]
        dsimp only
        refine ⟨?_, N0, rfl⟩
        have z0 := own_nltI (n := 847) rfl hc4
        have z1 := own_ngtI (n := 847) rfl hc9
        unfold own_bl
        rw [if_pos (show own_P c.toInt by unfold own_P; omega)]
theorem own_pn_2 : plainName "com/example/hopguard/hopguard/core/VisibleTextIsBlankPinLaw" = true := by first | (simp [plainName, overriddenIn]; done) | decide +kernel
theorem d2_0 : decode method_3_code 0 = .ok (.iload_n 0, 1) := by decide +kernel
theorem d2_1 : decode method_3_code 1 = .ok (.sipush 847, 3) := by decide +kernel
theorem d2_4 : decode method_3_code 4 = .ok (.if_icmp .ne 5, 3) := by decide +kernel
theorem d2_7 : decode method_3_code 7 = .ok (.iconst 1, 1) := by decide +kernel
theorem d2_8 : decode method_3_code 8 = .ok (.ireturn, 1) := by decide +kernel
theorem d2_9 : decode method_3_code 9 = .ok (.iload_n 0, 1) := by decide +kernel
theorem d2_10 : decode method_3_code 10 = .ok (.sipush 4447, 3) := by decide +kernel
theorem d2_13 : decode method_3_code 13 = .ok (.if_icmp .lt 12, 3) := by decide +kernel
theorem d2_16 : decode method_3_code 16 = .ok (.iload_n 0, 1) := by decide +kernel
theorem d2_17 : decode method_3_code 17 = .ok (.sipush 4448, 3) := by decide +kernel
theorem d2_20 : decode method_3_code 20 = .ok (.if_icmp .gt 5, 3) := by decide +kernel
theorem d2_23 : decode method_3_code 23 = .ok (.iconst 1, 1) := by decide +kernel
theorem d2_24 : decode method_3_code 24 = .ok (.ireturn, 1) := by decide +kernel
theorem d2_25 : decode method_3_code 25 = .ok (.iload_n 0, 1) := by decide +kernel
theorem d2_26 : decode method_3_code 26 = .ok (.sipush 6068, 3) := by decide +kernel
theorem d2_29 : decode method_3_code 29 = .ok (.if_icmp .lt 12, 3) := by decide +kernel
theorem d2_32 : decode method_3_code 32 = .ok (.iload_n 0, 1) := by decide +kernel
theorem d2_33 : decode method_3_code 33 = .ok (.sipush 6069, 3) := by decide +kernel
theorem d2_36 : decode method_3_code 36 = .ok (.if_icmp .gt 5, 3) := by decide +kernel
theorem d2_39 : decode method_3_code 39 = .ok (.iconst 1, 1) := by decide +kernel
theorem d2_40 : decode method_3_code 40 = .ok (.ireturn, 1) := by decide +kernel
theorem d2_41 : decode method_3_code 41 = .ok (.iload_n 0, 1) := by decide +kernel
theorem d2_42 : decode method_3_code 42 = .ok (.sipush 6155, 3) := by decide +kernel
theorem d2_45 : decode method_3_code 45 = .ok (.if_icmp .lt 12, 3) := by decide +kernel
theorem d2_48 : decode method_3_code 48 = .ok (.iload_n 0, 1) := by decide +kernel
theorem d2_49 : decode method_3_code 49 = .ok (.sipush 6157, 3) := by decide +kernel
theorem d2_52 : decode method_3_code 52 = .ok (.if_icmp .gt 5, 3) := by decide +kernel
theorem d2_55 : decode method_3_code 55 = .ok (.iconst 1, 1) := by decide +kernel
theorem d2_56 : decode method_3_code 56 = .ok (.ireturn, 1) := by decide +kernel
theorem d2_57 : decode method_3_code 57 = .ok (.iload_n 0, 1) := by decide +kernel
theorem d2_58 : decode method_3_code 58 = .ok (.sipush 6159, 3) := by decide +kernel
theorem d2_61 : decode method_3_code 61 = .ok (.if_icmp .ne 5, 3) := by decide +kernel
theorem d2_64 : decode method_3_code 64 = .ok (.iconst 1, 1) := by decide +kernel
theorem d2_65 : decode method_3_code 65 = .ok (.ireturn, 1) := by decide +kernel
theorem d2_66 : decode method_3_code 66 = .ok (.iload_n 0, 1) := by decide +kernel
theorem d2_67 : decode method_3_code 67 = .ok (.sipush 8293, 3) := by decide +kernel
theorem d2_70 : decode method_3_code 70 = .ok (.if_icmp .ne 5, 3) := by decide +kernel
theorem d2_73 : decode method_3_code 73 = .ok (.iconst 1, 1) := by decide +kernel
theorem d2_74 : decode method_3_code 74 = .ok (.ireturn, 1) := by decide +kernel
theorem d2_75 : decode method_3_code 75 = .ok (.iload_n 0, 1) := by decide +kernel
theorem d2_76 : decode method_3_code 76 = .ok (.sipush 10240, 3) := by decide +kernel
theorem d2_79 : decode method_3_code 79 = .ok (.if_icmp .ne 5, 3) := by decide +kernel
theorem d2_82 : decode method_3_code 82 = .ok (.iconst 1, 1) := by decide +kernel
theorem d2_83 : decode method_3_code 83 = .ok (.ireturn, 1) := by decide +kernel
theorem d2_84 : decode method_3_code 84 = .ok (.iload_n 0, 1) := by decide +kernel
theorem d2_85 : decode method_3_code 85 = .ok (.sipush 12644, 3) := by decide +kernel
theorem d2_88 : decode method_3_code 88 = .ok (.if_icmp .ne 5, 3) := by decide +kernel
theorem d2_91 : decode method_3_code 91 = .ok (.iconst 1, 1) := by decide +kernel
theorem d2_92 : decode method_3_code 92 = .ok (.ireturn, 1) := by decide +kernel
theorem d2_93 : decode method_3_code 93 = .ok (.iload_n 0, 1) := by decide +kernel
theorem d2_94 : decode method_3_code 94 = .ok (.ldc 7, 2) := by decide +kernel
theorem d2_96 : decode method_3_code 96 = .ok (.if_icmp .lt 11, 3) := by decide +kernel
theorem d2_99 : decode method_3_code 99 = .ok (.iload_n 0, 1) := by decide +kernel
theorem d2_100 : decode method_3_code 100 = .ok (.ldc 8, 2) := by decide +kernel
theorem d2_102 : decode method_3_code 102 = .ok (.if_icmp .gt 5, 3) := by decide +kernel
theorem d2_105 : decode method_3_code 105 = .ok (.iconst 1, 1) := by decide +kernel
theorem d2_106 : decode method_3_code 106 = .ok (.ireturn, 1) := by decide +kernel
theorem d2_107 : decode method_3_code 107 = .ok (.iload_n 0, 1) := by decide +kernel
theorem d2_108 : decode method_3_code 108 = .ok (.ldc 9, 2) := by decide +kernel
theorem d2_110 : decode method_3_code 110 = .ok (.if_icmp .ne 5, 3) := by decide +kernel
theorem d2_113 : decode method_3_code 113 = .ok (.iconst 1, 1) := by decide +kernel
theorem d2_114 : decode method_3_code 114 = .ok (.ireturn, 1) := by decide +kernel
theorem d2_115 : decode method_3_code 115 = .ok (.iload_n 0, 1) := by decide +kernel
theorem d2_116 : decode method_3_code 116 = .ok (.ldc 10, 2) := by decide +kernel
theorem d2_118 : decode method_3_code 118 = .ok (.if_icmp .lt 11, 3) := by decide +kernel
theorem d2_121 : decode method_3_code 121 = .ok (.iload_n 0, 1) := by decide +kernel
theorem d2_122 : decode method_3_code 122 = .ok (.ldc 11, 2) := by decide +kernel
theorem d2_124 : decode method_3_code 124 = .ok (.if_icmp .gt 5, 3) := by decide +kernel
theorem d2_127 : decode method_3_code 127 = .ok (.iconst 1, 1) := by decide +kernel
theorem d2_128 : decode method_3_code 128 = .ok (.ireturn, 1) := by decide +kernel
theorem d2_129 : decode method_3_code 129 = .ok (.iload_n 0, 1) := by decide +kernel
theorem d2_130 : decode method_3_code 130 = .ok (.ldc 12, 2) := by decide +kernel
theorem d2_132 : decode method_3_code 132 = .ok (.if_icmp .ne 5, 3) := by decide +kernel
theorem d2_135 : decode method_3_code 135 = .ok (.iconst 1, 1) := by decide +kernel
theorem d2_136 : decode method_3_code 136 = .ok (.ireturn, 1) := by decide +kernel
theorem d2_137 : decode method_3_code 137 = .ok (.iload_n 0, 1) := by decide +kernel
theorem d2_138 : decode method_3_code 138 = .ok (.ldc 13, 2) := by decide +kernel
theorem d2_140 : decode method_3_code 140 = .ok (.if_icmp .lt 11, 3) := by decide +kernel
theorem d2_143 : decode method_3_code 143 = .ok (.iload_n 0, 1) := by decide +kernel
theorem d2_144 : decode method_3_code 144 = .ok (.ldc 14, 2) := by decide +kernel
theorem d2_146 : decode method_3_code 146 = .ok (.if_icmp .gt 5, 3) := by decide +kernel
theorem d2_149 : decode method_3_code 149 = .ok (.iconst 1, 1) := by decide +kernel
theorem d2_150 : decode method_3_code 150 = .ok (.ireturn, 1) := by decide +kernel
theorem d2_151 : decode method_3_code 151 = .ok (.iload_n 0, 1) := by decide +kernel
theorem d2_152 : decode method_3_code 152 = .ok (.ldc 15, 2) := by decide +kernel
theorem d2_154 : decode method_3_code 154 = .ok (.if_icmp .lt 11, 3) := by decide +kernel
theorem d2_157 : decode method_3_code 157 = .ok (.iload_n 0, 1) := by decide +kernel
theorem d2_158 : decode method_3_code 158 = .ok (.ldc 16, 2) := by decide +kernel
theorem d2_160 : decode method_3_code 160 = .ok (.if_icmp .gt 5, 3) := by decide +kernel
theorem d2_163 : decode method_3_code 163 = .ok (.iconst 1, 1) := by decide +kernel
theorem d2_164 : decode method_3_code 164 = .ok (.ireturn, 1) := by decide +kernel
theorem d2_165 : decode method_3_code 165 = .ok (.iconst 0, 1) := by decide +kernel
theorem d2_166 : decode method_3_code 166 = .ok (.ireturn, 1) := by decide +kernel
def own_rmR_Q (Z : State) (c : Int32)  (h0 : Heap) (n0 : Nat) (v : Option Value) (h : Heap) (L : List Loc) : Prop := v = some (.int (own_bl c)) ∧ Fr n0 L ∧ h = h0
set_option maxRecDepth 65536 in
set_option maxHeartbeats 40000000 in
theorem own_rmR (l : Launch) (Z : State) (a0 : Array Value) (hw : ∀ d ∈ tables_1, d.before a0 Z = true) (ws : List Jvm.Cond) (c : Int32)  (h0 : Heap) (n0 : Nat) (Z0 : n0 ≤ h0.size)  :
    MetFree l (⟨"com/example/hopguard/hopguard/core/VisibleTextIsBlankPinLaw", "ref", "(I)Z"⟩ : MethodName) (head1 (Jvm.Cond.code (⟨"com/example/hopguard/hopguard/core/VisibleTextIsBlankPinLaw", "ref", "(I)Z"⟩ : MethodName) method_3_code 1 (some .boolean) :: ws) ({ frames := 0, cells := 0, slots := 0, locals := 0 } : Room)) (fun aa UU => aa = #[(.int c)] ∧ Z.Warmed39 UU.vm ∧ UU.heap = h0) (fun _ _ _ _ _ => True) (fun _ UU oo UU' => ∃ vv LL, oo = .returned vv ∧ own_rmR_Q Z c h0 n0 vv UU'.heap LL ∧ FrameEnd UU oo UU' LL ({ frames := 0, cells := 0, slots := 0, locals := 0 } : Room).cells ({ frames := 0, cells := 0, slots := 0, locals := 0 } : Room).slots) := by
  refine MetFree.of_bodySF (plainFor_of_name own_pn_2) hisR ?_
  intro p e s m args below meth cc s₁ Bd hml0 hP hK
  obtain ⟨rfl, hZ, hh⟩ := hP
  have hx := Bd.exec
  have hby := Bd.bytes
  have hml : cc.maxLocals = 1 := hml0
  have hown : s.vm.findClass "com/example/hopguard/hopguard/core/VisibleTextIsBlankPinLaw" = some m.cls := findClass_of_methodNamed Bd.named
  have hnm := (name_of_methodNamed Bd.named Bd.method).1
  have X0 : Stand p l e ({ frames := 0, cells := 0, slots := 0, locals := 0 } : Room) s m #[(.int c)] below meth cc s₁ [] 0 0 := Stand.of_body Bd
  have e0 : s₁.heap = h0 := by rw [← hh, Bd.state]; rfl
  have N0 := Fr.nil n0
  have k0 : ∀ tt, Steps p.tables e below (s₁.setTop (mkF m 0 #[.val (.int c)] [])) tt → Steps p.tables e below (s₁.setTop (entryFrame m #[(.int c)] 1)) tt := fun tt kk => castTop (by first | (simp [entryFrame, mkF, argsToLocals, Value.category]; done) | rfl) kk
  have k2 : ∀ tt, Steps p.tables e below (s₁.setTop (mkF m 4 #[.val (.int c)] [(.int (847 : Int32)), (.int c)])) tt → Steps p.tables e below (s₁.setTop (entryFrame m #[(.int c)] 1)) tt := by
    intro tt kk
    refine k0 tt ?_
    show Steps p.tables e below (s₁.setTop (mkF m 0 #[.val (.int c)] [])) tt
    refine XS.iloadN X0.here hx rfl (hb hby d2_0) rfl ?_
    show Steps p.tables e below (s₁.setTop (mkF m 1 #[.val (.int c)] [(.int c)])) tt
    refine XS.sipush X0.here hx rfl (hb hby d2_1) ?_
    exact kk
  by_cases hc0 : c = (847 : Int32)
  · have k3 : ∀ tt, Steps p.tables e below (s₁.setTop (mkF m 8 #[.val (.int c)] [(.int (1 : Int32))])) tt → Steps p.tables e below (s₁.setTop (entryFrame m #[(.int c)] 1)) tt := by
      intro tt kk
      refine k2 tt ?_
      show Steps p.tables e below (s₁.setTop (mkF m 4 #[.val (.int c)] [(.int (847 : Int32)), (.int c)])) tt
      refine XS.icmpNo X0.here hx rfl (hb hby d2_4) rfl (teq (hc0 : c = (847 : Int32))).2 ?_
      show Steps p.tables e below (s₁.setTop (mkF m 7 #[.val (.int c)] [])) tt
      refine XS.iconst X0.here hx rfl (hb hby d2_7) ?_
      exact kk
    obtain ⟨fs, hr, hrun, hended, hW, hsame⟩ := X0.leave (v := some (.int (1 : Int32))) (fun hq => by rw [Bd.returns] at hq; cases hq)
    refine ⟨_, _, k3 _ ?_, hrun, hended, _, _, rfl, ?_, ⟨_, rfl⟩, hW, hsame.mono (by decide) (by decide)⟩
    · show Steps p.tables e below (s₁.setTop (mkF m 8 #[.val (.int c)] [(.int (1 : Int32))])) _
      exact retN X0 hx (t := .boolean) Bd.returns (by simp) (hb hby d2_8) hr
    · show (fun (v : Option Value) (h : Heap) (L : List Loc) => v = some (.int (own_bl c)) ∧ Fr n0 L ∧ h = h0) _ s₁.heap _
      rw [e0]
      dsimp only
      refine ⟨?_, N0, rfl⟩
      have z0 := own_eqI (n := 847) rfl hc0
      unfold own_bl
      rw [if_pos (show own_P c.toInt by unfold own_P; omega)]
  · have k5 : ∀ tt, Steps p.tables e below (s₁.setTop (mkF m 9 #[.val (.int c)] [])) tt → Steps p.tables e below (s₁.setTop (entryFrame m #[(.int c)] 1)) tt := by
      intro tt kk
      refine k2 tt ?_
      show Steps p.tables e below (s₁.setTop (mkF m 4 #[.val (.int c)] [(.int (847 : Int32)), (.int c)])) tt
      refine XS.icmpYes X0.here hx rfl (pc0 := 4) (pc' := 9) rfl (hb hby d2_4) rfl (feq (hc0 : ¬ (c = (847 : Int32)))).2 (by decide) (by decide) ?_
      exact kk
    by_cases hr3 : ¬ (c < (4447 : Int32)) ∧ ¬ ((4448 : Int32) < c)
    · have k6 : ∀ tt, Steps p.tables e below (s₁.setTop (mkF m 24 #[.val (.int c)] [(.int (1 : Int32))])) tt → Steps p.tables e below (s₁.setTop (entryFrame m #[(.int c)] 1)) tt := by
        intro tt kk
        refine k5 tt ?_
        show Steps p.tables e below (s₁.setTop (mkF m 9 #[.val (.int c)] [])) tt
        refine XS.iloadN X0.here hx rfl (hb hby d2_9) rfl ?_
        show Steps p.tables e below (s₁.setTop (mkF m 10 #[.val (.int c)] [(.int c)])) tt
        refine XS.sipush X0.here hx rfl (hb hby d2_10) ?_
        show Steps p.tables e below (s₁.setTop (mkF m 13 #[.val (.int c)] [(.int (4447 : Int32)), (.int c)])) tt
        refine XS.icmpNo X0.here hx rfl (hb hby d2_13) rfl (flt (hr3.1 : ¬ (c < (4447 : Int32)))).1 ?_
        show Steps p.tables e below (s₁.setTop (mkF m 16 #[.val (.int c)] [])) tt
        refine XS.iloadN X0.here hx rfl (hb hby d2_16) rfl ?_
        show Steps p.tables e below (s₁.setTop (mkF m 17 #[.val (.int c)] [(.int c)])) tt
        refine XS.sipush X0.here hx rfl (hb hby d2_17) ?_
        show Steps p.tables e below (s₁.setTop (mkF m 20 #[.val (.int c)] [(.int (4448 : Int32)), (.int c)])) tt
        refine XS.icmpNo X0.here hx rfl (hb hby d2_20) rfl (flt (hr3.2 : ¬ ((4448 : Int32) < c))).2.2.1 ?_
        show Steps p.tables e below (s₁.setTop (mkF m 23 #[.val (.int c)] [])) tt
        refine XS.iconst X0.here hx rfl (hb hby d2_23) ?_
        exact kk
      obtain ⟨fs, hr, hrun, hended, hW, hsame⟩ := X0.leave (v := some (.int (1 : Int32))) (fun hq => by rw [Bd.returns] at hq; cases hq)
      refine ⟨_, _, k6 _ ?_, hrun, hended, _, _, rfl, ?_, ⟨_, rfl⟩, hW, hsame.mono (by decide) (by decide)⟩
      · show Steps p.tables e below (s₁.setTop (mkF m 24 #[.val (.int c)] [(.int (1 : Int32))])) _
        exact retN X0 hx (t := .boolean) Bd.returns (by simp) (hb hby d2_24) hr
      · show (fun (v : Option Value) (h : Heap) (L : List Loc) => v = some (.int (own_bl c)) ∧ Fr n0 L ∧ h = h0) _ s₁.heap _
        rw [e0]
        dsimp only
        refine ⟨?_, N0, rfl⟩
        have z1 := own_nltI (n := 4447) rfl hr3.1
        have y1 := own_ngtI (n := 4448) rfl hr3.2
        unfold own_bl
        rw [if_pos (show own_P c.toInt by unfold own_P; omega)]
    · have own_mark : True := trivial
      have k7 : ∀ tt, Steps p.tables e below (s₁.setTop (mkF m 25 #[.val (.int c)] [])) tt → Steps p.tables e below (s₁.setTop (entryFrame m #[(.int c)] 1)) tt := by
        intro tt kk
        refine k5 tt ?_
        by_cases q1 : c < (4447 : Int32)
        · show Steps p.tables e below (s₁.setTop (mkF m 9 #[.val (.int c)] [])) tt
          refine XS.iloadN X0.here hx rfl (hb hby d2_9) rfl ?_
          show Steps p.tables e below (s₁.setTop (mkF m 10 #[.val (.int c)] [(.int c)])) tt
          refine XS.sipush X0.here hx rfl (hb hby d2_10) ?_
          show Steps p.tables e below (s₁.setTop (mkF m 13 #[.val (.int c)] [(.int (4447 : Int32)), (.int c)])) tt
          refine XS.icmpYes X0.here hx rfl (pc0 := 13) (pc' := 25) rfl (hb hby d2_13) rfl (tlt (q1 : c < (4447 : Int32))).1 (by decide) (by decide) ?_
          exact kk
        · show Steps p.tables e below (s₁.setTop (mkF m 9 #[.val (.int c)] [])) tt
          refine XS.iloadN X0.here hx rfl (hb hby d2_9) rfl ?_
          show Steps p.tables e below (s₁.setTop (mkF m 10 #[.val (.int c)] [(.int c)])) tt
          refine XS.sipush X0.here hx rfl (hb hby d2_10) ?_
          show Steps p.tables e below (s₁.setTop (mkF m 13 #[.val (.int c)] [(.int (4447 : Int32)), (.int c)])) tt
          refine XS.icmpNo X0.here hx rfl (hb hby d2_13) rfl (flt (q1 : ¬ (c < (4447 : Int32)))).1 ?_
          show Steps p.tables e below (s₁.setTop (mkF m 16 #[.val (.int c)] [])) tt
          refine XS.iloadN X0.here hx rfl (hb hby d2_16) rfl ?_
          show Steps p.tables e below (s₁.setTop (mkF m 17 #[.val (.int c)] [(.int c)])) tt
          refine XS.sipush X0.here hx rfl (hb hby d2_17) ?_
          show Steps p.tables e below (s₁.setTop (mkF m 20 #[.val (.int c)] [(.int (4448 : Int32)), (.int c)])) tt
          refine XS.icmpYes X0.here hx rfl (pc0 := 20) (pc' := 25) rfl (hb hby d2_20) rfl (tlt (Decidable.of_not_not fun q2 => hr3 ⟨q1, q2⟩ : (4448 : Int32) < c)).2.2.1 (by decide) (by decide) ?_
          exact kk
      by_cases hr7 : ¬ (c < (6068 : Int32)) ∧ ¬ ((6069 : Int32) < c)
      · have k9 : ∀ tt, Steps p.tables e below (s₁.setTop (mkF m 40 #[.val (.int c)] [(.int (1 : Int32))])) tt → Steps p.tables e below (s₁.setTop (entryFrame m #[(.int c)] 1)) tt := by
          intro tt kk
          refine k7 tt ?_
          show Steps p.tables e below (s₁.setTop (mkF m 25 #[.val (.int c)] [])) tt
          refine XS.iloadN X0.here hx rfl (hb hby d2_25) rfl ?_
          show Steps p.tables e below (s₁.setTop (mkF m 26 #[.val (.int c)] [(.int c)])) tt
          refine XS.sipush X0.here hx rfl (hb hby d2_26) ?_
          show Steps p.tables e below (s₁.setTop (mkF m 29 #[.val (.int c)] [(.int (6068 : Int32)), (.int c)])) tt
          refine XS.icmpNo X0.here hx rfl (hb hby d2_29) rfl (flt (hr7.1 : ¬ (c < (6068 : Int32)))).1 ?_
          show Steps p.tables e below (s₁.setTop (mkF m 32 #[.val (.int c)] [])) tt
          refine XS.iloadN X0.here hx rfl (hb hby d2_32) rfl ?_
          show Steps p.tables e below (s₁.setTop (mkF m 33 #[.val (.int c)] [(.int c)])) tt
          refine XS.sipush X0.here hx rfl (hb hby d2_33) ?_
          show Steps p.tables e below (s₁.setTop (mkF m 36 #[.val (.int c)] [(.int (6069 : Int32)), (.int c)])) tt
          refine XS.icmpNo X0.here hx rfl (hb hby d2_36) rfl (flt (hr7.2 : ¬ ((6069 : Int32) < c))).2.2.1 ?_
          show Steps p.tables e below (s₁.setTop (mkF m 39 #[.val (.int c)] [])) tt
          refine XS.iconst X0.here hx rfl (hb hby d2_39) ?_
          exact kk
        obtain ⟨fs, hr, hrun, hended, hW, hsame⟩ := X0.leave (v := some (.int (1 : Int32))) (fun hq => by rw [Bd.returns] at hq; cases hq)
        refine ⟨_, _, k9 _ ?_, hrun, hended, _, _, rfl, ?_, ⟨_, rfl⟩, hW, hsame.mono (by decide) (by decide)⟩
        · show Steps p.tables e below (s₁.setTop (mkF m 40 #[.val (.int c)] [(.int (1 : Int32))])) _
          exact retN X0 hx (t := .boolean) Bd.returns (by simp) (hb hby d2_40) hr
        · show (fun (v : Option Value) (h : Heap) (L : List Loc) => v = some (.int (own_bl c)) ∧ Fr n0 L ∧ h = h0) _ s₁.heap _
          rw [e0]
          dsimp only
          refine ⟨?_, N0, rfl⟩
          have z2 := own_nltI (n := 6068) rfl hr7.1
          have y2 := own_ngtI (n := 6069) rfl hr7.2
          unfold own_bl
          rw [if_pos (show own_P c.toInt by unfold own_P; omega)]
      · have own_mark : True := trivial
        have k10 : ∀ tt, Steps p.tables e below (s₁.setTop (mkF m 41 #[.val (.int c)] [])) tt → Steps p.tables e below (s₁.setTop (entryFrame m #[(.int c)] 1)) tt := by
          intro tt kk
          refine k7 tt ?_
          by_cases q1 : c < (6068 : Int32)
          · show Steps p.tables e below (s₁.setTop (mkF m 25 #[.val (.int c)] [])) tt
            refine XS.iloadN X0.here hx rfl (hb hby d2_25) rfl ?_
            show Steps p.tables e below (s₁.setTop (mkF m 26 #[.val (.int c)] [(.int c)])) tt
            refine XS.sipush X0.here hx rfl (hb hby d2_26) ?_
            show Steps p.tables e below (s₁.setTop (mkF m 29 #[.val (.int c)] [(.int (6068 : Int32)), (.int c)])) tt
            refine XS.icmpYes X0.here hx rfl (pc0 := 29) (pc' := 41) rfl (hb hby d2_29) rfl (tlt (q1 : c < (6068 : Int32))).1 (by decide) (by decide) ?_
            exact kk
          · show Steps p.tables e below (s₁.setTop (mkF m 25 #[.val (.int c)] [])) tt
            refine XS.iloadN X0.here hx rfl (hb hby d2_25) rfl ?_
            show Steps p.tables e below (s₁.setTop (mkF m 26 #[.val (.int c)] [(.int c)])) tt
            refine XS.sipush X0.here hx rfl (hb hby d2_26) ?_
            show Steps p.tables e below (s₁.setTop (mkF m 29 #[.val (.int c)] [(.int (6068 : Int32)), (.int c)])) tt
            refine XS.icmpNo X0.here hx rfl (hb hby d2_29) rfl (flt (q1 : ¬ (c < (6068 : Int32)))).1 ?_
            show Steps p.tables e below (s₁.setTop (mkF m 32 #[.val (.int c)] [])) tt
            refine XS.iloadN X0.here hx rfl (hb hby d2_32) rfl ?_
            show Steps p.tables e below (s₁.setTop (mkF m 33 #[.val (.int c)] [(.int c)])) tt
            refine XS.sipush X0.here hx rfl (hb hby d2_33) ?_
            show Steps p.tables e below (s₁.setTop (mkF m 36 #[.val (.int c)] [(.int (6069 : Int32)), (.int c)])) tt
            refine XS.icmpYes X0.here hx rfl (pc0 := 36) (pc' := 41) rfl (hb hby d2_36) rfl (tlt (Decidable.of_not_not fun q2 => hr7 ⟨q1, q2⟩ : (6069 : Int32) < c)).2.2.1 (by decide) (by decide) ?_
            exact kk
        by_cases hr10 : ¬ (c < (6155 : Int32)) ∧ ¬ ((6157 : Int32) < c)
        · have k12 : ∀ tt, Steps p.tables e below (s₁.setTop (mkF m 56 #[.val (.int c)] [(.int (1 : Int32))])) tt → Steps p.tables e below (s₁.setTop (entryFrame m #[(.int c)] 1)) tt := by
            intro tt kk
            refine k10 tt ?_
            show Steps p.tables e below (s₁.setTop (mkF m 41 #[.val (.int c)] [])) tt
            refine XS.iloadN X0.here hx rfl (hb hby d2_41) rfl ?_
            show Steps p.tables e below (s₁.setTop (mkF m 42 #[.val (.int c)] [(.int c)])) tt
            refine XS.sipush X0.here hx rfl (hb hby d2_42) ?_
            show Steps p.tables e below (s₁.setTop (mkF m 45 #[.val (.int c)] [(.int (6155 : Int32)), (.int c)])) tt
            refine XS.icmpNo X0.here hx rfl (hb hby d2_45) rfl (flt (hr10.1 : ¬ (c < (6155 : Int32)))).1 ?_
            show Steps p.tables e below (s₁.setTop (mkF m 48 #[.val (.int c)] [])) tt
            refine XS.iloadN X0.here hx rfl (hb hby d2_48) rfl ?_
            show Steps p.tables e below (s₁.setTop (mkF m 49 #[.val (.int c)] [(.int c)])) tt
            refine XS.sipush X0.here hx rfl (hb hby d2_49) ?_
            show Steps p.tables e below (s₁.setTop (mkF m 52 #[.val (.int c)] [(.int (6157 : Int32)), (.int c)])) tt
            refine XS.icmpNo X0.here hx rfl (hb hby d2_52) rfl (flt (hr10.2 : ¬ ((6157 : Int32) < c))).2.2.1 ?_
            show Steps p.tables e below (s₁.setTop (mkF m 55 #[.val (.int c)] [])) tt
            refine XS.iconst X0.here hx rfl (hb hby d2_55) ?_
            exact kk
          obtain ⟨fs, hr, hrun, hended, hW, hsame⟩ := X0.leave (v := some (.int (1 : Int32))) (fun hq => by rw [Bd.returns] at hq; cases hq)
          refine ⟨_, _, k12 _ ?_, hrun, hended, _, _, rfl, ?_, ⟨_, rfl⟩, hW, hsame.mono (by decide) (by decide)⟩
          · show Steps p.tables e below (s₁.setTop (mkF m 56 #[.val (.int c)] [(.int (1 : Int32))])) _
            exact retN X0 hx (t := .boolean) Bd.returns (by simp) (hb hby d2_56) hr
          · show (fun (v : Option Value) (h : Heap) (L : List Loc) => v = some (.int (own_bl c)) ∧ Fr n0 L ∧ h = h0) _ s₁.heap _
            rw [e0]
            dsimp only
            refine ⟨?_, N0, rfl⟩
            have z3 := own_nltI (n := 6155) rfl hr10.1
            have y3 := own_ngtI (n := 6157) rfl hr10.2
            unfold own_bl
            rw [if_pos (show own_P c.toInt by unfold own_P; omega)]
        · have own_mark : True := trivial
          have k13 : ∀ tt, Steps p.tables e below (s₁.setTop (mkF m 57 #[.val (.int c)] [])) tt → Steps p.tables e below (s₁.setTop (entryFrame m #[(.int c)] 1)) tt := by
            intro tt kk
            refine k10 tt ?_
            by_cases q1 : c < (6155 : Int32)
            · show Steps p.tables e below (s₁.setTop (mkF m 41 #[.val (.int c)] [])) tt
              refine XS.iloadN X0.here hx rfl (hb hby d2_41) rfl ?_
              show Steps p.tables e below (s₁.setTop (mkF m 42 #[.val (.int c)] [(.int c)])) tt
              refine XS.sipush X0.here hx rfl (hb hby d2_42) ?_
              show Steps p.tables e below (s₁.setTop (mkF m 45 #[.val (.int c)] [(.int (6155 : Int32)), (.int c)])) tt
              refine XS.icmpYes X0.here hx rfl (pc0 := 45) (pc' := 57) rfl (hb hby d2_45) rfl (tlt (q1 : c < (6155 : Int32))).1 (by decide) (by decide) ?_
              exact kk
            · show Steps p.tables e below (s₁.setTop (mkF m 41 #[.val (.int c)] [])) tt
              refine XS.iloadN X0.here hx rfl (hb hby d2_41) rfl ?_
              show Steps p.tables e below (s₁.setTop (mkF m 42 #[.val (.int c)] [(.int c)])) tt
              refine XS.sipush X0.here hx rfl (hb hby d2_42) ?_
              show Steps p.tables e below (s₁.setTop (mkF m 45 #[.val (.int c)] [(.int (6155 : Int32)), (.int c)])) tt
              refine XS.icmpNo X0.here hx rfl (hb hby d2_45) rfl (flt (q1 : ¬ (c < (6155 : Int32)))).1 ?_
              show Steps p.tables e below (s₁.setTop (mkF m 48 #[.val (.int c)] [])) tt
              refine XS.iloadN X0.here hx rfl (hb hby d2_48) rfl ?_
              show Steps p.tables e below (s₁.setTop (mkF m 49 #[.val (.int c)] [(.int c)])) tt
              refine XS.sipush X0.here hx rfl (hb hby d2_49) ?_
              show Steps p.tables e below (s₁.setTop (mkF m 52 #[.val (.int c)] [(.int (6157 : Int32)), (.int c)])) tt
              refine XS.icmpYes X0.here hx rfl (pc0 := 52) (pc' := 57) rfl (hb hby d2_52) rfl (tlt (Decidable.of_not_not fun q2 => hr10 ⟨q1, q2⟩ : (6157 : Int32) < c)).2.2.1 (by decide) (by decide) ?_
              exact kk
          have k15 : ∀ tt, Steps p.tables e below (s₁.setTop (mkF m 61 #[.val (.int c)] [(.int (6159 : Int32)), (.int c)])) tt → Steps p.tables e below (s₁.setTop (entryFrame m #[(.int c)] 1)) tt := by
            intro tt kk
            refine k13 tt ?_
            show Steps p.tables e below (s₁.setTop (mkF m 57 #[.val (.int c)] [])) tt
            refine XS.iloadN X0.here hx rfl (hb hby d2_57) rfl ?_
            show Steps p.tables e below (s₁.setTop (mkF m 58 #[.val (.int c)] [(.int c)])) tt
            refine XS.sipush X0.here hx rfl (hb hby d2_58) ?_
            exact kk
          by_cases hc13 : c = (6159 : Int32)
          · have k16 : ∀ tt, Steps p.tables e below (s₁.setTop (mkF m 65 #[.val (.int c)] [(.int (1 : Int32))])) tt → Steps p.tables e below (s₁.setTop (entryFrame m #[(.int c)] 1)) tt := by
              intro tt kk
              refine k15 tt ?_
              show Steps p.tables e below (s₁.setTop (mkF m 61 #[.val (.int c)] [(.int (6159 : Int32)), (.int c)])) tt
              refine XS.icmpNo X0.here hx rfl (hb hby d2_61) rfl (teq (hc13 : c = (6159 : Int32))).2 ?_
              show Steps p.tables e below (s₁.setTop (mkF m 64 #[.val (.int c)] [])) tt
              refine XS.iconst X0.here hx rfl (hb hby d2_64) ?_
              exact kk
            obtain ⟨fs, hr, hrun, hended, hW, hsame⟩ := X0.leave (v := some (.int (1 : Int32))) (fun hq => by rw [Bd.returns] at hq; cases hq)
            refine ⟨_, _, k16 _ ?_, hrun, hended, _, _, rfl, ?_, ⟨_, rfl⟩, hW, hsame.mono (by decide) (by decide)⟩
            · show Steps p.tables e below (s₁.setTop (mkF m 65 #[.val (.int c)] [(.int (1 : Int32))])) _
              exact retN X0 hx (t := .boolean) Bd.returns (by simp) (hb hby d2_65) hr
            · show (fun (v : Option Value) (h : Heap) (L : List Loc) => v = some (.int (own_bl c)) ∧ Fr n0 L ∧ h = h0) _ s₁.heap _
              rw [e0]
              dsimp only
              refine ⟨?_, N0, rfl⟩
              have z4 := own_eqI (n := 6159) rfl hc13
              unfold own_bl
              rw [if_pos (show own_P c.toInt by unfold own_P; omega)]
          · have k18 : ∀ tt, Steps p.tables e below (s₁.setTop (mkF m 70 #[.val (.int c)] [(.int (8293 : Int32)), (.int c)])) tt → Steps p.tables e below (s₁.setTop (entryFrame m #[(.int c)] 1)) tt := by
              intro tt kk
              refine k15 tt ?_
              show Steps p.tables e below (s₁.setTop (mkF m 61 #[.val (.int c)] [(.int (6159 : Int32)), (.int c)])) tt
              refine XS.icmpYes X0.here hx rfl (pc0 := 61) (pc' := 66) rfl (hb hby d2_61) rfl (feq (hc13 : ¬ (c = (6159 : Int32)))).2 (by decide) (by decide) ?_
              show Steps p.tables e below (s₁.setTop (mkF m 66 #[.val (.int c)] [])) tt
              refine XS.iloadN X0.here hx rfl (hb hby d2_66) rfl ?_
              show Steps p.tables e below (s₁.setTop (mkF m 67 #[.val (.int c)] [(.int c)])) tt
              refine XS.sipush X0.here hx rfl (hb hby d2_67) ?_
              exact kk
            by_cases hc16 : c = (8293 : Int32)
            · have k19 : ∀ tt, Steps p.tables e below (s₁.setTop (mkF m 74 #[.val (.int c)] [(.int (1 : Int32))])) tt → Steps p.tables e below (s₁.setTop (entryFrame m #[(.int c)] 1)) tt := by
                intro tt kk
                refine k18 tt ?_
                show Steps p.tables e below (s₁.setTop (mkF m 70 #[.val (.int c)] [(.int (8293 : Int32)), (.int c)])) tt
                refine XS.icmpNo X0.here hx rfl (hb hby d2_70) rfl (teq (hc16 : c = (8293 : Int32))).2 ?_
                show Steps p.tables e below (s₁.setTop (mkF m 73 #[.val (.int c)] [])) tt
                refine XS.iconst X0.here hx rfl (hb hby d2_73) ?_
                exact kk
              obtain ⟨fs, hr, hrun, hended, hW, hsame⟩ := X0.leave (v := some (.int (1 : Int32))) (fun hq => by rw [Bd.returns] at hq; cases hq)
              refine ⟨_, _, k19 _ ?_, hrun, hended, _, _, rfl, ?_, ⟨_, rfl⟩, hW, hsame.mono (by decide) (by decide)⟩
              · show Steps p.tables e below (s₁.setTop (mkF m 74 #[.val (.int c)] [(.int (1 : Int32))])) _
                exact retN X0 hx (t := .boolean) Bd.returns (by simp) (hb hby d2_74) hr
              · show (fun (v : Option Value) (h : Heap) (L : List Loc) => v = some (.int (own_bl c)) ∧ Fr n0 L ∧ h = h0) _ s₁.heap _
                rw [e0]
                dsimp only
                refine ⟨?_, N0, rfl⟩
                have z5 := own_eqI (n := 8293) rfl hc16
                unfold own_bl
                rw [if_pos (show own_P c.toInt by unfold own_P; omega)]
            · have k21 : ∀ tt, Steps p.tables e below (s₁.setTop (mkF m 79 #[.val (.int c)] [(.int (10240 : Int32)), (.int c)])) tt → Steps p.tables e below (s₁.setTop (entryFrame m #[(.int c)] 1)) tt := by
                intro tt kk
                refine k18 tt ?_
                show Steps p.tables e below (s₁.setTop (mkF m 70 #[.val (.int c)] [(.int (8293 : Int32)), (.int c)])) tt
                refine XS.icmpYes X0.here hx rfl (pc0 := 70) (pc' := 75) rfl (hb hby d2_70) rfl (feq (hc16 : ¬ (c = (8293 : Int32)))).2 (by decide) (by decide) ?_
                show Steps p.tables e below (s₁.setTop (mkF m 75 #[.val (.int c)] [])) tt
                refine XS.iloadN X0.here hx rfl (hb hby d2_75) rfl ?_
                show Steps p.tables e below (s₁.setTop (mkF m 76 #[.val (.int c)] [(.int c)])) tt
                refine XS.sipush X0.here hx rfl (hb hby d2_76) ?_
                exact kk
              by_cases hc19 : c = (10240 : Int32)
              · have k22 : ∀ tt, Steps p.tables e below (s₁.setTop (mkF m 83 #[.val (.int c)] [(.int (1 : Int32))])) tt → Steps p.tables e below (s₁.setTop (entryFrame m #[(.int c)] 1)) tt := by
                  intro tt kk
                  refine k21 tt ?_
                  show Steps p.tables e below (s₁.setTop (mkF m 79 #[.val (.int c)] [(.int (10240 : Int32)), (.int c)])) tt
                  refine XS.icmpNo X0.here hx rfl (hb hby d2_79) rfl (teq (hc19 : c = (10240 : Int32))).2 ?_
                  show Steps p.tables e below (s₁.setTop (mkF m 82 #[.val (.int c)] [])) tt
                  refine XS.iconst X0.here hx rfl (hb hby d2_82) ?_
                  exact kk
                obtain ⟨fs, hr, hrun, hended, hW, hsame⟩ := X0.leave (v := some (.int (1 : Int32))) (fun hq => by rw [Bd.returns] at hq; cases hq)
                refine ⟨_, _, k22 _ ?_, hrun, hended, _, _, rfl, ?_, ⟨_, rfl⟩, hW, hsame.mono (by decide) (by decide)⟩
                · show Steps p.tables e below (s₁.setTop (mkF m 83 #[.val (.int c)] [(.int (1 : Int32))])) _
                  exact retN X0 hx (t := .boolean) Bd.returns (by simp) (hb hby d2_83) hr
                · show (fun (v : Option Value) (h : Heap) (L : List Loc) => v = some (.int (own_bl c)) ∧ Fr n0 L ∧ h = h0) _ s₁.heap _
                  rw [e0]
                  dsimp only
                  refine ⟨?_, N0, rfl⟩
                  have z6 := own_eqI (n := 10240) rfl hc19
                  unfold own_bl
                  rw [if_pos (show own_P c.toInt by unfold own_P; omega)]
              · have k24 : ∀ tt, Steps p.tables e below (s₁.setTop (mkF m 88 #[.val (.int c)] [(.int (12644 : Int32)), (.int c)])) tt → Steps p.tables e below (s₁.setTop (entryFrame m #[(.int c)] 1)) tt := by
                  intro tt kk
                  refine k21 tt ?_
                  show Steps p.tables e below (s₁.setTop (mkF m 79 #[.val (.int c)] [(.int (10240 : Int32)), (.int c)])) tt
                  refine XS.icmpYes X0.here hx rfl (pc0 := 79) (pc' := 84) rfl (hb hby d2_79) rfl (feq (hc19 : ¬ (c = (10240 : Int32)))).2 (by decide) (by decide) ?_
                  show Steps p.tables e below (s₁.setTop (mkF m 84 #[.val (.int c)] [])) tt
                  refine XS.iloadN X0.here hx rfl (hb hby d2_84) rfl ?_
                  show Steps p.tables e below (s₁.setTop (mkF m 85 #[.val (.int c)] [(.int c)])) tt
                  refine XS.sipush X0.here hx rfl (hb hby d2_85) ?_
                  exact kk
                by_cases hc22 : c = (12644 : Int32)
                · have k25 : ∀ tt, Steps p.tables e below (s₁.setTop (mkF m 92 #[.val (.int c)] [(.int (1 : Int32))])) tt → Steps p.tables e below (s₁.setTop (entryFrame m #[(.int c)] 1)) tt := by
                    intro tt kk
                    refine k24 tt ?_
                    show Steps p.tables e below (s₁.setTop (mkF m 88 #[.val (.int c)] [(.int (12644 : Int32)), (.int c)])) tt
                    refine XS.icmpNo X0.here hx rfl (hb hby d2_88) rfl (teq (hc22 : c = (12644 : Int32))).2 ?_
                    show Steps p.tables e below (s₁.setTop (mkF m 91 #[.val (.int c)] [])) tt
                    refine XS.iconst X0.here hx rfl (hb hby d2_91) ?_
                    exact kk
                  obtain ⟨fs, hr, hrun, hended, hW, hsame⟩ := X0.leave (v := some (.int (1 : Int32))) (fun hq => by rw [Bd.returns] at hq; cases hq)
                  refine ⟨_, _, k25 _ ?_, hrun, hended, _, _, rfl, ?_, ⟨_, rfl⟩, hW, hsame.mono (by decide) (by decide)⟩
                  · show Steps p.tables e below (s₁.setTop (mkF m 92 #[.val (.int c)] [(.int (1 : Int32))])) _
                    exact retN X0 hx (t := .boolean) Bd.returns (by simp) (hb hby d2_92) hr
                  · show (fun (v : Option Value) (h : Heap) (L : List Loc) => v = some (.int (own_bl c)) ∧ Fr n0 L ∧ h = h0) _ s₁.heap _
                    rw [e0]
                    dsimp only
                    refine ⟨?_, N0, rfl⟩
                    have z7 := own_eqI (n := 12644) rfl hc22
                    unfold own_bl
                    rw [if_pos (show own_P c.toInt by unfold own_P; omega)]
                · have k27 : ∀ tt, Steps p.tables e below (s₁.setTop (mkF m 93 #[.val (.int c)] [])) tt → Steps p.tables e below (s₁.setTop (entryFrame m #[(.int c)] 1)) tt := by
                    intro tt kk
                    refine k24 tt ?_
                    show Steps p.tables e below (s₁.setTop (mkF m 88 #[.val (.int c)] [(.int (12644 : Int32)), (.int c)])) tt
                    refine XS.icmpYes X0.here hx rfl (pc0 := 88) (pc' := 93) rfl (hb hby d2_88) rfl (feq (hc22 : ¬ (c = (12644 : Int32)))).2 (by decide) (by decide) ?_
                    exact kk
                  by_cases hr25 : ¬ (c < (65024 : Int32)) ∧ ¬ ((65039 : Int32) < c)
                  · have k28 : ∀ tt, Steps p.tables e below (s₁.setTop (mkF m 106 #[.val (.int c)] [(.int (1 : Int32))])) tt → Steps p.tables e below (s₁.setTop (entryFrame m #[(.int c)] 1)) tt := by
                      intro tt kk
                      refine k27 tt ?_
                      show Steps p.tables e below (s₁.setTop (mkF m 93 #[.val (.int c)] [])) tt
                      refine XS.iloadN X0.here hx rfl (hb hby d2_93) rfl ?_
                      show Steps p.tables e below (s₁.setTop (mkF m 94 #[.val (.int c)] [(.int c)])) tt
                      refine X0.ldcInt hx hown (mvT hZ (hw _ (List.mem_of_getElem? (i := 10) rfl))) (g := (mkF m 94 #[.val (.int c)] [(.int c)])) rfl (hb hby d2_94) _ ?_
                      show Steps p.tables e below (s₁.setTop (mkF m 96 #[.val (.int c)] [(.int (65024 : Int32)), (.int c)])) tt
                      refine XS.icmpNo X0.here hx rfl (hb hby d2_96) rfl (flt (hr25.1 : ¬ (c < (65024 : Int32)))).1 ?_
                      show Steps p.tables e below (s₁.setTop (mkF m 99 #[.val (.int c)] [])) tt
                      refine XS.iloadN X0.here hx rfl (hb hby d2_99) rfl ?_
                      show Steps p.tables e below (s₁.setTop (mkF m 100 #[.val (.int c)] [(.int c)])) tt
                      refine X0.ldcInt hx hown (mvT hZ (hw _ (List.mem_of_getElem? (i := 17) rfl))) (g := (mkF m 100 #[.val (.int c)] [(.int c)])) rfl (hb hby d2_100) _ ?_
                      show Steps p.tables e below (s₁.setTop (mkF m 102 #[.val (.int c)] [(.int (65039 : Int32)), (.int c)])) tt
                      refine XS.icmpNo X0.here hx rfl (hb hby d2_102) rfl (flt (hr25.2 : ¬ ((65039 : Int32) < c))).2.2.1 ?_
                      show Steps p.tables e below (s₁.setTop (mkF m 105 #[.val (.int c)] [])) tt
                      refine XS.iconst X0.here hx rfl (hb hby d2_105) ?_
                      exact kk
                    obtain ⟨fs, hr, hrun, hended, hW, hsame⟩ := X0.leave (v := some (.int (1 : Int32))) (fun hq => by rw [Bd.returns] at hq; cases hq)
                    refine ⟨_, _, k28 _ ?_, hrun, hended, _, _, rfl, ?_, ⟨_, rfl⟩, hW, hsame.mono (by decide) (by decide)⟩
                    · show Steps p.tables e below (s₁.setTop (mkF m 106 #[.val (.int c)] [(.int (1 : Int32))])) _
                      exact retN X0 hx (t := .boolean) Bd.returns (by simp) (hb hby d2_106) hr
                    · show (fun (v : Option Value) (h : Heap) (L : List Loc) => v = some (.int (own_bl c)) ∧ Fr n0 L ∧ h = h0) _ s₁.heap _
                      rw [e0]
                      dsimp only
                      refine ⟨?_, N0, rfl⟩
                      have z8 := own_nltI (n := 65024) rfl hr25.1
                      have y8 := own_ngtI (n := 65039) rfl hr25.2
                      unfold own_bl
                      rw [if_pos (show own_P c.toInt by unfold own_P; omega)]
                  · have own_mark : True := trivial
                    have k29 : ∀ tt, Steps p.tables e below (s₁.setTop (mkF m 107 #[.val (.int c)] [])) tt → Steps p.tables e below (s₁.setTop (entryFrame m #[(.int c)] 1)) tt := by
                      intro tt kk
                      refine k27 tt ?_
                      by_cases q1 : c < (65024 : Int32)
                      · show Steps p.tables e below (s₁.setTop (mkF m 93 #[.val (.int c)] [])) tt
                        refine XS.iloadN X0.here hx rfl (hb hby d2_93) rfl ?_
                        show Steps p.tables e below (s₁.setTop (mkF m 94 #[.val (.int c)] [(.int c)])) tt
                        refine X0.ldcInt hx hown (mvT hZ (hw _ (List.mem_of_getElem? (i := 10) rfl))) (g := (mkF m 94 #[.val (.int c)] [(.int c)])) rfl (hb hby d2_94) _ ?_
                        show Steps p.tables e below (s₁.setTop (mkF m 96 #[.val (.int c)] [(.int (65024 : Int32)), (.int c)])) tt
                        refine XS.icmpYes X0.here hx rfl (pc0 := 96) (pc' := 107) rfl (hb hby d2_96) rfl (tlt (q1 : c < (65024 : Int32))).1 (by decide) (by decide) ?_
                        exact kk
                      · show Steps p.tables e below (s₁.setTop (mkF m 93 #[.val (.int c)] [])) tt
                        refine XS.iloadN X0.here hx rfl (hb hby d2_93) rfl ?_
                        show Steps p.tables e below (s₁.setTop (mkF m 94 #[.val (.int c)] [(.int c)])) tt
                        refine X0.ldcInt hx hown (mvT hZ (hw _ (List.mem_of_getElem? (i := 10) rfl))) (g := (mkF m 94 #[.val (.int c)] [(.int c)])) rfl (hb hby d2_94) _ ?_
                        show Steps p.tables e below (s₁.setTop (mkF m 96 #[.val (.int c)] [(.int (65024 : Int32)), (.int c)])) tt
                        refine XS.icmpNo X0.here hx rfl (hb hby d2_96) rfl (flt (q1 : ¬ (c < (65024 : Int32)))).1 ?_
                        show Steps p.tables e below (s₁.setTop (mkF m 99 #[.val (.int c)] [])) tt
                        refine XS.iloadN X0.here hx rfl (hb hby d2_99) rfl ?_
                        show Steps p.tables e below (s₁.setTop (mkF m 100 #[.val (.int c)] [(.int c)])) tt
                        refine X0.ldcInt hx hown (mvT hZ (hw _ (List.mem_of_getElem? (i := 17) rfl))) (g := (mkF m 100 #[.val (.int c)] [(.int c)])) rfl (hb hby d2_100) _ ?_
                        show Steps p.tables e below (s₁.setTop (mkF m 102 #[.val (.int c)] [(.int (65039 : Int32)), (.int c)])) tt
                        refine XS.icmpYes X0.here hx rfl (pc0 := 102) (pc' := 107) rfl (hb hby d2_102) rfl (tlt (Decidable.of_not_not fun q2 => hr25 ⟨q1, q2⟩ : (65039 : Int32) < c)).2.2.1 (by decide) (by decide) ?_
                        exact kk
                    have k31 : ∀ tt, Steps p.tables e below (s₁.setTop (mkF m 110 #[.val (.int c)] [(.int (65440 : Int32)), (.int c)])) tt → Steps p.tables e below (s₁.setTop (entryFrame m #[(.int c)] 1)) tt := by
                      intro tt kk
                      refine k29 tt ?_
                      show Steps p.tables e below (s₁.setTop (mkF m 107 #[.val (.int c)] [])) tt
                      refine XS.iloadN X0.here hx rfl (hb hby d2_107) rfl ?_
                      show Steps p.tables e below (s₁.setTop (mkF m 108 #[.val (.int c)] [(.int c)])) tt
                      refine X0.ldcInt hx hown (mvT hZ (hw _ (List.mem_of_getElem? (i := 11) rfl))) (g := (mkF m 108 #[.val (.int c)] [(.int c)])) rfl (hb hby d2_108) _ ?_
                      exact kk
                    by_cases hc29 : c = (65440 : Int32)
                    · have k32 : ∀ tt, Steps p.tables e below (s₁.setTop (mkF m 114 #[.val (.int c)] [(.int (1 : Int32))])) tt → Steps p.tables e below (s₁.setTop (entryFrame m #[(.int c)] 1)) tt := by
                        intro tt kk
                        refine k31 tt ?_
                        show Steps p.tables e below (s₁.setTop (mkF m 110 #[.val (.int c)] [(.int (65440 : Int32)), (.int c)])) tt
                        refine XS.icmpNo X0.here hx rfl (hb hby d2_110) rfl (teq (hc29 : c = (65440 : Int32))).2 ?_
                        show Steps p.tables e below (s₁.setTop (mkF m 113 #[.val (.int c)] [])) tt
                        refine XS.iconst X0.here hx rfl (hb hby d2_113) ?_
                        exact kk
                      obtain ⟨fs, hr, hrun, hended, hW, hsame⟩ := X0.leave (v := some (.int (1 : Int32))) (fun hq => by rw [Bd.returns] at hq; cases hq)
                      refine ⟨_, _, k32 _ ?_, hrun, hended, _, _, rfl, ?_, ⟨_, rfl⟩, hW, hsame.mono (by decide) (by decide)⟩
                      · show Steps p.tables e below (s₁.setTop (mkF m 114 #[.val (.int c)] [(.int (1 : Int32))])) _
                        exact retN X0 hx (t := .boolean) Bd.returns (by simp) (hb hby d2_114) hr
                      · show (fun (v : Option Value) (h : Heap) (L : List Loc) => v = some (.int (own_bl c)) ∧ Fr n0 L ∧ h = h0) _ s₁.heap _
                        rw [e0]
                        dsimp only
                        refine ⟨?_, N0, rfl⟩
                        have z9 := own_eqI (n := 65440) rfl hc29
                        unfold own_bl
                        rw [if_pos (show own_P c.toInt by unfold own_P; omega)]
                    · have k34 : ∀ tt, Steps p.tables e below (s₁.setTop (mkF m 115 #[.val (.int c)] [])) tt → Steps p.tables e below (s₁.setTop (entryFrame m #[(.int c)] 1)) tt := by
                        intro tt kk
                        refine k31 tt ?_
                        show Steps p.tables e below (s₁.setTop (mkF m 110 #[.val (.int c)] [(.int (65440 : Int32)), (.int c)])) tt
                        refine XS.icmpYes X0.here hx rfl (pc0 := 110) (pc' := 115) rfl (hb hby d2_110) rfl (feq (hc29 : ¬ (c = (65440 : Int32)))).2 (by decide) (by decide) ?_
                        exact kk
                      by_cases hr32 : ¬ (c < (65520 : Int32)) ∧ ¬ ((65528 : Int32) < c)
                      · have k35 : ∀ tt, Steps p.tables e below (s₁.setTop (mkF m 128 #[.val (.int c)] [(.int (1 : Int32))])) tt → Steps p.tables e below (s₁.setTop (entryFrame m #[(.int c)] 1)) tt := by
                          intro tt kk
                          refine k34 tt ?_
                          show Steps p.tables e below (s₁.setTop (mkF m 115 #[.val (.int c)] [])) tt
                          refine XS.iloadN X0.here hx rfl (hb hby d2_115) rfl ?_
                          show Steps p.tables e below (s₁.setTop (mkF m 116 #[.val (.int c)] [(.int c)])) tt
                          refine X0.ldcInt hx hown (mvT hZ (hw _ (List.mem_of_getElem? (i := 12) rfl))) (g := (mkF m 116 #[.val (.int c)] [(.int c)])) rfl (hb hby d2_116) _ ?_
                          show Steps p.tables e below (s₁.setTop (mkF m 118 #[.val (.int c)] [(.int (65520 : Int32)), (.int c)])) tt
                          refine XS.icmpNo X0.here hx rfl (hb hby d2_118) rfl (flt (hr32.1 : ¬ (c < (65520 : Int32)))).1 ?_
                          show Steps p.tables e below (s₁.setTop (mkF m 121 #[.val (.int c)] [])) tt
                          refine XS.iloadN X0.here hx rfl (hb hby d2_121) rfl ?_
                          show Steps p.tables e below (s₁.setTop (mkF m 122 #[.val (.int c)] [(.int c)])) tt
                          refine X0.ldcInt hx hown (mvT hZ (hw _ (List.mem_of_getElem? (i := 18) rfl))) (g := (mkF m 122 #[.val (.int c)] [(.int c)])) rfl (hb hby d2_122) _ ?_
                          show Steps p.tables e below (s₁.setTop (mkF m 124 #[.val (.int c)] [(.int (65528 : Int32)), (.int c)])) tt
                          refine XS.icmpNo X0.here hx rfl (hb hby d2_124) rfl (flt (hr32.2 : ¬ ((65528 : Int32) < c))).2.2.1 ?_
                          show Steps p.tables e below (s₁.setTop (mkF m 127 #[.val (.int c)] [])) tt
                          refine XS.iconst X0.here hx rfl (hb hby d2_127) ?_
                          exact kk
                        obtain ⟨fs, hr, hrun, hended, hW, hsame⟩ := X0.leave (v := some (.int (1 : Int32))) (fun hq => by rw [Bd.returns] at hq; cases hq)
                        refine ⟨_, _, k35 _ ?_, hrun, hended, _, _, rfl, ?_, ⟨_, rfl⟩, hW, hsame.mono (by decide) (by decide)⟩
                        · show Steps p.tables e below (s₁.setTop (mkF m 128 #[.val (.int c)] [(.int (1 : Int32))])) _
                          exact retN X0 hx (t := .boolean) Bd.returns (by simp) (hb hby d2_128) hr
                        · show (fun (v : Option Value) (h : Heap) (L : List Loc) => v = some (.int (own_bl c)) ∧ Fr n0 L ∧ h = h0) _ s₁.heap _
                          rw [e0]
                          dsimp only
                          refine ⟨?_, N0, rfl⟩
                          have z10 := own_nltI (n := 65520) rfl hr32.1
                          have y10 := own_ngtI (n := 65528) rfl hr32.2
                          unfold own_bl
                          rw [if_pos (show own_P c.toInt by unfold own_P; omega)]
                      · have own_mark : True := trivial
                        have k36 : ∀ tt, Steps p.tables e below (s₁.setTop (mkF m 129 #[.val (.int c)] [])) tt → Steps p.tables e below (s₁.setTop (entryFrame m #[(.int c)] 1)) tt := by
                          intro tt kk
                          refine k34 tt ?_
                          by_cases q1 : c < (65520 : Int32)
                          · show Steps p.tables e below (s₁.setTop (mkF m 115 #[.val (.int c)] [])) tt
                            refine XS.iloadN X0.here hx rfl (hb hby d2_115) rfl ?_
                            show Steps p.tables e below (s₁.setTop (mkF m 116 #[.val (.int c)] [(.int c)])) tt
                            refine X0.ldcInt hx hown (mvT hZ (hw _ (List.mem_of_getElem? (i := 12) rfl))) (g := (mkF m 116 #[.val (.int c)] [(.int c)])) rfl (hb hby d2_116) _ ?_
                            show Steps p.tables e below (s₁.setTop (mkF m 118 #[.val (.int c)] [(.int (65520 : Int32)), (.int c)])) tt
                            refine XS.icmpYes X0.here hx rfl (pc0 := 118) (pc' := 129) rfl (hb hby d2_118) rfl (tlt (q1 : c < (65520 : Int32))).1 (by decide) (by decide) ?_
                            exact kk
                          · show Steps p.tables e below (s₁.setTop (mkF m 115 #[.val (.int c)] [])) tt
                            refine XS.iloadN X0.here hx rfl (hb hby d2_115) rfl ?_
                            show Steps p.tables e below (s₁.setTop (mkF m 116 #[.val (.int c)] [(.int c)])) tt
                            refine X0.ldcInt hx hown (mvT hZ (hw _ (List.mem_of_getElem? (i := 12) rfl))) (g := (mkF m 116 #[.val (.int c)] [(.int c)])) rfl (hb hby d2_116) _ ?_
                            show Steps p.tables e below (s₁.setTop (mkF m 118 #[.val (.int c)] [(.int (65520 : Int32)), (.int c)])) tt
                            refine XS.icmpNo X0.here hx rfl (hb hby d2_118) rfl (flt (q1 : ¬ (c < (65520 : Int32)))).1 ?_
                            show Steps p.tables e below (s₁.setTop (mkF m 121 #[.val (.int c)] [])) tt
                            refine XS.iloadN X0.here hx rfl (hb hby d2_121) rfl ?_
                            show Steps p.tables e below (s₁.setTop (mkF m 122 #[.val (.int c)] [(.int c)])) tt
                            refine X0.ldcInt hx hown (mvT hZ (hw _ (List.mem_of_getElem? (i := 18) rfl))) (g := (mkF m 122 #[.val (.int c)] [(.int c)])) rfl (hb hby d2_122) _ ?_
                            show Steps p.tables e below (s₁.setTop (mkF m 124 #[.val (.int c)] [(.int (65528 : Int32)), (.int c)])) tt
                            refine XS.icmpYes X0.here hx rfl (pc0 := 124) (pc' := 129) rfl (hb hby d2_124) rfl (tlt (Decidable.of_not_not fun q2 => hr32 ⟨q1, q2⟩ : (65528 : Int32) < c)).2.2.1 (by decide) (by decide) ?_
                            exact kk
                        have k38 : ∀ tt, Steps p.tables e below (s₁.setTop (mkF m 132 #[.val (.int c)] [(.int (917504 : Int32)), (.int c)])) tt → Steps p.tables e below (s₁.setTop (entryFrame m #[(.int c)] 1)) tt := by
                          intro tt kk
                          refine k36 tt ?_
                          show Steps p.tables e below (s₁.setTop (mkF m 129 #[.val (.int c)] [])) tt
                          refine XS.iloadN X0.here hx rfl (hb hby d2_129) rfl ?_
                          show Steps p.tables e below (s₁.setTop (mkF m 130 #[.val (.int c)] [(.int c)])) tt
                          refine X0.ldcInt hx hown (mvT hZ (hw _ (List.mem_of_getElem? (i := 13) rfl))) (g := (mkF m 130 #[.val (.int c)] [(.int c)])) rfl (hb hby d2_130) _ ?_
                          exact kk
                        by_cases hc36 : c = (917504 : Int32)
                        · have k39 : ∀ tt, Steps p.tables e below (s₁.setTop (mkF m 136 #[.val (.int c)] [(.int (1 : Int32))])) tt → Steps p.tables e below (s₁.setTop (entryFrame m #[(.int c)] 1)) tt := by
                            intro tt kk
                            refine k38 tt ?_
                            show Steps p.tables e below (s₁.setTop (mkF m 132 #[.val (.int c)] [(.int (917504 : Int32)), (.int c)])) tt
                            refine XS.icmpNo X0.here hx rfl (hb hby d2_132) rfl (teq (hc36 : c = (917504 : Int32))).2 ?_
                            show Steps p.tables e below (s₁.setTop (mkF m 135 #[.val (.int c)] [])) tt
                            refine XS.iconst X0.here hx rfl (hb hby d2_135) ?_
                            exact kk
                          obtain ⟨fs, hr, hrun, hended, hW, hsame⟩ := X0.leave (v := some (.int (1 : Int32))) (fun hq => by rw [Bd.returns] at hq; cases hq)
                          refine ⟨_, _, k39 _ ?_, hrun, hended, _, _, rfl, ?_, ⟨_, rfl⟩, hW, hsame.mono (by decide) (by decide)⟩
                          · show Steps p.tables e below (s₁.setTop (mkF m 136 #[.val (.int c)] [(.int (1 : Int32))])) _
                            exact retN X0 hx (t := .boolean) Bd.returns (by simp) (hb hby d2_136) hr
                          · show (fun (v : Option Value) (h : Heap) (L : List Loc) => v = some (.int (own_bl c)) ∧ Fr n0 L ∧ h = h0) _ s₁.heap _
                            rw [e0]
                            dsimp only
                            refine ⟨?_, N0, rfl⟩
                            have z11 := own_eqI (n := 917504) rfl hc36
                            unfold own_bl
                            rw [if_pos (show own_P c.toInt by unfold own_P; omega)]
                        · have k41 : ∀ tt, Steps p.tables e below (s₁.setTop (mkF m 137 #[.val (.int c)] [])) tt → Steps p.tables e below (s₁.setTop (entryFrame m #[(.int c)] 1)) tt := by
                            intro tt kk
                            refine k38 tt ?_
                            show Steps p.tables e below (s₁.setTop (mkF m 132 #[.val (.int c)] [(.int (917504 : Int32)), (.int c)])) tt
                            refine XS.icmpYes X0.here hx rfl (pc0 := 132) (pc' := 137) rfl (hb hby d2_132) rfl (feq (hc36 : ¬ (c = (917504 : Int32)))).2 (by decide) (by decide) ?_
                            exact kk
                          by_cases hr39 : ¬ (c < (917506 : Int32)) ∧ ¬ ((917535 : Int32) < c)
                          · have k42 : ∀ tt, Steps p.tables e below (s₁.setTop (mkF m 150 #[.val (.int c)] [(.int (1 : Int32))])) tt → Steps p.tables e below (s₁.setTop (entryFrame m #[(.int c)] 1)) tt := by
                              intro tt kk
                              refine k41 tt ?_
                              show Steps p.tables e below (s₁.setTop (mkF m 137 #[.val (.int c)] [])) tt
                              refine XS.iloadN X0.here hx rfl (hb hby d2_137) rfl ?_
                              show Steps p.tables e below (s₁.setTop (mkF m 138 #[.val (.int c)] [(.int c)])) tt
                              refine X0.ldcInt hx hown (mvT hZ (hw _ (List.mem_of_getElem? (i := 14) rfl))) (g := (mkF m 138 #[.val (.int c)] [(.int c)])) rfl (hb hby d2_138) _ ?_
                              show Steps p.tables e below (s₁.setTop (mkF m 140 #[.val (.int c)] [(.int (917506 : Int32)), (.int c)])) tt
                              refine XS.icmpNo X0.here hx rfl (hb hby d2_140) rfl (flt (hr39.1 : ¬ (c < (917506 : Int32)))).1 ?_
                              show Steps p.tables e below (s₁.setTop (mkF m 143 #[.val (.int c)] [])) tt
                              refine XS.iloadN X0.here hx rfl (hb hby d2_143) rfl ?_
                              show Steps p.tables e below (s₁.setTop (mkF m 144 #[.val (.int c)] [(.int c)])) tt
                              refine X0.ldcInt hx hown (mvT hZ (hw _ (List.mem_of_getElem? (i := 19) rfl))) (g := (mkF m 144 #[.val (.int c)] [(.int c)])) rfl (hb hby d2_144) _ ?_
                              show Steps p.tables e below (s₁.setTop (mkF m 146 #[.val (.int c)] [(.int (917535 : Int32)), (.int c)])) tt
                              refine XS.icmpNo X0.here hx rfl (hb hby d2_146) rfl (flt (hr39.2 : ¬ ((917535 : Int32) < c))).2.2.1 ?_
                              show Steps p.tables e below (s₁.setTop (mkF m 149 #[.val (.int c)] [])) tt
                              refine XS.iconst X0.here hx rfl (hb hby d2_149) ?_
                              exact kk
                            obtain ⟨fs, hr, hrun, hended, hW, hsame⟩ := X0.leave (v := some (.int (1 : Int32))) (fun hq => by rw [Bd.returns] at hq; cases hq)
                            refine ⟨_, _, k42 _ ?_, hrun, hended, _, _, rfl, ?_, ⟨_, rfl⟩, hW, hsame.mono (by decide) (by decide)⟩
                            · show Steps p.tables e below (s₁.setTop (mkF m 150 #[.val (.int c)] [(.int (1 : Int32))])) _
                              exact retN X0 hx (t := .boolean) Bd.returns (by simp) (hb hby d2_150) hr
                            · show (fun (v : Option Value) (h : Heap) (L : List Loc) => v = some (.int (own_bl c)) ∧ Fr n0 L ∧ h = h0) _ s₁.heap _
                              rw [e0]
                              dsimp only
                              refine ⟨?_, N0, rfl⟩
                              have z12 := own_nltI (n := 917506) rfl hr39.1
                              have y12 := own_ngtI (n := 917535) rfl hr39.2
                              unfold own_bl
                              rw [if_pos (show own_P c.toInt by unfold own_P; omega)]
                          · have own_mark : True := trivial
                            have k43 : ∀ tt, Steps p.tables e below (s₁.setTop (mkF m 151 #[.val (.int c)] [])) tt → Steps p.tables e below (s₁.setTop (entryFrame m #[(.int c)] 1)) tt := by
                              intro tt kk
                              refine k41 tt ?_
                              by_cases q1 : c < (917506 : Int32)
                              · show Steps p.tables e below (s₁.setTop (mkF m 137 #[.val (.int c)] [])) tt
                                refine XS.iloadN X0.here hx rfl (hb hby d2_137) rfl ?_
                                show Steps p.tables e below (s₁.setTop (mkF m 138 #[.val (.int c)] [(.int c)])) tt
                                refine X0.ldcInt hx hown (mvT hZ (hw _ (List.mem_of_getElem? (i := 14) rfl))) (g := (mkF m 138 #[.val (.int c)] [(.int c)])) rfl (hb hby d2_138) _ ?_
                                show Steps p.tables e below (s₁.setTop (mkF m 140 #[.val (.int c)] [(.int (917506 : Int32)), (.int c)])) tt
                                refine XS.icmpYes X0.here hx rfl (pc0 := 140) (pc' := 151) rfl (hb hby d2_140) rfl (tlt (q1 : c < (917506 : Int32))).1 (by decide) (by decide) ?_
                                exact kk
                              · show Steps p.tables e below (s₁.setTop (mkF m 137 #[.val (.int c)] [])) tt
                                refine XS.iloadN X0.here hx rfl (hb hby d2_137) rfl ?_
                                show Steps p.tables e below (s₁.setTop (mkF m 138 #[.val (.int c)] [(.int c)])) tt
                                refine X0.ldcInt hx hown (mvT hZ (hw _ (List.mem_of_getElem? (i := 14) rfl))) (g := (mkF m 138 #[.val (.int c)] [(.int c)])) rfl (hb hby d2_138) _ ?_
                                show Steps p.tables e below (s₁.setTop (mkF m 140 #[.val (.int c)] [(.int (917506 : Int32)), (.int c)])) tt
                                refine XS.icmpNo X0.here hx rfl (hb hby d2_140) rfl (flt (q1 : ¬ (c < (917506 : Int32)))).1 ?_
                                show Steps p.tables e below (s₁.setTop (mkF m 143 #[.val (.int c)] [])) tt
                                refine XS.iloadN X0.here hx rfl (hb hby d2_143) rfl ?_
                                show Steps p.tables e below (s₁.setTop (mkF m 144 #[.val (.int c)] [(.int c)])) tt
                                refine X0.ldcInt hx hown (mvT hZ (hw _ (List.mem_of_getElem? (i := 19) rfl))) (g := (mkF m 144 #[.val (.int c)] [(.int c)])) rfl (hb hby d2_144) _ ?_
                                show Steps p.tables e below (s₁.setTop (mkF m 146 #[.val (.int c)] [(.int (917535 : Int32)), (.int c)])) tt
                                refine XS.icmpYes X0.here hx rfl (pc0 := 146) (pc' := 151) rfl (hb hby d2_146) rfl (tlt (Decidable.of_not_not fun q2 => hr39 ⟨q1, q2⟩ : (917535 : Int32) < c)).2.2.1 (by decide) (by decide) ?_
                                exact kk
                            by_cases hr43 : ¬ (c < (917632 : Int32)) ∧ ¬ ((921599 : Int32) < c)
                            · have k45 : ∀ tt, Steps p.tables e below (s₁.setTop (mkF m 164 #[.val (.int c)] [(.int (1 : Int32))])) tt → Steps p.tables e below (s₁.setTop (entryFrame m #[(.int c)] 1)) tt := by
                                intro tt kk
                                refine k43 tt ?_
                                show Steps p.tables e below (s₁.setTop (mkF m 151 #[.val (.int c)] [])) tt
                                refine XS.iloadN X0.here hx rfl (hb hby d2_151) rfl ?_
                                show Steps p.tables e below (s₁.setTop (mkF m 152 #[.val (.int c)] [(.int c)])) tt
                                refine X0.ldcInt hx hown (mvT hZ (hw _ (List.mem_of_getElem? (i := 15) rfl))) (g := (mkF m 152 #[.val (.int c)] [(.int c)])) rfl (hb hby d2_152) _ ?_
                                show Steps p.tables e below (s₁.setTop (mkF m 154 #[.val (.int c)] [(.int (917632 : Int32)), (.int c)])) tt
                                refine XS.icmpNo X0.here hx rfl (hb hby d2_154) rfl (flt (hr43.1 : ¬ (c < (917632 : Int32)))).1 ?_
                                show Steps p.tables e below (s₁.setTop (mkF m 157 #[.val (.int c)] [])) tt
                                refine XS.iloadN X0.here hx rfl (hb hby d2_157) rfl ?_
                                show Steps p.tables e below (s₁.setTop (mkF m 158 #[.val (.int c)] [(.int c)])) tt
                                refine X0.ldcInt hx hown (mvT hZ (hw _ (List.mem_of_getElem? (i := 20) rfl))) (g := (mkF m 158 #[.val (.int c)] [(.int c)])) rfl (hb hby d2_158) _ ?_
                                show Steps p.tables e below (s₁.setTop (mkF m 160 #[.val (.int c)] [(.int (921599 : Int32)), (.int c)])) tt
                                refine XS.icmpNo X0.here hx rfl (hb hby d2_160) rfl (flt (hr43.2 : ¬ ((921599 : Int32) < c))).2.2.1 ?_
                                show Steps p.tables e below (s₁.setTop (mkF m 163 #[.val (.int c)] [])) tt
                                refine XS.iconst X0.here hx rfl (hb hby d2_163) ?_
                                exact kk
                              obtain ⟨fs, hr, hrun, hended, hW, hsame⟩ := X0.leave (v := some (.int (1 : Int32))) (fun hq => by rw [Bd.returns] at hq; cases hq)
                              refine ⟨_, _, k45 _ ?_, hrun, hended, _, _, rfl, ?_, ⟨_, rfl⟩, hW, hsame.mono (by decide) (by decide)⟩
                              · show Steps p.tables e below (s₁.setTop (mkF m 164 #[.val (.int c)] [(.int (1 : Int32))])) _
                                exact retN X0 hx (t := .boolean) Bd.returns (by simp) (hb hby d2_164) hr
                              · show (fun (v : Option Value) (h : Heap) (L : List Loc) => v = some (.int (own_bl c)) ∧ Fr n0 L ∧ h = h0) _ s₁.heap _
                                rw [e0]
                                dsimp only
                                refine ⟨?_, N0, rfl⟩
                                have z13 := own_nltI (n := 917632) rfl hr43.1
                                have y13 := own_ngtI (n := 921599) rfl hr43.2
                                unfold own_bl
                                rw [if_pos (show own_P c.toInt by unfold own_P; omega)]
                            · have own_mark : True := trivial
                              have k46 : ∀ tt, Steps p.tables e below (s₁.setTop (mkF m 165 #[.val (.int c)] [])) tt → Steps p.tables e below (s₁.setTop (entryFrame m #[(.int c)] 1)) tt := by
                                intro tt kk
                                refine k43 tt ?_
                                by_cases q1 : c < (917632 : Int32)
                                · show Steps p.tables e below (s₁.setTop (mkF m 151 #[.val (.int c)] [])) tt
                                  refine XS.iloadN X0.here hx rfl (hb hby d2_151) rfl ?_
                                  show Steps p.tables e below (s₁.setTop (mkF m 152 #[.val (.int c)] [(.int c)])) tt
                                  refine X0.ldcInt hx hown (mvT hZ (hw _ (List.mem_of_getElem? (i := 15) rfl))) (g := (mkF m 152 #[.val (.int c)] [(.int c)])) rfl (hb hby d2_152) _ ?_
                                  show Steps p.tables e below (s₁.setTop (mkF m 154 #[.val (.int c)] [(.int (917632 : Int32)), (.int c)])) tt
                                  refine XS.icmpYes X0.here hx rfl (pc0 := 154) (pc' := 165) rfl (hb hby d2_154) rfl (tlt (q1 : c < (917632 : Int32))).1 (by decide) (by decide) ?_
                                  exact kk
                                · show Steps p.tables e below (s₁.setTop (mkF m 151 #[.val (.int c)] [])) tt
                                  refine XS.iloadN X0.here hx rfl (hb hby d2_151) rfl ?_
                                  show Steps p.tables e below (s₁.setTop (mkF m 152 #[.val (.int c)] [(.int c)])) tt
                                  refine X0.ldcInt hx hown (mvT hZ (hw _ (List.mem_of_getElem? (i := 15) rfl))) (g := (mkF m 152 #[.val (.int c)] [(.int c)])) rfl (hb hby d2_152) _ ?_
                                  show Steps p.tables e below (s₁.setTop (mkF m 154 #[.val (.int c)] [(.int (917632 : Int32)), (.int c)])) tt
                                  refine XS.icmpNo X0.here hx rfl (hb hby d2_154) rfl (flt (q1 : ¬ (c < (917632 : Int32)))).1 ?_
                                  show Steps p.tables e below (s₁.setTop (mkF m 157 #[.val (.int c)] [])) tt
                                  refine XS.iloadN X0.here hx rfl (hb hby d2_157) rfl ?_
                                  show Steps p.tables e below (s₁.setTop (mkF m 158 #[.val (.int c)] [(.int c)])) tt
                                  refine X0.ldcInt hx hown (mvT hZ (hw _ (List.mem_of_getElem? (i := 20) rfl))) (g := (mkF m 158 #[.val (.int c)] [(.int c)])) rfl (hb hby d2_158) _ ?_
                                  show Steps p.tables e below (s₁.setTop (mkF m 160 #[.val (.int c)] [(.int (921599 : Int32)), (.int c)])) tt
                                  refine XS.icmpYes X0.here hx rfl (pc0 := 160) (pc' := 165) rfl (hb hby d2_160) rfl (tlt (Decidable.of_not_not fun q2 => hr43 ⟨q1, q2⟩ : (921599 : Int32) < c)).2.2.1 (by decide) (by decide) ?_
                                  exact kk
                              have k47 : ∀ tt, Steps p.tables e below (s₁.setTop (mkF m 166 #[.val (.int c)] [(.int (0 : Int32))])) tt → Steps p.tables e below (s₁.setTop (entryFrame m #[(.int c)] 1)) tt := by
                                intro tt kk
                                refine k46 tt ?_
                                show Steps p.tables e below (s₁.setTop (mkF m 165 #[.val (.int c)] [])) tt
                                refine XS.iconst X0.here hx rfl (hb hby d2_165) ?_
                                exact kk
                              obtain ⟨fs, hr, hrun, hended, hW, hsame⟩ := X0.leave (v := some (.int (0 : Int32))) (fun hq => by rw [Bd.returns] at hq; cases hq)
                              refine ⟨_, _, k47 _ ?_, hrun, hended, _, _, rfl, ?_, ⟨_, rfl⟩, hW, hsame.mono (by decide) (by decide)⟩
                              · show Steps p.tables e below (s₁.setTop (mkF m 166 #[.val (.int c)] [(.int (0 : Int32))])) _
                                exact retN X0 hx (t := .boolean) Bd.returns (by simp) (hb hby d2_166) hr
                              · show (fun (v : Option Value) (h : Heap) (L : List Loc) => v = some (.int (own_bl c)) ∧ Fr n0 L ∧ h = h0) _ s₁.heap _
                                rw [e0]
                                dsimp only
                                refine ⟨?_, N0, rfl⟩
                                have z0 := own_neI (n := 847) rfl hc0
                                have z1 := own_outI (n := 4447) (n' := 4448) rfl rfl hr3
                                have z2 := own_outI (n := 6068) (n' := 6069) rfl rfl hr7
                                have z3 := own_outI (n := 6155) (n' := 6157) rfl rfl hr10
                                have z4 := own_neI (n := 6159) rfl hc13
                                have z5 := own_neI (n := 8293) rfl hc16
                                have z6 := own_neI (n := 10240) rfl hc19
                                have z7 := own_neI (n := 12644) rfl hc22
                                have z8 := own_outI (n := 65024) (n' := 65039) rfl rfl hr25
                                have z9 := own_neI (n := 65440) rfl hc29
                                have z10 := own_outI (n := 65520) (n' := 65528) rfl rfl hr32
                                have z11 := own_neI (n := 917504) rfl hc36
                                have z12 := own_outI (n := 917506) (n' := 917535) rfl rfl hr39
                                have z13 := own_outI (n := 917632) (n' := 921599) rfl rfl hr43
                                unfold own_bl
                                have zz : ¬ own_P c.toInt := by
                                  intro hP
                                  unfold own_P at hP
                                  rcases hP with hP | hP | hP | hP | hP | hP | hP | hP | hP | hP | hP | hP | hP | hP
                                  all_goals omega
                                rw [if_neg zz]
theorem own_pn_0 : plainName "com/example/hopguard/hopguard/core/VisibleTextIsBlankPinLaw" = true := by first | (simp [plainName, overriddenIn]; done) | decide +kernel
theorem own_pd__I_Z : parseMethodDescriptor "(I)Z" = some ⟨[.int], some .boolean⟩ := by decide +kernel
def own_rm0_Q (Z : State) (sel : Int32) (off : Int32) (raw : Int32) (wA : Addr) (kA : ClassId) (h0 : Heap) (n0 : Nat) (v : Option Value) (h : Heap) (L : List Loc) : Prop := v = some (.int (1 : Int32)) ∧ Fr n0 L
set_option maxRecDepth 65536 in
set_option maxHeartbeats 40000000 in
theorem own_rm0 (l : Launch) (Z : State) (a0 : Array Value) (hw : ∀ d ∈ tables_1, d.before a0 Z = true) (ws : List Jvm.Cond) (sel : Int32) (off : Int32) (raw : Int32) (wA : Addr) (kA : ClassId) (h0 : Heap) (n0 : Nat) (Z0 : n0 ≤ h0.size) (S_A : Sta Z h0 "com/example/hopguard/hopguard/core/VisibleText" "BLANK_RANGES" "[I" (.ref wA)) (V_A : Arv Z h0 wA kA .int (28 : Int32) [(.int (847 : Int32)), (.int (847 : Int32)), (.int (4447 : Int32)), (.int (4448 : Int32)), (.int (6068 : Int32)), (.int (6069 : Int32)), (.int (6155 : Int32)), (.int (6157 : Int32)), (.int (6159 : Int32)), (.int (6159 : Int32)), (.int (8293 : Int32)), (.int (8293 : Int32)), (.int (10240 : Int32)), (.int (10240 : Int32)), (.int (12644 : Int32)), (.int (12644 : Int32)), (.int (65024 : Int32)), (.int (65039 : Int32)), (.int (65440 : Int32)), (.int (65440 : Int32)), (.int (65520 : Int32)), (.int (65528 : Int32)), (.int (917504 : Int32)), (.int (917504 : Int32)), (.int (917506 : Int32)), (.int (917535 : Int32)), (.int (917632 : Int32)), (.int (921599 : Int32))] (.int (0 : Int32))) :
    MetFree l x (head1 (Jvm.Cond.code x code maxLocals ret :: ws) room_1) (fun aa UU => aa = #[(.int sel), (.int off), (.int raw)] ∧ Z.Warmed39 UU.vm ∧ UU.heap = h0) (fun _ _ _ _ _ => True) (fun _ UU oo UU' => ∃ vv LL, oo = .returned vv ∧ own_rm0_Q Z sel off raw wA kA h0 n0 vv UU'.heap LL ∧ FrameEnd UU oo UU' LL room_1.cells room_1.slots) := by
  refine MetFree.of_bodySF (plainFor_of_name own_pn_0) hisR ?_
  intro p e s m args below meth cc s₁ Bd hml0 hP hK
  obtain ⟨rfl, hZ, hh⟩ := hP
  have hx := Bd.exec
  have hby := Bd.bytes
  have hml : cc.maxLocals = 6 := hml0
  have hown : s.vm.findClass "com/example/hopguard/hopguard/core/VisibleTextIsBlankPinLaw" = some m.cls := findClass_of_methodNamed Bd.named
  have hnm := (name_of_methodNamed Bd.named Bd.method).1
  have X0 : Stand p l e room_1 s m #[(.int sel), (.int off), (.int raw)] below meth cc s₁ [] 0 0 := Stand.of_body Bd
  have e0 : s₁.heap = h0 := by rw [← hh, Bd.state]; rfl
  have N0 := Fr.nil n0
  have k0 : ∀ tt, Steps p.tables e below (s₁.setTop (mkF m 0 #[.val (.int sel), .val (.int off), .val (.int raw), .unset, .unset, .unset] [])) tt → Steps p.tables e below (s₁.setTop (entryFrame m #[(.int sel), (.int off), (.int raw)] maxLocals)) tt := fun tt kk => castTop (by first | (simp [entryFrame, mkF, argsToLocals, Value.category, maxLocals]; done) | rfl) kk
  have k1 : ∀ tt, Steps p.tables e below (s₁.setTop (mkF m 3 #[.val (.int sel), .val (.int off), .val (.int raw), .unset, .unset, .unset] [(.int (sel &&& (1 : Int32)))])) tt → Steps p.tables e below (s₁.setTop (entryFrame m #[(.int sel), (.int off), (.int raw)] maxLocals)) tt := by
    intro tt kk
    refine k0 tt ?_
    show Steps p.tables e below (s₁.setTop (mkF m 0 #[.val (.int sel), .val (.int off), .val (.int raw), .unset, .unset, .unset] [])) tt
    refine XS.iloadN X0.here hx rfl (hb hby at_0) rfl ?_
    show Steps p.tables e below (s₁.setTop (mkF m 1 #[.val (.int sel), .val (.int off), .val (.int raw), .unset, .unset, .unset] [(.int sel)])) tt
    refine XS.iconst X0.here hx rfl (hb hby at_1) ?_
    show Steps p.tables e below (s₁.setTop (mkF m 2 #[.val (.int sel), .val (.int off), .val (.int raw), .unset, .unset, .unset] [(.int (1 : Int32)), (.int sel)])) tt
    refine XS.iand X0.here hx rfl (hb hby at_2) rfl ?_
    exact kk
  by_cases c3_2 : (sel &&& (1 : Int32)) = (0 : Int32)
  · obtain ⟨_, _, ⟨T3, L3, ka3, na3⟩, -, X3, ⟨Lc3, hQ3, l3, y3, z3⟩, st3⟩ := Jvm.LawKit.callS X0 hx (y := (⟨"com/example/hopguard/hopguard/core/VisibleText", "isBlank", "(I)Z"⟩ : MethodName)) hown (mvT hZ (hw _ (List.mem_of_getElem? (i := 0) rfl))) (mvT hZ (hw _ (List.mem_of_getElem? (i := 1) rfl))) (mvT hZ (hw _ (List.mem_of_getElem? (i := 2) rfl))) (mvT hZ (hw _ (List.mem_of_getElem? (i := 3) rfl))) (by decide) (backOf (W := 0) (own_rmB l Z a0 hw [] raw wA kA h0 n0 Z0 S_A V_A) hZ (hw _ (List.mem_of_getElem? (i := 3) rfl)) (hw _ (List.mem_of_getElem? (i := 2) rfl)) (by decide) (by decide)) (g := (mkF m 173 #[.val (.int sel), .val (.int off), .val (.int raw), .val (.int raw), .unset, .unset] [(.int raw)])) rfl (by rw [hml]; rfl) (argsL := [(.int raw)]) (rest := []) (lenOf own_pd__I_Z rfl) rfl (by show 2 * 0 + _ ≤ _; exact Nat.le_of_eq rfl) (hb hby at_173) (fun _ _ => ⟨rfl, e0, (by decide : 0 + 0 ≤ _), (by decide : 0 + 0 ≤ _)⟩)
    dsimp only [Pt.U, Pt.locs, Pt.cells, Pt.slots] at X3 l3 y3 z3 st3 hQ3
    subst l3 y3 z3
    obtain ⟨rfl, Nq3, hh3⟩ := hQ3
    have N3 := Fr.app N0 Nq3
    obtain ⟨_, _, ⟨T4, L4, ka4, na4⟩, -, X4, ⟨Lc4, hQ4, l4, y4, z4⟩, st4⟩ := Jvm.LawKit.callS X3 hx (y := (⟨"com/example/hopguard/hopguard/core/VisibleTextIsBlankPinLaw", "ref", "(I)Z"⟩ : MethodName)) hown (mvT hZ (hw _ (List.mem_of_getElem? (i := 6) rfl))) (mvT hZ (hw _ (List.mem_of_getElem? (i := 7) rfl))) (mvT hZ (hw _ (List.mem_of_getElem? (i := 8) rfl))) (mvT hZ (hw _ (List.mem_of_getElem? (i := 9) rfl))) (by decide) (backOf (W := 1) (own_rmR l Z a0 hw [] raw h0 n0 Z0) hZ (hw _ (List.mem_of_getElem? (i := 9) rfl)) (hw _ (List.mem_of_getElem? (i := 8) rfl)) (by decide) (by decide)) (g := (mkF m 177 #[.val (.int sel), .val (.int off), .val (.int raw), .val (.int raw), .unset, .unset] [(.int raw), (.int (own_bl raw))])) rfl (by rw [hml]; rfl) (argsL := [(.int raw)]) (rest := [(.int (own_bl raw))]) (lenOf own_pd__I_Z rfl) rfl (by show 2 * 0 + _ ≤ _; exact Nat.le_of_eq rfl) (hb hby at_177) (fun _ _ => ⟨rfl, hh3, (by decide : 0 + 0 ≤ _), (by decide : 0 + 0 ≤ _)⟩)
    dsimp only [Pt.U, Pt.locs, Pt.cells, Pt.slots] at X4 l4 y4 z4 st4 hQ4
    subst l4 y4 z4
    obtain ⟨rfl, Nq4, hh4⟩ := hQ4
    have N4 := Fr.app N3 Nq4
    have k5 : ∀ tt, Steps p.tables e below (T4.setTop (mkF m 188 #[.val (.int sel), .val (.int off), .val (.int raw), .val (.int raw), .unset, .unset] [(.int (1 : Int32))])) tt → Steps p.tables e below (s₁.setTop (entryFrame m #[(.int sel), (.int off), (.int raw)] maxLocals)) tt := by
      intro tt kk
      refine k1 tt ?_
      show Steps p.tables e below (s₁.setTop (mkF m 3 #[.val (.int sel), .val (.int off), .val (.int raw), .unset, .unset, .unset] [(.int (sel &&& (1 : Int32)))])) tt
      refine XS.ifNo X0.here hx rfl (hb hby at_3) rfl ((if0 _ _).trans (teq (c3_2 : (sel &&& (1 : Int32)) = (0 : Int32))).2) ?_
      show Steps p.tables e below (s₁.setTop (mkF m 6 #[.val (.int sel), .val (.int off), .val (.int raw), .unset, .unset, .unset] [])) tt
      refine XS.iloadN X0.here hx rfl (hb hby at_6) rfl ?_
      show Steps p.tables e below (s₁.setTop (mkF m 7 #[.val (.int sel), .val (.int off), .val (.int raw), .unset, .unset, .unset] [(.int raw)])) tt
      refine XS.istoreN X0.here hx rfl (hb hby at_7) rfl (l' := #[.val (.int sel), .val (.int off), .val (.int raw), .val (.int raw), .unset, .unset]) rfl ?_
      show Steps p.tables e below (s₁.setTop (mkF m 8 #[.val (.int sel), .val (.int off), .val (.int raw), .val (.int raw), .unset, .unset] [])) tt
      refine XS.goto X0.here hx rfl (pc0 := 8) (pc' := 172) rfl (hb hby at_8) (by decide) (by decide) ?_
      show Steps p.tables e below (s₁.setTop (mkF m 172 #[.val (.int sel), .val (.int off), .val (.int raw), .val (.int raw), .unset, .unset] [])) tt
      refine XS.iloadN X0.here hx rfl (hb hby at_172) rfl ?_
      show Steps p.tables e below (s₁.setTop (mkF m 173 #[.val (.int sel), .val (.int off), .val (.int raw), .val (.int raw), .unset, .unset] [(.int raw)])) tt
      refine st3 _ ?_
      show Steps p.tables e below (T3.setTop (mkF m 176 #[.val (.int sel), .val (.int off), .val (.int raw), .val (.int raw), .unset, .unset] [(.int (own_bl raw))])) tt
      refine XS.iloadN X3.here hx rfl (hb hby at_176) rfl ?_
      show Steps p.tables e below (T3.setTop (mkF m 177 #[.val (.int sel), .val (.int off), .val (.int raw), .val (.int raw), .unset, .unset] [(.int raw), (.int (own_bl raw))])) tt
      refine st4 _ ?_
      show Steps p.tables e below (T4.setTop (mkF m 180 #[.val (.int sel), .val (.int off), .val (.int raw), .val (.int raw), .unset, .unset] [(.int (own_bl raw)), (.int (own_bl raw))])) tt
      refine XS.icmpNo X4.here hx rfl (hb hby at_180) rfl (teq (rfl : (own_bl raw) = (own_bl raw))).2 ?_
      show Steps p.tables e below (T4.setTop (mkF m 183 #[.val (.int sel), .val (.int off), .val (.int raw), .val (.int raw), .unset, .unset] [])) tt
      refine XS.iconst X4.here hx rfl (hb hby at_183) ?_
      show Steps p.tables e below (T4.setTop (mkF m 184 #[.val (.int sel), .val (.int off), .val (.int raw), .val (.int raw), .unset, .unset] [(.int (1 : Int32))])) tt
      refine XS.goto X4.here hx rfl (pc0 := 184) (pc' := 188) rfl (hb hby at_184) (by decide) (by decide) ?_
      exact kk
    obtain ⟨fs, hr, hrun, hended, hW, hsame⟩ := X4.leave (v := some (.int (1 : Int32))) (fun hq => by rw [Bd.returns] at hq; cases hq)
    refine ⟨_, _, k5 _ ?_, hrun, hended, _, _, rfl, ?_, ⟨_, rfl⟩, hW, hsame.mono (by decide) (by decide)⟩
    · show Steps p.tables e below (T4.setTop (mkF m 188 #[.val (.int sel), .val (.int off), .val (.int raw), .val (.int raw), .unset, .unset] [(.int (1 : Int32))])) _
      exact retN X4 hx (t := .boolean) Bd.returns (by simp) (hb hby at_188) hr
    · show (fun (v : Option Value) (h : Heap) (L : List Loc) => v = some (.int (1 : Int32)) ∧ Fr n0 L) _ T4.heap _
      rw [hh4]
      dsimp only
      exact ⟨rfl, N4⟩
  · obtain ⟨T6, h6, k6, X6, e6, E6, A6, st6⟩ := newP X0 hx hZ (hw _ (List.mem_of_getElem? (i := 16) rfl)) e0 (g := (mkF m 13 #[.val (.int sel), .val (.int off), .val (.int raw), .unset, .unset, .unset] [(.int (21 : Int32))])) rfl (hb hby at_13) rfl (by decide) (cap := 21) (by decide) (by decide) (by decide) (by decide)
    obtain ⟨b6, g6⟩ : ∃ z, z = h0.size := ⟨_, rfl⟩
    rw [← g6] at A6 st6
    have g_b6 : n0 ≤ b6 := Nat.le_trans Z0 (Nat.le_of_eq g6.symm)
    have sz_b6 : h0.size ≤ b6 := Nat.le_trans (Keep.refl h0 []).1 (Nat.le_of_eq g6.symm)
    have Z6 : n0 ≤ h6.size := Nat.le_trans Z0 E6.1
    have K6 := Keep.ext (Keep.refl h0 []) E6
    have V6 : Arv Z h6 b6 k6 .int (21 : Int32) [(.int (0 : Int32)), (.int (0 : Int32)), (.int (0 : Int32)), (.int (0 : Int32)), (.int (0 : Int32)), (.int (0 : Int32)), (.int (0 : Int32)), (.int (0 : Int32)), (.int (0 : Int32)), (.int (0 : Int32)), (.int (0 : Int32)), (.int (0 : Int32)), (.int (0 : Int32)), (.int (0 : Int32)), (.int (0 : Int32)), (.int (0 : Int32)), (.int (0 : Int32)), (.int (0 : Int32)), (.int (0 : Int32)), (.int (0 : Int32)), (.int (0 : Int32))] (.int (0 : Int32)) := (Arv.new A6 (by decide)).pad (pad_rep [] (.int (0 : Int32)) 21)
    obtain ⟨cl7, Ar7, q7, S7, P7, H7, G7⟩ := id V6
    have hin7 : ¬ ((0 : Int32) < 0 ∨ cl7.slots.size ≤ ((0 : Int32)).toNatClampNeg) := inb_of S7 ⟨by decide, by decide⟩
    obtain ⟨T8, h8, X8, e8, W8, st8⟩ := stI X6 hx hZ e6 Ar7 (j := (0 : Int32)) hin7  (g := (mkF m 20 #[.val (.int sel), .val (.int off), .val (.int raw), .unset, .unset, .unset] [(.int (847 : Int32)), (.int (0 : Int32)), (.ref b6), (.ref b6)])) rfl rfl (hb hby at_20)
    have V8 : Arv Z h8 b6 k6 .int (21 : Int32) [(.int (847 : Int32)), (.int (0 : Int32)), (.int (0 : Int32)), (.int (0 : Int32)), (.int (0 : Int32)), (.int (0 : Int32)), (.int (0 : Int32)), (.int (0 : Int32)), (.int (0 : Int32)), (.int (0 : Int32)), (.int (0 : Int32)), (.int (0 : Int32)), (.int (0 : Int32)), (.int (0 : Int32)), (.int (0 : Int32)), (.int (0 : Int32)), (.int (0 : Int32)), (.int (0 : Int32)), (.int (0 : Int32)), (.int (0 : Int32)), (.int (0 : Int32))] (.int (0 : Int32)) := Arv.set Ar7 q7 S7 P7 H7 G7 rfl W8 0 rfl (Nat.le_of_ble_eq_true rfl)
    have Z8 : n0 ≤ h8.size := Nat.le_trans Z6 (Keep.of_wr W8).1
    have N8 := Fr.snoc X8 N0 g_b6
    have K8 := Keep.wr K6 W8 (Or.inr sz_b6)
    obtain ⟨cl9, Ar9, q9, S9, P9, H9, G9⟩ := id V8
    have hin9 : ¬ ((1 : Int32) < 0 ∨ cl9.slots.size ≤ ((1 : Int32)).toNatClampNeg) := inb_of S9 ⟨by decide, by decide⟩
    obtain ⟨T10, h10, X10, e10, W10, st10⟩ := stI X8 hx hZ e8 Ar9 (j := (1 : Int32)) hin9  (g := (mkF m 26 #[.val (.int sel), .val (.int off), .val (.int raw), .unset, .unset, .unset] [(.int (4447 : Int32)), (.int (1 : Int32)), (.ref b6), (.ref b6)])) rfl rfl (hb hby at_26)
    have V10 : Arv Z h10 b6 k6 .int (21 : Int32) [(.int (847 : Int32)), (.int (4447 : Int32)), (.int (0 : Int32)), (.int (0 : Int32)), (.int (0 : Int32)), (.int (0 : Int32)), (.int (0 : Int32)), (.int (0 : Int32)), (.int (0 : Int32)), (.int (0 : Int32)), (.int (0 : Int32)), (.int (0 : Int32)), (.int (0 : Int32)), (.int (0 : Int32)), (.int (0 : Int32)), (.int (0 : Int32)), (.int (0 : Int32)), (.int (0 : Int32)), (.int (0 : Int32)), (.int (0 : Int32)), (.int (0 : Int32))] (.int (0 : Int32)) := Arv.set Ar9 q9 S9 P9 H9 G9 rfl W10 1 rfl (Nat.le_of_ble_eq_true rfl)
    have Z10 : n0 ≤ h10.size := Nat.le_trans Z8 (Keep.of_wr W10).1
    have N10 := Fr.snoc X10 N8 g_b6
    have K10 := Keep.wr K8 W10 (Or.inr sz_b6)
    obtain ⟨cl11, Ar11, q11, S11, P11, H11, G11⟩ := id V10
    have hin11 : ¬ ((2 : Int32) < 0 ∨ cl11.slots.size ≤ ((2 : Int32)).toNatClampNeg) := inb_of S11 ⟨by decide, by decide⟩
    obtain ⟨T12, h12, X12, e12, W12, st12⟩ := stI X10 hx hZ e10 Ar11 (j := (2 : Int32)) hin11  (g := (mkF m 32 #[.val (.int sel), .val (.int off), .val (.int raw), .unset, .unset, .unset] [(.int (4448 : Int32)), (.int (2 : Int32)), (.ref b6), (.ref b6)])) rfl rfl (hb hby at_32)
    have V12 : Arv Z h12 b6 k6 .int (21 : Int32) [(.int (847 : Int32)), (.int (4447 : Int32)), (.int (4448 : Int32)), (.int (0 : Int32)), (.int (0 : Int32)), (.int (0 : Int32)), (.int (0 : Int32)), (.int (0 : Int32)), (.int (0 : Int32)), (.int (0 : Int32)), (.int (0 : Int32)), (.int (0 : Int32)), (.int (0 : Int32)), (.int (0 : Int32)), (.int (0 : Int32)), (.int (0 : Int32)), (.int (0 : Int32)), (.int (0 : Int32)), (.int (0 : Int32)), (.int (0 : Int32)), (.int (0 : Int32))] (.int (0 : Int32)) := Arv.set Ar11 q11 S11 P11 H11 G11 rfl W12 2 rfl (Nat.le_of_ble_eq_true rfl)
    have Z12 : n0 ≤ h12.size := Nat.le_trans Z10 (Keep.of_wr W12).1
    have N12 := Fr.snoc X12 N10 g_b6
    have K12 := Keep.wr K10 W12 (Or.inr sz_b6)
    obtain ⟨cl13, Ar13, q13, S13, P13, H13, G13⟩ := id V12
    have hin13 : ¬ ((3 : Int32) < 0 ∨ cl13.slots.size ≤ ((3 : Int32)).toNatClampNeg) := inb_of S13 ⟨by decide, by decide⟩
    obtain ⟨T14, h14, X14, e14, W14, st14⟩ := stI X12 hx hZ e12 Ar13 (j := (3 : Int32)) hin13  (g := (mkF m 38 #[.val (.int sel), .val (.int off), .val (.int raw), .unset, .unset, .unset] [(.int (6068 : Int32)), (.int (3 : Int32)), (.ref b6), (.ref b6)])) rfl rfl (hb hby at_38)
    have V14 : Arv Z h14 b6 k6 .int (21 : Int32) [(.int (847 : Int32)), (.int (4447 : Int32)), (.int (4448 : Int32)), (.int (6068 : Int32)), (.int (0 : Int32)), (.int (0 : Int32)), (.int (0 : Int32)), (.int (0 : Int32)), (.int (0 : Int32)), (.int (0 : Int32)), (.int (0 : Int32)), (.int (0 : Int32)), (.int (0 : Int32)), (.int (0 : Int32)), (.int (0 : Int32)), (.int (0 : Int32)), (.int (0 : Int32)), (.int (0 : Int32)), (.int (0 : Int32)), (.int (0 : Int32)), (.int (0 : Int32))] (.int (0 : Int32)) := Arv.set Ar13 q13 S13 P13 H13 G13 rfl W14 3 rfl (Nat.le_of_ble_eq_true rfl)
    have Z14 : n0 ≤ h14.size := Nat.le_trans Z12 (Keep.of_wr W14).1
    have N14 := Fr.snoc X14 N12 g_b6
    have K14 := Keep.wr K12 W14 (Or.inr sz_b6)
    obtain ⟨cl15, Ar15, q15, S15, P15, H15, G15⟩ := id V14
    have hin15 : ¬ ((4 : Int32) < 0 ∨ cl15.slots.size ≤ ((4 : Int32)).toNatClampNeg) := inb_of S15 ⟨by decide, by decide⟩
    obtain ⟨T16, h16, X16, e16, W16, st16⟩ := stI X14 hx hZ e14 Ar15 (j := (4 : Int32)) hin15  (g := (mkF m 44 #[.val (.int sel), .val (.int off), .val (.int raw), .unset, .unset, .unset] [(.int (6069 : Int32)), (.int (4 : Int32)), (.ref b6), (.ref b6)])) rfl rfl (hb hby at_44)
    have V16 : Arv Z h16 b6 k6 .int (21 : Int32) [(.int (847 : Int32)), (.int (4447 : Int32)), (.int (4448 : Int32)), (.int (6068 : Int32)), (.int (6069 : Int32)), (.int (0 : Int32)), (.int (0 : Int32)), (.int (0 : Int32)), (.int (0 : Int32)), (.int (0 : Int32)), (.int (0 : Int32)), (.int (0 : Int32)), (.int (0 : Int32)), (.int (0 : Int32)), (.int (0 : Int32)), (.int (0 : Int32)), (.int (0 : Int32)), (.int (0 : Int32)), (.int (0 : Int32)), (.int (0 : Int32)), (.int (0 : Int32))] (.int (0 : Int32)) := Arv.set Ar15 q15 S15 P15 H15 G15 rfl W16 4 rfl (Nat.le_of_ble_eq_true rfl)
    have Z16 : n0 ≤ h16.size := Nat.le_trans Z14 (Keep.of_wr W16).1
    have N16 := Fr.snoc X16 N14 g_b6
    have K16 := Keep.wr K14 W16 (Or.inr sz_b6)
    obtain ⟨cl17, Ar17, q17, S17, P17, H17, G17⟩ := id V16
    have hin17 : ¬ ((5 : Int32) < 0 ∨ cl17.slots.size ≤ ((5 : Int32)).toNatClampNeg) := inb_of S17 ⟨by decide, by decide⟩
    obtain ⟨T18, h18, X18, e18, W18, st18⟩ := stI X16 hx hZ e16 Ar17 (j := (5 : Int32)) hin17  (g := (mkF m 50 #[.val (.int sel), .val (.int off), .val (.int raw), .unset, .unset, .unset] [(.int (6155 : Int32)), (.int (5 : Int32)), (.ref b6), (.ref b6)])) rfl rfl (hb hby at_50)
    have V18 : Arv Z h18 b6 k6 .int (21 : Int32) [(.int (847 : Int32)), (.int (4447 : Int32)), (.int (4448 : Int32)), (.int (6068 : Int32)), (.int (6069 : Int32)), (.int (6155 : Int32)), (.int (0 : Int32)), (.int (0 : Int32)), (.int (0 : Int32)), (.int (0 : Int32)), (.int (0 : Int32)), (.int (0 : Int32)), (.int (0 : Int32)), (.int (0 : Int32)), (.int (0 : Int32)), (.int (0 : Int32)), (.int (0 : Int32)), (.int (0 : Int32)), (.int (0 : Int32)), (.int (0 : Int32)), (.int (0 : Int32))] (.int (0 : Int32)) := Arv.set Ar17 q17 S17 P17 H17 G17 rfl W18 5 rfl (Nat.le_of_ble_eq_true rfl)
    have Z18 : n0 ≤ h18.size := Nat.le_trans Z16 (Keep.of_wr W18).1
    have N18 := Fr.snoc X18 N16 g_b6
    have K18 := Keep.wr K16 W18 (Or.inr sz_b6)
    obtain ⟨cl19, Ar19, q19, S19, P19, H19, G19⟩ := id V18
    have hin19 : ¬ ((6 : Int32) < 0 ∨ cl19.slots.size ≤ ((6 : Int32)).toNatClampNeg) := inb_of S19 ⟨by decide, by decide⟩
    obtain ⟨T20, h20, X20, e20, W20, st20⟩ := stI X18 hx hZ e18 Ar19 (j := (6 : Int32)) hin19  (g := (mkF m 57 #[.val (.int sel), .val (.int off), .val (.int raw), .unset, .unset, .unset] [(.int (6157 : Int32)), (.int (6 : Int32)), (.ref b6), (.ref b6)])) rfl rfl (hb hby at_57)
    have V20 : Arv Z h20 b6 k6 .int (21 : Int32) [(.int (847 : Int32)), (.int (4447 : Int32)), (.int (4448 : Int32)), (.int (6068 : Int32)), (.int (6069 : Int32)), (.int (6155 : Int32)), (.int (6157 : Int32)), (.int (0 : Int32)), (.int (0 : Int32)), (.int (0 : Int32)), (.int (0 : Int32)), (.int (0 : Int32)), (.int (0 : Int32)), (.int (0 : Int32)), (.int (0 : Int32)), (.int (0 : Int32)), (.int (0 : Int32)), (.int (0 : Int32)), (.int (0 : Int32)), (.int (0 : Int32)), (.int (0 : Int32))] (.int (0 : Int32)) := Arv.set Ar19 q19 S19 P19 H19 G19 rfl W20 6 rfl (Nat.le_of_ble_eq_true rfl)
    have Z20 : n0 ≤ h20.size := Nat.le_trans Z18 (Keep.of_wr W20).1
    have N20 := Fr.snoc X20 N18 g_b6
    have K20 := Keep.wr K18 W20 (Or.inr sz_b6)
    obtain ⟨cl21, Ar21, q21, S21, P21, H21, G21⟩ := id V20
    have hin21 : ¬ ((7 : Int32) < 0 ∨ cl21.slots.size ≤ ((7 : Int32)).toNatClampNeg) := inb_of S21 ⟨by decide, by decide⟩
    obtain ⟨T22, h22, X22, e22, W22, st22⟩ := stI X20 hx hZ e20 Ar21 (j := (7 : Int32)) hin21  (g := (mkF m 64 #[.val (.int sel), .val (.int off), .val (.int raw), .unset, .unset, .unset] [(.int (6159 : Int32)), (.int (7 : Int32)), (.ref b6), (.ref b6)])) rfl rfl (hb hby at_64)
    have V22 : Arv Z h22 b6 k6 .int (21 : Int32) [(.int (847 : Int32)), (.int (4447 : Int32)), (.int (4448 : Int32)), (.int (6068 : Int32)), (.int (6069 : Int32)), (.int (6155 : Int32)), (.int (6157 : Int32)), (.int (6159 : Int32)), (.int (0 : Int32)), (.int (0 : Int32)), (.int (0 : Int32)), (.int (0 : Int32)), (.int (0 : Int32)), (.int (0 : Int32)), (.int (0 : Int32)), (.int (0 : Int32)), (.int (0 : Int32)), (.int (0 : Int32)), (.int (0 : Int32)), (.int (0 : Int32)), (.int (0 : Int32))] (.int (0 : Int32)) := Arv.set Ar21 q21 S21 P21 H21 G21 rfl W22 7 rfl (Nat.le_of_ble_eq_true rfl)
    have Z22 : n0 ≤ h22.size := Nat.le_trans Z20 (Keep.of_wr W22).1
    have N22 := Fr.snoc X22 N20 g_b6
    have K22 := Keep.wr K20 W22 (Or.inr sz_b6)
    obtain ⟨cl23, Ar23, q23, S23, P23, H23, G23⟩ := id V22
    have hin23 : ¬ ((8 : Int32) < 0 ∨ cl23.slots.size ≤ ((8 : Int32)).toNatClampNeg) := inb_of S23 ⟨by decide, by decide⟩
    obtain ⟨T24, h24, X24, e24, W24, st24⟩ := stI X22 hx hZ e22 Ar23 (j := (8 : Int32)) hin23  (g := (mkF m 71 #[.val (.int sel), .val (.int off), .val (.int raw), .unset, .unset, .unset] [(.int (8293 : Int32)), (.int (8 : Int32)), (.ref b6), (.ref b6)])) rfl rfl (hb hby at_71)
    have V24 : Arv Z h24 b6 k6 .int (21 : Int32) [(.int (847 : Int32)), (.int (4447 : Int32)), (.int (4448 : Int32)), (.int (6068 : Int32)), (.int (6069 : Int32)), (.int (6155 : Int32)), (.int (6157 : Int32)), (.int (6159 : Int32)), (.int (8293 : Int32)), (.int (0 : Int32)), (.int (0 : Int32)), (.int (0 : Int32)), (.int (0 : Int32)), (.int (0 : Int32)), (.int (0 : Int32)), (.int (0 : Int32)), (.int (0 : Int32)), (.int (0 : Int32)), (.int (0 : Int32)), (.int (0 : Int32)), (.int (0 : Int32))] (.int (0 : Int32)) := Arv.set Ar23 q23 S23 P23 H23 G23 rfl W24 8 rfl (Nat.le_of_ble_eq_true rfl)
    have Z24 : n0 ≤ h24.size := Nat.le_trans Z22 (Keep.of_wr W24).1
    have N24 := Fr.snoc X24 N22 g_b6
    have K24 := Keep.wr K22 W24 (Or.inr sz_b6)
    obtain ⟨cl25, Ar25, q25, S25, P25, H25, G25⟩ := id V24
    have hin25 : ¬ ((9 : Int32) < 0 ∨ cl25.slots.size ≤ ((9 : Int32)).toNatClampNeg) := inb_of S25 ⟨by decide, by decide⟩
    obtain ⟨T26, h26, X26, e26, W26, st26⟩ := stI X24 hx hZ e24 Ar25 (j := (9 : Int32)) hin25  (g := (mkF m 78 #[.val (.int sel), .val (.int off), .val (.int raw), .unset, .unset, .unset] [(.int (10240 : Int32)), (.int (9 : Int32)), (.ref b6), (.ref b6)])) rfl rfl (hb hby at_78)
    have V26 : Arv Z h26 b6 k6 .int (21 : Int32) [(.int (847 : Int32)), (.int (4447 : Int32)), (.int (4448 : Int32)), (.int (6068 : Int32)), (.int (6069 : Int32)), (.int (6155 : Int32)), (.int (6157 : Int32)), (.int (6159 : Int32)), (.int (8293 : Int32)), (.int (10240 : Int32)), (.int (0 : Int32)), (.int (0 : Int32)), (.int (0 : Int32)), (.int (0 : Int32)), (.int (0 : Int32)), (.int (0 : Int32)), (.int (0 : Int32)), (.int (0 : Int32)), (.int (0 : Int32)), (.int (0 : Int32)), (.int (0 : Int32))] (.int (0 : Int32)) := Arv.set Ar25 q25 S25 P25 H25 G25 rfl W26 9 rfl (Nat.le_of_ble_eq_true rfl)
    have Z26 : n0 ≤ h26.size := Nat.le_trans Z24 (Keep.of_wr W26).1
    have N26 := Fr.snoc X26 N24 g_b6
    have K26 := Keep.wr K24 W26 (Or.inr sz_b6)
    obtain ⟨cl27, Ar27, q27, S27, P27, H27, G27⟩ := id V26
    have hin27 : ¬ ((10 : Int32) < 0 ∨ cl27.slots.size ≤ ((10 : Int32)).toNatClampNeg) := inb_of S27 ⟨by decide, by decide⟩
    obtain ⟨T28, h28, X28, e28, W28, st28⟩ := stI X26 hx hZ e26 Ar27 (j := (10 : Int32)) hin27  (g := (mkF m 85 #[.val (.int sel), .val (.int off), .val (.int raw), .unset, .unset, .unset] [(.int (12644 : Int32)), (.int (10 : Int32)), (.ref b6), (.ref b6)])) rfl rfl (hb hby at_85)
    have V28 : Arv Z h28 b6 k6 .int (21 : Int32) [(.int (847 : Int32)), (.int (4447 : Int32)), (.int (4448 : Int32)), (.int (6068 : Int32)), (.int (6069 : Int32)), (.int (6155 : Int32)), (.int (6157 : Int32)), (.int (6159 : Int32)), (.int (8293 : Int32)), (.int (10240 : Int32)), (.int (12644 : Int32)), (.int (0 : Int32)), (.int (0 : Int32)), (.int (0 : Int32)), (.int (0 : Int32)), (.int (0 : Int32)), (.int (0 : Int32)), (.int (0 : Int32)), (.int (0 : Int32)), (.int (0 : Int32)), (.int (0 : Int32))] (.int (0 : Int32)) := Arv.set Ar27 q27 S27 P27 H27 G27 rfl W28 10 rfl (Nat.le_of_ble_eq_true rfl)
    have Z28 : n0 ≤ h28.size := Nat.le_trans Z26 (Keep.of_wr W28).1
    have N28 := Fr.snoc X28 N26 g_b6
    have K28 := Keep.wr K26 W28 (Or.inr sz_b6)
    obtain ⟨cl29, Ar29, q29, S29, P29, H29, G29⟩ := id V28
    have hin29 : ¬ ((11 : Int32) < 0 ∨ cl29.slots.size ≤ ((11 : Int32)).toNatClampNeg) := inb_of S29 ⟨by decide, by decide⟩
    obtain ⟨T30, h30, X30, e30, W30, st30⟩ := stI X28 hx hZ e28 Ar29 (j := (11 : Int32)) hin29  (g := (mkF m 91 #[.val (.int sel), .val (.int off), .val (.int raw), .unset, .unset, .unset] [(.int (65024 : Int32)), (.int (11 : Int32)), (.ref b6), (.ref b6)])) rfl rfl (hb hby at_91)
    have V30 : Arv Z h30 b6 k6 .int (21 : Int32) [(.int (847 : Int32)), (.int (4447 : Int32)), (.int (4448 : Int32)), (.int (6068 : Int32)), (.int (6069 : Int32)), (.int (6155 : Int32)), (.int (6157 : Int32)), (.int (6159 : Int32)), (.int (8293 : Int32)), (.int (10240 : Int32)), (.int (12644 : Int32)), (.int (65024 : Int32)), (.int (0 : Int32)), (.int (0 : Int32)), (.int (0 : Int32)), (.int (0 : Int32)), (.int (0 : Int32)), (.int (0 : Int32)), (.int (0 : Int32)), (.int (0 : Int32)), (.int (0 : Int32))] (.int (0 : Int32)) := Arv.set Ar29 q29 S29 P29 H29 G29 rfl W30 11 rfl (Nat.le_of_ble_eq_true rfl)
    have Z30 : n0 ≤ h30.size := Nat.le_trans Z28 (Keep.of_wr W30).1
    have N30 := Fr.snoc X30 N28 g_b6
    have K30 := Keep.wr K28 W30 (Or.inr sz_b6)
    obtain ⟨cl31, Ar31, q31, S31, P31, H31, G31⟩ := id V30
    have hin31 : ¬ ((12 : Int32) < 0 ∨ cl31.slots.size ≤ ((12 : Int32)).toNatClampNeg) := inb_of S31 ⟨by decide, by decide⟩
    obtain ⟨T32, h32, X32, e32, W32, st32⟩ := stI X30 hx hZ e30 Ar31 (j := (12 : Int32)) hin31  (g := (mkF m 97 #[.val (.int sel), .val (.int off), .val (.int raw), .unset, .unset, .unset] [(.int (65039 : Int32)), (.int (12 : Int32)), (.ref b6), (.ref b6)])) rfl rfl (hb hby at_97)
    have V32 : Arv Z h32 b6 k6 .int (21 : Int32) [(.int (847 : Int32)), (.int (4447 : Int32)), (.int (4448 : Int32)), (.int (6068 : Int32)), (.int (6069 : Int32)), (.int (6155 : Int32)), (.int (6157 : Int32)), (.int (6159 : Int32)), (.int (8293 : Int32)), (.int (10240 : Int32)), (.int (12644 : Int32)), (.int (65024 : Int32)), (.int (65039 : Int32)), (.int (0 : Int32)), (.int (0 : Int32)), (.int (0 : Int32)), (.int (0 : Int32)), (.int (0 : Int32)), (.int (0 : Int32)), (.int (0 : Int32)), (.int (0 : Int32))] (.int (0 : Int32)) := Arv.set Ar31 q31 S31 P31 H31 G31 rfl W32 12 rfl (Nat.le_of_ble_eq_true rfl)
    have Z32 : n0 ≤ h32.size := Nat.le_trans Z30 (Keep.of_wr W32).1
    have N32 := Fr.snoc X32 N30 g_b6
    have K32 := Keep.wr K30 W32 (Or.inr sz_b6)
    obtain ⟨cl33, Ar33, q33, S33, P33, H33, G33⟩ := id V32
    have hin33 : ¬ ((13 : Int32) < 0 ∨ cl33.slots.size ≤ ((13 : Int32)).toNatClampNeg) := inb_of S33 ⟨by decide, by decide⟩
    obtain ⟨T34, h34, X34, e34, W34, st34⟩ := stI X32 hx hZ e32 Ar33 (j := (13 : Int32)) hin33  (g := (mkF m 103 #[.val (.int sel), .val (.int off), .val (.int raw), .unset, .unset, .unset] [(.int (65440 : Int32)), (.int (13 : Int32)), (.ref b6), (.ref b6)])) rfl rfl (hb hby at_103)
    have V34 : Arv Z h34 b6 k6 .int (21 : Int32) [(.int (847 : Int32)), (.int (4447 : Int32)), (.int (4448 : Int32)), (.int (6068 : Int32)), (.int (6069 : Int32)), (.int (6155 : Int32)), (.int (6157 : Int32)), (.int (6159 : Int32)), (.int (8293 : Int32)), (.int (10240 : Int32)), (.int (12644 : Int32)), (.int (65024 : Int32)), (.int (65039 : Int32)), (.int (65440 : Int32)), (.int (0 : Int32)), (.int (0 : Int32)), (.int (0 : Int32)), (.int (0 : Int32)), (.int (0 : Int32)), (.int (0 : Int32)), (.int (0 : Int32))] (.int (0 : Int32)) := Arv.set Ar33 q33 S33 P33 H33 G33 rfl W34 13 rfl (Nat.le_of_ble_eq_true rfl)
    have Z34 : n0 ≤ h34.size := Nat.le_trans Z32 (Keep.of_wr W34).1
    have N34 := Fr.snoc X34 N32 g_b6
    have K34 := Keep.wr K32 W34 (Or.inr sz_b6)
    obtain ⟨cl35, Ar35, q35, S35, P35, H35, G35⟩ := id V34
    have hin35 : ¬ ((14 : Int32) < 0 ∨ cl35.slots.size ≤ ((14 : Int32)).toNatClampNeg) := inb_of S35 ⟨by decide, by decide⟩
    obtain ⟨T36, h36, X36, e36, W36, st36⟩ := stI X34 hx hZ e34 Ar35 (j := (14 : Int32)) hin35  (g := (mkF m 109 #[.val (.int sel), .val (.int off), .val (.int raw), .unset, .unset, .unset] [(.int (65520 : Int32)), (.int (14 : Int32)), (.ref b6), (.ref b6)])) rfl rfl (hb hby at_109)
    have V36 : Arv Z h36 b6 k6 .int (21 : Int32) [(.int (847 : Int32)), (.int (4447 : Int32)), (.int (4448 : Int32)), (.int (6068 : Int32)), (.int (6069 : Int32)), (.int (6155 : Int32)), (.int (6157 : Int32)), (.int (6159 : Int32)), (.int (8293 : Int32)), (.int (10240 : Int32)), (.int (12644 : Int32)), (.int (65024 : Int32)), (.int (65039 : Int32)), (.int (65440 : Int32)), (.int (65520 : Int32)), (.int (0 : Int32)), (.int (0 : Int32)), (.int (0 : Int32)), (.int (0 : Int32)), (.int (0 : Int32)), (.int (0 : Int32))] (.int (0 : Int32)) := Arv.set Ar35 q35 S35 P35 H35 G35 rfl W36 14 rfl (Nat.le_of_ble_eq_true rfl)
    have Z36 : n0 ≤ h36.size := Nat.le_trans Z34 (Keep.of_wr W36).1
    have N36 := Fr.snoc X36 N34 g_b6
    have K36 := Keep.wr K34 W36 (Or.inr sz_b6)
    obtain ⟨cl37, Ar37, q37, S37, P37, H37, G37⟩ := id V36
    have hin37 : ¬ ((15 : Int32) < 0 ∨ cl37.slots.size ≤ ((15 : Int32)).toNatClampNeg) := inb_of S37 ⟨by decide, by decide⟩
    obtain ⟨T38, h38, X38, e38, W38, st38⟩ := stI X36 hx hZ e36 Ar37 (j := (15 : Int32)) hin37  (g := (mkF m 115 #[.val (.int sel), .val (.int off), .val (.int raw), .unset, .unset, .unset] [(.int (65528 : Int32)), (.int (15 : Int32)), (.ref b6), (.ref b6)])) rfl rfl (hb hby at_115)
    have V38 : Arv Z h38 b6 k6 .int (21 : Int32) [(.int (847 : Int32)), (.int (4447 : Int32)), (.int (4448 : Int32)), (.int (6068 : Int32)), (.int (6069 : Int32)), (.int (6155 : Int32)), (.int (6157 : Int32)), (.int (6159 : Int32)), (.int (8293 : Int32)), (.int (10240 : Int32)), (.int (12644 : Int32)), (.int (65024 : Int32)), (.int (65039 : Int32)), (.int (65440 : Int32)), (.int (65520 : Int32)), (.int (65528 : Int32)), (.int (0 : Int32)), (.int (0 : Int32)), (.int (0 : Int32)), (.int (0 : Int32)), (.int (0 : Int32))] (.int (0 : Int32)) := Arv.set Ar37 q37 S37 P37 H37 G37 rfl W38 15 rfl (Nat.le_of_ble_eq_true rfl)
    have Z38 : n0 ≤ h38.size := Nat.le_trans Z36 (Keep.of_wr W38).1
    have N38 := Fr.snoc X38 N36 g_b6
    have K38 := Keep.wr K36 W38 (Or.inr sz_b6)
    obtain ⟨cl39, Ar39, q39, S39, P39, H39, G39⟩ := id V38
    have hin39 : ¬ ((16 : Int32) < 0 ∨ cl39.slots.size ≤ ((16 : Int32)).toNatClampNeg) := inb_of S39 ⟨by decide, by decide⟩
    obtain ⟨T40, h40, X40, e40, W40, st40⟩ := stI X38 hx hZ e38 Ar39 (j := (16 : Int32)) hin39  (g := (mkF m 121 #[.val (.int sel), .val (.int off), .val (.int raw), .unset, .unset, .unset] [(.int (917504 : Int32)), (.int (16 : Int32)), (.ref b6), (.ref b6)])) rfl rfl (hb hby at_121)
    have V40 : Arv Z h40 b6 k6 .int (21 : Int32) [(.int (847 : Int32)), (.int (4447 : Int32)), (.int (4448 : Int32)), (.int (6068 : Int32)), (.int (6069 : Int32)), (.int (6155 : Int32)), (.int (6157 : Int32)), (.int (6159 : Int32)), (.int (8293 : Int32)), (.int (10240 : Int32)), (.int (12644 : Int32)), (.int (65024 : Int32)), (.int (65039 : Int32)), (.int (65440 : Int32)), (.int (65520 : Int32)), (.int (65528 : Int32)), (.int (917504 : Int32)), (.int (0 : Int32)), (.int (0 : Int32)), (.int (0 : Int32)), (.int (0 : Int32))] (.int (0 : Int32)) := Arv.set Ar39 q39 S39 P39 H39 G39 rfl W40 16 rfl (Nat.le_of_ble_eq_true rfl)
    have Z40 : n0 ≤ h40.size := Nat.le_trans Z38 (Keep.of_wr W40).1
    have N40 := Fr.snoc X40 N38 g_b6
    have K40 := Keep.wr K38 W40 (Or.inr sz_b6)
    obtain ⟨cl41, Ar41, q41, S41, P41, H41, G41⟩ := id V40
    have hin41 : ¬ ((17 : Int32) < 0 ∨ cl41.slots.size ≤ ((17 : Int32)).toNatClampNeg) := inb_of S41 ⟨by decide, by decide⟩
    obtain ⟨T42, h42, X42, e42, W42, st42⟩ := stI X40 hx hZ e40 Ar41 (j := (17 : Int32)) hin41  (g := (mkF m 127 #[.val (.int sel), .val (.int off), .val (.int raw), .unset, .unset, .unset] [(.int (917506 : Int32)), (.int (17 : Int32)), (.ref b6), (.ref b6)])) rfl rfl (hb hby at_127)
    have V42 : Arv Z h42 b6 k6 .int (21 : Int32) [(.int (847 : Int32)), (.int (4447 : Int32)), (.int (4448 : Int32)), (.int (6068 : Int32)), (.int (6069 : Int32)), (.int (6155 : Int32)), (.int (6157 : Int32)), (.int (6159 : Int32)), (.int (8293 : Int32)), (.int (10240 : Int32)), (.int (12644 : Int32)), (.int (65024 : Int32)), (.int (65039 : Int32)), (.int (65440 : Int32)), (.int (65520 : Int32)), (.int (65528 : Int32)), (.int (917504 : Int32)), (.int (917506 : Int32)), (.int (0 : Int32)), (.int (0 : Int32)), (.int (0 : Int32))] (.int (0 : Int32)) := Arv.set Ar41 q41 S41 P41 H41 G41 rfl W42 17 rfl (Nat.le_of_ble_eq_true rfl)
    have Z42 : n0 ≤ h42.size := Nat.le_trans Z40 (Keep.of_wr W42).1
    have N42 := Fr.snoc X42 N40 g_b6
    have K42 := Keep.wr K40 W42 (Or.inr sz_b6)
    obtain ⟨cl43, Ar43, q43, S43, P43, H43, G43⟩ := id V42
    have hin43 : ¬ ((18 : Int32) < 0 ∨ cl43.slots.size ≤ ((18 : Int32)).toNatClampNeg) := inb_of S43 ⟨by decide, by decide⟩
    obtain ⟨T44, h44, X44, e44, W44, st44⟩ := stI X42 hx hZ e42 Ar43 (j := (18 : Int32)) hin43  (g := (mkF m 133 #[.val (.int sel), .val (.int off), .val (.int raw), .unset, .unset, .unset] [(.int (917535 : Int32)), (.int (18 : Int32)), (.ref b6), (.ref b6)])) rfl rfl (hb hby at_133)
    have V44 : Arv Z h44 b6 k6 .int (21 : Int32) [(.int (847 : Int32)), (.int (4447 : Int32)), (.int (4448 : Int32)), (.int (6068 : Int32)), (.int (6069 : Int32)), (.int (6155 : Int32)), (.int (6157 : Int32)), (.int (6159 : Int32)), (.int (8293 : Int32)), (.int (10240 : Int32)), (.int (12644 : Int32)), (.int (65024 : Int32)), (.int (65039 : Int32)), (.int (65440 : Int32)), (.int (65520 : Int32)), (.int (65528 : Int32)), (.int (917504 : Int32)), (.int (917506 : Int32)), (.int (917535 : Int32)), (.int (0 : Int32)), (.int (0 : Int32))] (.int (0 : Int32)) := Arv.set Ar43 q43 S43 P43 H43 G43 rfl W44 18 rfl (Nat.le_of_ble_eq_true rfl)
    have Z44 : n0 ≤ h44.size := Nat.le_trans Z42 (Keep.of_wr W44).1
    have N44 := Fr.snoc X44 N42 g_b6
    have K44 := Keep.wr K42 W44 (Or.inr sz_b6)
    obtain ⟨cl45, Ar45, q45, S45, P45, H45, G45⟩ := id V44
    have hin45 : ¬ ((19 : Int32) < 0 ∨ cl45.slots.size ≤ ((19 : Int32)).toNatClampNeg) := inb_of S45 ⟨by decide, by decide⟩
    obtain ⟨T46, h46, X46, e46, W46, st46⟩ := stI X44 hx hZ e44 Ar45 (j := (19 : Int32)) hin45  (g := (mkF m 139 #[.val (.int sel), .val (.int off), .val (.int raw), .unset, .unset, .unset] [(.int (917632 : Int32)), (.int (19 : Int32)), (.ref b6), (.ref b6)])) rfl rfl (hb hby at_139)
    have V46 : Arv Z h46 b6 k6 .int (21 : Int32) [(.int (847 : Int32)), (.int (4447 : Int32)), (.int (4448 : Int32)), (.int (6068 : Int32)), (.int (6069 : Int32)), (.int (6155 : Int32)), (.int (6157 : Int32)), (.int (6159 : Int32)), (.int (8293 : Int32)), (.int (10240 : Int32)), (.int (12644 : Int32)), (.int (65024 : Int32)), (.int (65039 : Int32)), (.int (65440 : Int32)), (.int (65520 : Int32)), (.int (65528 : Int32)), (.int (917504 : Int32)), (.int (917506 : Int32)), (.int (917535 : Int32)), (.int (917632 : Int32)), (.int (0 : Int32))] (.int (0 : Int32)) := Arv.set Ar45 q45 S45 P45 H45 G45 rfl W46 19 rfl (Nat.le_of_ble_eq_true rfl)
    have Z46 : n0 ≤ h46.size := Nat.le_trans Z44 (Keep.of_wr W46).1
    have N46 := Fr.snoc X46 N44 g_b6
    have K46 := Keep.wr K44 W46 (Or.inr sz_b6)
    obtain ⟨cl47, Ar47, q47, S47, P47, H47, G47⟩ := id V46
    have hin47 : ¬ ((20 : Int32) < 0 ∨ cl47.slots.size ≤ ((20 : Int32)).toNatClampNeg) := inb_of S47 ⟨by decide, by decide⟩
    obtain ⟨T48, h48, X48, e48, W48, st48⟩ := stI X46 hx hZ e46 Ar47 (j := (20 : Int32)) hin47  (g := (mkF m 145 #[.val (.int sel), .val (.int off), .val (.int raw), .unset, .unset, .unset] [(.int (921599 : Int32)), (.int (20 : Int32)), (.ref b6), (.ref b6)])) rfl rfl (hb hby at_145)
    have V48 : Arv Z h48 b6 k6 .int (21 : Int32) [(.int (847 : Int32)), (.int (4447 : Int32)), (.int (4448 : Int32)), (.int (6068 : Int32)), (.int (6069 : Int32)), (.int (6155 : Int32)), (.int (6157 : Int32)), (.int (6159 : Int32)), (.int (8293 : Int32)), (.int (10240 : Int32)), (.int (12644 : Int32)), (.int (65024 : Int32)), (.int (65039 : Int32)), (.int (65440 : Int32)), (.int (65520 : Int32)), (.int (65528 : Int32)), (.int (917504 : Int32)), (.int (917506 : Int32)), (.int (917535 : Int32)), (.int (917632 : Int32)), (.int (921599 : Int32))] (.int (0 : Int32)) := Arv.set Ar47 q47 S47 P47 H47 G47 rfl W48 20 rfl (Nat.le_of_ble_eq_true rfl)
    have Z48 : n0 ≤ h48.size := Nat.le_trans Z46 (Keep.of_wr W48).1
    have N48 := Fr.snoc X48 N46 g_b6
    have K48 := Keep.wr K46 W48 (Or.inr sz_b6)
    obtain ⟨cl49, Ar49, q49, S49, P49, H49, G49⟩ := id V48
    obtain ⟨cl50, Ar50, q50, S50, P50, H50, G50⟩ := id V48
    obtain ⟨ed, hed⟩ := own_getI [(847 : Int32), (4447 : Int32), (4448 : Int32), (6068 : Int32), (6069 : Int32), (6155 : Int32), (6157 : Int32), (6159 : Int32), (8293 : Int32), (10240 : Int32), (12644 : Int32), (65024 : Int32), (65039 : Int32), (65440 : Int32), (65520 : Int32), (65528 : Int32), (917504 : Int32), (917506 : Int32), (917535 : Int32), (917632 : Int32), (921599 : Int32)] ((((sel.toUInt32 >>> ((1 : Int32) &&& 31).toUInt32).toInt32) % (21 : Int32))).toNatClampNeg
    have hin50 : ¬ ((((sel.toUInt32 >>> ((1 : Int32) &&& 31).toUInt32).toInt32) % (21 : Int32)) < 0 ∨ cl50.slots.size ≤ ((((sel.toUInt32 >>> ((1 : Int32) &&& 31).toUInt32).toInt32) % (21 : Int32))).toNatClampNeg) := inb_of S50 (own_inb _ _ (own_ushr1 sel) (by decide))
    have hat50 : cl50.slots[((((sel.toUInt32 >>> ((1 : Int32) &&& 31).toUInt32).toInt32) % (21 : Int32))).toNatClampNeg]? = some (.int ed) := Has.at H50 hin50 hed
    obtain ⟨_, _, ⟨T51, L51, ka51, na51⟩, -, X51, ⟨Lc51, hQ51, l51, y51, z51⟩, st51⟩ := Jvm.LawKit.callS X48 hx (y := (⟨"com/example/hopguard/hopguard/core/VisibleText", "isBlank", "(I)Z"⟩ : MethodName)) hown (mvT hZ (hw _ (List.mem_of_getElem? (i := 0) rfl))) (mvT hZ (hw _ (List.mem_of_getElem? (i := 1) rfl))) (mvT hZ (hw _ (List.mem_of_getElem? (i := 2) rfl))) (mvT hZ (hw _ (List.mem_of_getElem? (i := 3) rfl))) (by decide) (backOf (W := 0) (own_rmB l Z a0 hw [] ((ed + ((off &&& (2147483647 : Int32)) % (5 : Int32))) - (2 : Int32)) wA kA h48 n0 Z48 (own_sta_keep0 S_A K48) (Arv.keep V_A K48 nin0)) hZ (hw _ (List.mem_of_getElem? (i := 3) rfl)) (hw _ (List.mem_of_getElem? (i := 2) rfl)) (by decide) (by decide)) (g := (mkF m 173 #[.val (.int sel), .val (.int off), .val (.int raw), .val (.int ((ed + ((off &&& (2147483647 : Int32)) % (5 : Int32))) - (2 : Int32))), .val (.ref b6), .val (.int (((sel.toUInt32 >>> ((1 : Int32) &&& 31).toUInt32).toInt32) % (21 : Int32)))] [(.int ((ed + ((off &&& (2147483647 : Int32)) % (5 : Int32))) - (2 : Int32)))])) rfl (by rw [hml]; rfl) (argsL := [(.int ((ed + ((off &&& (2147483647 : Int32)) % (5 : Int32))) - (2 : Int32)))]) (rest := []) (lenOf own_pd__I_Z rfl) rfl (by show 2 * 0 + _ ≤ _; exact Nat.le_of_eq rfl) (hb hby at_173) (fun _ _ => ⟨rfl, e48, (by decide : 1 + 0 ≤ _), (by decide : 21 + 0 ≤ _)⟩)
    dsimp only [Pt.U, Pt.locs, Pt.cells, Pt.slots] at X51 l51 y51 z51 st51 hQ51
    subst l51 y51 z51
    obtain ⟨rfl, Nq51, hh51⟩ := hQ51
    have N51 := Fr.app N48 Nq51
    obtain ⟨_, _, ⟨T52, L52, ka52, na52⟩, -, X52, ⟨Lc52, hQ52, l52, y52, z52⟩, st52⟩ := Jvm.LawKit.callS X51 hx (y := (⟨"com/example/hopguard/hopguard/core/VisibleTextIsBlankPinLaw", "ref", "(I)Z"⟩ : MethodName)) hown (mvT hZ (hw _ (List.mem_of_getElem? (i := 6) rfl))) (mvT hZ (hw _ (List.mem_of_getElem? (i := 7) rfl))) (mvT hZ (hw _ (List.mem_of_getElem? (i := 8) rfl))) (mvT hZ (hw _ (List.mem_of_getElem? (i := 9) rfl))) (by decide) (backOf (W := 1) (own_rmR l Z a0 hw [] ((ed + ((off &&& (2147483647 : Int32)) % (5 : Int32))) - (2 : Int32)) h48 n0 Z48) hZ (hw _ (List.mem_of_getElem? (i := 9) rfl)) (hw _ (List.mem_of_getElem? (i := 8) rfl)) (by decide) (by decide)) (g := (mkF m 177 #[.val (.int sel), .val (.int off), .val (.int raw), .val (.int ((ed + ((off &&& (2147483647 : Int32)) % (5 : Int32))) - (2 : Int32))), .val (.ref b6), .val (.int (((sel.toUInt32 >>> ((1 : Int32) &&& 31).toUInt32).toInt32) % (21 : Int32)))] [(.int ((ed + ((off &&& (2147483647 : Int32)) % (5 : Int32))) - (2 : Int32))), (.int (own_bl ((ed + ((off &&& (2147483647 : Int32)) % (5 : Int32))) - (2 : Int32))))])) rfl (by rw [hml]; rfl) (argsL := [(.int ((ed + ((off &&& (2147483647 : Int32)) % (5 : Int32))) - (2 : Int32)))]) (rest := [(.int (own_bl ((ed + ((off &&& (2147483647 : Int32)) % (5 : Int32))) - (2 : Int32))))]) (lenOf own_pd__I_Z rfl) rfl (by show 2 * 0 + _ ≤ _; exact Nat.le_of_eq rfl) (hb hby at_177) (fun _ _ => ⟨rfl, hh51, (by decide : 1 + 0 ≤ _), (by decide : 21 + 0 ≤ _)⟩)
    dsimp only [Pt.U, Pt.locs, Pt.cells, Pt.slots] at X52 l52 y52 z52 st52 hQ52
    subst l52 y52 z52
    obtain ⟨rfl, Nq52, hh52⟩ := hQ52
    have N52 := Fr.app N51 Nq52
    have k53 : ∀ tt, Steps p.tables e below (T52.setTop (mkF m 188 #[.val (.int sel), .val (.int off), .val (.int raw), .val (.int ((ed + ((off &&& (2147483647 : Int32)) % (5 : Int32))) - (2 : Int32))), .val (.ref b6), .val (.int (((sel.toUInt32 >>> ((1 : Int32) &&& 31).toUInt32).toInt32) % (21 : Int32)))] [(.int (1 : Int32))])) tt → Steps p.tables e below (s₁.setTop (entryFrame m #[(.int sel), (.int off), (.int raw)] maxLocals)) tt := by
      intro tt kk
      refine k1 tt ?_
      show Steps p.tables e below (s₁.setTop (mkF m 3 #[.val (.int sel), .val (.int off), .val (.int raw), .unset, .unset, .unset] [(.int (sel &&& (1 : Int32)))])) tt
      refine XS.ifYes X0.here hx rfl (pc0 := 3) (pc' := 11) rfl (hb hby at_3) rfl ((if0 _ _).trans (feq (c3_2 : ¬ ((sel &&& (1 : Int32)) = (0 : Int32)))).2) (by decide) (by decide) ?_
      show Steps p.tables e below (s₁.setTop (mkF m 11 #[.val (.int sel), .val (.int off), .val (.int raw), .unset, .unset, .unset] [])) tt
      refine XS.bipush X0.here hx rfl (hb hby at_11) ?_
      show Steps p.tables e below (s₁.setTop (mkF m 13 #[.val (.int sel), .val (.int off), .val (.int raw), .unset, .unset, .unset] [(.int (21 : Int32))])) tt
      refine st6 _ ?_
      show Steps p.tables e below (T6.setTop (mkF m 15 #[.val (.int sel), .val (.int off), .val (.int raw), .unset, .unset, .unset] [(.ref b6)])) tt
      refine XS.dup X6.here hx rfl (hb hby at_15) rfl rfl ?_
      show Steps p.tables e below (T6.setTop (mkF m 16 #[.val (.int sel), .val (.int off), .val (.int raw), .unset, .unset, .unset] [(.ref b6), (.ref b6)])) tt
      refine XS.iconst X6.here hx rfl (hb hby at_16) ?_
      show Steps p.tables e below (T6.setTop (mkF m 17 #[.val (.int sel), .val (.int off), .val (.int raw), .unset, .unset, .unset] [(.int (0 : Int32)), (.ref b6), (.ref b6)])) tt
      refine XS.sipush X6.here hx rfl (hb hby at_17) ?_
      show Steps p.tables e below (T6.setTop (mkF m 20 #[.val (.int sel), .val (.int off), .val (.int raw), .unset, .unset, .unset] [(.int (847 : Int32)), (.int (0 : Int32)), (.ref b6), (.ref b6)])) tt
      refine st8 _ ?_
      show Steps p.tables e below (T8.setTop (mkF m 21 #[.val (.int sel), .val (.int off), .val (.int raw), .unset, .unset, .unset] [(.ref b6)])) tt
      refine XS.dup X8.here hx rfl (hb hby at_21) rfl rfl ?_
      show Steps p.tables e below (T8.setTop (mkF m 22 #[.val (.int sel), .val (.int off), .val (.int raw), .unset, .unset, .unset] [(.ref b6), (.ref b6)])) tt
      refine XS.iconst X8.here hx rfl (hb hby at_22) ?_
      show Steps p.tables e below (T8.setTop (mkF m 23 #[.val (.int sel), .val (.int off), .val (.int raw), .unset, .unset, .unset] [(.int (1 : Int32)), (.ref b6), (.ref b6)])) tt
      refine XS.sipush X8.here hx rfl (hb hby at_23) ?_
      show Steps p.tables e below (T8.setTop (mkF m 26 #[.val (.int sel), .val (.int off), .val (.int raw), .unset, .unset, .unset] [(.int (4447 : Int32)), (.int (1 : Int32)), (.ref b6), (.ref b6)])) tt
      refine st10 _ ?_
      show Steps p.tables e below (T10.setTop (mkF m 27 #[.val (.int sel), .val (.int off), .val (.int raw), .unset, .unset, .unset] [(.ref b6)])) tt
      refine XS.dup X10.here hx rfl (hb hby at_27) rfl rfl ?_
      show Steps p.tables e below (T10.setTop (mkF m 28 #[.val (.int sel), .val (.int off), .val (.int raw), .unset, .unset, .unset] [(.ref b6), (.ref b6)])) tt
      refine XS.iconst X10.here hx rfl (hb hby at_28) ?_
      show Steps p.tables e below (T10.setTop (mkF m 29 #[.val (.int sel), .val (.int off), .val (.int raw), .unset, .unset, .unset] [(.int (2 : Int32)), (.ref b6), (.ref b6)])) tt
      refine XS.sipush X10.here hx rfl (hb hby at_29) ?_
      show Steps p.tables e below (T10.setTop (mkF m 32 #[.val (.int sel), .val (.int off), .val (.int raw), .unset, .unset, .unset] [(.int (4448 : Int32)), (.int (2 : Int32)), (.ref b6), (.ref b6)])) tt
      refine st12 _ ?_
      show Steps p.tables e below (T12.setTop (mkF m 33 #[.val (.int sel), .val (.int off), .val (.int raw), .unset, .unset, .unset] [(.ref b6)])) tt
      refine XS.dup X12.here hx rfl (hb hby at_33) rfl rfl ?_
      show Steps p.tables e below (T12.setTop (mkF m 34 #[.val (.int sel), .val (.int off), .val (.int raw), .unset, .unset, .unset] [(.ref b6), (.ref b6)])) tt
      refine XS.iconst X12.here hx rfl (hb hby at_34) ?_
      show Steps p.tables e below (T12.setTop (mkF m 35 #[.val (.int sel), .val (.int off), .val (.int raw), .unset, .unset, .unset] [(.int (3 : Int32)), (.ref b6), (.ref b6)])) tt
      refine XS.sipush X12.here hx rfl (hb hby at_35) ?_
      show Steps p.tables e below (T12.setTop (mkF m 38 #[.val (.int sel), .val (.int off), .val (.int raw), .unset, .unset, .unset] [(.int (6068 : Int32)), (.int (3 : Int32)), (.ref b6), (.ref b6)])) tt
      refine st14 _ ?_
      show Steps p.tables e below (T14.setTop (mkF m 39 #[.val (.int sel), .val (.int off), .val (.int raw), .unset, .unset, .unset] [(.ref b6)])) tt
      refine XS.dup X14.here hx rfl (hb hby at_39) rfl rfl ?_
      show Steps p.tables e below (T14.setTop (mkF m 40 #[.val (.int sel), .val (.int off), .val (.int raw), .unset, .unset, .unset] [(.ref b6), (.ref b6)])) tt
      refine XS.iconst X14.here hx rfl (hb hby at_40) ?_
      show Steps p.tables e below (T14.setTop (mkF m 41 #[.val (.int sel), .val (.int off), .val (.int raw), .unset, .unset, .unset] [(.int (4 : Int32)), (.ref b6), (.ref b6)])) tt
      refine XS.sipush X14.here hx rfl (hb hby at_41) ?_
      show Steps p.tables e below (T14.setTop (mkF m 44 #[.val (.int sel), .val (.int off), .val (.int raw), .unset, .unset, .unset] [(.int (6069 : Int32)), (.int (4 : Int32)), (.ref b6), (.ref b6)])) tt
      refine st16 _ ?_
      show Steps p.tables e below (T16.setTop (mkF m 45 #[.val (.int sel), .val (.int off), .val (.int raw), .unset, .unset, .unset] [(.ref b6)])) tt
      refine XS.dup X16.here hx rfl (hb hby at_45) rfl rfl ?_
      show Steps p.tables e below (T16.setTop (mkF m 46 #[.val (.int sel), .val (.int off), .val (.int raw), .unset, .unset, .unset] [(.ref b6), (.ref b6)])) tt
      refine XS.iconst X16.here hx rfl (hb hby at_46) ?_
      show Steps p.tables e below (T16.setTop (mkF m 47 #[.val (.int sel), .val (.int off), .val (.int raw), .unset, .unset, .unset] [(.int (5 : Int32)), (.ref b6), (.ref b6)])) tt
      refine XS.sipush X16.here hx rfl (hb hby at_47) ?_
      show Steps p.tables e below (T16.setTop (mkF m 50 #[.val (.int sel), .val (.int off), .val (.int raw), .unset, .unset, .unset] [(.int (6155 : Int32)), (.int (5 : Int32)), (.ref b6), (.ref b6)])) tt
      refine st18 _ ?_
      show Steps p.tables e below (T18.setTop (mkF m 51 #[.val (.int sel), .val (.int off), .val (.int raw), .unset, .unset, .unset] [(.ref b6)])) tt
      refine XS.dup X18.here hx rfl (hb hby at_51) rfl rfl ?_
      show Steps p.tables e below (T18.setTop (mkF m 52 #[.val (.int sel), .val (.int off), .val (.int raw), .unset, .unset, .unset] [(.ref b6), (.ref b6)])) tt
      refine XS.bipush X18.here hx rfl (hb hby at_52) ?_
      show Steps p.tables e below (T18.setTop (mkF m 54 #[.val (.int sel), .val (.int off), .val (.int raw), .unset, .unset, .unset] [(.int (6 : Int32)), (.ref b6), (.ref b6)])) tt
      refine XS.sipush X18.here hx rfl (hb hby at_54) ?_
      show Steps p.tables e below (T18.setTop (mkF m 57 #[.val (.int sel), .val (.int off), .val (.int raw), .unset, .unset, .unset] [(.int (6157 : Int32)), (.int (6 : Int32)), (.ref b6), (.ref b6)])) tt
      refine st20 _ ?_
      show Steps p.tables e below (T20.setTop (mkF m 58 #[.val (.int sel), .val (.int off), .val (.int raw), .unset, .unset, .unset] [(.ref b6)])) tt
      refine XS.dup X20.here hx rfl (hb hby at_58) rfl rfl ?_
      show Steps p.tables e below (T20.setTop (mkF m 59 #[.val (.int sel), .val (.int off), .val (.int raw), .unset, .unset, .unset] [(.ref b6), (.ref b6)])) tt
      refine XS.bipush X20.here hx rfl (hb hby at_59) ?_
      show Steps p.tables e below (T20.setTop (mkF m 61 #[.val (.int sel), .val (.int off), .val (.int raw), .unset, .unset, .unset] [(.int (7 : Int32)), (.ref b6), (.ref b6)])) tt
      refine XS.sipush X20.here hx rfl (hb hby at_61) ?_
      show Steps p.tables e below (T20.setTop (mkF m 64 #[.val (.int sel), .val (.int off), .val (.int raw), .unset, .unset, .unset] [(.int (6159 : Int32)), (.int (7 : Int32)), (.ref b6), (.ref b6)])) tt
      refine st22 _ ?_
      show Steps p.tables e below (T22.setTop (mkF m 65 #[.val (.int sel), .val (.int off), .val (.int raw), .unset, .unset, .unset] [(.ref b6)])) tt
      refine XS.dup X22.here hx rfl (hb hby at_65) rfl rfl ?_
      show Steps p.tables e below (T22.setTop (mkF m 66 #[.val (.int sel), .val (.int off), .val (.int raw), .unset, .unset, .unset] [(.ref b6), (.ref b6)])) tt
      refine XS.bipush X22.here hx rfl (hb hby at_66) ?_
      show Steps p.tables e below (T22.setTop (mkF m 68 #[.val (.int sel), .val (.int off), .val (.int raw), .unset, .unset, .unset] [(.int (8 : Int32)), (.ref b6), (.ref b6)])) tt
      refine XS.sipush X22.here hx rfl (hb hby at_68) ?_
      show Steps p.tables e below (T22.setTop (mkF m 71 #[.val (.int sel), .val (.int off), .val (.int raw), .unset, .unset, .unset] [(.int (8293 : Int32)), (.int (8 : Int32)), (.ref b6), (.ref b6)])) tt
      refine st24 _ ?_
      show Steps p.tables e below (T24.setTop (mkF m 72 #[.val (.int sel), .val (.int off), .val (.int raw), .unset, .unset, .unset] [(.ref b6)])) tt
      refine XS.dup X24.here hx rfl (hb hby at_72) rfl rfl ?_
      show Steps p.tables e below (T24.setTop (mkF m 73 #[.val (.int sel), .val (.int off), .val (.int raw), .unset, .unset, .unset] [(.ref b6), (.ref b6)])) tt
      refine XS.bipush X24.here hx rfl (hb hby at_73) ?_
      show Steps p.tables e below (T24.setTop (mkF m 75 #[.val (.int sel), .val (.int off), .val (.int raw), .unset, .unset, .unset] [(.int (9 : Int32)), (.ref b6), (.ref b6)])) tt
      refine XS.sipush X24.here hx rfl (hb hby at_75) ?_
      show Steps p.tables e below (T24.setTop (mkF m 78 #[.val (.int sel), .val (.int off), .val (.int raw), .unset, .unset, .unset] [(.int (10240 : Int32)), (.int (9 : Int32)), (.ref b6), (.ref b6)])) tt
      refine st26 _ ?_
      show Steps p.tables e below (T26.setTop (mkF m 79 #[.val (.int sel), .val (.int off), .val (.int raw), .unset, .unset, .unset] [(.ref b6)])) tt
      refine XS.dup X26.here hx rfl (hb hby at_79) rfl rfl ?_
      show Steps p.tables e below (T26.setTop (mkF m 80 #[.val (.int sel), .val (.int off), .val (.int raw), .unset, .unset, .unset] [(.ref b6), (.ref b6)])) tt
      refine XS.bipush X26.here hx rfl (hb hby at_80) ?_
      show Steps p.tables e below (T26.setTop (mkF m 82 #[.val (.int sel), .val (.int off), .val (.int raw), .unset, .unset, .unset] [(.int (10 : Int32)), (.ref b6), (.ref b6)])) tt
      refine XS.sipush X26.here hx rfl (hb hby at_82) ?_
      show Steps p.tables e below (T26.setTop (mkF m 85 #[.val (.int sel), .val (.int off), .val (.int raw), .unset, .unset, .unset] [(.int (12644 : Int32)), (.int (10 : Int32)), (.ref b6), (.ref b6)])) tt
      refine st28 _ ?_
      show Steps p.tables e below (T28.setTop (mkF m 86 #[.val (.int sel), .val (.int off), .val (.int raw), .unset, .unset, .unset] [(.ref b6)])) tt
      refine XS.dup X28.here hx rfl (hb hby at_86) rfl rfl ?_
      show Steps p.tables e below (T28.setTop (mkF m 87 #[.val (.int sel), .val (.int off), .val (.int raw), .unset, .unset, .unset] [(.ref b6), (.ref b6)])) tt
      refine XS.bipush X28.here hx rfl (hb hby at_87) ?_
      show Steps p.tables e below (T28.setTop (mkF m 89 #[.val (.int sel), .val (.int off), .val (.int raw), .unset, .unset, .unset] [(.int (11 : Int32)), (.ref b6), (.ref b6)])) tt
      refine X28.ldcInt hx hown (mvT hZ (hw _ (List.mem_of_getElem? (i := 10) rfl))) (g := (mkF m 89 #[.val (.int sel), .val (.int off), .val (.int raw), .unset, .unset, .unset] [(.int (11 : Int32)), (.ref b6), (.ref b6)])) rfl (hb hby at_89) _ ?_
      show Steps p.tables e below (T28.setTop (mkF m 91 #[.val (.int sel), .val (.int off), .val (.int raw), .unset, .unset, .unset] [(.int (65024 : Int32)), (.int (11 : Int32)), (.ref b6), (.ref b6)])) tt
      refine st30 _ ?_
      show Steps p.tables e below (T30.setTop (mkF m 92 #[.val (.int sel), .val (.int off), .val (.int raw), .unset, .unset, .unset] [(.ref b6)])) tt
      refine XS.dup X30.here hx rfl (hb hby at_92) rfl rfl ?_
      show Steps p.tables e below (T30.setTop (mkF m 93 #[.val (.int sel), .val (.int off), .val (.int raw), .unset, .unset, .unset] [(.ref b6), (.ref b6)])) tt
      refine XS.bipush X30.here hx rfl (hb hby at_93) ?_
      show Steps p.tables e below (T30.setTop (mkF m 95 #[.val (.int sel), .val (.int off), .val (.int raw), .unset, .unset, .unset] [(.int (12 : Int32)), (.ref b6), (.ref b6)])) tt
      refine X30.ldcInt hx hown (mvT hZ (hw _ (List.mem_of_getElem? (i := 17) rfl))) (g := (mkF m 95 #[.val (.int sel), .val (.int off), .val (.int raw), .unset, .unset, .unset] [(.int (12 : Int32)), (.ref b6), (.ref b6)])) rfl (hb hby at_95) _ ?_
      show Steps p.tables e below (T30.setTop (mkF m 97 #[.val (.int sel), .val (.int off), .val (.int raw), .unset, .unset, .unset] [(.int (65039 : Int32)), (.int (12 : Int32)), (.ref b6), (.ref b6)])) tt
      refine st32 _ ?_
      show Steps p.tables e below (T32.setTop (mkF m 98 #[.val (.int sel), .val (.int off), .val (.int raw), .unset, .unset, .unset] [(.ref b6)])) tt
      refine XS.dup X32.here hx rfl (hb hby at_98) rfl rfl ?_
      show Steps p.tables e below (T32.setTop (mkF m 99 #[.val (.int sel), .val (.int off), .val (.int raw), .unset, .unset, .unset] [(.ref b6), (.ref b6)])) tt
      refine XS.bipush X32.here hx rfl (hb hby at_99) ?_
      show Steps p.tables e below (T32.setTop (mkF m 101 #[.val (.int sel), .val (.int off), .val (.int raw), .unset, .unset, .unset] [(.int (13 : Int32)), (.ref b6), (.ref b6)])) tt
      refine X32.ldcInt hx hown (mvT hZ (hw _ (List.mem_of_getElem? (i := 11) rfl))) (g := (mkF m 101 #[.val (.int sel), .val (.int off), .val (.int raw), .unset, .unset, .unset] [(.int (13 : Int32)), (.ref b6), (.ref b6)])) rfl (hb hby at_101) _ ?_
      show Steps p.tables e below (T32.setTop (mkF m 103 #[.val (.int sel), .val (.int off), .val (.int raw), .unset, .unset, .unset] [(.int (65440 : Int32)), (.int (13 : Int32)), (.ref b6), (.ref b6)])) tt
      refine st34 _ ?_
      show Steps p.tables e below (T34.setTop (mkF m 104 #[.val (.int sel), .val (.int off), .val (.int raw), .unset, .unset, .unset] [(.ref b6)])) tt
      refine XS.dup X34.here hx rfl (hb hby at_104) rfl rfl ?_
      show Steps p.tables e below (T34.setTop (mkF m 105 #[.val (.int sel), .val (.int off), .val (.int raw), .unset, .unset, .unset] [(.ref b6), (.ref b6)])) tt
      refine XS.bipush X34.here hx rfl (hb hby at_105) ?_
      show Steps p.tables e below (T34.setTop (mkF m 107 #[.val (.int sel), .val (.int off), .val (.int raw), .unset, .unset, .unset] [(.int (14 : Int32)), (.ref b6), (.ref b6)])) tt
      refine X34.ldcInt hx hown (mvT hZ (hw _ (List.mem_of_getElem? (i := 12) rfl))) (g := (mkF m 107 #[.val (.int sel), .val (.int off), .val (.int raw), .unset, .unset, .unset] [(.int (14 : Int32)), (.ref b6), (.ref b6)])) rfl (hb hby at_107) _ ?_
      show Steps p.tables e below (T34.setTop (mkF m 109 #[.val (.int sel), .val (.int off), .val (.int raw), .unset, .unset, .unset] [(.int (65520 : Int32)), (.int (14 : Int32)), (.ref b6), (.ref b6)])) tt
      refine st36 _ ?_
      show Steps p.tables e below (T36.setTop (mkF m 110 #[.val (.int sel), .val (.int off), .val (.int raw), .unset, .unset, .unset] [(.ref b6)])) tt
      refine XS.dup X36.here hx rfl (hb hby at_110) rfl rfl ?_
      show Steps p.tables e below (T36.setTop (mkF m 111 #[.val (.int sel), .val (.int off), .val (.int raw), .unset, .unset, .unset] [(.ref b6), (.ref b6)])) tt
      refine XS.bipush X36.here hx rfl (hb hby at_111) ?_
      show Steps p.tables e below (T36.setTop (mkF m 113 #[.val (.int sel), .val (.int off), .val (.int raw), .unset, .unset, .unset] [(.int (15 : Int32)), (.ref b6), (.ref b6)])) tt
      refine X36.ldcInt hx hown (mvT hZ (hw _ (List.mem_of_getElem? (i := 18) rfl))) (g := (mkF m 113 #[.val (.int sel), .val (.int off), .val (.int raw), .unset, .unset, .unset] [(.int (15 : Int32)), (.ref b6), (.ref b6)])) rfl (hb hby at_113) _ ?_
      show Steps p.tables e below (T36.setTop (mkF m 115 #[.val (.int sel), .val (.int off), .val (.int raw), .unset, .unset, .unset] [(.int (65528 : Int32)), (.int (15 : Int32)), (.ref b6), (.ref b6)])) tt
      refine st38 _ ?_
      show Steps p.tables e below (T38.setTop (mkF m 116 #[.val (.int sel), .val (.int off), .val (.int raw), .unset, .unset, .unset] [(.ref b6)])) tt
      refine XS.dup X38.here hx rfl (hb hby at_116) rfl rfl ?_
      show Steps p.tables e below (T38.setTop (mkF m 117 #[.val (.int sel), .val (.int off), .val (.int raw), .unset, .unset, .unset] [(.ref b6), (.ref b6)])) tt
      refine XS.bipush X38.here hx rfl (hb hby at_117) ?_
      show Steps p.tables e below (T38.setTop (mkF m 119 #[.val (.int sel), .val (.int off), .val (.int raw), .unset, .unset, .unset] [(.int (16 : Int32)), (.ref b6), (.ref b6)])) tt
      refine X38.ldcInt hx hown (mvT hZ (hw _ (List.mem_of_getElem? (i := 13) rfl))) (g := (mkF m 119 #[.val (.int sel), .val (.int off), .val (.int raw), .unset, .unset, .unset] [(.int (16 : Int32)), (.ref b6), (.ref b6)])) rfl (hb hby at_119) _ ?_
      show Steps p.tables e below (T38.setTop (mkF m 121 #[.val (.int sel), .val (.int off), .val (.int raw), .unset, .unset, .unset] [(.int (917504 : Int32)), (.int (16 : Int32)), (.ref b6), (.ref b6)])) tt
      refine st40 _ ?_
      show Steps p.tables e below (T40.setTop (mkF m 122 #[.val (.int sel), .val (.int off), .val (.int raw), .unset, .unset, .unset] [(.ref b6)])) tt
      refine XS.dup X40.here hx rfl (hb hby at_122) rfl rfl ?_
      show Steps p.tables e below (T40.setTop (mkF m 123 #[.val (.int sel), .val (.int off), .val (.int raw), .unset, .unset, .unset] [(.ref b6), (.ref b6)])) tt
      refine XS.bipush X40.here hx rfl (hb hby at_123) ?_
      show Steps p.tables e below (T40.setTop (mkF m 125 #[.val (.int sel), .val (.int off), .val (.int raw), .unset, .unset, .unset] [(.int (17 : Int32)), (.ref b6), (.ref b6)])) tt
      refine X40.ldcInt hx hown (mvT hZ (hw _ (List.mem_of_getElem? (i := 14) rfl))) (g := (mkF m 125 #[.val (.int sel), .val (.int off), .val (.int raw), .unset, .unset, .unset] [(.int (17 : Int32)), (.ref b6), (.ref b6)])) rfl (hb hby at_125) _ ?_
      show Steps p.tables e below (T40.setTop (mkF m 127 #[.val (.int sel), .val (.int off), .val (.int raw), .unset, .unset, .unset] [(.int (917506 : Int32)), (.int (17 : Int32)), (.ref b6), (.ref b6)])) tt
      refine st42 _ ?_
      show Steps p.tables e below (T42.setTop (mkF m 128 #[.val (.int sel), .val (.int off), .val (.int raw), .unset, .unset, .unset] [(.ref b6)])) tt
      refine XS.dup X42.here hx rfl (hb hby at_128) rfl rfl ?_
      show Steps p.tables e below (T42.setTop (mkF m 129 #[.val (.int sel), .val (.int off), .val (.int raw), .unset, .unset, .unset] [(.ref b6), (.ref b6)])) tt
      refine XS.bipush X42.here hx rfl (hb hby at_129) ?_
      show Steps p.tables e below (T42.setTop (mkF m 131 #[.val (.int sel), .val (.int off), .val (.int raw), .unset, .unset, .unset] [(.int (18 : Int32)), (.ref b6), (.ref b6)])) tt
      refine X42.ldcInt hx hown (mvT hZ (hw _ (List.mem_of_getElem? (i := 19) rfl))) (g := (mkF m 131 #[.val (.int sel), .val (.int off), .val (.int raw), .unset, .unset, .unset] [(.int (18 : Int32)), (.ref b6), (.ref b6)])) rfl (hb hby at_131) _ ?_
      show Steps p.tables e below (T42.setTop (mkF m 133 #[.val (.int sel), .val (.int off), .val (.int raw), .unset, .unset, .unset] [(.int (917535 : Int32)), (.int (18 : Int32)), (.ref b6), (.ref b6)])) tt
      refine st44 _ ?_
      show Steps p.tables e below (T44.setTop (mkF m 134 #[.val (.int sel), .val (.int off), .val (.int raw), .unset, .unset, .unset] [(.ref b6)])) tt
      refine XS.dup X44.here hx rfl (hb hby at_134) rfl rfl ?_
      show Steps p.tables e below (T44.setTop (mkF m 135 #[.val (.int sel), .val (.int off), .val (.int raw), .unset, .unset, .unset] [(.ref b6), (.ref b6)])) tt
      refine XS.bipush X44.here hx rfl (hb hby at_135) ?_
      show Steps p.tables e below (T44.setTop (mkF m 137 #[.val (.int sel), .val (.int off), .val (.int raw), .unset, .unset, .unset] [(.int (19 : Int32)), (.ref b6), (.ref b6)])) tt
      refine X44.ldcInt hx hown (mvT hZ (hw _ (List.mem_of_getElem? (i := 15) rfl))) (g := (mkF m 137 #[.val (.int sel), .val (.int off), .val (.int raw), .unset, .unset, .unset] [(.int (19 : Int32)), (.ref b6), (.ref b6)])) rfl (hb hby at_137) _ ?_
      show Steps p.tables e below (T44.setTop (mkF m 139 #[.val (.int sel), .val (.int off), .val (.int raw), .unset, .unset, .unset] [(.int (917632 : Int32)), (.int (19 : Int32)), (.ref b6), (.ref b6)])) tt
      refine st46 _ ?_
      show Steps p.tables e below (T46.setTop (mkF m 140 #[.val (.int sel), .val (.int off), .val (.int raw), .unset, .unset, .unset] [(.ref b6)])) tt
      refine XS.dup X46.here hx rfl (hb hby at_140) rfl rfl ?_
      show Steps p.tables e below (T46.setTop (mkF m 141 #[.val (.int sel), .val (.int off), .val (.int raw), .unset, .unset, .unset] [(.ref b6), (.ref b6)])) tt
      refine XS.bipush X46.here hx rfl (hb hby at_141) ?_
      show Steps p.tables e below (T46.setTop (mkF m 143 #[.val (.int sel), .val (.int off), .val (.int raw), .unset, .unset, .unset] [(.int (20 : Int32)), (.ref b6), (.ref b6)])) tt
      refine X46.ldcInt hx hown (mvT hZ (hw _ (List.mem_of_getElem? (i := 20) rfl))) (g := (mkF m 143 #[.val (.int sel), .val (.int off), .val (.int raw), .unset, .unset, .unset] [(.int (20 : Int32)), (.ref b6), (.ref b6)])) rfl (hb hby at_143) _ ?_
      show Steps p.tables e below (T46.setTop (mkF m 145 #[.val (.int sel), .val (.int off), .val (.int raw), .unset, .unset, .unset] [(.int (921599 : Int32)), (.int (20 : Int32)), (.ref b6), (.ref b6)])) tt
      refine st48 _ ?_
      show Steps p.tables e below (T48.setTop (mkF m 146 #[.val (.int sel), .val (.int off), .val (.int raw), .unset, .unset, .unset] [(.ref b6)])) tt
      refine XS.astore X48.here hx rfl (hb hby at_146) rfl rfl (l' := #[.val (.int sel), .val (.int off), .val (.int raw), .unset, .val (.ref b6), .unset]) rfl ?_
      show Steps p.tables e below (T48.setTop (mkF m 148 #[.val (.int sel), .val (.int off), .val (.int raw), .unset, .val (.ref b6), .unset] [])) tt
      refine XS.iloadN X48.here hx rfl (hb hby at_148) rfl ?_
      show Steps p.tables e below (T48.setTop (mkF m 149 #[.val (.int sel), .val (.int off), .val (.int raw), .unset, .val (.ref b6), .unset] [(.int sel)])) tt
      refine XS.iconst X48.here hx rfl (hb hby at_149) ?_
      show Steps p.tables e below (T48.setTop (mkF m 150 #[.val (.int sel), .val (.int off), .val (.int raw), .unset, .val (.ref b6), .unset] [(.int (1 : Int32)), (.int sel)])) tt
      refine XS.iushr X48.here hx rfl (hb hby at_150) rfl ?_
      show Steps p.tables e below (T48.setTop (mkF m 151 #[.val (.int sel), .val (.int off), .val (.int raw), .unset, .val (.ref b6), .unset] [(.int ((sel.toUInt32 >>> ((1 : Int32) &&& 31).toUInt32).toInt32))])) tt
      refine XS.aload X48.here hx rfl (hb hby at_151) rfl rfl ?_
      show Steps p.tables e below (T48.setTop (mkF m 153 #[.val (.int sel), .val (.int off), .val (.int raw), .unset, .val (.ref b6), .unset] [(.ref b6), (.int ((sel.toUInt32 >>> ((1 : Int32) &&& 31).toUInt32).toInt32))])) tt
      refine X48.arraylength hx (by rw [e48]; exact Ar49.1) (State.isArrayOf_alike hZ.alike Ar49.2.1) (g := (mkF m 153 #[.val (.int sel), .val (.int off), .val (.int raw), .unset, .val (.ref b6), .unset] [(.ref b6), (.int ((sel.toUInt32 >>> ((1 : Int32) &&& 31).toUInt32).toInt32))])) rfl rfl (hb hby at_153) _ ?_
      rw [len_of S49 P49]
      show Steps p.tables e below (T48.setTop (mkF m 154 #[.val (.int sel), .val (.int off), .val (.int raw), .unset, .val (.ref b6), .unset] [(.int (21 : Int32)), (.int ((sel.toUInt32 >>> ((1 : Int32) &&& 31).toUInt32).toInt32))])) tt
      refine iremM X48 hx rfl (hb hby at_154) rfl (by decide) ?_
      show Steps p.tables e below (T48.setTop (mkF m 155 #[.val (.int sel), .val (.int off), .val (.int raw), .unset, .val (.ref b6), .unset] [(.int (((sel.toUInt32 >>> ((1 : Int32) &&& 31).toUInt32).toInt32) % (21 : Int32)))])) tt
      refine XS.istore X48.here hx rfl (hb hby at_155) rfl (l' := #[.val (.int sel), .val (.int off), .val (.int raw), .unset, .val (.ref b6), .val (.int (((sel.toUInt32 >>> ((1 : Int32) &&& 31).toUInt32).toInt32) % (21 : Int32)))]) rfl ?_
      show Steps p.tables e below (T48.setTop (mkF m 157 #[.val (.int sel), .val (.int off), .val (.int raw), .unset, .val (.ref b6), .val (.int (((sel.toUInt32 >>> ((1 : Int32) &&& 31).toUInt32).toInt32) % (21 : Int32)))] [])) tt
      refine XS.aload X48.here hx rfl (hb hby at_157) rfl rfl ?_
      show Steps p.tables e below (T48.setTop (mkF m 159 #[.val (.int sel), .val (.int off), .val (.int raw), .unset, .val (.ref b6), .val (.int (((sel.toUInt32 >>> ((1 : Int32) &&& 31).toUInt32).toInt32) % (21 : Int32)))] [(.ref b6)])) tt
      refine XS.iload X48.here hx rfl (hb hby at_159) rfl ?_
      show Steps p.tables e below (T48.setTop (mkF m 161 #[.val (.int sel), .val (.int off), .val (.int raw), .unset, .val (.ref b6), .val (.int (((sel.toUInt32 >>> ((1 : Int32) &&& 31).toUInt32).toInt32) % (21 : Int32)))] [(.int (((sel.toUInt32 >>> ((1 : Int32) &&& 31).toUInt32).toInt32) % (21 : Int32))), (.ref b6)])) tt
      refine X48.iaload hx (j := (((sel.toUInt32 >>> ((1 : Int32) &&& 31).toUInt32).toInt32) % (21 : Int32))) (v := (.int ed)) (by rw [e48]; exact Ar50.1) (State.isArrayOf_alike hZ.alike Ar50.2.1) Ar50.2.2 hin50 hat50 (g := (mkF m 161 #[.val (.int sel), .val (.int off), .val (.int raw), .unset, .val (.ref b6), .val (.int (((sel.toUInt32 >>> ((1 : Int32) &&& 31).toUInt32).toInt32) % (21 : Int32)))] [(.int (((sel.toUInt32 >>> ((1 : Int32) &&& 31).toUInt32).toInt32) % (21 : Int32))), (.ref b6)])) rfl rfl (hb hby at_161) _ ?_
      show Steps p.tables e below (T48.setTop (mkF m 162 #[.val (.int sel), .val (.int off), .val (.int raw), .unset, .val (.ref b6), .val (.int (((sel.toUInt32 >>> ((1 : Int32) &&& 31).toUInt32).toInt32) % (21 : Int32)))] [(.int ed)])) tt
      refine XS.iloadN X48.here hx rfl (hb hby at_162) rfl ?_
      show Steps p.tables e below (T48.setTop (mkF m 163 #[.val (.int sel), .val (.int off), .val (.int raw), .unset, .val (.ref b6), .val (.int (((sel.toUInt32 >>> ((1 : Int32) &&& 31).toUInt32).toInt32) % (21 : Int32)))] [(.int off), (.int ed)])) tt
      refine X48.ldcInt hx hown (mvT hZ (hw _ (List.mem_of_getElem? (i := 21) rfl))) (g := (mkF m 163 #[.val (.int sel), .val (.int off), .val (.int raw), .unset, .val (.ref b6), .val (.int (((sel.toUInt32 >>> ((1 : Int32) &&& 31).toUInt32).toInt32) % (21 : Int32)))] [(.int off), (.int ed)])) rfl (hb hby at_163) _ ?_
      show Steps p.tables e below (T48.setTop (mkF m 165 #[.val (.int sel), .val (.int off), .val (.int raw), .unset, .val (.ref b6), .val (.int (((sel.toUInt32 >>> ((1 : Int32) &&& 31).toUInt32).toInt32) % (21 : Int32)))] [(.int (2147483647 : Int32)), (.int off), (.int ed)])) tt
      refine XS.iand X48.here hx rfl (hb hby at_165) rfl ?_
      show Steps p.tables e below (T48.setTop (mkF m 166 #[.val (.int sel), .val (.int off), .val (.int raw), .unset, .val (.ref b6), .val (.int (((sel.toUInt32 >>> ((1 : Int32) &&& 31).toUInt32).toInt32) % (21 : Int32)))] [(.int (off &&& (2147483647 : Int32))), (.int ed)])) tt
      refine XS.iconst X48.here hx rfl (hb hby at_166) ?_
      show Steps p.tables e below (T48.setTop (mkF m 167 #[.val (.int sel), .val (.int off), .val (.int raw), .unset, .val (.ref b6), .val (.int (((sel.toUInt32 >>> ((1 : Int32) &&& 31).toUInt32).toInt32) % (21 : Int32)))] [(.int (5 : Int32)), (.int (off &&& (2147483647 : Int32))), (.int ed)])) tt
      refine iremM X48 hx rfl (hb hby at_167) rfl (by decide) ?_
      show Steps p.tables e below (T48.setTop (mkF m 168 #[.val (.int sel), .val (.int off), .val (.int raw), .unset, .val (.ref b6), .val (.int (((sel.toUInt32 >>> ((1 : Int32) &&& 31).toUInt32).toInt32) % (21 : Int32)))] [(.int ((off &&& (2147483647 : Int32)) % (5 : Int32))), (.int ed)])) tt
      refine XS.iadd X48.here hx rfl (hb hby at_168) rfl ?_
      show Steps p.tables e below (T48.setTop (mkF m 169 #[.val (.int sel), .val (.int off), .val (.int raw), .unset, .val (.ref b6), .val (.int (((sel.toUInt32 >>> ((1 : Int32) &&& 31).toUInt32).toInt32) % (21 : Int32)))] [(.int (ed + ((off &&& (2147483647 : Int32)) % (5 : Int32))))])) tt
      refine XS.iconst X48.here hx rfl (hb hby at_169) ?_
      show Steps p.tables e below (T48.setTop (mkF m 170 #[.val (.int sel), .val (.int off), .val (.int raw), .unset, .val (.ref b6), .val (.int (((sel.toUInt32 >>> ((1 : Int32) &&& 31).toUInt32).toInt32) % (21 : Int32)))] [(.int (2 : Int32)), (.int (ed + ((off &&& (2147483647 : Int32)) % (5 : Int32))))])) tt
      refine XS.isub X48.here hx rfl (hb hby at_170) rfl ?_
      show Steps p.tables e below (T48.setTop (mkF m 171 #[.val (.int sel), .val (.int off), .val (.int raw), .unset, .val (.ref b6), .val (.int (((sel.toUInt32 >>> ((1 : Int32) &&& 31).toUInt32).toInt32) % (21 : Int32)))] [(.int ((ed + ((off &&& (2147483647 : Int32)) % (5 : Int32))) - (2 : Int32)))])) tt
      refine XS.istoreN X48.here hx rfl (hb hby at_171) rfl (l' := #[.val (.int sel), .val (.int off), .val (.int raw), .val (.int ((ed + ((off &&& (2147483647 : Int32)) % (5 : Int32))) - (2 : Int32))), .val (.ref b6), .val (.int (((sel.toUInt32 >>> ((1 : Int32) &&& 31).toUInt32).toInt32) % (21 : Int32)))]) rfl ?_
      show Steps p.tables e below (T48.setTop (mkF m 172 #[.val (.int sel), .val (.int off), .val (.int raw), .val (.int ((ed + ((off &&& (2147483647 : Int32)) % (5 : Int32))) - (2 : Int32))), .val (.ref b6), .val (.int (((sel.toUInt32 >>> ((1 : Int32) &&& 31).toUInt32).toInt32) % (21 : Int32)))] [])) tt
      refine XS.iloadN X48.here hx rfl (hb hby at_172) rfl ?_
      show Steps p.tables e below (T48.setTop (mkF m 173 #[.val (.int sel), .val (.int off), .val (.int raw), .val (.int ((ed + ((off &&& (2147483647 : Int32)) % (5 : Int32))) - (2 : Int32))), .val (.ref b6), .val (.int (((sel.toUInt32 >>> ((1 : Int32) &&& 31).toUInt32).toInt32) % (21 : Int32)))] [(.int ((ed + ((off &&& (2147483647 : Int32)) % (5 : Int32))) - (2 : Int32)))])) tt
      refine st51 _ ?_
      show Steps p.tables e below (T51.setTop (mkF m 176 #[.val (.int sel), .val (.int off), .val (.int raw), .val (.int ((ed + ((off &&& (2147483647 : Int32)) % (5 : Int32))) - (2 : Int32))), .val (.ref b6), .val (.int (((sel.toUInt32 >>> ((1 : Int32) &&& 31).toUInt32).toInt32) % (21 : Int32)))] [(.int (own_bl ((ed + ((off &&& (2147483647 : Int32)) % (5 : Int32))) - (2 : Int32))))])) tt
      refine XS.iloadN X51.here hx rfl (hb hby at_176) rfl ?_
      show Steps p.tables e below (T51.setTop (mkF m 177 #[.val (.int sel), .val (.int off), .val (.int raw), .val (.int ((ed + ((off &&& (2147483647 : Int32)) % (5 : Int32))) - (2 : Int32))), .val (.ref b6), .val (.int (((sel.toUInt32 >>> ((1 : Int32) &&& 31).toUInt32).toInt32) % (21 : Int32)))] [(.int ((ed + ((off &&& (2147483647 : Int32)) % (5 : Int32))) - (2 : Int32))), (.int (own_bl ((ed + ((off &&& (2147483647 : Int32)) % (5 : Int32))) - (2 : Int32))))])) tt
      refine st52 _ ?_
      show Steps p.tables e below (T52.setTop (mkF m 180 #[.val (.int sel), .val (.int off), .val (.int raw), .val (.int ((ed + ((off &&& (2147483647 : Int32)) % (5 : Int32))) - (2 : Int32))), .val (.ref b6), .val (.int (((sel.toUInt32 >>> ((1 : Int32) &&& 31).toUInt32).toInt32) % (21 : Int32)))] [(.int (own_bl ((ed + ((off &&& (2147483647 : Int32)) % (5 : Int32))) - (2 : Int32)))), (.int (own_bl ((ed + ((off &&& (2147483647 : Int32)) % (5 : Int32))) - (2 : Int32))))])) tt
      refine XS.icmpNo X52.here hx rfl (hb hby at_180) rfl (teq (rfl : (own_bl ((ed + ((off &&& (2147483647 : Int32)) % (5 : Int32))) - (2 : Int32))) = (own_bl ((ed + ((off &&& (2147483647 : Int32)) % (5 : Int32))) - (2 : Int32))))).2 ?_
      show Steps p.tables e below (T52.setTop (mkF m 183 #[.val (.int sel), .val (.int off), .val (.int raw), .val (.int ((ed + ((off &&& (2147483647 : Int32)) % (5 : Int32))) - (2 : Int32))), .val (.ref b6), .val (.int (((sel.toUInt32 >>> ((1 : Int32) &&& 31).toUInt32).toInt32) % (21 : Int32)))] [])) tt
      refine XS.iconst X52.here hx rfl (hb hby at_183) ?_
      show Steps p.tables e below (T52.setTop (mkF m 184 #[.val (.int sel), .val (.int off), .val (.int raw), .val (.int ((ed + ((off &&& (2147483647 : Int32)) % (5 : Int32))) - (2 : Int32))), .val (.ref b6), .val (.int (((sel.toUInt32 >>> ((1 : Int32) &&& 31).toUInt32).toInt32) % (21 : Int32)))] [(.int (1 : Int32))])) tt
      refine XS.goto X52.here hx rfl (pc0 := 184) (pc' := 188) rfl (hb hby at_184) (by decide) (by decide) ?_
      exact kk
    obtain ⟨fs, hr, hrun, hended, hW, hsame⟩ := X52.leave (v := some (.int (1 : Int32))) (fun hq => by rw [Bd.returns] at hq; cases hq)
    refine ⟨_, _, k53 _ ?_, hrun, hended, _, _, rfl, ?_, ⟨_, rfl⟩, hW, hsame.mono (by decide) (by decide)⟩
    · show Steps p.tables e below (T52.setTop (mkF m 188 #[.val (.int sel), .val (.int off), .val (.int raw), .val (.int ((ed + ((off &&& (2147483647 : Int32)) % (5 : Int32))) - (2 : Int32))), .val (.ref b6), .val (.int (((sel.toUInt32 >>> ((1 : Int32) &&& 31).toUInt32).toInt32) % (21 : Int32)))] [(.int (1 : Int32))])) _
      exact retN X52 hx (t := .boolean) Bd.returns (by simp) (hb hby at_188) hr
    · show (fun (v : Option Value) (h : Heap) (L : List Loc) => v = some (.int (1 : Int32)) ∧ Fr n0 L) _ T52.heap _
      rw [hh52]
      dsimp only
      exact ⟨rfl, N52⟩
set_option maxRecDepth 65536 in
set_option maxHeartbeats 40000000 in
theorem comes_1 {Post : Tables → Env → Array Value → State → Outcome → State → Prop} (hpost : ∀ tb e args s v u, (limb_1_1.after args s (.returned v) u = true ∧ limb_1_2.after args s (.returned v) u = true ∧ True) → FrameEnd s (.returned v) u (Jvm.fieldLocs frame_1_writes args s ++ Jvm.arrayLocs frame_1_arrays args s ++ Jvm.staticLocs frame_1_statics s) 16 128 → Post tb e args s (.returned v) u) :
    ArmFor flags0 classFile x code maxLocals ret World_1 tables_1 room_1 Calls_1 rest_1 Pre_1 Post := by
  intro l hfl _ _ p e ha hc hk s m args below hf hA hF happ hP
  obtain ⟨hcalls, hrest, hpre⟩ := hP
  obtain ⟨-, -, -, hnamed, -, -, -, hat⟩ := (Spec.applies_iff hf).mp happ
  obtain ⟨hg, hn⟩ := and_e (Cond.before_iff.mp (show (Jvm.Cond.and given_1 narrow_1).before args s = true from hpre))
  obtain ⟨g1, g2⟩ := and_e hg
  obtain ⟨g3, g4⟩ := and_e g2
  obtain ⟨g5, g6⟩ := and_e g4
  obtain ⟨v0, v1, v2, rfl⟩ : ∃ v0 v1 v2 : Value, args = #[v0, v1, v2] := by
    have hs : args.size = 3 := by simpa [Cond.value, given_1] using g1
    obtain ⟨L⟩ := args
    match L, hs with
    | [v0, v1, v2], _ => exact ⟨v0, v1, v2, rfl⟩
  have hw := fun d (hd : d ∈ tables_1) => atoms_spec (ws := Jvm.Cond.code x code maxLocals ret :: tables_1) hat d (List.mem_cons_of_mem _ hd)
  have hfit : Fit s := fun {y c} hc i hi => by
    obtain ⟨ha, rfl⟩ := Array.getElem?_eq_some_iff.mp hc
    have q := List.all_eq_true.mp ((Array.all_eq_true_iff_forall_mem.mp hF) _ (Array.getElem_mem ha)) i (List.mem_range.mpr hi)
    simpa [Array.getElem?_eq_getElem hi] using q
  obtain ⟨i0, ei0⟩ := is_v g3
  obtain rfl : v0 = (.int i0) := Option.some.inj ei0
  obtain ⟨i1, ei1⟩ := is_v g5
  obtain rfl : v1 = (.int i1) := Option.some.inj ei1
  obtain ⟨i2, ei2⟩ := is_v g6
  obtain rfl : v2 = (.int i2) := Option.some.inj ei2
  obtain ⟨g7, g8⟩ := and_e hn
  obtain ⟨w_BLANK_RANGES, ev_w_BLANK_RANGES⟩ := arr_v g7
  obtain ⟨cl_w_BLANK_RANGES, A_w_BLANK_RANGES⟩ := Arr.start ev_w_BLANK_RANGES g7
  obtain ⟨g9, g10⟩ := and_e g8
  obtain ⟨g11, g12⟩ := and_e g10
  obtain ⟨g13, g14⟩ := and_e g12
  obtain ⟨g15, g16⟩ := and_e g14
  obtain ⟨g17, g18⟩ := and_e g16
  obtain ⟨g19, g20⟩ := and_e g18
  obtain ⟨g21, g22⟩ := and_e g20
  obtain ⟨g23, g24⟩ := and_e g22
  obtain ⟨g25, g26⟩ := and_e g24
  obtain ⟨g27, g28⟩ := and_e g26
  obtain ⟨g29, g30⟩ := and_e g28
  obtain ⟨g31, g32⟩ := and_e g30
  obtain ⟨g33, g34⟩ := and_e g32
  obtain ⟨g35, g36⟩ := and_e g34
  obtain ⟨g37, g38⟩ := and_e g36
  obtain ⟨g39, g40⟩ := and_e g38
  obtain ⟨g41, g42⟩ := and_e g40
  obtain ⟨g43, g44⟩ := and_e g42
  obtain ⟨g45, g46⟩ := and_e g44
  obtain ⟨g47, g48⟩ := and_e g46
  obtain ⟨g49, g50⟩ := and_e g48
  obtain ⟨g51, g52⟩ := and_e g50
  obtain ⟨g53, g54⟩ := and_e g52
  obtain ⟨g55, g56⟩ := and_e g54
  obtain ⟨g57, g58⟩ := and_e g56
  obtain ⟨g59, g60⟩ := and_e g58
  obtain ⟨g61, g62⟩ := and_e g60
  obtain ⟨g63, g64⟩ := and_e g62
  have S_w_BLANK_RANGES := Sta.start ev_w_BLANK_RANGES (Or.inr ⟨(hw _ (List.mem_of_getElem? (i := 2) rfl)), (hw _ (List.mem_of_getElem? (i := 5) rfl))⟩)
  obtain ⟨L1_w_BLANK_RANGES, L2_w_BLANK_RANGES⟩ := own_len ev_w_BLANK_RANGES A_w_BLANK_RANGES g9
  have L_w_BLANK_RANGES_0 : cl_w_BLANK_RANGES.slots[0]? = some (.int (847 : Int32)) := own_elem ev_w_BLANK_RANGES A_w_BLANK_RANGES g11 (Term.int_eval _) rfl
  have L_w_BLANK_RANGES_1 : cl_w_BLANK_RANGES.slots[1]? = some (.int (847 : Int32)) := own_elem ev_w_BLANK_RANGES A_w_BLANK_RANGES g13 (Term.int_eval _) rfl
  have L_w_BLANK_RANGES_2 : cl_w_BLANK_RANGES.slots[2]? = some (.int (4447 : Int32)) := own_elem ev_w_BLANK_RANGES A_w_BLANK_RANGES g15 (Term.int_eval _) rfl
  have L_w_BLANK_RANGES_3 : cl_w_BLANK_RANGES.slots[3]? = some (.int (4448 : Int32)) := own_elem ev_w_BLANK_RANGES A_w_BLANK_RANGES g17 (Term.int_eval _) rfl
  have L_w_BLANK_RANGES_4 : cl_w_BLANK_RANGES.slots[4]? = some (.int (6068 : Int32)) := own_elem ev_w_BLANK_RANGES A_w_BLANK_RANGES g19 (Term.int_eval _) rfl
  have L_w_BLANK_RANGES_5 : cl_w_BLANK_RANGES.slots[5]? = some (.int (6069 : Int32)) := own_elem ev_w_BLANK_RANGES A_w_BLANK_RANGES g21 (Term.int_eval _) rfl
  have L_w_BLANK_RANGES_6 : cl_w_BLANK_RANGES.slots[6]? = some (.int (6155 : Int32)) := own_elem ev_w_BLANK_RANGES A_w_BLANK_RANGES g23 (Term.int_eval _) rfl
  have L_w_BLANK_RANGES_7 : cl_w_BLANK_RANGES.slots[7]? = some (.int (6157 : Int32)) := own_elem ev_w_BLANK_RANGES A_w_BLANK_RANGES g25 (Term.int_eval _) rfl
  have L_w_BLANK_RANGES_8 : cl_w_BLANK_RANGES.slots[8]? = some (.int (6159 : Int32)) := own_elem ev_w_BLANK_RANGES A_w_BLANK_RANGES g27 (Term.int_eval _) rfl
  have L_w_BLANK_RANGES_9 : cl_w_BLANK_RANGES.slots[9]? = some (.int (6159 : Int32)) := own_elem ev_w_BLANK_RANGES A_w_BLANK_RANGES g29 (Term.int_eval _) rfl
  have L_w_BLANK_RANGES_10 : cl_w_BLANK_RANGES.slots[10]? = some (.int (8293 : Int32)) := own_elem ev_w_BLANK_RANGES A_w_BLANK_RANGES g31 (Term.int_eval _) rfl
  have L_w_BLANK_RANGES_11 : cl_w_BLANK_RANGES.slots[11]? = some (.int (8293 : Int32)) := own_elem ev_w_BLANK_RANGES A_w_BLANK_RANGES g33 (Term.int_eval _) rfl
  have L_w_BLANK_RANGES_12 : cl_w_BLANK_RANGES.slots[12]? = some (.int (10240 : Int32)) := own_elem ev_w_BLANK_RANGES A_w_BLANK_RANGES g35 (Term.int_eval _) rfl
  have L_w_BLANK_RANGES_13 : cl_w_BLANK_RANGES.slots[13]? = some (.int (10240 : Int32)) := own_elem ev_w_BLANK_RANGES A_w_BLANK_RANGES g37 (Term.int_eval _) rfl
  have L_w_BLANK_RANGES_14 : cl_w_BLANK_RANGES.slots[14]? = some (.int (12644 : Int32)) := own_elem ev_w_BLANK_RANGES A_w_BLANK_RANGES g39 (Term.int_eval _) rfl
  have L_w_BLANK_RANGES_15 : cl_w_BLANK_RANGES.slots[15]? = some (.int (12644 : Int32)) := own_elem ev_w_BLANK_RANGES A_w_BLANK_RANGES g41 (Term.int_eval _) rfl
  have L_w_BLANK_RANGES_16 : cl_w_BLANK_RANGES.slots[16]? = some (.int (65024 : Int32)) := own_elem ev_w_BLANK_RANGES A_w_BLANK_RANGES g43 (Term.int_eval _) rfl
  have L_w_BLANK_RANGES_17 : cl_w_BLANK_RANGES.slots[17]? = some (.int (65039 : Int32)) := own_elem ev_w_BLANK_RANGES A_w_BLANK_RANGES g45 (Term.int_eval _) rfl
  have L_w_BLANK_RANGES_18 : cl_w_BLANK_RANGES.slots[18]? = some (.int (65440 : Int32)) := own_elem ev_w_BLANK_RANGES A_w_BLANK_RANGES g47 (Term.int_eval _) rfl
  have L_w_BLANK_RANGES_19 : cl_w_BLANK_RANGES.slots[19]? = some (.int (65440 : Int32)) := own_elem ev_w_BLANK_RANGES A_w_BLANK_RANGES g49 (Term.int_eval _) rfl
  have L_w_BLANK_RANGES_20 : cl_w_BLANK_RANGES.slots[20]? = some (.int (65520 : Int32)) := own_elem ev_w_BLANK_RANGES A_w_BLANK_RANGES g51 (Term.int_eval _) rfl
  have L_w_BLANK_RANGES_21 : cl_w_BLANK_RANGES.slots[21]? = some (.int (65528 : Int32)) := own_elem ev_w_BLANK_RANGES A_w_BLANK_RANGES g53 (Term.int_eval _) rfl
  have L_w_BLANK_RANGES_22 : cl_w_BLANK_RANGES.slots[22]? = some (.int (917504 : Int32)) := own_elem ev_w_BLANK_RANGES A_w_BLANK_RANGES g55 (Term.int_eval _) rfl
  have L_w_BLANK_RANGES_23 : cl_w_BLANK_RANGES.slots[23]? = some (.int (917504 : Int32)) := own_elem ev_w_BLANK_RANGES A_w_BLANK_RANGES g57 (Term.int_eval _) rfl
  have L_w_BLANK_RANGES_24 : cl_w_BLANK_RANGES.slots[24]? = some (.int (917506 : Int32)) := own_elem ev_w_BLANK_RANGES A_w_BLANK_RANGES g59 (Term.int_eval _) rfl
  have L_w_BLANK_RANGES_25 : cl_w_BLANK_RANGES.slots[25]? = some (.int (917535 : Int32)) := own_elem ev_w_BLANK_RANGES A_w_BLANK_RANGES g61 (Term.int_eval _) rfl
  have L_w_BLANK_RANGES_26 : cl_w_BLANK_RANGES.slots[26]? = some (.int (917632 : Int32)) := own_elem ev_w_BLANK_RANGES A_w_BLANK_RANGES g63 (Term.int_eval _) rfl
  have L_w_BLANK_RANGES_27 : cl_w_BLANK_RANGES.slots[27]? = some (.int (921599 : Int32)) := own_elem ev_w_BLANK_RANGES A_w_BLANK_RANGES g64 (Term.int_eval _) rfl
  have V_w_BLANK_RANGES : Arv s s.heap w_BLANK_RANGES cl_w_BLANK_RANGES.cls .int (28 : Int32) [(.int (847 : Int32)), (.int (847 : Int32)), (.int (4447 : Int32)), (.int (4448 : Int32)), (.int (6068 : Int32)), (.int (6069 : Int32)), (.int (6155 : Int32)), (.int (6157 : Int32)), (.int (6159 : Int32)), (.int (6159 : Int32)), (.int (8293 : Int32)), (.int (8293 : Int32)), (.int (10240 : Int32)), (.int (10240 : Int32)), (.int (12644 : Int32)), (.int (12644 : Int32)), (.int (65024 : Int32)), (.int (65039 : Int32)), (.int (65440 : Int32)), (.int (65440 : Int32)), (.int (65520 : Int32)), (.int (65528 : Int32)), (.int (917504 : Int32)), (.int (917504 : Int32)), (.int (917506 : Int32)), (.int (917535 : Int32)), (.int (917632 : Int32)), (.int (921599 : Int32))] (.int (0 : Int32)) := Arv.start hfit A_w_BLANK_RANGES L1_w_BLANK_RANGES L2_w_BLANK_RANGES (by decide) rfl ⟨L_w_BLANK_RANGES_0, L_w_BLANK_RANGES_1, L_w_BLANK_RANGES_2, L_w_BLANK_RANGES_3, L_w_BLANK_RANGES_4, L_w_BLANK_RANGES_5, L_w_BLANK_RANGES_6, L_w_BLANK_RANGES_7, L_w_BLANK_RANGES_8, L_w_BLANK_RANGES_9, L_w_BLANK_RANGES_10, L_w_BLANK_RANGES_11, L_w_BLANK_RANGES_12, L_w_BLANK_RANGES_13, L_w_BLANK_RANGES_14, L_w_BLANK_RANGES_15, L_w_BLANK_RANGES_16, L_w_BLANK_RANGES_17, L_w_BLANK_RANGES_18, L_w_BLANK_RANGES_19, L_w_BLANK_RANGES_20, L_w_BLANK_RANGES_21, L_w_BLANK_RANGES_22, L_w_BLANK_RANGES_23, L_w_BLANK_RANGES_24, L_w_BLANK_RANGES_25, L_w_BLANK_RANGES_26, L_w_BLANK_RANGES_27, trivial⟩
  obtain ⟨n, o, h1, h2, h3, _, L, rfl, ⟨rfl, N⟩, hq⟩ := own_rm0 l s _ hw tables_1 i0 i1 i2 w_BLANK_RANGES cl_w_BLANK_RANGES.cls s.heap s.heap.size (Nat.le_refl _) S_w_BLANK_RANGES V_w_BLANK_RANGES p e ha hc hk s m _ below hf ((Spec.applies_iff_loose hf).mp happ).1 ⟨rfl, State.Warmed39.refl s, rfl⟩ trivial
  refine ⟨n, _, h1, h2, h3, hpost _ _ _ _ _ _ ⟨Cond.after_iff.mpr rfl, Cond.after_iff.mpr (eq_i res_at (Term.int_eval (1)) rfl), trivial⟩ ⟨hq.1, hq.2.1, (hq.2.2.sift fun y hy => Or.inr (N y hy)).mono (by decide) (by decide)⟩⟩
theorem main_1_1 : Claimed_1_1 := comes_1 fun _ _ _ _ _ _ h hF => ⟨h.1, hF⟩
theorem main_1_2 : Claimed_1_2 := comes_1 fun _ _ _ _ _ _ h hF => ⟨h.2.1, hF⟩
end Jvm.Pilot.@@N@@
namespace Jvm.Pilot.@@N@@
open Jvm Jvm.ClassFile Sem Op Lib Jvm.Free Jvm.Stand Jvm.Pilot.@@N@@.Jvm.D
/-! MADE BY PROGRAM (witnessworld.py) out of the Statement's table words and the real class files: 9 classes; the members and pool entries that the words name. The judged class is class 1, her method 1. -/
namespace start1
open Jvm.ClassFile
def u (s : String) : CpInfo := .utf8 (stringToUtf16 s)
/-- a pool by its gaps: so many unusable entries, then the entry; so many at the end -/
def gap : Nat → List CpInfo → List CpInfo
  | 0, r => r
  | n + 1, r => .unusable :: gap n r
def poolList (es : List (Nat × CpInfo)) (last : Nat) : List CpInfo := es.foldr (fun e r => gap e.1 (e.2 :: r)) (gap last [])
def pool (es : List (Nat × CpInfo)) (last : Nat) : Array CpInfo := ⟨poolList es last⟩
def fileOf (pool : Array CpInfo) (this : Nat) (attrs : Array Attribute := #[]) (ms : Array MethodInfo := #[]) (fl : Nat := 33) (sup : Nat := 0) (ifs : Array Nat := #[]) (fds : Array FieldInfo := #[]) : ClassFile where
  minorVersion := 0
  majorVersion := 65
  constantPool := pool
  accessFlags := fl
  thisClass := this
  superClass := sup
  interfaces := ifs
  fields := fds
  methods := ms
  attributes := attrs
def plain (name : String) (sup : Option ClassId) : Class where
  name := name
  kind := .ordinary
  loader := none
  accessFlags := 33
  super := sup
  interfaces := #[]
  cf := none
  fields := #[]
  methods := #[]
  instanceTypes := #[]
  staticTypes := #[]
  resolved := #[]
  callSites := []
  init := .initialized
  statics := none
  mirror := none

def pool0 : Array CpInfo := pool [(5, u "<init>"), (0, u "()V"), (1, .class_ 10), (1, u "java/lang/Object")] 113

def k0m0 : Method := { name := "<init>", desc := "()V", sig := { parameters := [], returnType := none }, accessFlags := 1, code := none }
/-- java/lang/Object -/
def k0 : Class := { plain "java/lang/Object" none with
  accessFlags := 33
  interfaces := #[]
  cf := some (fileOf pool0 8 #[] #[{ accessFlags := 1, nameIndex := 5, descriptorIndex := 6, attributes := #[] }] 33 0 #[] #[])
  fields := #[]
  methods := #[k0m0]
  instanceTypes := #[]
  staticTypes := #[]
  resolved := Array.replicate 124 none
  statics := none }

def pool1 : Array CpInfo := pool [(2, .class_ 4), (1, u "java/lang/Object"), (0, u "<init>"), (0, u "()V"), (0, .integer 65024), (0, .integer 65039), (0, .integer 65440), (0, .integer 65520), (0, .integer 65528), (0, .integer 917504), (0, .integer 917506), (0, .integer 917535), (0, .integer 917632), (0, .integer 921599), (0, .integer 2147483647), (0, .methodref 19 20), (0, .class_ 21), (0, .nameAndType 22 23), (0, u "com/example/hopguard/hopguard/core/VisibleText"), (0, u "isBlank"), (0, u "(I)Z"), (0, .methodref 25 26), (0, .class_ 27), (0, .nameAndType 28 23), (0, u "com/example/hopguard/hopguard/core/VisibleTextIsBlankPinLaw"), (0, u "ref"), (2, u "law"), (0, u "(III)Z")] 3

def k1m0 : Method := { name := "<init>", desc := "()V", sig := { parameters := [], returnType := none }, accessFlags := 1, code := none }
def k1c1 : Code := { maxStack := 4, maxLocals := 6, code := code, exceptionTable := #[], attributes := #[] }
def k1m1 : Method := { name := "law", desc := "(III)Z", sig := { parameters := [.int, .int, .int], returnType := some .boolean }, accessFlags := 9, code := some k1c1 }
def k1c2 : Code := { maxStack := 2, maxLocals := 1, code := method_3_code, exceptionTable := #[], attributes := #[] }
def k1m2 : Method := { name := "ref", desc := "(I)Z", sig := { parameters := [.int], returnType := some .boolean }, accessFlags := 10, code := some k1c2 }
/-- com/example/hopguard/hopguard/core/VisibleTextIsBlankPinLaw -/
def k1 : Class := { plain "com/example/hopguard/hopguard/core/VisibleTextIsBlankPinLaw" (some 0) with
  accessFlags := 49
  interfaces := #[]
  cf := some (fileOf pool1 25 #[] #[{ accessFlags := 1, nameIndex := 5, descriptorIndex := 6, attributes := #[] }, { accessFlags := 9, nameIndex := 31, descriptorIndex := 32, attributes := #[] }, { accessFlags := 10, nameIndex := 28, descriptorIndex := 23, attributes := #[] }] 49 2 #[] #[])
  fields := #[]
  methods := #[k1m0, k1m1, k1m2]
  instanceTypes := #[]
  staticTypes := #[]
  resolved := Array.replicate 36 none
  statics := none }

def pool2 : Array CpInfo := pool [(2, .class_ 4), (1, u "java/lang/Object"), (0, u "<init>"), (0, u "()V"), (11, .class_ 20), (1, u "com/example/hopguard/hopguard/core/VisibleText"), (39, u "(I)Z"), (17, u "isBlank"), (0, .fieldref 18 80), (0, .nameAndType 81 82), (0, u "BLANK_RANGES"), (0, u "[I"), (10, u "INVISIBLE"), (0, u "Ljava/lang/String;")] 11

def k2m0 : Method := { name := "<init>", desc := "()V", sig := { parameters := [], returnType := none }, accessFlags := 2, code := none }
def k2c1 : Code := { maxStack := 4, maxLocals := 2, code := prog_9_method_5_code, exceptionTable := #[], attributes := #[] }
def k2m1 : Method := { name := "isBlank", desc := "(I)Z", sig := { parameters := [.int], returnType := some .boolean }, accessFlags := 8, code := some k2c1 }
/-- com/example/hopguard/hopguard/core/VisibleText -/
def k2 : Class := { plain "com/example/hopguard/hopguard/core/VisibleText" (some 0) with
  accessFlags := 49
  interfaces := #[]
  cf := some (fileOf pool2 18 #[] #[{ accessFlags := 2, nameIndex := 5, descriptorIndex := 6, attributes := #[] }, { accessFlags := 8, nameIndex := 78, descriptorIndex := 60, attributes := #[] }] 49 2 #[] #[{ accessFlags := 26, nameIndex := 81, descriptorIndex := 82, attributes := #[] }, { accessFlags := 26, nameIndex := 93, descriptorIndex := 94, attributes := #[] }])
  fields := #[{ name := "BLANK_RANGES", type := (.array .int), accessFlags := 26, slot := 0, constantValue := 0 }, { name := "INVISIBLE", type := (.object "java/lang/String"), accessFlags := 26, slot := 1, constantValue := 0 }]
  methods := #[k2m0, k2m1]
  instanceTypes := #[]
  staticTypes := #[(.array .int), (.object "java/lang/String")]
  resolved := Array.replicate 106 none
  statics := some 0 }

def pool3 : Array CpInfo := pool [(1, u "java/lang/Cloneable"), (0, .class_ 1), (0, u "java/lang/Object"), (0, .class_ 3)] 3

/-- java/lang/Cloneable -/
def k3 : Class := { plain "java/lang/Cloneable" (some 0) with
  accessFlags := 1537
  interfaces := #[]
  cf := some (fileOf pool3 2 #[] #[] 1537 4 #[] #[])
  fields := #[]
  methods := #[]
  instanceTypes := #[]
  staticTypes := #[]
  resolved := Array.replicate 8 none
  statics := none }

def pool4 : Array CpInfo := pool [(1, u "java/io/Serializable"), (0, .class_ 1), (0, u "java/lang/Object"), (0, .class_ 3)] 3

/-- java/io/Serializable -/
def k4 : Class := { plain "java/io/Serializable" (some 0) with
  accessFlags := 1537
  interfaces := #[]
  cf := some (fileOf pool4 2 #[] #[] 1537 4 #[] #[])
  fields := #[]
  methods := #[]
  instanceTypes := #[]
  staticTypes := #[]
  resolved := Array.replicate 8 none
  statics := none }

/-- the primitive byte -/
def k5 : Class := { plain "byte" none with kind := .primitive 'B', accessFlags := 0x411 }
/-- [B -/
def k6 : Class := { plain "[B" (some 0) with kind := .array 5 .byte, interfaces := #[3, 4], accessFlags := 1041 }

/-- the primitive int -/
def k7 : Class := { plain "int" none with kind := .primitive 'I', accessFlags := 0x411 }
/-- [I -/
def k8 : Class := { plain "[I" (some 0) with kind := .array 7 .int, interfaces := #[3, 4], accessFlags := 1041 }

def heap : Heap := #[{ cls := 2, slots := #[.ref 1, .null], vm := .statics 2 },
  { cls := 8, slots := #[.int 847, .int 847, .int 4447, .int 4448, .int 6068, .int 6069, .int 6155, .int 6157, .int 6159, .int 6159, .int 8293, .int 8293, .int 10240, .int 10240, .int 12644, .int 12644, .int 65024, .int 65039, .int 65440, .int 65440, .int 65520, .int 65528, .int 917504, .int 917504, .int 917506, .int 917535, .int 917632, .int 921599], vm := .none }]
def classes : Array Class := #[k0, k1, k2, k3, k4, k5, k6, k7, k8]
def interned : List (Array UInt16 × Addr) := []
def slotsUsed : Nat := 30
def theMethod : MethodId := ⟨1, 1⟩
def args0 : Array Value := #[.int 5, .int 6, .int 7]
def aboutOver (below : List Frame) : State where
  vm := { classes := classes, interned := interned.toArray }
  heap := heap
  slotsUsed := slotsUsed
  threads := #[{ frames := .invoking theMethod args0 :: below }]
def below0 : List Frame := [.native { method := ⟨0, 0⟩, args := #[] }]
def about1 : State := aboutOver below0
def p0 : Program := .bare "" "" ""
def e0 : Env := launch0.env 0 0 0
theorem w_frames : about1.frames = Frame.invoking theMethod args0 :: below0 := rfl
set_option maxRecDepth 65536 in
theorem w_args : argsFit about1.vm theMethod args0 = true := by decide +kernel
set_option maxRecDepth 65536 in
theorem w_heap : heapFits about1 = true := by decide +kernel
set_option maxRecDepth 65536 in
theorem w_runnable : about1.curStatus? = some .runnable := by decide +kernel
set_option maxRecDepth 65536 in
theorem w_alone : about1.alone = true := by decide +kernel
set_option maxRecDepth 65536 in
theorem w_named : about1.methodNamed? x = some theMethod := by decide +kernel
set_option maxRecDepth 65536 in
theorem w_hears : about1.hears theMethod below0 = true := by decide +kernel
set_option maxRecDepth 65536 in
theorem w_ripe : about1.ripe theMethod args0 below0 = true := by decide +kernel
theorem w_running : about1.status = .running := rfl
set_option maxRecDepth 65536 in
theorem w_room : about1.hasRoom e0.platform room_1 = true :=
  launch0.hasRoom_least _ room_1 (by decide +kernel) (by decide +kernel) (by decide +kernel) (by decide +kernel) (by decide +kernel) (by decide +kernel)
theorem allAtoms_all (ts : List Jvm.Cond) (a : Array Jvm.Value) (st : Jvm.State) : (allAtoms ts).before a st = ts.all (fun c => c.before a st) := by
  induction ts with
  | nil => rfl
  | cons c t ih =>
    show (Jvm.Cond.and c (allAtoms t)).before a st = _
    rw [Jvm.Cond.before_and, ih, List.all_cons]
def words1 : List Jvm.Cond := Jvm.Cond.code x code maxLocals ret :: tables_1
/-- a 'code' word, met by the world's own term for the bytes: nothing is compared byte by byte -/
theorem code_word {y : MethodName} {bytes : ByteArray} {mx : Nat} {rt : Option FieldType} {a : Array Value} {s : State} {m : MethodId} {meth : Method} {c : Code} (h1 : s.methodNamed? y = some m) (h2 : s.vm.method? m = some meth) (h3 : meth.code = some c) (h4 : c.code = bytes)
    (h5 : (c.maxLocals == mx && c.exceptionTable.isEmpty && decide (c.maxStack ≤ mostOperands) && decide (meth.sig.returnType = rt) && !meth.locks && decide (parseMethodDescriptor y.desc = some meth.sig)) = true) : (Jvm.Cond.code y bytes mx rt).before a s = true := by
  simp only [Bool.and_eq_true, beq_iff_eq, Bool.not_eq_true', decide_eq_true_eq] at h5
  obtain ⟨⟨⟨⟨⟨g1, g2⟩, g3⟩, g4⟩, g5⟩, g6⟩ := h5
  simp [Cond.before, Cond.holds, Cond.value, h1, h2, h3, h4, g1, g2, g3, g4, g5, g6]
def isCode : Jvm.Cond → Bool
  | .code _ _ _ _ => true
  | _ => false
theorem all_split {L : List Jvm.Cond} {P : Jvm.Cond → Bool} (h1 : L.all (fun c => isCode c || P c) = true) (h2 : ∀ c ∈ L.filter isCode, P c = true) : L.all P = true := by
  refine List.all_eq_true.mpr fun c hc => ?_
  have h := List.all_eq_true.mp h1 c hc
  rcases Bool.eq_false_or_eq_true (isCode c) with hi | hi
  · exact h2 c (List.mem_filter.mpr ⟨hc, hi⟩)
  · simpa [hi] using h
set_option maxRecDepth 65536 in
theorem w_c0 : (Jvm.Cond.code x code maxLocals ret).before args0 about1 = true := code_word (m := ⟨1, 1⟩) (meth := k1m1) (c := k1c1) (by decide +kernel) rfl rfl rfl (by decide +kernel)
set_option maxRecDepth 65536 in
theorem w_c1 : (Jvm.Cond.code ({ cls := "com/example/hopguard/hopguard/core/VisibleText", name := "isBlank", desc := "(I)Z" } : Jvm.MethodName) prog_9_method_5_code (2 : Nat) (Option.some Jvm.ClassFile.FieldType.boolean)).before args0 about1 = true := code_word (m := ⟨2, 1⟩) (meth := k2m1) (c := k2c1) (by decide +kernel) rfl rfl rfl (by decide +kernel)
set_option maxRecDepth 65536 in
theorem w_c2 : (Jvm.Cond.code ({ cls := "com/example/hopguard/hopguard/core/VisibleTextIsBlankPinLaw", name := "ref", desc := "(I)Z" } : Jvm.MethodName) method_3_code (1 : Nat) (Option.some Jvm.ClassFile.FieldType.boolean)).before args0 about1 = true := code_word (m := ⟨1, 2⟩) (meth := k1m2) (c := k1c2) (by decide +kernel) rfl rfl rfl (by decide +kernel)
def codes1 : List Jvm.Cond := [Jvm.Cond.code x code maxLocals ret, Jvm.Cond.code ({ cls := "com/example/hopguard/hopguard/core/VisibleText", name := "isBlank", desc := "(I)Z" } : Jvm.MethodName) prog_9_method_5_code (2 : Nat) (Option.some Jvm.ClassFile.FieldType.boolean), Jvm.Cond.code ({ cls := "com/example/hopguard/hopguard/core/VisibleTextIsBlankPinLaw", name := "ref", desc := "(I)Z" } : Jvm.MethodName) method_3_code (1 : Nat) (Option.some Jvm.ClassFile.FieldType.boolean)]
set_option maxRecDepth 65536 in
theorem codes_eq : words1.filter isCode = codes1 := rfl
theorem w_codes : ∀ c ∈ words1.filter isCode, c.before args0 about1 = true := by
  rw [codes_eq]
  intro c hc
  simp only [codes1, List.mem_cons, List.not_mem_nil, or_false] at hc
  rcases hc with rfl | rfl | rfl
  · exact w_c0
  · exact w_c1
  · exact w_c2
set_option maxRecDepth 65536 in
theorem w_t1 : words1.all (fun c => isCode c || c.before args0 about1) = true := by decide +kernel
theorem w_tables : (allAtoms (Jvm.Cond.code x code maxLocals ret :: tables_1)).before args0 about1 = true := by
  rw [allAtoms_all]
  show words1.all (fun c => c.before args0 about1) = true
  refine all_split ?_ w_codes
  rw [w_t1]
set_option maxRecDepth 65536 in
theorem w_case : (Jvm.Cond.and given_1 narrow_1).before args0 about1 = true := by decide +kernel
theorem w_applies : (headSpec (Jvm.Cond.code x code maxLocals ret :: tables_1) room_1).applies x e0.platform about1 = true :=
  (Spec.applies_iff w_frames).mpr ⟨w_running, w_runnable, w_alone, w_named, w_hears, w_ripe, w_room, w_tables⟩
theorem atStart : AtStart classFile x code maxLocals ret World_1 tables_1 room_1 Calls_1 rest_1 Pre_1 launch0 p0 e0 about1 theMethod args0 below0 :=
  ⟨lists_1, trivial, launch0.admits_env _ _ _, launch0.least_env, fairChoices_fair.cas, fairChoices_fair.clock, w_frames, w_args, w_heap, w_applies, trivial, trivial, w_case⟩
end start1
theorem witness_1 : WitnessClaimed_1 := ⟨start1.p0, start1.e0, start1.about1, start1.theMethod, start1.args0, start1.below0, start1.atStart⟩
end Jvm.Pilot.@@N@@
