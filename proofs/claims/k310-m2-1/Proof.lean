import JvmDerived
import JvmDerived.Pilot.@@N@@Statement
import JvmDerived.Pilot.@@N@@Code
set_option linter.unusedVariables false
set_option linter.unusedSimpArgs false
namespace Jvm.RoadKit
open Sem ClassFile Op Lib Jvm.Stand Jvm.Free Jvm.LawKit
section New
variable {p : Program} {l : Launch} {e : Env} {R : Room} {s : State} {m : MethodId} {args : Array Value} {below : List Frame} {meth : Method} {c : Code} {T : State} {locs : List Loc} {cells slots : Nat}
theorem retI (X : Stand p l e R s m args below meth c T locs cells slots) (hx : p.tables.exec = Jvm.exec) {pc : Nat} {Ls : Array Slot} {z : Int32} {rest : List Value} (hret : meth.sig.returnType = some .int) (hd : decode c.code pc = .ok (.ireturn, 1)) {fs : List Frame}
    (hl : ∀ (f : JFrame) (acts : List Action), f.method = m → f.locked = none → f.entered = [] → (doReturn e (T.setTop f) acts (some (.int z))).1 = T.setFrames fs) : Steps p.tables e below (T.setTop (mkF m pc Ls (.int z :: rest))) (T.setFrames fs) := by
  have hm' : T.vm.method? m = some meth := X.method'
  have hn : narrow .int (.int z) = .int z := rfl
  show Steps p.tables e below (T.setTop { method := m, pc := pc, locals := Ls, stack := _ :: rest, locked := none }) _
  jvm_step X.here [X.here.top, hx, hd, hm', hret, hn]
  first | (intro acts; rw [hl _ acts rfl rfl rfl]) | rw [hl _ _ rfl rfl rfl]
  exact Steps.refl _
end New
end Jvm.RoadKit
namespace Jvm.Pilot.@@N@@
open Jvm Jvm.ClassFile Sem Op Lib Jvm.Free Jvm.Stand Jvm.LawKit Jvm.RoadKit Bundle Jvm.Pilot.@@N@@.Jvm.D

theorem own_and_bd (x m : Int32) (hm : 0 ≤ m.toInt) : 0 ≤ (x &&& m).toInt ∧ (x &&& m).toInt ≤ m.toInt := by
  have e : (x &&& m).toBitVec.toNat = x.toBitVec.toNat &&& m.toBitVec.toNat := by
    show (x.toBitVec &&& m.toBitVec).toNat = _
    rw [BitVec.toNat_and]
  have l1 : x.toBitVec.toNat &&& m.toBitVec.toNat ≤ m.toBitVec.toNat := Nat.and_le_right
  change 0 ≤ m.toBitVec.toInt at hm
  show 0 ≤ (x &&& m).toBitVec.toInt ∧ (x &&& m).toBitVec.toInt ≤ m.toBitVec.toInt
  rw [BitVec.toInt_eq_toNat_cond] at hm ⊢
  rw [BitVec.toInt_eq_toNat_cond, e]
  have := m.toBitVec.isLt
  split at hm <;> split <;> (try split) <;> omega
theorem own_int_of {x : Int32} {k : Int} (h : x.toInt = k) : x = Int32.ofInt k := by
  rw [← h]; exact (Int32.ofInt_toInt x).symm
theorem own_rem_bd (x y : Int32) (hx : 0 ≤ x.toInt) (hy : 0 < y.toInt) : 0 ≤ (x % y).toInt ∧ (x % y).toInt < y.toInt := by
  have e : (x % y).toInt = x.toInt.tmod y.toInt := by
    first | exact Int32.toInt_mod x y | exact Int32.toInt_srem x y | simp
  rw [e]
  exact ⟨Int.tmod_nonneg _ hx, Int.tmod_lt_of_pos _ hy⟩
theorem own_len {args : Array Value} {s : State} {t : Term} {a : Addr} {cl : Cell} {ty : FieldType} {n : Int32} (ht : t.eval args s none [] s = some (.ref a)) (A : Arr s s.heap a cl ty) (h : (Jvm.Cond.eq (Term.length t) (Term.int n)).value args s none s [] = some true) : cl.slots.size < 2 ^ 31 ∧ cl.slots.size.toInt32 = n := by
  have hA : s.arrayAt? a = some cl := Arr.fin (Vm.Alike.refl _) A
  by_cases q : cl.slots.size < 2 ^ 31
  · refine ⟨q, ?_⟩
    have e := len_f ht hA q
    have e2 : (Term.int n).eval args s none [] s = some (.int n) := rfl
    simp only [Jvm.Cond.value, e, e2] at h
    simpa using h
  · exfalso
    have e : (Term.length t).eval args s none [] s = none := by simp [Term.eval, ht, hA, q]
    simp [Jvm.Cond.value, e] at h
theorem own_elem {args : Array Value} {s : State} {t u : Term} {a : Addr} {cl : Cell} {ty : FieldType} {j : Int32} {i : Nat} {v : Value} (ht : t.eval args s none [] s = some (.ref a)) (A : Arr s s.heap a cl ty) (h : (Jvm.Cond.eq (Term.elem t (Term.int j)) u).value args s none s [] = some true) (hu : u.eval args s none [] s = some v) (hi : j.toNatClampNeg = i) : cl.slots[i]? = some v := by
  subst hi
  obtain ⟨x, y, e1, e2, -, -⟩ := cmp_v (Or.inl h)
  cases hu.symm.trans e2
  have q := elem_in e1 ht (Term.int_eval j) A.1
  simp only [Jvm.Cond.value, e1, hu] at h
  rw [q.2]
  cases x <;> cases v <;> simp_all
theorem own_sta_keep0 {Z : State} {h h' : Heap} {C n d : String} {v : Value} (F : Sta Z h C n d v) (K : Keep h h' []) : Sta Z h' C n d v := by
  obtain ⟨cf, i, k, f, st, cell, h1, h2, h3, h4, h5, r⟩ := F
  exact ⟨cf, i, k, f, st, cell, h1, h2, h3, h4, K.2.1 st cell h5 nin0, r⟩
theorem own_fld_int {args : Array Value} {s : State} {t : Term} {C n d : String} {k : Int32} {x : Addr} (ht : t.eval args s none [] s = some (.ref x)) (h : (Jvm.Cond.eq (Term.field t C n d) (Term.int k)).value args s none s [] = some true) : Fld s s.heap x C n d (.int k) := by
  obtain ⟨v, w, e1, e2, -, -⟩ := cmp_v (Or.inl h)
  rw [fld_at ht] at e1
  have e2' : some (Value.int k) = some w := e2
  cases e2'
  have h' := h
  simp only [Jvm.Cond.value, fld_at ht, e1, e2] at h'
  cases v <;> simp at h'
  subst h'
  exact Fld.start e1
theorem own_fld_ref {args : Array Value} {s : State} {t u : Term} {C n d : String} {x y : Addr} (ht : t.eval args s none [] s = some (.ref x)) (hu : u.eval args s none [] s = some (.ref y)) (h : (Jvm.Cond.eq (Term.field t C n d) u).value args s none s [] = some true) : Fld s s.heap x C n d (.ref y) := by
  obtain ⟨v, w, e1, e2, -, -⟩ := cmp_v (Or.inl h)
  rw [fld_at ht] at e1
  cases hu.symm.trans e2
  have h' := h
  simp only [Jvm.Cond.value, fld_at ht, e1, hu] at h'
  cases v <;> simp at h'
  subst h'
  exact Fld.start e1
theorem own_ci (q : Int64) (h1 : ¬ q < 1) (h2 : ¬ (127 : Int64) < q) : (q.toInt32 + 128).toNatClampNeg < 256 ∧ ¬ (q.toInt32 + 128) < 0 := by
  rw [Int64.lt_iff_toInt_lt] at h1 h2
  have e1 : (1 : Int64).toInt = 1 := rfl
  have e2 : (127 : Int64).toInt = 127 := rfl
  rw [e1] at h1; rw [e2] at h2
  have a : q.toInt32.toInt = q.toInt := by
    rw [Int64.toInt_toInt32]; rw [Int.bmod_eq_of_le] <;> omega
  have b : (q.toInt32 + 128).toInt = q.toInt + 128 := by
    rw [Int32.toInt_add, a]
    have : (128 : Int32).toInt = 128 := rfl
    rw [this, Int.bmod_eq_of_le] <;> omega
  refine ⟨by simp only [Int32.toNatClampNeg, b]; omega, ?_⟩
  rw [Int32.lt_iff_toInt_lt, b]
  have : (0 : Int32).toInt = 0 := rfl
  omega
theorem own_andL (x : Int64) : 0 ≤ (x &&& (9223372036854775807 : Int64)).toInt := by
  have e : (x &&& (9223372036854775807 : Int64)).toBitVec.toNat = x.toBitVec.toNat &&& 9223372036854775807 := by
    show (x.toBitVec &&& (9223372036854775807 : Int64).toBitVec).toNat = _
    rw [BitVec.toNat_and]; rfl
  have l1 : x.toBitVec.toNat &&& 9223372036854775807 ≤ 9223372036854775807 := Nat.and_le_right
  show 0 ≤ (x &&& (9223372036854775807 : Int64)).toBitVec.toInt
  rw [BitVec.toInt_eq_toNat_cond, e]
  split <;> omega
theorem own_tg (x : Int64) : ¬ (x &&& (9223372036854775807 : Int64)) < (0 : Int64) := by
  rw [Int64.lt_iff_toInt_lt]; have := own_andL x; have e : (0 : Int64).toInt = 0 := rfl; omega
def own_iv (x : Int64) : Int64 := if (x &&& (9223372036854775807 : Int64)) = (0 : Int64) then 1 else (x &&& (9223372036854775807 : Int64))
theorem own_iv_pos (x : Int64) : ¬ own_iv x < (1 : Int64) := by
  unfold own_iv
  split
  · decide
  · rename_i h
    rw [Int64.lt_iff_toInt_lt]
    have a := own_andL x
    have : (x &&& (9223372036854775807 : Int64)).toInt ≠ 0 := fun q => h (Int64.toInt_inj.mp q)
    have e1 : (1 : Int64).toInt = 1 := rfl
    omega
theorem own_n128 (q : Int64) (h : ¬ q < (1 : Int64)) : ¬ q < (-128 : Int64) := by
  rw [Int64.lt_iff_toInt_lt] at h ⊢
  have e1 : (1 : Int64).toInt = 1 := rfl
  have e2 : (-128 : Int64).toInt = -128 := rfl
  omega
def own_eq (i1 t1 i2 t2 : Int64) : Int32 := if i1 = i2 ∧ t1 = t2 then 1 else 0
theorem own_eq_comm (i1 t1 i2 t2 : Int64) : own_eq i2 t2 i1 t1 = own_eq i1 t1 i2 t2 := by
  unfold own_eq; simp only [eq_comm]
theorem own_eq_self (i1 t1 : Int64) : own_eq i1 t1 i1 t1 = 1 := by simp [own_eq]

theorem own_foldl {f : Nat → Option Bool} (L : List Nat) (acc : Option Bool) (h : L.foldl (fun acc i => match acc with | some true => f i | x => x) acc = some true) : acc = some true ∧ ∀ i ∈ L, f i = some true := by
  induction L generalizing acc with
  | nil => exact ⟨h, fun _ q => nomatch q⟩
  | cons a L ih =>
    obtain ⟨h1, h2⟩ := ih _ h
    cases acc with
    | none => simp at h1
    | some b =>
      cases b with
      | false => simp at h1
      | true => exact ⟨rfl, fun i hi => (List.mem_cons.mp hi).elim (fun q => by subst q; exact h1) (fun q => h2 i q)⟩
theorem own_all {args : Array Value} {s : State} {t : Term} {a : Addr} {cl : Cell} {c : Jvm.Cond} (ht : t.eval args s none [] s = some (.ref a)) (hA : s.arrayAt? a = some cl) (h : (Jvm.Cond.all t c).value args s none s [] = some true) (i : Nat) (hi : i < cl.slots.size) : c.value args s none s [i] = some true := by
  simp only [Jvm.Cond.value, ht, hA] at h
  exact (own_foldl _ _ h).2 i (List.mem_range.mpr hi)
theorem own_and_e {args : Array Value} {s : State} {idx : List Nat} {c d : Jvm.Cond} (h : (Jvm.Cond.and c d).value args s none s idx = some true) : c.value args s none s idx = some true ∧ d.value args s none s idx = some true := and_e h
theorem own_elem_exa {args : Array Value} {s : State} {C n d K : String} {a : Addr} {cl : Cell} {ty : FieldType} {i : Nat} (hi : i < 2 ^ 31) (ht : (Term.static C n d).eval args s none [] s = some (.ref a)) (A : Arr s s.heap a cl ty) (h : (Jvm.Cond.exactly (Term.elem (Term.static C n d) (Term.index 0)) K).value args s none s [i] = some true) : ∃ b, cl.slots[i]? = some (.ref b) ∧ Exa s s.heap b K := by
  have hA : s.arrayAt? a = some cl := Arr.fin (Vm.Alike.refl _) A
  have ht' : (Term.static C n d).eval args s none [i] s = some (.ref a) := ht
  obtain ⟨b, c', cell, k, e1, e2, e3, e4, e5, e6, e7⟩ := Cond.exactly_spec (beq_iff_eq.mpr h : (Jvm.Cond.exactly (Term.elem (Term.static C n d) (Term.index 0)) K).holds args s none s [i] = true)
  obtain ⟨x, j, c2, f1, f2, f3, -, f5⟩ := Term.elem_spec e1
  cases ht'.symm.trans f1
  cases hA.symm.trans f3
  have f2' : some (Value.int i.toInt32) = some (.int j) := f2
  cases f2'
  have ej : i.toInt32.toNatClampNeg = i := by simp only [Int32.toNatClampNeg, len_toInt hi]; rfl
  rw [ej] at f5
  subst e6
  exact ⟨b, f5, cell, k, e3, e2, e4, e5, e7⟩
theorem own_isnt {Z : State} {h : Heap} {b : Addr} {a0 : Array Value} (hw : ∀ d ∈ tables_1, d.before a0 Z = true) (E : Exa Z h b "java/lang/Long") : Ins Z h b "com/example/curb_queries/curbqueries/admission/OverloadLimits" false := by
  obtain ⟨cell, k, h1, h2, h3, h4, h5⟩ := E
  obtain ⟨cY, kY, y1, y2, y3, y4, -⟩ := Cond.instantiable_spec (hw _ (List.mem_of_getElem? (i := 9) rfl))
  refine ⟨cell, cY, h1, y1, ?_⟩
  have hn : Z.vm.assignable cell.cls cY = false := Vm.notAssignable_of_chain (args := a0) (X := "java/lang/Long") (Y := "com/example/curb_queries/curbqueries/admission/OverloadLimits") (t := ["java/lang/Number", "java/lang/Object"]) h2 y1 y2 y3 (by simp only [Bool.or_eq_false_iff] at y4; exact y4.1) (fun w hm => by
    simp only [Cond.chainWords, List.mem_cons, List.not_mem_nil, or_false] at hm
    rcases hm with rfl | rfl | rfl
    · exact (hw _ (List.mem_of_getElem? (i := 36) rfl))
    · exact (hw _ (List.mem_of_getElem? (i := 37) rfl))
    · exact (hw _ (List.mem_of_getElem? (i := 38) rfl))) (by decide)
  rw [hn]; simp
theorem own_pn_1 : plainName "com/example/curb_queries/curbqueries/admission/OverloadLimitsEqualsPinLaw" = true := by first | (simp [plainName, overriddenIn]; done) | decide +kernel
theorem d1_0 : decode method_2_code 0 = .ok (.lload_n 0, 1) := by decide +kernel
theorem d1_1 : decode method_2_code 1 = .ok (.ldc2_w 9, 3) := by decide +kernel
theorem d1_4 : decode method_2_code 4 = .ok (.land, 1) := by decide +kernel
theorem d1_5 : decode method_2_code 5 = .ok (.lstore_n 2, 1) := by decide +kernel
theorem d1_6 : decode method_2_code 6 = .ok (.lload_n 2, 1) := by decide +kernel
theorem d1_7 : decode method_2_code 7 = .ok (.lconst 0, 1) := by decide +kernel
theorem d1_8 : decode method_2_code 8 = .ok (.lcmp, 1) := by decide +kernel
theorem d1_9 : decode method_2_code 9 = .ok (.ifCond .ne 7, 3) := by decide +kernel
theorem d1_12 : decode method_2_code 12 = .ok (.lconst 1, 1) := by decide +kernel
theorem d1_13 : decode method_2_code 13 = .ok (.goto 4, 3) := by decide +kernel
theorem d1_17 : decode method_2_code 17 = .ok (.lreturn, 1) := by decide +kernel
theorem d1_16 : decode method_2_code 16 = .ok (.lload_n 2, 1) := by decide +kernel
def own_rmI_Q (Z : State) (q : Int64)  (h0 : Heap) (n0 : Nat) (v : Option Value) (h : Heap) (L : List Loc) : Prop := v = some (.long (own_iv q)) ∧ Fr n0 L ∧ h = h0
set_option maxRecDepth 65536 in
set_option maxHeartbeats 40000000 in
theorem own_rmI (l : Launch) (Z : State) (a0 : Array Value) (hw : ∀ d ∈ tables_1, d.before a0 Z = true) (ws : List Jvm.Cond) (q : Int64)  (h0 : Heap) (n0 : Nat) (Z0 : n0 ≤ h0.size)  :
    MetFree l (⟨"com/example/curb_queries/curbqueries/admission/OverloadLimitsEqualsPinLaw", "interval", "(J)J"⟩ : MethodName) (head1 (Jvm.Cond.code (⟨"com/example/curb_queries/curbqueries/admission/OverloadLimitsEqualsPinLaw", "interval", "(J)J"⟩ : MethodName) method_2_code 4 (some .long) :: ws) ({ frames := 0, cells := 0, slots := 0, locals := 0 } : Room)) (fun aa UU => aa = #[(.long q)] ∧ Z.Warmed39 UU.vm ∧ UU.heap = h0) (fun _ _ _ _ _ => True) (fun _ UU oo UU' => ∃ vv LL, oo = .returned vv ∧ own_rmI_Q Z q h0 n0 vv UU'.heap LL ∧ FrameEnd UU oo UU' LL ({ frames := 0, cells := 0, slots := 0, locals := 0 } : Room).cells ({ frames := 0, cells := 0, slots := 0, locals := 0 } : Room).slots) := by
  refine MetFree.of_bodySF (plainFor_of_name own_pn_1) hisR ?_
  intro p e s m args below meth cc s₁ Bd hml0 hP hK
  obtain ⟨rfl, hZ, hh⟩ := hP
  have hx := Bd.exec
  have hby := Bd.bytes
  have hml : cc.maxLocals = 4 := hml0
  have hown : s.vm.findClass "com/example/curb_queries/curbqueries/admission/OverloadLimitsEqualsPinLaw" = some m.cls := findClass_of_methodNamed Bd.named
  have hnm := (name_of_methodNamed Bd.named Bd.method).1
  have X0 : Stand p l e ({ frames := 0, cells := 0, slots := 0, locals := 0 } : Room) s m #[(.long q)] below meth cc s₁ [] 0 0 := Stand.of_body Bd
  have e0 : s₁.heap = h0 := by rw [← hh, Bd.state]; rfl
  have N0 := Fr.nil n0
  have k0 : ∀ tt, Steps p.tables e below (s₁.setTop (mkF m 0 #[.val (.long q), .second, .unset, .unset] [])) tt → Steps p.tables e below (s₁.setTop (entryFrame m #[(.long q)] 4)) tt := fun tt kk => castTop (by first | (simp [entryFrame, mkF, argsToLocals, Value.category]; done) | rfl) kk
  have k1 : ∀ tt, Steps p.tables e below (s₁.setTop (mkF m 9 #[.val (.long q), .second, .val (.long (q &&& (9223372036854775807 : Int64))), .second] [(.int (lcmpW (q &&& (9223372036854775807 : Int64)) (0 : Int64)))])) tt → Steps p.tables e below (s₁.setTop (entryFrame m #[(.long q)] 4)) tt := by
    intro tt kk
    refine k0 tt ?_
    show Steps p.tables e below (s₁.setTop (mkF m 0 #[.val (.long q), .second, .unset, .unset] [])) tt
    refine XS.lloadN X0.here hx rfl (hb hby d1_0) rfl ?_
    show Steps p.tables e below (s₁.setTop (mkF m 1 #[.val (.long q), .second, .unset, .unset] [(.long q)])) tt
    refine X0.ldc2Long hx hown (mvT hZ (hw _ (List.mem_of_getElem? (i := 4) rfl))) (g := (mkF m 1 #[.val (.long q), .second, .unset, .unset] [(.long q)])) rfl (hb hby d1_1) _ ?_
    show Steps p.tables e below (s₁.setTop (mkF m 4 #[.val (.long q), .second, .unset, .unset] [(.long (9223372036854775807 : Int64)), (.long q)])) tt
    refine XS.land X0.here hx rfl (hb hby d1_4) rfl ?_
    show Steps p.tables e below (s₁.setTop (mkF m 5 #[.val (.long q), .second, .unset, .unset] [(.long (q &&& (9223372036854775807 : Int64)))])) tt
    refine XS.lstoreN X0.here hx rfl (hb hby d1_5) rfl (l' := #[.val (.long q), .second, .val (.long (q &&& (9223372036854775807 : Int64))), .second]) rfl ?_
    show Steps p.tables e below (s₁.setTop (mkF m 6 #[.val (.long q), .second, .val (.long (q &&& (9223372036854775807 : Int64))), .second] [])) tt
    refine XS.lloadN X0.here hx rfl (hb hby d1_6) rfl ?_
    show Steps p.tables e below (s₁.setTop (mkF m 7 #[.val (.long q), .second, .val (.long (q &&& (9223372036854775807 : Int64))), .second] [(.long (q &&& (9223372036854775807 : Int64)))])) tt
    refine XS.lconst X0.here hx rfl (hb hby d1_7) ?_
    show Steps p.tables e below (s₁.setTop (mkF m 8 #[.val (.long q), .second, .val (.long (q &&& (9223372036854775807 : Int64))), .second] [(.long (0 : Int64)), (.long (q &&& (9223372036854775807 : Int64)))])) tt
    refine XS.lcmp X0.here hx rfl (hb hby d1_8) rfl ?_
    exact kk
  by_cases c9_2 : (q &&& (9223372036854775807 : Int64)) = (0 : Int64)
  · have k3 : ∀ tt, Steps p.tables e below (s₁.setTop (mkF m 17 #[.val (.long q), .second, .val (.long (q &&& (9223372036854775807 : Int64))), .second] [(.long (1 : Int64))])) tt → Steps p.tables e below (s₁.setTop (entryFrame m #[(.long q)] 4)) tt := by
      intro tt kk
      refine k1 tt ?_
      show Steps p.tables e below (s₁.setTop (mkF m 9 #[.val (.long q), .second, .val (.long (q &&& (9223372036854775807 : Int64))), .second] [(.int (lcmpW (q &&& (9223372036854775807 : Int64)) (0 : Int64)))])) tt
      refine XS.ifNo X0.here hx rfl (hb hby d1_9) rfl ((if0 _ _).trans (teq ((lw_eq _ _).mpr (c9_2) : (lcmpW (q &&& (9223372036854775807 : Int64)) (0 : Int64)) = (0 : Int32))).2) ?_
      show Steps p.tables e below (s₁.setTop (mkF m 12 #[.val (.long q), .second, .val (.long (q &&& (9223372036854775807 : Int64))), .second] [])) tt
      refine XS.lconst X0.here hx rfl (hb hby d1_12) ?_
      show Steps p.tables e below (s₁.setTop (mkF m 13 #[.val (.long q), .second, .val (.long (q &&& (9223372036854775807 : Int64))), .second] [(.long (1 : Int64))])) tt
      refine XS.goto X0.here hx rfl (pc0 := 13) (pc' := 17) rfl (hb hby d1_13) (by decide) (by decide) ?_
      exact kk
    obtain ⟨fs, hr, hrun, hended, hW, hsame⟩ := X0.leave (v := some (.long (1 : Int64))) (fun hq => by rw [Bd.returns] at hq; cases hq)
    refine ⟨_, _, k3 _ ?_, hrun, hended, _, _, rfl, ?_, ⟨_, rfl⟩, hW, hsame.mono (by decide) (by decide)⟩
    · show Steps p.tables e below (s₁.setTop (mkF m 17 #[.val (.long q), .second, .val (.long (q &&& (9223372036854775807 : Int64))), .second] [(.long (1 : Int64))])) _
      jvm_step X0.here [X0.here.top, hx, (hb hby d1_17), X0.method', Bd.returns, narrow]
      first | (intro acts; rw [hr _ acts rfl rfl rfl]) | rw [hr _ _ rfl rfl rfl]
      exact Steps.refl _
    · show (fun (v : Option Value) (h : Heap) (L : List Loc) => v = some (.long (own_iv q)) ∧ Fr n0 L ∧ h = h0) _ s₁.heap _
      rw [e0]
      dsimp only
      refine ⟨?_, N0, rfl⟩
      simp [own_iv, c9_2]
  · have k4 : ∀ tt, Steps p.tables e below (s₁.setTop (mkF m 17 #[.val (.long q), .second, .val (.long (q &&& (9223372036854775807 : Int64))), .second] [(.long (q &&& (9223372036854775807 : Int64)))])) tt → Steps p.tables e below (s₁.setTop (entryFrame m #[(.long q)] 4)) tt := by
      intro tt kk
      refine k1 tt ?_
      show Steps p.tables e below (s₁.setTop (mkF m 9 #[.val (.long q), .second, .val (.long (q &&& (9223372036854775807 : Int64))), .second] [(.int (lcmpW (q &&& (9223372036854775807 : Int64)) (0 : Int64)))])) tt
      refine XS.ifYes X0.here hx rfl (pc0 := 9) (pc' := 16) rfl (hb hby d1_9) rfl ((if0 _ _).trans (feq (fun hz0 => (c9_2 : ¬ ((q &&& (9223372036854775807 : Int64)) = (0 : Int64))) ((lw_eq _ _).mp hz0) : ¬ ((lcmpW (q &&& (9223372036854775807 : Int64)) (0 : Int64)) = (0 : Int32)))).2) (by decide) (by decide) ?_
      show Steps p.tables e below (s₁.setTop (mkF m 16 #[.val (.long q), .second, .val (.long (q &&& (9223372036854775807 : Int64))), .second] [])) tt
      refine XS.lloadN X0.here hx rfl (hb hby d1_16) rfl ?_
      exact kk
    obtain ⟨fs, hr, hrun, hended, hW, hsame⟩ := X0.leave (v := some (.long (q &&& (9223372036854775807 : Int64)))) (fun hq => by rw [Bd.returns] at hq; cases hq)
    refine ⟨_, _, k4 _ ?_, hrun, hended, _, _, rfl, ?_, ⟨_, rfl⟩, hW, hsame.mono (by decide) (by decide)⟩
    · show Steps p.tables e below (s₁.setTop (mkF m 17 #[.val (.long q), .second, .val (.long (q &&& (9223372036854775807 : Int64))), .second] [(.long (q &&& (9223372036854775807 : Int64)))])) _
      jvm_step X0.here [X0.here.top, hx, (hb hby d1_17), X0.method', Bd.returns, narrow]
      first | (intro acts; rw [hr _ acts rfl rfl rfl]) | rw [hr _ _ rfl rfl rfl]
      exact Steps.refl _
    · show (fun (v : Option Value) (h : Heap) (L : List Loc) => v = some (.long (own_iv q)) ∧ Fr n0 L ∧ h = h0) _ s₁.heap _
      rw [e0]
      dsimp only
      refine ⟨?_, N0, rfl⟩
      simp [own_iv, c9_2]
theorem own_pn_2 : plainName "com/example/curb_queries/curbqueries/admission/OverloadLimitsEqualsPinLaw" = true := by first | (simp [plainName, overriddenIn]; done) | decide +kernel
theorem d2_0 : decode method_3_code 0 = .ok (.lload_n 0, 1) := by decide +kernel
theorem d2_1 : decode method_3_code 1 = .ok (.ldc2_w 9, 3) := by decide +kernel
theorem d2_4 : decode method_3_code 4 = .ok (.land, 1) := by decide +kernel
theorem d2_5 : decode method_3_code 5 = .ok (.lreturn, 1) := by decide +kernel
def own_rmT_Q (Z : State) (q : Int64)  (h0 : Heap) (n0 : Nat) (v : Option Value) (h : Heap) (L : List Loc) : Prop := v = some (.long (q &&& (9223372036854775807 : Int64))) ∧ Fr n0 L ∧ h = h0
set_option maxRecDepth 65536 in
set_option maxHeartbeats 40000000 in
theorem own_rmT (l : Launch) (Z : State) (a0 : Array Value) (hw : ∀ d ∈ tables_1, d.before a0 Z = true) (ws : List Jvm.Cond) (q : Int64)  (h0 : Heap) (n0 : Nat) (Z0 : n0 ≤ h0.size)  :
    MetFree l (⟨"com/example/curb_queries/curbqueries/admission/OverloadLimitsEqualsPinLaw", "target", "(J)J"⟩ : MethodName) (head1 (Jvm.Cond.code (⟨"com/example/curb_queries/curbqueries/admission/OverloadLimitsEqualsPinLaw", "target", "(J)J"⟩ : MethodName) method_3_code 2 (some .long) :: ws) ({ frames := 0, cells := 0, slots := 0, locals := 0 } : Room)) (fun aa UU => aa = #[(.long q)] ∧ Z.Warmed39 UU.vm ∧ UU.heap = h0) (fun _ _ _ _ _ => True) (fun _ UU oo UU' => ∃ vv LL, oo = .returned vv ∧ own_rmT_Q Z q h0 n0 vv UU'.heap LL ∧ FrameEnd UU oo UU' LL ({ frames := 0, cells := 0, slots := 0, locals := 0 } : Room).cells ({ frames := 0, cells := 0, slots := 0, locals := 0 } : Room).slots) := by
  refine MetFree.of_bodySF (plainFor_of_name own_pn_2) hisR ?_
  intro p e s m args below meth cc s₁ Bd hml0 hP hK
  obtain ⟨rfl, hZ, hh⟩ := hP
  have hx := Bd.exec
  have hby := Bd.bytes
  have hml : cc.maxLocals = 2 := hml0
  have hown : s.vm.findClass "com/example/curb_queries/curbqueries/admission/OverloadLimitsEqualsPinLaw" = some m.cls := findClass_of_methodNamed Bd.named
  have hnm := (name_of_methodNamed Bd.named Bd.method).1
  have X0 : Stand p l e ({ frames := 0, cells := 0, slots := 0, locals := 0 } : Room) s m #[(.long q)] below meth cc s₁ [] 0 0 := Stand.of_body Bd
  have e0 : s₁.heap = h0 := by rw [← hh, Bd.state]; rfl
  have N0 := Fr.nil n0
  have k0 : ∀ tt, Steps p.tables e below (s₁.setTop (mkF m 0 #[.val (.long q), .second] [])) tt → Steps p.tables e below (s₁.setTop (entryFrame m #[(.long q)] 2)) tt := fun tt kk => castTop (by first | (simp [entryFrame, mkF, argsToLocals, Value.category]; done) | rfl) kk
  have k1 : ∀ tt, Steps p.tables e below (s₁.setTop (mkF m 5 #[.val (.long q), .second] [(.long (q &&& (9223372036854775807 : Int64)))])) tt → Steps p.tables e below (s₁.setTop (entryFrame m #[(.long q)] 2)) tt := by
    intro tt kk
    refine k0 tt ?_
    show Steps p.tables e below (s₁.setTop (mkF m 0 #[.val (.long q), .second] [])) tt
    refine XS.lloadN X0.here hx rfl (hb hby d2_0) rfl ?_
    show Steps p.tables e below (s₁.setTop (mkF m 1 #[.val (.long q), .second] [(.long q)])) tt
    refine X0.ldc2Long hx hown (mvT hZ (hw _ (List.mem_of_getElem? (i := 4) rfl))) (g := (mkF m 1 #[.val (.long q), .second] [(.long q)])) rfl (hb hby d2_1) _ ?_
    show Steps p.tables e below (s₁.setTop (mkF m 4 #[.val (.long q), .second] [(.long (9223372036854775807 : Int64)), (.long q)])) tt
    refine XS.land X0.here hx rfl (hb hby d2_4) rfl ?_
    exact kk
  obtain ⟨fs, hr, hrun, hended, hW, hsame⟩ := X0.leave (v := some (.long (q &&& (9223372036854775807 : Int64)))) (fun hq => by rw [Bd.returns] at hq; cases hq)
  refine ⟨_, _, k1 _ ?_, hrun, hended, _, _, rfl, ?_, ⟨_, rfl⟩, hW, hsame.mono (by decide) (by decide)⟩
  · show Steps p.tables e below (s₁.setTop (mkF m 5 #[.val (.long q), .second] [(.long (q &&& (9223372036854775807 : Int64)))])) _
    jvm_step X0.here [X0.here.top, hx, (hb hby d2_5), X0.method', Bd.returns, narrow]
    first | (intro acts; rw [hr _ acts rfl rfl rfl]) | rw [hr _ _ rfl rfl rfl]
    exact Steps.refl _
  · show (fun (v : Option Value) (h : Heap) (L : List Loc) => v = some (.long (q &&& (9223372036854775807 : Int64))) ∧ Fr n0 L ∧ h = h0) _ s₁.heap _
    rw [e0]
    dsimp only
    exact ⟨rfl, N0, rfl⟩
theorem own_pn_8 : plainName "java/lang/Number" = true := by first | (simp [plainName, overriddenIn]; done) | decide +kernel
theorem d8_0 : decode jdk_18_method_1_code 0 = .ok (.aload_n 0, 1) := by decide +kernel
theorem d8_1 : decode jdk_18_method_1_code 1 = .ok (.invokespecial 1, 3) := by decide +kernel
theorem d8_4 : decode jdk_18_method_1_code 4 = .ok (.return_, 1) := by decide +kernel
def own_rmN_Q (Z : State) (a : Addr)  (h0 : Heap) (n0 : Nat) (v : Option Value) (h : Heap) (L : List Loc) : Prop := v = none ∧ Fr n0 L ∧ h = h0
set_option maxRecDepth 65536 in
set_option maxHeartbeats 40000000 in
theorem own_rmN (l : Launch) (Z : State) (a0 : Array Value) (hw : ∀ d ∈ tables_1, d.before a0 Z = true) (ws : List Jvm.Cond) (a : Addr)  (h0 : Heap) (n0 : Nat) (Z0 : n0 ≤ h0.size)  :
    MetFree l (⟨"java/lang/Number", "<init>", "()V"⟩ : MethodName) (head1 (Jvm.Cond.code (⟨"java/lang/Number", "<init>", "()V"⟩ : MethodName) jdk_18_method_1_code 1 none :: ws) ({ frames := 1, cells := 0, slots := 0, locals := 12 } : Room)) (fun aa UU => aa = #[(.ref a)] ∧ Z.Warmed39 UU.vm ∧ UU.heap = h0) (fun _ _ _ _ _ => True) (fun _ UU oo UU' => ∃ vv LL, oo = .returned vv ∧ own_rmN_Q Z a h0 n0 vv UU'.heap LL ∧ FrameEnd UU oo UU' LL ({ frames := 1, cells := 0, slots := 0, locals := 12 } : Room).cells ({ frames := 1, cells := 0, slots := 0, locals := 12 } : Room).slots) := by
  refine MetFree.of_bodySF (plainFor_of_name own_pn_8) hisR ?_
  intro p e s m args below meth cc s₁ Bd hml0 hP hK
  obtain ⟨rfl, hZ, hh⟩ := hP
  have hx := Bd.exec
  have hby := Bd.bytes
  have hml : cc.maxLocals = 1 := hml0
  have hown : s.vm.findClass "java/lang/Number" = some m.cls := findClass_of_methodNamed Bd.named
  have hnm := (name_of_methodNamed Bd.named Bd.method).1
  have X0 : Stand p l e ({ frames := 1, cells := 0, slots := 0, locals := 12 } : Room) s m #[(.ref a)] below meth cc s₁ [] 0 0 := Stand.of_body Bd
  have e0 : s₁.heap = h0 := by rw [← hh, Bd.state]; rfl
  have N0 := Fr.nil n0
  have k0 : ∀ tt, Steps p.tables e below (s₁.setTop (mkF m 0 #[.val (.ref a)] [])) tt → Steps p.tables e below (s₁.setTop (entryFrame m #[(.ref a)] 1)) tt := fun tt kk => castTop (by first | (simp [entryFrame, mkF, argsToLocals, Value.category]; done) | rfl) kk
  obtain ⟨T1, X1, e1, st1⟩ := initO X0 hx hZ hown (hw _ (List.mem_of_getElem? (i := 51) rfl)) (hw _ (List.mem_of_getElem? (i := 15) rfl)) (hw _ (List.mem_of_getElem? (i := 16) rfl)) e0 (g := (mkF m 1 #[.val (.ref a)] [(.ref a)])) rfl (by rw [hml]; rfl) rfl (hb hby d8_1) (by decide) (W := 0) (by show 2 * 0 + _ ≤ _; exact Nat.le_of_eq rfl) (by decide)
  have k2 : ∀ tt, Steps p.tables e below (T1.setTop (mkF m 4 #[.val (.ref a)] [])) tt → Steps p.tables e below (s₁.setTop (entryFrame m #[(.ref a)] 1)) tt := by
    intro tt kk
    refine k0 tt ?_
    show Steps p.tables e below (s₁.setTop (mkF m 0 #[.val (.ref a)] [])) tt
    refine XS.aloadN X0.here hx rfl (hb hby d8_0) rfl rfl ?_
    show Steps p.tables e below (s₁.setTop (mkF m 1 #[.val (.ref a)] [(.ref a)])) tt
    refine st1 _ ?_
    exact kk
  obtain ⟨fs, hr, hrun, hended, hW, hsame⟩ := X1.leave (v := none) (fun _ => rfl)
  refine ⟨_, _, k2 _ ?_, hrun, hended, _, _, rfl, ?_, ⟨_, rfl⟩, hW, hsame.mono (by decide) (by decide)⟩
  · show Steps p.tables e below (T1.setTop (mkF m 4 #[.val (.ref a)] [])) _
    exact X1.returnOut hx Bd.returns (hb hby d8_4) hr
  · show (fun (v : Option Value) (h : Heap) (L : List Loc) => v = none ∧ Fr n0 L ∧ h = h0) _ T1.heap _
    rw [e1]
    dsimp only
    exact ⟨rfl, N0, rfl⟩
theorem own_pn_7 : plainName "java/lang/Long" = true := by first | (simp [plainName, overriddenIn]; done) | decide +kernel
theorem d7_0 : decode jdk_35_method_26_code 0 = .ok (.aload_n 0, 1) := by decide +kernel
theorem d7_1 : decode jdk_35_method_26_code 1 = .ok (.invokespecial 270, 3) := by decide +kernel
theorem own_pd___V : parseMethodDescriptor "()V" = some ⟨[], none⟩ := by decide +kernel
theorem d7_4 : decode jdk_35_method_26_code 4 = .ok (.aload_n 0, 1) := by decide +kernel
theorem d7_5 : decode jdk_35_method_26_code 5 = .ok (.lload_n 1, 1) := by decide +kernel
theorem d7_6 : decode jdk_35_method_26_code 6 = .ok (.putfield 273, 3) := by decide +kernel
theorem d7_9 : decode jdk_35_method_26_code 9 = .ok (.return_, 1) := by decide +kernel
def own_rmL_Q (Z : State) (a : Addr) (q : Int64) (u0 : Value) (h0 : Heap) (n0 : Nat) (v : Option Value) (h : Heap) (L : List Loc) : Prop := v = none ∧ Fr n0 L ∧ Keep h0 h [a]
set_option maxRecDepth 65536 in
set_option maxHeartbeats 40000000 in
theorem own_rmL (l : Launch) (Z : State) (a0 : Array Value) (hw : ∀ d ∈ tables_1, d.before a0 Z = true) (ws : List Jvm.Cond) (a : Addr) (q : Int64) (u0 : Value) (h0 : Heap) (n0 : Nat) (Z0 : n0 ≤ h0.size) (E : Exa Z h0 a "java/lang/Long") (F : Fld Z h0 a "java/lang/Long" "value" "J" u0) (g : n0 ≤ a) :
    MetFree l (⟨"java/lang/Long", "<init>", "(J)V"⟩ : MethodName) (head1 (Jvm.Cond.code (⟨"java/lang/Long", "<init>", "(J)V"⟩ : MethodName) jdk_35_method_26_code 3 none :: ws) ({ frames := 2, cells := 0, slots := 0, locals := 24 } : Room)) (fun aa UU => aa = #[(.ref a), (.long q)] ∧ Z.Warmed39 UU.vm ∧ UU.heap = h0) (fun _ _ _ _ _ => True) (fun _ UU oo UU' => ∃ vv LL, oo = .returned vv ∧ own_rmL_Q Z a q u0 h0 n0 vv UU'.heap LL ∧ FrameEnd UU oo UU' LL ({ frames := 2, cells := 0, slots := 0, locals := 24 } : Room).cells ({ frames := 2, cells := 0, slots := 0, locals := 24 } : Room).slots) := by
  refine MetFree.of_bodySF (plainFor_of_name own_pn_7) hisR ?_
  intro p e s m args below meth cc s₁ Bd hml0 hP hK
  obtain ⟨rfl, hZ, hh⟩ := hP
  have hx := Bd.exec
  have hby := Bd.bytes
  have hml : cc.maxLocals = 3 := hml0
  have hown : s.vm.findClass "java/lang/Long" = some m.cls := findClass_of_methodNamed Bd.named
  have hnm := (name_of_methodNamed Bd.named Bd.method).1
  have X0 : Stand p l e ({ frames := 2, cells := 0, slots := 0, locals := 24 } : Room) s m #[(.ref a), (.long q)] below meth cc s₁ [] 0 0 := Stand.of_body Bd
  have e0 : s₁.heap = h0 := by rw [← hh, Bd.state]; rfl
  have N0 := Fr.nil n0
  have k0 : ∀ tt, Steps p.tables e below (s₁.setTop (mkF m 0 #[.val (.ref a), .val (.long q), .second] [])) tt → Steps p.tables e below (s₁.setTop (entryFrame m #[(.ref a), (.long q)] 3)) tt := fun tt kk => castTop (by first | (simp [entryFrame, mkF, argsToLocals, Value.category]; done) | rfl) kk
  obtain ⟨_, _, ⟨T1, L1, ka1, na1⟩, -, X1, ⟨Lc1, hQ1, l1, y1, z1⟩, st1⟩ := X0.specialBack hx (y := (⟨"java/lang/Number", "<init>", "()V"⟩ : MethodName)) rfl hown (mvT hZ (hw _ (List.mem_of_getElem? (i := 45) rfl))) (mvT hZ (hw _ (List.mem_of_getElem? (i := 46) rfl))) (mvT hZ (hw _ (List.mem_of_getElem? (i := 50) rfl))) (by decide) (backOf (W := 0) (own_rmN l Z a0 hw [] a h0 n0 Z0) hZ (hw _ (List.mem_of_getElem? (i := 50) rfl)) (hw _ (List.mem_of_getElem? (i := 49) rfl)) (by decide) (by decide)) (g := (mkF m 1 #[.val (.ref a), .val (.long q), .second] [(.ref a)])) rfl (by rw [hml]; rfl) (Steps.refl _) (a := a) (argsL := []) (rest := []) (lenOf own_pd___V rfl) rfl (by show 2 * 0 + _ ≤ _; exact Nat.le_of_eq rfl) (hb hby d7_1) (fun _ _ => ⟨rfl, e0, (by decide : 0 + 0 ≤ _), (by decide : 0 + 0 ≤ _)⟩)
  dsimp only [Pt.U, Pt.locs, Pt.cells, Pt.slots] at X1 l1 y1 z1 st1 hQ1
  subst l1 y1 z1
  obtain ⟨rfl, Nq1, hh1⟩ := hQ1
  have N1 := Fr.app N0 Nq1
  obtain ⟨T2, h2, X2, e2, W2, st2⟩ := putF X1 hx hZ hown (host := "") (Or.inl (hw _ (List.mem_of_getElem? (i := 52) rfl))) Via.refl hh1 F E (Or.inr ⟨(hw _ (List.mem_of_getElem? (i := 53) rfl)), rfl, hnm⟩) (hw _ (List.mem_of_getElem? (i := 40) rfl)) (ty := .long) (by decide) rfl rfl (g := (mkF m 6 #[.val (.ref a), .val (.long q), .second] [(.long q), (.ref a)])) rfl rfl (hb hby d7_6)
  have Fw2 := Fld.same W2 F
  have Z2 : n0 ≤ h2.size := Nat.le_trans Z0 (Keep.of_wr W2).1
  have N2 := Fr.snoc X2 N1 g
  have K2 := Keep.wr (Keep.refl h0 [a]) W2 (Or.inl (List.mem_of_getElem? (i := 0) rfl))
  have k3 : ∀ tt, Steps p.tables e below (T2.setTop (mkF m 9 #[.val (.ref a), .val (.long q), .second] [])) tt → Steps p.tables e below (s₁.setTop (entryFrame m #[(.ref a), (.long q)] 3)) tt := by
    intro tt kk
    refine k0 tt ?_
    show Steps p.tables e below (s₁.setTop (mkF m 0 #[.val (.ref a), .val (.long q), .second] [])) tt
    refine XS.aloadN X0.here hx rfl (hb hby d7_0) rfl rfl ?_
    show Steps p.tables e below (s₁.setTop (mkF m 1 #[.val (.ref a), .val (.long q), .second] [(.ref a)])) tt
    refine st1.trans ?_
    show Steps p.tables e below (T1.setTop (mkF m 4 #[.val (.ref a), .val (.long q), .second] [])) tt
    refine XS.aloadN X1.here hx rfl (hb hby d7_4) rfl rfl ?_
    show Steps p.tables e below (T1.setTop (mkF m 5 #[.val (.ref a), .val (.long q), .second] [(.ref a)])) tt
    refine XS.lloadN X1.here hx rfl (hb hby d7_5) rfl ?_
    show Steps p.tables e below (T1.setTop (mkF m 6 #[.val (.ref a), .val (.long q), .second] [(.long q), (.ref a)])) tt
    refine st2 _ ?_
    exact kk
  obtain ⟨fs, hr, hrun, hended, hW, hsame⟩ := X2.leave (v := none) (fun _ => rfl)
  refine ⟨_, _, k3 _ ?_, hrun, hended, _, _, rfl, ?_, ⟨_, rfl⟩, hW, hsame.mono (by decide) (by decide)⟩
  · show Steps p.tables e below (T2.setTop (mkF m 9 #[.val (.ref a), .val (.long q), .second] [])) _
    exact X2.returnOut hx Bd.returns (hb hby d7_9) hr
  · show (fun (v : Option Value) (h : Heap) (L : List Loc) => v = none ∧ Fr n0 L ∧ Keep h0 h [a]) _ T2.heap _
    rw [e2]
    dsimp only
    exact ⟨rfl, N2, K2⟩
theorem own_pn_5 : plainName "java/lang/Long" = true := by first | (simp [plainName, overriddenIn]; done) | decide +kernel
theorem d5_0 : decode jdk_35_method_24_code 0 = .ok (.sipush 128, 3) := by decide +kernel
theorem d5_3 : decode jdk_35_method_24_code 3 = .ok (.istore_n 2, 1) := by decide +kernel
theorem d5_4 : decode jdk_35_method_24_code 4 = .ok (.lload_n 0, 1) := by decide +kernel
theorem d5_5 : decode jdk_35_method_24_code 5 = .ok (.ldc2_w 230, 3) := by decide +kernel
theorem d5_8 : decode jdk_35_method_24_code 8 = .ok (.lcmp, 1) := by decide +kernel
theorem d5_9 : decode jdk_35_method_24_code 9 = .ok (.ifCond .lt 22, 3) := by decide +kernel
theorem d5_12 : decode jdk_35_method_24_code 12 = .ok (.lload_n 0, 1) := by decide +kernel
theorem d5_13 : decode jdk_35_method_24_code 13 = .ok (.ldc2_w 232, 3) := by decide +kernel
theorem d5_16 : decode jdk_35_method_24_code 16 = .ok (.lcmp, 1) := by decide +kernel
theorem d5_17 : decode jdk_35_method_24_code 17 = .ok (.ifCond .gt 14, 3) := by decide +kernel
theorem d5_31 : decode jdk_35_method_24_code 31 = .ok (.new 1, 3) := by decide +kernel
theorem d5_34 : decode jdk_35_method_24_code 34 = .ok (.dup, 1) := by decide +kernel
theorem d5_35 : decode jdk_35_method_24_code 35 = .ok (.lload_n 0, 1) := by decide +kernel
theorem d5_36 : decode jdk_35_method_24_code 36 = .ok (.invokespecial 240, 3) := by decide +kernel
theorem own_pd__J_V : parseMethodDescriptor "(J)V" = some ⟨[.long], none⟩ := by decide +kernel
theorem d5_39 : decode jdk_35_method_24_code 39 = .ok (.areturn, 1) := by decide +kernel
theorem d5_20 : decode jdk_35_method_24_code 20 = .ok (.getstatic 234, 3) := by decide +kernel
theorem d5_23 : decode jdk_35_method_24_code 23 = .ok (.lload_n 0, 1) := by decide +kernel
theorem d5_24 : decode jdk_35_method_24_code 24 = .ok (.l2i, 1) := by decide +kernel
theorem d5_25 : decode jdk_35_method_24_code 25 = .ok (.sipush 128, 3) := by decide +kernel
theorem d5_28 : decode jdk_35_method_24_code 28 = .ok (.iadd, 1) := by decide +kernel
theorem d5_29 : decode jdk_35_method_24_code 29 = .ok (.aaload, 1) := by decide +kernel
theorem d5_30 : decode jdk_35_method_24_code 30 = .ok (.areturn, 1) := by decide +kernel
def own_rmV_Q (Z : State) (q : Int64) (wC : Addr) (cC : Cell) (h0 : Heap) (n0 : Nat) (v : Option Value) (h : Heap) (L : List Loc) : Prop := ∃ b : Addr, v = some (.ref b) ∧ Fr n0 L ∧ Keep h0 h [] ∧ Exa Z h b "java/lang/Long"
set_option maxRecDepth 65536 in
set_option maxHeartbeats 40000000 in
theorem own_rmV (l : Launch) (Z : State) (a0 : Array Value) (hw : ∀ d ∈ tables_1, d.before a0 Z = true) (ws : List Jvm.Cond) (q : Int64) (wC : Addr) (cC : Cell) (h0 : Heap) (n0 : Nat) (Z0 : n0 ≤ h0.size) (S_C : Sta Z h0 "java/lang/Long$LongCache" "cache" "[Ljava/lang/Long;" (.ref wC)) (A_C : Arr Z h0 wC cC (.object "java/lang/Long")) (z_C : cC.slots.size = 256) (h_C : ∀ i, i < 256 → ∃ b, cC.slots[i]? = some (.ref b) ∧ Exa Z h0 b "java/lang/Long") (hq : ¬ q < (1 : Int64)) :
    MetFree l (⟨"java/lang/Long", "valueOf", "(J)Ljava/lang/Long;"⟩ : MethodName) (head1 (Jvm.Cond.code (⟨"java/lang/Long", "valueOf", "(J)Ljava/lang/Long;"⟩ : MethodName) jdk_35_method_24_code 3 (some (.object "java/lang/Long")) :: ws) ({ frames := 3, cells := 1, slots := 1, locals := 39 } : Room)) (fun aa UU => aa = #[(.long q)] ∧ Z.Warmed39 UU.vm ∧ UU.heap = h0) (fun _ _ _ _ _ => True) (fun _ UU oo UU' => ∃ vv LL, oo = .returned vv ∧ own_rmV_Q Z q wC cC h0 n0 vv UU'.heap LL ∧ FrameEnd UU oo UU' LL ({ frames := 3, cells := 1, slots := 1, locals := 39 } : Room).cells ({ frames := 3, cells := 1, slots := 1, locals := 39 } : Room).slots) := by
  refine MetFree.of_bodySF (plainFor_of_name own_pn_5) hisR ?_
  intro p e s m args below meth cc s₁ Bd hml0 hP hK
  obtain ⟨rfl, hZ, hh⟩ := hP
  have hx := Bd.exec
  have hby := Bd.bytes
  have hml : cc.maxLocals = 3 := hml0
  have hown : s.vm.findClass "java/lang/Long" = some m.cls := findClass_of_methodNamed Bd.named
  have hnm := (name_of_methodNamed Bd.named Bd.method).1
  have X0 : Stand p l e ({ frames := 3, cells := 1, slots := 1, locals := 39 } : Room) s m #[(.long q)] below meth cc s₁ [] 0 0 := Stand.of_body Bd
  have e0 : s₁.heap = h0 := by rw [← hh, Bd.state]; rfl
  have N0 := Fr.nil n0
  have k0 : ∀ tt, Steps p.tables e below (s₁.setTop (mkF m 0 #[.val (.long q), .second, .unset] [])) tt → Steps p.tables e below (s₁.setTop (entryFrame m #[(.long q)] 3)) tt := fun tt kk => castTop (by first | (simp [entryFrame, mkF, argsToLocals, Value.category]; done) | rfl) kk
  have k1 : ∀ tt, Steps p.tables e below (s₁.setTop (mkF m 17 #[.val (.long q), .second, .val (.int (128 : Int32))] [(.int (lcmpW q (127 : Int64)))])) tt → Steps p.tables e below (s₁.setTop (entryFrame m #[(.long q)] 3)) tt := by
    intro tt kk
    refine k0 tt ?_
    show Steps p.tables e below (s₁.setTop (mkF m 0 #[.val (.long q), .second, .unset] [])) tt
    refine XS.sipush X0.here hx rfl (hb hby d5_0) ?_
    show Steps p.tables e below (s₁.setTop (mkF m 3 #[.val (.long q), .second, .unset] [(.int (128 : Int32))])) tt
    refine XS.istoreN X0.here hx rfl (hb hby d5_3) rfl (l' := #[.val (.long q), .second, .val (.int (128 : Int32))]) rfl ?_
    show Steps p.tables e below (s₁.setTop (mkF m 4 #[.val (.long q), .second, .val (.int (128 : Int32))] [])) tt
    refine XS.lloadN X0.here hx rfl (hb hby d5_4) rfl ?_
    show Steps p.tables e below (s₁.setTop (mkF m 5 #[.val (.long q), .second, .val (.int (128 : Int32))] [(.long q)])) tt
    refine X0.ldc2Long hx hown (mvT hZ (hw _ (List.mem_of_getElem? (i := 25) rfl))) (g := (mkF m 5 #[.val (.long q), .second, .val (.int (128 : Int32))] [(.long q)])) rfl (hb hby d5_5) _ ?_
    show Steps p.tables e below (s₁.setTop (mkF m 8 #[.val (.long q), .second, .val (.int (128 : Int32))] [(.long (-128 : Int64)), (.long q)])) tt
    refine XS.lcmp X0.here hx rfl (hb hby d5_8) rfl ?_
    show Steps p.tables e below (s₁.setTop (mkF m 9 #[.val (.long q), .second, .val (.int (128 : Int32))] [(.int (lcmpW q (-128 : Int64)))])) tt
    refine XS.ifNo X0.here hx rfl (hb hby d5_9) rfl ((if0 _ _).trans (flt (fun hz0 => (own_n128 q hq : ¬ (q < (-128 : Int64))) ((lw_lt _ _).mp hz0) : ¬ ((lcmpW q (-128 : Int64)) < (0 : Int32)))).1) ?_
    show Steps p.tables e below (s₁.setTop (mkF m 12 #[.val (.long q), .second, .val (.int (128 : Int32))] [])) tt
    refine XS.lloadN X0.here hx rfl (hb hby d5_12) rfl ?_
    show Steps p.tables e below (s₁.setTop (mkF m 13 #[.val (.long q), .second, .val (.int (128 : Int32))] [(.long q)])) tt
    refine X0.ldc2Long hx hown (mvT hZ (hw _ (List.mem_of_getElem? (i := 26) rfl))) (g := (mkF m 13 #[.val (.long q), .second, .val (.int (128 : Int32))] [(.long q)])) rfl (hb hby d5_13) _ ?_
    show Steps p.tables e below (s₁.setTop (mkF m 16 #[.val (.long q), .second, .val (.int (128 : Int32))] [(.long (127 : Int64)), (.long q)])) tt
    refine XS.lcmp X0.here hx rfl (hb hby d5_16) rfl ?_
    exact kk
  by_cases h17 : (127 : Int64) < q
  · obtain ⟨T2, h2, X2, e2, E2, A2, D2, -, st2⟩ := newO X0 hx hZ hown (hw _ (List.mem_of_getElem? (i := 39) rfl)) (hw _ (List.mem_of_getElem? (i := 40) rfl)) (hw _ (List.mem_of_getElem? (i := 23) rfl)) e0 (g := (mkF m 31 #[.val (.long q), .second, .val (.int (128 : Int32))] [])) rfl (hb hby d5_31) (by decide) (by decide)
    obtain ⟨b2, g2⟩ : ∃ z, z = h0.size := ⟨_, rfl⟩
    rw [← g2] at A2 D2 st2
    have g_b2 : n0 ≤ b2 := Nat.le_trans Z0 (Nat.le_of_eq g2.symm)
    have sz_b2 : h0.size ≤ b2 := Nat.le_trans (Keep.refl h0 []).1 (Nat.le_of_eq g2.symm)
    have Z2 : n0 ≤ h2.size := Nat.le_trans Z0 E2.1
    have K2 := Keep.ext (Keep.refl h0 []) E2
    have F2_value : Fld Z h2 b2 "java/lang/Long" "value" "J" (.long (0 : Int64)) := D2 (Or.inr (hw _ (List.mem_of_getElem? (i := 53) rfl))) (ty := .long) (by decide)
    obtain ⟨_, _, ⟨T3, L3, ka3, na3⟩, -, X3, ⟨Lc3, hQ3, l3, y3, z3⟩, st3⟩ := X2.specialBack hx (y := (⟨"java/lang/Long", "<init>", "(J)V"⟩ : MethodName)) rfl hown (mvT hZ (hw _ (List.mem_of_getElem? (i := 41) rfl))) (mvT hZ (hw _ (List.mem_of_getElem? (i := 42) rfl))) (mvT hZ (hw _ (List.mem_of_getElem? (i := 44) rfl))) (by decide) (backOf (W := 1) (own_rmL l Z a0 hw [] b2 q _ h2 n0 Z2 A2 F2_value g_b2) hZ (hw _ (List.mem_of_getElem? (i := 44) rfl)) (hw _ (List.mem_of_getElem? (i := 23) rfl)) (by decide) (by decide)) (g := (mkF m 36 #[.val (.long q), .second, .val (.int (128 : Int32))] [(.long q), (.ref b2), (.ref b2)])) rfl (by rw [hml]; rfl) (Steps.refl _) (a := b2) (argsL := [(.long q)]) (rest := [(.ref b2)]) (lenOf own_pd__J_V rfl) rfl (by show 2 * 0 + _ ≤ _; exact Nat.le_of_eq rfl) (hb hby d5_36) (fun _ _ => ⟨rfl, e2, (by decide : 1 + 0 ≤ _), (by decide : 1 + 0 ≤ _)⟩)
    dsimp only [Pt.U, Pt.locs, Pt.cells, Pt.slots] at X3 l3 y3 z3 st3 hQ3
    subst l3 y3 z3
    obtain ⟨rfl, Nq3, K3⟩ := hQ3
    have N3 := Fr.app N0 Nq3
    have Z3 : n0 ≤ T3.heap.size := Nat.le_trans Z2 K3.1
    have Kt3 := Keep.trans K2 K3 (allS (Or.inr sz_b2) all0)
    have k4 : ∀ tt, Steps p.tables e below (T3.setTop (mkF m 39 #[.val (.long q), .second, .val (.int (128 : Int32))] [(.ref b2)])) tt → Steps p.tables e below (s₁.setTop (entryFrame m #[(.long q)] 3)) tt := by
      intro tt kk
      refine k1 tt ?_
      show Steps p.tables e below (s₁.setTop (mkF m 17 #[.val (.long q), .second, .val (.int (128 : Int32))] [(.int (lcmpW q (127 : Int64)))])) tt
      refine XS.ifYes X0.here hx rfl (pc0 := 17) (pc' := 31) rfl (hb hby d5_17) rfl ((if0 _ _).trans (tlt ((lw_gt _ _).mpr (h17) : (0 : Int32) < (lcmpW q (127 : Int64)))).2.2.1) (by decide) (by decide) ?_
      show Steps p.tables e below (s₁.setTop (mkF m 31 #[.val (.long q), .second, .val (.int (128 : Int32))] [])) tt
      refine st2 _ ?_
      show Steps p.tables e below (T2.setTop (mkF m 34 #[.val (.long q), .second, .val (.int (128 : Int32))] [(.ref b2)])) tt
      refine XS.dup X2.here hx rfl (hb hby d5_34) rfl rfl ?_
      show Steps p.tables e below (T2.setTop (mkF m 35 #[.val (.long q), .second, .val (.int (128 : Int32))] [(.ref b2), (.ref b2)])) tt
      refine XS.lloadN X2.here hx rfl (hb hby d5_35) rfl ?_
      show Steps p.tables e below (T2.setTop (mkF m 36 #[.val (.long q), .second, .val (.int (128 : Int32))] [(.long q), (.ref b2), (.ref b2)])) tt
      refine st3.trans ?_
      exact kk
    obtain ⟨fs, hr, hrun, hended, hW, hsame⟩ := X3.leave (v := some (.ref b2)) (fun hq => by rw [Bd.returns] at hq; cases hq)
    refine ⟨_, _, k4 _ ?_, hrun, hended, _, _, rfl, ?_, ⟨_, rfl⟩, hW, hsame.mono (by decide) (by decide)⟩
    · show Steps p.tables e below (T3.setTop (mkF m 39 #[.val (.long q), .second, .val (.int (128 : Int32))] [(.ref b2)])) _
      jvm_step X3.here [X3.here.top, hx, (hb hby d5_39), X3.method', Bd.returns, Value.isRef, FieldType.isReference]
      first | (intro acts; rw [hr _ acts rfl rfl rfl]) | rw [hr _ _ rfl rfl rfl]
      exact Steps.refl _
    · show (fun (v : Option Value) (h : Heap) (L : List Loc) => ∃ b : Addr, v = some (.ref b) ∧ Fr n0 L ∧ Keep h0 h [] ∧ Exa Z h b "java/lang/Long") _ T3.heap _
      dsimp only
      exact ⟨_, rfl, N3, Kt3, (A2.keep K3)⟩
  · obtain ⟨T5, X5, e5, st5⟩ := getS2 X0 hx hZ hown (host := "") (Or.inl (hw _ (List.mem_of_getElem? (i := 27) rfl))) Via.refl e0 S_C (g := (mkF m 20 #[.val (.long q), .second, .val (.int (128 : Int32))] [])) rfl (hb hby d5_20)
    obtain ⟨i1, i2⟩ := own_ci q hq h17
    obtain ⟨bC, hb1, hb2⟩ := h_C _ i1
    have hin : ¬ (((q.toInt32) + (128 : Int32)) < 0 ∨ cC.slots.size ≤ (((q.toInt32) + (128 : Int32))).toNatClampNeg) := by rw [z_C]; exact fun z => z.elim i2 (Nat.not_le.mpr i1)
    have k6 : ∀ tt, Steps p.tables e below (T5.setTop (mkF m 30 #[.val (.long q), .second, .val (.int (128 : Int32))] [(.ref bC)])) tt → Steps p.tables e below (s₁.setTop (entryFrame m #[(.long q)] 3)) tt := by
      intro tt kk
      refine k1 tt ?_
      show Steps p.tables e below (s₁.setTop (mkF m 17 #[.val (.long q), .second, .val (.int (128 : Int32))] [(.int (lcmpW q (127 : Int64)))])) tt
      refine XS.ifNo X0.here hx rfl (hb hby d5_17) rfl ((if0 _ _).trans (flt (fun hz0 => (h17 : ¬ ((127 : Int64) < q)) ((lw_gt _ _).mp hz0) : ¬ ((0 : Int32) < (lcmpW q (127 : Int64))))).2.2.1) ?_
      show Steps p.tables e below (s₁.setTop (mkF m 20 #[.val (.long q), .second, .val (.int (128 : Int32))] [])) tt
      refine st5 _ ?_
      show Steps p.tables e below (T5.setTop (mkF m 23 #[.val (.long q), .second, .val (.int (128 : Int32))] [(.ref wC)])) tt
      refine XS.lloadN X5.here hx rfl (hb hby d5_23) rfl ?_
      show Steps p.tables e below (T5.setTop (mkF m 24 #[.val (.long q), .second, .val (.int (128 : Int32))] [(.long q), (.ref wC)])) tt
      refine XS.l2i X5.here hx rfl (hb hby d5_24) rfl ?_
      show Steps p.tables e below (T5.setTop (mkF m 25 #[.val (.long q), .second, .val (.int (128 : Int32))] [(.int (q.toInt32)), (.ref wC)])) tt
      refine XS.sipush X5.here hx rfl (hb hby d5_25) ?_
      show Steps p.tables e below (T5.setTop (mkF m 28 #[.val (.long q), .second, .val (.int (128 : Int32))] [(.int (128 : Int32)), (.int (q.toInt32)), (.ref wC)])) tt
      refine XS.iadd X5.here hx rfl (hb hby d5_28) rfl ?_
      show Steps p.tables e below (T5.setTop (mkF m 29 #[.val (.long q), .second, .val (.int (128 : Int32))] [(.int ((q.toInt32) + (128 : Int32))), (.ref wC)])) tt
      refine X5.aaload hx (j := ((q.toInt32) + (128 : Int32))) (v := (.ref bC)) (by rw [e5]; exact A_C.1) (State.isArrayOf_alike hZ.alike A_C.2.1) rfl A_C.2.2 hin hb1 (g := (mkF m 29 #[.val (.long q), .second, .val (.int (128 : Int32))] [(.int ((q.toInt32) + (128 : Int32))), (.ref wC)])) rfl rfl (hb hby d5_29) _ ?_
      exact kk
    obtain ⟨fs, hr, hrun, hended, hW, hsame⟩ := X5.leave (v := some (.ref bC)) (fun hq => by rw [Bd.returns] at hq; cases hq)
    refine ⟨_, _, k6 _ ?_, hrun, hended, _, _, rfl, ?_, ⟨_, rfl⟩, hW, hsame.mono (by decide) (by decide)⟩
    · show Steps p.tables e below (T5.setTop (mkF m 30 #[.val (.long q), .second, .val (.int (128 : Int32))] [(.ref bC)])) _
      jvm_step X5.here [X5.here.top, hx, (hb hby d5_30), X5.method', Bd.returns, Value.isRef, FieldType.isReference]
      first | (intro acts; rw [hr _ acts rfl rfl rfl]) | rw [hr _ _ rfl rfl rfl]
      exact Steps.refl _
    · show (fun (v : Option Value) (h : Heap) (L : List Loc) => ∃ b : Addr, v = some (.ref b) ∧ Fr n0 L ∧ Keep h0 h [] ∧ Exa Z h b "java/lang/Long") _ T5.heap _
      rw [e5]
      dsimp only
      exact ⟨_, rfl, N0, (Keep.refl h0 []), hb2⟩
theorem own_pn_3 : plainName "com/example/curb_queries/curbqueries/admission/OverloadLimits" = true := by first | (simp [plainName, overriddenIn]; done) | decide +kernel
theorem d3_0 : decode prog_28_method_1_code 0 = .ok (.aload_n 0, 1) := by decide +kernel
theorem d3_1 : decode prog_28_method_1_code 1 = .ok (.invokespecial 1, 3) := by decide +kernel
theorem d3_4 : decode prog_28_method_1_code 4 = .ok (.lload_n 1, 1) := by decide +kernel
theorem d3_5 : decode prog_28_method_1_code 5 = .ok (.lconst 1, 1) := by decide +kernel
theorem d3_6 : decode prog_28_method_1_code 6 = .ok (.lcmp, 1) := by decide +kernel
theorem d3_7 : decode prog_28_method_1_code 7 = .ok (.ifCond .lt 9, 3) := by decide +kernel
theorem d3_10 : decode prog_28_method_1_code 10 = .ok (.lload_n 3, 1) := by decide +kernel
theorem d3_11 : decode prog_28_method_1_code 11 = .ok (.lconst 0, 1) := by decide +kernel
theorem d3_12 : decode prog_28_method_1_code 12 = .ok (.lcmp, 1) := by decide +kernel
theorem d3_13 : decode prog_28_method_1_code 13 = .ok (.ifCond .ge 18, 3) := by decide +kernel
theorem d3_31 : decode prog_28_method_1_code 31 = .ok (.aload_n 0, 1) := by decide +kernel
theorem d3_32 : decode prog_28_method_1_code 32 = .ok (.lload_n 1, 1) := by decide +kernel
theorem d3_33 : decode prog_28_method_1_code 33 = .ok (.putfield 16, 3) := by decide +kernel
theorem d3_36 : decode prog_28_method_1_code 36 = .ok (.aload_n 0, 1) := by decide +kernel
theorem d3_37 : decode prog_28_method_1_code 37 = .ok (.lload_n 3, 1) := by decide +kernel
theorem d3_38 : decode prog_28_method_1_code 38 = .ok (.putfield 22, 3) := by decide +kernel
theorem d3_41 : decode prog_28_method_1_code 41 = .ok (.return_, 1) := by decide +kernel
def own_rmC_Q (Z : State) (a : Addr) (i : Int64) (t : Int64) (u1 u2 : Value) (h0 : Heap) (n0 : Nat) (v : Option Value) (h : Heap) (L : List Loc) : Prop := v = none ∧ Fr n0 L ∧ Keep h0 h [a] ∧ Fld Z h a "com/example/curb_queries/curbqueries/admission/OverloadLimits" "intervalMs" "J" (.long i) ∧ Fld Z h a "com/example/curb_queries/curbqueries/admission/OverloadLimits" "targetMs" "J" (.long t)
set_option maxRecDepth 65536 in
set_option maxHeartbeats 40000000 in
theorem own_rmC (l : Launch) (Z : State) (a0 : Array Value) (hw : ∀ d ∈ tables_1, d.before a0 Z = true) (ws : List Jvm.Cond) (a : Addr) (i : Int64) (t : Int64) (u1 u2 : Value) (h0 : Heap) (n0 : Nat) (Z0 : n0 ≤ h0.size) (E : Exa Z h0 a "com/example/curb_queries/curbqueries/admission/OverloadLimits") (F1 : Fld Z h0 a "com/example/curb_queries/curbqueries/admission/OverloadLimits" "intervalMs" "J" u1) (F2 : Fld Z h0 a "com/example/curb_queries/curbqueries/admission/OverloadLimits" "targetMs" "J" u2) (g : n0 ≤ a) (hi : ¬ i < (1 : Int64)) (ht : ¬ t < (0 : Int64)) :
    MetFree l (⟨"com/example/curb_queries/curbqueries/admission/OverloadLimits", "<init>", "(JJ)V"⟩ : MethodName) (head1 (Jvm.Cond.code (⟨"com/example/curb_queries/curbqueries/admission/OverloadLimits", "<init>", "(JJ)V"⟩ : MethodName) prog_28_method_1_code 5 none :: ws) ({ frames := 1, cells := 0, slots := 0, locals := 12 } : Room)) (fun aa UU => aa = #[(.ref a), (.long i), (.long t)] ∧ Z.Warmed39 UU.vm ∧ UU.heap = h0) (fun _ _ _ _ _ => True) (fun _ UU oo UU' => ∃ vv LL, oo = .returned vv ∧ own_rmC_Q Z a i t u1 u2 h0 n0 vv UU'.heap LL ∧ FrameEnd UU oo UU' LL ({ frames := 1, cells := 0, slots := 0, locals := 12 } : Room).cells ({ frames := 1, cells := 0, slots := 0, locals := 12 } : Room).slots) := by
  refine MetFree.of_bodySF (plainFor_of_name own_pn_3) hisR ?_
  intro p e s m args below meth cc s₁ Bd hml0 hP hK
  obtain ⟨rfl, hZ, hh⟩ := hP
  have hx := Bd.exec
  have hby := Bd.bytes
  have hml : cc.maxLocals = 5 := hml0
  have hown : s.vm.findClass "com/example/curb_queries/curbqueries/admission/OverloadLimits" = some m.cls := findClass_of_methodNamed Bd.named
  have hnm := (name_of_methodNamed Bd.named Bd.method).1
  have X0 : Stand p l e ({ frames := 1, cells := 0, slots := 0, locals := 12 } : Room) s m #[(.ref a), (.long i), (.long t)] below meth cc s₁ [] 0 0 := Stand.of_body Bd
  have e0 : s₁.heap = h0 := by rw [← hh, Bd.state]; rfl
  have N0 := Fr.nil n0
  have k0 : ∀ tt, Steps p.tables e below (s₁.setTop (mkF m 0 #[.val (.ref a), .val (.long i), .second, .val (.long t), .second] [])) tt → Steps p.tables e below (s₁.setTop (entryFrame m #[(.ref a), (.long i), (.long t)] 5)) tt := fun tt kk => castTop (by first | (simp [entryFrame, mkF, argsToLocals, Value.category]; done) | rfl) kk
  obtain ⟨T1, X1, e1, st1⟩ := initO X0 hx hZ hown (hw _ (List.mem_of_getElem? (i := 14) rfl)) (hw _ (List.mem_of_getElem? (i := 15) rfl)) (hw _ (List.mem_of_getElem? (i := 16) rfl)) e0 (g := (mkF m 1 #[.val (.ref a), .val (.long i), .second, .val (.long t), .second] [(.ref a)])) rfl (by rw [hml]; rfl) rfl (hb hby d3_1) (by decide) (W := 0) (by show 2 * 0 + _ ≤ _; exact Nat.le_of_eq rfl) (by decide)
  obtain ⟨T2, h2, X2, e2, W2, st2⟩ := putF X1 hx hZ hown (host := "") (Or.inl (hw _ (List.mem_of_getElem? (i := 17) rfl))) Via.refl e1 F1 E (Or.inr ⟨(hw _ (List.mem_of_getElem? (i := 18) rfl)), rfl, hnm⟩) (hw _ (List.mem_of_getElem? (i := 9) rfl)) (ty := .long) (by decide) rfl rfl (g := (mkF m 33 #[.val (.ref a), .val (.long i), .second, .val (.long t), .second] [(.long i), (.ref a)])) rfl rfl (hb hby d3_33)
  have Fw2 := Fld.same W2 F1
  have Z2 : n0 ≤ h2.size := Nat.le_trans Z0 (Keep.of_wr W2).1
  have N2 := Fr.snoc X2 N0 g
  have K2 := Keep.wr (Keep.refl h0 [a]) W2 (Or.inl (List.mem_of_getElem? (i := 0) rfl))
  have hf3 := (Fld.other W2 F2 (Or.inr (slot_ne (Or.inr (hw _ (List.mem_of_getElem? (i := 20) rfl))) (Or.inr (hw _ (List.mem_of_getElem? (i := 18) rfl))) (by decide) (t := .long) (t' := .long) (by decide) (by decide))))
  obtain ⟨T4, h4, X4, e4, W4, st4⟩ := putF X2 hx hZ hown (host := "") (Or.inl (hw _ (List.mem_of_getElem? (i := 19) rfl))) Via.refl e2 hf3 (Exa.wr W2 E) (Or.inr ⟨(hw _ (List.mem_of_getElem? (i := 20) rfl)), rfl, hnm⟩) (hw _ (List.mem_of_getElem? (i := 9) rfl)) (ty := .long) (by decide) rfl rfl (g := (mkF m 38 #[.val (.ref a), .val (.long i), .second, .val (.long t), .second] [(.long t), (.ref a)])) rfl rfl (hb hby d3_38)
  have Fw4 := Fld.same W4 hf3
  have Z4 : n0 ≤ h4.size := Nat.le_trans Z2 (Keep.of_wr W4).1
  have N4 := Fr.snoc X4 N2 g
  have K4 := Keep.wr K2 W4 (Or.inl (List.mem_of_getElem? (i := 0) rfl))
  have hf5 := (Fld.other W4 Fw2 (Or.inr (slot_ne (Or.inr (hw _ (List.mem_of_getElem? (i := 18) rfl))) (Or.inr (hw _ (List.mem_of_getElem? (i := 20) rfl))) (by decide) (t := .long) (t' := .long) (by decide) (by decide))))
  have k6 : ∀ tt, Steps p.tables e below (T4.setTop (mkF m 41 #[.val (.ref a), .val (.long i), .second, .val (.long t), .second] [])) tt → Steps p.tables e below (s₁.setTop (entryFrame m #[(.ref a), (.long i), (.long t)] 5)) tt := by
    intro tt kk
    refine k0 tt ?_
    show Steps p.tables e below (s₁.setTop (mkF m 0 #[.val (.ref a), .val (.long i), .second, .val (.long t), .second] [])) tt
    refine XS.aloadN X0.here hx rfl (hb hby d3_0) rfl rfl ?_
    show Steps p.tables e below (s₁.setTop (mkF m 1 #[.val (.ref a), .val (.long i), .second, .val (.long t), .second] [(.ref a)])) tt
    refine st1 _ ?_
    show Steps p.tables e below (T1.setTop (mkF m 4 #[.val (.ref a), .val (.long i), .second, .val (.long t), .second] [])) tt
    refine XS.lloadN X1.here hx rfl (hb hby d3_4) rfl ?_
    show Steps p.tables e below (T1.setTop (mkF m 5 #[.val (.ref a), .val (.long i), .second, .val (.long t), .second] [(.long i)])) tt
    refine XS.lconst X1.here hx rfl (hb hby d3_5) ?_
    show Steps p.tables e below (T1.setTop (mkF m 6 #[.val (.ref a), .val (.long i), .second, .val (.long t), .second] [(.long (1 : Int64)), (.long i)])) tt
    refine XS.lcmp X1.here hx rfl (hb hby d3_6) rfl ?_
    show Steps p.tables e below (T1.setTop (mkF m 7 #[.val (.ref a), .val (.long i), .second, .val (.long t), .second] [(.int (lcmpW i (1 : Int64)))])) tt
    refine XS.ifNo X1.here hx rfl (hb hby d3_7) rfl ((if0 _ _).trans (flt (fun hz0 => (hi : ¬ (i < (1 : Int64))) ((lw_lt _ _).mp hz0) : ¬ ((lcmpW i (1 : Int64)) < (0 : Int32)))).1) ?_
    show Steps p.tables e below (T1.setTop (mkF m 10 #[.val (.ref a), .val (.long i), .second, .val (.long t), .second] [])) tt
    refine XS.lloadN X1.here hx rfl (hb hby d3_10) rfl ?_
    show Steps p.tables e below (T1.setTop (mkF m 11 #[.val (.ref a), .val (.long i), .second, .val (.long t), .second] [(.long t)])) tt
    refine XS.lconst X1.here hx rfl (hb hby d3_11) ?_
    show Steps p.tables e below (T1.setTop (mkF m 12 #[.val (.ref a), .val (.long i), .second, .val (.long t), .second] [(.long (0 : Int64)), (.long t)])) tt
    refine XS.lcmp X1.here hx rfl (hb hby d3_12) rfl ?_
    show Steps p.tables e below (T1.setTop (mkF m 13 #[.val (.ref a), .val (.long i), .second, .val (.long t), .second] [(.int (lcmpW t (0 : Int64)))])) tt
    refine XS.ifYes X1.here hx rfl (pc0 := 13) (pc' := 31) rfl (hb hby d3_13) rfl ((if0 _ _).trans (flt (fun hz0 => (ht : ¬ (t < (0 : Int64))) ((lw_lt _ _).mp hz0) : ¬ ((lcmpW t (0 : Int64)) < (0 : Int32)))).2.1) (by decide) (by decide) ?_
    show Steps p.tables e below (T1.setTop (mkF m 31 #[.val (.ref a), .val (.long i), .second, .val (.long t), .second] [])) tt
    refine XS.aloadN X1.here hx rfl (hb hby d3_31) rfl rfl ?_
    show Steps p.tables e below (T1.setTop (mkF m 32 #[.val (.ref a), .val (.long i), .second, .val (.long t), .second] [(.ref a)])) tt
    refine XS.lloadN X1.here hx rfl (hb hby d3_32) rfl ?_
    show Steps p.tables e below (T1.setTop (mkF m 33 #[.val (.ref a), .val (.long i), .second, .val (.long t), .second] [(.long i), (.ref a)])) tt
    refine st2 _ ?_
    show Steps p.tables e below (T2.setTop (mkF m 36 #[.val (.ref a), .val (.long i), .second, .val (.long t), .second] [])) tt
    refine XS.aloadN X2.here hx rfl (hb hby d3_36) rfl rfl ?_
    show Steps p.tables e below (T2.setTop (mkF m 37 #[.val (.ref a), .val (.long i), .second, .val (.long t), .second] [(.ref a)])) tt
    refine XS.lloadN X2.here hx rfl (hb hby d3_37) rfl ?_
    show Steps p.tables e below (T2.setTop (mkF m 38 #[.val (.ref a), .val (.long i), .second, .val (.long t), .second] [(.long t), (.ref a)])) tt
    refine st4 _ ?_
    exact kk
  obtain ⟨fs, hr, hrun, hended, hW, hsame⟩ := X4.leave (v := none) (fun _ => rfl)
  refine ⟨_, _, k6 _ ?_, hrun, hended, _, _, rfl, ?_, ⟨_, rfl⟩, hW, hsame.mono (by decide) (by decide)⟩
  · show Steps p.tables e below (T4.setTop (mkF m 41 #[.val (.ref a), .val (.long i), .second, .val (.long t), .second] [])) _
    exact X4.returnOut hx Bd.returns (hb hby d3_41) hr
  · show (fun (v : Option Value) (h : Heap) (L : List Loc) => v = none ∧ Fr n0 L ∧ Keep h0 h [a] ∧ Fld Z h a "com/example/curb_queries/curbqueries/admission/OverloadLimits" "intervalMs" "J" (.long i) ∧ Fld Z h a "com/example/curb_queries/curbqueries/admission/OverloadLimits" "targetMs" "J" (.long t)) _ T4.heap _
    rw [e4]
    dsimp only
    exact ⟨rfl, N4, K4, hf5, Fw4⟩
theorem own_pn_6 : plainName "com/example/curb_queries/curbqueries/admission/OverloadLimits" = true := by first | (simp [plainName, overriddenIn]; done) | decide +kernel
theorem d6_0 : decode prog_28_method_4_code 0 = .ok (.aload_n 1, 1) := by decide +kernel
theorem d6_1 : decode prog_28_method_4_code 1 = .ok (.instanceof 17, 3) := by decide +kernel
theorem d6_4 : decode prog_28_method_4_code 4 = .ok (.ifCond .eq 37, 3) := by decide +kernel
theorem d6_7 : decode prog_28_method_4_code 7 = .ok (.aload_n 0, 1) := by decide +kernel
theorem d6_8 : decode prog_28_method_4_code 8 = .ok (.getfield 16, 3) := by decide +kernel
theorem d6_11 : decode prog_28_method_4_code 11 = .ok (.aload_n 1, 1) := by decide +kernel
theorem d6_12 : decode prog_28_method_4_code 12 = .ok (.checkcast 17, 3) := by decide +kernel
theorem d6_15 : decode prog_28_method_4_code 15 = .ok (.getfield 16, 3) := by decide +kernel
theorem d6_18 : decode prog_28_method_4_code 18 = .ok (.lcmp, 1) := by decide +kernel
theorem d6_19 : decode prog_28_method_4_code 19 = .ok (.ifCond .ne 22, 3) := by decide +kernel
theorem d6_22 : decode prog_28_method_4_code 22 = .ok (.aload_n 0, 1) := by decide +kernel
theorem d6_23 : decode prog_28_method_4_code 23 = .ok (.getfield 22, 3) := by decide +kernel
theorem d6_26 : decode prog_28_method_4_code 26 = .ok (.aload_n 1, 1) := by decide +kernel
theorem d6_27 : decode prog_28_method_4_code 27 = .ok (.checkcast 17, 3) := by decide +kernel
theorem d6_30 : decode prog_28_method_4_code 30 = .ok (.getfield 22, 3) := by decide +kernel
theorem d6_33 : decode prog_28_method_4_code 33 = .ok (.lcmp, 1) := by decide +kernel
theorem d6_34 : decode prog_28_method_4_code 34 = .ok (.ifCond .ne 7, 3) := by decide +kernel
theorem d6_37 : decode prog_28_method_4_code 37 = .ok (.iconst 1, 1) := by decide +kernel
theorem d6_38 : decode prog_28_method_4_code 38 = .ok (.goto 4, 3) := by decide +kernel
theorem d6_42 : decode prog_28_method_4_code 42 = .ok (.ireturn, 1) := by decide +kernel
theorem d6_41 : decode prog_28_method_4_code 41 = .ok (.iconst 0, 1) := by decide +kernel
def own_rmE_Q (Z : State) (a : Addr) (b : Addr) (i1 t1 i2 t2 : Int64) (h0 : Heap) (n0 : Nat) (v : Option Value) (h : Heap) (L : List Loc) : Prop := v = some (.int (own_eq i1 t1 i2 t2)) ∧ Fr n0 L ∧ h = h0
set_option maxRecDepth 65536 in
set_option maxHeartbeats 40000000 in
theorem own_rmE (l : Launch) (Z : State) (a0 : Array Value) (hw : ∀ d ∈ tables_1, d.before a0 Z = true) (ws : List Jvm.Cond) (a : Addr) (b : Addr) (i1 t1 i2 t2 : Int64) (h0 : Heap) (n0 : Nat) (Z0 : n0 ≤ h0.size) (E_b : Exa Z h0 b "com/example/curb_queries/curbqueries/admission/OverloadLimits") (F1_a : Fld Z h0 a "com/example/curb_queries/curbqueries/admission/OverloadLimits" "intervalMs" "J" (.long i1)) (F2_a : Fld Z h0 a "com/example/curb_queries/curbqueries/admission/OverloadLimits" "targetMs" "J" (.long t1)) (F1_b : Fld Z h0 b "com/example/curb_queries/curbqueries/admission/OverloadLimits" "intervalMs" "J" (.long i2)) (F2_b : Fld Z h0 b "com/example/curb_queries/curbqueries/admission/OverloadLimits" "targetMs" "J" (.long t2)) :
    MetFree l (⟨"com/example/curb_queries/curbqueries/admission/OverloadLimits", "equals", "(Ljava/lang/Object;)Z"⟩ : MethodName) (head1 (Jvm.Cond.code (⟨"com/example/curb_queries/curbqueries/admission/OverloadLimits", "equals", "(Ljava/lang/Object;)Z"⟩ : MethodName) prog_28_method_4_code 2 (some .boolean) :: ws) ({ frames := 0, cells := 0, slots := 0, locals := 0 } : Room)) (fun aa UU => aa = #[(.ref a), (.ref b)] ∧ Z.Warmed39 UU.vm ∧ UU.heap = h0) (fun _ _ _ _ _ => True) (fun _ UU oo UU' => ∃ vv LL, oo = .returned vv ∧ own_rmE_Q Z a b i1 t1 i2 t2 h0 n0 vv UU'.heap LL ∧ FrameEnd UU oo UU' LL ({ frames := 0, cells := 0, slots := 0, locals := 0 } : Room).cells ({ frames := 0, cells := 0, slots := 0, locals := 0 } : Room).slots) := by
  refine MetFree.of_bodySF (plainFor_of_name own_pn_6) hisR ?_
  intro p e s m args below meth cc s₁ Bd hml0 hP hK
  obtain ⟨rfl, hZ, hh⟩ := hP
  have hx := Bd.exec
  have hby := Bd.bytes
  have hml : cc.maxLocals = 2 := hml0
  have hown : s.vm.findClass "com/example/curb_queries/curbqueries/admission/OverloadLimits" = some m.cls := findClass_of_methodNamed Bd.named
  have hnm := (name_of_methodNamed Bd.named Bd.method).1
  have X0 : Stand p l e ({ frames := 0, cells := 0, slots := 0, locals := 0 } : Room) s m #[(.ref a), (.ref b)] below meth cc s₁ [] 0 0 := Stand.of_body Bd
  have e0 : s₁.heap = h0 := by rw [← hh, Bd.state]; rfl
  have N0 := Fr.nil n0
  have k0 : ∀ tt, Steps p.tables e below (s₁.setTop (mkF m 0 #[.val (.ref a), .val (.ref b)] [])) tt → Steps p.tables e below (s₁.setTop (entryFrame m #[(.ref a), (.ref b)] 2)) tt := fun tt kk => castTop (by first | (simp [entryFrame, mkF, argsToLocals, Value.category]; done) | rfl) kk
  obtain ⟨T1, X1, e1, st1⟩ := instY X0 hx hZ hown (hw _ (List.mem_of_getElem? (i := 34) rfl)) e0 (Ins.self E_b) (g := (mkF m 1 #[.val (.ref a), .val (.ref b)] [(.ref b)])) rfl rfl (hb hby d6_1)
  obtain ⟨T2, X2, e2, st2⟩ := getF X1 hx hZ hown (host := "") (Or.inl (hw _ (List.mem_of_getElem? (i := 17) rfl))) Via.refl e1 F1_a (g := (mkF m 8 #[.val (.ref a), .val (.ref b)] [(.ref a)])) rfl rfl (hb hby d6_8)
  obtain ⟨T3, X3, e3, st3⟩ := castY X2 hx hZ hown (hw _ (List.mem_of_getElem? (i := 34) rfl)) e2 (Ins.self E_b) (g := (mkF m 12 #[.val (.ref a), .val (.ref b)] [(.ref b), (.long i1)])) rfl rfl (hb hby d6_12)
  obtain ⟨T4, X4, e4, st4⟩ := getF X3 hx hZ hown (host := "") (Or.inl (hw _ (List.mem_of_getElem? (i := 17) rfl))) Via.refl e3 F1_b (g := (mkF m 15 #[.val (.ref a), .val (.ref b)] [(.ref b), (.long i1)])) rfl rfl (hb hby d6_15)
  have k5 : ∀ tt, Steps p.tables e below (T4.setTop (mkF m 19 #[.val (.ref a), .val (.ref b)] [(.int (lcmpW i1 i2))])) tt → Steps p.tables e below (s₁.setTop (entryFrame m #[(.ref a), (.ref b)] 2)) tt := by
    intro tt kk
    refine k0 tt ?_
    show Steps p.tables e below (s₁.setTop (mkF m 0 #[.val (.ref a), .val (.ref b)] [])) tt
    refine XS.aloadN X0.here hx rfl (hb hby d6_0) rfl rfl ?_
    show Steps p.tables e below (s₁.setTop (mkF m 1 #[.val (.ref a), .val (.ref b)] [(.ref b)])) tt
    refine st1 _ ?_
    show Steps p.tables e below (T1.setTop (mkF m 4 #[.val (.ref a), .val (.ref b)] [(.int (1 : Int32))])) tt
    refine XS.ifNo X1.here hx rfl (hb hby d6_4) rfl ((if0 _ _).trans (feq (by decide : ¬ ((1 : Int32) = (0 : Int32)))).1) ?_
    show Steps p.tables e below (T1.setTop (mkF m 7 #[.val (.ref a), .val (.ref b)] [])) tt
    refine XS.aloadN X1.here hx rfl (hb hby d6_7) rfl rfl ?_
    show Steps p.tables e below (T1.setTop (mkF m 8 #[.val (.ref a), .val (.ref b)] [(.ref a)])) tt
    refine st2 _ ?_
    show Steps p.tables e below (T2.setTop (mkF m 11 #[.val (.ref a), .val (.ref b)] [(.long i1)])) tt
    refine XS.aloadN X2.here hx rfl (hb hby d6_11) rfl rfl ?_
    show Steps p.tables e below (T2.setTop (mkF m 12 #[.val (.ref a), .val (.ref b)] [(.ref b), (.long i1)])) tt
    refine st3 _ ?_
    show Steps p.tables e below (T3.setTop (mkF m 15 #[.val (.ref a), .val (.ref b)] [(.ref b), (.long i1)])) tt
    refine st4 _ ?_
    show Steps p.tables e below (T4.setTop (mkF m 18 #[.val (.ref a), .val (.ref b)] [(.long i2), (.long i1)])) tt
    refine XS.lcmp X4.here hx rfl (hb hby d6_18) rfl ?_
    exact kk
  by_cases c19_6 : i1 = i2
  · obtain ⟨T7, X7, e7, st7⟩ := getF X4 hx hZ hown (host := "") (Or.inl (hw _ (List.mem_of_getElem? (i := 19) rfl))) Via.refl e4 F2_a (g := (mkF m 23 #[.val (.ref a), .val (.ref b)] [(.ref a)])) rfl rfl (hb hby d6_23)
    obtain ⟨T8, X8, e8, st8⟩ := castY X7 hx hZ hown (hw _ (List.mem_of_getElem? (i := 34) rfl)) e7 (Ins.self E_b) (g := (mkF m 27 #[.val (.ref a), .val (.ref b)] [(.ref b), (.long t1)])) rfl rfl (hb hby d6_27)
    obtain ⟨T9, X9, e9, st9⟩ := getF X8 hx hZ hown (host := "") (Or.inl (hw _ (List.mem_of_getElem? (i := 19) rfl))) Via.refl e8 F2_b (g := (mkF m 30 #[.val (.ref a), .val (.ref b)] [(.ref b), (.long t1)])) rfl rfl (hb hby d6_30)
    have k10 : ∀ tt, Steps p.tables e below (T9.setTop (mkF m 34 #[.val (.ref a), .val (.ref b)] [(.int (lcmpW t1 t2))])) tt → Steps p.tables e below (s₁.setTop (entryFrame m #[(.ref a), (.ref b)] 2)) tt := by
      intro tt kk
      refine k5 tt ?_
      show Steps p.tables e below (T4.setTop (mkF m 19 #[.val (.ref a), .val (.ref b)] [(.int (lcmpW i1 i2))])) tt
      refine XS.ifNo X4.here hx rfl (hb hby d6_19) rfl ((if0 _ _).trans (teq ((lw_eq _ _).mpr (c19_6) : (lcmpW i1 i2) = (0 : Int32))).2) ?_
      show Steps p.tables e below (T4.setTop (mkF m 22 #[.val (.ref a), .val (.ref b)] [])) tt
      refine XS.aloadN X4.here hx rfl (hb hby d6_22) rfl rfl ?_
      show Steps p.tables e below (T4.setTop (mkF m 23 #[.val (.ref a), .val (.ref b)] [(.ref a)])) tt
      refine st7 _ ?_
      show Steps p.tables e below (T7.setTop (mkF m 26 #[.val (.ref a), .val (.ref b)] [(.long t1)])) tt
      refine XS.aloadN X7.here hx rfl (hb hby d6_26) rfl rfl ?_
      show Steps p.tables e below (T7.setTop (mkF m 27 #[.val (.ref a), .val (.ref b)] [(.ref b), (.long t1)])) tt
      refine st8 _ ?_
      show Steps p.tables e below (T8.setTop (mkF m 30 #[.val (.ref a), .val (.ref b)] [(.ref b), (.long t1)])) tt
      refine st9 _ ?_
      show Steps p.tables e below (T9.setTop (mkF m 33 #[.val (.ref a), .val (.ref b)] [(.long t2), (.long t1)])) tt
      refine XS.lcmp X9.here hx rfl (hb hby d6_33) rfl ?_
      exact kk
    by_cases c34_11 : t1 = t2
    · have k12 : ∀ tt, Steps p.tables e below (T9.setTop (mkF m 42 #[.val (.ref a), .val (.ref b)] [(.int (1 : Int32))])) tt → Steps p.tables e below (s₁.setTop (entryFrame m #[(.ref a), (.ref b)] 2)) tt := by
        intro tt kk
        refine k10 tt ?_
        show Steps p.tables e below (T9.setTop (mkF m 34 #[.val (.ref a), .val (.ref b)] [(.int (lcmpW t1 t2))])) tt
        refine XS.ifNo X9.here hx rfl (hb hby d6_34) rfl ((if0 _ _).trans (teq ((lw_eq _ _).mpr (c34_11) : (lcmpW t1 t2) = (0 : Int32))).2) ?_
        show Steps p.tables e below (T9.setTop (mkF m 37 #[.val (.ref a), .val (.ref b)] [])) tt
        refine XS.iconst X9.here hx rfl (hb hby d6_37) ?_
        show Steps p.tables e below (T9.setTop (mkF m 38 #[.val (.ref a), .val (.ref b)] [(.int (1 : Int32))])) tt
        refine XS.goto X9.here hx rfl (pc0 := 38) (pc' := 42) rfl (hb hby d6_38) (by decide) (by decide) ?_
        exact kk
      obtain ⟨fs, hr, hrun, hended, hW, hsame⟩ := X9.leave (v := some (.int (1 : Int32))) (fun hq => by rw [Bd.returns] at hq; cases hq)
      refine ⟨_, _, k12 _ ?_, hrun, hended, _, _, rfl, ?_, ⟨_, rfl⟩, hW, hsame.mono (by decide) (by decide)⟩
      · show Steps p.tables e below (T9.setTop (mkF m 42 #[.val (.ref a), .val (.ref b)] [(.int (1 : Int32))])) _
        exact retN X9 hx (t := .boolean) Bd.returns (by simp) (hb hby d6_42) hr
      · show (fun (v : Option Value) (h : Heap) (L : List Loc) => v = some (.int (own_eq i1 t1 i2 t2)) ∧ Fr n0 L ∧ h = h0) _ T9.heap _
        rw [e9]
        dsimp only
        refine ⟨?_, N0, rfl⟩
        simp [own_eq, c19_6, c34_11]
    · have k13 : ∀ tt, Steps p.tables e below (T9.setTop (mkF m 42 #[.val (.ref a), .val (.ref b)] [(.int (0 : Int32))])) tt → Steps p.tables e below (s₁.setTop (entryFrame m #[(.ref a), (.ref b)] 2)) tt := by
        intro tt kk
        refine k10 tt ?_
        show Steps p.tables e below (T9.setTop (mkF m 34 #[.val (.ref a), .val (.ref b)] [(.int (lcmpW t1 t2))])) tt
        refine XS.ifYes X9.here hx rfl (pc0 := 34) (pc' := 41) rfl (hb hby d6_34) rfl ((if0 _ _).trans (feq (fun hz0 => (c34_11 : ¬ (t1 = t2)) ((lw_eq _ _).mp hz0) : ¬ ((lcmpW t1 t2) = (0 : Int32)))).2) (by decide) (by decide) ?_
        show Steps p.tables e below (T9.setTop (mkF m 41 #[.val (.ref a), .val (.ref b)] [])) tt
        refine XS.iconst X9.here hx rfl (hb hby d6_41) ?_
        exact kk
      obtain ⟨fs, hr, hrun, hended, hW, hsame⟩ := X9.leave (v := some (.int (0 : Int32))) (fun hq => by rw [Bd.returns] at hq; cases hq)
      refine ⟨_, _, k13 _ ?_, hrun, hended, _, _, rfl, ?_, ⟨_, rfl⟩, hW, hsame.mono (by decide) (by decide)⟩
      · show Steps p.tables e below (T9.setTop (mkF m 42 #[.val (.ref a), .val (.ref b)] [(.int (0 : Int32))])) _
        exact retN X9 hx (t := .boolean) Bd.returns (by simp) (hb hby d6_42) hr
      · show (fun (v : Option Value) (h : Heap) (L : List Loc) => v = some (.int (own_eq i1 t1 i2 t2)) ∧ Fr n0 L ∧ h = h0) _ T9.heap _
        rw [e9]
        dsimp only
        refine ⟨?_, N0, rfl⟩
        simp [own_eq, c19_6, c34_11]
  · have k14 : ∀ tt, Steps p.tables e below (T4.setTop (mkF m 42 #[.val (.ref a), .val (.ref b)] [(.int (0 : Int32))])) tt → Steps p.tables e below (s₁.setTop (entryFrame m #[(.ref a), (.ref b)] 2)) tt := by
      intro tt kk
      refine k5 tt ?_
      show Steps p.tables e below (T4.setTop (mkF m 19 #[.val (.ref a), .val (.ref b)] [(.int (lcmpW i1 i2))])) tt
      refine XS.ifYes X4.here hx rfl (pc0 := 19) (pc' := 41) rfl (hb hby d6_19) rfl ((if0 _ _).trans (feq (fun hz0 => (c19_6 : ¬ (i1 = i2)) ((lw_eq _ _).mp hz0) : ¬ ((lcmpW i1 i2) = (0 : Int32)))).2) (by decide) (by decide) ?_
      show Steps p.tables e below (T4.setTop (mkF m 41 #[.val (.ref a), .val (.ref b)] [])) tt
      refine XS.iconst X4.here hx rfl (hb hby d6_41) ?_
      exact kk
    obtain ⟨fs, hr, hrun, hended, hW, hsame⟩ := X4.leave (v := some (.int (0 : Int32))) (fun hq => by rw [Bd.returns] at hq; cases hq)
    refine ⟨_, _, k14 _ ?_, hrun, hended, _, _, rfl, ?_, ⟨_, rfl⟩, hW, hsame.mono (by decide) (by decide)⟩
    · show Steps p.tables e below (T4.setTop (mkF m 42 #[.val (.ref a), .val (.ref b)] [(.int (0 : Int32))])) _
      exact retN X4 hx (t := .boolean) Bd.returns (by simp) (hb hby d6_42) hr
    · show (fun (v : Option Value) (h : Heap) (L : List Loc) => v = some (.int (own_eq i1 t1 i2 t2)) ∧ Fr n0 L ∧ h = h0) _ T4.heap _
      rw [e4]
      dsimp only
      refine ⟨?_, N0, rfl⟩
      simp [own_eq, c19_6]
def own_rmEn_Q (Z : State) (a : Addr)  (h0 : Heap) (n0 : Nat) (v : Option Value) (h : Heap) (L : List Loc) : Prop := v = some (.int (0 : Int32)) ∧ Fr n0 L ∧ h = h0
set_option maxRecDepth 65536 in
set_option maxHeartbeats 40000000 in
theorem own_rmEn (l : Launch) (Z : State) (a0 : Array Value) (hw : ∀ d ∈ tables_1, d.before a0 Z = true) (ws : List Jvm.Cond) (a : Addr)  (h0 : Heap) (n0 : Nat) (Z0 : n0 ≤ h0.size)  :
    MetFree l (⟨"com/example/curb_queries/curbqueries/admission/OverloadLimits", "equals", "(Ljava/lang/Object;)Z"⟩ : MethodName) (head1 (Jvm.Cond.code (⟨"com/example/curb_queries/curbqueries/admission/OverloadLimits", "equals", "(Ljava/lang/Object;)Z"⟩ : MethodName) prog_28_method_4_code 2 (some .boolean) :: ws) ({ frames := 0, cells := 0, slots := 0, locals := 0 } : Room)) (fun aa UU => aa = #[(.ref a), .null] ∧ Z.Warmed39 UU.vm ∧ UU.heap = h0) (fun _ _ _ _ _ => True) (fun _ UU oo UU' => ∃ vv LL, oo = .returned vv ∧ own_rmEn_Q Z a h0 n0 vv UU'.heap LL ∧ FrameEnd UU oo UU' LL ({ frames := 0, cells := 0, slots := 0, locals := 0 } : Room).cells ({ frames := 0, cells := 0, slots := 0, locals := 0 } : Room).slots) := by
  refine MetFree.of_bodySF (plainFor_of_name own_pn_6) hisR ?_
  intro p e s m args below meth cc s₁ Bd hml0 hP hK
  obtain ⟨rfl, hZ, hh⟩ := hP
  have hx := Bd.exec
  have hby := Bd.bytes
  have hml : cc.maxLocals = 2 := hml0
  have hown : s.vm.findClass "com/example/curb_queries/curbqueries/admission/OverloadLimits" = some m.cls := findClass_of_methodNamed Bd.named
  have hnm := (name_of_methodNamed Bd.named Bd.method).1
  have X0 : Stand p l e ({ frames := 0, cells := 0, slots := 0, locals := 0 } : Room) s m #[(.ref a), .null] below meth cc s₁ [] 0 0 := Stand.of_body Bd
  have e0 : s₁.heap = h0 := by rw [← hh, Bd.state]; rfl
  have N0 := Fr.nil n0
  have k0 : ∀ tt, Steps p.tables e below (s₁.setTop (mkF m 0 #[.val (.ref a), .val .null] [])) tt → Steps p.tables e below (s₁.setTop (entryFrame m #[(.ref a), .null] 2)) tt := fun tt kk => castTop (by first | (simp [entryFrame, mkF, argsToLocals, Value.category]; done) | rfl) kk
  have k1 : ∀ tt, Steps p.tables e below (s₁.setTop (mkF m 42 #[.val (.ref a), .val .null] [(.int (0 : Int32))])) tt → Steps p.tables e below (s₁.setTop (entryFrame m #[(.ref a), .null] 2)) tt := by
    intro tt kk
    refine k0 tt ?_
    show Steps p.tables e below (s₁.setTop (mkF m 0 #[.val (.ref a), .val .null] [])) tt
    refine XS.aloadN X0.here hx rfl (hb hby d6_0) rfl rfl ?_
    show Steps p.tables e below (s₁.setTop (mkF m 1 #[.val (.ref a), .val .null] [.null])) tt
    refine X0.instanceofNull hx (g := (mkF m 1 #[.val (.ref a), .val .null] [.null])) rfl rfl (hb hby d6_1) _ ?_
    show Steps p.tables e below (s₁.setTop (mkF m 4 #[.val (.ref a), .val .null] [(.int (0 : Int32))])) tt
    refine XS.ifYes X0.here hx rfl (pc0 := 4) (pc' := 41) rfl (hb hby d6_4) rfl ((if0 _ _).trans (teq (by decide : (0 : Int32) = (0 : Int32))).1) (by decide) (by decide) ?_
    show Steps p.tables e below (s₁.setTop (mkF m 41 #[.val (.ref a), .val .null] [])) tt
    refine XS.iconst X0.here hx rfl (hb hby d6_41) ?_
    exact kk
  obtain ⟨fs, hr, hrun, hended, hW, hsame⟩ := X0.leave (v := some (.int (0 : Int32))) (fun hq => by rw [Bd.returns] at hq; cases hq)
  refine ⟨_, _, k1 _ ?_, hrun, hended, _, _, rfl, ?_, ⟨_, rfl⟩, hW, hsame.mono (by decide) (by decide)⟩
  · show Steps p.tables e below (s₁.setTop (mkF m 42 #[.val (.ref a), .val .null] [(.int (0 : Int32))])) _
    exact retN X0 hx (t := .boolean) Bd.returns (by simp) (hb hby d6_42) hr
  · show (fun (v : Option Value) (h : Heap) (L : List Loc) => v = some (.int (0 : Int32)) ∧ Fr n0 L ∧ h = h0) _ s₁.heap _
    rw [e0]
    dsimp only
    exact ⟨rfl, N0, rfl⟩
def own_rmEx_Q (Z : State) (a : Addr) (b : Addr)  (h0 : Heap) (n0 : Nat) (v : Option Value) (h : Heap) (L : List Loc) : Prop := v = some (.int (0 : Int32)) ∧ Fr n0 L ∧ h = h0
set_option maxRecDepth 65536 in
set_option maxHeartbeats 40000000 in
theorem own_rmEx (l : Launch) (Z : State) (a0 : Array Value) (hw : ∀ d ∈ tables_1, d.before a0 Z = true) (ws : List Jvm.Cond) (a : Addr) (b : Addr)  (h0 : Heap) (n0 : Nat) (Z0 : n0 ≤ h0.size) (E_b : Exa Z h0 b "java/lang/Long") :
    MetFree l (⟨"com/example/curb_queries/curbqueries/admission/OverloadLimits", "equals", "(Ljava/lang/Object;)Z"⟩ : MethodName) (head1 (Jvm.Cond.code (⟨"com/example/curb_queries/curbqueries/admission/OverloadLimits", "equals", "(Ljava/lang/Object;)Z"⟩ : MethodName) prog_28_method_4_code 2 (some .boolean) :: ws) ({ frames := 0, cells := 0, slots := 0, locals := 0 } : Room)) (fun aa UU => aa = #[(.ref a), (.ref b)] ∧ Z.Warmed39 UU.vm ∧ UU.heap = h0) (fun _ _ _ _ _ => True) (fun _ UU oo UU' => ∃ vv LL, oo = .returned vv ∧ own_rmEx_Q Z a b h0 n0 vv UU'.heap LL ∧ FrameEnd UU oo UU' LL ({ frames := 0, cells := 0, slots := 0, locals := 0 } : Room).cells ({ frames := 0, cells := 0, slots := 0, locals := 0 } : Room).slots) := by
  refine MetFree.of_bodySF (plainFor_of_name own_pn_6) hisR ?_
  intro p e s m args below meth cc s₁ Bd hml0 hP hK
  obtain ⟨rfl, hZ, hh⟩ := hP
  have hx := Bd.exec
  have hby := Bd.bytes
  have hml : cc.maxLocals = 2 := hml0
  have hown : s.vm.findClass "com/example/curb_queries/curbqueries/admission/OverloadLimits" = some m.cls := findClass_of_methodNamed Bd.named
  have hnm := (name_of_methodNamed Bd.named Bd.method).1
  have X0 : Stand p l e ({ frames := 0, cells := 0, slots := 0, locals := 0 } : Room) s m #[(.ref a), (.ref b)] below meth cc s₁ [] 0 0 := Stand.of_body Bd
  have e0 : s₁.heap = h0 := by rw [← hh, Bd.state]; rfl
  have N0 := Fr.nil n0
  have k0 : ∀ tt, Steps p.tables e below (s₁.setTop (mkF m 0 #[.val (.ref a), .val (.ref b)] [])) tt → Steps p.tables e below (s₁.setTop (entryFrame m #[(.ref a), (.ref b)] 2)) tt := fun tt kk => castTop (by first | (simp [entryFrame, mkF, argsToLocals, Value.category]; done) | rfl) kk
  obtain ⟨T1, X1, e1, st1⟩ := instN X0 hx hZ hown (hw _ (List.mem_of_getElem? (i := 34) rfl)) e0 (own_isnt hw (by rw [hh]; exact E_b)) (by rw [hh]; exact E_b) (g := (mkF m 1 #[.val (.ref a), .val (.ref b)] [(.ref b)])) rfl rfl (hb hby d6_1)
  have k2 : ∀ tt, Steps p.tables e below (T1.setTop (mkF m 42 #[.val (.ref a), .val (.ref b)] [(.int (0 : Int32))])) tt → Steps p.tables e below (s₁.setTop (entryFrame m #[(.ref a), (.ref b)] 2)) tt := by
    intro tt kk
    refine k0 tt ?_
    show Steps p.tables e below (s₁.setTop (mkF m 0 #[.val (.ref a), .val (.ref b)] [])) tt
    refine XS.aloadN X0.here hx rfl (hb hby d6_0) rfl rfl ?_
    show Steps p.tables e below (s₁.setTop (mkF m 1 #[.val (.ref a), .val (.ref b)] [(.ref b)])) tt
    refine st1 _ ?_
    show Steps p.tables e below (T1.setTop (mkF m 4 #[.val (.ref a), .val (.ref b)] [(.int (0 : Int32))])) tt
    refine XS.ifYes X1.here hx rfl (pc0 := 4) (pc' := 41) rfl (hb hby d6_4) rfl ((if0 _ _).trans (teq (by decide : (0 : Int32) = (0 : Int32))).1) (by decide) (by decide) ?_
    show Steps p.tables e below (T1.setTop (mkF m 41 #[.val (.ref a), .val (.ref b)] [])) tt
    refine XS.iconst X1.here hx rfl (hb hby d6_41) ?_
    exact kk
  obtain ⟨fs, hr, hrun, hended, hW, hsame⟩ := X1.leave (v := some (.int (0 : Int32))) (fun hq => by rw [Bd.returns] at hq; cases hq)
  refine ⟨_, _, k2 _ ?_, hrun, hended, _, _, rfl, ?_, ⟨_, rfl⟩, hW, hsame.mono (by decide) (by decide)⟩
  · show Steps p.tables e below (T1.setTop (mkF m 42 #[.val (.ref a), .val (.ref b)] [(.int (0 : Int32))])) _
    exact retN X1 hx (t := .boolean) Bd.returns (by simp) (hb hby d6_42) hr
  · show (fun (v : Option Value) (h : Heap) (L : List Loc) => v = some (.int (0 : Int32)) ∧ Fr n0 L ∧ h = h0) _ T1.heap _
    rw [e1]
    dsimp only
    exact ⟨rfl, N0, rfl⟩
theorem own_pn_0 : plainName "com/example/curb_queries/curbqueries/admission/OverloadLimitsEqualsPinLaw" = true := by first | (simp [plainName, overriddenIn]; done) | decide +kernel
theorem own_pd__J_J : parseMethodDescriptor "(J)J" = some ⟨[.long], some .long⟩ := by decide +kernel
theorem own_pd__JJ_V : parseMethodDescriptor "(JJ)V" = some ⟨[.long, .long], none⟩ := by decide +kernel
theorem own_pd__J_Ljava_lang_Long_ : parseMethodDescriptor "(J)Ljava/lang/Long;" = some ⟨[.long], some (.object "java/lang/Long")⟩ := by decide +kernel
theorem own_pd__Ljava_lang_Object__Z : parseMethodDescriptor "(Ljava/lang/Object;)Z" = some ⟨[(.object "java/lang/Object")], some .boolean⟩ := by decide +kernel
def own_rm0_Q (Z : State) (a1 : Int64) (c1 : Int64) (a2 : Int64) (c2 : Int64) (mode : Int32) (wC : Addr) (cC : Cell) (h0 : Heap) (n0 : Nat) (v : Option Value) (h : Heap) (L : List Loc) : Prop := v = some (.int (1 : Int32)) ∧ Fr n0 L
set_option maxRecDepth 65536 in
set_option maxHeartbeats 40000000 in
theorem own_rm0 (l : Launch) (Z : State) (a0 : Array Value) (hw : ∀ d ∈ tables_1, d.before a0 Z = true) (ws : List Jvm.Cond) (a1 : Int64) (c1 : Int64) (a2 : Int64) (c2 : Int64) (mode : Int32) (wC : Addr) (cC : Cell) (h0 : Heap) (n0 : Nat) (Z0 : n0 ≤ h0.size) (S_C : Sta Z h0 "java/lang/Long$LongCache" "cache" "[Ljava/lang/Long;" (.ref wC)) (A_C : Arr Z h0 wC cC (.object "java/lang/Long")) (z_C : cC.slots.size = 256) (h_C : ∀ i, i < 256 → ∃ b, cC.slots[i]? = some (.ref b) ∧ Exa Z h0 b "java/lang/Long") :
    MetFree l x (head1 (Jvm.Cond.code x code maxLocals ret :: ws) room_1) (fun aa UU => aa = #[(.long a1), (.long c1), (.long a2), (.long c2), (.int mode)] ∧ Z.Warmed39 UU.vm ∧ UU.heap = h0) (fun _ _ _ _ _ => True) (fun _ UU oo UU' => ∃ vv LL, oo = .returned vv ∧ own_rm0_Q Z a1 c1 a2 c2 mode wC cC h0 n0 vv UU'.heap LL ∧ FrameEnd UU oo UU' LL room_1.cells room_1.slots) := by
  refine MetFree.of_bodySF (plainFor_of_name own_pn_0) hisR ?_
  intro p e s m args below meth cc s₁ Bd hml0 hP hK
  obtain ⟨rfl, hZ, hh⟩ := hP
  have hx := Bd.exec
  have hby := Bd.bytes
  have hml : cc.maxLocals = 25 := hml0
  have hown : s.vm.findClass "com/example/curb_queries/curbqueries/admission/OverloadLimitsEqualsPinLaw" = some m.cls := findClass_of_methodNamed Bd.named
  have hnm := (name_of_methodNamed Bd.named Bd.method).1
  have X0 : Stand p l e room_1 s m #[(.long a1), (.long c1), (.long a2), (.long c2), (.int mode)] below meth cc s₁ [] 0 0 := Stand.of_body Bd
  have e0 : s₁.heap = h0 := by rw [← hh, Bd.state]; rfl
  have N0 := Fr.nil n0
  have k0 : ∀ tt, Steps p.tables e below (s₁.setTop (mkF m 0 #[.val (.long a1), .second, .val (.long c1), .second, .val (.long a2), .second, .val (.long c2), .second, .val (.int mode), .unset, .unset, .unset, .unset, .unset, .unset, .unset, .unset, .unset, .unset, .unset, .unset, .unset, .unset, .unset, .unset] [])) tt → Steps p.tables e below (s₁.setTop (entryFrame m #[(.long a1), (.long c1), (.long a2), (.long c2), (.int mode)] maxLocals)) tt := fun tt kk => castTop (by first | (simp [entryFrame, mkF, argsToLocals, Value.category, maxLocals]; done) | rfl) kk
  obtain ⟨_, _, ⟨T1, L1, ka1, na1⟩, -, X1, ⟨Lc1, hQ1, l1, y1, z1⟩, st1⟩ := Jvm.LawKit.callS X0 hx (y := (⟨"com/example/curb_queries/curbqueries/admission/OverloadLimitsEqualsPinLaw", "interval", "(J)J"⟩ : MethodName)) hown (mvT hZ (hw _ (List.mem_of_getElem? (i := 0) rfl))) (mvT hZ (hw _ (List.mem_of_getElem? (i := 1) rfl))) (mvT hZ (hw _ (List.mem_of_getElem? (i := 2) rfl))) (mvT hZ (hw _ (List.mem_of_getElem? (i := 3) rfl))) (by decide) (backOf (W := 0) (own_rmI l Z a0 hw [] a1 h0 n0 Z0) hZ (hw _ (List.mem_of_getElem? (i := 3) rfl)) (hw _ (List.mem_of_getElem? (i := 2) rfl)) (by decide) (by decide)) (g := (mkF m 1 #[.val (.long a1), .second, .val (.long c1), .second, .val (.long a2), .second, .val (.long c2), .second, .val (.int mode), .unset, .unset, .unset, .unset, .unset, .unset, .unset, .unset, .unset, .unset, .unset, .unset, .unset, .unset, .unset, .unset] [(.long a1)])) rfl (by rw [hml]; rfl) (argsL := [(.long a1)]) (rest := []) (lenOf own_pd__J_J rfl) rfl (by show 2 * 0 + _ ≤ _; exact Nat.le_of_eq rfl) (hb hby at_1) (fun _ _ => ⟨rfl, e0, (by decide : 0 + 0 ≤ _), (by decide : 0 + 0 ≤ _)⟩)
  dsimp only [Pt.U, Pt.locs, Pt.cells, Pt.slots] at X1 l1 y1 z1 st1 hQ1
  subst l1 y1 z1
  obtain ⟨rfl, Nq1, hh1⟩ := hQ1
  have N1 := Fr.app N0 Nq1
  obtain ⟨_, _, ⟨T2, L2, ka2, na2⟩, -, X2, ⟨Lc2, hQ2, l2, y2, z2⟩, st2⟩ := Jvm.LawKit.callS X1 hx (y := (⟨"com/example/curb_queries/curbqueries/admission/OverloadLimitsEqualsPinLaw", "target", "(J)J"⟩ : MethodName)) hown (mvT hZ (hw _ (List.mem_of_getElem? (i := 5) rfl))) (mvT hZ (hw _ (List.mem_of_getElem? (i := 6) rfl))) (mvT hZ (hw _ (List.mem_of_getElem? (i := 2) rfl))) (mvT hZ (hw _ (List.mem_of_getElem? (i := 7) rfl))) (by decide) (backOf (W := 0) (own_rmT l Z a0 hw [] c1 h0 n0 Z0) hZ (hw _ (List.mem_of_getElem? (i := 7) rfl)) (hw _ (List.mem_of_getElem? (i := 2) rfl)) (by decide) (by decide)) (g := (mkF m 7 #[.val (.long a1), .second, .val (.long c1), .second, .val (.long a2), .second, .val (.long c2), .second, .val (.int mode), .val (.long (own_iv a1)), .second, .unset, .unset, .unset, .unset, .unset, .unset, .unset, .unset, .unset, .unset, .unset, .unset, .unset, .unset] [(.long c1)])) rfl (by rw [hml]; rfl) (argsL := [(.long c1)]) (rest := []) (lenOf own_pd__J_J rfl) rfl (by show 2 * 0 + _ ≤ _; exact Nat.le_of_eq rfl) (hb hby at_7) (fun _ _ => ⟨rfl, hh1, (by decide : 0 + 0 ≤ _), (by decide : 0 + 0 ≤ _)⟩)
  dsimp only [Pt.U, Pt.locs, Pt.cells, Pt.slots] at X2 l2 y2 z2 st2 hQ2
  subst l2 y2 z2
  obtain ⟨rfl, Nq2, hh2⟩ := hQ2
  have N2 := Fr.app N1 Nq2
  have k4 : ∀ tt, Steps p.tables e below (T2.setTop (mkF m 12 #[.val (.long a1), .second, .val (.long c1), .second, .val (.long a2), .second, .val (.long c2), .second, .val (.int mode), .val (.long (own_iv a1)), .second, .val (.long (c1 &&& (9223372036854775807 : Int64))), .second, .unset, .unset, .unset, .unset, .unset, .unset, .unset, .unset, .unset, .unset, .unset, .unset] [])) tt → Steps p.tables e below (s₁.setTop (entryFrame m #[(.long a1), (.long c1), (.long a2), (.long c2), (.int mode)] maxLocals)) tt := by
    intro tt kk
    refine k0 tt ?_
    show Steps p.tables e below (s₁.setTop (mkF m 0 #[.val (.long a1), .second, .val (.long c1), .second, .val (.long a2), .second, .val (.long c2), .second, .val (.int mode), .unset, .unset, .unset, .unset, .unset, .unset, .unset, .unset, .unset, .unset, .unset, .unset, .unset, .unset, .unset, .unset] [])) tt
    refine XS.lloadN X0.here hx rfl (hb hby at_0) rfl ?_
    show Steps p.tables e below (s₁.setTop (mkF m 1 #[.val (.long a1), .second, .val (.long c1), .second, .val (.long a2), .second, .val (.long c2), .second, .val (.int mode), .unset, .unset, .unset, .unset, .unset, .unset, .unset, .unset, .unset, .unset, .unset, .unset, .unset, .unset, .unset, .unset] [(.long a1)])) tt
    refine st1 _ ?_
    show Steps p.tables e below (T1.setTop (mkF m 4 #[.val (.long a1), .second, .val (.long c1), .second, .val (.long a2), .second, .val (.long c2), .second, .val (.int mode), .unset, .unset, .unset, .unset, .unset, .unset, .unset, .unset, .unset, .unset, .unset, .unset, .unset, .unset, .unset, .unset] [(.long (own_iv a1))])) tt
    refine XS.lstore X1.here hx rfl (hb hby at_4) rfl (l' := #[.val (.long a1), .second, .val (.long c1), .second, .val (.long a2), .second, .val (.long c2), .second, .val (.int mode), .val (.long (own_iv a1)), .second, .unset, .unset, .unset, .unset, .unset, .unset, .unset, .unset, .unset, .unset, .unset, .unset, .unset, .unset]) rfl ?_
    show Steps p.tables e below (T1.setTop (mkF m 6 #[.val (.long a1), .second, .val (.long c1), .second, .val (.long a2), .second, .val (.long c2), .second, .val (.int mode), .val (.long (own_iv a1)), .second, .unset, .unset, .unset, .unset, .unset, .unset, .unset, .unset, .unset, .unset, .unset, .unset, .unset, .unset] [])) tt
    refine XS.lloadN X1.here hx rfl (hb hby at_6) rfl ?_
    show Steps p.tables e below (T1.setTop (mkF m 7 #[.val (.long a1), .second, .val (.long c1), .second, .val (.long a2), .second, .val (.long c2), .second, .val (.int mode), .val (.long (own_iv a1)), .second, .unset, .unset, .unset, .unset, .unset, .unset, .unset, .unset, .unset, .unset, .unset, .unset, .unset, .unset] [(.long c1)])) tt
    refine st2 _ ?_
    show Steps p.tables e below (T2.setTop (mkF m 10 #[.val (.long a1), .second, .val (.long c1), .second, .val (.long a2), .second, .val (.long c2), .second, .val (.int mode), .val (.long (own_iv a1)), .second, .unset, .unset, .unset, .unset, .unset, .unset, .unset, .unset, .unset, .unset, .unset, .unset, .unset, .unset] [(.long (c1 &&& (9223372036854775807 : Int64)))])) tt
    refine XS.lstore X2.here hx rfl (hb hby at_10) rfl (l' := #[.val (.long a1), .second, .val (.long c1), .second, .val (.long a2), .second, .val (.long c2), .second, .val (.int mode), .val (.long (own_iv a1)), .second, .val (.long (c1 &&& (9223372036854775807 : Int64))), .second, .unset, .unset, .unset, .unset, .unset, .unset, .unset, .unset, .unset, .unset, .unset, .unset]) rfl ?_
    exact kk
  refine cps (A := ∃ (i2 : Int64) (T : State) (locs : List Loc), Stand p l e room_1 s m #[(.long a1), (.long c1), (.long a2), (.long c2), (.int mode)] below meth cc T locs 0 0 ∧ T.heap = h0 ∧ Fr n0 locs ∧ (¬ i2 < (1 : Int64)) ∧ ∀ tt, Steps p.tables e below (T.setTop (mkF m 29 #[.val (.long a1), .second, .val (.long c1), .second, .val (.long a2), .second, .val (.long c2), .second, .val (.int mode), .val (.long (own_iv a1)), .second, .val (.long (c1 &&& (9223372036854775807 : Int64))), .second, .unset, .unset, .unset, .unset, .unset, .unset, .unset, .unset, .unset, .unset, .unset, .unset] [(.long i2)])) tt → Steps p.tables e below (s₁.setTop (entryFrame m #[(.long a1), (.long c1), (.long a2), (.long c2), (.int mode)] maxLocals)) tt) (fun kA => ?_) (fun hA => ?_)
  · have own_mark : True := trivial
    have k5 : ∀ tt, Steps p.tables e below (T2.setTop (mkF m 16 #[.val (.long a1), .second, .val (.long c1), .second, .val (.long a2), .second, .val (.long c2), .second, .val (.int mode), .val (.long (own_iv a1)), .second, .val (.long (c1 &&& (9223372036854775807 : Int64))), .second, .unset, .unset, .unset, .unset, .unset, .unset, .unset, .unset, .unset, .unset, .unset, .unset] [(.int (mode &&& (1 : Int32)))])) tt → Steps p.tables e below (s₁.setTop (entryFrame m #[(.long a1), (.long c1), (.long a2), (.long c2), (.int mode)] maxLocals)) tt := by
      intro tt kk
      refine k4 tt ?_
      show Steps p.tables e below (T2.setTop (mkF m 12 #[.val (.long a1), .second, .val (.long c1), .second, .val (.long a2), .second, .val (.long c2), .second, .val (.int mode), .val (.long (own_iv a1)), .second, .val (.long (c1 &&& (9223372036854775807 : Int64))), .second, .unset, .unset, .unset, .unset, .unset, .unset, .unset, .unset, .unset, .unset, .unset, .unset] [])) tt
      refine XS.iload X2.here hx rfl (hb hby at_12) rfl ?_
      show Steps p.tables e below (T2.setTop (mkF m 14 #[.val (.long a1), .second, .val (.long c1), .second, .val (.long a2), .second, .val (.long c2), .second, .val (.int mode), .val (.long (own_iv a1)), .second, .val (.long (c1 &&& (9223372036854775807 : Int64))), .second, .unset, .unset, .unset, .unset, .unset, .unset, .unset, .unset, .unset, .unset, .unset, .unset] [(.int mode)])) tt
      refine XS.iconst X2.here hx rfl (hb hby at_14) ?_
      show Steps p.tables e below (T2.setTop (mkF m 15 #[.val (.long a1), .second, .val (.long c1), .second, .val (.long a2), .second, .val (.long c2), .second, .val (.int mode), .val (.long (own_iv a1)), .second, .val (.long (c1 &&& (9223372036854775807 : Int64))), .second, .unset, .unset, .unset, .unset, .unset, .unset, .unset, .unset, .unset, .unset, .unset, .unset] [(.int (1 : Int32)), (.int mode)])) tt
      refine XS.iand X2.here hx rfl (hb hby at_15) rfl ?_
      exact kk
    by_cases c16_6 : (mode &&& (1 : Int32)) = (0 : Int32)
    · obtain ⟨_, _, ⟨T7, L7, ka7, na7⟩, -, X7, ⟨Lc7, hQ7, l7, y7, z7⟩, st7⟩ := Jvm.LawKit.callS X2 hx (y := (⟨"com/example/curb_queries/curbqueries/admission/OverloadLimitsEqualsPinLaw", "interval", "(J)J"⟩ : MethodName)) hown (mvT hZ (hw _ (List.mem_of_getElem? (i := 0) rfl))) (mvT hZ (hw _ (List.mem_of_getElem? (i := 1) rfl))) (mvT hZ (hw _ (List.mem_of_getElem? (i := 2) rfl))) (mvT hZ (hw _ (List.mem_of_getElem? (i := 3) rfl))) (by decide) (backOf (W := 0) (own_rmI l Z a0 hw [] a2 h0 n0 Z0) hZ (hw _ (List.mem_of_getElem? (i := 3) rfl)) (hw _ (List.mem_of_getElem? (i := 2) rfl)) (by decide) (by decide)) (g := (mkF m 26 #[.val (.long a1), .second, .val (.long c1), .second, .val (.long a2), .second, .val (.long c2), .second, .val (.int mode), .val (.long (own_iv a1)), .second, .val (.long (c1 &&& (9223372036854775807 : Int64))), .second, .unset, .unset, .unset, .unset, .unset, .unset, .unset, .unset, .unset, .unset, .unset, .unset] [(.long a2)])) rfl (by rw [hml]; rfl) (argsL := [(.long a2)]) (rest := []) (lenOf own_pd__J_J rfl) rfl (by show 2 * 0 + _ ≤ _; exact Nat.le_of_eq rfl) (hb hby at_26) (fun _ _ => ⟨rfl, hh2, (by decide : 0 + 0 ≤ _), (by decide : 0 + 0 ≤ _)⟩)
      dsimp only [Pt.U, Pt.locs, Pt.cells, Pt.slots] at X7 l7 y7 z7 st7 hQ7
      subst l7 y7 z7
      obtain ⟨rfl, Nq7, hh7⟩ := hQ7
      have N7 := Fr.app N2 Nq7
      have k8 : ∀ tt, Steps p.tables e below (T7.setTop (mkF m 29 #[.val (.long a1), .second, .val (.long c1), .second, .val (.long a2), .second, .val (.long c2), .second, .val (.int mode), .val (.long (own_iv a1)), .second, .val (.long (c1 &&& (9223372036854775807 : Int64))), .second, .unset, .unset, .unset, .unset, .unset, .unset, .unset, .unset, .unset, .unset, .unset, .unset] [(.long (own_iv a2))])) tt → Steps p.tables e below (s₁.setTop (entryFrame m #[(.long a1), (.long c1), (.long a2), (.long c2), (.int mode)] maxLocals)) tt := by
        intro tt kk
        refine k5 tt ?_
        show Steps p.tables e below (T2.setTop (mkF m 16 #[.val (.long a1), .second, .val (.long c1), .second, .val (.long a2), .second, .val (.long c2), .second, .val (.int mode), .val (.long (own_iv a1)), .second, .val (.long (c1 &&& (9223372036854775807 : Int64))), .second, .unset, .unset, .unset, .unset, .unset, .unset, .unset, .unset, .unset, .unset, .unset, .unset] [(.int (mode &&& (1 : Int32)))])) tt
        refine XS.ifYes X2.here hx rfl (pc0 := 16) (pc' := 24) rfl (hb hby at_16) rfl ((if0 _ _).trans (teq (c16_6 : (mode &&& (1 : Int32)) = (0 : Int32))).1) (by decide) (by decide) ?_
        show Steps p.tables e below (T2.setTop (mkF m 24 #[.val (.long a1), .second, .val (.long c1), .second, .val (.long a2), .second, .val (.long c2), .second, .val (.int mode), .val (.long (own_iv a1)), .second, .val (.long (c1 &&& (9223372036854775807 : Int64))), .second, .unset, .unset, .unset, .unset, .unset, .unset, .unset, .unset, .unset, .unset, .unset, .unset] [])) tt
        refine XS.lload X2.here hx rfl (hb hby at_24) rfl ?_
        show Steps p.tables e below (T2.setTop (mkF m 26 #[.val (.long a1), .second, .val (.long c1), .second, .val (.long a2), .second, .val (.long c2), .second, .val (.int mode), .val (.long (own_iv a1)), .second, .val (.long (c1 &&& (9223372036854775807 : Int64))), .second, .unset, .unset, .unset, .unset, .unset, .unset, .unset, .unset, .unset, .unset, .unset, .unset] [(.long a2)])) tt
        refine st7 _ ?_
        exact kk
      exact kA ⟨(own_iv a2), T7, _, X7, hh7, N7, own_iv_pos a2, k8⟩
    · have k9 : ∀ tt, Steps p.tables e below (T2.setTop (mkF m 29 #[.val (.long a1), .second, .val (.long c1), .second, .val (.long a2), .second, .val (.long c2), .second, .val (.int mode), .val (.long (own_iv a1)), .second, .val (.long (c1 &&& (9223372036854775807 : Int64))), .second, .unset, .unset, .unset, .unset, .unset, .unset, .unset, .unset, .unset, .unset, .unset, .unset] [(.long (own_iv a1))])) tt → Steps p.tables e below (s₁.setTop (entryFrame m #[(.long a1), (.long c1), (.long a2), (.long c2), (.int mode)] maxLocals)) tt := by
        intro tt kk
        refine k5 tt ?_
        show Steps p.tables e below (T2.setTop (mkF m 16 #[.val (.long a1), .second, .val (.long c1), .second, .val (.long a2), .second, .val (.long c2), .second, .val (.int mode), .val (.long (own_iv a1)), .second, .val (.long (c1 &&& (9223372036854775807 : Int64))), .second, .unset, .unset, .unset, .unset, .unset, .unset, .unset, .unset, .unset, .unset, .unset, .unset] [(.int (mode &&& (1 : Int32)))])) tt
        refine XS.ifNo X2.here hx rfl (hb hby at_16) rfl ((if0 _ _).trans (feq (c16_6 : ¬ ((mode &&& (1 : Int32)) = (0 : Int32)))).1) ?_
        show Steps p.tables e below (T2.setTop (mkF m 19 #[.val (.long a1), .second, .val (.long c1), .second, .val (.long a2), .second, .val (.long c2), .second, .val (.int mode), .val (.long (own_iv a1)), .second, .val (.long (c1 &&& (9223372036854775807 : Int64))), .second, .unset, .unset, .unset, .unset, .unset, .unset, .unset, .unset, .unset, .unset, .unset, .unset] [])) tt
        refine XS.lload X2.here hx rfl (hb hby at_19) rfl ?_
        show Steps p.tables e below (T2.setTop (mkF m 21 #[.val (.long a1), .second, .val (.long c1), .second, .val (.long a2), .second, .val (.long c2), .second, .val (.int mode), .val (.long (own_iv a1)), .second, .val (.long (c1 &&& (9223372036854775807 : Int64))), .second, .unset, .unset, .unset, .unset, .unset, .unset, .unset, .unset, .unset, .unset, .unset, .unset] [(.long (own_iv a1))])) tt
        refine XS.goto X2.here hx rfl (pc0 := 21) (pc' := 29) rfl (hb hby at_21) (by decide) (by decide) ?_
        exact kk
      exact kA ⟨(own_iv a1), T2, _, X2, hh2, N2, own_iv_pos a1, k9⟩
  · obtain ⟨i2, T3, locs3, X3, e3, N3, hx3_0, k3⟩ := hA
    have k11 : ∀ tt, Steps p.tables e below (T3.setTop (mkF m 31 #[.val (.long a1), .second, .val (.long c1), .second, .val (.long a2), .second, .val (.long c2), .second, .val (.int mode), .val (.long (own_iv a1)), .second, .val (.long (c1 &&& (9223372036854775807 : Int64))), .second, .val (.long i2), .second, .unset, .unset, .unset, .unset, .unset, .unset, .unset, .unset, .unset, .unset] [])) tt → Steps p.tables e below (s₁.setTop (entryFrame m #[(.long a1), (.long c1), (.long a2), (.long c2), (.int mode)] maxLocals)) tt := by
      intro tt kk
      refine k3 tt ?_
      show Steps p.tables e below (T3.setTop (mkF m 29 #[.val (.long a1), .second, .val (.long c1), .second, .val (.long a2), .second, .val (.long c2), .second, .val (.int mode), .val (.long (own_iv a1)), .second, .val (.long (c1 &&& (9223372036854775807 : Int64))), .second, .unset, .unset, .unset, .unset, .unset, .unset, .unset, .unset, .unset, .unset, .unset, .unset] [(.long i2)])) tt
      refine XS.lstore X3.here hx rfl (hb hby at_29) rfl (l' := #[.val (.long a1), .second, .val (.long c1), .second, .val (.long a2), .second, .val (.long c2), .second, .val (.int mode), .val (.long (own_iv a1)), .second, .val (.long (c1 &&& (9223372036854775807 : Int64))), .second, .val (.long i2), .second, .unset, .unset, .unset, .unset, .unset, .unset, .unset, .unset, .unset, .unset]) rfl ?_
      exact kk
    refine cps (A := ∃ (t2 : Int64) (T : State) (locs : List Loc), Stand p l e room_1 s m #[(.long a1), (.long c1), (.long a2), (.long c2), (.int mode)] below meth cc T locs 0 0 ∧ T.heap = h0 ∧ Fr n0 locs ∧ (¬ t2 < (0 : Int64)) ∧ ∀ tt, Steps p.tables e below (T.setTop (mkF m 48 #[.val (.long a1), .second, .val (.long c1), .second, .val (.long a2), .second, .val (.long c2), .second, .val (.int mode), .val (.long (own_iv a1)), .second, .val (.long (c1 &&& (9223372036854775807 : Int64))), .second, .val (.long i2), .second, .unset, .unset, .unset, .unset, .unset, .unset, .unset, .unset, .unset, .unset] [(.long t2)])) tt → Steps p.tables e below (s₁.setTop (entryFrame m #[(.long a1), (.long c1), (.long a2), (.long c2), (.int mode)] maxLocals)) tt) (fun kA => ?_) (fun hA => ?_)
    · have own_mark : True := trivial
      have k12 : ∀ tt, Steps p.tables e below (T3.setTop (mkF m 35 #[.val (.long a1), .second, .val (.long c1), .second, .val (.long a2), .second, .val (.long c2), .second, .val (.int mode), .val (.long (own_iv a1)), .second, .val (.long (c1 &&& (9223372036854775807 : Int64))), .second, .val (.long i2), .second, .unset, .unset, .unset, .unset, .unset, .unset, .unset, .unset, .unset, .unset] [(.int (mode &&& (2 : Int32)))])) tt → Steps p.tables e below (s₁.setTop (entryFrame m #[(.long a1), (.long c1), (.long a2), (.long c2), (.int mode)] maxLocals)) tt := by
        intro tt kk
        refine k11 tt ?_
        show Steps p.tables e below (T3.setTop (mkF m 31 #[.val (.long a1), .second, .val (.long c1), .second, .val (.long a2), .second, .val (.long c2), .second, .val (.int mode), .val (.long (own_iv a1)), .second, .val (.long (c1 &&& (9223372036854775807 : Int64))), .second, .val (.long i2), .second, .unset, .unset, .unset, .unset, .unset, .unset, .unset, .unset, .unset, .unset] [])) tt
        refine XS.iload X3.here hx rfl (hb hby at_31) rfl ?_
        show Steps p.tables e below (T3.setTop (mkF m 33 #[.val (.long a1), .second, .val (.long c1), .second, .val (.long a2), .second, .val (.long c2), .second, .val (.int mode), .val (.long (own_iv a1)), .second, .val (.long (c1 &&& (9223372036854775807 : Int64))), .second, .val (.long i2), .second, .unset, .unset, .unset, .unset, .unset, .unset, .unset, .unset, .unset, .unset] [(.int mode)])) tt
        refine XS.iconst X3.here hx rfl (hb hby at_33) ?_
        show Steps p.tables e below (T3.setTop (mkF m 34 #[.val (.long a1), .second, .val (.long c1), .second, .val (.long a2), .second, .val (.long c2), .second, .val (.int mode), .val (.long (own_iv a1)), .second, .val (.long (c1 &&& (9223372036854775807 : Int64))), .second, .val (.long i2), .second, .unset, .unset, .unset, .unset, .unset, .unset, .unset, .unset, .unset, .unset] [(.int (2 : Int32)), (.int mode)])) tt
        refine XS.iand X3.here hx rfl (hb hby at_34) rfl ?_
        exact kk
      by_cases c35_13 : (mode &&& (2 : Int32)) = (0 : Int32)
      · obtain ⟨_, _, ⟨T14, L14, ka14, na14⟩, -, X14, ⟨Lc14, hQ14, l14, y14, z14⟩, st14⟩ := Jvm.LawKit.callS X3 hx (y := (⟨"com/example/curb_queries/curbqueries/admission/OverloadLimitsEqualsPinLaw", "target", "(J)J"⟩ : MethodName)) hown (mvT hZ (hw _ (List.mem_of_getElem? (i := 5) rfl))) (mvT hZ (hw _ (List.mem_of_getElem? (i := 6) rfl))) (mvT hZ (hw _ (List.mem_of_getElem? (i := 2) rfl))) (mvT hZ (hw _ (List.mem_of_getElem? (i := 7) rfl))) (by decide) (backOf (W := 0) (own_rmT l Z a0 hw [] c2 h0 n0 Z0) hZ (hw _ (List.mem_of_getElem? (i := 7) rfl)) (hw _ (List.mem_of_getElem? (i := 2) rfl)) (by decide) (by decide)) (g := (mkF m 45 #[.val (.long a1), .second, .val (.long c1), .second, .val (.long a2), .second, .val (.long c2), .second, .val (.int mode), .val (.long (own_iv a1)), .second, .val (.long (c1 &&& (9223372036854775807 : Int64))), .second, .val (.long i2), .second, .unset, .unset, .unset, .unset, .unset, .unset, .unset, .unset, .unset, .unset] [(.long c2)])) rfl (by rw [hml]; rfl) (argsL := [(.long c2)]) (rest := []) (lenOf own_pd__J_J rfl) rfl (by show 2 * 0 + _ ≤ _; exact Nat.le_of_eq rfl) (hb hby at_45) (fun _ _ => ⟨rfl, e3, (by decide : 0 + 0 ≤ _), (by decide : 0 + 0 ≤ _)⟩)
        dsimp only [Pt.U, Pt.locs, Pt.cells, Pt.slots] at X14 l14 y14 z14 st14 hQ14
        subst l14 y14 z14
        obtain ⟨rfl, Nq14, hh14⟩ := hQ14
        have N14 := Fr.app N3 Nq14
        have k15 : ∀ tt, Steps p.tables e below (T14.setTop (mkF m 48 #[.val (.long a1), .second, .val (.long c1), .second, .val (.long a2), .second, .val (.long c2), .second, .val (.int mode), .val (.long (own_iv a1)), .second, .val (.long (c1 &&& (9223372036854775807 : Int64))), .second, .val (.long i2), .second, .unset, .unset, .unset, .unset, .unset, .unset, .unset, .unset, .unset, .unset] [(.long (c2 &&& (9223372036854775807 : Int64)))])) tt → Steps p.tables e below (s₁.setTop (entryFrame m #[(.long a1), (.long c1), (.long a2), (.long c2), (.int mode)] maxLocals)) tt := by
          intro tt kk
          refine k12 tt ?_
          show Steps p.tables e below (T3.setTop (mkF m 35 #[.val (.long a1), .second, .val (.long c1), .second, .val (.long a2), .second, .val (.long c2), .second, .val (.int mode), .val (.long (own_iv a1)), .second, .val (.long (c1 &&& (9223372036854775807 : Int64))), .second, .val (.long i2), .second, .unset, .unset, .unset, .unset, .unset, .unset, .unset, .unset, .unset, .unset] [(.int (mode &&& (2 : Int32)))])) tt
          refine XS.ifYes X3.here hx rfl (pc0 := 35) (pc' := 43) rfl (hb hby at_35) rfl ((if0 _ _).trans (teq (c35_13 : (mode &&& (2 : Int32)) = (0 : Int32))).1) (by decide) (by decide) ?_
          show Steps p.tables e below (T3.setTop (mkF m 43 #[.val (.long a1), .second, .val (.long c1), .second, .val (.long a2), .second, .val (.long c2), .second, .val (.int mode), .val (.long (own_iv a1)), .second, .val (.long (c1 &&& (9223372036854775807 : Int64))), .second, .val (.long i2), .second, .unset, .unset, .unset, .unset, .unset, .unset, .unset, .unset, .unset, .unset] [])) tt
          refine XS.lload X3.here hx rfl (hb hby at_43) rfl ?_
          show Steps p.tables e below (T3.setTop (mkF m 45 #[.val (.long a1), .second, .val (.long c1), .second, .val (.long a2), .second, .val (.long c2), .second, .val (.int mode), .val (.long (own_iv a1)), .second, .val (.long (c1 &&& (9223372036854775807 : Int64))), .second, .val (.long i2), .second, .unset, .unset, .unset, .unset, .unset, .unset, .unset, .unset, .unset, .unset] [(.long c2)])) tt
          refine st14 _ ?_
          exact kk
        exact kA ⟨(c2 &&& (9223372036854775807 : Int64)), T14, _, X14, hh14, N14, own_tg c2, k15⟩
      · have k16 : ∀ tt, Steps p.tables e below (T3.setTop (mkF m 48 #[.val (.long a1), .second, .val (.long c1), .second, .val (.long a2), .second, .val (.long c2), .second, .val (.int mode), .val (.long (own_iv a1)), .second, .val (.long (c1 &&& (9223372036854775807 : Int64))), .second, .val (.long i2), .second, .unset, .unset, .unset, .unset, .unset, .unset, .unset, .unset, .unset, .unset] [(.long (c1 &&& (9223372036854775807 : Int64)))])) tt → Steps p.tables e below (s₁.setTop (entryFrame m #[(.long a1), (.long c1), (.long a2), (.long c2), (.int mode)] maxLocals)) tt := by
          intro tt kk
          refine k12 tt ?_
          show Steps p.tables e below (T3.setTop (mkF m 35 #[.val (.long a1), .second, .val (.long c1), .second, .val (.long a2), .second, .val (.long c2), .second, .val (.int mode), .val (.long (own_iv a1)), .second, .val (.long (c1 &&& (9223372036854775807 : Int64))), .second, .val (.long i2), .second, .unset, .unset, .unset, .unset, .unset, .unset, .unset, .unset, .unset, .unset] [(.int (mode &&& (2 : Int32)))])) tt
          refine XS.ifNo X3.here hx rfl (hb hby at_35) rfl ((if0 _ _).trans (feq (c35_13 : ¬ ((mode &&& (2 : Int32)) = (0 : Int32)))).1) ?_
          show Steps p.tables e below (T3.setTop (mkF m 38 #[.val (.long a1), .second, .val (.long c1), .second, .val (.long a2), .second, .val (.long c2), .second, .val (.int mode), .val (.long (own_iv a1)), .second, .val (.long (c1 &&& (9223372036854775807 : Int64))), .second, .val (.long i2), .second, .unset, .unset, .unset, .unset, .unset, .unset, .unset, .unset, .unset, .unset] [])) tt
          refine XS.lload X3.here hx rfl (hb hby at_38) rfl ?_
          show Steps p.tables e below (T3.setTop (mkF m 40 #[.val (.long a1), .second, .val (.long c1), .second, .val (.long a2), .second, .val (.long c2), .second, .val (.int mode), .val (.long (own_iv a1)), .second, .val (.long (c1 &&& (9223372036854775807 : Int64))), .second, .val (.long i2), .second, .unset, .unset, .unset, .unset, .unset, .unset, .unset, .unset, .unset, .unset] [(.long (c1 &&& (9223372036854775807 : Int64)))])) tt
          refine XS.goto X3.here hx rfl (pc0 := 40) (pc' := 48) rfl (hb hby at_40) (by decide) (by decide) ?_
          exact kk
        exact kA ⟨(c1 &&& (9223372036854775807 : Int64)), T3, _, X3, e3, N3, own_tg c1, k16⟩
    · obtain ⟨t2, T10, locs10, X10, e10, N10, hx10_0, k10⟩ := hA
      obtain ⟨T17, h17, X17, e17, E17, A17, D17, -, st17⟩ := newO X10 hx hZ hown (hw _ (List.mem_of_getElem? (i := 8) rfl)) (hw _ (List.mem_of_getElem? (i := 9) rfl)) (hw _ (List.mem_of_getElem? (i := 10) rfl)) e10 (g := (mkF m 50 #[.val (.long a1), .second, .val (.long c1), .second, .val (.long a2), .second, .val (.long c2), .second, .val (.int mode), .val (.long (own_iv a1)), .second, .val (.long (c1 &&& (9223372036854775807 : Int64))), .second, .val (.long i2), .second, .val (.long t2), .second, .unset, .unset, .unset, .unset, .unset, .unset, .unset, .unset] [])) rfl (hb hby at_50) (by decide) (by decide)
      obtain ⟨b17, g17⟩ : ∃ z, z = h0.size := ⟨_, rfl⟩
      rw [← g17] at A17 D17 st17
      have g_b17 : n0 ≤ b17 := Nat.le_trans Z0 (Nat.le_of_eq g17.symm)
      have sz_b17 : h0.size ≤ b17 := Nat.le_trans (Keep.refl h0 []).1 (Nat.le_of_eq g17.symm)
      have Z17 : n0 ≤ h17.size := Nat.le_trans Z0 E17.1
      have K17 := Keep.ext (Keep.refl h0 []) E17
      have F17_intervalMs : Fld Z h17 b17 "com/example/curb_queries/curbqueries/admission/OverloadLimits" "intervalMs" "J" (.long (0 : Int64)) := D17 (Or.inr (hw _ (List.mem_of_getElem? (i := 18) rfl))) (ty := .long) (by decide)
      have F17_targetMs : Fld Z h17 b17 "com/example/curb_queries/curbqueries/admission/OverloadLimits" "targetMs" "J" (.long (0 : Int64)) := D17 (Or.inr (hw _ (List.mem_of_getElem? (i := 20) rfl))) (ty := .long) (by decide)
      obtain ⟨_, _, ⟨T18, L18, ka18, na18⟩, -, X18, ⟨Lc18, hQ18, l18, y18, z18⟩, st18⟩ := X17.specialBack hx (y := (⟨"com/example/curb_queries/curbqueries/admission/OverloadLimits", "<init>", "(JJ)V"⟩ : MethodName)) rfl hown (mvT hZ (hw _ (List.mem_of_getElem? (i := 11) rfl))) (mvT hZ (hw _ (List.mem_of_getElem? (i := 12) rfl))) (mvT hZ (hw _ (List.mem_of_getElem? (i := 13) rfl))) (by decide) (backOf (W := 1) (own_rmC l Z a0 hw [] b17 (own_iv a1) (c1 &&& (9223372036854775807 : Int64)) _ _ h17 n0 Z17 A17 F17_intervalMs F17_targetMs g_b17 (own_iv_pos a1) (own_tg c1)) hZ (hw _ (List.mem_of_getElem? (i := 13) rfl)) (hw _ (List.mem_of_getElem? (i := 10) rfl)) (by decide) (by decide)) (g := (mkF m 58 #[.val (.long a1), .second, .val (.long c1), .second, .val (.long a2), .second, .val (.long c2), .second, .val (.int mode), .val (.long (own_iv a1)), .second, .val (.long (c1 &&& (9223372036854775807 : Int64))), .second, .val (.long i2), .second, .val (.long t2), .second, .unset, .unset, .unset, .unset, .unset, .unset, .unset, .unset] [(.long (c1 &&& (9223372036854775807 : Int64))), (.long (own_iv a1)), (.ref b17), (.ref b17)])) rfl (by rw [hml]; rfl) (Steps.refl _) (a := b17) (argsL := [(.long (own_iv a1)), (.long (c1 &&& (9223372036854775807 : Int64)))]) (rest := [(.ref b17)]) (lenOf own_pd__JJ_V rfl) rfl (by show 2 * 0 + _ ≤ _; exact Nat.le_of_eq rfl) (hb hby at_58) (fun _ _ => ⟨rfl, e17, (by decide : 1 + 0 ≤ _), (by decide : 2 + 0 ≤ _)⟩)
      dsimp only [Pt.U, Pt.locs, Pt.cells, Pt.slots] at X18 l18 y18 z18 st18 hQ18
      subst l18 y18 z18
      obtain ⟨rfl, Nq18, K18, Fa18, Fb18⟩ := hQ18
      have N18 := Fr.app N10 Nq18
      have Z18 : n0 ≤ T18.heap.size := Nat.le_trans Z17 K18.1
      have Kt18 := Keep.trans K17 K18 (allS (Or.inr sz_b17) all0)
      obtain ⟨T19, h19, X19, e19, E19, A19, D19, -, st19⟩ := newO X18 hx hZ hown (hw _ (List.mem_of_getElem? (i := 8) rfl)) (hw _ (List.mem_of_getElem? (i := 9) rfl)) (hw _ (List.mem_of_getElem? (i := 10) rfl)) rfl (g := (mkF m 63 #[.val (.long a1), .second, .val (.long c1), .second, .val (.long a2), .second, .val (.long c2), .second, .val (.int mode), .val (.long (own_iv a1)), .second, .val (.long (c1 &&& (9223372036854775807 : Int64))), .second, .val (.long i2), .second, .val (.long t2), .second, .val (.ref b17), .unset, .unset, .unset, .unset, .unset, .unset, .unset] [])) rfl (hb hby at_63) (by decide) (by decide)
      obtain ⟨b19, g19⟩ : ∃ z, z = T18.heap.size := ⟨_, rfl⟩
      rw [← g19] at A19 D19 st19
      have g_b19 : n0 ≤ b19 := Nat.le_trans Z18 (Nat.le_of_eq g19.symm)
      have sz_b19 : h0.size ≤ b19 := Nat.le_trans Kt18.1 (Nat.le_of_eq g19.symm)
      have Z19 : n0 ≤ h19.size := Nat.le_trans Z18 E19.1
      have K19 := Keep.ext Kt18 E19
      have F19_intervalMs : Fld Z h19 b19 "com/example/curb_queries/curbqueries/admission/OverloadLimits" "intervalMs" "J" (.long (0 : Int64)) := D19 (Or.inr (hw _ (List.mem_of_getElem? (i := 18) rfl))) (ty := .long) (by decide)
      have F19_targetMs : Fld Z h19 b19 "com/example/curb_queries/curbqueries/admission/OverloadLimits" "targetMs" "J" (.long (0 : Int64)) := D19 (Or.inr (hw _ (List.mem_of_getElem? (i := 20) rfl))) (ty := .long) (by decide)
      obtain ⟨_, _, ⟨T20, L20, ka20, na20⟩, -, X20, ⟨Lc20, hQ20, l20, y20, z20⟩, st20⟩ := X19.specialBack hx (y := (⟨"com/example/curb_queries/curbqueries/admission/OverloadLimits", "<init>", "(JJ)V"⟩ : MethodName)) rfl hown (mvT hZ (hw _ (List.mem_of_getElem? (i := 11) rfl))) (mvT hZ (hw _ (List.mem_of_getElem? (i := 12) rfl))) (mvT hZ (hw _ (List.mem_of_getElem? (i := 13) rfl))) (by decide) (backOf (W := 1) (own_rmC l Z a0 hw [] b19 i2 t2 _ _ h19 n0 Z19 A19 F19_intervalMs F19_targetMs g_b19 hx3_0 hx10_0) hZ (hw _ (List.mem_of_getElem? (i := 13) rfl)) (hw _ (List.mem_of_getElem? (i := 10) rfl)) (by decide) (by decide)) (g := (mkF m 71 #[.val (.long a1), .second, .val (.long c1), .second, .val (.long a2), .second, .val (.long c2), .second, .val (.int mode), .val (.long (own_iv a1)), .second, .val (.long (c1 &&& (9223372036854775807 : Int64))), .second, .val (.long i2), .second, .val (.long t2), .second, .val (.ref b17), .unset, .unset, .unset, .unset, .unset, .unset, .unset] [(.long t2), (.long i2), (.ref b19), (.ref b19)])) rfl (by rw [hml]; rfl) (Steps.refl _) (a := b19) (argsL := [(.long i2), (.long t2)]) (rest := [(.ref b19)]) (lenOf own_pd__JJ_V rfl) rfl (by show 2 * 0 + _ ≤ _; exact Nat.le_of_eq rfl) (hb hby at_71) (fun _ _ => ⟨rfl, e19, (by decide : 2 + 0 ≤ _), (by decide : 4 + 0 ≤ _)⟩)
      dsimp only [Pt.U, Pt.locs, Pt.cells, Pt.slots] at X20 l20 y20 z20 st20 hQ20
      subst l20 y20 z20
      obtain ⟨rfl, Nq20, K20, Fa20, Fb20⟩ := hQ20
      have N20 := Fr.app N18 Nq20
      have Z20 : n0 ≤ T20.heap.size := Nat.le_trans Z19 K20.1
      have Kt20 := Keep.trans K19 K20 (allS (Or.inr sz_b19) all0)
      have k21 : ∀ tt, Steps p.tables e below (T20.setTop (mkF m 76 #[.val (.long a1), .second, .val (.long c1), .second, .val (.long a2), .second, .val (.long c2), .second, .val (.int mode), .val (.long (own_iv a1)), .second, .val (.long (c1 &&& (9223372036854775807 : Int64))), .second, .val (.long i2), .second, .val (.long t2), .second, .val (.ref b17), .val (.ref b19), .unset, .unset, .unset, .unset, .unset, .unset] [])) tt → Steps p.tables e below (s₁.setTop (entryFrame m #[(.long a1), (.long c1), (.long a2), (.long c2), (.int mode)] maxLocals)) tt := by
        intro tt kk
        refine k10 tt ?_
        show Steps p.tables e below (T10.setTop (mkF m 48 #[.val (.long a1), .second, .val (.long c1), .second, .val (.long a2), .second, .val (.long c2), .second, .val (.int mode), .val (.long (own_iv a1)), .second, .val (.long (c1 &&& (9223372036854775807 : Int64))), .second, .val (.long i2), .second, .unset, .unset, .unset, .unset, .unset, .unset, .unset, .unset, .unset, .unset] [(.long t2)])) tt
        refine XS.lstore X10.here hx rfl (hb hby at_48) rfl (l' := #[.val (.long a1), .second, .val (.long c1), .second, .val (.long a2), .second, .val (.long c2), .second, .val (.int mode), .val (.long (own_iv a1)), .second, .val (.long (c1 &&& (9223372036854775807 : Int64))), .second, .val (.long i2), .second, .val (.long t2), .second, .unset, .unset, .unset, .unset, .unset, .unset, .unset, .unset]) rfl ?_
        show Steps p.tables e below (T10.setTop (mkF m 50 #[.val (.long a1), .second, .val (.long c1), .second, .val (.long a2), .second, .val (.long c2), .second, .val (.int mode), .val (.long (own_iv a1)), .second, .val (.long (c1 &&& (9223372036854775807 : Int64))), .second, .val (.long i2), .second, .val (.long t2), .second, .unset, .unset, .unset, .unset, .unset, .unset, .unset, .unset] [])) tt
        refine st17 _ ?_
        show Steps p.tables e below (T17.setTop (mkF m 53 #[.val (.long a1), .second, .val (.long c1), .second, .val (.long a2), .second, .val (.long c2), .second, .val (.int mode), .val (.long (own_iv a1)), .second, .val (.long (c1 &&& (9223372036854775807 : Int64))), .second, .val (.long i2), .second, .val (.long t2), .second, .unset, .unset, .unset, .unset, .unset, .unset, .unset, .unset] [(.ref b17)])) tt
        refine XS.dup X17.here hx rfl (hb hby at_53) rfl rfl ?_
        show Steps p.tables e below (T17.setTop (mkF m 54 #[.val (.long a1), .second, .val (.long c1), .second, .val (.long a2), .second, .val (.long c2), .second, .val (.int mode), .val (.long (own_iv a1)), .second, .val (.long (c1 &&& (9223372036854775807 : Int64))), .second, .val (.long i2), .second, .val (.long t2), .second, .unset, .unset, .unset, .unset, .unset, .unset, .unset, .unset] [(.ref b17), (.ref b17)])) tt
        refine XS.lload X17.here hx rfl (hb hby at_54) rfl ?_
        show Steps p.tables e below (T17.setTop (mkF m 56 #[.val (.long a1), .second, .val (.long c1), .second, .val (.long a2), .second, .val (.long c2), .second, .val (.int mode), .val (.long (own_iv a1)), .second, .val (.long (c1 &&& (9223372036854775807 : Int64))), .second, .val (.long i2), .second, .val (.long t2), .second, .unset, .unset, .unset, .unset, .unset, .unset, .unset, .unset] [(.long (own_iv a1)), (.ref b17), (.ref b17)])) tt
        refine XS.lload X17.here hx rfl (hb hby at_56) rfl ?_
        show Steps p.tables e below (T17.setTop (mkF m 58 #[.val (.long a1), .second, .val (.long c1), .second, .val (.long a2), .second, .val (.long c2), .second, .val (.int mode), .val (.long (own_iv a1)), .second, .val (.long (c1 &&& (9223372036854775807 : Int64))), .second, .val (.long i2), .second, .val (.long t2), .second, .unset, .unset, .unset, .unset, .unset, .unset, .unset, .unset] [(.long (c1 &&& (9223372036854775807 : Int64))), (.long (own_iv a1)), (.ref b17), (.ref b17)])) tt
        refine st18.trans ?_
        show Steps p.tables e below (T18.setTop (mkF m 61 #[.val (.long a1), .second, .val (.long c1), .second, .val (.long a2), .second, .val (.long c2), .second, .val (.int mode), .val (.long (own_iv a1)), .second, .val (.long (c1 &&& (9223372036854775807 : Int64))), .second, .val (.long i2), .second, .val (.long t2), .second, .unset, .unset, .unset, .unset, .unset, .unset, .unset, .unset] [(.ref b17)])) tt
        refine XS.astore X18.here hx rfl (hb hby at_61) rfl rfl (l' := #[.val (.long a1), .second, .val (.long c1), .second, .val (.long a2), .second, .val (.long c2), .second, .val (.int mode), .val (.long (own_iv a1)), .second, .val (.long (c1 &&& (9223372036854775807 : Int64))), .second, .val (.long i2), .second, .val (.long t2), .second, .val (.ref b17), .unset, .unset, .unset, .unset, .unset, .unset, .unset]) rfl ?_
        show Steps p.tables e below (T18.setTop (mkF m 63 #[.val (.long a1), .second, .val (.long c1), .second, .val (.long a2), .second, .val (.long c2), .second, .val (.int mode), .val (.long (own_iv a1)), .second, .val (.long (c1 &&& (9223372036854775807 : Int64))), .second, .val (.long i2), .second, .val (.long t2), .second, .val (.ref b17), .unset, .unset, .unset, .unset, .unset, .unset, .unset] [])) tt
        refine st19 _ ?_
        show Steps p.tables e below (T19.setTop (mkF m 66 #[.val (.long a1), .second, .val (.long c1), .second, .val (.long a2), .second, .val (.long c2), .second, .val (.int mode), .val (.long (own_iv a1)), .second, .val (.long (c1 &&& (9223372036854775807 : Int64))), .second, .val (.long i2), .second, .val (.long t2), .second, .val (.ref b17), .unset, .unset, .unset, .unset, .unset, .unset, .unset] [(.ref b19)])) tt
        refine XS.dup X19.here hx rfl (hb hby at_66) rfl rfl ?_
        show Steps p.tables e below (T19.setTop (mkF m 67 #[.val (.long a1), .second, .val (.long c1), .second, .val (.long a2), .second, .val (.long c2), .second, .val (.int mode), .val (.long (own_iv a1)), .second, .val (.long (c1 &&& (9223372036854775807 : Int64))), .second, .val (.long i2), .second, .val (.long t2), .second, .val (.ref b17), .unset, .unset, .unset, .unset, .unset, .unset, .unset] [(.ref b19), (.ref b19)])) tt
        refine XS.lload X19.here hx rfl (hb hby at_67) rfl ?_
        show Steps p.tables e below (T19.setTop (mkF m 69 #[.val (.long a1), .second, .val (.long c1), .second, .val (.long a2), .second, .val (.long c2), .second, .val (.int mode), .val (.long (own_iv a1)), .second, .val (.long (c1 &&& (9223372036854775807 : Int64))), .second, .val (.long i2), .second, .val (.long t2), .second, .val (.ref b17), .unset, .unset, .unset, .unset, .unset, .unset, .unset] [(.long i2), (.ref b19), (.ref b19)])) tt
        refine XS.lload X19.here hx rfl (hb hby at_69) rfl ?_
        show Steps p.tables e below (T19.setTop (mkF m 71 #[.val (.long a1), .second, .val (.long c1), .second, .val (.long a2), .second, .val (.long c2), .second, .val (.int mode), .val (.long (own_iv a1)), .second, .val (.long (c1 &&& (9223372036854775807 : Int64))), .second, .val (.long i2), .second, .val (.long t2), .second, .val (.ref b17), .unset, .unset, .unset, .unset, .unset, .unset, .unset] [(.long t2), (.long i2), (.ref b19), (.ref b19)])) tt
        refine st20.trans ?_
        show Steps p.tables e below (T20.setTop (mkF m 74 #[.val (.long a1), .second, .val (.long c1), .second, .val (.long a2), .second, .val (.long c2), .second, .val (.int mode), .val (.long (own_iv a1)), .second, .val (.long (c1 &&& (9223372036854775807 : Int64))), .second, .val (.long i2), .second, .val (.long t2), .second, .val (.ref b17), .unset, .unset, .unset, .unset, .unset, .unset, .unset] [(.ref b19)])) tt
        refine XS.astore X20.here hx rfl (hb hby at_74) rfl rfl (l' := #[.val (.long a1), .second, .val (.long c1), .second, .val (.long a2), .second, .val (.long c2), .second, .val (.int mode), .val (.long (own_iv a1)), .second, .val (.long (c1 &&& (9223372036854775807 : Int64))), .second, .val (.long i2), .second, .val (.long t2), .second, .val (.ref b17), .val (.ref b19), .unset, .unset, .unset, .unset, .unset, .unset]) rfl ?_
        exact kk
      have k22 : ∀ tt, Steps p.tables e below (T20.setTop (mkF m 97 #[.val (.long a1), .second, .val (.long c1), .second, .val (.long a2), .second, .val (.long c2), .second, .val (.int mode), .val (.long (own_iv a1)), .second, .val (.long (c1 &&& (9223372036854775807 : Int64))), .second, .val (.long i2), .second, .val (.long t2), .second, .val (.ref b17), .val (.ref b19), .unset, .unset, .unset, .unset, .unset, .unset] [(.int (own_eq (own_iv a1) (c1 &&& (9223372036854775807 : Int64)) i2 t2))])) tt → Steps p.tables e below (s₁.setTop (entryFrame m #[(.long a1), (.long c1), (.long a2), (.long c2), (.int mode)] maxLocals)) tt := by
        intro tt kk
        refine k21 tt ?_
        rcases (Decidable.em ((own_iv a1) = i2)) with q1 | q1
        rcases (Decidable.em ((c1 &&& (9223372036854775807 : Int64)) = t2)) with q2 | q2
        · rw [show own_eq (own_iv a1) (c1 &&& (9223372036854775807 : Int64)) i2 t2 = (1 : Int32) by simp [own_eq, q1, q2]] at kk
          show Steps p.tables e below (T20.setTop (mkF m 76 #[.val (.long a1), .second, .val (.long c1), .second, .val (.long a2), .second, .val (.long c2), .second, .val (.int mode), .val (.long (own_iv a1)), .second, .val (.long (c1 &&& (9223372036854775807 : Int64))), .second, .val (.long i2), .second, .val (.long t2), .second, .val (.ref b17), .val (.ref b19), .unset, .unset, .unset, .unset, .unset, .unset] [])) tt
          refine XS.lload X20.here hx rfl (hb hby at_76) rfl ?_
          show Steps p.tables e below (T20.setTop (mkF m 78 #[.val (.long a1), .second, .val (.long c1), .second, .val (.long a2), .second, .val (.long c2), .second, .val (.int mode), .val (.long (own_iv a1)), .second, .val (.long (c1 &&& (9223372036854775807 : Int64))), .second, .val (.long i2), .second, .val (.long t2), .second, .val (.ref b17), .val (.ref b19), .unset, .unset, .unset, .unset, .unset, .unset] [(.long (own_iv a1))])) tt
          refine XS.lload X20.here hx rfl (hb hby at_78) rfl ?_
          show Steps p.tables e below (T20.setTop (mkF m 80 #[.val (.long a1), .second, .val (.long c1), .second, .val (.long a2), .second, .val (.long c2), .second, .val (.int mode), .val (.long (own_iv a1)), .second, .val (.long (c1 &&& (9223372036854775807 : Int64))), .second, .val (.long i2), .second, .val (.long t2), .second, .val (.ref b17), .val (.ref b19), .unset, .unset, .unset, .unset, .unset, .unset] [(.long i2), (.long (own_iv a1))])) tt
          refine XS.lcmp X20.here hx rfl (hb hby at_80) rfl ?_
          show Steps p.tables e below (T20.setTop (mkF m 81 #[.val (.long a1), .second, .val (.long c1), .second, .val (.long a2), .second, .val (.long c2), .second, .val (.int mode), .val (.long (own_iv a1)), .second, .val (.long (c1 &&& (9223372036854775807 : Int64))), .second, .val (.long i2), .second, .val (.long t2), .second, .val (.ref b17), .val (.ref b19), .unset, .unset, .unset, .unset, .unset, .unset] [(.int (lcmpW (own_iv a1) i2))])) tt
          refine XS.ifNo X20.here hx rfl (hb hby at_81) rfl ((if0 _ _).trans (teq ((lw_eq _ _).mpr (q1) : (lcmpW (own_iv a1) i2) = (0 : Int32))).2) ?_
          show Steps p.tables e below (T20.setTop (mkF m 84 #[.val (.long a1), .second, .val (.long c1), .second, .val (.long a2), .second, .val (.long c2), .second, .val (.int mode), .val (.long (own_iv a1)), .second, .val (.long (c1 &&& (9223372036854775807 : Int64))), .second, .val (.long i2), .second, .val (.long t2), .second, .val (.ref b17), .val (.ref b19), .unset, .unset, .unset, .unset, .unset, .unset] [])) tt
          refine XS.lload X20.here hx rfl (hb hby at_84) rfl ?_
          show Steps p.tables e below (T20.setTop (mkF m 86 #[.val (.long a1), .second, .val (.long c1), .second, .val (.long a2), .second, .val (.long c2), .second, .val (.int mode), .val (.long (own_iv a1)), .second, .val (.long (c1 &&& (9223372036854775807 : Int64))), .second, .val (.long i2), .second, .val (.long t2), .second, .val (.ref b17), .val (.ref b19), .unset, .unset, .unset, .unset, .unset, .unset] [(.long (c1 &&& (9223372036854775807 : Int64)))])) tt
          refine XS.lload X20.here hx rfl (hb hby at_86) rfl ?_
          show Steps p.tables e below (T20.setTop (mkF m 88 #[.val (.long a1), .second, .val (.long c1), .second, .val (.long a2), .second, .val (.long c2), .second, .val (.int mode), .val (.long (own_iv a1)), .second, .val (.long (c1 &&& (9223372036854775807 : Int64))), .second, .val (.long i2), .second, .val (.long t2), .second, .val (.ref b17), .val (.ref b19), .unset, .unset, .unset, .unset, .unset, .unset] [(.long t2), (.long (c1 &&& (9223372036854775807 : Int64)))])) tt
          refine XS.lcmp X20.here hx rfl (hb hby at_88) rfl ?_
          show Steps p.tables e below (T20.setTop (mkF m 89 #[.val (.long a1), .second, .val (.long c1), .second, .val (.long a2), .second, .val (.long c2), .second, .val (.int mode), .val (.long (own_iv a1)), .second, .val (.long (c1 &&& (9223372036854775807 : Int64))), .second, .val (.long i2), .second, .val (.long t2), .second, .val (.ref b17), .val (.ref b19), .unset, .unset, .unset, .unset, .unset, .unset] [(.int (lcmpW (c1 &&& (9223372036854775807 : Int64)) t2))])) tt
          refine XS.ifNo X20.here hx rfl (hb hby at_89) rfl ((if0 _ _).trans (teq ((lw_eq _ _).mpr (q2) : (lcmpW (c1 &&& (9223372036854775807 : Int64)) t2) = (0 : Int32))).2) ?_
          show Steps p.tables e below (T20.setTop (mkF m 92 #[.val (.long a1), .second, .val (.long c1), .second, .val (.long a2), .second, .val (.long c2), .second, .val (.int mode), .val (.long (own_iv a1)), .second, .val (.long (c1 &&& (9223372036854775807 : Int64))), .second, .val (.long i2), .second, .val (.long t2), .second, .val (.ref b17), .val (.ref b19), .unset, .unset, .unset, .unset, .unset, .unset] [])) tt
          refine XS.iconst X20.here hx rfl (hb hby at_92) ?_
          show Steps p.tables e below (T20.setTop (mkF m 93 #[.val (.long a1), .second, .val (.long c1), .second, .val (.long a2), .second, .val (.long c2), .second, .val (.int mode), .val (.long (own_iv a1)), .second, .val (.long (c1 &&& (9223372036854775807 : Int64))), .second, .val (.long i2), .second, .val (.long t2), .second, .val (.ref b17), .val (.ref b19), .unset, .unset, .unset, .unset, .unset, .unset] [(.int (1 : Int32))])) tt
          refine XS.goto X20.here hx rfl (pc0 := 93) (pc' := 97) rfl (hb hby at_93) (by decide) (by decide) ?_
          exact kk
        · rw [show own_eq (own_iv a1) (c1 &&& (9223372036854775807 : Int64)) i2 t2 = (0 : Int32) by simp [own_eq, q2]] at kk
          show Steps p.tables e below (T20.setTop (mkF m 76 #[.val (.long a1), .second, .val (.long c1), .second, .val (.long a2), .second, .val (.long c2), .second, .val (.int mode), .val (.long (own_iv a1)), .second, .val (.long (c1 &&& (9223372036854775807 : Int64))), .second, .val (.long i2), .second, .val (.long t2), .second, .val (.ref b17), .val (.ref b19), .unset, .unset, .unset, .unset, .unset, .unset] [])) tt
          refine XS.lload X20.here hx rfl (hb hby at_76) rfl ?_
          show Steps p.tables e below (T20.setTop (mkF m 78 #[.val (.long a1), .second, .val (.long c1), .second, .val (.long a2), .second, .val (.long c2), .second, .val (.int mode), .val (.long (own_iv a1)), .second, .val (.long (c1 &&& (9223372036854775807 : Int64))), .second, .val (.long i2), .second, .val (.long t2), .second, .val (.ref b17), .val (.ref b19), .unset, .unset, .unset, .unset, .unset, .unset] [(.long (own_iv a1))])) tt
          refine XS.lload X20.here hx rfl (hb hby at_78) rfl ?_
          show Steps p.tables e below (T20.setTop (mkF m 80 #[.val (.long a1), .second, .val (.long c1), .second, .val (.long a2), .second, .val (.long c2), .second, .val (.int mode), .val (.long (own_iv a1)), .second, .val (.long (c1 &&& (9223372036854775807 : Int64))), .second, .val (.long i2), .second, .val (.long t2), .second, .val (.ref b17), .val (.ref b19), .unset, .unset, .unset, .unset, .unset, .unset] [(.long i2), (.long (own_iv a1))])) tt
          refine XS.lcmp X20.here hx rfl (hb hby at_80) rfl ?_
          show Steps p.tables e below (T20.setTop (mkF m 81 #[.val (.long a1), .second, .val (.long c1), .second, .val (.long a2), .second, .val (.long c2), .second, .val (.int mode), .val (.long (own_iv a1)), .second, .val (.long (c1 &&& (9223372036854775807 : Int64))), .second, .val (.long i2), .second, .val (.long t2), .second, .val (.ref b17), .val (.ref b19), .unset, .unset, .unset, .unset, .unset, .unset] [(.int (lcmpW (own_iv a1) i2))])) tt
          refine XS.ifNo X20.here hx rfl (hb hby at_81) rfl ((if0 _ _).trans (teq ((lw_eq _ _).mpr (q1) : (lcmpW (own_iv a1) i2) = (0 : Int32))).2) ?_
          show Steps p.tables e below (T20.setTop (mkF m 84 #[.val (.long a1), .second, .val (.long c1), .second, .val (.long a2), .second, .val (.long c2), .second, .val (.int mode), .val (.long (own_iv a1)), .second, .val (.long (c1 &&& (9223372036854775807 : Int64))), .second, .val (.long i2), .second, .val (.long t2), .second, .val (.ref b17), .val (.ref b19), .unset, .unset, .unset, .unset, .unset, .unset] [])) tt
          refine XS.lload X20.here hx rfl (hb hby at_84) rfl ?_
          show Steps p.tables e below (T20.setTop (mkF m 86 #[.val (.long a1), .second, .val (.long c1), .second, .val (.long a2), .second, .val (.long c2), .second, .val (.int mode), .val (.long (own_iv a1)), .second, .val (.long (c1 &&& (9223372036854775807 : Int64))), .second, .val (.long i2), .second, .val (.long t2), .second, .val (.ref b17), .val (.ref b19), .unset, .unset, .unset, .unset, .unset, .unset] [(.long (c1 &&& (9223372036854775807 : Int64)))])) tt
          refine XS.lload X20.here hx rfl (hb hby at_86) rfl ?_
          show Steps p.tables e below (T20.setTop (mkF m 88 #[.val (.long a1), .second, .val (.long c1), .second, .val (.long a2), .second, .val (.long c2), .second, .val (.int mode), .val (.long (own_iv a1)), .second, .val (.long (c1 &&& (9223372036854775807 : Int64))), .second, .val (.long i2), .second, .val (.long t2), .second, .val (.ref b17), .val (.ref b19), .unset, .unset, .unset, .unset, .unset, .unset] [(.long t2), (.long (c1 &&& (9223372036854775807 : Int64)))])) tt
          refine XS.lcmp X20.here hx rfl (hb hby at_88) rfl ?_
          show Steps p.tables e below (T20.setTop (mkF m 89 #[.val (.long a1), .second, .val (.long c1), .second, .val (.long a2), .second, .val (.long c2), .second, .val (.int mode), .val (.long (own_iv a1)), .second, .val (.long (c1 &&& (9223372036854775807 : Int64))), .second, .val (.long i2), .second, .val (.long t2), .second, .val (.ref b17), .val (.ref b19), .unset, .unset, .unset, .unset, .unset, .unset] [(.int (lcmpW (c1 &&& (9223372036854775807 : Int64)) t2))])) tt
          refine XS.ifYes X20.here hx rfl (pc0 := 89) (pc' := 96) rfl (hb hby at_89) rfl ((if0 _ _).trans (feq (fun hz0 => (q2 : ¬ ((c1 &&& (9223372036854775807 : Int64)) = t2)) ((lw_eq _ _).mp hz0) : ¬ ((lcmpW (c1 &&& (9223372036854775807 : Int64)) t2) = (0 : Int32)))).2) (by decide) (by decide) ?_
          show Steps p.tables e below (T20.setTop (mkF m 96 #[.val (.long a1), .second, .val (.long c1), .second, .val (.long a2), .second, .val (.long c2), .second, .val (.int mode), .val (.long (own_iv a1)), .second, .val (.long (c1 &&& (9223372036854775807 : Int64))), .second, .val (.long i2), .second, .val (.long t2), .second, .val (.ref b17), .val (.ref b19), .unset, .unset, .unset, .unset, .unset, .unset] [])) tt
          refine XS.iconst X20.here hx rfl (hb hby at_96) ?_
          exact kk
        · rw [show own_eq (own_iv a1) (c1 &&& (9223372036854775807 : Int64)) i2 t2 = (0 : Int32) by simp [own_eq, q1]] at kk
          show Steps p.tables e below (T20.setTop (mkF m 76 #[.val (.long a1), .second, .val (.long c1), .second, .val (.long a2), .second, .val (.long c2), .second, .val (.int mode), .val (.long (own_iv a1)), .second, .val (.long (c1 &&& (9223372036854775807 : Int64))), .second, .val (.long i2), .second, .val (.long t2), .second, .val (.ref b17), .val (.ref b19), .unset, .unset, .unset, .unset, .unset, .unset] [])) tt
          refine XS.lload X20.here hx rfl (hb hby at_76) rfl ?_
          show Steps p.tables e below (T20.setTop (mkF m 78 #[.val (.long a1), .second, .val (.long c1), .second, .val (.long a2), .second, .val (.long c2), .second, .val (.int mode), .val (.long (own_iv a1)), .second, .val (.long (c1 &&& (9223372036854775807 : Int64))), .second, .val (.long i2), .second, .val (.long t2), .second, .val (.ref b17), .val (.ref b19), .unset, .unset, .unset, .unset, .unset, .unset] [(.long (own_iv a1))])) tt
          refine XS.lload X20.here hx rfl (hb hby at_78) rfl ?_
          show Steps p.tables e below (T20.setTop (mkF m 80 #[.val (.long a1), .second, .val (.long c1), .second, .val (.long a2), .second, .val (.long c2), .second, .val (.int mode), .val (.long (own_iv a1)), .second, .val (.long (c1 &&& (9223372036854775807 : Int64))), .second, .val (.long i2), .second, .val (.long t2), .second, .val (.ref b17), .val (.ref b19), .unset, .unset, .unset, .unset, .unset, .unset] [(.long i2), (.long (own_iv a1))])) tt
          refine XS.lcmp X20.here hx rfl (hb hby at_80) rfl ?_
          show Steps p.tables e below (T20.setTop (mkF m 81 #[.val (.long a1), .second, .val (.long c1), .second, .val (.long a2), .second, .val (.long c2), .second, .val (.int mode), .val (.long (own_iv a1)), .second, .val (.long (c1 &&& (9223372036854775807 : Int64))), .second, .val (.long i2), .second, .val (.long t2), .second, .val (.ref b17), .val (.ref b19), .unset, .unset, .unset, .unset, .unset, .unset] [(.int (lcmpW (own_iv a1) i2))])) tt
          refine XS.ifYes X20.here hx rfl (pc0 := 81) (pc' := 96) rfl (hb hby at_81) rfl ((if0 _ _).trans (feq (fun hz0 => (q1 : ¬ ((own_iv a1) = i2)) ((lw_eq _ _).mp hz0) : ¬ ((lcmpW (own_iv a1) i2) = (0 : Int32)))).2) (by decide) (by decide) ?_
          show Steps p.tables e below (T20.setTop (mkF m 96 #[.val (.long a1), .second, .val (.long c1), .second, .val (.long a2), .second, .val (.long c2), .second, .val (.int mode), .val (.long (own_iv a1)), .second, .val (.long (c1 &&& (9223372036854775807 : Int64))), .second, .val (.long i2), .second, .val (.long t2), .second, .val (.ref b17), .val (.ref b19), .unset, .unset, .unset, .unset, .unset, .unset] [])) tt
          refine XS.iconst X20.here hx rfl (hb hby at_96) ?_
          exact kk
      have k23 : ∀ tt, Steps p.tables e below (T20.setTop (mkF m 103 #[.val (.long a1), .second, .val (.long c1), .second, .val (.long a2), .second, .val (.long c2), .second, .val (.int mode), .val (.long (own_iv a1)), .second, .val (.long (c1 &&& (9223372036854775807 : Int64))), .second, .val (.long i2), .second, .val (.long t2), .second, .val (.ref b17), .val (.ref b19), .val (.int (own_eq (own_iv a1) (c1 &&& (9223372036854775807 : Int64)) i2 t2)), .unset, .unset, .unset, .unset, .unset] [(.int (mode &&& (4 : Int32)))])) tt → Steps p.tables e below (s₁.setTop (entryFrame m #[(.long a1), (.long c1), (.long a2), (.long c2), (.int mode)] maxLocals)) tt := by
        intro tt kk
        refine k22 tt ?_
        show Steps p.tables e below (T20.setTop (mkF m 97 #[.val (.long a1), .second, .val (.long c1), .second, .val (.long a2), .second, .val (.long c2), .second, .val (.int mode), .val (.long (own_iv a1)), .second, .val (.long (c1 &&& (9223372036854775807 : Int64))), .second, .val (.long i2), .second, .val (.long t2), .second, .val (.ref b17), .val (.ref b19), .unset, .unset, .unset, .unset, .unset, .unset] [(.int (own_eq (own_iv a1) (c1 &&& (9223372036854775807 : Int64)) i2 t2))])) tt
        refine XS.istore X20.here hx rfl (hb hby at_97) rfl (l' := #[.val (.long a1), .second, .val (.long c1), .second, .val (.long a2), .second, .val (.long c2), .second, .val (.int mode), .val (.long (own_iv a1)), .second, .val (.long (c1 &&& (9223372036854775807 : Int64))), .second, .val (.long i2), .second, .val (.long t2), .second, .val (.ref b17), .val (.ref b19), .val (.int (own_eq (own_iv a1) (c1 &&& (9223372036854775807 : Int64)) i2 t2)), .unset, .unset, .unset, .unset, .unset]) rfl ?_
        show Steps p.tables e below (T20.setTop (mkF m 99 #[.val (.long a1), .second, .val (.long c1), .second, .val (.long a2), .second, .val (.long c2), .second, .val (.int mode), .val (.long (own_iv a1)), .second, .val (.long (c1 &&& (9223372036854775807 : Int64))), .second, .val (.long i2), .second, .val (.long t2), .second, .val (.ref b17), .val (.ref b19), .val (.int (own_eq (own_iv a1) (c1 &&& (9223372036854775807 : Int64)) i2 t2)), .unset, .unset, .unset, .unset, .unset] [])) tt
        refine XS.iload X20.here hx rfl (hb hby at_99) rfl ?_
        show Steps p.tables e below (T20.setTop (mkF m 101 #[.val (.long a1), .second, .val (.long c1), .second, .val (.long a2), .second, .val (.long c2), .second, .val (.int mode), .val (.long (own_iv a1)), .second, .val (.long (c1 &&& (9223372036854775807 : Int64))), .second, .val (.long i2), .second, .val (.long t2), .second, .val (.ref b17), .val (.ref b19), .val (.int (own_eq (own_iv a1) (c1 &&& (9223372036854775807 : Int64)) i2 t2)), .unset, .unset, .unset, .unset, .unset] [(.int mode)])) tt
        refine XS.iconst X20.here hx rfl (hb hby at_101) ?_
        show Steps p.tables e below (T20.setTop (mkF m 102 #[.val (.long a1), .second, .val (.long c1), .second, .val (.long a2), .second, .val (.long c2), .second, .val (.int mode), .val (.long (own_iv a1)), .second, .val (.long (c1 &&& (9223372036854775807 : Int64))), .second, .val (.long i2), .second, .val (.long t2), .second, .val (.ref b17), .val (.ref b19), .val (.int (own_eq (own_iv a1) (c1 &&& (9223372036854775807 : Int64)) i2 t2)), .unset, .unset, .unset, .unset, .unset] [(.int (4 : Int32)), (.int mode)])) tt
        refine XS.iand X20.here hx rfl (hb hby at_102) rfl ?_
        exact kk
      by_cases c103_24 : (mode &&& (4 : Int32)) = (0 : Int32)
      · obtain ⟨_, _, ⟨T25, L25, ka25, na25⟩, -, X25, ⟨Lc25, hQ25, l25, y25, z25⟩, st25⟩ := Jvm.LawKit.callS X20 hx (y := (⟨"java/lang/Long", "valueOf", "(J)Ljava/lang/Long;"⟩ : MethodName)) hown (mvT hZ (hw _ (List.mem_of_getElem? (i := 21) rfl))) (mvT hZ (hw _ (List.mem_of_getElem? (i := 22) rfl))) (mvT hZ (hw _ (List.mem_of_getElem? (i := 23) rfl))) (mvT hZ (hw _ (List.mem_of_getElem? (i := 24) rfl))) (by decide) (backOf (W := 0) (own_rmV l Z a0 hw [] (own_iv a1) wC cC T20.heap n0 Z20 (own_sta_keep0 S_C Kt20) ⟨Kt20.2.1 _ _ A_C.1 nin0, A_C.2⟩ z_C (fun i q => (h_C i q).imp fun b z => ⟨z.1, z.2.keep Kt20⟩) (own_iv_pos a1)) hZ (hw _ (List.mem_of_getElem? (i := 24) rfl)) (hw _ (List.mem_of_getElem? (i := 23) rfl)) (by decide) (by decide)) (g := (mkF m 112 #[.val (.long a1), .second, .val (.long c1), .second, .val (.long a2), .second, .val (.long c2), .second, .val (.int mode), .val (.long (own_iv a1)), .second, .val (.long (c1 &&& (9223372036854775807 : Int64))), .second, .val (.long i2), .second, .val (.long t2), .second, .val (.ref b17), .val (.ref b19), .val (.int (own_eq (own_iv a1) (c1 &&& (9223372036854775807 : Int64)) i2 t2)), .unset, .unset, .unset, .unset, .unset] [(.long (own_iv a1))])) rfl (by rw [hml]; rfl) (argsL := [(.long (own_iv a1))]) (rest := []) (lenOf own_pd__J_Ljava_lang_Long_ rfl) rfl (by show 2 * 0 + _ ≤ _; exact Nat.le_of_eq rfl) (hb hby at_112) (fun _ _ => ⟨rfl, rfl, (by decide : 2 + 1 ≤ _), (by decide : 4 + 1 ≤ _)⟩)
        dsimp only [Pt.U, Pt.locs, Pt.cells, Pt.slots] at X25 l25 y25 z25 st25 hQ25
        subst l25 y25 z25
        obtain ⟨bl25, rfl, Nq25, K25, Ex25⟩ := hQ25
        have N25 := Fr.app N20 Nq25
        have Z25 : n0 ≤ T25.heap.size := Nat.le_trans Z20 K25.1
        have Kt25 := Keep.trans Kt20 K25 all0
        have hf27 := (((Fld.ext E19 Fa18).keep K20 (ninS (Nat.ne_of_lt (Nat.lt_of_lt_of_le (A17.keep K18).lt (Nat.le_of_eq g19.symm))) nin0)).keep K25 nin0)
        have hf28 := (((Fld.ext E19 Fb18).keep K20 (ninS (Nat.ne_of_lt (Nat.lt_of_lt_of_le (A17.keep K18).lt (Nat.le_of_eq g19.symm))) nin0)).keep K25 nin0)
        obtain ⟨cq26, kq26, q26a, q26b, q26c⟩ := isOf hZ rfl (((Exa.ext E19 (A17.keep K18)).keep K20).keep K25)
        obtain ⟨_, _, ⟨T26, L26, ka26, na26⟩, -, X26, ⟨Lc26, hQ26, l26, y26, z26⟩, st26⟩ := X25.virtualBack hx (y := (⟨"com/example/curb_queries/curbqueries/admission/OverloadLimits", "equals", "(Ljava/lang/Object;)Z"⟩ : MethodName)) (z := (⟨"com/example/curb_queries/curbqueries/admission/OverloadLimits", "equals", "(Ljava/lang/Object;)Z"⟩ : MethodName)) hown (mvT hZ (hw _ (List.mem_of_getElem? (i := 29) rfl))) (mvT hZ (hw _ (List.mem_of_getElem? (i := 30) rfl))) (notFace_of_selects (args := #[]) (mvT hZ (hw _ (List.mem_of_getElem? (i := 32) rfl)))) (mvT hZ (hw _ (List.mem_of_getElem? (i := 32) rfl))) (mvT hZ (hw _ (List.mem_of_getElem? (i := 31) rfl))) (by decide) (backOf (W := 0) (own_rmE l Z a0 hw [] b17 b19 (own_iv a1) (c1 &&& (9223372036854775807 : Int64)) i2 t2 T25.heap n0 Z25 ((A19.keep K20).keep K25) hf27 hf28 (Fa20.keep K25 nin0) (Fb20.keep K25 nin0)) hZ (hw _ (List.mem_of_getElem? (i := 33) rfl)) (hw _ (List.mem_of_getElem? (i := 10) rfl)) (by decide) (by decide)) q26a q26c (g := (mkF m 121 #[.val (.long a1), .second, .val (.long c1), .second, .val (.long a2), .second, .val (.long c2), .second, .val (.int mode), .val (.long (own_iv a1)), .second, .val (.long (c1 &&& (9223372036854775807 : Int64))), .second, .val (.long i2), .second, .val (.long t2), .second, .val (.ref b17), .val (.ref b19), .val (.int (own_eq (own_iv a1) (c1 &&& (9223372036854775807 : Int64)) i2 t2)), .val (.ref bl25), .unset, .unset, .unset, .unset] [(.ref b19), (.ref b17)])) rfl (by rw [hml]; rfl) (Steps.refl _) (argsL := [(.ref b19)]) (rest := []) (lenOf own_pd__Ljava_lang_Object__Z rfl) rfl (by show 2 * 0 + _ ≤ _; exact Nat.le_of_eq rfl) (hb hby at_121) (fun _ _ => ⟨rfl, rfl, (by decide : 3 + 0 ≤ _), (by decide : 5 + 0 ≤ _)⟩)
        dsimp only [Pt.U, Pt.locs, Pt.cells, Pt.slots] at X26 l26 y26 z26 st26 hQ26
        subst l26 y26 z26
        obtain ⟨rfl, Nq26, hh26⟩ := hQ26
        have N26 := Fr.app N25 Nq26
        obtain ⟨cq29, kq29, q29a, q29b, q29c⟩ := isOf hZ hh26 ((A19.keep K20).keep K25)
        obtain ⟨_, _, ⟨T29, L29, ka29, na29⟩, -, X29, ⟨Lc29, hQ29, l29, y29, z29⟩, st29⟩ := X26.virtualBack hx (y := (⟨"com/example/curb_queries/curbqueries/admission/OverloadLimits", "equals", "(Ljava/lang/Object;)Z"⟩ : MethodName)) (z := (⟨"com/example/curb_queries/curbqueries/admission/OverloadLimits", "equals", "(Ljava/lang/Object;)Z"⟩ : MethodName)) hown (mvT hZ (hw _ (List.mem_of_getElem? (i := 29) rfl))) (mvT hZ (hw _ (List.mem_of_getElem? (i := 30) rfl))) (notFace_of_selects (args := #[]) (mvT hZ (hw _ (List.mem_of_getElem? (i := 32) rfl)))) (mvT hZ (hw _ (List.mem_of_getElem? (i := 32) rfl))) (mvT hZ (hw _ (List.mem_of_getElem? (i := 31) rfl))) (by decide) (backOf (W := 0) (own_rmE l Z a0 hw [] b19 b17 i2 t2 (own_iv a1) (c1 &&& (9223372036854775807 : Int64)) T25.heap n0 Z25 (((Exa.ext E19 (A17.keep K18)).keep K20).keep K25) (Fa20.keep K25 nin0) (Fb20.keep K25 nin0) hf27 hf28) hZ (hw _ (List.mem_of_getElem? (i := 33) rfl)) (hw _ (List.mem_of_getElem? (i := 10) rfl)) (by decide) (by decide)) q29a q29c (g := (mkF m 130 #[.val (.long a1), .second, .val (.long c1), .second, .val (.long a2), .second, .val (.long c2), .second, .val (.int mode), .val (.long (own_iv a1)), .second, .val (.long (c1 &&& (9223372036854775807 : Int64))), .second, .val (.long i2), .second, .val (.long t2), .second, .val (.ref b17), .val (.ref b19), .val (.int (own_eq (own_iv a1) (c1 &&& (9223372036854775807 : Int64)) i2 t2)), .val (.ref bl25), .val (.int (own_eq (own_iv a1) (c1 &&& (9223372036854775807 : Int64)) i2 t2)), .unset, .unset, .unset] [(.ref b17), (.ref b19)])) rfl (by rw [hml]; rfl) (Steps.refl _) (argsL := [(.ref b17)]) (rest := []) (lenOf own_pd__Ljava_lang_Object__Z rfl) rfl (by show 2 * 0 + _ ≤ _; exact Nat.le_of_eq rfl) (hb hby at_130) (fun _ _ => ⟨rfl, hh26, (by decide : 3 + 0 ≤ _), (by decide : 5 + 0 ≤ _)⟩)
        dsimp only [Pt.U, Pt.locs, Pt.cells, Pt.slots] at X29 l29 y29 z29 st29 hQ29
        subst l29 y29 z29
        obtain ⟨hv29, Nq29, hh29⟩ := hQ29
        have N29 := Fr.app N26 Nq29
        rw [own_eq_comm] at hv29
        subst hv29
        obtain ⟨cq30, kq30, q30a, q30b, q30c⟩ := isOf hZ hh29 (((Exa.ext E19 (A17.keep K18)).keep K20).keep K25)
        obtain ⟨_, _, ⟨T30, L30, ka30, na30⟩, -, X30, ⟨Lc30, hQ30, l30, y30, z30⟩, st30⟩ := X29.virtualBack hx (y := (⟨"com/example/curb_queries/curbqueries/admission/OverloadLimits", "equals", "(Ljava/lang/Object;)Z"⟩ : MethodName)) (z := (⟨"com/example/curb_queries/curbqueries/admission/OverloadLimits", "equals", "(Ljava/lang/Object;)Z"⟩ : MethodName)) hown (mvT hZ (hw _ (List.mem_of_getElem? (i := 29) rfl))) (mvT hZ (hw _ (List.mem_of_getElem? (i := 30) rfl))) (notFace_of_selects (args := #[]) (mvT hZ (hw _ (List.mem_of_getElem? (i := 32) rfl)))) (mvT hZ (hw _ (List.mem_of_getElem? (i := 32) rfl))) (mvT hZ (hw _ (List.mem_of_getElem? (i := 31) rfl))) (by decide) (backOf (W := 0) (own_rmE l Z a0 hw [] b17 b17 (own_iv a1) (c1 &&& (9223372036854775807 : Int64)) (own_iv a1) (c1 &&& (9223372036854775807 : Int64)) T25.heap n0 Z25 (((Exa.ext E19 (A17.keep K18)).keep K20).keep K25) hf27 hf28 hf27 hf28) hZ (hw _ (List.mem_of_getElem? (i := 33) rfl)) (hw _ (List.mem_of_getElem? (i := 10) rfl)) (by decide) (by decide)) q30a q30c (g := (mkF m 139 #[.val (.long a1), .second, .val (.long c1), .second, .val (.long a2), .second, .val (.long c2), .second, .val (.int mode), .val (.long (own_iv a1)), .second, .val (.long (c1 &&& (9223372036854775807 : Int64))), .second, .val (.long i2), .second, .val (.long t2), .second, .val (.ref b17), .val (.ref b19), .val (.int (own_eq (own_iv a1) (c1 &&& (9223372036854775807 : Int64)) i2 t2)), .val (.ref bl25), .val (.int (own_eq (own_iv a1) (c1 &&& (9223372036854775807 : Int64)) i2 t2)), .val (.int (own_eq (own_iv a1) (c1 &&& (9223372036854775807 : Int64)) i2 t2)), .unset, .unset] [(.ref b17), (.ref b17)])) rfl (by rw [hml]; rfl) (Steps.refl _) (argsL := [(.ref b17)]) (rest := []) (lenOf own_pd__Ljava_lang_Object__Z rfl) rfl (by show 2 * 0 + _ ≤ _; exact Nat.le_of_eq rfl) (hb hby at_139) (fun _ _ => ⟨rfl, hh29, (by decide : 3 + 0 ≤ _), (by decide : 5 + 0 ≤ _)⟩)
        dsimp only [Pt.U, Pt.locs, Pt.cells, Pt.slots] at X30 l30 y30 z30 st30 hQ30
        subst l30 y30 z30
        obtain ⟨hv30, Nq30, hh30⟩ := hQ30
        have N30 := Fr.app N29 Nq30
        rw [own_eq_self] at hv30
        subst hv30
        obtain ⟨cq31, kq31, q31a, q31b, q31c⟩ := isOf hZ hh30 (((Exa.ext E19 (A17.keep K18)).keep K20).keep K25)
        obtain ⟨_, _, ⟨T31, L31, ka31, na31⟩, -, X31, ⟨Lc31, hQ31, l31, y31, z31⟩, st31⟩ := X30.virtualBack hx (y := (⟨"com/example/curb_queries/curbqueries/admission/OverloadLimits", "equals", "(Ljava/lang/Object;)Z"⟩ : MethodName)) (z := (⟨"com/example/curb_queries/curbqueries/admission/OverloadLimits", "equals", "(Ljava/lang/Object;)Z"⟩ : MethodName)) hown (mvT hZ (hw _ (List.mem_of_getElem? (i := 29) rfl))) (mvT hZ (hw _ (List.mem_of_getElem? (i := 30) rfl))) (notFace_of_selects (args := #[]) (mvT hZ (hw _ (List.mem_of_getElem? (i := 32) rfl)))) (mvT hZ (hw _ (List.mem_of_getElem? (i := 32) rfl))) (mvT hZ (hw _ (List.mem_of_getElem? (i := 31) rfl))) (by decide) (backOf (W := 0) (own_rmEx l Z a0 hw [] b17 bl25 T25.heap n0 Z25 Ex25) hZ (hw _ (List.mem_of_getElem? (i := 33) rfl)) (hw _ (List.mem_of_getElem? (i := 10) rfl)) (by decide) (by decide)) q31a q31c (g := (mkF m 148 #[.val (.long a1), .second, .val (.long c1), .second, .val (.long a2), .second, .val (.long c2), .second, .val (.int mode), .val (.long (own_iv a1)), .second, .val (.long (c1 &&& (9223372036854775807 : Int64))), .second, .val (.long i2), .second, .val (.long t2), .second, .val (.ref b17), .val (.ref b19), .val (.int (own_eq (own_iv a1) (c1 &&& (9223372036854775807 : Int64)) i2 t2)), .val (.ref bl25), .val (.int (own_eq (own_iv a1) (c1 &&& (9223372036854775807 : Int64)) i2 t2)), .val (.int (own_eq (own_iv a1) (c1 &&& (9223372036854775807 : Int64)) i2 t2)), .val (.int (1 : Int32)), .unset] [(.ref bl25), (.ref b17)])) rfl (by rw [hml]; rfl) (Steps.refl _) (argsL := [(.ref bl25)]) (rest := []) (lenOf own_pd__Ljava_lang_Object__Z rfl) rfl (by show 2 * 0 + _ ≤ _; exact Nat.le_of_eq rfl) (hb hby at_148) (fun _ _ => ⟨rfl, hh30, (by decide : 3 + 0 ≤ _), (by decide : 5 + 0 ≤ _)⟩)
        dsimp only [Pt.U, Pt.locs, Pt.cells, Pt.slots] at X31 l31 y31 z31 st31 hQ31
        subst l31 y31 z31
        obtain ⟨rfl, Nq31, hh31⟩ := hQ31
        have N31 := Fr.app N30 Nq31
        have k32 : ∀ tt, Steps p.tables e below (T31.setTop (mkF m 182 #[.val (.long a1), .second, .val (.long c1), .second, .val (.long a2), .second, .val (.long c2), .second, .val (.int mode), .val (.long (own_iv a1)), .second, .val (.long (c1 &&& (9223372036854775807 : Int64))), .second, .val (.long i2), .second, .val (.long t2), .second, .val (.ref b17), .val (.ref b19), .val (.int (own_eq (own_iv a1) (c1 &&& (9223372036854775807 : Int64)) i2 t2)), .val (.ref bl25), .val (.int (own_eq (own_iv a1) (c1 &&& (9223372036854775807 : Int64)) i2 t2)), .val (.int (own_eq (own_iv a1) (c1 &&& (9223372036854775807 : Int64)) i2 t2)), .val (.int (1 : Int32)), .val (.int (0 : Int32))] [(.int (1 : Int32))])) tt → Steps p.tables e below (s₁.setTop (entryFrame m #[(.long a1), (.long c1), (.long a2), (.long c2), (.int mode)] maxLocals)) tt := by
          intro tt kk
          refine k23 tt ?_
          show Steps p.tables e below (T20.setTop (mkF m 103 #[.val (.long a1), .second, .val (.long c1), .second, .val (.long a2), .second, .val (.long c2), .second, .val (.int mode), .val (.long (own_iv a1)), .second, .val (.long (c1 &&& (9223372036854775807 : Int64))), .second, .val (.long i2), .second, .val (.long t2), .second, .val (.ref b17), .val (.ref b19), .val (.int (own_eq (own_iv a1) (c1 &&& (9223372036854775807 : Int64)) i2 t2)), .unset, .unset, .unset, .unset, .unset] [(.int (mode &&& (4 : Int32)))])) tt
          refine XS.ifYes X20.here hx rfl (pc0 := 103) (pc' := 110) rfl (hb hby at_103) rfl ((if0 _ _).trans (teq (c103_24 : (mode &&& (4 : Int32)) = (0 : Int32))).1) (by decide) (by decide) ?_
          show Steps p.tables e below (T20.setTop (mkF m 110 #[.val (.long a1), .second, .val (.long c1), .second, .val (.long a2), .second, .val (.long c2), .second, .val (.int mode), .val (.long (own_iv a1)), .second, .val (.long (c1 &&& (9223372036854775807 : Int64))), .second, .val (.long i2), .second, .val (.long t2), .second, .val (.ref b17), .val (.ref b19), .val (.int (own_eq (own_iv a1) (c1 &&& (9223372036854775807 : Int64)) i2 t2)), .unset, .unset, .unset, .unset, .unset] [])) tt
          refine XS.lload X20.here hx rfl (hb hby at_110) rfl ?_
          show Steps p.tables e below (T20.setTop (mkF m 112 #[.val (.long a1), .second, .val (.long c1), .second, .val (.long a2), .second, .val (.long c2), .second, .val (.int mode), .val (.long (own_iv a1)), .second, .val (.long (c1 &&& (9223372036854775807 : Int64))), .second, .val (.long i2), .second, .val (.long t2), .second, .val (.ref b17), .val (.ref b19), .val (.int (own_eq (own_iv a1) (c1 &&& (9223372036854775807 : Int64)) i2 t2)), .unset, .unset, .unset, .unset, .unset] [(.long (own_iv a1))])) tt
          refine st25 _ ?_
          show Steps p.tables e below (T25.setTop (mkF m 115 #[.val (.long a1), .second, .val (.long c1), .second, .val (.long a2), .second, .val (.long c2), .second, .val (.int mode), .val (.long (own_iv a1)), .second, .val (.long (c1 &&& (9223372036854775807 : Int64))), .second, .val (.long i2), .second, .val (.long t2), .second, .val (.ref b17), .val (.ref b19), .val (.int (own_eq (own_iv a1) (c1 &&& (9223372036854775807 : Int64)) i2 t2)), .unset, .unset, .unset, .unset, .unset] [(.ref bl25)])) tt
          refine XS.astore X25.here hx rfl (hb hby at_115) rfl rfl (l' := #[.val (.long a1), .second, .val (.long c1), .second, .val (.long a2), .second, .val (.long c2), .second, .val (.int mode), .val (.long (own_iv a1)), .second, .val (.long (c1 &&& (9223372036854775807 : Int64))), .second, .val (.long i2), .second, .val (.long t2), .second, .val (.ref b17), .val (.ref b19), .val (.int (own_eq (own_iv a1) (c1 &&& (9223372036854775807 : Int64)) i2 t2)), .val (.ref bl25), .unset, .unset, .unset, .unset]) rfl ?_
          show Steps p.tables e below (T25.setTop (mkF m 117 #[.val (.long a1), .second, .val (.long c1), .second, .val (.long a2), .second, .val (.long c2), .second, .val (.int mode), .val (.long (own_iv a1)), .second, .val (.long (c1 &&& (9223372036854775807 : Int64))), .second, .val (.long i2), .second, .val (.long t2), .second, .val (.ref b17), .val (.ref b19), .val (.int (own_eq (own_iv a1) (c1 &&& (9223372036854775807 : Int64)) i2 t2)), .val (.ref bl25), .unset, .unset, .unset, .unset] [])) tt
          refine XS.aload X25.here hx rfl (hb hby at_117) rfl rfl ?_
          show Steps p.tables e below (T25.setTop (mkF m 119 #[.val (.long a1), .second, .val (.long c1), .second, .val (.long a2), .second, .val (.long c2), .second, .val (.int mode), .val (.long (own_iv a1)), .second, .val (.long (c1 &&& (9223372036854775807 : Int64))), .second, .val (.long i2), .second, .val (.long t2), .second, .val (.ref b17), .val (.ref b19), .val (.int (own_eq (own_iv a1) (c1 &&& (9223372036854775807 : Int64)) i2 t2)), .val (.ref bl25), .unset, .unset, .unset, .unset] [(.ref b17)])) tt
          refine XS.aload X25.here hx rfl (hb hby at_119) rfl rfl ?_
          show Steps p.tables e below (T25.setTop (mkF m 121 #[.val (.long a1), .second, .val (.long c1), .second, .val (.long a2), .second, .val (.long c2), .second, .val (.int mode), .val (.long (own_iv a1)), .second, .val (.long (c1 &&& (9223372036854775807 : Int64))), .second, .val (.long i2), .second, .val (.long t2), .second, .val (.ref b17), .val (.ref b19), .val (.int (own_eq (own_iv a1) (c1 &&& (9223372036854775807 : Int64)) i2 t2)), .val (.ref bl25), .unset, .unset, .unset, .unset] [(.ref b19), (.ref b17)])) tt
          refine st26.trans ?_
          show Steps p.tables e below (T26.setTop (mkF m 124 #[.val (.long a1), .second, .val (.long c1), .second, .val (.long a2), .second, .val (.long c2), .second, .val (.int mode), .val (.long (own_iv a1)), .second, .val (.long (c1 &&& (9223372036854775807 : Int64))), .second, .val (.long i2), .second, .val (.long t2), .second, .val (.ref b17), .val (.ref b19), .val (.int (own_eq (own_iv a1) (c1 &&& (9223372036854775807 : Int64)) i2 t2)), .val (.ref bl25), .unset, .unset, .unset, .unset] [(.int (own_eq (own_iv a1) (c1 &&& (9223372036854775807 : Int64)) i2 t2))])) tt
          refine XS.istore X26.here hx rfl (hb hby at_124) rfl (l' := #[.val (.long a1), .second, .val (.long c1), .second, .val (.long a2), .second, .val (.long c2), .second, .val (.int mode), .val (.long (own_iv a1)), .second, .val (.long (c1 &&& (9223372036854775807 : Int64))), .second, .val (.long i2), .second, .val (.long t2), .second, .val (.ref b17), .val (.ref b19), .val (.int (own_eq (own_iv a1) (c1 &&& (9223372036854775807 : Int64)) i2 t2)), .val (.ref bl25), .val (.int (own_eq (own_iv a1) (c1 &&& (9223372036854775807 : Int64)) i2 t2)), .unset, .unset, .unset]) rfl ?_
          show Steps p.tables e below (T26.setTop (mkF m 126 #[.val (.long a1), .second, .val (.long c1), .second, .val (.long a2), .second, .val (.long c2), .second, .val (.int mode), .val (.long (own_iv a1)), .second, .val (.long (c1 &&& (9223372036854775807 : Int64))), .second, .val (.long i2), .second, .val (.long t2), .second, .val (.ref b17), .val (.ref b19), .val (.int (own_eq (own_iv a1) (c1 &&& (9223372036854775807 : Int64)) i2 t2)), .val (.ref bl25), .val (.int (own_eq (own_iv a1) (c1 &&& (9223372036854775807 : Int64)) i2 t2)), .unset, .unset, .unset] [])) tt
          refine XS.aload X26.here hx rfl (hb hby at_126) rfl rfl ?_
          show Steps p.tables e below (T26.setTop (mkF m 128 #[.val (.long a1), .second, .val (.long c1), .second, .val (.long a2), .second, .val (.long c2), .second, .val (.int mode), .val (.long (own_iv a1)), .second, .val (.long (c1 &&& (9223372036854775807 : Int64))), .second, .val (.long i2), .second, .val (.long t2), .second, .val (.ref b17), .val (.ref b19), .val (.int (own_eq (own_iv a1) (c1 &&& (9223372036854775807 : Int64)) i2 t2)), .val (.ref bl25), .val (.int (own_eq (own_iv a1) (c1 &&& (9223372036854775807 : Int64)) i2 t2)), .unset, .unset, .unset] [(.ref b19)])) tt
          refine XS.aload X26.here hx rfl (hb hby at_128) rfl rfl ?_
          show Steps p.tables e below (T26.setTop (mkF m 130 #[.val (.long a1), .second, .val (.long c1), .second, .val (.long a2), .second, .val (.long c2), .second, .val (.int mode), .val (.long (own_iv a1)), .second, .val (.long (c1 &&& (9223372036854775807 : Int64))), .second, .val (.long i2), .second, .val (.long t2), .second, .val (.ref b17), .val (.ref b19), .val (.int (own_eq (own_iv a1) (c1 &&& (9223372036854775807 : Int64)) i2 t2)), .val (.ref bl25), .val (.int (own_eq (own_iv a1) (c1 &&& (9223372036854775807 : Int64)) i2 t2)), .unset, .unset, .unset] [(.ref b17), (.ref b19)])) tt
          refine st29.trans ?_
          show Steps p.tables e below (T29.setTop (mkF m 133 #[.val (.long a1), .second, .val (.long c1), .second, .val (.long a2), .second, .val (.long c2), .second, .val (.int mode), .val (.long (own_iv a1)), .second, .val (.long (c1 &&& (9223372036854775807 : Int64))), .second, .val (.long i2), .second, .val (.long t2), .second, .val (.ref b17), .val (.ref b19), .val (.int (own_eq (own_iv a1) (c1 &&& (9223372036854775807 : Int64)) i2 t2)), .val (.ref bl25), .val (.int (own_eq (own_iv a1) (c1 &&& (9223372036854775807 : Int64)) i2 t2)), .unset, .unset, .unset] [(.int (own_eq (own_iv a1) (c1 &&& (9223372036854775807 : Int64)) i2 t2))])) tt
          refine XS.istore X29.here hx rfl (hb hby at_133) rfl (l' := #[.val (.long a1), .second, .val (.long c1), .second, .val (.long a2), .second, .val (.long c2), .second, .val (.int mode), .val (.long (own_iv a1)), .second, .val (.long (c1 &&& (9223372036854775807 : Int64))), .second, .val (.long i2), .second, .val (.long t2), .second, .val (.ref b17), .val (.ref b19), .val (.int (own_eq (own_iv a1) (c1 &&& (9223372036854775807 : Int64)) i2 t2)), .val (.ref bl25), .val (.int (own_eq (own_iv a1) (c1 &&& (9223372036854775807 : Int64)) i2 t2)), .val (.int (own_eq (own_iv a1) (c1 &&& (9223372036854775807 : Int64)) i2 t2)), .unset, .unset]) rfl ?_
          show Steps p.tables e below (T29.setTop (mkF m 135 #[.val (.long a1), .second, .val (.long c1), .second, .val (.long a2), .second, .val (.long c2), .second, .val (.int mode), .val (.long (own_iv a1)), .second, .val (.long (c1 &&& (9223372036854775807 : Int64))), .second, .val (.long i2), .second, .val (.long t2), .second, .val (.ref b17), .val (.ref b19), .val (.int (own_eq (own_iv a1) (c1 &&& (9223372036854775807 : Int64)) i2 t2)), .val (.ref bl25), .val (.int (own_eq (own_iv a1) (c1 &&& (9223372036854775807 : Int64)) i2 t2)), .val (.int (own_eq (own_iv a1) (c1 &&& (9223372036854775807 : Int64)) i2 t2)), .unset, .unset] [])) tt
          refine XS.aload X29.here hx rfl (hb hby at_135) rfl rfl ?_
          show Steps p.tables e below (T29.setTop (mkF m 137 #[.val (.long a1), .second, .val (.long c1), .second, .val (.long a2), .second, .val (.long c2), .second, .val (.int mode), .val (.long (own_iv a1)), .second, .val (.long (c1 &&& (9223372036854775807 : Int64))), .second, .val (.long i2), .second, .val (.long t2), .second, .val (.ref b17), .val (.ref b19), .val (.int (own_eq (own_iv a1) (c1 &&& (9223372036854775807 : Int64)) i2 t2)), .val (.ref bl25), .val (.int (own_eq (own_iv a1) (c1 &&& (9223372036854775807 : Int64)) i2 t2)), .val (.int (own_eq (own_iv a1) (c1 &&& (9223372036854775807 : Int64)) i2 t2)), .unset, .unset] [(.ref b17)])) tt
          refine XS.aload X29.here hx rfl (hb hby at_137) rfl rfl ?_
          show Steps p.tables e below (T29.setTop (mkF m 139 #[.val (.long a1), .second, .val (.long c1), .second, .val (.long a2), .second, .val (.long c2), .second, .val (.int mode), .val (.long (own_iv a1)), .second, .val (.long (c1 &&& (9223372036854775807 : Int64))), .second, .val (.long i2), .second, .val (.long t2), .second, .val (.ref b17), .val (.ref b19), .val (.int (own_eq (own_iv a1) (c1 &&& (9223372036854775807 : Int64)) i2 t2)), .val (.ref bl25), .val (.int (own_eq (own_iv a1) (c1 &&& (9223372036854775807 : Int64)) i2 t2)), .val (.int (own_eq (own_iv a1) (c1 &&& (9223372036854775807 : Int64)) i2 t2)), .unset, .unset] [(.ref b17), (.ref b17)])) tt
          refine st30.trans ?_
          show Steps p.tables e below (T30.setTop (mkF m 142 #[.val (.long a1), .second, .val (.long c1), .second, .val (.long a2), .second, .val (.long c2), .second, .val (.int mode), .val (.long (own_iv a1)), .second, .val (.long (c1 &&& (9223372036854775807 : Int64))), .second, .val (.long i2), .second, .val (.long t2), .second, .val (.ref b17), .val (.ref b19), .val (.int (own_eq (own_iv a1) (c1 &&& (9223372036854775807 : Int64)) i2 t2)), .val (.ref bl25), .val (.int (own_eq (own_iv a1) (c1 &&& (9223372036854775807 : Int64)) i2 t2)), .val (.int (own_eq (own_iv a1) (c1 &&& (9223372036854775807 : Int64)) i2 t2)), .unset, .unset] [(.int (1 : Int32))])) tt
          refine XS.istore X30.here hx rfl (hb hby at_142) rfl (l' := #[.val (.long a1), .second, .val (.long c1), .second, .val (.long a2), .second, .val (.long c2), .second, .val (.int mode), .val (.long (own_iv a1)), .second, .val (.long (c1 &&& (9223372036854775807 : Int64))), .second, .val (.long i2), .second, .val (.long t2), .second, .val (.ref b17), .val (.ref b19), .val (.int (own_eq (own_iv a1) (c1 &&& (9223372036854775807 : Int64)) i2 t2)), .val (.ref bl25), .val (.int (own_eq (own_iv a1) (c1 &&& (9223372036854775807 : Int64)) i2 t2)), .val (.int (own_eq (own_iv a1) (c1 &&& (9223372036854775807 : Int64)) i2 t2)), .val (.int (1 : Int32)), .unset]) rfl ?_
          show Steps p.tables e below (T30.setTop (mkF m 144 #[.val (.long a1), .second, .val (.long c1), .second, .val (.long a2), .second, .val (.long c2), .second, .val (.int mode), .val (.long (own_iv a1)), .second, .val (.long (c1 &&& (9223372036854775807 : Int64))), .second, .val (.long i2), .second, .val (.long t2), .second, .val (.ref b17), .val (.ref b19), .val (.int (own_eq (own_iv a1) (c1 &&& (9223372036854775807 : Int64)) i2 t2)), .val (.ref bl25), .val (.int (own_eq (own_iv a1) (c1 &&& (9223372036854775807 : Int64)) i2 t2)), .val (.int (own_eq (own_iv a1) (c1 &&& (9223372036854775807 : Int64)) i2 t2)), .val (.int (1 : Int32)), .unset] [])) tt
          refine XS.aload X30.here hx rfl (hb hby at_144) rfl rfl ?_
          show Steps p.tables e below (T30.setTop (mkF m 146 #[.val (.long a1), .second, .val (.long c1), .second, .val (.long a2), .second, .val (.long c2), .second, .val (.int mode), .val (.long (own_iv a1)), .second, .val (.long (c1 &&& (9223372036854775807 : Int64))), .second, .val (.long i2), .second, .val (.long t2), .second, .val (.ref b17), .val (.ref b19), .val (.int (own_eq (own_iv a1) (c1 &&& (9223372036854775807 : Int64)) i2 t2)), .val (.ref bl25), .val (.int (own_eq (own_iv a1) (c1 &&& (9223372036854775807 : Int64)) i2 t2)), .val (.int (own_eq (own_iv a1) (c1 &&& (9223372036854775807 : Int64)) i2 t2)), .val (.int (1 : Int32)), .unset] [(.ref b17)])) tt
          refine XS.aload X30.here hx rfl (hb hby at_146) rfl rfl ?_
          show Steps p.tables e below (T30.setTop (mkF m 148 #[.val (.long a1), .second, .val (.long c1), .second, .val (.long a2), .second, .val (.long c2), .second, .val (.int mode), .val (.long (own_iv a1)), .second, .val (.long (c1 &&& (9223372036854775807 : Int64))), .second, .val (.long i2), .second, .val (.long t2), .second, .val (.ref b17), .val (.ref b19), .val (.int (own_eq (own_iv a1) (c1 &&& (9223372036854775807 : Int64)) i2 t2)), .val (.ref bl25), .val (.int (own_eq (own_iv a1) (c1 &&& (9223372036854775807 : Int64)) i2 t2)), .val (.int (own_eq (own_iv a1) (c1 &&& (9223372036854775807 : Int64)) i2 t2)), .val (.int (1 : Int32)), .unset] [(.ref bl25), (.ref b17)])) tt
          refine st31.trans ?_
          show Steps p.tables e below (T31.setTop (mkF m 151 #[.val (.long a1), .second, .val (.long c1), .second, .val (.long a2), .second, .val (.long c2), .second, .val (.int mode), .val (.long (own_iv a1)), .second, .val (.long (c1 &&& (9223372036854775807 : Int64))), .second, .val (.long i2), .second, .val (.long t2), .second, .val (.ref b17), .val (.ref b19), .val (.int (own_eq (own_iv a1) (c1 &&& (9223372036854775807 : Int64)) i2 t2)), .val (.ref bl25), .val (.int (own_eq (own_iv a1) (c1 &&& (9223372036854775807 : Int64)) i2 t2)), .val (.int (own_eq (own_iv a1) (c1 &&& (9223372036854775807 : Int64)) i2 t2)), .val (.int (1 : Int32)), .unset] [(.int (0 : Int32))])) tt
          refine XS.istore X31.here hx rfl (hb hby at_151) rfl (l' := #[.val (.long a1), .second, .val (.long c1), .second, .val (.long a2), .second, .val (.long c2), .second, .val (.int mode), .val (.long (own_iv a1)), .second, .val (.long (c1 &&& (9223372036854775807 : Int64))), .second, .val (.long i2), .second, .val (.long t2), .second, .val (.ref b17), .val (.ref b19), .val (.int (own_eq (own_iv a1) (c1 &&& (9223372036854775807 : Int64)) i2 t2)), .val (.ref bl25), .val (.int (own_eq (own_iv a1) (c1 &&& (9223372036854775807 : Int64)) i2 t2)), .val (.int (own_eq (own_iv a1) (c1 &&& (9223372036854775807 : Int64)) i2 t2)), .val (.int (1 : Int32)), .val (.int (0 : Int32))]) rfl ?_
          show Steps p.tables e below (T31.setTop (mkF m 153 #[.val (.long a1), .second, .val (.long c1), .second, .val (.long a2), .second, .val (.long c2), .second, .val (.int mode), .val (.long (own_iv a1)), .second, .val (.long (c1 &&& (9223372036854775807 : Int64))), .second, .val (.long i2), .second, .val (.long t2), .second, .val (.ref b17), .val (.ref b19), .val (.int (own_eq (own_iv a1) (c1 &&& (9223372036854775807 : Int64)) i2 t2)), .val (.ref bl25), .val (.int (own_eq (own_iv a1) (c1 &&& (9223372036854775807 : Int64)) i2 t2)), .val (.int (own_eq (own_iv a1) (c1 &&& (9223372036854775807 : Int64)) i2 t2)), .val (.int (1 : Int32)), .val (.int (0 : Int32))] [])) tt
          refine XS.iload X31.here hx rfl (hb hby at_153) rfl ?_
          show Steps p.tables e below (T31.setTop (mkF m 155 #[.val (.long a1), .second, .val (.long c1), .second, .val (.long a2), .second, .val (.long c2), .second, .val (.int mode), .val (.long (own_iv a1)), .second, .val (.long (c1 &&& (9223372036854775807 : Int64))), .second, .val (.long i2), .second, .val (.long t2), .second, .val (.ref b17), .val (.ref b19), .val (.int (own_eq (own_iv a1) (c1 &&& (9223372036854775807 : Int64)) i2 t2)), .val (.ref bl25), .val (.int (own_eq (own_iv a1) (c1 &&& (9223372036854775807 : Int64)) i2 t2)), .val (.int (own_eq (own_iv a1) (c1 &&& (9223372036854775807 : Int64)) i2 t2)), .val (.int (1 : Int32)), .val (.int (0 : Int32))] [(.int (own_eq (own_iv a1) (c1 &&& (9223372036854775807 : Int64)) i2 t2))])) tt
          refine XS.iload X31.here hx rfl (hb hby at_155) rfl ?_
          show Steps p.tables e below (T31.setTop (mkF m 157 #[.val (.long a1), .second, .val (.long c1), .second, .val (.long a2), .second, .val (.long c2), .second, .val (.int mode), .val (.long (own_iv a1)), .second, .val (.long (c1 &&& (9223372036854775807 : Int64))), .second, .val (.long i2), .second, .val (.long t2), .second, .val (.ref b17), .val (.ref b19), .val (.int (own_eq (own_iv a1) (c1 &&& (9223372036854775807 : Int64)) i2 t2)), .val (.ref bl25), .val (.int (own_eq (own_iv a1) (c1 &&& (9223372036854775807 : Int64)) i2 t2)), .val (.int (own_eq (own_iv a1) (c1 &&& (9223372036854775807 : Int64)) i2 t2)), .val (.int (1 : Int32)), .val (.int (0 : Int32))] [(.int (own_eq (own_iv a1) (c1 &&& (9223372036854775807 : Int64)) i2 t2)), (.int (own_eq (own_iv a1) (c1 &&& (9223372036854775807 : Int64)) i2 t2))])) tt
          refine XS.icmpNo X31.here hx rfl (hb hby at_157) rfl (teq (rfl : (own_eq (own_iv a1) (c1 &&& (9223372036854775807 : Int64)) i2 t2) = (own_eq (own_iv a1) (c1 &&& (9223372036854775807 : Int64)) i2 t2))).2 ?_
          show Steps p.tables e below (T31.setTop (mkF m 160 #[.val (.long a1), .second, .val (.long c1), .second, .val (.long a2), .second, .val (.long c2), .second, .val (.int mode), .val (.long (own_iv a1)), .second, .val (.long (c1 &&& (9223372036854775807 : Int64))), .second, .val (.long i2), .second, .val (.long t2), .second, .val (.ref b17), .val (.ref b19), .val (.int (own_eq (own_iv a1) (c1 &&& (9223372036854775807 : Int64)) i2 t2)), .val (.ref bl25), .val (.int (own_eq (own_iv a1) (c1 &&& (9223372036854775807 : Int64)) i2 t2)), .val (.int (own_eq (own_iv a1) (c1 &&& (9223372036854775807 : Int64)) i2 t2)), .val (.int (1 : Int32)), .val (.int (0 : Int32))] [])) tt
          refine XS.iload X31.here hx rfl (hb hby at_160) rfl ?_
          show Steps p.tables e below (T31.setTop (mkF m 162 #[.val (.long a1), .second, .val (.long c1), .second, .val (.long a2), .second, .val (.long c2), .second, .val (.int mode), .val (.long (own_iv a1)), .second, .val (.long (c1 &&& (9223372036854775807 : Int64))), .second, .val (.long i2), .second, .val (.long t2), .second, .val (.ref b17), .val (.ref b19), .val (.int (own_eq (own_iv a1) (c1 &&& (9223372036854775807 : Int64)) i2 t2)), .val (.ref bl25), .val (.int (own_eq (own_iv a1) (c1 &&& (9223372036854775807 : Int64)) i2 t2)), .val (.int (own_eq (own_iv a1) (c1 &&& (9223372036854775807 : Int64)) i2 t2)), .val (.int (1 : Int32)), .val (.int (0 : Int32))] [(.int (own_eq (own_iv a1) (c1 &&& (9223372036854775807 : Int64)) i2 t2))])) tt
          refine XS.iload X31.here hx rfl (hb hby at_162) rfl ?_
          show Steps p.tables e below (T31.setTop (mkF m 164 #[.val (.long a1), .second, .val (.long c1), .second, .val (.long a2), .second, .val (.long c2), .second, .val (.int mode), .val (.long (own_iv a1)), .second, .val (.long (c1 &&& (9223372036854775807 : Int64))), .second, .val (.long i2), .second, .val (.long t2), .second, .val (.ref b17), .val (.ref b19), .val (.int (own_eq (own_iv a1) (c1 &&& (9223372036854775807 : Int64)) i2 t2)), .val (.ref bl25), .val (.int (own_eq (own_iv a1) (c1 &&& (9223372036854775807 : Int64)) i2 t2)), .val (.int (own_eq (own_iv a1) (c1 &&& (9223372036854775807 : Int64)) i2 t2)), .val (.int (1 : Int32)), .val (.int (0 : Int32))] [(.int (own_eq (own_iv a1) (c1 &&& (9223372036854775807 : Int64)) i2 t2)), (.int (own_eq (own_iv a1) (c1 &&& (9223372036854775807 : Int64)) i2 t2))])) tt
          refine XS.icmpNo X31.here hx rfl (hb hby at_164) rfl (teq (rfl : (own_eq (own_iv a1) (c1 &&& (9223372036854775807 : Int64)) i2 t2) = (own_eq (own_iv a1) (c1 &&& (9223372036854775807 : Int64)) i2 t2))).2 ?_
          show Steps p.tables e below (T31.setTop (mkF m 167 #[.val (.long a1), .second, .val (.long c1), .second, .val (.long a2), .second, .val (.long c2), .second, .val (.int mode), .val (.long (own_iv a1)), .second, .val (.long (c1 &&& (9223372036854775807 : Int64))), .second, .val (.long i2), .second, .val (.long t2), .second, .val (.ref b17), .val (.ref b19), .val (.int (own_eq (own_iv a1) (c1 &&& (9223372036854775807 : Int64)) i2 t2)), .val (.ref bl25), .val (.int (own_eq (own_iv a1) (c1 &&& (9223372036854775807 : Int64)) i2 t2)), .val (.int (own_eq (own_iv a1) (c1 &&& (9223372036854775807 : Int64)) i2 t2)), .val (.int (1 : Int32)), .val (.int (0 : Int32))] [])) tt
          refine XS.iload X31.here hx rfl (hb hby at_167) rfl ?_
          show Steps p.tables e below (T31.setTop (mkF m 169 #[.val (.long a1), .second, .val (.long c1), .second, .val (.long a2), .second, .val (.long c2), .second, .val (.int mode), .val (.long (own_iv a1)), .second, .val (.long (c1 &&& (9223372036854775807 : Int64))), .second, .val (.long i2), .second, .val (.long t2), .second, .val (.ref b17), .val (.ref b19), .val (.int (own_eq (own_iv a1) (c1 &&& (9223372036854775807 : Int64)) i2 t2)), .val (.ref bl25), .val (.int (own_eq (own_iv a1) (c1 &&& (9223372036854775807 : Int64)) i2 t2)), .val (.int (own_eq (own_iv a1) (c1 &&& (9223372036854775807 : Int64)) i2 t2)), .val (.int (1 : Int32)), .val (.int (0 : Int32))] [(.int (1 : Int32))])) tt
          refine XS.ifNo X31.here hx rfl (hb hby at_169) rfl ((if0 _ _).trans (feq (by decide : ¬ ((1 : Int32) = (0 : Int32)))).1) ?_
          show Steps p.tables e below (T31.setTop (mkF m 172 #[.val (.long a1), .second, .val (.long c1), .second, .val (.long a2), .second, .val (.long c2), .second, .val (.int mode), .val (.long (own_iv a1)), .second, .val (.long (c1 &&& (9223372036854775807 : Int64))), .second, .val (.long i2), .second, .val (.long t2), .second, .val (.ref b17), .val (.ref b19), .val (.int (own_eq (own_iv a1) (c1 &&& (9223372036854775807 : Int64)) i2 t2)), .val (.ref bl25), .val (.int (own_eq (own_iv a1) (c1 &&& (9223372036854775807 : Int64)) i2 t2)), .val (.int (own_eq (own_iv a1) (c1 &&& (9223372036854775807 : Int64)) i2 t2)), .val (.int (1 : Int32)), .val (.int (0 : Int32))] [])) tt
          refine XS.iload X31.here hx rfl (hb hby at_172) rfl ?_
          show Steps p.tables e below (T31.setTop (mkF m 174 #[.val (.long a1), .second, .val (.long c1), .second, .val (.long a2), .second, .val (.long c2), .second, .val (.int mode), .val (.long (own_iv a1)), .second, .val (.long (c1 &&& (9223372036854775807 : Int64))), .second, .val (.long i2), .second, .val (.long t2), .second, .val (.ref b17), .val (.ref b19), .val (.int (own_eq (own_iv a1) (c1 &&& (9223372036854775807 : Int64)) i2 t2)), .val (.ref bl25), .val (.int (own_eq (own_iv a1) (c1 &&& (9223372036854775807 : Int64)) i2 t2)), .val (.int (own_eq (own_iv a1) (c1 &&& (9223372036854775807 : Int64)) i2 t2)), .val (.int (1 : Int32)), .val (.int (0 : Int32))] [(.int (0 : Int32))])) tt
          refine XS.ifNo X31.here hx rfl (hb hby at_174) rfl ((if0 _ _).trans (teq (by decide : (0 : Int32) = (0 : Int32))).2) ?_
          show Steps p.tables e below (T31.setTop (mkF m 177 #[.val (.long a1), .second, .val (.long c1), .second, .val (.long a2), .second, .val (.long c2), .second, .val (.int mode), .val (.long (own_iv a1)), .second, .val (.long (c1 &&& (9223372036854775807 : Int64))), .second, .val (.long i2), .second, .val (.long t2), .second, .val (.ref b17), .val (.ref b19), .val (.int (own_eq (own_iv a1) (c1 &&& (9223372036854775807 : Int64)) i2 t2)), .val (.ref bl25), .val (.int (own_eq (own_iv a1) (c1 &&& (9223372036854775807 : Int64)) i2 t2)), .val (.int (own_eq (own_iv a1) (c1 &&& (9223372036854775807 : Int64)) i2 t2)), .val (.int (1 : Int32)), .val (.int (0 : Int32))] [])) tt
          refine XS.iconst X31.here hx rfl (hb hby at_177) ?_
          show Steps p.tables e below (T31.setTop (mkF m 178 #[.val (.long a1), .second, .val (.long c1), .second, .val (.long a2), .second, .val (.long c2), .second, .val (.int mode), .val (.long (own_iv a1)), .second, .val (.long (c1 &&& (9223372036854775807 : Int64))), .second, .val (.long i2), .second, .val (.long t2), .second, .val (.ref b17), .val (.ref b19), .val (.int (own_eq (own_iv a1) (c1 &&& (9223372036854775807 : Int64)) i2 t2)), .val (.ref bl25), .val (.int (own_eq (own_iv a1) (c1 &&& (9223372036854775807 : Int64)) i2 t2)), .val (.int (own_eq (own_iv a1) (c1 &&& (9223372036854775807 : Int64)) i2 t2)), .val (.int (1 : Int32)), .val (.int (0 : Int32))] [(.int (1 : Int32))])) tt
          refine XS.goto X31.here hx rfl (pc0 := 178) (pc' := 182) rfl (hb hby at_178) (by decide) (by decide) ?_
          exact kk
        obtain ⟨fs, hr, hrun, hended, hW, hsame⟩ := X31.leave (v := some (.int (1 : Int32))) (fun hq => by rw [Bd.returns] at hq; cases hq)
        refine ⟨_, _, k32 _ ?_, hrun, hended, _, _, rfl, ?_, ⟨_, rfl⟩, hW, hsame.mono (by decide) (by decide)⟩
        · show Steps p.tables e below (T31.setTop (mkF m 182 #[.val (.long a1), .second, .val (.long c1), .second, .val (.long a2), .second, .val (.long c2), .second, .val (.int mode), .val (.long (own_iv a1)), .second, .val (.long (c1 &&& (9223372036854775807 : Int64))), .second, .val (.long i2), .second, .val (.long t2), .second, .val (.ref b17), .val (.ref b19), .val (.int (own_eq (own_iv a1) (c1 &&& (9223372036854775807 : Int64)) i2 t2)), .val (.ref bl25), .val (.int (own_eq (own_iv a1) (c1 &&& (9223372036854775807 : Int64)) i2 t2)), .val (.int (own_eq (own_iv a1) (c1 &&& (9223372036854775807 : Int64)) i2 t2)), .val (.int (1 : Int32)), .val (.int (0 : Int32))] [(.int (1 : Int32))])) _
          exact retN X31 hx (t := .boolean) Bd.returns (by simp) (hb hby at_182) hr
        · show (fun (v : Option Value) (h : Heap) (L : List Loc) => v = some (.int (1 : Int32)) ∧ Fr n0 L) _ T31.heap _
          rw [hh31]
          dsimp only
          exact ⟨rfl, N31⟩
      · have hf34 := ((Fld.ext E19 Fa18).keep K20 (ninS (Nat.ne_of_lt (Nat.lt_of_lt_of_le (A17.keep K18).lt (Nat.le_of_eq g19.symm))) nin0))
        have hf35 := ((Fld.ext E19 Fb18).keep K20 (ninS (Nat.ne_of_lt (Nat.lt_of_lt_of_le (A17.keep K18).lt (Nat.le_of_eq g19.symm))) nin0))
        obtain ⟨cq33, kq33, q33a, q33b, q33c⟩ := isOf hZ rfl ((Exa.ext E19 (A17.keep K18)).keep K20)
        obtain ⟨_, _, ⟨T33, L33, ka33, na33⟩, -, X33, ⟨Lc33, hQ33, l33, y33, z33⟩, st33⟩ := X20.virtualBack hx (y := (⟨"com/example/curb_queries/curbqueries/admission/OverloadLimits", "equals", "(Ljava/lang/Object;)Z"⟩ : MethodName)) (z := (⟨"com/example/curb_queries/curbqueries/admission/OverloadLimits", "equals", "(Ljava/lang/Object;)Z"⟩ : MethodName)) hown (mvT hZ (hw _ (List.mem_of_getElem? (i := 29) rfl))) (mvT hZ (hw _ (List.mem_of_getElem? (i := 30) rfl))) (notFace_of_selects (args := #[]) (mvT hZ (hw _ (List.mem_of_getElem? (i := 32) rfl)))) (mvT hZ (hw _ (List.mem_of_getElem? (i := 32) rfl))) (mvT hZ (hw _ (List.mem_of_getElem? (i := 31) rfl))) (by decide) (backOf (W := 0) (own_rmE l Z a0 hw [] b17 b19 (own_iv a1) (c1 &&& (9223372036854775807 : Int64)) i2 t2 T20.heap n0 Z20 (A19.keep K20) hf34 hf35 Fa20 Fb20) hZ (hw _ (List.mem_of_getElem? (i := 33) rfl)) (hw _ (List.mem_of_getElem? (i := 10) rfl)) (by decide) (by decide)) q33a q33c (g := (mkF m 121 #[.val (.long a1), .second, .val (.long c1), .second, .val (.long a2), .second, .val (.long c2), .second, .val (.int mode), .val (.long (own_iv a1)), .second, .val (.long (c1 &&& (9223372036854775807 : Int64))), .second, .val (.long i2), .second, .val (.long t2), .second, .val (.ref b17), .val (.ref b19), .val (.int (own_eq (own_iv a1) (c1 &&& (9223372036854775807 : Int64)) i2 t2)), .val .null, .unset, .unset, .unset, .unset] [(.ref b19), (.ref b17)])) rfl (by rw [hml]; rfl) (Steps.refl _) (argsL := [(.ref b19)]) (rest := []) (lenOf own_pd__Ljava_lang_Object__Z rfl) rfl (by show 2 * 0 + _ ≤ _; exact Nat.le_of_eq rfl) (hb hby at_121) (fun _ _ => ⟨rfl, rfl, (by decide : 2 + 0 ≤ _), (by decide : 4 + 0 ≤ _)⟩)
        dsimp only [Pt.U, Pt.locs, Pt.cells, Pt.slots] at X33 l33 y33 z33 st33 hQ33
        subst l33 y33 z33
        obtain ⟨rfl, Nq33, hh33⟩ := hQ33
        have N33 := Fr.app N20 Nq33
        obtain ⟨cq36, kq36, q36a, q36b, q36c⟩ := isOf hZ hh33 (A19.keep K20)
        obtain ⟨_, _, ⟨T36, L36, ka36, na36⟩, -, X36, ⟨Lc36, hQ36, l36, y36, z36⟩, st36⟩ := X33.virtualBack hx (y := (⟨"com/example/curb_queries/curbqueries/admission/OverloadLimits", "equals", "(Ljava/lang/Object;)Z"⟩ : MethodName)) (z := (⟨"com/example/curb_queries/curbqueries/admission/OverloadLimits", "equals", "(Ljava/lang/Object;)Z"⟩ : MethodName)) hown (mvT hZ (hw _ (List.mem_of_getElem? (i := 29) rfl))) (mvT hZ (hw _ (List.mem_of_getElem? (i := 30) rfl))) (notFace_of_selects (args := #[]) (mvT hZ (hw _ (List.mem_of_getElem? (i := 32) rfl)))) (mvT hZ (hw _ (List.mem_of_getElem? (i := 32) rfl))) (mvT hZ (hw _ (List.mem_of_getElem? (i := 31) rfl))) (by decide) (backOf (W := 0) (own_rmE l Z a0 hw [] b19 b17 i2 t2 (own_iv a1) (c1 &&& (9223372036854775807 : Int64)) T20.heap n0 Z20 ((Exa.ext E19 (A17.keep K18)).keep K20) Fa20 Fb20 hf34 hf35) hZ (hw _ (List.mem_of_getElem? (i := 33) rfl)) (hw _ (List.mem_of_getElem? (i := 10) rfl)) (by decide) (by decide)) q36a q36c (g := (mkF m 130 #[.val (.long a1), .second, .val (.long c1), .second, .val (.long a2), .second, .val (.long c2), .second, .val (.int mode), .val (.long (own_iv a1)), .second, .val (.long (c1 &&& (9223372036854775807 : Int64))), .second, .val (.long i2), .second, .val (.long t2), .second, .val (.ref b17), .val (.ref b19), .val (.int (own_eq (own_iv a1) (c1 &&& (9223372036854775807 : Int64)) i2 t2)), .val .null, .val (.int (own_eq (own_iv a1) (c1 &&& (9223372036854775807 : Int64)) i2 t2)), .unset, .unset, .unset] [(.ref b17), (.ref b19)])) rfl (by rw [hml]; rfl) (Steps.refl _) (argsL := [(.ref b17)]) (rest := []) (lenOf own_pd__Ljava_lang_Object__Z rfl) rfl (by show 2 * 0 + _ ≤ _; exact Nat.le_of_eq rfl) (hb hby at_130) (fun _ _ => ⟨rfl, hh33, (by decide : 2 + 0 ≤ _), (by decide : 4 + 0 ≤ _)⟩)
        dsimp only [Pt.U, Pt.locs, Pt.cells, Pt.slots] at X36 l36 y36 z36 st36 hQ36
        subst l36 y36 z36
        obtain ⟨hv36, Nq36, hh36⟩ := hQ36
        have N36 := Fr.app N33 Nq36
        rw [own_eq_comm] at hv36
        subst hv36
        obtain ⟨cq37, kq37, q37a, q37b, q37c⟩ := isOf hZ hh36 ((Exa.ext E19 (A17.keep K18)).keep K20)
        obtain ⟨_, _, ⟨T37, L37, ka37, na37⟩, -, X37, ⟨Lc37, hQ37, l37, y37, z37⟩, st37⟩ := X36.virtualBack hx (y := (⟨"com/example/curb_queries/curbqueries/admission/OverloadLimits", "equals", "(Ljava/lang/Object;)Z"⟩ : MethodName)) (z := (⟨"com/example/curb_queries/curbqueries/admission/OverloadLimits", "equals", "(Ljava/lang/Object;)Z"⟩ : MethodName)) hown (mvT hZ (hw _ (List.mem_of_getElem? (i := 29) rfl))) (mvT hZ (hw _ (List.mem_of_getElem? (i := 30) rfl))) (notFace_of_selects (args := #[]) (mvT hZ (hw _ (List.mem_of_getElem? (i := 32) rfl)))) (mvT hZ (hw _ (List.mem_of_getElem? (i := 32) rfl))) (mvT hZ (hw _ (List.mem_of_getElem? (i := 31) rfl))) (by decide) (backOf (W := 0) (own_rmE l Z a0 hw [] b17 b17 (own_iv a1) (c1 &&& (9223372036854775807 : Int64)) (own_iv a1) (c1 &&& (9223372036854775807 : Int64)) T20.heap n0 Z20 ((Exa.ext E19 (A17.keep K18)).keep K20) hf34 hf35 hf34 hf35) hZ (hw _ (List.mem_of_getElem? (i := 33) rfl)) (hw _ (List.mem_of_getElem? (i := 10) rfl)) (by decide) (by decide)) q37a q37c (g := (mkF m 139 #[.val (.long a1), .second, .val (.long c1), .second, .val (.long a2), .second, .val (.long c2), .second, .val (.int mode), .val (.long (own_iv a1)), .second, .val (.long (c1 &&& (9223372036854775807 : Int64))), .second, .val (.long i2), .second, .val (.long t2), .second, .val (.ref b17), .val (.ref b19), .val (.int (own_eq (own_iv a1) (c1 &&& (9223372036854775807 : Int64)) i2 t2)), .val .null, .val (.int (own_eq (own_iv a1) (c1 &&& (9223372036854775807 : Int64)) i2 t2)), .val (.int (own_eq (own_iv a1) (c1 &&& (9223372036854775807 : Int64)) i2 t2)), .unset, .unset] [(.ref b17), (.ref b17)])) rfl (by rw [hml]; rfl) (Steps.refl _) (argsL := [(.ref b17)]) (rest := []) (lenOf own_pd__Ljava_lang_Object__Z rfl) rfl (by show 2 * 0 + _ ≤ _; exact Nat.le_of_eq rfl) (hb hby at_139) (fun _ _ => ⟨rfl, hh36, (by decide : 2 + 0 ≤ _), (by decide : 4 + 0 ≤ _)⟩)
        dsimp only [Pt.U, Pt.locs, Pt.cells, Pt.slots] at X37 l37 y37 z37 st37 hQ37
        subst l37 y37 z37
        obtain ⟨hv37, Nq37, hh37⟩ := hQ37
        have N37 := Fr.app N36 Nq37
        rw [own_eq_self] at hv37
        subst hv37
        obtain ⟨cq38, kq38, q38a, q38b, q38c⟩ := isOf hZ hh37 ((Exa.ext E19 (A17.keep K18)).keep K20)
        obtain ⟨_, _, ⟨T38, L38, ka38, na38⟩, -, X38, ⟨Lc38, hQ38, l38, y38, z38⟩, st38⟩ := X37.virtualBack hx (y := (⟨"com/example/curb_queries/curbqueries/admission/OverloadLimits", "equals", "(Ljava/lang/Object;)Z"⟩ : MethodName)) (z := (⟨"com/example/curb_queries/curbqueries/admission/OverloadLimits", "equals", "(Ljava/lang/Object;)Z"⟩ : MethodName)) hown (mvT hZ (hw _ (List.mem_of_getElem? (i := 29) rfl))) (mvT hZ (hw _ (List.mem_of_getElem? (i := 30) rfl))) (notFace_of_selects (args := #[]) (mvT hZ (hw _ (List.mem_of_getElem? (i := 32) rfl)))) (mvT hZ (hw _ (List.mem_of_getElem? (i := 32) rfl))) (mvT hZ (hw _ (List.mem_of_getElem? (i := 31) rfl))) (by decide) (backOf (W := 0) (own_rmEn l Z a0 hw [] b17 T20.heap n0 Z20) hZ (hw _ (List.mem_of_getElem? (i := 33) rfl)) (hw _ (List.mem_of_getElem? (i := 10) rfl)) (by decide) (by decide)) q38a q38c (g := (mkF m 148 #[.val (.long a1), .second, .val (.long c1), .second, .val (.long a2), .second, .val (.long c2), .second, .val (.int mode), .val (.long (own_iv a1)), .second, .val (.long (c1 &&& (9223372036854775807 : Int64))), .second, .val (.long i2), .second, .val (.long t2), .second, .val (.ref b17), .val (.ref b19), .val (.int (own_eq (own_iv a1) (c1 &&& (9223372036854775807 : Int64)) i2 t2)), .val .null, .val (.int (own_eq (own_iv a1) (c1 &&& (9223372036854775807 : Int64)) i2 t2)), .val (.int (own_eq (own_iv a1) (c1 &&& (9223372036854775807 : Int64)) i2 t2)), .val (.int (1 : Int32)), .unset] [.null, (.ref b17)])) rfl (by rw [hml]; rfl) (Steps.refl _) (argsL := [.null]) (rest := []) (lenOf own_pd__Ljava_lang_Object__Z rfl) rfl (by show 2 * 0 + _ ≤ _; exact Nat.le_of_eq rfl) (hb hby at_148) (fun _ _ => ⟨rfl, hh37, (by decide : 2 + 0 ≤ _), (by decide : 4 + 0 ≤ _)⟩)
        dsimp only [Pt.U, Pt.locs, Pt.cells, Pt.slots] at X38 l38 y38 z38 st38 hQ38
        subst l38 y38 z38
        obtain ⟨rfl, Nq38, hh38⟩ := hQ38
        have N38 := Fr.app N37 Nq38
        have k39 : ∀ tt, Steps p.tables e below (T38.setTop (mkF m 182 #[.val (.long a1), .second, .val (.long c1), .second, .val (.long a2), .second, .val (.long c2), .second, .val (.int mode), .val (.long (own_iv a1)), .second, .val (.long (c1 &&& (9223372036854775807 : Int64))), .second, .val (.long i2), .second, .val (.long t2), .second, .val (.ref b17), .val (.ref b19), .val (.int (own_eq (own_iv a1) (c1 &&& (9223372036854775807 : Int64)) i2 t2)), .val .null, .val (.int (own_eq (own_iv a1) (c1 &&& (9223372036854775807 : Int64)) i2 t2)), .val (.int (own_eq (own_iv a1) (c1 &&& (9223372036854775807 : Int64)) i2 t2)), .val (.int (1 : Int32)), .val (.int (0 : Int32))] [(.int (1 : Int32))])) tt → Steps p.tables e below (s₁.setTop (entryFrame m #[(.long a1), (.long c1), (.long a2), (.long c2), (.int mode)] maxLocals)) tt := by
          intro tt kk
          refine k23 tt ?_
          show Steps p.tables e below (T20.setTop (mkF m 103 #[.val (.long a1), .second, .val (.long c1), .second, .val (.long a2), .second, .val (.long c2), .second, .val (.int mode), .val (.long (own_iv a1)), .second, .val (.long (c1 &&& (9223372036854775807 : Int64))), .second, .val (.long i2), .second, .val (.long t2), .second, .val (.ref b17), .val (.ref b19), .val (.int (own_eq (own_iv a1) (c1 &&& (9223372036854775807 : Int64)) i2 t2)), .unset, .unset, .unset, .unset, .unset] [(.int (mode &&& (4 : Int32)))])) tt
          refine XS.ifNo X20.here hx rfl (hb hby at_103) rfl ((if0 _ _).trans (feq (c103_24 : ¬ ((mode &&& (4 : Int32)) = (0 : Int32)))).1) ?_
          show Steps p.tables e below (T20.setTop (mkF m 106 #[.val (.long a1), .second, .val (.long c1), .second, .val (.long a2), .second, .val (.long c2), .second, .val (.int mode), .val (.long (own_iv a1)), .second, .val (.long (c1 &&& (9223372036854775807 : Int64))), .second, .val (.long i2), .second, .val (.long t2), .second, .val (.ref b17), .val (.ref b19), .val (.int (own_eq (own_iv a1) (c1 &&& (9223372036854775807 : Int64)) i2 t2)), .unset, .unset, .unset, .unset, .unset] [])) tt
          refine XS.aconstNull X20.here hx rfl (hb hby at_106) ?_
          show Steps p.tables e below (T20.setTop (mkF m 107 #[.val (.long a1), .second, .val (.long c1), .second, .val (.long a2), .second, .val (.long c2), .second, .val (.int mode), .val (.long (own_iv a1)), .second, .val (.long (c1 &&& (9223372036854775807 : Int64))), .second, .val (.long i2), .second, .val (.long t2), .second, .val (.ref b17), .val (.ref b19), .val (.int (own_eq (own_iv a1) (c1 &&& (9223372036854775807 : Int64)) i2 t2)), .unset, .unset, .unset, .unset, .unset] [.null])) tt
          refine XS.goto X20.here hx rfl (pc0 := 107) (pc' := 115) rfl (hb hby at_107) (by decide) (by decide) ?_
          show Steps p.tables e below (T20.setTop (mkF m 115 #[.val (.long a1), .second, .val (.long c1), .second, .val (.long a2), .second, .val (.long c2), .second, .val (.int mode), .val (.long (own_iv a1)), .second, .val (.long (c1 &&& (9223372036854775807 : Int64))), .second, .val (.long i2), .second, .val (.long t2), .second, .val (.ref b17), .val (.ref b19), .val (.int (own_eq (own_iv a1) (c1 &&& (9223372036854775807 : Int64)) i2 t2)), .unset, .unset, .unset, .unset, .unset] [.null])) tt
          refine XS.astore X20.here hx rfl (hb hby at_115) rfl rfl (l' := #[.val (.long a1), .second, .val (.long c1), .second, .val (.long a2), .second, .val (.long c2), .second, .val (.int mode), .val (.long (own_iv a1)), .second, .val (.long (c1 &&& (9223372036854775807 : Int64))), .second, .val (.long i2), .second, .val (.long t2), .second, .val (.ref b17), .val (.ref b19), .val (.int (own_eq (own_iv a1) (c1 &&& (9223372036854775807 : Int64)) i2 t2)), .val .null, .unset, .unset, .unset, .unset]) rfl ?_
          show Steps p.tables e below (T20.setTop (mkF m 117 #[.val (.long a1), .second, .val (.long c1), .second, .val (.long a2), .second, .val (.long c2), .second, .val (.int mode), .val (.long (own_iv a1)), .second, .val (.long (c1 &&& (9223372036854775807 : Int64))), .second, .val (.long i2), .second, .val (.long t2), .second, .val (.ref b17), .val (.ref b19), .val (.int (own_eq (own_iv a1) (c1 &&& (9223372036854775807 : Int64)) i2 t2)), .val .null, .unset, .unset, .unset, .unset] [])) tt
          refine XS.aload X20.here hx rfl (hb hby at_117) rfl rfl ?_
          show Steps p.tables e below (T20.setTop (mkF m 119 #[.val (.long a1), .second, .val (.long c1), .second, .val (.long a2), .second, .val (.long c2), .second, .val (.int mode), .val (.long (own_iv a1)), .second, .val (.long (c1 &&& (9223372036854775807 : Int64))), .second, .val (.long i2), .second, .val (.long t2), .second, .val (.ref b17), .val (.ref b19), .val (.int (own_eq (own_iv a1) (c1 &&& (9223372036854775807 : Int64)) i2 t2)), .val .null, .unset, .unset, .unset, .unset] [(.ref b17)])) tt
          refine XS.aload X20.here hx rfl (hb hby at_119) rfl rfl ?_
          show Steps p.tables e below (T20.setTop (mkF m 121 #[.val (.long a1), .second, .val (.long c1), .second, .val (.long a2), .second, .val (.long c2), .second, .val (.int mode), .val (.long (own_iv a1)), .second, .val (.long (c1 &&& (9223372036854775807 : Int64))), .second, .val (.long i2), .second, .val (.long t2), .second, .val (.ref b17), .val (.ref b19), .val (.int (own_eq (own_iv a1) (c1 &&& (9223372036854775807 : Int64)) i2 t2)), .val .null, .unset, .unset, .unset, .unset] [(.ref b19), (.ref b17)])) tt
          refine st33.trans ?_
          show Steps p.tables e below (T33.setTop (mkF m 124 #[.val (.long a1), .second, .val (.long c1), .second, .val (.long a2), .second, .val (.long c2), .second, .val (.int mode), .val (.long (own_iv a1)), .second, .val (.long (c1 &&& (9223372036854775807 : Int64))), .second, .val (.long i2), .second, .val (.long t2), .second, .val (.ref b17), .val (.ref b19), .val (.int (own_eq (own_iv a1) (c1 &&& (9223372036854775807 : Int64)) i2 t2)), .val .null, .unset, .unset, .unset, .unset] [(.int (own_eq (own_iv a1) (c1 &&& (9223372036854775807 : Int64)) i2 t2))])) tt
          refine XS.istore X33.here hx rfl (hb hby at_124) rfl (l' := #[.val (.long a1), .second, .val (.long c1), .second, .val (.long a2), .second, .val (.long c2), .second, .val (.int mode), .val (.long (own_iv a1)), .second, .val (.long (c1 &&& (9223372036854775807 : Int64))), .second, .val (.long i2), .second, .val (.long t2), .second, .val (.ref b17), .val (.ref b19), .val (.int (own_eq (own_iv a1) (c1 &&& (9223372036854775807 : Int64)) i2 t2)), .val .null, .val (.int (own_eq (own_iv a1) (c1 &&& (9223372036854775807 : Int64)) i2 t2)), .unset, .unset, .unset]) rfl ?_
          show Steps p.tables e below (T33.setTop (mkF m 126 #[.val (.long a1), .second, .val (.long c1), .second, .val (.long a2), .second, .val (.long c2), .second, .val (.int mode), .val (.long (own_iv a1)), .second, .val (.long (c1 &&& (9223372036854775807 : Int64))), .second, .val (.long i2), .second, .val (.long t2), .second, .val (.ref b17), .val (.ref b19), .val (.int (own_eq (own_iv a1) (c1 &&& (9223372036854775807 : Int64)) i2 t2)), .val .null, .val (.int (own_eq (own_iv a1) (c1 &&& (9223372036854775807 : Int64)) i2 t2)), .unset, .unset, .unset] [])) tt
          refine XS.aload X33.here hx rfl (hb hby at_126) rfl rfl ?_
          show Steps p.tables e below (T33.setTop (mkF m 128 #[.val (.long a1), .second, .val (.long c1), .second, .val (.long a2), .second, .val (.long c2), .second, .val (.int mode), .val (.long (own_iv a1)), .second, .val (.long (c1 &&& (9223372036854775807 : Int64))), .second, .val (.long i2), .second, .val (.long t2), .second, .val (.ref b17), .val (.ref b19), .val (.int (own_eq (own_iv a1) (c1 &&& (9223372036854775807 : Int64)) i2 t2)), .val .null, .val (.int (own_eq (own_iv a1) (c1 &&& (9223372036854775807 : Int64)) i2 t2)), .unset, .unset, .unset] [(.ref b19)])) tt
          refine XS.aload X33.here hx rfl (hb hby at_128) rfl rfl ?_
          show Steps p.tables e below (T33.setTop (mkF m 130 #[.val (.long a1), .second, .val (.long c1), .second, .val (.long a2), .second, .val (.long c2), .second, .val (.int mode), .val (.long (own_iv a1)), .second, .val (.long (c1 &&& (9223372036854775807 : Int64))), .second, .val (.long i2), .second, .val (.long t2), .second, .val (.ref b17), .val (.ref b19), .val (.int (own_eq (own_iv a1) (c1 &&& (9223372036854775807 : Int64)) i2 t2)), .val .null, .val (.int (own_eq (own_iv a1) (c1 &&& (9223372036854775807 : Int64)) i2 t2)), .unset, .unset, .unset] [(.ref b17), (.ref b19)])) tt
          refine st36.trans ?_
          show Steps p.tables e below (T36.setTop (mkF m 133 #[.val (.long a1), .second, .val (.long c1), .second, .val (.long a2), .second, .val (.long c2), .second, .val (.int mode), .val (.long (own_iv a1)), .second, .val (.long (c1 &&& (9223372036854775807 : Int64))), .second, .val (.long i2), .second, .val (.long t2), .second, .val (.ref b17), .val (.ref b19), .val (.int (own_eq (own_iv a1) (c1 &&& (9223372036854775807 : Int64)) i2 t2)), .val .null, .val (.int (own_eq (own_iv a1) (c1 &&& (9223372036854775807 : Int64)) i2 t2)), .unset, .unset, .unset] [(.int (own_eq (own_iv a1) (c1 &&& (9223372036854775807 : Int64)) i2 t2))])) tt
          refine XS.istore X36.here hx rfl (hb hby at_133) rfl (l' := #[.val (.long a1), .second, .val (.long c1), .second, .val (.long a2), .second, .val (.long c2), .second, .val (.int mode), .val (.long (own_iv a1)), .second, .val (.long (c1 &&& (9223372036854775807 : Int64))), .second, .val (.long i2), .second, .val (.long t2), .second, .val (.ref b17), .val (.ref b19), .val (.int (own_eq (own_iv a1) (c1 &&& (9223372036854775807 : Int64)) i2 t2)), .val .null, .val (.int (own_eq (own_iv a1) (c1 &&& (9223372036854775807 : Int64)) i2 t2)), .val (.int (own_eq (own_iv a1) (c1 &&& (9223372036854775807 : Int64)) i2 t2)), .unset, .unset]) rfl ?_
          show Steps p.tables e below (T36.setTop (mkF m 135 #[.val (.long a1), .second, .val (.long c1), .second, .val (.long a2), .second, .val (.long c2), .second, .val (.int mode), .val (.long (own_iv a1)), .second, .val (.long (c1 &&& (9223372036854775807 : Int64))), .second, .val (.long i2), .second, .val (.long t2), .second, .val (.ref b17), .val (.ref b19), .val (.int (own_eq (own_iv a1) (c1 &&& (9223372036854775807 : Int64)) i2 t2)), .val .null, .val (.int (own_eq (own_iv a1) (c1 &&& (9223372036854775807 : Int64)) i2 t2)), .val (.int (own_eq (own_iv a1) (c1 &&& (9223372036854775807 : Int64)) i2 t2)), .unset, .unset] [])) tt
          refine XS.aload X36.here hx rfl (hb hby at_135) rfl rfl ?_
          show Steps p.tables e below (T36.setTop (mkF m 137 #[.val (.long a1), .second, .val (.long c1), .second, .val (.long a2), .second, .val (.long c2), .second, .val (.int mode), .val (.long (own_iv a1)), .second, .val (.long (c1 &&& (9223372036854775807 : Int64))), .second, .val (.long i2), .second, .val (.long t2), .second, .val (.ref b17), .val (.ref b19), .val (.int (own_eq (own_iv a1) (c1 &&& (9223372036854775807 : Int64)) i2 t2)), .val .null, .val (.int (own_eq (own_iv a1) (c1 &&& (9223372036854775807 : Int64)) i2 t2)), .val (.int (own_eq (own_iv a1) (c1 &&& (9223372036854775807 : Int64)) i2 t2)), .unset, .unset] [(.ref b17)])) tt
          refine XS.aload X36.here hx rfl (hb hby at_137) rfl rfl ?_
          show Steps p.tables e below (T36.setTop (mkF m 139 #[.val (.long a1), .second, .val (.long c1), .second, .val (.long a2), .second, .val (.long c2), .second, .val (.int mode), .val (.long (own_iv a1)), .second, .val (.long (c1 &&& (9223372036854775807 : Int64))), .second, .val (.long i2), .second, .val (.long t2), .second, .val (.ref b17), .val (.ref b19), .val (.int (own_eq (own_iv a1) (c1 &&& (9223372036854775807 : Int64)) i2 t2)), .val .null, .val (.int (own_eq (own_iv a1) (c1 &&& (9223372036854775807 : Int64)) i2 t2)), .val (.int (own_eq (own_iv a1) (c1 &&& (9223372036854775807 : Int64)) i2 t2)), .unset, .unset] [(.ref b17), (.ref b17)])) tt
          refine st37.trans ?_
          show Steps p.tables e below (T37.setTop (mkF m 142 #[.val (.long a1), .second, .val (.long c1), .second, .val (.long a2), .second, .val (.long c2), .second, .val (.int mode), .val (.long (own_iv a1)), .second, .val (.long (c1 &&& (9223372036854775807 : Int64))), .second, .val (.long i2), .second, .val (.long t2), .second, .val (.ref b17), .val (.ref b19), .val (.int (own_eq (own_iv a1) (c1 &&& (9223372036854775807 : Int64)) i2 t2)), .val .null, .val (.int (own_eq (own_iv a1) (c1 &&& (9223372036854775807 : Int64)) i2 t2)), .val (.int (own_eq (own_iv a1) (c1 &&& (9223372036854775807 : Int64)) i2 t2)), .unset, .unset] [(.int (1 : Int32))])) tt
          refine XS.istore X37.here hx rfl (hb hby at_142) rfl (l' := #[.val (.long a1), .second, .val (.long c1), .second, .val (.long a2), .second, .val (.long c2), .second, .val (.int mode), .val (.long (own_iv a1)), .second, .val (.long (c1 &&& (9223372036854775807 : Int64))), .second, .val (.long i2), .second, .val (.long t2), .second, .val (.ref b17), .val (.ref b19), .val (.int (own_eq (own_iv a1) (c1 &&& (9223372036854775807 : Int64)) i2 t2)), .val .null, .val (.int (own_eq (own_iv a1) (c1 &&& (9223372036854775807 : Int64)) i2 t2)), .val (.int (own_eq (own_iv a1) (c1 &&& (9223372036854775807 : Int64)) i2 t2)), .val (.int (1 : Int32)), .unset]) rfl ?_
          show Steps p.tables e below (T37.setTop (mkF m 144 #[.val (.long a1), .second, .val (.long c1), .second, .val (.long a2), .second, .val (.long c2), .second, .val (.int mode), .val (.long (own_iv a1)), .second, .val (.long (c1 &&& (9223372036854775807 : Int64))), .second, .val (.long i2), .second, .val (.long t2), .second, .val (.ref b17), .val (.ref b19), .val (.int (own_eq (own_iv a1) (c1 &&& (9223372036854775807 : Int64)) i2 t2)), .val .null, .val (.int (own_eq (own_iv a1) (c1 &&& (9223372036854775807 : Int64)) i2 t2)), .val (.int (own_eq (own_iv a1) (c1 &&& (9223372036854775807 : Int64)) i2 t2)), .val (.int (1 : Int32)), .unset] [])) tt
          refine XS.aload X37.here hx rfl (hb hby at_144) rfl rfl ?_
          show Steps p.tables e below (T37.setTop (mkF m 146 #[.val (.long a1), .second, .val (.long c1), .second, .val (.long a2), .second, .val (.long c2), .second, .val (.int mode), .val (.long (own_iv a1)), .second, .val (.long (c1 &&& (9223372036854775807 : Int64))), .second, .val (.long i2), .second, .val (.long t2), .second, .val (.ref b17), .val (.ref b19), .val (.int (own_eq (own_iv a1) (c1 &&& (9223372036854775807 : Int64)) i2 t2)), .val .null, .val (.int (own_eq (own_iv a1) (c1 &&& (9223372036854775807 : Int64)) i2 t2)), .val (.int (own_eq (own_iv a1) (c1 &&& (9223372036854775807 : Int64)) i2 t2)), .val (.int (1 : Int32)), .unset] [(.ref b17)])) tt
          refine XS.aload X37.here hx rfl (hb hby at_146) rfl rfl ?_
          show Steps p.tables e below (T37.setTop (mkF m 148 #[.val (.long a1), .second, .val (.long c1), .second, .val (.long a2), .second, .val (.long c2), .second, .val (.int mode), .val (.long (own_iv a1)), .second, .val (.long (c1 &&& (9223372036854775807 : Int64))), .second, .val (.long i2), .second, .val (.long t2), .second, .val (.ref b17), .val (.ref b19), .val (.int (own_eq (own_iv a1) (c1 &&& (9223372036854775807 : Int64)) i2 t2)), .val .null, .val (.int (own_eq (own_iv a1) (c1 &&& (9223372036854775807 : Int64)) i2 t2)), .val (.int (own_eq (own_iv a1) (c1 &&& (9223372036854775807 : Int64)) i2 t2)), .val (.int (1 : Int32)), .unset] [.null, (.ref b17)])) tt
          refine st38.trans ?_
          show Steps p.tables e below (T38.setTop (mkF m 151 #[.val (.long a1), .second, .val (.long c1), .second, .val (.long a2), .second, .val (.long c2), .second, .val (.int mode), .val (.long (own_iv a1)), .second, .val (.long (c1 &&& (9223372036854775807 : Int64))), .second, .val (.long i2), .second, .val (.long t2), .second, .val (.ref b17), .val (.ref b19), .val (.int (own_eq (own_iv a1) (c1 &&& (9223372036854775807 : Int64)) i2 t2)), .val .null, .val (.int (own_eq (own_iv a1) (c1 &&& (9223372036854775807 : Int64)) i2 t2)), .val (.int (own_eq (own_iv a1) (c1 &&& (9223372036854775807 : Int64)) i2 t2)), .val (.int (1 : Int32)), .unset] [(.int (0 : Int32))])) tt
          refine XS.istore X38.here hx rfl (hb hby at_151) rfl (l' := #[.val (.long a1), .second, .val (.long c1), .second, .val (.long a2), .second, .val (.long c2), .second, .val (.int mode), .val (.long (own_iv a1)), .second, .val (.long (c1 &&& (9223372036854775807 : Int64))), .second, .val (.long i2), .second, .val (.long t2), .second, .val (.ref b17), .val (.ref b19), .val (.int (own_eq (own_iv a1) (c1 &&& (9223372036854775807 : Int64)) i2 t2)), .val .null, .val (.int (own_eq (own_iv a1) (c1 &&& (9223372036854775807 : Int64)) i2 t2)), .val (.int (own_eq (own_iv a1) (c1 &&& (9223372036854775807 : Int64)) i2 t2)), .val (.int (1 : Int32)), .val (.int (0 : Int32))]) rfl ?_
          show Steps p.tables e below (T38.setTop (mkF m 153 #[.val (.long a1), .second, .val (.long c1), .second, .val (.long a2), .second, .val (.long c2), .second, .val (.int mode), .val (.long (own_iv a1)), .second, .val (.long (c1 &&& (9223372036854775807 : Int64))), .second, .val (.long i2), .second, .val (.long t2), .second, .val (.ref b17), .val (.ref b19), .val (.int (own_eq (own_iv a1) (c1 &&& (9223372036854775807 : Int64)) i2 t2)), .val .null, .val (.int (own_eq (own_iv a1) (c1 &&& (9223372036854775807 : Int64)) i2 t2)), .val (.int (own_eq (own_iv a1) (c1 &&& (9223372036854775807 : Int64)) i2 t2)), .val (.int (1 : Int32)), .val (.int (0 : Int32))] [])) tt
          refine XS.iload X38.here hx rfl (hb hby at_153) rfl ?_
          show Steps p.tables e below (T38.setTop (mkF m 155 #[.val (.long a1), .second, .val (.long c1), .second, .val (.long a2), .second, .val (.long c2), .second, .val (.int mode), .val (.long (own_iv a1)), .second, .val (.long (c1 &&& (9223372036854775807 : Int64))), .second, .val (.long i2), .second, .val (.long t2), .second, .val (.ref b17), .val (.ref b19), .val (.int (own_eq (own_iv a1) (c1 &&& (9223372036854775807 : Int64)) i2 t2)), .val .null, .val (.int (own_eq (own_iv a1) (c1 &&& (9223372036854775807 : Int64)) i2 t2)), .val (.int (own_eq (own_iv a1) (c1 &&& (9223372036854775807 : Int64)) i2 t2)), .val (.int (1 : Int32)), .val (.int (0 : Int32))] [(.int (own_eq (own_iv a1) (c1 &&& (9223372036854775807 : Int64)) i2 t2))])) tt
          refine XS.iload X38.here hx rfl (hb hby at_155) rfl ?_
          show Steps p.tables e below (T38.setTop (mkF m 157 #[.val (.long a1), .second, .val (.long c1), .second, .val (.long a2), .second, .val (.long c2), .second, .val (.int mode), .val (.long (own_iv a1)), .second, .val (.long (c1 &&& (9223372036854775807 : Int64))), .second, .val (.long i2), .second, .val (.long t2), .second, .val (.ref b17), .val (.ref b19), .val (.int (own_eq (own_iv a1) (c1 &&& (9223372036854775807 : Int64)) i2 t2)), .val .null, .val (.int (own_eq (own_iv a1) (c1 &&& (9223372036854775807 : Int64)) i2 t2)), .val (.int (own_eq (own_iv a1) (c1 &&& (9223372036854775807 : Int64)) i2 t2)), .val (.int (1 : Int32)), .val (.int (0 : Int32))] [(.int (own_eq (own_iv a1) (c1 &&& (9223372036854775807 : Int64)) i2 t2)), (.int (own_eq (own_iv a1) (c1 &&& (9223372036854775807 : Int64)) i2 t2))])) tt
          refine XS.icmpNo X38.here hx rfl (hb hby at_157) rfl (teq (rfl : (own_eq (own_iv a1) (c1 &&& (9223372036854775807 : Int64)) i2 t2) = (own_eq (own_iv a1) (c1 &&& (9223372036854775807 : Int64)) i2 t2))).2 ?_
          show Steps p.tables e below (T38.setTop (mkF m 160 #[.val (.long a1), .second, .val (.long c1), .second, .val (.long a2), .second, .val (.long c2), .second, .val (.int mode), .val (.long (own_iv a1)), .second, .val (.long (c1 &&& (9223372036854775807 : Int64))), .second, .val (.long i2), .second, .val (.long t2), .second, .val (.ref b17), .val (.ref b19), .val (.int (own_eq (own_iv a1) (c1 &&& (9223372036854775807 : Int64)) i2 t2)), .val .null, .val (.int (own_eq (own_iv a1) (c1 &&& (9223372036854775807 : Int64)) i2 t2)), .val (.int (own_eq (own_iv a1) (c1 &&& (9223372036854775807 : Int64)) i2 t2)), .val (.int (1 : Int32)), .val (.int (0 : Int32))] [])) tt
          refine XS.iload X38.here hx rfl (hb hby at_160) rfl ?_
          show Steps p.tables e below (T38.setTop (mkF m 162 #[.val (.long a1), .second, .val (.long c1), .second, .val (.long a2), .second, .val (.long c2), .second, .val (.int mode), .val (.long (own_iv a1)), .second, .val (.long (c1 &&& (9223372036854775807 : Int64))), .second, .val (.long i2), .second, .val (.long t2), .second, .val (.ref b17), .val (.ref b19), .val (.int (own_eq (own_iv a1) (c1 &&& (9223372036854775807 : Int64)) i2 t2)), .val .null, .val (.int (own_eq (own_iv a1) (c1 &&& (9223372036854775807 : Int64)) i2 t2)), .val (.int (own_eq (own_iv a1) (c1 &&& (9223372036854775807 : Int64)) i2 t2)), .val (.int (1 : Int32)), .val (.int (0 : Int32))] [(.int (own_eq (own_iv a1) (c1 &&& (9223372036854775807 : Int64)) i2 t2))])) tt
          refine XS.iload X38.here hx rfl (hb hby at_162) rfl ?_
          show Steps p.tables e below (T38.setTop (mkF m 164 #[.val (.long a1), .second, .val (.long c1), .second, .val (.long a2), .second, .val (.long c2), .second, .val (.int mode), .val (.long (own_iv a1)), .second, .val (.long (c1 &&& (9223372036854775807 : Int64))), .second, .val (.long i2), .second, .val (.long t2), .second, .val (.ref b17), .val (.ref b19), .val (.int (own_eq (own_iv a1) (c1 &&& (9223372036854775807 : Int64)) i2 t2)), .val .null, .val (.int (own_eq (own_iv a1) (c1 &&& (9223372036854775807 : Int64)) i2 t2)), .val (.int (own_eq (own_iv a1) (c1 &&& (9223372036854775807 : Int64)) i2 t2)), .val (.int (1 : Int32)), .val (.int (0 : Int32))] [(.int (own_eq (own_iv a1) (c1 &&& (9223372036854775807 : Int64)) i2 t2)), (.int (own_eq (own_iv a1) (c1 &&& (9223372036854775807 : Int64)) i2 t2))])) tt
          refine XS.icmpNo X38.here hx rfl (hb hby at_164) rfl (teq (rfl : (own_eq (own_iv a1) (c1 &&& (9223372036854775807 : Int64)) i2 t2) = (own_eq (own_iv a1) (c1 &&& (9223372036854775807 : Int64)) i2 t2))).2 ?_
          show Steps p.tables e below (T38.setTop (mkF m 167 #[.val (.long a1), .second, .val (.long c1), .second, .val (.long a2), .second, .val (.long c2), .second, .val (.int mode), .val (.long (own_iv a1)), .second, .val (.long (c1 &&& (9223372036854775807 : Int64))), .second, .val (.long i2), .second, .val (.long t2), .second, .val (.ref b17), .val (.ref b19), .val (.int (own_eq (own_iv a1) (c1 &&& (9223372036854775807 : Int64)) i2 t2)), .val .null, .val (.int (own_eq (own_iv a1) (c1 &&& (9223372036854775807 : Int64)) i2 t2)), .val (.int (own_eq (own_iv a1) (c1 &&& (9223372036854775807 : Int64)) i2 t2)), .val (.int (1 : Int32)), .val (.int (0 : Int32))] [])) tt
          refine XS.iload X38.here hx rfl (hb hby at_167) rfl ?_
          show Steps p.tables e below (T38.setTop (mkF m 169 #[.val (.long a1), .second, .val (.long c1), .second, .val (.long a2), .second, .val (.long c2), .second, .val (.int mode), .val (.long (own_iv a1)), .second, .val (.long (c1 &&& (9223372036854775807 : Int64))), .second, .val (.long i2), .second, .val (.long t2), .second, .val (.ref b17), .val (.ref b19), .val (.int (own_eq (own_iv a1) (c1 &&& (9223372036854775807 : Int64)) i2 t2)), .val .null, .val (.int (own_eq (own_iv a1) (c1 &&& (9223372036854775807 : Int64)) i2 t2)), .val (.int (own_eq (own_iv a1) (c1 &&& (9223372036854775807 : Int64)) i2 t2)), .val (.int (1 : Int32)), .val (.int (0 : Int32))] [(.int (1 : Int32))])) tt
          refine XS.ifNo X38.here hx rfl (hb hby at_169) rfl ((if0 _ _).trans (feq (by decide : ¬ ((1 : Int32) = (0 : Int32)))).1) ?_
          show Steps p.tables e below (T38.setTop (mkF m 172 #[.val (.long a1), .second, .val (.long c1), .second, .val (.long a2), .second, .val (.long c2), .second, .val (.int mode), .val (.long (own_iv a1)), .second, .val (.long (c1 &&& (9223372036854775807 : Int64))), .second, .val (.long i2), .second, .val (.long t2), .second, .val (.ref b17), .val (.ref b19), .val (.int (own_eq (own_iv a1) (c1 &&& (9223372036854775807 : Int64)) i2 t2)), .val .null, .val (.int (own_eq (own_iv a1) (c1 &&& (9223372036854775807 : Int64)) i2 t2)), .val (.int (own_eq (own_iv a1) (c1 &&& (9223372036854775807 : Int64)) i2 t2)), .val (.int (1 : Int32)), .val (.int (0 : Int32))] [])) tt
          refine XS.iload X38.here hx rfl (hb hby at_172) rfl ?_
          show Steps p.tables e below (T38.setTop (mkF m 174 #[.val (.long a1), .second, .val (.long c1), .second, .val (.long a2), .second, .val (.long c2), .second, .val (.int mode), .val (.long (own_iv a1)), .second, .val (.long (c1 &&& (9223372036854775807 : Int64))), .second, .val (.long i2), .second, .val (.long t2), .second, .val (.ref b17), .val (.ref b19), .val (.int (own_eq (own_iv a1) (c1 &&& (9223372036854775807 : Int64)) i2 t2)), .val .null, .val (.int (own_eq (own_iv a1) (c1 &&& (9223372036854775807 : Int64)) i2 t2)), .val (.int (own_eq (own_iv a1) (c1 &&& (9223372036854775807 : Int64)) i2 t2)), .val (.int (1 : Int32)), .val (.int (0 : Int32))] [(.int (0 : Int32))])) tt
          refine XS.ifNo X38.here hx rfl (hb hby at_174) rfl ((if0 _ _).trans (teq (by decide : (0 : Int32) = (0 : Int32))).2) ?_
          show Steps p.tables e below (T38.setTop (mkF m 177 #[.val (.long a1), .second, .val (.long c1), .second, .val (.long a2), .second, .val (.long c2), .second, .val (.int mode), .val (.long (own_iv a1)), .second, .val (.long (c1 &&& (9223372036854775807 : Int64))), .second, .val (.long i2), .second, .val (.long t2), .second, .val (.ref b17), .val (.ref b19), .val (.int (own_eq (own_iv a1) (c1 &&& (9223372036854775807 : Int64)) i2 t2)), .val .null, .val (.int (own_eq (own_iv a1) (c1 &&& (9223372036854775807 : Int64)) i2 t2)), .val (.int (own_eq (own_iv a1) (c1 &&& (9223372036854775807 : Int64)) i2 t2)), .val (.int (1 : Int32)), .val (.int (0 : Int32))] [])) tt
          refine XS.iconst X38.here hx rfl (hb hby at_177) ?_
          show Steps p.tables e below (T38.setTop (mkF m 178 #[.val (.long a1), .second, .val (.long c1), .second, .val (.long a2), .second, .val (.long c2), .second, .val (.int mode), .val (.long (own_iv a1)), .second, .val (.long (c1 &&& (9223372036854775807 : Int64))), .second, .val (.long i2), .second, .val (.long t2), .second, .val (.ref b17), .val (.ref b19), .val (.int (own_eq (own_iv a1) (c1 &&& (9223372036854775807 : Int64)) i2 t2)), .val .null, .val (.int (own_eq (own_iv a1) (c1 &&& (9223372036854775807 : Int64)) i2 t2)), .val (.int (own_eq (own_iv a1) (c1 &&& (9223372036854775807 : Int64)) i2 t2)), .val (.int (1 : Int32)), .val (.int (0 : Int32))] [(.int (1 : Int32))])) tt
          refine XS.goto X38.here hx rfl (pc0 := 178) (pc' := 182) rfl (hb hby at_178) (by decide) (by decide) ?_
          exact kk
        obtain ⟨fs, hr, hrun, hended, hW, hsame⟩ := X38.leave (v := some (.int (1 : Int32))) (fun hq => by rw [Bd.returns] at hq; cases hq)
        refine ⟨_, _, k39 _ ?_, hrun, hended, _, _, rfl, ?_, ⟨_, rfl⟩, hW, hsame.mono (by decide) (by decide)⟩
        · show Steps p.tables e below (T38.setTop (mkF m 182 #[.val (.long a1), .second, .val (.long c1), .second, .val (.long a2), .second, .val (.long c2), .second, .val (.int mode), .val (.long (own_iv a1)), .second, .val (.long (c1 &&& (9223372036854775807 : Int64))), .second, .val (.long i2), .second, .val (.long t2), .second, .val (.ref b17), .val (.ref b19), .val (.int (own_eq (own_iv a1) (c1 &&& (9223372036854775807 : Int64)) i2 t2)), .val .null, .val (.int (own_eq (own_iv a1) (c1 &&& (9223372036854775807 : Int64)) i2 t2)), .val (.int (own_eq (own_iv a1) (c1 &&& (9223372036854775807 : Int64)) i2 t2)), .val (.int (1 : Int32)), .val (.int (0 : Int32))] [(.int (1 : Int32))])) _
          exact retN X38 hx (t := .boolean) Bd.returns (by simp) (hb hby at_182) hr
        · show (fun (v : Option Value) (h : Heap) (L : List Loc) => v = some (.int (1 : Int32)) ∧ Fr n0 L) _ T38.heap _
          rw [hh38]
          dsimp only
          exact ⟨rfl, N38⟩
set_option maxRecDepth 65536 in
set_option maxHeartbeats 40000000 in
theorem comes_1 {Post : Tables → Env → Array Value → State → Outcome → State → Prop} (hpost : ∀ tb e args s v u, (limb_1_1.after args s (.returned v) u = true ∧ limb_1_2.after args s (.returned v) u = true ∧ True) → FrameEnd s (.returned v) u (Jvm.fieldLocs frame_1_writes args s ++ Jvm.arrayLocs frame_1_arrays args s ++ Jvm.staticLocs frame_1_statics s) 16 128 → Post tb e args s (.returned v) u) :
    ArmFor flags0 classFile x code maxLocals ret World_1 tables_1 room_1 Calls_1 rest_1 Pre_1 Post := by
  intro l hfl _ _ p e ha hc hk s m args below hf hA hF happ hP
  obtain ⟨hcalls, hrest, hpre⟩ := hP
  obtain ⟨-, -, -, hnamed, -, -, -, hat⟩ := (Spec.applies_iff hf).mp happ
  obtain ⟨hg, hn⟩ := and_e (Cond.before_iff.mp (show (Jvm.Cond.and given_1 narrow_1).before args s = true from hpre))
  obtain ⟨g1, g2⟩ := and_e hg
  obtain ⟨g3, g4⟩ := and_e g2
  obtain ⟨g5, g6⟩ := and_e g4
  obtain ⟨g7, g8⟩ := and_e g6
  obtain ⟨g9, g10⟩ := and_e g8
  obtain ⟨v0, v1, v2, v3, v4, rfl⟩ : ∃ v0 v1 v2 v3 v4 : Value, args = #[v0, v1, v2, v3, v4] := by
    have hs : args.size = 5 := by simpa [Cond.value, given_1] using g1
    obtain ⟨L⟩ := args
    match L, hs with
    | [v0, v1, v2, v3, v4], _ => exact ⟨v0, v1, v2, v3, v4, rfl⟩
  have hw := fun d (hd : d ∈ tables_1) => atoms_spec (ws := Jvm.Cond.code x code maxLocals ret :: tables_1) hat d (List.mem_cons_of_mem _ hd)
  have hfit : Fit s := fun {y c} hc i hi => by
    obtain ⟨ha, rfl⟩ := Array.getElem?_eq_some_iff.mp hc
    have q := List.all_eq_true.mp ((Array.all_eq_true_iff_forall_mem.mp hF) _ (Array.getElem_mem ha)) i (List.mem_range.mpr hi)
    simpa [Array.getElem?_eq_getElem hi] using q
  obtain ⟨hsets, hown0⟩ := atoms_of _ (rest_1_c_eq ▸ (show rest_1_c.before _ s = true from hrest))
  obtain ⟨i0, ei0⟩ := isL_v g3
  obtain rfl : v0 = (.long i0) := Option.some.inj ei0
  obtain ⟨i1, ei1⟩ := isL_v g5
  obtain rfl : v1 = (.long i1) := Option.some.inj ei1
  obtain ⟨i2, ei2⟩ := isL_v g7
  obtain rfl : v2 = (.long i2) := Option.some.inj ei2
  obtain ⟨i3, ei3⟩ := isL_v g9
  obtain rfl : v3 = (.long i3) := Option.some.inj ei3
  obtain ⟨i4, ei4⟩ := is_v g10
  obtain rfl : v4 = (.int i4) := Option.some.inj ei4
  have c2 := Cond.before_iff.mp (hsets _ (List.mem_of_getElem? (i := 2) rfl))
  obtain ⟨wC, evC⟩ := arr_v c2
  obtain ⟨cC, A_C⟩ := Arr.start evC c2
  have S_C := Sta.start evC (Or.inl (hsets _ (List.mem_of_getElem? (i := 1) rfl)))
  obtain ⟨L1, L2⟩ := own_len evC A_C (Cond.before_iff.mp (hsets _ (List.mem_of_getElem? (i := 4) rfl)))
  have z_C : cC.slots.size = 256 := by
    have q := len_toInt L1
    rw [L2] at q
    have e : (256 : Int32).toInt = 256 := rfl
    omega
  have h_C : ∀ i, i < 256 → ∃ b, cC.slots[i]? = some (.ref b) ∧ Exa s s.heap b "java/lang/Long" := fun i hi => by
    have q := own_all evC (Arr.fin (Vm.Alike.refl _) A_C) (Cond.before_iff.mp (hsets _ (List.mem_of_getElem? (i := 5) rfl))) i (by rw [z_C]; exact hi)
    obtain ⟨q1, -⟩ := own_and_e q
    exact own_elem_exa (Nat.lt_trans hi (by decide)) evC A_C q1
  obtain ⟨n, o, h1, h2, h3, _, L, rfl, ⟨rfl, N⟩, hq⟩ := own_rm0 l s _ hw tables_1 i0 i1 i2 i3 i4 wC cC s.heap s.heap.size (Nat.le_refl _) S_C A_C z_C h_C p e ha hc hk s m _ below hf ((Spec.applies_iff_loose hf).mp happ).1 ⟨rfl, State.Warmed39.refl s, rfl⟩ trivial
  refine ⟨n, _, h1, h2, h3, hpost _ _ _ _ _ _ ⟨Cond.after_iff.mpr rfl, Cond.after_iff.mpr (eq_i res_at (Term.int_eval (1)) rfl), trivial⟩ ⟨hq.1, hq.2.1, (hq.2.2.sift fun y hy => Or.inr (N y hy)).mono (by decide) (by decide)⟩⟩
theorem main_1_1 : Claimed_1_1 := comes_1 fun _ _ _ _ _ _ h hF => ⟨h.1, hF⟩
theorem main_1_2 : Claimed_1_2 := comes_1 fun _ _ _ _ _ _ h hF => ⟨h.2.1, hF⟩
end Jvm.Pilot.@@N@@
namespace Jvm.Pilot.@@N@@
open Jvm Jvm.ClassFile Sem Op Lib Jvm.Free Jvm.Stand Jvm.Pilot.@@N@@.Jvm.D
/-! MADE BY PROGRAM (witnessworld.py) out of the Statement's table words and the real class files: 16 classes; the members and pool entries that the words name. The judged class is class 1, her method 3. -/
namespace start1
open Jvm.ClassFile
def u (s : String) : CpInfo := .utf8 (stringToUtf16 s)
/-- a pool by its gaps: so many unusable entries, then the entry; so many at the end -/
def gap : Nat → List CpInfo → List CpInfo
  | 0, r => r
  | n + 1, r => .unusable :: gap n r
def poolList (es : List (Nat × CpInfo)) (last : Nat) : List CpInfo := es.foldr (fun e r => gap e.1 (e.2 :: r)) (gap last [])
def pool (es : List (Nat × CpInfo)) (last : Nat) : Array CpInfo := ⟨poolList es last⟩
def fileOf (pool : Array CpInfo) (this : Nat) (attrs : Array Attribute := #[]) (ms : Array MethodInfo := #[]) (fl : Nat := 33) (sup : Nat := 0) (ifs : Array Nat := #[]) (fds : Array FieldInfo := #[]) : ClassFile where
  minorVersion := 0
  majorVersion := 65
  constantPool := pool
  accessFlags := fl
  thisClass := this
  superClass := sup
  interfaces := ifs
  fields := fds
  methods := ms
  attributes := attrs
def plain (name : String) (sup : Option ClassId) : Class where
  name := name
  kind := .ordinary
  loader := none
  accessFlags := 33
  super := sup
  interfaces := #[]
  cf := none
  fields := #[]
  methods := #[]
  instanceTypes := #[]
  staticTypes := #[]
  resolved := #[]
  callSites := []
  init := .initialized
  statics := none
  mirror := none

def pool0 : Array CpInfo := pool [(5, u "<init>"), (0, u "()V"), (1, .class_ 10), (1, u "java/lang/Object")] 113

def k0c0 : Code := { maxStack := 0, maxLocals := 1, code := object_method_1_code, exceptionTable := #[], attributes := #[] }
def k0m0 : Method := { name := "<init>", desc := "()V", sig := { parameters := [], returnType := none }, accessFlags := 1, code := some k0c0 }
/-- java/lang/Object -/
def k0 : Class := { plain "java/lang/Object" none with
  accessFlags := 33
  interfaces := #[]
  cf := some (fileOf pool0 8 #[] #[{ accessFlags := 1, nameIndex := 5, descriptorIndex := 6, attributes := #[] }] 33 0 #[] #[])
  fields := #[]
  methods := #[k0m0]
  instanceTypes := #[]
  staticTypes := #[]
  resolved := Array.replicate 124 none
  statics := none }

def pool1 : Array CpInfo := pool [(2, .class_ 4), (1, u "java/lang/Object"), (0, u "<init>"), (0, u "()V"), (0, .class_ 8), (0, u "java/lang/Long"), (0, .long 9223372036854775807), (1, .methodref 12 13), (0, .class_ 14), (0, .nameAndType 15 16), (0, u "com/example/curb_queries/curbqueries/admission/OverloadLimitsEqualsPinLaw"), (0, u "interval"), (0, u "(J)J"), (0, .methodref 12 18), (0, .nameAndType 19 16), (0, u "target"), (0, .class_ 21), (0, u "com/example/curb_queries/curbqueries/admission/OverloadLimits"), (0, .methodref 20 23), (0, .nameAndType 5 24), (0, u "(JJ)V"), (0, .methodref 7 26), (0, .nameAndType 27 28), (0, u "valueOf"), (0, u "(J)Ljava/lang/Long;"), (0, .methodref 20 30), (0, .nameAndType 31 32), (0, u "equals"), (0, u "(Ljava/lang/Object;)Z"), (3, u "law"), (0, u "(JJJJI)Z")] 2

def k1m0 : Method := { name := "<init>", desc := "()V", sig := { parameters := [], returnType := none }, accessFlags := 1, code := none }
def k1c1 : Code := { maxStack := 4, maxLocals := 4, code := method_2_code, exceptionTable := #[], attributes := #[] }
def k1m1 : Method := { name := "interval", desc := "(J)J", sig := { parameters := [.long], returnType := some .long }, accessFlags := 10, code := some k1c1 }
def k1c2 : Code := { maxStack := 4, maxLocals := 2, code := method_3_code, exceptionTable := #[], attributes := #[] }
def k1m2 : Method := { name := "target", desc := "(J)J", sig := { parameters := [.long], returnType := some .long }, accessFlags := 10, code := some k1c2 }
def k1c3 : Code := { maxStack := 6, maxLocals := 25, code := code, exceptionTable := #[], attributes := #[] }
def k1m3 : Method := { name := "law", desc := "(JJJJI)Z", sig := { parameters := [.long, .long, .long, .long, .int], returnType := some .boolean }, accessFlags := 9, code := some k1c3 }
/-- com/example/curb_queries/curbqueries/admission/OverloadLimitsEqualsPinLaw -/
def k1 : Class := { plain "com/example/curb_queries/curbqueries/admission/OverloadLimitsEqualsPinLaw" (some 0) with
  accessFlags := 49
  interfaces := #[]
  cf := some (fileOf pool1 12 #[] #[{ accessFlags := 1, nameIndex := 5, descriptorIndex := 6, attributes := #[] }, { accessFlags := 10, nameIndex := 15, descriptorIndex := 16, attributes := #[] }, { accessFlags := 10, nameIndex := 19, descriptorIndex := 16, attributes := #[] }, { accessFlags := 9, nameIndex := 36, descriptorIndex := 37, attributes := #[] }] 49 2 #[] #[])
  fields := #[]
  methods := #[k1m0, k1m1, k1m2, k1m3]
  instanceTypes := #[]
  staticTypes := #[]
  resolved := Array.replicate 40 none
  statics := none }

def pool2 : Array CpInfo := pool [(1, .methodref 2 3), (0, .class_ 4), (0, .nameAndType 5 6), (0, u "java/lang/Object"), (0, u "<init>"), (0, u "()V"), (9, .fieldref 17 18), (0, .class_ 19), (0, .nameAndType 20 21), (0, u "com/example/curb_queries/curbqueries/admission/OverloadLimits"), (0, u "intervalMs"), (0, u "J"), (0, .fieldref 17 23), (0, .nameAndType 24 21), (0, u "targetMs"), (6, u "(JJ)V"), (4, u "equals"), (0, u "(Ljava/lang/Object;)Z")] 18

def k2c0 : Code := { maxStack := 6, maxLocals := 5, code := prog_28_method_1_code, exceptionTable := #[], attributes := #[] }
def k2m0 : Method := { name := "<init>", desc := "(JJ)V", sig := { parameters := [.long, .long], returnType := none }, accessFlags := 1, code := some k2c0 }
def k2c1 : Code := { maxStack := 4, maxLocals := 2, code := prog_28_method_4_code, exceptionTable := #[], attributes := #[] }
def k2m1 : Method := { name := "equals", desc := "(Ljava/lang/Object;)Z", sig := { parameters := [(.object "java/lang/Object")], returnType := some .boolean }, accessFlags := 1, code := some k2c1 }
/-- com/example/curb_queries/curbqueries/admission/OverloadLimits -/
def k2 : Class := { plain "com/example/curb_queries/curbqueries/admission/OverloadLimits" (some 0) with
  accessFlags := 49
  interfaces := #[]
  cf := some (fileOf pool2 17 #[] #[{ accessFlags := 1, nameIndex := 5, descriptorIndex := 31, attributes := #[] }, { accessFlags := 1, nameIndex := 36, descriptorIndex := 37, attributes := #[] }] 49 2 #[] #[{ accessFlags := 18, nameIndex := 20, descriptorIndex := 21, attributes := #[] }, { accessFlags := 18, nameIndex := 24, descriptorIndex := 21, attributes := #[] }])
  fields := #[{ name := "intervalMs", type := .long, accessFlags := 18, slot := 0, constantValue := 0 }, { name := "targetMs", type := .long, accessFlags := 18, slot := 1, constantValue := 0 }]
  methods := #[k2m0, k2m1]
  instanceTypes := #[.long, .long]
  staticTypes := #[]
  resolved := Array.replicate 56 none
  statics := none }

def pool3 : Array CpInfo := pool [(1, .class_ 2), (0, u "java/io/Serializable"), (0, .class_ 4), (0, u "java/lang/Object")] 2

/-- java/io/Serializable -/
def k3 : Class := { plain "java/io/Serializable" (some 0) with
  accessFlags := 1537
  interfaces := #[]
  cf := some (fileOf pool3 1 #[] #[] 1537 3 #[] #[])
  fields := #[]
  methods := #[]
  instanceTypes := #[]
  staticTypes := #[]
  resolved := Array.replicate 7 none
  statics := none }

def pool4 : Array CpInfo := pool [(1, .methodref 2 3), (0, .class_ 4), (0, .nameAndType 5 6), (0, u "java/lang/Object"), (0, u "<init>"), (0, u "()V"), (1, .class_ 10), (1, u "java/lang/Number"), (2, .class_ 14), (0, u "java/io/Serializable"), (0, u "serialVersionUID"), (0, u "J")] 20

def k4c0 : Code := { maxStack := 1, maxLocals := 1, code := jdk_18_method_1_code, exceptionTable := #[], attributes := #[] }
def k4m0 : Method := { name := "<init>", desc := "()V", sig := { parameters := [], returnType := none }, accessFlags := 1, code := some k4c0 }
/-- java/lang/Number -/
def k4 : Class := { plain "java/lang/Number" (some 0) with
  accessFlags := 1057
  interfaces := #[3]
  cf := some (fileOf pool4 8 #[] #[{ accessFlags := 1, nameIndex := 5, descriptorIndex := 6, attributes := #[] }] 1057 2 #[13] #[{ accessFlags := 26, nameIndex := 15, descriptorIndex := 16, attributes := #[] }])
  fields := #[{ name := "serialVersionUID", type := .long, accessFlags := 26, slot := 0, constantValue := 0 }]
  methods := #[k4m0]
  instanceTypes := #[]
  staticTypes := #[.long]
  resolved := Array.replicate 37 none
  statics := none }

def pool5 : Array CpInfo := pool [(1, .class_ 2), (0, u "java/lang/Comparable"), (0, .class_ 4), (0, u "java/lang/Object")] 7

/-- java/lang/Comparable -/
def k5 : Class := { plain "java/lang/Comparable" (some 0) with
  accessFlags := 1537
  interfaces := #[]
  cf := some (fileOf pool5 1 #[] #[] 1537 3 #[] #[])
  fields := #[]
  methods := #[]
  instanceTypes := #[]
  staticTypes := #[]
  resolved := Array.replicate 12 none
  statics := none }

def pool6 : Array CpInfo := pool [(1, .class_ 2), (0, u "java/lang/constant/Constable"), (0, .class_ 4), (0, u "java/lang/Object")] 6

/-- java/lang/constant/Constable -/
def k6 : Class := { plain "java/lang/constant/Constable" (some 0) with
  accessFlags := 1537
  interfaces := #[]
  cf := some (fileOf pool6 1 #[] #[] 1537 3 #[] #[])
  fields := #[]
  methods := #[]
  instanceTypes := #[]
  staticTypes := #[]
  resolved := Array.replicate 11 none
  statics := none }

def pool7 : Array CpInfo := pool [(1, .class_ 2), (0, u "java/lang/constant/ConstantDesc"), (0, .class_ 4), (0, u "java/lang/Object")] 32

/-- java/lang/constant/ConstantDesc -/
def k7 : Class := { plain "java/lang/constant/ConstantDesc" (some 0) with
  accessFlags := 1537
  interfaces := #[]
  cf := some (fileOf pool7 1 #[] #[] 1537 3 #[] #[])
  fields := #[]
  methods := #[]
  instanceTypes := #[]
  staticTypes := #[]
  resolved := Array.replicate 37 none
  statics := none }

def pool8 : Array CpInfo := pool [(1, .class_ 2), (0, u "java/lang/Long"), (55, .nameAndType 59 60), (0, u "<init>"), (0, u "()V"), (24, u "valueOf"), (143, u "(J)Ljava/lang/Long;"), (0, .long 18446744073709551488), (1, .long 127), (1, .fieldref 235 236), (0, .class_ 237), (0, .nameAndType 238 239), (0, u "java/lang/Long$LongCache"), (0, u "cache"), (0, u "[Ljava/lang/Long;"), (0, .methodref 1 241), (0, .nameAndType 59 242), (0, u "(J)V"), (27, .methodref 271 58), (0, .class_ 272), (0, u "java/lang/Number"), (0, .fieldref 1 274), (0, .nameAndType 275 276), (0, u "value"), (0, u "J"), (84, u "TYPE"), (0, u "Ljava/lang/Class;"), (0, .class_ 364), (0, u "java/lang/Comparable"), (0, .class_ 366), (0, u "java/lang/constant/Constable"), (0, .class_ 368), (0, u "java/lang/constant/ConstantDesc"), (0, u "MIN_VALUE"), (1, u "MAX_VALUE"), (4, u "SIZE"), (0, u "I"), (1, u "BYTES"), (1, u "serialVersionUID")] 142

def k8c0 : Code := { maxStack := 4, maxLocals := 3, code := jdk_35_method_24_code, exceptionTable := #[], attributes := #[] }
def k8m0 : Method := { name := "valueOf", desc := "(J)Ljava/lang/Long;", sig := { parameters := [.long], returnType := some (.object "java/lang/Long") }, accessFlags := 9, code := some k8c0 }
def k8c1 : Code := { maxStack := 3, maxLocals := 3, code := jdk_35_method_26_code, exceptionTable := #[], attributes := #[] }
def k8m1 : Method := { name := "<init>", desc := "(J)V", sig := { parameters := [.long], returnType := none }, accessFlags := 1, code := some k8c1 }
/-- java/lang/Long -/
def k8 : Class := { plain "java/lang/Long" (some 4) with
  accessFlags := 49
  interfaces := #[5, 6, 7]
  cf := some (fileOf pool8 1 #[.nestMembers #[235]] #[{ accessFlags := 9, nameIndex := 85, descriptorIndex := 229, attributes := #[] }, { accessFlags := 1, nameIndex := 59, descriptorIndex := 242, attributes := #[] }] 49 271 #[363, 365, 367] #[{ accessFlags := 25, nameIndex := 369, descriptorIndex := 276, attributes := #[] }, { accessFlags := 25, nameIndex := 371, descriptorIndex := 276, attributes := #[] }, { accessFlags := 25, nameIndex := 361, descriptorIndex := 362, attributes := #[] }, { accessFlags := 18, nameIndex := 275, descriptorIndex := 276, attributes := #[] }, { accessFlags := 25, nameIndex := 376, descriptorIndex := 377, attributes := #[] }, { accessFlags := 25, nameIndex := 379, descriptorIndex := 377, attributes := #[] }, { accessFlags := 26, nameIndex := 381, descriptorIndex := 276, attributes := #[] }])
  fields := #[{ name := "MIN_VALUE", type := .long, accessFlags := 25, slot := 0, constantValue := 0 }, { name := "MAX_VALUE", type := .long, accessFlags := 25, slot := 1, constantValue := 0 }, { name := "TYPE", type := (.object "java/lang/Class"), accessFlags := 25, slot := 2, constantValue := 0 }, { name := "value", type := .long, accessFlags := 18, slot := 0, constantValue := 0 }, { name := "SIZE", type := .int, accessFlags := 25, slot := 3, constantValue := 0 }, { name := "BYTES", type := .int, accessFlags := 25, slot := 4, constantValue := 0 }, { name := "serialVersionUID", type := .long, accessFlags := 26, slot := 5, constantValue := 0 }]
  methods := #[k8m0, k8m1]
  instanceTypes := #[.long]
  staticTypes := #[.long, .long, (.object "java/lang/Class"), .int, .int, .long]
  resolved := Array.replicate 524 none
  statics := none }

def pool9 : Array CpInfo := pool [(2, .class_ 4), (1, u "java/lang/Object"), (0, u "<init>"), (0, u "()V"), (0, .class_ 8), (0, u "java/lang/Long"), (7, .class_ 18), (1, u "java/lang/Long$LongCache"), (0, u "$assertionsDisabled"), (0, u "Z"), (8, u "archivedCache"), (0, u "[Ljava/lang/Long;"), (7, u "cache")] 24

def k9m0 : Method := { name := "<init>", desc := "()V", sig := { parameters := [], returnType := none }, accessFlags := 2, code := none }
/-- java/lang/Long$LongCache -/
def k9 : Class := { plain "java/lang/Long$LongCache" (some 0) with
  accessFlags := 48
  interfaces := #[]
  cf := some (fileOf pool9 16 #[.nestHost 7] #[{ accessFlags := 2, nameIndex := 5, descriptorIndex := 6, attributes := #[] }] 48 2 #[] #[{ accessFlags := 24, nameIndex := 38, descriptorIndex := 30, attributes := #[] }, { accessFlags := 8, nameIndex := 29, descriptorIndex := 30, attributes := #[] }, { accessFlags := 4120, nameIndex := 19, descriptorIndex := 20, attributes := #[] }])
  fields := #[{ name := "cache", type := (.array (.object "java/lang/Long")), accessFlags := 24, slot := 0, constantValue := 0 }, { name := "archivedCache", type := (.array (.object "java/lang/Long")), accessFlags := 8, slot := 1, constantValue := 0 }, { name := "$assertionsDisabled", type := .boolean, accessFlags := 4120, slot := 2, constantValue := 0 }]
  methods := #[k9m0]
  instanceTypes := #[]
  staticTypes := #[(.array (.object "java/lang/Long")), (.array (.object "java/lang/Long")), .boolean]
  resolved := Array.replicate 63 none
  statics := some 0 }

def pool10 : Array CpInfo := pool [(1, u "java/lang/Cloneable"), (0, .class_ 1), (0, u "java/lang/Object"), (0, .class_ 3)] 3

/-- java/lang/Cloneable -/
def k10 : Class := { plain "java/lang/Cloneable" (some 0) with
  accessFlags := 1537
  interfaces := #[]
  cf := some (fileOf pool10 2 #[] #[] 1537 4 #[] #[])
  fields := #[]
  methods := #[]
  instanceTypes := #[]
  staticTypes := #[]
  resolved := Array.replicate 8 none
  statics := none }

/-- the primitive byte -/
def k11 : Class := { plain "byte" none with kind := .primitive 'B', accessFlags := 0x411 }
/-- [B -/
def k12 : Class := { plain "[B" (some 0) with kind := .array 11 .byte, interfaces := #[10, 3], accessFlags := 1041 }

/-- the primitive int -/
def k13 : Class := { plain "int" none with kind := .primitive 'I', accessFlags := 0x411 }
/-- [I -/
def k14 : Class := { plain "[I" (some 0) with kind := .array 13 .int, interfaces := #[10, 3], accessFlags := 1041 }

/-- [Ljava/lang/Long; -/
def k15 : Class := { plain "[Ljava/lang/Long;" (some 0) with kind := .array 8 (.object "java/lang/Long"), interfaces := #[10, 3], accessFlags := 1041 }

def heap : Heap := #[{ cls := 9, slots := #[.ref 1, .null, .int 0], vm := .statics 9 },
  { cls := 15, slots := #[.ref 2, .ref 3, .ref 4, .ref 5, .ref 6, .ref 7, .ref 8, .ref 9, .ref 10, .ref 11, .ref 12, .ref 13, .ref 14, .ref 15, .ref 16, .ref 17, .ref 18, .ref 19, .ref 20, .ref 21, .ref 22, .ref 23, .ref 24, .ref 25, .ref 26, .ref 27, .ref 28, .ref 29, .ref 30, .ref 31, .ref 32, .ref 33, .ref 34, .ref 35, .ref 36, .ref 37, .ref 38, .ref 39, .ref 40, .ref 41, .ref 42, .ref 43, .ref 44, .ref 45, .ref 46, .ref 47, .ref 48, .ref 49, .ref 50, .ref 51, .ref 52, .ref 53, .ref 54, .ref 55, .ref 56, .ref 57, .ref 58, .ref 59, .ref 60, .ref 61, .ref 62, .ref 63, .ref 64, .ref 65, .ref 66, .ref 67, .ref 68, .ref 69, .ref 70, .ref 71, .ref 72, .ref 73, .ref 74, .ref 75, .ref 76, .ref 77, .ref 78, .ref 79, .ref 80, .ref 81, .ref 82, .ref 83, .ref 84, .ref 85, .ref 86, .ref 87, .ref 88, .ref 89, .ref 90, .ref 91, .ref 92, .ref 93, .ref 94, .ref 95, .ref 96, .ref 97, .ref 98, .ref 99, .ref 100, .ref 101, .ref 102, .ref 103, .ref 104, .ref 105, .ref 106, .ref 107, .ref 108, .ref 109, .ref 110, .ref 111, .ref 112, .ref 113, .ref 114, .ref 115, .ref 116, .ref 117, .ref 118, .ref 119, .ref 120, .ref 121, .ref 122, .ref 123, .ref 124, .ref 125, .ref 126, .ref 127, .ref 128, .ref 129, .ref 130, .ref 131, .ref 132, .ref 133, .ref 134, .ref 135, .ref 136, .ref 137, .ref 138, .ref 139, .ref 140, .ref 141, .ref 142, .ref 143, .ref 144, .ref 145, .ref 146, .ref 147, .ref 148, .ref 149, .ref 150, .ref 151, .ref 152, .ref 153, .ref 154, .ref 155, .ref 156, .ref 157, .ref 158, .ref 159, .ref 160, .ref 161, .ref 162, .ref 163, .ref 164, .ref 165, .ref 166, .ref 167, .ref 168, .ref 169, .ref 170, .ref 171, .ref 172, .ref 173, .ref 174, .ref 175, .ref 176, .ref 177, .ref 178, .ref 179, .ref 180, .ref 181, .ref 182, .ref 183, .ref 184, .ref 185, .ref 186, .ref 187, .ref 188, .ref 189, .ref 190, .ref 191, .ref 192, .ref 193, .ref 194, .ref 195, .ref 196, .ref 197, .ref 198, .ref 199, .ref 200, .ref 201, .ref 202, .ref 203, .ref 204, .ref 205, .ref 206, .ref 207, .ref 208, .ref 209, .ref 210, .ref 211, .ref 212, .ref 213, .ref 214, .ref 215, .ref 216, .ref 217, .ref 218, .ref 219, .ref 220, .ref 221, .ref 222, .ref 223, .ref 224, .ref 225, .ref 226, .ref 227, .ref 228, .ref 229, .ref 230, .ref 231, .ref 232, .ref 233, .ref 234, .ref 235, .ref 236, .ref 237, .ref 238, .ref 239, .ref 240, .ref 241, .ref 242, .ref 243, .ref 244, .ref 245, .ref 246, .ref 247, .ref 248, .ref 249, .ref 250, .ref 251, .ref 252, .ref 253, .ref 254, .ref 255, .ref 256, .ref 257], vm := .none },
  { cls := 8, slots := #[.long (-128)], vm := .none },
  { cls := 8, slots := #[.long (-127)], vm := .none },
  { cls := 8, slots := #[.long (-126)], vm := .none },
  { cls := 8, slots := #[.long (-125)], vm := .none },
  { cls := 8, slots := #[.long (-124)], vm := .none },
  { cls := 8, slots := #[.long (-123)], vm := .none },
  { cls := 8, slots := #[.long (-122)], vm := .none },
  { cls := 8, slots := #[.long (-121)], vm := .none },
  { cls := 8, slots := #[.long (-120)], vm := .none },
  { cls := 8, slots := #[.long (-119)], vm := .none },
  { cls := 8, slots := #[.long (-118)], vm := .none },
  { cls := 8, slots := #[.long (-117)], vm := .none },
  { cls := 8, slots := #[.long (-116)], vm := .none },
  { cls := 8, slots := #[.long (-115)], vm := .none },
  { cls := 8, slots := #[.long (-114)], vm := .none },
  { cls := 8, slots := #[.long (-113)], vm := .none },
  { cls := 8, slots := #[.long (-112)], vm := .none },
  { cls := 8, slots := #[.long (-111)], vm := .none },
  { cls := 8, slots := #[.long (-110)], vm := .none },
  { cls := 8, slots := #[.long (-109)], vm := .none },
  { cls := 8, slots := #[.long (-108)], vm := .none },
  { cls := 8, slots := #[.long (-107)], vm := .none },
  { cls := 8, slots := #[.long (-106)], vm := .none },
  { cls := 8, slots := #[.long (-105)], vm := .none },
  { cls := 8, slots := #[.long (-104)], vm := .none },
  { cls := 8, slots := #[.long (-103)], vm := .none },
  { cls := 8, slots := #[.long (-102)], vm := .none },
  { cls := 8, slots := #[.long (-101)], vm := .none },
  { cls := 8, slots := #[.long (-100)], vm := .none },
  { cls := 8, slots := #[.long (-99)], vm := .none },
  { cls := 8, slots := #[.long (-98)], vm := .none },
  { cls := 8, slots := #[.long (-97)], vm := .none },
  { cls := 8, slots := #[.long (-96)], vm := .none },
  { cls := 8, slots := #[.long (-95)], vm := .none },
  { cls := 8, slots := #[.long (-94)], vm := .none },
  { cls := 8, slots := #[.long (-93)], vm := .none },
  { cls := 8, slots := #[.long (-92)], vm := .none },
  { cls := 8, slots := #[.long (-91)], vm := .none },
  { cls := 8, slots := #[.long (-90)], vm := .none },
  { cls := 8, slots := #[.long (-89)], vm := .none },
  { cls := 8, slots := #[.long (-88)], vm := .none },
  { cls := 8, slots := #[.long (-87)], vm := .none },
  { cls := 8, slots := #[.long (-86)], vm := .none },
  { cls := 8, slots := #[.long (-85)], vm := .none },
  { cls := 8, slots := #[.long (-84)], vm := .none },
  { cls := 8, slots := #[.long (-83)], vm := .none },
  { cls := 8, slots := #[.long (-82)], vm := .none },
  { cls := 8, slots := #[.long (-81)], vm := .none },
  { cls := 8, slots := #[.long (-80)], vm := .none },
  { cls := 8, slots := #[.long (-79)], vm := .none },
  { cls := 8, slots := #[.long (-78)], vm := .none },
  { cls := 8, slots := #[.long (-77)], vm := .none },
  { cls := 8, slots := #[.long (-76)], vm := .none },
  { cls := 8, slots := #[.long (-75)], vm := .none },
  { cls := 8, slots := #[.long (-74)], vm := .none },
  { cls := 8, slots := #[.long (-73)], vm := .none },
  { cls := 8, slots := #[.long (-72)], vm := .none },
  { cls := 8, slots := #[.long (-71)], vm := .none },
  { cls := 8, slots := #[.long (-70)], vm := .none },
  { cls := 8, slots := #[.long (-69)], vm := .none },
  { cls := 8, slots := #[.long (-68)], vm := .none },
  { cls := 8, slots := #[.long (-67)], vm := .none },
  { cls := 8, slots := #[.long (-66)], vm := .none },
  { cls := 8, slots := #[.long (-65)], vm := .none },
  { cls := 8, slots := #[.long (-64)], vm := .none },
  { cls := 8, slots := #[.long (-63)], vm := .none },
  { cls := 8, slots := #[.long (-62)], vm := .none },
  { cls := 8, slots := #[.long (-61)], vm := .none },
  { cls := 8, slots := #[.long (-60)], vm := .none },
  { cls := 8, slots := #[.long (-59)], vm := .none },
  { cls := 8, slots := #[.long (-58)], vm := .none },
  { cls := 8, slots := #[.long (-57)], vm := .none },
  { cls := 8, slots := #[.long (-56)], vm := .none },
  { cls := 8, slots := #[.long (-55)], vm := .none },
  { cls := 8, slots := #[.long (-54)], vm := .none },
  { cls := 8, slots := #[.long (-53)], vm := .none },
  { cls := 8, slots := #[.long (-52)], vm := .none },
  { cls := 8, slots := #[.long (-51)], vm := .none },
  { cls := 8, slots := #[.long (-50)], vm := .none },
  { cls := 8, slots := #[.long (-49)], vm := .none },
  { cls := 8, slots := #[.long (-48)], vm := .none },
  { cls := 8, slots := #[.long (-47)], vm := .none },
  { cls := 8, slots := #[.long (-46)], vm := .none },
  { cls := 8, slots := #[.long (-45)], vm := .none },
  { cls := 8, slots := #[.long (-44)], vm := .none },
  { cls := 8, slots := #[.long (-43)], vm := .none },
  { cls := 8, slots := #[.long (-42)], vm := .none },
  { cls := 8, slots := #[.long (-41)], vm := .none },
  { cls := 8, slots := #[.long (-40)], vm := .none },
  { cls := 8, slots := #[.long (-39)], vm := .none },
  { cls := 8, slots := #[.long (-38)], vm := .none },
  { cls := 8, slots := #[.long (-37)], vm := .none },
  { cls := 8, slots := #[.long (-36)], vm := .none },
  { cls := 8, slots := #[.long (-35)], vm := .none },
  { cls := 8, slots := #[.long (-34)], vm := .none },
  { cls := 8, slots := #[.long (-33)], vm := .none },
  { cls := 8, slots := #[.long (-32)], vm := .none },
  { cls := 8, slots := #[.long (-31)], vm := .none },
  { cls := 8, slots := #[.long (-30)], vm := .none },
  { cls := 8, slots := #[.long (-29)], vm := .none },
  { cls := 8, slots := #[.long (-28)], vm := .none },
  { cls := 8, slots := #[.long (-27)], vm := .none },
  { cls := 8, slots := #[.long (-26)], vm := .none },
  { cls := 8, slots := #[.long (-25)], vm := .none },
  { cls := 8, slots := #[.long (-24)], vm := .none },
  { cls := 8, slots := #[.long (-23)], vm := .none },
  { cls := 8, slots := #[.long (-22)], vm := .none },
  { cls := 8, slots := #[.long (-21)], vm := .none },
  { cls := 8, slots := #[.long (-20)], vm := .none },
  { cls := 8, slots := #[.long (-19)], vm := .none },
  { cls := 8, slots := #[.long (-18)], vm := .none },
  { cls := 8, slots := #[.long (-17)], vm := .none },
  { cls := 8, slots := #[.long (-16)], vm := .none },
  { cls := 8, slots := #[.long (-15)], vm := .none },
  { cls := 8, slots := #[.long (-14)], vm := .none },
  { cls := 8, slots := #[.long (-13)], vm := .none },
  { cls := 8, slots := #[.long (-12)], vm := .none },
  { cls := 8, slots := #[.long (-11)], vm := .none },
  { cls := 8, slots := #[.long (-10)], vm := .none },
  { cls := 8, slots := #[.long (-9)], vm := .none },
  { cls := 8, slots := #[.long (-8)], vm := .none },
  { cls := 8, slots := #[.long (-7)], vm := .none },
  { cls := 8, slots := #[.long (-6)], vm := .none },
  { cls := 8, slots := #[.long (-5)], vm := .none },
  { cls := 8, slots := #[.long (-4)], vm := .none },
  { cls := 8, slots := #[.long (-3)], vm := .none },
  { cls := 8, slots := #[.long (-2)], vm := .none },
  { cls := 8, slots := #[.long (-1)], vm := .none },
  { cls := 8, slots := #[.long 0], vm := .none },
  { cls := 8, slots := #[.long 1], vm := .none },
  { cls := 8, slots := #[.long 2], vm := .none },
  { cls := 8, slots := #[.long 3], vm := .none },
  { cls := 8, slots := #[.long 4], vm := .none },
  { cls := 8, slots := #[.long 5], vm := .none },
  { cls := 8, slots := #[.long 6], vm := .none },
  { cls := 8, slots := #[.long 7], vm := .none },
  { cls := 8, slots := #[.long 8], vm := .none },
  { cls := 8, slots := #[.long 9], vm := .none },
  { cls := 8, slots := #[.long 10], vm := .none },
  { cls := 8, slots := #[.long 11], vm := .none },
  { cls := 8, slots := #[.long 12], vm := .none },
  { cls := 8, slots := #[.long 13], vm := .none },
  { cls := 8, slots := #[.long 14], vm := .none },
  { cls := 8, slots := #[.long 15], vm := .none },
  { cls := 8, slots := #[.long 16], vm := .none },
  { cls := 8, slots := #[.long 17], vm := .none },
  { cls := 8, slots := #[.long 18], vm := .none },
  { cls := 8, slots := #[.long 19], vm := .none },
  { cls := 8, slots := #[.long 20], vm := .none },
  { cls := 8, slots := #[.long 21], vm := .none },
  { cls := 8, slots := #[.long 22], vm := .none },
  { cls := 8, slots := #[.long 23], vm := .none },
  { cls := 8, slots := #[.long 24], vm := .none },
  { cls := 8, slots := #[.long 25], vm := .none },
  { cls := 8, slots := #[.long 26], vm := .none },
  { cls := 8, slots := #[.long 27], vm := .none },
  { cls := 8, slots := #[.long 28], vm := .none },
  { cls := 8, slots := #[.long 29], vm := .none },
  { cls := 8, slots := #[.long 30], vm := .none },
  { cls := 8, slots := #[.long 31], vm := .none },
  { cls := 8, slots := #[.long 32], vm := .none },
  { cls := 8, slots := #[.long 33], vm := .none },
  { cls := 8, slots := #[.long 34], vm := .none },
  { cls := 8, slots := #[.long 35], vm := .none },
  { cls := 8, slots := #[.long 36], vm := .none },
  { cls := 8, slots := #[.long 37], vm := .none },
  { cls := 8, slots := #[.long 38], vm := .none },
  { cls := 8, slots := #[.long 39], vm := .none },
  { cls := 8, slots := #[.long 40], vm := .none },
  { cls := 8, slots := #[.long 41], vm := .none },
  { cls := 8, slots := #[.long 42], vm := .none },
  { cls := 8, slots := #[.long 43], vm := .none },
  { cls := 8, slots := #[.long 44], vm := .none },
  { cls := 8, slots := #[.long 45], vm := .none },
  { cls := 8, slots := #[.long 46], vm := .none },
  { cls := 8, slots := #[.long 47], vm := .none },
  { cls := 8, slots := #[.long 48], vm := .none },
  { cls := 8, slots := #[.long 49], vm := .none },
  { cls := 8, slots := #[.long 50], vm := .none },
  { cls := 8, slots := #[.long 51], vm := .none },
  { cls := 8, slots := #[.long 52], vm := .none },
  { cls := 8, slots := #[.long 53], vm := .none },
  { cls := 8, slots := #[.long 54], vm := .none },
  { cls := 8, slots := #[.long 55], vm := .none },
  { cls := 8, slots := #[.long 56], vm := .none },
  { cls := 8, slots := #[.long 57], vm := .none },
  { cls := 8, slots := #[.long 58], vm := .none },
  { cls := 8, slots := #[.long 59], vm := .none },
  { cls := 8, slots := #[.long 60], vm := .none },
  { cls := 8, slots := #[.long 61], vm := .none },
  { cls := 8, slots := #[.long 62], vm := .none },
  { cls := 8, slots := #[.long 63], vm := .none },
  { cls := 8, slots := #[.long 64], vm := .none },
  { cls := 8, slots := #[.long 65], vm := .none },
  { cls := 8, slots := #[.long 66], vm := .none },
  { cls := 8, slots := #[.long 67], vm := .none },
  { cls := 8, slots := #[.long 68], vm := .none },
  { cls := 8, slots := #[.long 69], vm := .none },
  { cls := 8, slots := #[.long 70], vm := .none },
  { cls := 8, slots := #[.long 71], vm := .none },
  { cls := 8, slots := #[.long 72], vm := .none },
  { cls := 8, slots := #[.long 73], vm := .none },
  { cls := 8, slots := #[.long 74], vm := .none },
  { cls := 8, slots := #[.long 75], vm := .none },
  { cls := 8, slots := #[.long 76], vm := .none },
  { cls := 8, slots := #[.long 77], vm := .none },
  { cls := 8, slots := #[.long 78], vm := .none },
  { cls := 8, slots := #[.long 79], vm := .none },
  { cls := 8, slots := #[.long 80], vm := .none },
  { cls := 8, slots := #[.long 81], vm := .none },
  { cls := 8, slots := #[.long 82], vm := .none },
  { cls := 8, slots := #[.long 83], vm := .none },
  { cls := 8, slots := #[.long 84], vm := .none },
  { cls := 8, slots := #[.long 85], vm := .none },
  { cls := 8, slots := #[.long 86], vm := .none },
  { cls := 8, slots := #[.long 87], vm := .none },
  { cls := 8, slots := #[.long 88], vm := .none },
  { cls := 8, slots := #[.long 89], vm := .none },
  { cls := 8, slots := #[.long 90], vm := .none },
  { cls := 8, slots := #[.long 91], vm := .none },
  { cls := 8, slots := #[.long 92], vm := .none },
  { cls := 8, slots := #[.long 93], vm := .none },
  { cls := 8, slots := #[.long 94], vm := .none },
  { cls := 8, slots := #[.long 95], vm := .none },
  { cls := 8, slots := #[.long 96], vm := .none },
  { cls := 8, slots := #[.long 97], vm := .none },
  { cls := 8, slots := #[.long 98], vm := .none },
  { cls := 8, slots := #[.long 99], vm := .none },
  { cls := 8, slots := #[.long 100], vm := .none },
  { cls := 8, slots := #[.long 101], vm := .none },
  { cls := 8, slots := #[.long 102], vm := .none },
  { cls := 8, slots := #[.long 103], vm := .none },
  { cls := 8, slots := #[.long 104], vm := .none },
  { cls := 8, slots := #[.long 105], vm := .none },
  { cls := 8, slots := #[.long 106], vm := .none },
  { cls := 8, slots := #[.long 107], vm := .none },
  { cls := 8, slots := #[.long 108], vm := .none },
  { cls := 8, slots := #[.long 109], vm := .none },
  { cls := 8, slots := #[.long 110], vm := .none },
  { cls := 8, slots := #[.long 111], vm := .none },
  { cls := 8, slots := #[.long 112], vm := .none },
  { cls := 8, slots := #[.long 113], vm := .none },
  { cls := 8, slots := #[.long 114], vm := .none },
  { cls := 8, slots := #[.long 115], vm := .none },
  { cls := 8, slots := #[.long 116], vm := .none },
  { cls := 8, slots := #[.long 117], vm := .none },
  { cls := 8, slots := #[.long 118], vm := .none },
  { cls := 8, slots := #[.long 119], vm := .none },
  { cls := 8, slots := #[.long 120], vm := .none },
  { cls := 8, slots := #[.long 121], vm := .none },
  { cls := 8, slots := #[.long 122], vm := .none },
  { cls := 8, slots := #[.long 123], vm := .none },
  { cls := 8, slots := #[.long 124], vm := .none },
  { cls := 8, slots := #[.long 125], vm := .none },
  { cls := 8, slots := #[.long 126], vm := .none },
  { cls := 8, slots := #[.long 127], vm := .none }]
def classes : Array Class := #[k0, k1, k2, k3, k4, k5, k6, k7, k8, k9, k10, k11, k12, k13, k14, k15]
def interned : List (Array UInt16 × Addr) := []
def slotsUsed : Nat := 515
def theMethod : MethodId := ⟨1, 3⟩
def args0 : Array Value := #[.long 5, .long 6, .long 7, .long 8, .int 9]
def aboutOver (below : List Frame) : State where
  vm := { classes := classes, interned := interned.toArray }
  heap := heap
  slotsUsed := slotsUsed
  threads := #[{ frames := .invoking theMethod args0 :: below }]
def below0 : List Frame := [.native { method := ⟨0, 0⟩, args := #[] }]
def about1 : State := aboutOver below0
def p0 : Program := .bare "" "" ""
def e0 : Env := launch0.env 0 0 0
theorem w_frames : about1.frames = Frame.invoking theMethod args0 :: below0 := rfl
set_option maxRecDepth 65536 in
theorem w_args : argsFit about1.vm theMethod args0 = true := by decide +kernel
set_option maxRecDepth 65536 in
theorem w_heap : heapFits about1 = true := by decide +kernel
set_option maxRecDepth 65536 in
theorem w_runnable : about1.curStatus? = some .runnable := by decide +kernel
set_option maxRecDepth 65536 in
theorem w_alone : about1.alone = true := by decide +kernel
set_option maxRecDepth 65536 in
theorem w_named : about1.methodNamed? x = some theMethod := by decide +kernel
set_option maxRecDepth 65536 in
theorem w_hears : about1.hears theMethod below0 = true := by decide +kernel
set_option maxRecDepth 65536 in
theorem w_ripe : about1.ripe theMethod args0 below0 = true := by decide +kernel
theorem w_running : about1.status = .running := rfl
set_option maxRecDepth 65536 in
theorem w_room : about1.hasRoom e0.platform room_1 = true :=
  launch0.hasRoom_least _ room_1 (by decide +kernel) (by decide +kernel) (by decide +kernel) (by decide +kernel) (by decide +kernel) (by decide +kernel)
theorem allAtoms_all (ts : List Jvm.Cond) (a : Array Jvm.Value) (st : Jvm.State) : (allAtoms ts).before a st = ts.all (fun c => c.before a st) := by
  induction ts with
  | nil => rfl
  | cons c t ih =>
    show (Jvm.Cond.and c (allAtoms t)).before a st = _
    rw [Jvm.Cond.before_and, ih, List.all_cons]
def words1 : List Jvm.Cond := Jvm.Cond.code x code maxLocals ret :: tables_1
/-- a 'code' word, met by the world's own term for the bytes: nothing is compared byte by byte -/
theorem code_word {y : MethodName} {bytes : ByteArray} {mx : Nat} {rt : Option FieldType} {a : Array Value} {s : State} {m : MethodId} {meth : Method} {c : Code} (h1 : s.methodNamed? y = some m) (h2 : s.vm.method? m = some meth) (h3 : meth.code = some c) (h4 : c.code = bytes)
    (h5 : (c.maxLocals == mx && c.exceptionTable.isEmpty && decide (c.maxStack ≤ mostOperands) && decide (meth.sig.returnType = rt) && !meth.locks && decide (parseMethodDescriptor y.desc = some meth.sig)) = true) : (Jvm.Cond.code y bytes mx rt).before a s = true := by
  simp only [Bool.and_eq_true, beq_iff_eq, Bool.not_eq_true', decide_eq_true_eq] at h5
  obtain ⟨⟨⟨⟨⟨g1, g2⟩, g3⟩, g4⟩, g5⟩, g6⟩ := h5
  simp [Cond.before, Cond.holds, Cond.value, h1, h2, h3, h4, g1, g2, g3, g4, g5, g6]
def isCode : Jvm.Cond → Bool
  | .code _ _ _ _ => true
  | _ => false
theorem all_split {L : List Jvm.Cond} {P : Jvm.Cond → Bool} (h1 : L.all (fun c => isCode c || P c) = true) (h2 : ∀ c ∈ L.filter isCode, P c = true) : L.all P = true := by
  refine List.all_eq_true.mpr fun c hc => ?_
  have h := List.all_eq_true.mp h1 c hc
  rcases Bool.eq_false_or_eq_true (isCode c) with hi | hi
  · exact h2 c (List.mem_filter.mpr ⟨hc, hi⟩)
  · simpa [hi] using h
set_option maxRecDepth 65536 in
theorem w_c0 : (Jvm.Cond.code x code maxLocals ret).before args0 about1 = true := code_word (m := ⟨1, 3⟩) (meth := k1m3) (c := k1c3) (by decide +kernel) rfl rfl rfl (by decide +kernel)
set_option maxRecDepth 65536 in
theorem w_c1 : (Jvm.Cond.code ({ cls := "com/example/curb_queries/curbqueries/admission/OverloadLimitsEqualsPinLaw", name := "interval", desc := "(J)J" } : Jvm.MethodName) method_2_code (4 : Nat) (Option.some Jvm.ClassFile.FieldType.long)).before args0 about1 = true := code_word (m := ⟨1, 1⟩) (meth := k1m1) (c := k1c1) (by decide +kernel) rfl rfl rfl (by decide +kernel)
set_option maxRecDepth 65536 in
theorem w_c2 : (Jvm.Cond.code ({ cls := "com/example/curb_queries/curbqueries/admission/OverloadLimitsEqualsPinLaw", name := "target", desc := "(J)J" } : Jvm.MethodName) method_3_code (2 : Nat) (Option.some Jvm.ClassFile.FieldType.long)).before args0 about1 = true := code_word (m := ⟨1, 2⟩) (meth := k1m2) (c := k1c2) (by decide +kernel) rfl rfl rfl (by decide +kernel)
set_option maxRecDepth 65536 in
theorem w_c3 : (Jvm.Cond.code ({ cls := "com/example/curb_queries/curbqueries/admission/OverloadLimits", name := "<init>", desc := "(JJ)V" } : Jvm.MethodName) prog_28_method_1_code (5 : Nat) (Option.none : Option Jvm.ClassFile.FieldType)).before args0 about1 = true := code_word (m := ⟨2, 0⟩) (meth := k2m0) (c := k2c0) (by decide +kernel) rfl rfl rfl (by decide +kernel)
set_option maxRecDepth 65536 in
theorem w_c4 : (Jvm.Cond.code ({ cls := "java/lang/Object", name := "<init>", desc := "()V" } : Jvm.MethodName) object_method_1_code (1 : Nat) (Option.none : Option Jvm.ClassFile.FieldType)).before args0 about1 = true := code_word (m := ⟨0, 0⟩) (meth := k0m0) (c := k0c0) (by decide +kernel) rfl rfl rfl (by decide +kernel)
set_option maxRecDepth 65536 in
theorem w_c5 : (Jvm.Cond.code ({ cls := "java/lang/Long", name := "valueOf", desc := "(J)Ljava/lang/Long;" } : Jvm.MethodName) jdk_35_method_24_code (3 : Nat) (Option.some (Jvm.ClassFile.FieldType.object "java/lang/Long"))).before args0 about1 = true := code_word (m := ⟨8, 0⟩) (meth := k8m0) (c := k8c0) (by decide +kernel) rfl rfl rfl (by decide +kernel)
set_option maxRecDepth 65536 in
theorem w_c6 : (Jvm.Cond.code ({ cls := "com/example/curb_queries/curbqueries/admission/OverloadLimits", name := "equals", desc := "(Ljava/lang/Object;)Z" } : Jvm.MethodName) prog_28_method_4_code (2 : Nat) (Option.some Jvm.ClassFile.FieldType.boolean)).before args0 about1 = true := code_word (m := ⟨2, 1⟩) (meth := k2m1) (c := k2c1) (by decide +kernel) rfl rfl rfl (by decide +kernel)
set_option maxRecDepth 65536 in
theorem w_c7 : (Jvm.Cond.code ({ cls := "java/lang/Long", name := "<init>", desc := "(J)V" } : Jvm.MethodName) jdk_35_method_26_code (3 : Nat) (Option.none : Option Jvm.ClassFile.FieldType)).before args0 about1 = true := code_word (m := ⟨8, 1⟩) (meth := k8m1) (c := k8c1) (by decide +kernel) rfl rfl rfl (by decide +kernel)
set_option maxRecDepth 65536 in
theorem w_c8 : (Jvm.Cond.code ({ cls := "java/lang/Number", name := "<init>", desc := "()V" } : Jvm.MethodName) jdk_18_method_1_code (1 : Nat) (Option.none : Option Jvm.ClassFile.FieldType)).before args0 about1 = true := code_word (m := ⟨4, 0⟩) (meth := k4m0) (c := k4c0) (by decide +kernel) rfl rfl rfl (by decide +kernel)
def codes1 : List Jvm.Cond := [Jvm.Cond.code x code maxLocals ret, Jvm.Cond.code ({ cls := "com/example/curb_queries/curbqueries/admission/OverloadLimitsEqualsPinLaw", name := "interval", desc := "(J)J" } : Jvm.MethodName) method_2_code (4 : Nat) (Option.some Jvm.ClassFile.FieldType.long), Jvm.Cond.code ({ cls := "com/example/curb_queries/curbqueries/admission/OverloadLimitsEqualsPinLaw", name := "target", desc := "(J)J" } : Jvm.MethodName) method_3_code (2 : Nat) (Option.some Jvm.ClassFile.FieldType.long), Jvm.Cond.code ({ cls := "com/example/curb_queries/curbqueries/admission/OverloadLimits", name := "<init>", desc := "(JJ)V" } : Jvm.MethodName) prog_28_method_1_code (5 : Nat) (Option.none : Option Jvm.ClassFile.FieldType), Jvm.Cond.code ({ cls := "java/lang/Object", name := "<init>", desc := "()V" } : Jvm.MethodName) object_method_1_code (1 : Nat) (Option.none : Option Jvm.ClassFile.FieldType), Jvm.Cond.code ({ cls := "java/lang/Long", name := "valueOf", desc := "(J)Ljava/lang/Long;" } : Jvm.MethodName) jdk_35_method_24_code (3 : Nat) (Option.some (Jvm.ClassFile.FieldType.object "java/lang/Long")), Jvm.Cond.code ({ cls := "com/example/curb_queries/curbqueries/admission/OverloadLimits", name := "equals", desc := "(Ljava/lang/Object;)Z" } : Jvm.MethodName) prog_28_method_4_code (2 : Nat) (Option.some Jvm.ClassFile.FieldType.boolean), Jvm.Cond.code ({ cls := "java/lang/Long", name := "<init>", desc := "(J)V" } : Jvm.MethodName) jdk_35_method_26_code (3 : Nat) (Option.none : Option Jvm.ClassFile.FieldType), Jvm.Cond.code ({ cls := "java/lang/Number", name := "<init>", desc := "()V" } : Jvm.MethodName) jdk_18_method_1_code (1 : Nat) (Option.none : Option Jvm.ClassFile.FieldType)]
set_option maxRecDepth 65536 in
theorem codes_eq : words1.filter isCode = codes1 := rfl
theorem w_codes : ∀ c ∈ words1.filter isCode, c.before args0 about1 = true := by
  rw [codes_eq]
  intro c hc
  simp only [codes1, List.mem_cons, List.not_mem_nil, or_false] at hc
  rcases hc with rfl | rfl | rfl | rfl | rfl | rfl | rfl | rfl | rfl
  · exact w_c0
  · exact w_c1
  · exact w_c2
  · exact w_c3
  · exact w_c4
  · exact w_c5
  · exact w_c6
  · exact w_c7
  · exact w_c8
set_option maxRecDepth 65536 in
theorem w_t1 : (words1.take 24).all (fun c => isCode c || c.before args0 about1) = true := by decide +kernel
set_option maxRecDepth 65536 in
theorem w_t2 : ((words1.drop 24).take 24).all (fun c => isCode c || c.before args0 about1) = true := by decide +kernel
set_option maxRecDepth 65536 in
theorem w_t3 : ((words1.drop 24).drop 24).all (fun c => isCode c || c.before args0 about1) = true := by decide +kernel
theorem w_tables : (allAtoms (Jvm.Cond.code x code maxLocals ret :: tables_1)).before args0 about1 = true := by
  rw [allAtoms_all]
  show words1.all (fun c => c.before args0 about1) = true
  refine all_split ?_ w_codes
  rw [← List.take_append_drop 24 words1, List.all_append, w_t1, ← List.take_append_drop 24 (words1.drop 24), List.all_append, w_t2, w_t3]
  rfl
set_option maxRecDepth 65536 in
theorem w_rest : rest_1_c.before args0 about1 = true := by decide +kernel
set_option maxRecDepth 65536 in
theorem w_case : (Jvm.Cond.and given_1 narrow_1).before args0 about1 = true := by decide +kernel
theorem w_applies : (headSpec (Jvm.Cond.code x code maxLocals ret :: tables_1) room_1).applies x e0.platform about1 = true :=
  (Spec.applies_iff w_frames).mpr ⟨w_running, w_runnable, w_alone, w_named, w_hears, w_ripe, w_room, w_tables⟩
theorem atStart : AtStart classFile x code maxLocals ret World_1 tables_1 room_1 Calls_1 rest_1 Pre_1 launch0 p0 e0 about1 theMethod args0 below0 :=
  ⟨lists_1, trivial, launch0.admits_env _ _ _, launch0.least_env, fairChoices_fair.cas, fairChoices_fair.clock, w_frames, w_args, w_heap, w_applies, trivial, w_rest, w_case⟩
end start1
theorem witness_1 : WitnessClaimed_1 := ⟨start1.p0, start1.e0, start1.about1, start1.theMethod, start1.args0, start1.below0, start1.atStart⟩
end Jvm.Pilot.@@N@@
