import JvmDerived
import JvmDerived.Pilot.@@N@@Statement
import JvmDerived.Pilot.@@N@@Code
set_option linter.unusedVariables false
set_option linter.unusedSimpArgs false
namespace Jvm.RoadKit
open Sem ClassFile Op Lib Jvm.Stand Jvm.Free Jvm.LawKit
section New
variable {p : Program} {l : Launch} {e : Env} {R : Room} {s : State} {m : MethodId} {args : Array Value} {below : List Frame} {meth : Method} {c : Code} {T : State} {locs : List Loc} {cells slots : Nat}
theorem retI (X : Stand p l e R s m args below meth c T locs cells slots) (hx : p.tables.exec = Jvm.exec) {pc : Nat} {Ls : Array Slot} {z : Int32} {rest : List Value} (hret : meth.sig.returnType = some .int) (hd : decode c.code pc = .ok (.ireturn, 1)) {fs : List Frame}
    (hl : ∀ (f : JFrame) (acts : List Action), f.method = m → f.locked = none → f.entered = [] → (doReturn e (T.setTop f) acts (some (.int z))).1 = T.setFrames fs) : Steps p.tables e below (T.setTop (mkF m pc Ls (.int z :: rest))) (T.setFrames fs) := by
  have hm' : T.vm.method? m = some meth := X.method'
  have hn : narrow .int (.int z) = .int z := rfl
  show Steps p.tables e below (T.setTop { method := m, pc := pc, locals := Ls, stack := _ :: rest, locked := none }) _
  jvm_step X.here [X.here.top, hx, hd, hm', hret, hn]
  first | (intro acts; rw [hl _ acts rfl rfl rfl]) | rw [hl _ _ rfl rfl rfl]
  exact Steps.refl _
end New
end Jvm.RoadKit
namespace Jvm.Pilot.@@N@@
open Jvm Jvm.ClassFile Sem Op Lib Jvm.Free Jvm.Stand Jvm.LawKit Jvm.RoadKit Bundle Jvm.Pilot.@@N@@.Jvm.D

theorem own_and_bd (x m : Int32) (hm : 0 ≤ m.toInt) : 0 ≤ (x &&& m).toInt ∧ (x &&& m).toInt ≤ m.toInt := by
  have e : (x &&& m).toBitVec.toNat = x.toBitVec.toNat &&& m.toBitVec.toNat := by
    show (x.toBitVec &&& m.toBitVec).toNat = _
    rw [BitVec.toNat_and]
  have l1 : x.toBitVec.toNat &&& m.toBitVec.toNat ≤ m.toBitVec.toNat := Nat.and_le_right
  change 0 ≤ m.toBitVec.toInt at hm
  show 0 ≤ (x &&& m).toBitVec.toInt ∧ (x &&& m).toBitVec.toInt ≤ m.toBitVec.toInt
  rw [BitVec.toInt_eq_toNat_cond] at hm ⊢
  rw [BitVec.toInt_eq_toNat_cond, e]
  have := m.toBitVec.isLt
  split at hm <;> split <;> (try split) <;> omega
theorem own_int_of {x : Int32} {k : Int} (h : x.toInt = k) : x = Int32.ofInt k := by
  rw [← h]; exact (Int32.ofInt_toInt x).symm
theorem own_rem_bd (x y : Int32) (hx : 0 ≤ x.toInt) (hy : 0 < y.toInt) : 0 ≤ (x % y).toInt ∧ (x % y).toInt < y.toInt := by
  have e : (x % y).toInt = x.toInt.tmod y.toInt := by
    first | exact Int32.toInt_mod x y | exact Int32.toInt_srem x y | simp
  rw [e]
  exact ⟨Int.tmod_nonneg _ hx, Int.tmod_lt_of_pos _ hy⟩
theorem own_len {args : Array Value} {s : State} {t : Term} {a : Addr} {cl : Cell} {ty : FieldType} {n : Int32} (ht : t.eval args s none [] s = some (.ref a)) (A : Arr s s.heap a cl ty) (h : (Jvm.Cond.eq (Term.length t) (Term.int n)).value args s none s [] = some true) : cl.slots.size < 2 ^ 31 ∧ cl.slots.size.toInt32 = n := by
  have hA : s.arrayAt? a = some cl := Arr.fin (Vm.Alike.refl _) A
  by_cases q : cl.slots.size < 2 ^ 31
  · refine ⟨q, ?_⟩
    have e := len_f ht hA q
    have e2 : (Term.int n).eval args s none [] s = some (.int n) := rfl
    simp only [Jvm.Cond.value, e, e2] at h
    simpa using h
  · exfalso
    have e : (Term.length t).eval args s none [] s = none := by simp [Term.eval, ht, hA, q]
    simp [Jvm.Cond.value, e] at h
theorem own_elem {args : Array Value} {s : State} {t u : Term} {a : Addr} {cl : Cell} {ty : FieldType} {j : Int32} {i : Nat} {v : Value} (ht : t.eval args s none [] s = some (.ref a)) (A : Arr s s.heap a cl ty) (h : (Jvm.Cond.eq (Term.elem t (Term.int j)) u).value args s none s [] = some true) (hu : u.eval args s none [] s = some v) (hi : j.toNatClampNeg = i) : cl.slots[i]? = some v := by
  subst hi
  obtain ⟨x, y, e1, e2, -, -⟩ := cmp_v (Or.inl h)
  cases hu.symm.trans e2
  have q := elem_in e1 ht (Term.int_eval j) A.1
  simp only [Jvm.Cond.value, e1, hu] at h
  rw [q.2]
  cases x <;> cases v <;> simp_all
theorem own_sta_keep0 {Z : State} {h h' : Heap} {C n d : String} {v : Value} (F : Sta Z h C n d v) (K : Keep h h' []) : Sta Z h' C n d v := by
  obtain ⟨cf, i, k, f, st, cell, h1, h2, h3, h4, h5, r⟩ := F
  exact ⟨cf, i, k, f, st, cell, h1, h2, h3, h4, K.2.1 st cell h5 nin0, r⟩
theorem own_fld_int {args : Array Value} {s : State} {t : Term} {C n d : String} {k : Int32} {x : Addr} (ht : t.eval args s none [] s = some (.ref x)) (h : (Jvm.Cond.eq (Term.field t C n d) (Term.int k)).value args s none s [] = some true) : Fld s s.heap x C n d (.int k) := by
  obtain ⟨v, w, e1, e2, -, -⟩ := cmp_v (Or.inl h)
  rw [fld_at ht] at e1
  have e2' : some (Value.int k) = some w := e2
  cases e2'
  have h' := h
  simp only [Jvm.Cond.value, fld_at ht, e1, e2] at h'
  cases v <;> simp at h'
  subst h'
  exact Fld.start e1
theorem own_fld_ref {args : Array Value} {s : State} {t u : Term} {C n d : String} {x y : Addr} (ht : t.eval args s none [] s = some (.ref x)) (hu : u.eval args s none [] s = some (.ref y)) (h : (Jvm.Cond.eq (Term.field t C n d) u).value args s none s [] = some true) : Fld s s.heap x C n d (.ref y) := by
  obtain ⟨v, w, e1, e2, -, -⟩ := cmp_v (Or.inl h)
  rw [fld_at ht] at e1
  cases hu.symm.trans e2
  have h' := h
  simp only [Jvm.Cond.value, fld_at ht, e1, hu] at h'
  cases v <;> simp at h'
  subst h'
  exact Fld.start e1
theorem own_ci (q : Int32) (h1 : ¬ q < 1) (h2 : ¬ (127 : Int32) < q) : (q + 128).toNatClampNeg < 256 ∧ ¬ (q + 128) < 0 := by
  rw [Int32.lt_iff_toInt_lt] at h1 h2
  have e1 : (1 : Int32).toInt = 1 := rfl
  have e2 : (127 : Int32).toInt = 127 := rfl
  rw [e1] at h1; rw [e2] at h2
  have b : (q + 128).toInt = q.toInt + 128 := by
    rw [Int32.toInt_add]
    have : (128 : Int32).toInt = 128 := rfl
    rw [this, Int.bmod_eq_of_le] <;> omega
  refine ⟨by simp only [Int32.toNatClampNeg, b]; omega, ?_⟩
  rw [Int32.lt_iff_toInt_lt, b]
  have : (0 : Int32).toInt = 0 := rfl
  omega
theorem own_n128 (q : Int32) (h : ¬ q < (1 : Int32)) : ¬ q < (-128 : Int32) := by
  rw [Int32.lt_iff_toInt_lt] at h ⊢
  have e1 : (1 : Int32).toInt = 1 := rfl
  have e2 : (-128 : Int32).toInt = -128 := rfl
  omega
def own_max (a b : Int32) : Int32 := if a < b then b else a
theorem own_max_pos (y : Int32) : ¬ own_max (1 : Int32) y < (1 : Int32) := by
  unfold own_max
  split
  · rename_i h; rw [Int32.lt_iff_toInt_lt] at h ⊢; omega
  · decide
def own_bit (f k : Int32) : Int32 := if (f &&& k) = (0 : Int32) then 0 else 1
theorem own_bit01 (f k : Int32) : own_bit f k = 0 ∨ own_bit f k = 1 := by
  unfold own_bit
  split
  · exact Or.inl rfl
  · exact Or.inr rfl
theorem own_nar {x : Int32} (h : x = 0 ∨ x = 1) : narrow .boolean (.int x) = .int x := by rcases h with rfl | rfl <;> rfl
theorem own_fit {x : Int32} (h : x = 0 ∨ x = 1) : fits .boolean (.int x) = true := by rcases h with rfl | rfl <;> rfl
def own_eq (i1 t1 i2 t2 : Int32) : Int32 := if i1 = i2 ∧ t1 = t2 then 1 else 0
theorem own_eq_comm (i1 t1 i2 t2 : Int32) : own_eq i2 t2 i1 t1 = own_eq i1 t1 i2 t2 := by
  unfold own_eq; simp only [eq_comm]
theorem own_eq_self (i1 t1 : Int32) : own_eq i1 t1 i1 t1 = 1 := by simp [own_eq]
theorem own_foldl {f : Nat → Option Bool} (L : List Nat) (acc : Option Bool) (h : L.foldl (fun acc i => match acc with | some true => f i | x => x) acc = some true) : acc = some true ∧ ∀ i ∈ L, f i = some true := by
  induction L generalizing acc with
  | nil => exact ⟨h, fun _ q => nomatch q⟩
  | cons a L ih =>
    obtain ⟨h1, h2⟩ := ih _ h
    cases acc with
    | none => simp at h1
    | some b =>
      cases b with
      | false => simp at h1
      | true => exact ⟨rfl, fun i hi => (List.mem_cons.mp hi).elim (fun q => by subst q; exact h1) (fun q => h2 i q)⟩
theorem own_all {args : Array Value} {s : State} {t : Term} {a : Addr} {cl : Cell} {c : Jvm.Cond} (ht : t.eval args s none [] s = some (.ref a)) (hA : s.arrayAt? a = some cl) (h : (Jvm.Cond.all t c).value args s none s [] = some true) (i : Nat) (hi : i < cl.slots.size) : c.value args s none s [i] = some true := by
  simp only [Jvm.Cond.value, ht, hA] at h
  exact (own_foldl _ _ h).2 i (List.mem_range.mpr hi)
theorem own_and_e {args : Array Value} {s : State} {idx : List Nat} {c d : Jvm.Cond} (h : (Jvm.Cond.and c d).value args s none s idx = some true) : c.value args s none s idx = some true ∧ d.value args s none s idx = some true := and_e h
theorem own_elem_exa {args : Array Value} {s : State} {C n d K : String} {a : Addr} {cl : Cell} {ty : FieldType} {i : Nat} (hi : i < 2 ^ 31) (ht : (Term.static C n d).eval args s none [] s = some (.ref a)) (A : Arr s s.heap a cl ty) (h : (Jvm.Cond.exactly (Term.elem (Term.static C n d) (Term.index 0)) K).value args s none s [i] = some true) : ∃ b, cl.slots[i]? = some (.ref b) ∧ Exa s s.heap b K := by
  have hA : s.arrayAt? a = some cl := Arr.fin (Vm.Alike.refl _) A
  have ht' : (Term.static C n d).eval args s none [i] s = some (.ref a) := ht
  obtain ⟨b, c', cell, k, e1, e2, e3, e4, e5, e6, e7⟩ := Cond.exactly_spec (beq_iff_eq.mpr h : (Jvm.Cond.exactly (Term.elem (Term.static C n d) (Term.index 0)) K).holds args s none s [i] = true)
  obtain ⟨x, j, c2, f1, f2, f3, -, f5⟩ := Term.elem_spec e1
  cases ht'.symm.trans f1
  cases hA.symm.trans f3
  have f2' : some (Value.int i.toInt32) = some (.int j) := f2
  cases f2'
  have ej : i.toInt32.toNatClampNeg = i := by simp only [Int32.toNatClampNeg, len_toInt hi]; rfl
  rw [ej] at f5
  subst e6
  exact ⟨b, f5, cell, k, e3, e2, e4, e5, e7⟩
theorem own_isnt {Z : State} {h : Heap} {b : Addr} {a0 : Array Value} (hw : ∀ d ∈ tables_1, d.before a0 Z = true) (E : Exa Z h b "java/lang/Integer") : Ins Z h b "com/example/curb_queries/curbqueries/statistics/StatisticsSettings" false := by
  obtain ⟨cell, k, h1, h2, h3, h4, h5⟩ := E
  obtain ⟨cY, kY, y1, y2, y3, y4, -⟩ := Cond.instantiable_spec (hw _ (List.mem_of_getElem? (i := 6) rfl))
  refine ⟨cell, cY, h1, y1, ?_⟩
  have hn : Z.vm.assignable cell.cls cY = false := Vm.notAssignable_of_chain (args := a0) (X := "java/lang/Integer") (Y := "com/example/curb_queries/curbqueries/statistics/StatisticsSettings") (t := ["java/lang/Number", "java/lang/Object"]) h2 y1 y2 y3 (by simp only [Bool.or_eq_false_iff] at y4; exact y4.1) (fun w hm => by
    simp only [Cond.chainWords, List.mem_cons, List.not_mem_nil, or_false] at hm
    rcases hm with rfl | rfl | rfl
    · exact (hw _ (List.mem_of_getElem? (i := 46) rfl))
    · exact (hw _ (List.mem_of_getElem? (i := 47) rfl))
    · exact (hw _ (List.mem_of_getElem? (i := 48) rfl))) (by decide)
  rw [hn]; simp
theorem d1_0 : decode jdk_29_method_65_code 0 = .ok (.iload_n 0, 1) := by decide +kernel
theorem d1_1 : decode jdk_29_method_65_code 1 = .ok (.iload_n 1, 1) := by decide +kernel
theorem d1_2 : decode jdk_29_method_65_code 2 = .ok (.if_icmp .lt 7, 3) := by decide +kernel
theorem d1_9 : decode jdk_29_method_65_code 9 = .ok (.iload_n 1, 1) := by decide +kernel
theorem d1_10 : decode jdk_29_method_65_code 10 = .ok (.ireturn, 1) := by decide +kernel
theorem d1_5 : decode jdk_29_method_65_code 5 = .ok (.iload_n 0, 1) := by decide +kernel
theorem d1_6 : decode jdk_29_method_65_code 6 = .ok (.goto 4, 3) := by decide +kernel
def own_rmM_Q (Z : State) (a : Int32) (b : Int32)  (h0 : Heap) (n0 : Nat) (v : Option Value) (h : Heap) (L : List Loc) : Prop := v = some (.int (own_max a b)) ∧ Fr n0 L ∧ h = h0
set_option maxRecDepth 65536 in
set_option maxHeartbeats 40000000 in
theorem own_rmM (l : Launch) (Z : State) (a0 : Array Value) (hw : ∀ d ∈ tables_1, d.before a0 Z = true) (ws : List Jvm.Cond) (a : Int32) (b : Int32)  (h0 : Heap) (n0 : Nat) (Z0 : n0 ≤ h0.size)  :
    MetFree l (⟨"java/lang/Math", "max", "(II)I"⟩ : MethodName) (head1 (Jvm.Cond.code (⟨"java/lang/Math", "max", "(II)I"⟩ : MethodName) jdk_29_method_65_code 2 (some .int) :: ws) ({ frames := 0, cells := 0, slots := 0, locals := 0 } : Room)) (fun aa UU => aa = #[(.int a), (.int b)] ∧ Z.Warmed39 UU.vm ∧ UU.heap = h0) (fun _ _ _ _ _ => True) (fun _ UU oo UU' => ∃ vv LL, oo = .returned vv ∧ own_rmM_Q Z a b h0 n0 vv UU'.heap LL ∧ FrameEnd UU oo UU' LL ({ frames := 0, cells := 0, slots := 0, locals := 0 } : Room).cells ({ frames := 0, cells := 0, slots := 0, locals := 0 } : Room).slots) := by
  refine MetFree.of_bodySF (Jvm.Free.JP.mathPlain rfl (by decide +kernel)) hisR ?_
  intro p e s m args below meth cc s₁ Bd hml0 hP hK
  obtain ⟨rfl, hZ, hh⟩ := hP
  have hx := Bd.exec
  have hby := Bd.bytes
  have hml : cc.maxLocals = 2 := hml0
  have hown : s.vm.findClass "java/lang/Math" = some m.cls := findClass_of_methodNamed Bd.named
  have hnm := (name_of_methodNamed Bd.named Bd.method).1
  have X0 : Stand p l e ({ frames := 0, cells := 0, slots := 0, locals := 0 } : Room) s m #[(.int a), (.int b)] below meth cc s₁ [] 0 0 := Stand.of_body Bd
  have e0 : s₁.heap = h0 := by rw [← hh, Bd.state]; rfl
  have N0 := Fr.nil n0
  have k0 : ∀ tt, Steps p.tables e below (s₁.setTop (mkF m 0 #[.val (.int a), .val (.int b)] [])) tt → Steps p.tables e below (s₁.setTop (entryFrame m #[(.int a), (.int b)] 2)) tt := fun tt kk => castTop (by first | (simp [entryFrame, mkF, argsToLocals, Value.category]; done) | rfl) kk
  have k1 : ∀ tt, Steps p.tables e below (s₁.setTop (mkF m 2 #[.val (.int a), .val (.int b)] [(.int b), (.int a)])) tt → Steps p.tables e below (s₁.setTop (entryFrame m #[(.int a), (.int b)] 2)) tt := by
    intro tt kk
    refine k0 tt ?_
    show Steps p.tables e below (s₁.setTop (mkF m 0 #[.val (.int a), .val (.int b)] [])) tt
    refine XS.iloadN X0.here hx rfl (hb hby d1_0) rfl ?_
    show Steps p.tables e below (s₁.setTop (mkF m 1 #[.val (.int a), .val (.int b)] [(.int a)])) tt
    refine XS.iloadN X0.here hx rfl (hb hby d1_1) rfl ?_
    exact kk
  by_cases c2_2 : a < b
  · have k3 : ∀ tt, Steps p.tables e below (s₁.setTop (mkF m 10 #[.val (.int a), .val (.int b)] [(.int b)])) tt → Steps p.tables e below (s₁.setTop (entryFrame m #[(.int a), (.int b)] 2)) tt := by
      intro tt kk
      refine k1 tt ?_
      show Steps p.tables e below (s₁.setTop (mkF m 2 #[.val (.int a), .val (.int b)] [(.int b), (.int a)])) tt
      refine XS.icmpYes X0.here hx rfl (pc0 := 2) (pc' := 9) rfl (hb hby d1_2) rfl (tlt (c2_2 : a < b)).1 (by decide) (by decide) ?_
      show Steps p.tables e below (s₁.setTop (mkF m 9 #[.val (.int a), .val (.int b)] [])) tt
      refine XS.iloadN X0.here hx rfl (hb hby d1_9) rfl ?_
      exact kk
    obtain ⟨fs, hr, hrun, hended, hW, hsame⟩ := X0.leave (v := some (.int b)) (fun hq => by rw [Bd.returns] at hq; cases hq)
    refine ⟨_, _, k3 _ ?_, hrun, hended, _, _, rfl, ?_, ⟨_, rfl⟩, hW, hsame.mono (by decide) (by decide)⟩
    · show Steps p.tables e below (s₁.setTop (mkF m 10 #[.val (.int a), .val (.int b)] [(.int b)])) _
      exact retI X0 hx Bd.returns (hb hby d1_10) hr
    · show (fun (v : Option Value) (h : Heap) (L : List Loc) => v = some (.int (own_max a b)) ∧ Fr n0 L ∧ h = h0) _ s₁.heap _
      rw [e0]
      dsimp only
      refine ⟨?_, N0, rfl⟩
      simp [own_max, c2_2]
  · have k4 : ∀ tt, Steps p.tables e below (s₁.setTop (mkF m 10 #[.val (.int a), .val (.int b)] [(.int a)])) tt → Steps p.tables e below (s₁.setTop (entryFrame m #[(.int a), (.int b)] 2)) tt := by
      intro tt kk
      refine k1 tt ?_
      show Steps p.tables e below (s₁.setTop (mkF m 2 #[.val (.int a), .val (.int b)] [(.int b), (.int a)])) tt
      refine XS.icmpNo X0.here hx rfl (hb hby d1_2) rfl (flt (c2_2 : ¬ (a < b))).1 ?_
      show Steps p.tables e below (s₁.setTop (mkF m 5 #[.val (.int a), .val (.int b)] [])) tt
      refine XS.iloadN X0.here hx rfl (hb hby d1_5) rfl ?_
      show Steps p.tables e below (s₁.setTop (mkF m 6 #[.val (.int a), .val (.int b)] [(.int a)])) tt
      refine XS.goto X0.here hx rfl (pc0 := 6) (pc' := 10) rfl (hb hby d1_6) (by decide) (by decide) ?_
      exact kk
    obtain ⟨fs, hr, hrun, hended, hW, hsame⟩ := X0.leave (v := some (.int a)) (fun hq => by rw [Bd.returns] at hq; cases hq)
    refine ⟨_, _, k4 _ ?_, hrun, hended, _, _, rfl, ?_, ⟨_, rfl⟩, hW, hsame.mono (by decide) (by decide)⟩
    · show Steps p.tables e below (s₁.setTop (mkF m 10 #[.val (.int a), .val (.int b)] [(.int a)])) _
      exact retI X0 hx Bd.returns (hb hby d1_10) hr
    · show (fun (v : Option Value) (h : Heap) (L : List Loc) => v = some (.int (own_max a b)) ∧ Fr n0 L ∧ h = h0) _ s₁.heap _
      rw [e0]
      dsimp only
      refine ⟨?_, N0, rfl⟩
      simp [own_max, c2_2]
theorem own_pn_7 : plainName "java/lang/Number" = true := by first | (simp [plainName, overriddenIn]; done) | decide +kernel
theorem d7_0 : decode jdk_18_method_1_code 0 = .ok (.aload_n 0, 1) := by decide +kernel
theorem d7_1 : decode jdk_18_method_1_code 1 = .ok (.invokespecial 1, 3) := by decide +kernel
theorem d7_4 : decode jdk_18_method_1_code 4 = .ok (.return_, 1) := by decide +kernel
def own_rmN_Q (Z : State) (a : Addr)  (h0 : Heap) (n0 : Nat) (v : Option Value) (h : Heap) (L : List Loc) : Prop := v = none ∧ Fr n0 L ∧ h = h0
set_option maxRecDepth 65536 in
set_option maxHeartbeats 40000000 in
theorem own_rmN (l : Launch) (Z : State) (a0 : Array Value) (hw : ∀ d ∈ tables_1, d.before a0 Z = true) (ws : List Jvm.Cond) (a : Addr)  (h0 : Heap) (n0 : Nat) (Z0 : n0 ≤ h0.size)  :
    MetFree l (⟨"java/lang/Number", "<init>", "()V"⟩ : MethodName) (head1 (Jvm.Cond.code (⟨"java/lang/Number", "<init>", "()V"⟩ : MethodName) jdk_18_method_1_code 1 none :: ws) ({ frames := 1, cells := 0, slots := 0, locals := 12 } : Room)) (fun aa UU => aa = #[(.ref a)] ∧ Z.Warmed39 UU.vm ∧ UU.heap = h0) (fun _ _ _ _ _ => True) (fun _ UU oo UU' => ∃ vv LL, oo = .returned vv ∧ own_rmN_Q Z a h0 n0 vv UU'.heap LL ∧ FrameEnd UU oo UU' LL ({ frames := 1, cells := 0, slots := 0, locals := 12 } : Room).cells ({ frames := 1, cells := 0, slots := 0, locals := 12 } : Room).slots) := by
  refine MetFree.of_bodySF (plainFor_of_name own_pn_7) hisR ?_
  intro p e s m args below meth cc s₁ Bd hml0 hP hK
  obtain ⟨rfl, hZ, hh⟩ := hP
  have hx := Bd.exec
  have hby := Bd.bytes
  have hml : cc.maxLocals = 1 := hml0
  have hown : s.vm.findClass "java/lang/Number" = some m.cls := findClass_of_methodNamed Bd.named
  have hnm := (name_of_methodNamed Bd.named Bd.method).1
  have X0 : Stand p l e ({ frames := 1, cells := 0, slots := 0, locals := 12 } : Room) s m #[(.ref a)] below meth cc s₁ [] 0 0 := Stand.of_body Bd
  have e0 : s₁.heap = h0 := by rw [← hh, Bd.state]; rfl
  have N0 := Fr.nil n0
  have k0 : ∀ tt, Steps p.tables e below (s₁.setTop (mkF m 0 #[.val (.ref a)] [])) tt → Steps p.tables e below (s₁.setTop (entryFrame m #[(.ref a)] 1)) tt := fun tt kk => castTop (by first | (simp [entryFrame, mkF, argsToLocals, Value.category]; done) | rfl) kk
  obtain ⟨T1, X1, e1, st1⟩ := initO X0 hx hZ hown (hw _ (List.mem_of_getElem? (i := 43) rfl)) (hw _ (List.mem_of_getElem? (i := 12) rfl)) (hw _ (List.mem_of_getElem? (i := 13) rfl)) e0 (g := (mkF m 1 #[.val (.ref a)] [(.ref a)])) rfl (by rw [hml]; rfl) rfl (hb hby d7_1) (by decide) (W := 0) (by show 2 * 0 + _ ≤ _; exact Nat.le_of_eq rfl) (by decide)
  have k2 : ∀ tt, Steps p.tables e below (T1.setTop (mkF m 4 #[.val (.ref a)] [])) tt → Steps p.tables e below (s₁.setTop (entryFrame m #[(.ref a)] 1)) tt := by
    intro tt kk
    refine k0 tt ?_
    show Steps p.tables e below (s₁.setTop (mkF m 0 #[.val (.ref a)] [])) tt
    refine XS.aloadN X0.here hx rfl (hb hby d7_0) rfl rfl ?_
    show Steps p.tables e below (s₁.setTop (mkF m 1 #[.val (.ref a)] [(.ref a)])) tt
    refine st1 _ ?_
    exact kk
  obtain ⟨fs, hr, hrun, hended, hW, hsame⟩ := X1.leave (v := none) (fun _ => rfl)
  refine ⟨_, _, k2 _ ?_, hrun, hended, _, _, rfl, ?_, ⟨_, rfl⟩, hW, hsame.mono (by decide) (by decide)⟩
  · show Steps p.tables e below (T1.setTop (mkF m 4 #[.val (.ref a)] [])) _
    exact X1.returnOut hx Bd.returns (hb hby d7_4) hr
  · show (fun (v : Option Value) (h : Heap) (L : List Loc) => v = none ∧ Fr n0 L ∧ h = h0) _ T1.heap _
    rw [e1]
    dsimp only
    exact ⟨rfl, N0, rfl⟩
theorem own_pn_6 : plainName "java/lang/Integer" = true := by first | (simp [plainName, overriddenIn]; done) | decide +kernel
theorem d6_0 : decode jdk_33_method_23_code 0 = .ok (.aload_n 0, 1) := by decide +kernel
theorem d6_1 : decode jdk_33_method_23_code 1 = .ok (.invokespecial 202, 3) := by decide +kernel
theorem own_pd___V : parseMethodDescriptor "()V" = some ⟨[], none⟩ := by decide +kernel
theorem d6_4 : decode jdk_33_method_23_code 4 = .ok (.aload_n 0, 1) := by decide +kernel
theorem d6_5 : decode jdk_33_method_23_code 5 = .ok (.iload_n 1, 1) := by decide +kernel
theorem d6_6 : decode jdk_33_method_23_code 6 = .ok (.putfield 205, 3) := by decide +kernel
theorem d6_9 : decode jdk_33_method_23_code 9 = .ok (.return_, 1) := by decide +kernel
def own_rmL_Q (Z : State) (a : Addr) (q : Int32) (u0 : Value) (h0 : Heap) (n0 : Nat) (v : Option Value) (h : Heap) (L : List Loc) : Prop := v = none ∧ Fr n0 L ∧ Keep h0 h [a]
set_option maxRecDepth 65536 in
set_option maxHeartbeats 40000000 in
theorem own_rmL (l : Launch) (Z : State) (a0 : Array Value) (hw : ∀ d ∈ tables_1, d.before a0 Z = true) (ws : List Jvm.Cond) (a : Addr) (q : Int32) (u0 : Value) (h0 : Heap) (n0 : Nat) (Z0 : n0 ≤ h0.size) (E : Exa Z h0 a "java/lang/Integer") (F : Fld Z h0 a "java/lang/Integer" "value" "I" u0) (g : n0 ≤ a) :
    MetFree l (⟨"java/lang/Integer", "<init>", "(I)V"⟩ : MethodName) (head1 (Jvm.Cond.code (⟨"java/lang/Integer", "<init>", "(I)V"⟩ : MethodName) jdk_33_method_23_code 2 none :: ws) ({ frames := 2, cells := 0, slots := 0, locals := 24 } : Room)) (fun aa UU => aa = #[(.ref a), (.int q)] ∧ Z.Warmed39 UU.vm ∧ UU.heap = h0) (fun _ _ _ _ _ => True) (fun _ UU oo UU' => ∃ vv LL, oo = .returned vv ∧ own_rmL_Q Z a q u0 h0 n0 vv UU'.heap LL ∧ FrameEnd UU oo UU' LL ({ frames := 2, cells := 0, slots := 0, locals := 24 } : Room).cells ({ frames := 2, cells := 0, slots := 0, locals := 24 } : Room).slots) := by
  refine MetFree.of_bodySF (plainFor_of_name own_pn_6) hisR ?_
  intro p e s m args below meth cc s₁ Bd hml0 hP hK
  obtain ⟨rfl, hZ, hh⟩ := hP
  have hx := Bd.exec
  have hby := Bd.bytes
  have hml : cc.maxLocals = 2 := hml0
  have hown : s.vm.findClass "java/lang/Integer" = some m.cls := findClass_of_methodNamed Bd.named
  have hnm := (name_of_methodNamed Bd.named Bd.method).1
  have X0 : Stand p l e ({ frames := 2, cells := 0, slots := 0, locals := 24 } : Room) s m #[(.ref a), (.int q)] below meth cc s₁ [] 0 0 := Stand.of_body Bd
  have e0 : s₁.heap = h0 := by rw [← hh, Bd.state]; rfl
  have N0 := Fr.nil n0
  have k0 : ∀ tt, Steps p.tables e below (s₁.setTop (mkF m 0 #[.val (.ref a), .val (.int q)] [])) tt → Steps p.tables e below (s₁.setTop (entryFrame m #[(.ref a), (.int q)] 2)) tt := fun tt kk => castTop (by first | (simp [entryFrame, mkF, argsToLocals, Value.category]; done) | rfl) kk
  obtain ⟨_, _, ⟨T1, L1, ka1, na1⟩, -, X1, ⟨Lc1, hQ1, l1, y1, z1⟩, st1⟩ := X0.specialBack hx (y := (⟨"java/lang/Number", "<init>", "()V"⟩ : MethodName)) rfl hown (mvT hZ (hw _ (List.mem_of_getElem? (i := 37) rfl))) (mvT hZ (hw _ (List.mem_of_getElem? (i := 38) rfl))) (mvT hZ (hw _ (List.mem_of_getElem? (i := 42) rfl))) (by decide) (backOf (W := 0) (own_rmN l Z a0 hw [] a h0 n0 Z0) hZ (hw _ (List.mem_of_getElem? (i := 42) rfl)) (hw _ (List.mem_of_getElem? (i := 41) rfl)) (by decide) (by decide)) (g := (mkF m 1 #[.val (.ref a), .val (.int q)] [(.ref a)])) rfl (by rw [hml]; rfl) (Steps.refl _) (a := a) (argsL := []) (rest := []) (lenOf own_pd___V rfl) rfl (by show 2 * 0 + _ ≤ _; exact Nat.le_of_eq rfl) (hb hby d6_1) (fun _ _ => ⟨rfl, e0, (by decide : 0 + 0 ≤ _), (by decide : 0 + 0 ≤ _)⟩)
  dsimp only [Pt.U, Pt.locs, Pt.cells, Pt.slots] at X1 l1 y1 z1 st1 hQ1
  subst l1 y1 z1
  obtain ⟨rfl, Nq1, hh1⟩ := hQ1
  have N1 := Fr.app N0 Nq1
  obtain ⟨T2, h2, X2, e2, W2, st2⟩ := putF X1 hx hZ hown (host := "") (Or.inl (hw _ (List.mem_of_getElem? (i := 44) rfl))) Via.refl hh1 F E (Or.inr ⟨(hw _ (List.mem_of_getElem? (i := 45) rfl)), rfl, hnm⟩) (hw _ (List.mem_of_getElem? (i := 32) rfl)) (ty := .int) (by decide) rfl rfl (g := (mkF m 6 #[.val (.ref a), .val (.int q)] [(.int q), (.ref a)])) rfl rfl (hb hby d6_6)
  have Fw2 := Fld.same W2 F
  have Z2 : n0 ≤ h2.size := Nat.le_trans Z0 (Keep.of_wr W2).1
  have N2 := Fr.snoc X2 N1 g
  have K2 := Keep.wr (Keep.refl h0 [a]) W2 (Or.inl (List.mem_of_getElem? (i := 0) rfl))
  have k3 : ∀ tt, Steps p.tables e below (T2.setTop (mkF m 9 #[.val (.ref a), .val (.int q)] [])) tt → Steps p.tables e below (s₁.setTop (entryFrame m #[(.ref a), (.int q)] 2)) tt := by
    intro tt kk
    refine k0 tt ?_
    show Steps p.tables e below (s₁.setTop (mkF m 0 #[.val (.ref a), .val (.int q)] [])) tt
    refine XS.aloadN X0.here hx rfl (hb hby d6_0) rfl rfl ?_
    show Steps p.tables e below (s₁.setTop (mkF m 1 #[.val (.ref a), .val (.int q)] [(.ref a)])) tt
    refine st1.trans ?_
    show Steps p.tables e below (T1.setTop (mkF m 4 #[.val (.ref a), .val (.int q)] [])) tt
    refine XS.aloadN X1.here hx rfl (hb hby d6_4) rfl rfl ?_
    show Steps p.tables e below (T1.setTop (mkF m 5 #[.val (.ref a), .val (.int q)] [(.ref a)])) tt
    refine XS.iloadN X1.here hx rfl (hb hby d6_5) rfl ?_
    show Steps p.tables e below (T1.setTop (mkF m 6 #[.val (.ref a), .val (.int q)] [(.int q), (.ref a)])) tt
    refine st2 _ ?_
    exact kk
  obtain ⟨fs, hr, hrun, hended, hW, hsame⟩ := X2.leave (v := none) (fun _ => rfl)
  refine ⟨_, _, k3 _ ?_, hrun, hended, _, _, rfl, ?_, ⟨_, rfl⟩, hW, hsame.mono (by decide) (by decide)⟩
  · show Steps p.tables e below (T2.setTop (mkF m 9 #[.val (.ref a), .val (.int q)] [])) _
    exact X2.returnOut hx Bd.returns (hb hby d6_9) hr
  · show (fun (v : Option Value) (h : Heap) (L : List Loc) => v = none ∧ Fr n0 L ∧ Keep h0 h [a]) _ T2.heap _
    rw [e2]
    dsimp only
    exact ⟨rfl, N2, K2⟩
theorem own_pn_5 : plainName "java/lang/Integer" = true := by first | (simp [plainName, overriddenIn]; done) | decide +kernel
theorem d5_0 : decode jdk_33_method_22_code 0 = .ok (.iload_n 0, 1) := by decide +kernel
theorem d5_1 : decode jdk_33_method_22_code 1 = .ok (.bipush (-128), 2) := by decide +kernel
theorem d5_3 : decode jdk_33_method_22_code 3 = .ok (.if_icmp .lt 20, 3) := by decide +kernel
theorem d5_6 : decode jdk_33_method_22_code 6 = .ok (.iload_n 0, 1) := by decide +kernel
theorem d5_7 : decode jdk_33_method_22_code 7 = .ok (.getstatic 191, 3) := by decide +kernel
theorem d5_10 : decode jdk_33_method_22_code 10 = .ok (.if_icmp .gt 13, 3) := by decide +kernel
theorem d5_23 : decode jdk_33_method_22_code 23 = .ok (.new 1, 3) := by decide +kernel
theorem d5_26 : decode jdk_33_method_22_code 26 = .ok (.dup, 1) := by decide +kernel
theorem d5_27 : decode jdk_33_method_22_code 27 = .ok (.iload_n 0, 1) := by decide +kernel
theorem d5_28 : decode jdk_33_method_22_code 28 = .ok (.invokespecial 199, 3) := by decide +kernel
theorem own_pd__I_V : parseMethodDescriptor "(I)V" = some ⟨[.int], none⟩ := by decide +kernel
theorem d5_31 : decode jdk_33_method_22_code 31 = .ok (.areturn, 1) := by decide +kernel
theorem d5_13 : decode jdk_33_method_22_code 13 = .ok (.getstatic 195, 3) := by decide +kernel
theorem d5_16 : decode jdk_33_method_22_code 16 = .ok (.iload_n 0, 1) := by decide +kernel
theorem d5_17 : decode jdk_33_method_22_code 17 = .ok (.sipush 128, 3) := by decide +kernel
theorem d5_20 : decode jdk_33_method_22_code 20 = .ok (.iadd, 1) := by decide +kernel
theorem d5_21 : decode jdk_33_method_22_code 21 = .ok (.aaload, 1) := by decide +kernel
theorem d5_22 : decode jdk_33_method_22_code 22 = .ok (.areturn, 1) := by decide +kernel
def own_rmV_Q (Z : State) (q : Int32) (wC : Addr) (cC : Cell) (h0 : Heap) (n0 : Nat) (v : Option Value) (h : Heap) (L : List Loc) : Prop := ∃ b : Addr, v = some (.ref b) ∧ Fr n0 L ∧ Keep h0 h [] ∧ Exa Z h b "java/lang/Integer"
set_option maxRecDepth 65536 in
set_option maxHeartbeats 40000000 in
theorem own_rmV (l : Launch) (Z : State) (a0 : Array Value) (hw : ∀ d ∈ tables_1, d.before a0 Z = true) (ws : List Jvm.Cond) (q : Int32) (wC : Addr) (cC : Cell) (h0 : Heap) (n0 : Nat) (Z0 : n0 ≤ h0.size) (S_H : Sta Z h0 "java/lang/Integer$IntegerCache" "high" "I" (.int (127 : Int32))) (S_C : Sta Z h0 "java/lang/Integer$IntegerCache" "cache" "[Ljava/lang/Integer;" (.ref wC)) (A_C : Arr Z h0 wC cC (.object "java/lang/Integer")) (z_C : cC.slots.size = 256) (h_C : ∀ i, i < 256 → ∃ b, cC.slots[i]? = some (.ref b) ∧ Exa Z h0 b "java/lang/Integer") (hq : ¬ q < (1 : Int32)) :
    MetFree l (⟨"java/lang/Integer", "valueOf", "(I)Ljava/lang/Integer;"⟩ : MethodName) (head1 (Jvm.Cond.code (⟨"java/lang/Integer", "valueOf", "(I)Ljava/lang/Integer;"⟩ : MethodName) jdk_33_method_22_code 1 (some (.object "java/lang/Integer")) :: ws) ({ frames := 3, cells := 1, slots := 1, locals := 38 } : Room)) (fun aa UU => aa = #[(.int q)] ∧ Z.Warmed39 UU.vm ∧ UU.heap = h0) (fun _ _ _ _ _ => True) (fun _ UU oo UU' => ∃ vv LL, oo = .returned vv ∧ own_rmV_Q Z q wC cC h0 n0 vv UU'.heap LL ∧ FrameEnd UU oo UU' LL ({ frames := 3, cells := 1, slots := 1, locals := 38 } : Room).cells ({ frames := 3, cells := 1, slots := 1, locals := 38 } : Room).slots) := by
  refine MetFree.of_bodySF (plainFor_of_name own_pn_5) hisR ?_
  intro p e s m args below meth cc s₁ Bd hml0 hP hK
  obtain ⟨rfl, hZ, hh⟩ := hP
  have hx := Bd.exec
  have hby := Bd.bytes
  have hml : cc.maxLocals = 1 := hml0
  have hown : s.vm.findClass "java/lang/Integer" = some m.cls := findClass_of_methodNamed Bd.named
  have hnm := (name_of_methodNamed Bd.named Bd.method).1
  have X0 : Stand p l e ({ frames := 3, cells := 1, slots := 1, locals := 38 } : Room) s m #[(.int q)] below meth cc s₁ [] 0 0 := Stand.of_body Bd
  have e0 : s₁.heap = h0 := by rw [← hh, Bd.state]; rfl
  have N0 := Fr.nil n0
  have k0 : ∀ tt, Steps p.tables e below (s₁.setTop (mkF m 0 #[.val (.int q)] [])) tt → Steps p.tables e below (s₁.setTop (entryFrame m #[(.int q)] 1)) tt := fun tt kk => castTop (by first | (simp [entryFrame, mkF, argsToLocals, Value.category]; done) | rfl) kk
  obtain ⟨T1, X1, e1, st1⟩ := getS2 X0 hx hZ hown (host := "") (Or.inl (hw _ (List.mem_of_getElem? (i := 29) rfl))) Via.refl e0 S_H (g := (mkF m 7 #[.val (.int q)] [(.int q)])) rfl (hb hby d5_7)
  have k2 : ∀ tt, Steps p.tables e below (T1.setTop (mkF m 10 #[.val (.int q)] [(.int (127 : Int32)), (.int q)])) tt → Steps p.tables e below (s₁.setTop (entryFrame m #[(.int q)] 1)) tt := by
    intro tt kk
    refine k0 tt ?_
    show Steps p.tables e below (s₁.setTop (mkF m 0 #[.val (.int q)] [])) tt
    refine XS.iloadN X0.here hx rfl (hb hby d5_0) rfl ?_
    show Steps p.tables e below (s₁.setTop (mkF m 1 #[.val (.int q)] [(.int q)])) tt
    refine XS.bipush X0.here hx rfl (hb hby d5_1) ?_
    show Steps p.tables e below (s₁.setTop (mkF m 3 #[.val (.int q)] [(.int (-128 : Int32)), (.int q)])) tt
    refine XS.icmpNo X0.here hx rfl (hb hby d5_3) rfl (flt (own_n128 q hq : ¬ (q < (-128 : Int32)))).1 ?_
    show Steps p.tables e below (s₁.setTop (mkF m 6 #[.val (.int q)] [])) tt
    refine XS.iloadN X0.here hx rfl (hb hby d5_6) rfl ?_
    show Steps p.tables e below (s₁.setTop (mkF m 7 #[.val (.int q)] [(.int q)])) tt
    refine st1 _ ?_
    exact kk
  by_cases h17 : (127 : Int32) < q
  · obtain ⟨T3, h3, X3, e3, E3, A3, D3, -, st3⟩ := newO X1 hx hZ hown (hw _ (List.mem_of_getElem? (i := 31) rfl)) (hw _ (List.mem_of_getElem? (i := 32) rfl)) (hw _ (List.mem_of_getElem? (i := 27) rfl)) e1 (g := (mkF m 23 #[.val (.int q)] [])) rfl (hb hby d5_23) (by decide) (by decide)
    obtain ⟨b3, g3⟩ : ∃ z, z = h0.size := ⟨_, rfl⟩
    rw [← g3] at A3 D3 st3
    have g_b3 : n0 ≤ b3 := Nat.le_trans Z0 (Nat.le_of_eq g3.symm)
    have sz_b3 : h0.size ≤ b3 := Nat.le_trans (Keep.refl h0 []).1 (Nat.le_of_eq g3.symm)
    have Z3 : n0 ≤ h3.size := Nat.le_trans Z0 E3.1
    have K3 := Keep.ext (Keep.refl h0 []) E3
    have F3_value : Fld Z h3 b3 "java/lang/Integer" "value" "I" (.int (0 : Int32)) := D3 (Or.inr (hw _ (List.mem_of_getElem? (i := 45) rfl))) (ty := .int) (by decide)
    obtain ⟨_, _, ⟨T4, L4, ka4, na4⟩, -, X4, ⟨Lc4, hQ4, l4, y4, z4⟩, st4⟩ := X3.specialBack hx (y := (⟨"java/lang/Integer", "<init>", "(I)V"⟩ : MethodName)) rfl hown (mvT hZ (hw _ (List.mem_of_getElem? (i := 33) rfl))) (mvT hZ (hw _ (List.mem_of_getElem? (i := 34) rfl))) (mvT hZ (hw _ (List.mem_of_getElem? (i := 36) rfl))) (by decide) (backOf (W := 1) (own_rmL l Z a0 hw [] b3 q _ h3 n0 Z3 A3 F3_value g_b3) hZ (hw _ (List.mem_of_getElem? (i := 36) rfl)) (hw _ (List.mem_of_getElem? (i := 27) rfl)) (by decide) (by decide)) (g := (mkF m 28 #[.val (.int q)] [(.int q), (.ref b3), (.ref b3)])) rfl (by rw [hml]; rfl) (Steps.refl _) (a := b3) (argsL := [(.int q)]) (rest := [(.ref b3)]) (lenOf own_pd__I_V rfl) rfl (by show 2 * 0 + _ ≤ _; exact Nat.le_of_eq rfl) (hb hby d5_28) (fun _ _ => ⟨rfl, e3, (by decide : 1 + 0 ≤ _), (by decide : 1 + 0 ≤ _)⟩)
    dsimp only [Pt.U, Pt.locs, Pt.cells, Pt.slots] at X4 l4 y4 z4 st4 hQ4
    subst l4 y4 z4
    obtain ⟨rfl, Nq4, K4⟩ := hQ4
    have N4 := Fr.app N0 Nq4
    have Z4 : n0 ≤ T4.heap.size := Nat.le_trans Z3 K4.1
    have Kt4 := Keep.trans K3 K4 (allS (Or.inr sz_b3) all0)
    have k5 : ∀ tt, Steps p.tables e below (T4.setTop (mkF m 31 #[.val (.int q)] [(.ref b3)])) tt → Steps p.tables e below (s₁.setTop (entryFrame m #[(.int q)] 1)) tt := by
      intro tt kk
      refine k2 tt ?_
      show Steps p.tables e below (T1.setTop (mkF m 10 #[.val (.int q)] [(.int (127 : Int32)), (.int q)])) tt
      refine XS.icmpYes X1.here hx rfl (pc0 := 10) (pc' := 23) rfl (hb hby d5_10) rfl (tlt (h17 : (127 : Int32) < q)).2.2.1 (by decide) (by decide) ?_
      show Steps p.tables e below (T1.setTop (mkF m 23 #[.val (.int q)] [])) tt
      refine st3 _ ?_
      show Steps p.tables e below (T3.setTop (mkF m 26 #[.val (.int q)] [(.ref b3)])) tt
      refine XS.dup X3.here hx rfl (hb hby d5_26) rfl rfl ?_
      show Steps p.tables e below (T3.setTop (mkF m 27 #[.val (.int q)] [(.ref b3), (.ref b3)])) tt
      refine XS.iloadN X3.here hx rfl (hb hby d5_27) rfl ?_
      show Steps p.tables e below (T3.setTop (mkF m 28 #[.val (.int q)] [(.int q), (.ref b3), (.ref b3)])) tt
      refine st4.trans ?_
      exact kk
    obtain ⟨fs, hr, hrun, hended, hW, hsame⟩ := X4.leave (v := some (.ref b3)) (fun hq => by rw [Bd.returns] at hq; cases hq)
    refine ⟨_, _, k5 _ ?_, hrun, hended, _, _, rfl, ?_, ⟨_, rfl⟩, hW, hsame.mono (by decide) (by decide)⟩
    · show Steps p.tables e below (T4.setTop (mkF m 31 #[.val (.int q)] [(.ref b3)])) _
      jvm_step X4.here [X4.here.top, hx, (hb hby d5_31), X4.method', Bd.returns, Value.isRef, FieldType.isReference]
      first | (intro acts; rw [hr _ acts rfl rfl rfl]) | rw [hr _ _ rfl rfl rfl]
      exact Steps.refl _
    · show (fun (v : Option Value) (h : Heap) (L : List Loc) => ∃ b : Addr, v = some (.ref b) ∧ Fr n0 L ∧ Keep h0 h [] ∧ Exa Z h b "java/lang/Integer") _ T4.heap _
      dsimp only
      exact ⟨_, rfl, N4, Kt4, (A3.keep K4)⟩
  · obtain ⟨T6, X6, e6, st6⟩ := getS2 X1 hx hZ hown (host := "") (Or.inl (hw _ (List.mem_of_getElem? (i := 49) rfl))) Via.refl e1 S_C (g := (mkF m 13 #[.val (.int q)] [])) rfl (hb hby d5_13)
    obtain ⟨i1, i2⟩ := own_ci q hq h17
    obtain ⟨bC, hb1, hb2⟩ := h_C _ i1
    have hin : ¬ ((q + (128 : Int32)) < 0 ∨ cC.slots.size ≤ ((q + (128 : Int32))).toNatClampNeg) := by rw [z_C]; exact fun z => z.elim i2 (Nat.not_le.mpr i1)
    have k7 : ∀ tt, Steps p.tables e below (T6.setTop (mkF m 22 #[.val (.int q)] [(.ref bC)])) tt → Steps p.tables e below (s₁.setTop (entryFrame m #[(.int q)] 1)) tt := by
      intro tt kk
      refine k2 tt ?_
      show Steps p.tables e below (T1.setTop (mkF m 10 #[.val (.int q)] [(.int (127 : Int32)), (.int q)])) tt
      refine XS.icmpNo X1.here hx rfl (hb hby d5_10) rfl (flt (h17 : ¬ ((127 : Int32) < q))).2.2.1 ?_
      show Steps p.tables e below (T1.setTop (mkF m 13 #[.val (.int q)] [])) tt
      refine st6 _ ?_
      show Steps p.tables e below (T6.setTop (mkF m 16 #[.val (.int q)] [(.ref wC)])) tt
      refine XS.iloadN X6.here hx rfl (hb hby d5_16) rfl ?_
      show Steps p.tables e below (T6.setTop (mkF m 17 #[.val (.int q)] [(.int q), (.ref wC)])) tt
      refine XS.sipush X6.here hx rfl (hb hby d5_17) ?_
      show Steps p.tables e below (T6.setTop (mkF m 20 #[.val (.int q)] [(.int (128 : Int32)), (.int q), (.ref wC)])) tt
      refine XS.iadd X6.here hx rfl (hb hby d5_20) rfl ?_
      show Steps p.tables e below (T6.setTop (mkF m 21 #[.val (.int q)] [(.int (q + (128 : Int32))), (.ref wC)])) tt
      refine X6.aaload hx (j := (q + (128 : Int32))) (v := (.ref bC)) (by rw [e6]; exact A_C.1) (State.isArrayOf_alike hZ.alike A_C.2.1) rfl A_C.2.2 hin hb1 (g := (mkF m 21 #[.val (.int q)] [(.int (q + (128 : Int32))), (.ref wC)])) rfl rfl (hb hby d5_21) _ ?_
      exact kk
    obtain ⟨fs, hr, hrun, hended, hW, hsame⟩ := X6.leave (v := some (.ref bC)) (fun hq => by rw [Bd.returns] at hq; cases hq)
    refine ⟨_, _, k7 _ ?_, hrun, hended, _, _, rfl, ?_, ⟨_, rfl⟩, hW, hsame.mono (by decide) (by decide)⟩
    · show Steps p.tables e below (T6.setTop (mkF m 22 #[.val (.int q)] [(.ref bC)])) _
      jvm_step X6.here [X6.here.top, hx, (hb hby d5_22), X6.method', Bd.returns, Value.isRef, FieldType.isReference]
      first | (intro acts; rw [hr _ acts rfl rfl rfl]) | rw [hr _ _ rfl rfl rfl]
      exact Steps.refl _
    · show (fun (v : Option Value) (h : Heap) (L : List Loc) => ∃ b : Addr, v = some (.ref b) ∧ Fr n0 L ∧ Keep h0 h [] ∧ Exa Z h b "java/lang/Integer") _ T6.heap _
      rw [e6]
      dsimp only
      exact ⟨_, rfl, N0, (Keep.refl h0 []), hb2⟩
theorem own_pn_2 : plainName "com/example/curb_queries/curbqueries/statistics/StatisticsSettings" = true := by first | (simp [plainName, overriddenIn]; done) | decide +kernel
theorem d2_0 : decode prog_71_method_1_code 0 = .ok (.aload_n 0, 1) := by decide +kernel
theorem d2_1 : decode prog_71_method_1_code 1 = .ok (.invokespecial 1, 3) := by decide +kernel
theorem d2_4 : decode prog_71_method_1_code 4 = .ok (.iload_n 2, 1) := by decide +kernel
theorem d2_5 : decode prog_71_method_1_code 5 = .ok (.iconst 1, 1) := by decide +kernel
theorem d2_6 : decode prog_71_method_1_code 6 = .ok (.if_icmp .ge 17, 3) := by decide +kernel
theorem d2_23 : decode prog_71_method_1_code 23 = .ok (.aload_n 0, 1) := by decide +kernel
theorem d2_24 : decode prog_71_method_1_code 24 = .ok (.iload_n 1, 1) := by decide +kernel
theorem d2_25 : decode prog_71_method_1_code 25 = .ok (.putfield 16, 3) := by decide +kernel
theorem d2_28 : decode prog_71_method_1_code 28 = .ok (.aload_n 0, 1) := by decide +kernel
theorem d2_29 : decode prog_71_method_1_code 29 = .ok (.iload_n 2, 1) := by decide +kernel
theorem d2_30 : decode prog_71_method_1_code 30 = .ok (.putfield 22, 3) := by decide +kernel
theorem d2_33 : decode prog_71_method_1_code 33 = .ok (.return_, 1) := by decide +kernel
def own_rmC_Q (Z : State) (a : Addr) (en : Int32) (mx : Int32) (u1 u2 : Value) (h0 : Heap) (n0 : Nat) (v : Option Value) (h : Heap) (L : List Loc) : Prop := v = none ∧ Fr n0 L ∧ Keep h0 h [a] ∧ Fld Z h a "com/example/curb_queries/curbqueries/statistics/StatisticsSettings" "enabled" "Z" (.int en) ∧ Fld Z h a "com/example/curb_queries/curbqueries/statistics/StatisticsSettings" "maxPatterns" "I" (.int mx)
set_option maxRecDepth 65536 in
set_option maxHeartbeats 40000000 in
theorem own_rmC (l : Launch) (Z : State) (a0 : Array Value) (hw : ∀ d ∈ tables_1, d.before a0 Z = true) (ws : List Jvm.Cond) (a : Addr) (en : Int32) (mx : Int32) (u1 u2 : Value) (h0 : Heap) (n0 : Nat) (Z0 : n0 ≤ h0.size) (E : Exa Z h0 a "com/example/curb_queries/curbqueries/statistics/StatisticsSettings") (F1 : Fld Z h0 a "com/example/curb_queries/curbqueries/statistics/StatisticsSettings" "enabled" "Z" u1) (F2 : Fld Z h0 a "com/example/curb_queries/curbqueries/statistics/StatisticsSettings" "maxPatterns" "I" u2) (g : n0 ≤ a) (he : en = 0 ∨ en = 1) (hm : ¬ mx < (1 : Int32)) :
    MetFree l (⟨"com/example/curb_queries/curbqueries/statistics/StatisticsSettings", "<init>", "(ZI)V"⟩ : MethodName) (head1 (Jvm.Cond.code (⟨"com/example/curb_queries/curbqueries/statistics/StatisticsSettings", "<init>", "(ZI)V"⟩ : MethodName) prog_71_method_1_code 3 none :: ws) ({ frames := 1, cells := 0, slots := 0, locals := 12 } : Room)) (fun aa UU => aa = #[(.ref a), (.int en), (.int mx)] ∧ Z.Warmed39 UU.vm ∧ UU.heap = h0) (fun _ _ _ _ _ => True) (fun _ UU oo UU' => ∃ vv LL, oo = .returned vv ∧ own_rmC_Q Z a en mx u1 u2 h0 n0 vv UU'.heap LL ∧ FrameEnd UU oo UU' LL ({ frames := 1, cells := 0, slots := 0, locals := 12 } : Room).cells ({ frames := 1, cells := 0, slots := 0, locals := 12 } : Room).slots) := by
  refine MetFree.of_bodySF (plainFor_of_name own_pn_2) hisR ?_
  intro p e s m args below meth cc s₁ Bd hml0 hP hK
  obtain ⟨rfl, hZ, hh⟩ := hP
  have hx := Bd.exec
  have hby := Bd.bytes
  have hml : cc.maxLocals = 3 := hml0
  have hown : s.vm.findClass "com/example/curb_queries/curbqueries/statistics/StatisticsSettings" = some m.cls := findClass_of_methodNamed Bd.named
  have hnm := (name_of_methodNamed Bd.named Bd.method).1
  have X0 : Stand p l e ({ frames := 1, cells := 0, slots := 0, locals := 12 } : Room) s m #[(.ref a), (.int en), (.int mx)] below meth cc s₁ [] 0 0 := Stand.of_body Bd
  have e0 : s₁.heap = h0 := by rw [← hh, Bd.state]; rfl
  have N0 := Fr.nil n0
  have k0 : ∀ tt, Steps p.tables e below (s₁.setTop (mkF m 0 #[.val (.ref a), .val (.int en), .val (.int mx)] [])) tt → Steps p.tables e below (s₁.setTop (entryFrame m #[(.ref a), (.int en), (.int mx)] 3)) tt := fun tt kk => castTop (by first | (simp [entryFrame, mkF, argsToLocals, Value.category]; done) | rfl) kk
  obtain ⟨T1, X1, e1, st1⟩ := initO X0 hx hZ hown (hw _ (List.mem_of_getElem? (i := 11) rfl)) (hw _ (List.mem_of_getElem? (i := 12) rfl)) (hw _ (List.mem_of_getElem? (i := 13) rfl)) e0 (g := (mkF m 1 #[.val (.ref a), .val (.int en), .val (.int mx)] [(.ref a)])) rfl (by rw [hml]; rfl) rfl (hb hby d2_1) (by decide) (W := 0) (by show 2 * 0 + _ ≤ _; exact Nat.le_of_eq rfl) (by decide)
  obtain ⟨T2, h2, X2, e2, W2, st2⟩ := putFN X1 hx hZ hown (hw _ (List.mem_of_getElem? (i := 14) rfl)) Via.refl e1 F1 E (Or.inr ⟨(hw _ (List.mem_of_getElem? (i := 15) rfl)), rfl, hnm⟩) (hw _ (List.mem_of_getElem? (i := 6) rfl)) (ty := .boolean) (v' := (.int en)) (by decide) (own_nar he) (own_fit he) (g := (mkF m 25 #[.val (.ref a), .val (.int en), .val (.int mx)] [(.int en), (.ref a)])) rfl rfl (hb hby d2_25)
  have Fw2 := Fld.same W2 F1
  have Z2 : n0 ≤ h2.size := Nat.le_trans Z0 (Keep.of_wr W2).1
  have N2 := Fr.snoc X2 N0 g
  have K2 := Keep.wr (Keep.refl h0 [a]) W2 (Or.inl (List.mem_of_getElem? (i := 0) rfl))
  have hf3 := (Fld.other W2 F2 (Or.inr (slot_ne (Or.inr (hw _ (List.mem_of_getElem? (i := 17) rfl))) (Or.inr (hw _ (List.mem_of_getElem? (i := 15) rfl))) (by decide) (t := .int) (t' := .boolean) (by decide) (by decide))))
  obtain ⟨T4, h4, X4, e4, W4, st4⟩ := putF X2 hx hZ hown (host := "") (Or.inl (hw _ (List.mem_of_getElem? (i := 16) rfl))) Via.refl e2 hf3 (Exa.wr W2 E) (Or.inr ⟨(hw _ (List.mem_of_getElem? (i := 17) rfl)), rfl, hnm⟩) (hw _ (List.mem_of_getElem? (i := 6) rfl)) (ty := .int) (by decide) rfl rfl (g := (mkF m 30 #[.val (.ref a), .val (.int en), .val (.int mx)] [(.int mx), (.ref a)])) rfl rfl (hb hby d2_30)
  have Fw4 := Fld.same W4 hf3
  have Z4 : n0 ≤ h4.size := Nat.le_trans Z2 (Keep.of_wr W4).1
  have N4 := Fr.snoc X4 N2 g
  have K4 := Keep.wr K2 W4 (Or.inl (List.mem_of_getElem? (i := 0) rfl))
  have hf5 := (Fld.other W4 Fw2 (Or.inr (slot_ne (Or.inr (hw _ (List.mem_of_getElem? (i := 15) rfl))) (Or.inr (hw _ (List.mem_of_getElem? (i := 17) rfl))) (by decide) (t := .boolean) (t' := .int) (by decide) (by decide))))
  have k6 : ∀ tt, Steps p.tables e below (T4.setTop (mkF m 33 #[.val (.ref a), .val (.int en), .val (.int mx)] [])) tt → Steps p.tables e below (s₁.setTop (entryFrame m #[(.ref a), (.int en), (.int mx)] 3)) tt := by
    intro tt kk
    refine k0 tt ?_
    show Steps p.tables e below (s₁.setTop (mkF m 0 #[.val (.ref a), .val (.int en), .val (.int mx)] [])) tt
    refine XS.aloadN X0.here hx rfl (hb hby d2_0) rfl rfl ?_
    show Steps p.tables e below (s₁.setTop (mkF m 1 #[.val (.ref a), .val (.int en), .val (.int mx)] [(.ref a)])) tt
    refine st1 _ ?_
    show Steps p.tables e below (T1.setTop (mkF m 4 #[.val (.ref a), .val (.int en), .val (.int mx)] [])) tt
    refine XS.iloadN X1.here hx rfl (hb hby d2_4) rfl ?_
    show Steps p.tables e below (T1.setTop (mkF m 5 #[.val (.ref a), .val (.int en), .val (.int mx)] [(.int mx)])) tt
    refine XS.iconst X1.here hx rfl (hb hby d2_5) ?_
    show Steps p.tables e below (T1.setTop (mkF m 6 #[.val (.ref a), .val (.int en), .val (.int mx)] [(.int (1 : Int32)), (.int mx)])) tt
    refine XS.icmpYes X1.here hx rfl (pc0 := 6) (pc' := 23) rfl (hb hby d2_6) rfl (flt (hm : ¬ (mx < (1 : Int32)))).2.1 (by decide) (by decide) ?_
    show Steps p.tables e below (T1.setTop (mkF m 23 #[.val (.ref a), .val (.int en), .val (.int mx)] [])) tt
    refine XS.aloadN X1.here hx rfl (hb hby d2_23) rfl rfl ?_
    show Steps p.tables e below (T1.setTop (mkF m 24 #[.val (.ref a), .val (.int en), .val (.int mx)] [(.ref a)])) tt
    refine XS.iloadN X1.here hx rfl (hb hby d2_24) rfl ?_
    show Steps p.tables e below (T1.setTop (mkF m 25 #[.val (.ref a), .val (.int en), .val (.int mx)] [(.int en), (.ref a)])) tt
    refine st2 _ ?_
    show Steps p.tables e below (T2.setTop (mkF m 28 #[.val (.ref a), .val (.int en), .val (.int mx)] [])) tt
    refine XS.aloadN X2.here hx rfl (hb hby d2_28) rfl rfl ?_
    show Steps p.tables e below (T2.setTop (mkF m 29 #[.val (.ref a), .val (.int en), .val (.int mx)] [(.ref a)])) tt
    refine XS.iloadN X2.here hx rfl (hb hby d2_29) rfl ?_
    show Steps p.tables e below (T2.setTop (mkF m 30 #[.val (.ref a), .val (.int en), .val (.int mx)] [(.int mx), (.ref a)])) tt
    refine st4 _ ?_
    exact kk
  obtain ⟨fs, hr, hrun, hended, hW, hsame⟩ := X4.leave (v := none) (fun _ => rfl)
  refine ⟨_, _, k6 _ ?_, hrun, hended, _, _, rfl, ?_, ⟨_, rfl⟩, hW, hsame.mono (by decide) (by decide)⟩
  · show Steps p.tables e below (T4.setTop (mkF m 33 #[.val (.ref a), .val (.int en), .val (.int mx)] [])) _
    exact X4.returnOut hx Bd.returns (hb hby d2_33) hr
  · show (fun (v : Option Value) (h : Heap) (L : List Loc) => v = none ∧ Fr n0 L ∧ Keep h0 h [a] ∧ Fld Z h a "com/example/curb_queries/curbqueries/statistics/StatisticsSettings" "enabled" "Z" (.int en) ∧ Fld Z h a "com/example/curb_queries/curbqueries/statistics/StatisticsSettings" "maxPatterns" "I" (.int mx)) _ T4.heap _
    rw [e4]
    dsimp only
    exact ⟨rfl, N4, K4, hf5, Fw4⟩
theorem own_pn_4 : plainName "com/example/curb_queries/curbqueries/statistics/StatisticsSettings" = true := by first | (simp [plainName, overriddenIn]; done) | decide +kernel
theorem d4_0 : decode prog_71_method_4_code 0 = .ok (.aload_n 1, 1) := by decide +kernel
theorem d4_1 : decode prog_71_method_4_code 1 = .ok (.instanceof 17, 3) := by decide +kernel
theorem d4_4 : decode prog_71_method_4_code 4 = .ok (.ifCond .eq 35, 3) := by decide +kernel
theorem d4_7 : decode prog_71_method_4_code 7 = .ok (.aload_n 0, 1) := by decide +kernel
theorem d4_8 : decode prog_71_method_4_code 8 = .ok (.getfield 16, 3) := by decide +kernel
theorem d4_11 : decode prog_71_method_4_code 11 = .ok (.aload_n 1, 1) := by decide +kernel
theorem d4_12 : decode prog_71_method_4_code 12 = .ok (.checkcast 17, 3) := by decide +kernel
theorem d4_15 : decode prog_71_method_4_code 15 = .ok (.getfield 16, 3) := by decide +kernel
theorem d4_18 : decode prog_71_method_4_code 18 = .ok (.if_icmp .ne 21, 3) := by decide +kernel
theorem d4_21 : decode prog_71_method_4_code 21 = .ok (.aload_n 0, 1) := by decide +kernel
theorem d4_22 : decode prog_71_method_4_code 22 = .ok (.getfield 22, 3) := by decide +kernel
theorem d4_25 : decode prog_71_method_4_code 25 = .ok (.aload_n 1, 1) := by decide +kernel
theorem d4_26 : decode prog_71_method_4_code 26 = .ok (.checkcast 17, 3) := by decide +kernel
theorem d4_29 : decode prog_71_method_4_code 29 = .ok (.getfield 22, 3) := by decide +kernel
theorem d4_32 : decode prog_71_method_4_code 32 = .ok (.if_icmp .ne 7, 3) := by decide +kernel
theorem d4_35 : decode prog_71_method_4_code 35 = .ok (.iconst 1, 1) := by decide +kernel
theorem d4_36 : decode prog_71_method_4_code 36 = .ok (.goto 4, 3) := by decide +kernel
theorem d4_40 : decode prog_71_method_4_code 40 = .ok (.ireturn, 1) := by decide +kernel
theorem d4_39 : decode prog_71_method_4_code 39 = .ok (.iconst 0, 1) := by decide +kernel
def own_rmE_Q (Z : State) (a : Addr) (b : Addr) (i1 t1 i2 t2 : Int32) (h0 : Heap) (n0 : Nat) (v : Option Value) (h : Heap) (L : List Loc) : Prop := v = some (.int (own_eq i1 t1 i2 t2)) ∧ Fr n0 L ∧ h = h0
set_option maxRecDepth 65536 in
set_option maxHeartbeats 40000000 in
theorem own_rmE (l : Launch) (Z : State) (a0 : Array Value) (hw : ∀ d ∈ tables_1, d.before a0 Z = true) (ws : List Jvm.Cond) (a : Addr) (b : Addr) (i1 t1 i2 t2 : Int32) (h0 : Heap) (n0 : Nat) (Z0 : n0 ≤ h0.size) (E_b : Exa Z h0 b "com/example/curb_queries/curbqueries/statistics/StatisticsSettings") (F1_a : Fld Z h0 a "com/example/curb_queries/curbqueries/statistics/StatisticsSettings" "enabled" "Z" (.int i1)) (F2_a : Fld Z h0 a "com/example/curb_queries/curbqueries/statistics/StatisticsSettings" "maxPatterns" "I" (.int t1)) (F1_b : Fld Z h0 b "com/example/curb_queries/curbqueries/statistics/StatisticsSettings" "enabled" "Z" (.int i2)) (F2_b : Fld Z h0 b "com/example/curb_queries/curbqueries/statistics/StatisticsSettings" "maxPatterns" "I" (.int t2)) :
    MetFree l (⟨"com/example/curb_queries/curbqueries/statistics/StatisticsSettings", "equals", "(Ljava/lang/Object;)Z"⟩ : MethodName) (head1 (Jvm.Cond.code (⟨"com/example/curb_queries/curbqueries/statistics/StatisticsSettings", "equals", "(Ljava/lang/Object;)Z"⟩ : MethodName) prog_71_method_4_code 2 (some .boolean) :: ws) ({ frames := 0, cells := 0, slots := 0, locals := 0 } : Room)) (fun aa UU => aa = #[(.ref a), (.ref b)] ∧ Z.Warmed39 UU.vm ∧ UU.heap = h0) (fun _ _ _ _ _ => True) (fun _ UU oo UU' => ∃ vv LL, oo = .returned vv ∧ own_rmE_Q Z a b i1 t1 i2 t2 h0 n0 vv UU'.heap LL ∧ FrameEnd UU oo UU' LL ({ frames := 0, cells := 0, slots := 0, locals := 0 } : Room).cells ({ frames := 0, cells := 0, slots := 0, locals := 0 } : Room).slots) := by
  refine MetFree.of_bodySF (plainFor_of_name own_pn_4) hisR ?_
  intro p e s m args below meth cc s₁ Bd hml0 hP hK
  obtain ⟨rfl, hZ, hh⟩ := hP
  have hx := Bd.exec
  have hby := Bd.bytes
  have hml : cc.maxLocals = 2 := hml0
  have hown : s.vm.findClass "com/example/curb_queries/curbqueries/statistics/StatisticsSettings" = some m.cls := findClass_of_methodNamed Bd.named
  have hnm := (name_of_methodNamed Bd.named Bd.method).1
  have X0 : Stand p l e ({ frames := 0, cells := 0, slots := 0, locals := 0 } : Room) s m #[(.ref a), (.ref b)] below meth cc s₁ [] 0 0 := Stand.of_body Bd
  have e0 : s₁.heap = h0 := by rw [← hh, Bd.state]; rfl
  have N0 := Fr.nil n0
  have k0 : ∀ tt, Steps p.tables e below (s₁.setTop (mkF m 0 #[.val (.ref a), .val (.ref b)] [])) tt → Steps p.tables e below (s₁.setTop (entryFrame m #[(.ref a), (.ref b)] 2)) tt := fun tt kk => castTop (by first | (simp [entryFrame, mkF, argsToLocals, Value.category]; done) | rfl) kk
  obtain ⟨T1, X1, e1, st1⟩ := instY X0 hx hZ hown (hw _ (List.mem_of_getElem? (i := 23) rfl)) e0 (Ins.self E_b) (g := (mkF m 1 #[.val (.ref a), .val (.ref b)] [(.ref b)])) rfl rfl (hb hby d4_1)
  obtain ⟨T2, X2, e2, st2⟩ := getF X1 hx hZ hown (host := "") (Or.inl (hw _ (List.mem_of_getElem? (i := 14) rfl))) Via.refl e1 F1_a (g := (mkF m 8 #[.val (.ref a), .val (.ref b)] [(.ref a)])) rfl rfl (hb hby d4_8)
  obtain ⟨T3, X3, e3, st3⟩ := castY X2 hx hZ hown (hw _ (List.mem_of_getElem? (i := 23) rfl)) e2 (Ins.self E_b) (g := (mkF m 12 #[.val (.ref a), .val (.ref b)] [(.ref b), (.int i1)])) rfl rfl (hb hby d4_12)
  obtain ⟨T4, X4, e4, st4⟩ := getF X3 hx hZ hown (host := "") (Or.inl (hw _ (List.mem_of_getElem? (i := 14) rfl))) Via.refl e3 F1_b (g := (mkF m 15 #[.val (.ref a), .val (.ref b)] [(.ref b), (.int i1)])) rfl rfl (hb hby d4_15)
  have k5 : ∀ tt, Steps p.tables e below (T4.setTop (mkF m 18 #[.val (.ref a), .val (.ref b)] [(.int i2), (.int i1)])) tt → Steps p.tables e below (s₁.setTop (entryFrame m #[(.ref a), (.ref b)] 2)) tt := by
    intro tt kk
    refine k0 tt ?_
    show Steps p.tables e below (s₁.setTop (mkF m 0 #[.val (.ref a), .val (.ref b)] [])) tt
    refine XS.aloadN X0.here hx rfl (hb hby d4_0) rfl rfl ?_
    show Steps p.tables e below (s₁.setTop (mkF m 1 #[.val (.ref a), .val (.ref b)] [(.ref b)])) tt
    refine st1 _ ?_
    show Steps p.tables e below (T1.setTop (mkF m 4 #[.val (.ref a), .val (.ref b)] [(.int (1 : Int32))])) tt
    refine XS.ifNo X1.here hx rfl (hb hby d4_4) rfl ((if0 _ _).trans (feq (by decide : ¬ ((1 : Int32) = (0 : Int32)))).1) ?_
    show Steps p.tables e below (T1.setTop (mkF m 7 #[.val (.ref a), .val (.ref b)] [])) tt
    refine XS.aloadN X1.here hx rfl (hb hby d4_7) rfl rfl ?_
    show Steps p.tables e below (T1.setTop (mkF m 8 #[.val (.ref a), .val (.ref b)] [(.ref a)])) tt
    refine st2 _ ?_
    show Steps p.tables e below (T2.setTop (mkF m 11 #[.val (.ref a), .val (.ref b)] [(.int i1)])) tt
    refine XS.aloadN X2.here hx rfl (hb hby d4_11) rfl rfl ?_
    show Steps p.tables e below (T2.setTop (mkF m 12 #[.val (.ref a), .val (.ref b)] [(.ref b), (.int i1)])) tt
    refine st3 _ ?_
    show Steps p.tables e below (T3.setTop (mkF m 15 #[.val (.ref a), .val (.ref b)] [(.ref b), (.int i1)])) tt
    refine st4 _ ?_
    exact kk
  by_cases c18_6 : i1 = i2
  · obtain ⟨T7, X7, e7, st7⟩ := getF X4 hx hZ hown (host := "") (Or.inl (hw _ (List.mem_of_getElem? (i := 16) rfl))) Via.refl e4 F2_a (g := (mkF m 22 #[.val (.ref a), .val (.ref b)] [(.ref a)])) rfl rfl (hb hby d4_22)
    obtain ⟨T8, X8, e8, st8⟩ := castY X7 hx hZ hown (hw _ (List.mem_of_getElem? (i := 23) rfl)) e7 (Ins.self E_b) (g := (mkF m 26 #[.val (.ref a), .val (.ref b)] [(.ref b), (.int t1)])) rfl rfl (hb hby d4_26)
    obtain ⟨T9, X9, e9, st9⟩ := getF X8 hx hZ hown (host := "") (Or.inl (hw _ (List.mem_of_getElem? (i := 16) rfl))) Via.refl e8 F2_b (g := (mkF m 29 #[.val (.ref a), .val (.ref b)] [(.ref b), (.int t1)])) rfl rfl (hb hby d4_29)
    have k10 : ∀ tt, Steps p.tables e below (T9.setTop (mkF m 32 #[.val (.ref a), .val (.ref b)] [(.int t2), (.int t1)])) tt → Steps p.tables e below (s₁.setTop (entryFrame m #[(.ref a), (.ref b)] 2)) tt := by
      intro tt kk
      refine k5 tt ?_
      show Steps p.tables e below (T4.setTop (mkF m 18 #[.val (.ref a), .val (.ref b)] [(.int i2), (.int i1)])) tt
      refine XS.icmpNo X4.here hx rfl (hb hby d4_18) rfl (teq (c18_6 : i1 = i2)).2 ?_
      show Steps p.tables e below (T4.setTop (mkF m 21 #[.val (.ref a), .val (.ref b)] [])) tt
      refine XS.aloadN X4.here hx rfl (hb hby d4_21) rfl rfl ?_
      show Steps p.tables e below (T4.setTop (mkF m 22 #[.val (.ref a), .val (.ref b)] [(.ref a)])) tt
      refine st7 _ ?_
      show Steps p.tables e below (T7.setTop (mkF m 25 #[.val (.ref a), .val (.ref b)] [(.int t1)])) tt
      refine XS.aloadN X7.here hx rfl (hb hby d4_25) rfl rfl ?_
      show Steps p.tables e below (T7.setTop (mkF m 26 #[.val (.ref a), .val (.ref b)] [(.ref b), (.int t1)])) tt
      refine st8 _ ?_
      show Steps p.tables e below (T8.setTop (mkF m 29 #[.val (.ref a), .val (.ref b)] [(.ref b), (.int t1)])) tt
      refine st9 _ ?_
      exact kk
    by_cases c32_11 : t1 = t2
    · have k12 : ∀ tt, Steps p.tables e below (T9.setTop (mkF m 40 #[.val (.ref a), .val (.ref b)] [(.int (1 : Int32))])) tt → Steps p.tables e below (s₁.setTop (entryFrame m #[(.ref a), (.ref b)] 2)) tt := by
        intro tt kk
        refine k10 tt ?_
        show Steps p.tables e below (T9.setTop (mkF m 32 #[.val (.ref a), .val (.ref b)] [(.int t2), (.int t1)])) tt
        refine XS.icmpNo X9.here hx rfl (hb hby d4_32) rfl (teq (c32_11 : t1 = t2)).2 ?_
        show Steps p.tables e below (T9.setTop (mkF m 35 #[.val (.ref a), .val (.ref b)] [])) tt
        refine XS.iconst X9.here hx rfl (hb hby d4_35) ?_
        show Steps p.tables e below (T9.setTop (mkF m 36 #[.val (.ref a), .val (.ref b)] [(.int (1 : Int32))])) tt
        refine XS.goto X9.here hx rfl (pc0 := 36) (pc' := 40) rfl (hb hby d4_36) (by decide) (by decide) ?_
        exact kk
      obtain ⟨fs, hr, hrun, hended, hW, hsame⟩ := X9.leave (v := some (.int (1 : Int32))) (fun hq => by rw [Bd.returns] at hq; cases hq)
      refine ⟨_, _, k12 _ ?_, hrun, hended, _, _, rfl, ?_, ⟨_, rfl⟩, hW, hsame.mono (by decide) (by decide)⟩
      · show Steps p.tables e below (T9.setTop (mkF m 40 #[.val (.ref a), .val (.ref b)] [(.int (1 : Int32))])) _
        exact retN X9 hx (t := .boolean) Bd.returns (by simp) (hb hby d4_40) hr
      · show (fun (v : Option Value) (h : Heap) (L : List Loc) => v = some (.int (own_eq i1 t1 i2 t2)) ∧ Fr n0 L ∧ h = h0) _ T9.heap _
        rw [e9]
        dsimp only
        refine ⟨?_, N0, rfl⟩
        simp [own_eq, c18_6, c32_11]
    · have k13 : ∀ tt, Steps p.tables e below (T9.setTop (mkF m 40 #[.val (.ref a), .val (.ref b)] [(.int (0 : Int32))])) tt → Steps p.tables e below (s₁.setTop (entryFrame m #[(.ref a), (.ref b)] 2)) tt := by
        intro tt kk
        refine k10 tt ?_
        show Steps p.tables e below (T9.setTop (mkF m 32 #[.val (.ref a), .val (.ref b)] [(.int t2), (.int t1)])) tt
        refine XS.icmpYes X9.here hx rfl (pc0 := 32) (pc' := 39) rfl (hb hby d4_32) rfl (feq (c32_11 : ¬ (t1 = t2))).2 (by decide) (by decide) ?_
        show Steps p.tables e below (T9.setTop (mkF m 39 #[.val (.ref a), .val (.ref b)] [])) tt
        refine XS.iconst X9.here hx rfl (hb hby d4_39) ?_
        exact kk
      obtain ⟨fs, hr, hrun, hended, hW, hsame⟩ := X9.leave (v := some (.int (0 : Int32))) (fun hq => by rw [Bd.returns] at hq; cases hq)
      refine ⟨_, _, k13 _ ?_, hrun, hended, _, _, rfl, ?_, ⟨_, rfl⟩, hW, hsame.mono (by decide) (by decide)⟩
      · show Steps p.tables e below (T9.setTop (mkF m 40 #[.val (.ref a), .val (.ref b)] [(.int (0 : Int32))])) _
        exact retN X9 hx (t := .boolean) Bd.returns (by simp) (hb hby d4_40) hr
      · show (fun (v : Option Value) (h : Heap) (L : List Loc) => v = some (.int (own_eq i1 t1 i2 t2)) ∧ Fr n0 L ∧ h = h0) _ T9.heap _
        rw [e9]
        dsimp only
        refine ⟨?_, N0, rfl⟩
        simp [own_eq, c18_6, c32_11]
  · have k14 : ∀ tt, Steps p.tables e below (T4.setTop (mkF m 40 #[.val (.ref a), .val (.ref b)] [(.int (0 : Int32))])) tt → Steps p.tables e below (s₁.setTop (entryFrame m #[(.ref a), (.ref b)] 2)) tt := by
      intro tt kk
      refine k5 tt ?_
      show Steps p.tables e below (T4.setTop (mkF m 18 #[.val (.ref a), .val (.ref b)] [(.int i2), (.int i1)])) tt
      refine XS.icmpYes X4.here hx rfl (pc0 := 18) (pc' := 39) rfl (hb hby d4_18) rfl (feq (c18_6 : ¬ (i1 = i2))).2 (by decide) (by decide) ?_
      show Steps p.tables e below (T4.setTop (mkF m 39 #[.val (.ref a), .val (.ref b)] [])) tt
      refine XS.iconst X4.here hx rfl (hb hby d4_39) ?_
      exact kk
    obtain ⟨fs, hr, hrun, hended, hW, hsame⟩ := X4.leave (v := some (.int (0 : Int32))) (fun hq => by rw [Bd.returns] at hq; cases hq)
    refine ⟨_, _, k14 _ ?_, hrun, hended, _, _, rfl, ?_, ⟨_, rfl⟩, hW, hsame.mono (by decide) (by decide)⟩
    · show Steps p.tables e below (T4.setTop (mkF m 40 #[.val (.ref a), .val (.ref b)] [(.int (0 : Int32))])) _
      exact retN X4 hx (t := .boolean) Bd.returns (by simp) (hb hby d4_40) hr
    · show (fun (v : Option Value) (h : Heap) (L : List Loc) => v = some (.int (own_eq i1 t1 i2 t2)) ∧ Fr n0 L ∧ h = h0) _ T4.heap _
      rw [e4]
      dsimp only
      refine ⟨?_, N0, rfl⟩
      simp [own_eq, c18_6]
def own_rmEn_Q (Z : State) (a : Addr)  (h0 : Heap) (n0 : Nat) (v : Option Value) (h : Heap) (L : List Loc) : Prop := v = some (.int (0 : Int32)) ∧ Fr n0 L ∧ h = h0
set_option maxRecDepth 65536 in
set_option maxHeartbeats 40000000 in
theorem own_rmEn (l : Launch) (Z : State) (a0 : Array Value) (hw : ∀ d ∈ tables_1, d.before a0 Z = true) (ws : List Jvm.Cond) (a : Addr)  (h0 : Heap) (n0 : Nat) (Z0 : n0 ≤ h0.size)  :
    MetFree l (⟨"com/example/curb_queries/curbqueries/statistics/StatisticsSettings", "equals", "(Ljava/lang/Object;)Z"⟩ : MethodName) (head1 (Jvm.Cond.code (⟨"com/example/curb_queries/curbqueries/statistics/StatisticsSettings", "equals", "(Ljava/lang/Object;)Z"⟩ : MethodName) prog_71_method_4_code 2 (some .boolean) :: ws) ({ frames := 0, cells := 0, slots := 0, locals := 0 } : Room)) (fun aa UU => aa = #[(.ref a), .null] ∧ Z.Warmed39 UU.vm ∧ UU.heap = h0) (fun _ _ _ _ _ => True) (fun _ UU oo UU' => ∃ vv LL, oo = .returned vv ∧ own_rmEn_Q Z a h0 n0 vv UU'.heap LL ∧ FrameEnd UU oo UU' LL ({ frames := 0, cells := 0, slots := 0, locals := 0 } : Room).cells ({ frames := 0, cells := 0, slots := 0, locals := 0 } : Room).slots) := by
  refine MetFree.of_bodySF (plainFor_of_name own_pn_4) hisR ?_
  intro p e s m args below meth cc s₁ Bd hml0 hP hK
  obtain ⟨rfl, hZ, hh⟩ := hP
  have hx := Bd.exec
  have hby := Bd.bytes
  have hml : cc.maxLocals = 2 := hml0
  have hown : s.vm.findClass "com/example/curb_queries/curbqueries/statistics/StatisticsSettings" = some m.cls := findClass_of_methodNamed Bd.named
  have hnm := (name_of_methodNamed Bd.named Bd.method).1
  have X0 : Stand p l e ({ frames := 0, cells := 0, slots := 0, locals := 0 } : Room) s m #[(.ref a), .null] below meth cc s₁ [] 0 0 := Stand.of_body Bd
  have e0 : s₁.heap = h0 := by rw [← hh, Bd.state]; rfl
  have N0 := Fr.nil n0
  have k0 : ∀ tt, Steps p.tables e below (s₁.setTop (mkF m 0 #[.val (.ref a), .val .null] [])) tt → Steps p.tables e below (s₁.setTop (entryFrame m #[(.ref a), .null] 2)) tt := fun tt kk => castTop (by first | (simp [entryFrame, mkF, argsToLocals, Value.category]; done) | rfl) kk
  have k1 : ∀ tt, Steps p.tables e below (s₁.setTop (mkF m 40 #[.val (.ref a), .val .null] [(.int (0 : Int32))])) tt → Steps p.tables e below (s₁.setTop (entryFrame m #[(.ref a), .null] 2)) tt := by
    intro tt kk
    refine k0 tt ?_
    show Steps p.tables e below (s₁.setTop (mkF m 0 #[.val (.ref a), .val .null] [])) tt
    refine XS.aloadN X0.here hx rfl (hb hby d4_0) rfl rfl ?_
    show Steps p.tables e below (s₁.setTop (mkF m 1 #[.val (.ref a), .val .null] [.null])) tt
    refine X0.instanceofNull hx (g := (mkF m 1 #[.val (.ref a), .val .null] [.null])) rfl rfl (hb hby d4_1) _ ?_
    show Steps p.tables e below (s₁.setTop (mkF m 4 #[.val (.ref a), .val .null] [(.int (0 : Int32))])) tt
    refine XS.ifYes X0.here hx rfl (pc0 := 4) (pc' := 39) rfl (hb hby d4_4) rfl ((if0 _ _).trans (teq (by decide : (0 : Int32) = (0 : Int32))).1) (by decide) (by decide) ?_
    show Steps p.tables e below (s₁.setTop (mkF m 39 #[.val (.ref a), .val .null] [])) tt
    refine XS.iconst X0.here hx rfl (hb hby d4_39) ?_
    exact kk
  obtain ⟨fs, hr, hrun, hended, hW, hsame⟩ := X0.leave (v := some (.int (0 : Int32))) (fun hq => by rw [Bd.returns] at hq; cases hq)
  refine ⟨_, _, k1 _ ?_, hrun, hended, _, _, rfl, ?_, ⟨_, rfl⟩, hW, hsame.mono (by decide) (by decide)⟩
  · show Steps p.tables e below (s₁.setTop (mkF m 40 #[.val (.ref a), .val .null] [(.int (0 : Int32))])) _
    exact retN X0 hx (t := .boolean) Bd.returns (by simp) (hb hby d4_40) hr
  · show (fun (v : Option Value) (h : Heap) (L : List Loc) => v = some (.int (0 : Int32)) ∧ Fr n0 L ∧ h = h0) _ s₁.heap _
    rw [e0]
    dsimp only
    exact ⟨rfl, N0, rfl⟩
def own_rmEx_Q (Z : State) (a : Addr) (b : Addr)  (h0 : Heap) (n0 : Nat) (v : Option Value) (h : Heap) (L : List Loc) : Prop := v = some (.int (0 : Int32)) ∧ Fr n0 L ∧ h = h0
set_option maxRecDepth 65536 in
set_option maxHeartbeats 40000000 in
theorem own_rmEx (l : Launch) (Z : State) (a0 : Array Value) (hw : ∀ d ∈ tables_1, d.before a0 Z = true) (ws : List Jvm.Cond) (a : Addr) (b : Addr)  (h0 : Heap) (n0 : Nat) (Z0 : n0 ≤ h0.size) (E_b : Exa Z h0 b "java/lang/Integer") :
    MetFree l (⟨"com/example/curb_queries/curbqueries/statistics/StatisticsSettings", "equals", "(Ljava/lang/Object;)Z"⟩ : MethodName) (head1 (Jvm.Cond.code (⟨"com/example/curb_queries/curbqueries/statistics/StatisticsSettings", "equals", "(Ljava/lang/Object;)Z"⟩ : MethodName) prog_71_method_4_code 2 (some .boolean) :: ws) ({ frames := 0, cells := 0, slots := 0, locals := 0 } : Room)) (fun aa UU => aa = #[(.ref a), (.ref b)] ∧ Z.Warmed39 UU.vm ∧ UU.heap = h0) (fun _ _ _ _ _ => True) (fun _ UU oo UU' => ∃ vv LL, oo = .returned vv ∧ own_rmEx_Q Z a b h0 n0 vv UU'.heap LL ∧ FrameEnd UU oo UU' LL ({ frames := 0, cells := 0, slots := 0, locals := 0 } : Room).cells ({ frames := 0, cells := 0, slots := 0, locals := 0 } : Room).slots) := by
  refine MetFree.of_bodySF (plainFor_of_name own_pn_4) hisR ?_
  intro p e s m args below meth cc s₁ Bd hml0 hP hK
  obtain ⟨rfl, hZ, hh⟩ := hP
  have hx := Bd.exec
  have hby := Bd.bytes
  have hml : cc.maxLocals = 2 := hml0
  have hown : s.vm.findClass "com/example/curb_queries/curbqueries/statistics/StatisticsSettings" = some m.cls := findClass_of_methodNamed Bd.named
  have hnm := (name_of_methodNamed Bd.named Bd.method).1
  have X0 : Stand p l e ({ frames := 0, cells := 0, slots := 0, locals := 0 } : Room) s m #[(.ref a), (.ref b)] below meth cc s₁ [] 0 0 := Stand.of_body Bd
  have e0 : s₁.heap = h0 := by rw [← hh, Bd.state]; rfl
  have N0 := Fr.nil n0
  have k0 : ∀ tt, Steps p.tables e below (s₁.setTop (mkF m 0 #[.val (.ref a), .val (.ref b)] [])) tt → Steps p.tables e below (s₁.setTop (entryFrame m #[(.ref a), (.ref b)] 2)) tt := fun tt kk => castTop (by first | (simp [entryFrame, mkF, argsToLocals, Value.category]; done) | rfl) kk
  obtain ⟨T1, X1, e1, st1⟩ := instN X0 hx hZ hown (hw _ (List.mem_of_getElem? (i := 23) rfl)) e0 (own_isnt hw (by rw [hh]; exact E_b)) (by rw [hh]; exact E_b) (g := (mkF m 1 #[.val (.ref a), .val (.ref b)] [(.ref b)])) rfl rfl (hb hby d4_1)
  have k2 : ∀ tt, Steps p.tables e below (T1.setTop (mkF m 40 #[.val (.ref a), .val (.ref b)] [(.int (0 : Int32))])) tt → Steps p.tables e below (s₁.setTop (entryFrame m #[(.ref a), (.ref b)] 2)) tt := by
    intro tt kk
    refine k0 tt ?_
    show Steps p.tables e below (s₁.setTop (mkF m 0 #[.val (.ref a), .val (.ref b)] [])) tt
    refine XS.aloadN X0.here hx rfl (hb hby d4_0) rfl rfl ?_
    show Steps p.tables e below (s₁.setTop (mkF m 1 #[.val (.ref a), .val (.ref b)] [(.ref b)])) tt
    refine st1 _ ?_
    show Steps p.tables e below (T1.setTop (mkF m 4 #[.val (.ref a), .val (.ref b)] [(.int (0 : Int32))])) tt
    refine XS.ifYes X1.here hx rfl (pc0 := 4) (pc' := 39) rfl (hb hby d4_4) rfl ((if0 _ _).trans (teq (by decide : (0 : Int32) = (0 : Int32))).1) (by decide) (by decide) ?_
    show Steps p.tables e below (T1.setTop (mkF m 39 #[.val (.ref a), .val (.ref b)] [])) tt
    refine XS.iconst X1.here hx rfl (hb hby d4_39) ?_
    exact kk
  obtain ⟨fs, hr, hrun, hended, hW, hsame⟩ := X1.leave (v := some (.int (0 : Int32))) (fun hq => by rw [Bd.returns] at hq; cases hq)
  refine ⟨_, _, k2 _ ?_, hrun, hended, _, _, rfl, ?_, ⟨_, rfl⟩, hW, hsame.mono (by decide) (by decide)⟩
  · show Steps p.tables e below (T1.setTop (mkF m 40 #[.val (.ref a), .val (.ref b)] [(.int (0 : Int32))])) _
    exact retN X1 hx (t := .boolean) Bd.returns (by simp) (hb hby d4_40) hr
  · show (fun (v : Option Value) (h : Heap) (L : List Loc) => v = some (.int (0 : Int32)) ∧ Fr n0 L ∧ h = h0) _ T1.heap _
    rw [e1]
    dsimp only
    exact ⟨rfl, N0, rfl⟩
theorem own_pn_0 : plainName "com/example/curb_queries/curbqueries/statistics/StatisticsSettingsEqualsPinLaw" = true := by first | (simp [plainName, overriddenIn]; done) | decide +kernel
theorem own_pd__II_I : parseMethodDescriptor "(II)I" = some ⟨[.int, .int], some .int⟩ := by decide +kernel
theorem own_pd__ZI_V : parseMethodDescriptor "(ZI)V" = some ⟨[.boolean, .int], none⟩ := by decide +kernel
theorem own_pd__Ljava_lang_Object__Z : parseMethodDescriptor "(Ljava/lang/Object;)Z" = some ⟨[(.object "java/lang/Object")], some .boolean⟩ := by decide +kernel
theorem own_pd__I_Ljava_lang_Integer_ : parseMethodDescriptor "(I)Ljava/lang/Integer;" = some ⟨[.int], some (.object "java/lang/Integer")⟩ := by decide +kernel
def own_rm0_Q (Z : State) (f : Int32) (x1 : Int32) (y1 : Int32) (wC : Addr) (cC : Cell) (h0 : Heap) (n0 : Nat) (v : Option Value) (h : Heap) (L : List Loc) : Prop := v = some (.int (1 : Int32)) ∧ Fr n0 L
set_option maxRecDepth 65536 in
set_option maxHeartbeats 40000000 in
theorem own_rm0 (l : Launch) (Z : State) (a0 : Array Value) (hw : ∀ d ∈ tables_1, d.before a0 Z = true) (ws : List Jvm.Cond) (f : Int32) (x1 : Int32) (y1 : Int32) (wC : Addr) (cC : Cell) (h0 : Heap) (n0 : Nat) (Z0 : n0 ≤ h0.size) (S_H : Sta Z h0 "java/lang/Integer$IntegerCache" "high" "I" (.int (127 : Int32))) (S_C : Sta Z h0 "java/lang/Integer$IntegerCache" "cache" "[Ljava/lang/Integer;" (.ref wC)) (A_C : Arr Z h0 wC cC (.object "java/lang/Integer")) (z_C : cC.slots.size = 256) (h_C : ∀ i, i < 256 → ∃ b, cC.slots[i]? = some (.ref b) ∧ Exa Z h0 b "java/lang/Integer") :
    MetFree l x (head1 (Jvm.Cond.code x code maxLocals ret :: ws) room_1) (fun aa UU => aa = #[(.int f), (.int x1), (.int y1)] ∧ Z.Warmed39 UU.vm ∧ UU.heap = h0) (fun _ _ _ _ _ => True) (fun _ UU oo UU' => ∃ vv LL, oo = .returned vv ∧ own_rm0_Q Z f x1 y1 wC cC h0 n0 vv UU'.heap LL ∧ FrameEnd UU oo UU' LL room_1.cells room_1.slots) := by
  refine MetFree.of_bodySF (plainFor_of_name own_pn_0) hisR ?_
  intro p e s m args below meth cc s₁ Bd hml0 hP hK
  obtain ⟨rfl, hZ, hh⟩ := hP
  have hx := Bd.exec
  have hby := Bd.bytes
  have hml : cc.maxLocals = 11 := hml0
  have hown : s.vm.findClass "com/example/curb_queries/curbqueries/statistics/StatisticsSettingsEqualsPinLaw" = some m.cls := findClass_of_methodNamed Bd.named
  have hnm := (name_of_methodNamed Bd.named Bd.method).1
  have X0 : Stand p l e room_1 s m #[(.int f), (.int x1), (.int y1)] below meth cc s₁ [] 0 0 := Stand.of_body Bd
  have e0 : s₁.heap = h0 := by rw [← hh, Bd.state]; rfl
  have N0 := Fr.nil n0
  have k0 : ∀ tt, Steps p.tables e below (s₁.setTop (mkF m 0 #[.val (.int f), .val (.int x1), .val (.int y1), .unset, .unset, .unset, .unset, .unset, .unset, .unset, .unset] [])) tt → Steps p.tables e below (s₁.setTop (entryFrame m #[(.int f), (.int x1), (.int y1)] maxLocals)) tt := fun tt kk => castTop (by first | (simp [entryFrame, mkF, argsToLocals, Value.category, maxLocals]; done) | rfl) kk
  have k1 : ∀ tt, Steps p.tables e below (s₁.setTop (mkF m 11 #[.val (.int f), .val (.int x1), .val (.int y1), .unset, .unset, .unset, .unset, .unset, .unset, .unset, .unset] [(.int (own_bit f (1 : Int32)))])) tt → Steps p.tables e below (s₁.setTop (entryFrame m #[(.int f), (.int x1), (.int y1)] maxLocals)) tt := by
    intro tt kk
    refine k0 tt ?_
    by_cases q : (f &&& (1 : Int32)) = (0 : Int32)
    · rw [show own_bit f (1 : Int32) = (0 : Int32) by simp [own_bit, q]] at kk
      show Steps p.tables e below (s₁.setTop (mkF m 0 #[.val (.int f), .val (.int x1), .val (.int y1), .unset, .unset, .unset, .unset, .unset, .unset, .unset, .unset] [])) tt
      refine XS.iloadN X0.here hx rfl (hb hby at_0) rfl ?_
      show Steps p.tables e below (s₁.setTop (mkF m 1 #[.val (.int f), .val (.int x1), .val (.int y1), .unset, .unset, .unset, .unset, .unset, .unset, .unset, .unset] [(.int f)])) tt
      refine XS.iconst X0.here hx rfl (hb hby at_1) ?_
      show Steps p.tables e below (s₁.setTop (mkF m 2 #[.val (.int f), .val (.int x1), .val (.int y1), .unset, .unset, .unset, .unset, .unset, .unset, .unset, .unset] [(.int (1 : Int32)), (.int f)])) tt
      refine XS.iand X0.here hx rfl (hb hby at_2) rfl ?_
      show Steps p.tables e below (s₁.setTop (mkF m 3 #[.val (.int f), .val (.int x1), .val (.int y1), .unset, .unset, .unset, .unset, .unset, .unset, .unset, .unset] [(.int (f &&& (1 : Int32)))])) tt
      refine XS.ifYes X0.here hx rfl (pc0 := 3) (pc' := 10) rfl (hb hby at_3) rfl ((if0 _ _).trans (teq (q : (f &&& (1 : Int32)) = (0 : Int32))).1) (by decide) (by decide) ?_
      show Steps p.tables e below (s₁.setTop (mkF m 10 #[.val (.int f), .val (.int x1), .val (.int y1), .unset, .unset, .unset, .unset, .unset, .unset, .unset, .unset] [])) tt
      refine XS.iconst X0.here hx rfl (hb hby at_10) ?_
      exact kk
    · rw [show own_bit f (1 : Int32) = (1 : Int32) by simp [own_bit, q]] at kk
      show Steps p.tables e below (s₁.setTop (mkF m 0 #[.val (.int f), .val (.int x1), .val (.int y1), .unset, .unset, .unset, .unset, .unset, .unset, .unset, .unset] [])) tt
      refine XS.iloadN X0.here hx rfl (hb hby at_0) rfl ?_
      show Steps p.tables e below (s₁.setTop (mkF m 1 #[.val (.int f), .val (.int x1), .val (.int y1), .unset, .unset, .unset, .unset, .unset, .unset, .unset, .unset] [(.int f)])) tt
      refine XS.iconst X0.here hx rfl (hb hby at_1) ?_
      show Steps p.tables e below (s₁.setTop (mkF m 2 #[.val (.int f), .val (.int x1), .val (.int y1), .unset, .unset, .unset, .unset, .unset, .unset, .unset, .unset] [(.int (1 : Int32)), (.int f)])) tt
      refine XS.iand X0.here hx rfl (hb hby at_2) rfl ?_
      show Steps p.tables e below (s₁.setTop (mkF m 3 #[.val (.int f), .val (.int x1), .val (.int y1), .unset, .unset, .unset, .unset, .unset, .unset, .unset, .unset] [(.int (f &&& (1 : Int32)))])) tt
      refine XS.ifNo X0.here hx rfl (hb hby at_3) rfl ((if0 _ _).trans (feq (q : ¬ ((f &&& (1 : Int32)) = (0 : Int32)))).1) ?_
      show Steps p.tables e below (s₁.setTop (mkF m 6 #[.val (.int f), .val (.int x1), .val (.int y1), .unset, .unset, .unset, .unset, .unset, .unset, .unset, .unset] [])) tt
      refine XS.iconst X0.here hx rfl (hb hby at_6) ?_
      show Steps p.tables e below (s₁.setTop (mkF m 7 #[.val (.int f), .val (.int x1), .val (.int y1), .unset, .unset, .unset, .unset, .unset, .unset, .unset, .unset] [(.int (1 : Int32))])) tt
      refine XS.goto X0.here hx rfl (pc0 := 7) (pc' := 11) rfl (hb hby at_7) (by decide) (by decide) ?_
      exact kk
  have k2 : ∀ tt, Steps p.tables e below (s₁.setTop (mkF m 12 #[.val (.int f), .val (.int x1), .val (.int y1), .val (.int (own_bit f (1 : Int32))), .unset, .unset, .unset, .unset, .unset, .unset, .unset] [])) tt → Steps p.tables e below (s₁.setTop (entryFrame m #[(.int f), (.int x1), (.int y1)] maxLocals)) tt := by
    intro tt kk
    refine k1 tt ?_
    show Steps p.tables e below (s₁.setTop (mkF m 11 #[.val (.int f), .val (.int x1), .val (.int y1), .unset, .unset, .unset, .unset, .unset, .unset, .unset, .unset] [(.int (own_bit f (1 : Int32)))])) tt
    refine XS.istoreN X0.here hx rfl (hb hby at_11) rfl (l' := #[.val (.int f), .val (.int x1), .val (.int y1), .val (.int (own_bit f (1 : Int32))), .unset, .unset, .unset, .unset, .unset, .unset, .unset]) rfl ?_
    exact kk
  have k3 : ∀ tt, Steps p.tables e below (s₁.setTop (mkF m 23 #[.val (.int f), .val (.int x1), .val (.int y1), .val (.int (own_bit f (1 : Int32))), .unset, .unset, .unset, .unset, .unset, .unset, .unset] [(.int (own_bit f (2 : Int32)))])) tt → Steps p.tables e below (s₁.setTop (entryFrame m #[(.int f), (.int x1), (.int y1)] maxLocals)) tt := by
    intro tt kk
    refine k2 tt ?_
    by_cases q : (f &&& (2 : Int32)) = (0 : Int32)
    · rw [show own_bit f (2 : Int32) = (0 : Int32) by simp [own_bit, q]] at kk
      show Steps p.tables e below (s₁.setTop (mkF m 12 #[.val (.int f), .val (.int x1), .val (.int y1), .val (.int (own_bit f (1 : Int32))), .unset, .unset, .unset, .unset, .unset, .unset, .unset] [])) tt
      refine XS.iloadN X0.here hx rfl (hb hby at_12) rfl ?_
      show Steps p.tables e below (s₁.setTop (mkF m 13 #[.val (.int f), .val (.int x1), .val (.int y1), .val (.int (own_bit f (1 : Int32))), .unset, .unset, .unset, .unset, .unset, .unset, .unset] [(.int f)])) tt
      refine XS.iconst X0.here hx rfl (hb hby at_13) ?_
      show Steps p.tables e below (s₁.setTop (mkF m 14 #[.val (.int f), .val (.int x1), .val (.int y1), .val (.int (own_bit f (1 : Int32))), .unset, .unset, .unset, .unset, .unset, .unset, .unset] [(.int (2 : Int32)), (.int f)])) tt
      refine XS.iand X0.here hx rfl (hb hby at_14) rfl ?_
      show Steps p.tables e below (s₁.setTop (mkF m 15 #[.val (.int f), .val (.int x1), .val (.int y1), .val (.int (own_bit f (1 : Int32))), .unset, .unset, .unset, .unset, .unset, .unset, .unset] [(.int (f &&& (2 : Int32)))])) tt
      refine XS.ifYes X0.here hx rfl (pc0 := 15) (pc' := 22) rfl (hb hby at_15) rfl ((if0 _ _).trans (teq (q : (f &&& (2 : Int32)) = (0 : Int32))).1) (by decide) (by decide) ?_
      show Steps p.tables e below (s₁.setTop (mkF m 22 #[.val (.int f), .val (.int x1), .val (.int y1), .val (.int (own_bit f (1 : Int32))), .unset, .unset, .unset, .unset, .unset, .unset, .unset] [])) tt
      refine XS.iconst X0.here hx rfl (hb hby at_22) ?_
      exact kk
    · rw [show own_bit f (2 : Int32) = (1 : Int32) by simp [own_bit, q]] at kk
      show Steps p.tables e below (s₁.setTop (mkF m 12 #[.val (.int f), .val (.int x1), .val (.int y1), .val (.int (own_bit f (1 : Int32))), .unset, .unset, .unset, .unset, .unset, .unset, .unset] [])) tt
      refine XS.iloadN X0.here hx rfl (hb hby at_12) rfl ?_
      show Steps p.tables e below (s₁.setTop (mkF m 13 #[.val (.int f), .val (.int x1), .val (.int y1), .val (.int (own_bit f (1 : Int32))), .unset, .unset, .unset, .unset, .unset, .unset, .unset] [(.int f)])) tt
      refine XS.iconst X0.here hx rfl (hb hby at_13) ?_
      show Steps p.tables e below (s₁.setTop (mkF m 14 #[.val (.int f), .val (.int x1), .val (.int y1), .val (.int (own_bit f (1 : Int32))), .unset, .unset, .unset, .unset, .unset, .unset, .unset] [(.int (2 : Int32)), (.int f)])) tt
      refine XS.iand X0.here hx rfl (hb hby at_14) rfl ?_
      show Steps p.tables e below (s₁.setTop (mkF m 15 #[.val (.int f), .val (.int x1), .val (.int y1), .val (.int (own_bit f (1 : Int32))), .unset, .unset, .unset, .unset, .unset, .unset, .unset] [(.int (f &&& (2 : Int32)))])) tt
      refine XS.ifNo X0.here hx rfl (hb hby at_15) rfl ((if0 _ _).trans (feq (q : ¬ ((f &&& (2 : Int32)) = (0 : Int32)))).1) ?_
      show Steps p.tables e below (s₁.setTop (mkF m 18 #[.val (.int f), .val (.int x1), .val (.int y1), .val (.int (own_bit f (1 : Int32))), .unset, .unset, .unset, .unset, .unset, .unset, .unset] [])) tt
      refine XS.iconst X0.here hx rfl (hb hby at_18) ?_
      show Steps p.tables e below (s₁.setTop (mkF m 19 #[.val (.int f), .val (.int x1), .val (.int y1), .val (.int (own_bit f (1 : Int32))), .unset, .unset, .unset, .unset, .unset, .unset, .unset] [(.int (1 : Int32))])) tt
      refine XS.goto X0.here hx rfl (pc0 := 19) (pc' := 23) rfl (hb hby at_19) (by decide) (by decide) ?_
      exact kk
  obtain ⟨_, _, ⟨T4, L4, ka4, na4⟩, -, X4, ⟨Lc4, hQ4, l4, y4, z4⟩, st4⟩ := Jvm.LawKit.callS X0 hx (y := (⟨"java/lang/Math", "max", "(II)I"⟩ : MethodName)) hown (mvT hZ (hw _ (List.mem_of_getElem? (i := 1) rfl))) (mvT hZ (hw _ (List.mem_of_getElem? (i := 2) rfl))) (mvT hZ (hw _ (List.mem_of_getElem? (i := 3) rfl))) (mvT hZ (hw _ (List.mem_of_getElem? (i := 4) rfl))) (by decide) (backOf (W := 0) (own_rmM l Z a0 hw [] (1 : Int32) (x1 &&& (2147483647 : Int32)) h0 n0 Z0) hZ (hw _ (List.mem_of_getElem? (i := 4) rfl)) (hw _ (List.mem_of_getElem? (i := 3) rfl)) (by decide) (by decide)) (g := (mkF m 30 #[.val (.int f), .val (.int x1), .val (.int y1), .val (.int (own_bit f (1 : Int32))), .val (.int (own_bit f (2 : Int32))), .unset, .unset, .unset, .unset, .unset, .unset] [(.int (x1 &&& (2147483647 : Int32))), (.int (1 : Int32))])) rfl (by rw [hml]; rfl) (argsL := [(.int (1 : Int32)), (.int (x1 &&& (2147483647 : Int32)))]) (rest := []) (lenOf own_pd__II_I rfl) rfl (by show 2 * 0 + _ ≤ _; exact Nat.le_of_eq rfl) (hb hby at_30) (fun _ _ => ⟨rfl, e0, (by decide : 0 + 0 ≤ _), (by decide : 0 + 0 ≤ _)⟩)
  dsimp only [Pt.U, Pt.locs, Pt.cells, Pt.slots] at X4 l4 y4 z4 st4 hQ4
  subst l4 y4 z4
  obtain ⟨rfl, Nq4, hh4⟩ := hQ4
  have N4 := Fr.app N0 Nq4
  have k6 : ∀ tt, Steps p.tables e below (T4.setTop (mkF m 35 #[.val (.int f), .val (.int x1), .val (.int y1), .val (.int (own_bit f (1 : Int32))), .val (.int (own_bit f (2 : Int32))), .val (.int (own_max (1 : Int32) (x1 &&& (2147483647 : Int32)))), .unset, .unset, .unset, .unset, .unset] [])) tt → Steps p.tables e below (s₁.setTop (entryFrame m #[(.int f), (.int x1), (.int y1)] maxLocals)) tt := by
    intro tt kk
    refine k3 tt ?_
    show Steps p.tables e below (s₁.setTop (mkF m 23 #[.val (.int f), .val (.int x1), .val (.int y1), .val (.int (own_bit f (1 : Int32))), .unset, .unset, .unset, .unset, .unset, .unset, .unset] [(.int (own_bit f (2 : Int32)))])) tt
    refine XS.istore X0.here hx rfl (hb hby at_23) rfl (l' := #[.val (.int f), .val (.int x1), .val (.int y1), .val (.int (own_bit f (1 : Int32))), .val (.int (own_bit f (2 : Int32))), .unset, .unset, .unset, .unset, .unset, .unset]) rfl ?_
    show Steps p.tables e below (s₁.setTop (mkF m 25 #[.val (.int f), .val (.int x1), .val (.int y1), .val (.int (own_bit f (1 : Int32))), .val (.int (own_bit f (2 : Int32))), .unset, .unset, .unset, .unset, .unset, .unset] [])) tt
    refine XS.iconst X0.here hx rfl (hb hby at_25) ?_
    show Steps p.tables e below (s₁.setTop (mkF m 26 #[.val (.int f), .val (.int x1), .val (.int y1), .val (.int (own_bit f (1 : Int32))), .val (.int (own_bit f (2 : Int32))), .unset, .unset, .unset, .unset, .unset, .unset] [(.int (1 : Int32))])) tt
    refine XS.iloadN X0.here hx rfl (hb hby at_26) rfl ?_
    show Steps p.tables e below (s₁.setTop (mkF m 27 #[.val (.int f), .val (.int x1), .val (.int y1), .val (.int (own_bit f (1 : Int32))), .val (.int (own_bit f (2 : Int32))), .unset, .unset, .unset, .unset, .unset, .unset] [(.int x1), (.int (1 : Int32))])) tt
    refine X0.ldcInt hx hown (mvT hZ (hw _ (List.mem_of_getElem? (i := 0) rfl))) (g := (mkF m 27 #[.val (.int f), .val (.int x1), .val (.int y1), .val (.int (own_bit f (1 : Int32))), .val (.int (own_bit f (2 : Int32))), .unset, .unset, .unset, .unset, .unset, .unset] [(.int x1), (.int (1 : Int32))])) rfl (hb hby at_27) _ ?_
    show Steps p.tables e below (s₁.setTop (mkF m 29 #[.val (.int f), .val (.int x1), .val (.int y1), .val (.int (own_bit f (1 : Int32))), .val (.int (own_bit f (2 : Int32))), .unset, .unset, .unset, .unset, .unset, .unset] [(.int (2147483647 : Int32)), (.int x1), (.int (1 : Int32))])) tt
    refine XS.iand X0.here hx rfl (hb hby at_29) rfl ?_
    show Steps p.tables e below (s₁.setTop (mkF m 30 #[.val (.int f), .val (.int x1), .val (.int y1), .val (.int (own_bit f (1 : Int32))), .val (.int (own_bit f (2 : Int32))), .unset, .unset, .unset, .unset, .unset, .unset] [(.int (x1 &&& (2147483647 : Int32))), (.int (1 : Int32))])) tt
    refine st4 _ ?_
    show Steps p.tables e below (T4.setTop (mkF m 33 #[.val (.int f), .val (.int x1), .val (.int y1), .val (.int (own_bit f (1 : Int32))), .val (.int (own_bit f (2 : Int32))), .unset, .unset, .unset, .unset, .unset, .unset] [(.int (own_max (1 : Int32) (x1 &&& (2147483647 : Int32))))])) tt
    refine XS.istore X4.here hx rfl (hb hby at_33) rfl (l' := #[.val (.int f), .val (.int x1), .val (.int y1), .val (.int (own_bit f (1 : Int32))), .val (.int (own_bit f (2 : Int32))), .val (.int (own_max (1 : Int32) (x1 &&& (2147483647 : Int32)))), .unset, .unset, .unset, .unset, .unset]) rfl ?_
    exact kk
  refine cps (A := ∃ (m2 : Int32) (T : State) (locs : List Loc), Stand p l e room_1 s m #[(.int f), (.int x1), (.int y1)] below meth cc T locs 0 0 ∧ T.heap = h0 ∧ Fr n0 locs ∧ (¬ m2 < (1 : Int32)) ∧ ∀ tt, Steps p.tables e below (T.setTop (mkF m 54 #[.val (.int f), .val (.int x1), .val (.int y1), .val (.int (own_bit f (1 : Int32))), .val (.int (own_bit f (2 : Int32))), .val (.int (own_max (1 : Int32) (x1 &&& (2147483647 : Int32)))), .unset, .unset, .unset, .unset, .unset] [(.int m2)])) tt → Steps p.tables e below (s₁.setTop (entryFrame m #[(.int f), (.int x1), (.int y1)] maxLocals)) tt) (fun kA => ?_) (fun hA => ?_)
  · have own_mark : True := trivial
    have k7 : ∀ tt, Steps p.tables e below (T4.setTop (mkF m 38 #[.val (.int f), .val (.int x1), .val (.int y1), .val (.int (own_bit f (1 : Int32))), .val (.int (own_bit f (2 : Int32))), .val (.int (own_max (1 : Int32) (x1 &&& (2147483647 : Int32)))), .unset, .unset, .unset, .unset, .unset] [(.int (f &&& (4 : Int32)))])) tt → Steps p.tables e below (s₁.setTop (entryFrame m #[(.int f), (.int x1), (.int y1)] maxLocals)) tt := by
      intro tt kk
      refine k6 tt ?_
      show Steps p.tables e below (T4.setTop (mkF m 35 #[.val (.int f), .val (.int x1), .val (.int y1), .val (.int (own_bit f (1 : Int32))), .val (.int (own_bit f (2 : Int32))), .val (.int (own_max (1 : Int32) (x1 &&& (2147483647 : Int32)))), .unset, .unset, .unset, .unset, .unset] [])) tt
      refine XS.iloadN X4.here hx rfl (hb hby at_35) rfl ?_
      show Steps p.tables e below (T4.setTop (mkF m 36 #[.val (.int f), .val (.int x1), .val (.int y1), .val (.int (own_bit f (1 : Int32))), .val (.int (own_bit f (2 : Int32))), .val (.int (own_max (1 : Int32) (x1 &&& (2147483647 : Int32)))), .unset, .unset, .unset, .unset, .unset] [(.int f)])) tt
      refine XS.iconst X4.here hx rfl (hb hby at_36) ?_
      show Steps p.tables e below (T4.setTop (mkF m 37 #[.val (.int f), .val (.int x1), .val (.int y1), .val (.int (own_bit f (1 : Int32))), .val (.int (own_bit f (2 : Int32))), .val (.int (own_max (1 : Int32) (x1 &&& (2147483647 : Int32)))), .unset, .unset, .unset, .unset, .unset] [(.int (4 : Int32)), (.int f)])) tt
      refine XS.iand X4.here hx rfl (hb hby at_37) rfl ?_
      exact kk
    by_cases c38_8 : (f &&& (4 : Int32)) = (0 : Int32)
    · obtain ⟨_, _, ⟨T9, L9, ka9, na9⟩, -, X9, ⟨Lc9, hQ9, l9, y9, z9⟩, st9⟩ := Jvm.LawKit.callS X4 hx (y := (⟨"java/lang/Math", "max", "(II)I"⟩ : MethodName)) hown (mvT hZ (hw _ (List.mem_of_getElem? (i := 1) rfl))) (mvT hZ (hw _ (List.mem_of_getElem? (i := 2) rfl))) (mvT hZ (hw _ (List.mem_of_getElem? (i := 3) rfl))) (mvT hZ (hw _ (List.mem_of_getElem? (i := 4) rfl))) (by decide) (backOf (W := 0) (own_rmM l Z a0 hw [] (1 : Int32) (y1 &&& (2147483647 : Int32)) h0 n0 Z0) hZ (hw _ (List.mem_of_getElem? (i := 4) rfl)) (hw _ (List.mem_of_getElem? (i := 3) rfl)) (by decide) (by decide)) (g := (mkF m 51 #[.val (.int f), .val (.int x1), .val (.int y1), .val (.int (own_bit f (1 : Int32))), .val (.int (own_bit f (2 : Int32))), .val (.int (own_max (1 : Int32) (x1 &&& (2147483647 : Int32)))), .unset, .unset, .unset, .unset, .unset] [(.int (y1 &&& (2147483647 : Int32))), (.int (1 : Int32))])) rfl (by rw [hml]; rfl) (argsL := [(.int (1 : Int32)), (.int (y1 &&& (2147483647 : Int32)))]) (rest := []) (lenOf own_pd__II_I rfl) rfl (by show 2 * 0 + _ ≤ _; exact Nat.le_of_eq rfl) (hb hby at_51) (fun _ _ => ⟨rfl, hh4, (by decide : 0 + 0 ≤ _), (by decide : 0 + 0 ≤ _)⟩)
      dsimp only [Pt.U, Pt.locs, Pt.cells, Pt.slots] at X9 l9 y9 z9 st9 hQ9
      subst l9 y9 z9
      obtain ⟨rfl, Nq9, hh9⟩ := hQ9
      have N9 := Fr.app N4 Nq9
      have k10 : ∀ tt, Steps p.tables e below (T9.setTop (mkF m 54 #[.val (.int f), .val (.int x1), .val (.int y1), .val (.int (own_bit f (1 : Int32))), .val (.int (own_bit f (2 : Int32))), .val (.int (own_max (1 : Int32) (x1 &&& (2147483647 : Int32)))), .unset, .unset, .unset, .unset, .unset] [(.int (own_max (1 : Int32) (y1 &&& (2147483647 : Int32))))])) tt → Steps p.tables e below (s₁.setTop (entryFrame m #[(.int f), (.int x1), (.int y1)] maxLocals)) tt := by
        intro tt kk
        refine k7 tt ?_
        show Steps p.tables e below (T4.setTop (mkF m 38 #[.val (.int f), .val (.int x1), .val (.int y1), .val (.int (own_bit f (1 : Int32))), .val (.int (own_bit f (2 : Int32))), .val (.int (own_max (1 : Int32) (x1 &&& (2147483647 : Int32)))), .unset, .unset, .unset, .unset, .unset] [(.int (f &&& (4 : Int32)))])) tt
        refine XS.ifYes X4.here hx rfl (pc0 := 38) (pc' := 46) rfl (hb hby at_38) rfl ((if0 _ _).trans (teq (c38_8 : (f &&& (4 : Int32)) = (0 : Int32))).1) (by decide) (by decide) ?_
        show Steps p.tables e below (T4.setTop (mkF m 46 #[.val (.int f), .val (.int x1), .val (.int y1), .val (.int (own_bit f (1 : Int32))), .val (.int (own_bit f (2 : Int32))), .val (.int (own_max (1 : Int32) (x1 &&& (2147483647 : Int32)))), .unset, .unset, .unset, .unset, .unset] [])) tt
        refine XS.iconst X4.here hx rfl (hb hby at_46) ?_
        show Steps p.tables e below (T4.setTop (mkF m 47 #[.val (.int f), .val (.int x1), .val (.int y1), .val (.int (own_bit f (1 : Int32))), .val (.int (own_bit f (2 : Int32))), .val (.int (own_max (1 : Int32) (x1 &&& (2147483647 : Int32)))), .unset, .unset, .unset, .unset, .unset] [(.int (1 : Int32))])) tt
        refine XS.iloadN X4.here hx rfl (hb hby at_47) rfl ?_
        show Steps p.tables e below (T4.setTop (mkF m 48 #[.val (.int f), .val (.int x1), .val (.int y1), .val (.int (own_bit f (1 : Int32))), .val (.int (own_bit f (2 : Int32))), .val (.int (own_max (1 : Int32) (x1 &&& (2147483647 : Int32)))), .unset, .unset, .unset, .unset, .unset] [(.int y1), (.int (1 : Int32))])) tt
        refine X4.ldcInt hx hown (mvT hZ (hw _ (List.mem_of_getElem? (i := 0) rfl))) (g := (mkF m 48 #[.val (.int f), .val (.int x1), .val (.int y1), .val (.int (own_bit f (1 : Int32))), .val (.int (own_bit f (2 : Int32))), .val (.int (own_max (1 : Int32) (x1 &&& (2147483647 : Int32)))), .unset, .unset, .unset, .unset, .unset] [(.int y1), (.int (1 : Int32))])) rfl (hb hby at_48) _ ?_
        show Steps p.tables e below (T4.setTop (mkF m 50 #[.val (.int f), .val (.int x1), .val (.int y1), .val (.int (own_bit f (1 : Int32))), .val (.int (own_bit f (2 : Int32))), .val (.int (own_max (1 : Int32) (x1 &&& (2147483647 : Int32)))), .unset, .unset, .unset, .unset, .unset] [(.int (2147483647 : Int32)), (.int y1), (.int (1 : Int32))])) tt
        refine XS.iand X4.here hx rfl (hb hby at_50) rfl ?_
        show Steps p.tables e below (T4.setTop (mkF m 51 #[.val (.int f), .val (.int x1), .val (.int y1), .val (.int (own_bit f (1 : Int32))), .val (.int (own_bit f (2 : Int32))), .val (.int (own_max (1 : Int32) (x1 &&& (2147483647 : Int32)))), .unset, .unset, .unset, .unset, .unset] [(.int (y1 &&& (2147483647 : Int32))), (.int (1 : Int32))])) tt
        refine st9 _ ?_
        exact kk
      exact kA ⟨(own_max (1 : Int32) (y1 &&& (2147483647 : Int32))), T9, _, X9, hh9, N9, own_max_pos _, k10⟩
    · have k11 : ∀ tt, Steps p.tables e below (T4.setTop (mkF m 54 #[.val (.int f), .val (.int x1), .val (.int y1), .val (.int (own_bit f (1 : Int32))), .val (.int (own_bit f (2 : Int32))), .val (.int (own_max (1 : Int32) (x1 &&& (2147483647 : Int32)))), .unset, .unset, .unset, .unset, .unset] [(.int (own_max (1 : Int32) (x1 &&& (2147483647 : Int32))))])) tt → Steps p.tables e below (s₁.setTop (entryFrame m #[(.int f), (.int x1), (.int y1)] maxLocals)) tt := by
        intro tt kk
        refine k7 tt ?_
        show Steps p.tables e below (T4.setTop (mkF m 38 #[.val (.int f), .val (.int x1), .val (.int y1), .val (.int (own_bit f (1 : Int32))), .val (.int (own_bit f (2 : Int32))), .val (.int (own_max (1 : Int32) (x1 &&& (2147483647 : Int32)))), .unset, .unset, .unset, .unset, .unset] [(.int (f &&& (4 : Int32)))])) tt
        refine XS.ifNo X4.here hx rfl (hb hby at_38) rfl ((if0 _ _).trans (feq (c38_8 : ¬ ((f &&& (4 : Int32)) = (0 : Int32)))).1) ?_
        show Steps p.tables e below (T4.setTop (mkF m 41 #[.val (.int f), .val (.int x1), .val (.int y1), .val (.int (own_bit f (1 : Int32))), .val (.int (own_bit f (2 : Int32))), .val (.int (own_max (1 : Int32) (x1 &&& (2147483647 : Int32)))), .unset, .unset, .unset, .unset, .unset] [])) tt
        refine XS.iload X4.here hx rfl (hb hby at_41) rfl ?_
        show Steps p.tables e below (T4.setTop (mkF m 43 #[.val (.int f), .val (.int x1), .val (.int y1), .val (.int (own_bit f (1 : Int32))), .val (.int (own_bit f (2 : Int32))), .val (.int (own_max (1 : Int32) (x1 &&& (2147483647 : Int32)))), .unset, .unset, .unset, .unset, .unset] [(.int (own_max (1 : Int32) (x1 &&& (2147483647 : Int32))))])) tt
        refine XS.goto X4.here hx rfl (pc0 := 43) (pc' := 54) rfl (hb hby at_43) (by decide) (by decide) ?_
        exact kk
      exact kA ⟨(own_max (1 : Int32) (x1 &&& (2147483647 : Int32))), T4, _, X4, hh4, N4, own_max_pos _, k11⟩
  · obtain ⟨m2, T5, locs5, X5, e5, N5, hx5_0, k5⟩ := hA
    obtain ⟨T12, h12, X12, e12, E12, A12, D12, -, st12⟩ := newO X5 hx hZ hown (hw _ (List.mem_of_getElem? (i := 5) rfl)) (hw _ (List.mem_of_getElem? (i := 6) rfl)) (hw _ (List.mem_of_getElem? (i := 7) rfl)) e5 (g := (mkF m 63 #[.val (.int f), .val (.int x1), .val (.int y1), .val (.int (own_bit f (1 : Int32))), .val (.int (own_bit f (2 : Int32))), .val (.int (own_max (1 : Int32) (x1 &&& (2147483647 : Int32)))), .val (.int m2), .val (.int (((f.toUInt32 >>> ((3 : Int32) &&& 31).toUInt32).toInt32) &&& (3 : Int32))), .unset, .unset, .unset] [])) rfl (hb hby at_63) (by decide) (by decide)
    obtain ⟨b12, g12⟩ : ∃ z, z = h0.size := ⟨_, rfl⟩
    rw [← g12] at A12 D12 st12
    have g_b12 : n0 ≤ b12 := Nat.le_trans Z0 (Nat.le_of_eq g12.symm)
    have sz_b12 : h0.size ≤ b12 := Nat.le_trans (Keep.refl h0 []).1 (Nat.le_of_eq g12.symm)
    have Z12 : n0 ≤ h12.size := Nat.le_trans Z0 E12.1
    have K12 := Keep.ext (Keep.refl h0 []) E12
    have F12_enabled : Fld Z h12 b12 "com/example/curb_queries/curbqueries/statistics/StatisticsSettings" "enabled" "Z" (.int (0 : Int32)) := D12 (Or.inr (hw _ (List.mem_of_getElem? (i := 15) rfl))) (ty := .boolean) (by decide)
    have F12_maxPatterns : Fld Z h12 b12 "com/example/curb_queries/curbqueries/statistics/StatisticsSettings" "maxPatterns" "I" (.int (0 : Int32)) := D12 (Or.inr (hw _ (List.mem_of_getElem? (i := 17) rfl))) (ty := .int) (by decide)
    obtain ⟨_, _, ⟨T13, L13, ka13, na13⟩, -, X13, ⟨Lc13, hQ13, l13, y13, z13⟩, st13⟩ := X12.specialBack hx (y := (⟨"com/example/curb_queries/curbqueries/statistics/StatisticsSettings", "<init>", "(ZI)V"⟩ : MethodName)) rfl hown (mvT hZ (hw _ (List.mem_of_getElem? (i := 8) rfl))) (mvT hZ (hw _ (List.mem_of_getElem? (i := 9) rfl))) (mvT hZ (hw _ (List.mem_of_getElem? (i := 10) rfl))) (by decide) (backOf (W := 1) (own_rmC l Z a0 hw [] b12 (own_bit f (1 : Int32)) (own_max (1 : Int32) (x1 &&& (2147483647 : Int32))) _ _ h12 n0 Z12 A12 F12_enabled F12_maxPatterns g_b12 (own_bit01 _ _) (own_max_pos _)) hZ (hw _ (List.mem_of_getElem? (i := 10) rfl)) (hw _ (List.mem_of_getElem? (i := 7) rfl)) (by decide) (by decide)) (g := (mkF m 70 #[.val (.int f), .val (.int x1), .val (.int y1), .val (.int (own_bit f (1 : Int32))), .val (.int (own_bit f (2 : Int32))), .val (.int (own_max (1 : Int32) (x1 &&& (2147483647 : Int32)))), .val (.int m2), .val (.int (((f.toUInt32 >>> ((3 : Int32) &&& 31).toUInt32).toInt32) &&& (3 : Int32))), .unset, .unset, .unset] [(.int (own_max (1 : Int32) (x1 &&& (2147483647 : Int32)))), (.int (own_bit f (1 : Int32))), (.ref b12), (.ref b12)])) rfl (by rw [hml]; rfl) (Steps.refl _) (a := b12) (argsL := [(.int (own_bit f (1 : Int32))), (.int (own_max (1 : Int32) (x1 &&& (2147483647 : Int32))))]) (rest := [(.ref b12)]) (lenOf own_pd__ZI_V rfl) rfl (by show 2 * 0 + _ ≤ _; exact Nat.le_of_eq rfl) (hb hby at_70) (fun _ _ => ⟨rfl, e12, (by decide : 1 + 0 ≤ _), (by decide : 2 + 0 ≤ _)⟩)
    dsimp only [Pt.U, Pt.locs, Pt.cells, Pt.slots] at X13 l13 y13 z13 st13 hQ13
    subst l13 y13 z13
    obtain ⟨rfl, Nq13, K13, Fa13, Fb13⟩ := hQ13
    have N13 := Fr.app N5 Nq13
    have Z13 : n0 ≤ T13.heap.size := Nat.le_trans Z12 K13.1
    have Kt13 := Keep.trans K12 K13 (allS (Or.inr sz_b12) all0)
    obtain ⟨T14, h14, X14, e14, E14, A14, D14, -, st14⟩ := newO X13 hx hZ hown (hw _ (List.mem_of_getElem? (i := 5) rfl)) (hw _ (List.mem_of_getElem? (i := 6) rfl)) (hw _ (List.mem_of_getElem? (i := 7) rfl)) rfl (g := (mkF m 75 #[.val (.int f), .val (.int x1), .val (.int y1), .val (.int (own_bit f (1 : Int32))), .val (.int (own_bit f (2 : Int32))), .val (.int (own_max (1 : Int32) (x1 &&& (2147483647 : Int32)))), .val (.int m2), .val (.int (((f.toUInt32 >>> ((3 : Int32) &&& 31).toUInt32).toInt32) &&& (3 : Int32))), .val (.ref b12), .unset, .unset] [])) rfl (hb hby at_75) (by decide) (by decide)
    obtain ⟨b14, g14⟩ : ∃ z, z = T13.heap.size := ⟨_, rfl⟩
    rw [← g14] at A14 D14 st14
    have g_b14 : n0 ≤ b14 := Nat.le_trans Z13 (Nat.le_of_eq g14.symm)
    have sz_b14 : h0.size ≤ b14 := Nat.le_trans Kt13.1 (Nat.le_of_eq g14.symm)
    have Z14 : n0 ≤ h14.size := Nat.le_trans Z13 E14.1
    have K14 := Keep.ext Kt13 E14
    have F14_enabled : Fld Z h14 b14 "com/example/curb_queries/curbqueries/statistics/StatisticsSettings" "enabled" "Z" (.int (0 : Int32)) := D14 (Or.inr (hw _ (List.mem_of_getElem? (i := 15) rfl))) (ty := .boolean) (by decide)
    have F14_maxPatterns : Fld Z h14 b14 "com/example/curb_queries/curbqueries/statistics/StatisticsSettings" "maxPatterns" "I" (.int (0 : Int32)) := D14 (Or.inr (hw _ (List.mem_of_getElem? (i := 17) rfl))) (ty := .int) (by decide)
    obtain ⟨_, _, ⟨T15, L15, ka15, na15⟩, -, X15, ⟨Lc15, hQ15, l15, y15, z15⟩, st15⟩ := X14.specialBack hx (y := (⟨"com/example/curb_queries/curbqueries/statistics/StatisticsSettings", "<init>", "(ZI)V"⟩ : MethodName)) rfl hown (mvT hZ (hw _ (List.mem_of_getElem? (i := 8) rfl))) (mvT hZ (hw _ (List.mem_of_getElem? (i := 9) rfl))) (mvT hZ (hw _ (List.mem_of_getElem? (i := 10) rfl))) (by decide) (backOf (W := 1) (own_rmC l Z a0 hw [] b14 (own_bit f (2 : Int32)) m2 _ _ h14 n0 Z14 A14 F14_enabled F14_maxPatterns g_b14 (own_bit01 _ _) hx5_0) hZ (hw _ (List.mem_of_getElem? (i := 10) rfl)) (hw _ (List.mem_of_getElem? (i := 7) rfl)) (by decide) (by decide)) (g := (mkF m 83 #[.val (.int f), .val (.int x1), .val (.int y1), .val (.int (own_bit f (1 : Int32))), .val (.int (own_bit f (2 : Int32))), .val (.int (own_max (1 : Int32) (x1 &&& (2147483647 : Int32)))), .val (.int m2), .val (.int (((f.toUInt32 >>> ((3 : Int32) &&& 31).toUInt32).toInt32) &&& (3 : Int32))), .val (.ref b12), .unset, .unset] [(.int m2), (.int (own_bit f (2 : Int32))), (.ref b14), (.ref b14)])) rfl (by rw [hml]; rfl) (Steps.refl _) (a := b14) (argsL := [(.int (own_bit f (2 : Int32))), (.int m2)]) (rest := [(.ref b14)]) (lenOf own_pd__ZI_V rfl) rfl (by show 2 * 0 + _ ≤ _; exact Nat.le_of_eq rfl) (hb hby at_83) (fun _ _ => ⟨rfl, e14, (by decide : 2 + 0 ≤ _), (by decide : 4 + 0 ≤ _)⟩)
    dsimp only [Pt.U, Pt.locs, Pt.cells, Pt.slots] at X15 l15 y15 z15 st15 hQ15
    subst l15 y15 z15
    obtain ⟨rfl, Nq15, K15, Fa15, Fb15⟩ := hQ15
    have N15 := Fr.app N13 Nq15
    have Z15 : n0 ≤ T15.heap.size := Nat.le_trans Z14 K15.1
    have Kt15 := Keep.trans K14 K15 (allS (Or.inr sz_b14) all0)
    have hf17 := ((Fld.ext E14 Fa13).keep K15 (ninS (Nat.ne_of_lt (Nat.lt_of_lt_of_le (A12.keep K13).lt (Nat.le_of_eq g14.symm))) nin0))
    have hf18 := ((Fld.ext E14 Fb13).keep K15 (ninS (Nat.ne_of_lt (Nat.lt_of_lt_of_le (A12.keep K13).lt (Nat.le_of_eq g14.symm))) nin0))
    obtain ⟨cq16, kq16, q16a, q16b, q16c⟩ := isOf hZ rfl ((Exa.ext E14 (A12.keep K13)).keep K15)
    obtain ⟨_, _, ⟨T16, L16, ka16, na16⟩, -, X16, ⟨Lc16, hQ16, l16, y16, z16⟩, st16⟩ := X15.virtualBack hx (y := (⟨"com/example/curb_queries/curbqueries/statistics/StatisticsSettings", "equals", "(Ljava/lang/Object;)Z"⟩ : MethodName)) (z := (⟨"com/example/curb_queries/curbqueries/statistics/StatisticsSettings", "equals", "(Ljava/lang/Object;)Z"⟩ : MethodName)) hown (mvT hZ (hw _ (List.mem_of_getElem? (i := 18) rfl))) (mvT hZ (hw _ (List.mem_of_getElem? (i := 19) rfl))) (notFace_of_selects (args := #[]) (mvT hZ (hw _ (List.mem_of_getElem? (i := 21) rfl)))) (mvT hZ (hw _ (List.mem_of_getElem? (i := 21) rfl))) (mvT hZ (hw _ (List.mem_of_getElem? (i := 20) rfl))) (by decide) (backOf (W := 0) (own_rmE l Z a0 hw [] b12 b12 (own_bit f (1 : Int32)) (own_max (1 : Int32) (x1 &&& (2147483647 : Int32))) (own_bit f (1 : Int32)) (own_max (1 : Int32) (x1 &&& (2147483647 : Int32))) T15.heap n0 Z15 ((Exa.ext E14 (A12.keep K13)).keep K15) hf17 hf18 hf17 hf18) hZ (hw _ (List.mem_of_getElem? (i := 22) rfl)) (hw _ (List.mem_of_getElem? (i := 7) rfl)) (by decide) (by decide)) q16a q16c (g := (mkF m 92 #[.val (.int f), .val (.int x1), .val (.int y1), .val (.int (own_bit f (1 : Int32))), .val (.int (own_bit f (2 : Int32))), .val (.int (own_max (1 : Int32) (x1 &&& (2147483647 : Int32)))), .val (.int m2), .val (.int (((f.toUInt32 >>> ((3 : Int32) &&& 31).toUInt32).toInt32) &&& (3 : Int32))), .val (.ref b12), .val (.ref b14), .unset] [(.ref b12), (.ref b12)])) rfl (by rw [hml]; rfl) (Steps.refl _) (argsL := [(.ref b12)]) (rest := []) (lenOf own_pd__Ljava_lang_Object__Z rfl) rfl (by show 2 * 0 + _ ≤ _; exact Nat.le_of_eq rfl) (hb hby at_92) (fun _ _ => ⟨rfl, rfl, (by decide : 2 + 0 ≤ _), (by decide : 4 + 0 ≤ _)⟩)
    dsimp only [Pt.U, Pt.locs, Pt.cells, Pt.slots] at X16 l16 y16 z16 st16 hQ16
    subst l16 y16 z16
    obtain ⟨hv16, Nq16, hh16⟩ := hQ16
    have N16 := Fr.app N15 Nq16
    rw [own_eq_self] at hv16
    subst hv16
    have k19 : ∀ tt, Steps p.tables e below (T16.setTop (mkF m 103 #[.val (.int f), .val (.int x1), .val (.int y1), .val (.int (own_bit f (1 : Int32))), .val (.int (own_bit f (2 : Int32))), .val (.int (own_max (1 : Int32) (x1 &&& (2147483647 : Int32)))), .val (.int m2), .val (.int (((f.toUInt32 >>> ((3 : Int32) &&& 31).toUInt32).toInt32) &&& (3 : Int32))), .val (.ref b12), .val (.ref b14), .unset] [(.int (1 : Int32)), (.int (((f.toUInt32 >>> ((3 : Int32) &&& 31).toUInt32).toInt32) &&& (3 : Int32)))])) tt → Steps p.tables e below (s₁.setTop (entryFrame m #[(.int f), (.int x1), (.int y1)] maxLocals)) tt := by
      intro tt kk
      refine k5 tt ?_
      show Steps p.tables e below (T5.setTop (mkF m 54 #[.val (.int f), .val (.int x1), .val (.int y1), .val (.int (own_bit f (1 : Int32))), .val (.int (own_bit f (2 : Int32))), .val (.int (own_max (1 : Int32) (x1 &&& (2147483647 : Int32)))), .unset, .unset, .unset, .unset, .unset] [(.int m2)])) tt
      refine XS.istore X5.here hx rfl (hb hby at_54) rfl (l' := #[.val (.int f), .val (.int x1), .val (.int y1), .val (.int (own_bit f (1 : Int32))), .val (.int (own_bit f (2 : Int32))), .val (.int (own_max (1 : Int32) (x1 &&& (2147483647 : Int32)))), .val (.int m2), .unset, .unset, .unset, .unset]) rfl ?_
      show Steps p.tables e below (T5.setTop (mkF m 56 #[.val (.int f), .val (.int x1), .val (.int y1), .val (.int (own_bit f (1 : Int32))), .val (.int (own_bit f (2 : Int32))), .val (.int (own_max (1 : Int32) (x1 &&& (2147483647 : Int32)))), .val (.int m2), .unset, .unset, .unset, .unset] [])) tt
      refine XS.iloadN X5.here hx rfl (hb hby at_56) rfl ?_
      show Steps p.tables e below (T5.setTop (mkF m 57 #[.val (.int f), .val (.int x1), .val (.int y1), .val (.int (own_bit f (1 : Int32))), .val (.int (own_bit f (2 : Int32))), .val (.int (own_max (1 : Int32) (x1 &&& (2147483647 : Int32)))), .val (.int m2), .unset, .unset, .unset, .unset] [(.int f)])) tt
      refine XS.iconst X5.here hx rfl (hb hby at_57) ?_
      show Steps p.tables e below (T5.setTop (mkF m 58 #[.val (.int f), .val (.int x1), .val (.int y1), .val (.int (own_bit f (1 : Int32))), .val (.int (own_bit f (2 : Int32))), .val (.int (own_max (1 : Int32) (x1 &&& (2147483647 : Int32)))), .val (.int m2), .unset, .unset, .unset, .unset] [(.int (3 : Int32)), (.int f)])) tt
      refine XS.iushr X5.here hx rfl (hb hby at_58) rfl ?_
      show Steps p.tables e below (T5.setTop (mkF m 59 #[.val (.int f), .val (.int x1), .val (.int y1), .val (.int (own_bit f (1 : Int32))), .val (.int (own_bit f (2 : Int32))), .val (.int (own_max (1 : Int32) (x1 &&& (2147483647 : Int32)))), .val (.int m2), .unset, .unset, .unset, .unset] [(.int ((f.toUInt32 >>> ((3 : Int32) &&& 31).toUInt32).toInt32))])) tt
      refine XS.iconst X5.here hx rfl (hb hby at_59) ?_
      show Steps p.tables e below (T5.setTop (mkF m 60 #[.val (.int f), .val (.int x1), .val (.int y1), .val (.int (own_bit f (1 : Int32))), .val (.int (own_bit f (2 : Int32))), .val (.int (own_max (1 : Int32) (x1 &&& (2147483647 : Int32)))), .val (.int m2), .unset, .unset, .unset, .unset] [(.int (3 : Int32)), (.int ((f.toUInt32 >>> ((3 : Int32) &&& 31).toUInt32).toInt32))])) tt
      refine XS.iand X5.here hx rfl (hb hby at_60) rfl ?_
      show Steps p.tables e below (T5.setTop (mkF m 61 #[.val (.int f), .val (.int x1), .val (.int y1), .val (.int (own_bit f (1 : Int32))), .val (.int (own_bit f (2 : Int32))), .val (.int (own_max (1 : Int32) (x1 &&& (2147483647 : Int32)))), .val (.int m2), .unset, .unset, .unset, .unset] [(.int (((f.toUInt32 >>> ((3 : Int32) &&& 31).toUInt32).toInt32) &&& (3 : Int32)))])) tt
      refine XS.istore X5.here hx rfl (hb hby at_61) rfl (l' := #[.val (.int f), .val (.int x1), .val (.int y1), .val (.int (own_bit f (1 : Int32))), .val (.int (own_bit f (2 : Int32))), .val (.int (own_max (1 : Int32) (x1 &&& (2147483647 : Int32)))), .val (.int m2), .val (.int (((f.toUInt32 >>> ((3 : Int32) &&& 31).toUInt32).toInt32) &&& (3 : Int32))), .unset, .unset, .unset]) rfl ?_
      show Steps p.tables e below (T5.setTop (mkF m 63 #[.val (.int f), .val (.int x1), .val (.int y1), .val (.int (own_bit f (1 : Int32))), .val (.int (own_bit f (2 : Int32))), .val (.int (own_max (1 : Int32) (x1 &&& (2147483647 : Int32)))), .val (.int m2), .val (.int (((f.toUInt32 >>> ((3 : Int32) &&& 31).toUInt32).toInt32) &&& (3 : Int32))), .unset, .unset, .unset] [])) tt
      refine st12 _ ?_
      show Steps p.tables e below (T12.setTop (mkF m 66 #[.val (.int f), .val (.int x1), .val (.int y1), .val (.int (own_bit f (1 : Int32))), .val (.int (own_bit f (2 : Int32))), .val (.int (own_max (1 : Int32) (x1 &&& (2147483647 : Int32)))), .val (.int m2), .val (.int (((f.toUInt32 >>> ((3 : Int32) &&& 31).toUInt32).toInt32) &&& (3 : Int32))), .unset, .unset, .unset] [(.ref b12)])) tt
      refine XS.dup X12.here hx rfl (hb hby at_66) rfl rfl ?_
      show Steps p.tables e below (T12.setTop (mkF m 67 #[.val (.int f), .val (.int x1), .val (.int y1), .val (.int (own_bit f (1 : Int32))), .val (.int (own_bit f (2 : Int32))), .val (.int (own_max (1 : Int32) (x1 &&& (2147483647 : Int32)))), .val (.int m2), .val (.int (((f.toUInt32 >>> ((3 : Int32) &&& 31).toUInt32).toInt32) &&& (3 : Int32))), .unset, .unset, .unset] [(.ref b12), (.ref b12)])) tt
      refine XS.iloadN X12.here hx rfl (hb hby at_67) rfl ?_
      show Steps p.tables e below (T12.setTop (mkF m 68 #[.val (.int f), .val (.int x1), .val (.int y1), .val (.int (own_bit f (1 : Int32))), .val (.int (own_bit f (2 : Int32))), .val (.int (own_max (1 : Int32) (x1 &&& (2147483647 : Int32)))), .val (.int m2), .val (.int (((f.toUInt32 >>> ((3 : Int32) &&& 31).toUInt32).toInt32) &&& (3 : Int32))), .unset, .unset, .unset] [(.int (own_bit f (1 : Int32))), (.ref b12), (.ref b12)])) tt
      refine XS.iload X12.here hx rfl (hb hby at_68) rfl ?_
      show Steps p.tables e below (T12.setTop (mkF m 70 #[.val (.int f), .val (.int x1), .val (.int y1), .val (.int (own_bit f (1 : Int32))), .val (.int (own_bit f (2 : Int32))), .val (.int (own_max (1 : Int32) (x1 &&& (2147483647 : Int32)))), .val (.int m2), .val (.int (((f.toUInt32 >>> ((3 : Int32) &&& 31).toUInt32).toInt32) &&& (3 : Int32))), .unset, .unset, .unset] [(.int (own_max (1 : Int32) (x1 &&& (2147483647 : Int32)))), (.int (own_bit f (1 : Int32))), (.ref b12), (.ref b12)])) tt
      refine st13.trans ?_
      show Steps p.tables e below (T13.setTop (mkF m 73 #[.val (.int f), .val (.int x1), .val (.int y1), .val (.int (own_bit f (1 : Int32))), .val (.int (own_bit f (2 : Int32))), .val (.int (own_max (1 : Int32) (x1 &&& (2147483647 : Int32)))), .val (.int m2), .val (.int (((f.toUInt32 >>> ((3 : Int32) &&& 31).toUInt32).toInt32) &&& (3 : Int32))), .unset, .unset, .unset] [(.ref b12)])) tt
      refine XS.astore X13.here hx rfl (hb hby at_73) rfl rfl (l' := #[.val (.int f), .val (.int x1), .val (.int y1), .val (.int (own_bit f (1 : Int32))), .val (.int (own_bit f (2 : Int32))), .val (.int (own_max (1 : Int32) (x1 &&& (2147483647 : Int32)))), .val (.int m2), .val (.int (((f.toUInt32 >>> ((3 : Int32) &&& 31).toUInt32).toInt32) &&& (3 : Int32))), .val (.ref b12), .unset, .unset]) rfl ?_
      show Steps p.tables e below (T13.setTop (mkF m 75 #[.val (.int f), .val (.int x1), .val (.int y1), .val (.int (own_bit f (1 : Int32))), .val (.int (own_bit f (2 : Int32))), .val (.int (own_max (1 : Int32) (x1 &&& (2147483647 : Int32)))), .val (.int m2), .val (.int (((f.toUInt32 >>> ((3 : Int32) &&& 31).toUInt32).toInt32) &&& (3 : Int32))), .val (.ref b12), .unset, .unset] [])) tt
      refine st14 _ ?_
      show Steps p.tables e below (T14.setTop (mkF m 78 #[.val (.int f), .val (.int x1), .val (.int y1), .val (.int (own_bit f (1 : Int32))), .val (.int (own_bit f (2 : Int32))), .val (.int (own_max (1 : Int32) (x1 &&& (2147483647 : Int32)))), .val (.int m2), .val (.int (((f.toUInt32 >>> ((3 : Int32) &&& 31).toUInt32).toInt32) &&& (3 : Int32))), .val (.ref b12), .unset, .unset] [(.ref b14)])) tt
      refine XS.dup X14.here hx rfl (hb hby at_78) rfl rfl ?_
      show Steps p.tables e below (T14.setTop (mkF m 79 #[.val (.int f), .val (.int x1), .val (.int y1), .val (.int (own_bit f (1 : Int32))), .val (.int (own_bit f (2 : Int32))), .val (.int (own_max (1 : Int32) (x1 &&& (2147483647 : Int32)))), .val (.int m2), .val (.int (((f.toUInt32 >>> ((3 : Int32) &&& 31).toUInt32).toInt32) &&& (3 : Int32))), .val (.ref b12), .unset, .unset] [(.ref b14), (.ref b14)])) tt
      refine XS.iload X14.here hx rfl (hb hby at_79) rfl ?_
      show Steps p.tables e below (T14.setTop (mkF m 81 #[.val (.int f), .val (.int x1), .val (.int y1), .val (.int (own_bit f (1 : Int32))), .val (.int (own_bit f (2 : Int32))), .val (.int (own_max (1 : Int32) (x1 &&& (2147483647 : Int32)))), .val (.int m2), .val (.int (((f.toUInt32 >>> ((3 : Int32) &&& 31).toUInt32).toInt32) &&& (3 : Int32))), .val (.ref b12), .unset, .unset] [(.int (own_bit f (2 : Int32))), (.ref b14), (.ref b14)])) tt
      refine XS.iload X14.here hx rfl (hb hby at_81) rfl ?_
      show Steps p.tables e below (T14.setTop (mkF m 83 #[.val (.int f), .val (.int x1), .val (.int y1), .val (.int (own_bit f (1 : Int32))), .val (.int (own_bit f (2 : Int32))), .val (.int (own_max (1 : Int32) (x1 &&& (2147483647 : Int32)))), .val (.int m2), .val (.int (((f.toUInt32 >>> ((3 : Int32) &&& 31).toUInt32).toInt32) &&& (3 : Int32))), .val (.ref b12), .unset, .unset] [(.int m2), (.int (own_bit f (2 : Int32))), (.ref b14), (.ref b14)])) tt
      refine st15.trans ?_
      show Steps p.tables e below (T15.setTop (mkF m 86 #[.val (.int f), .val (.int x1), .val (.int y1), .val (.int (own_bit f (1 : Int32))), .val (.int (own_bit f (2 : Int32))), .val (.int (own_max (1 : Int32) (x1 &&& (2147483647 : Int32)))), .val (.int m2), .val (.int (((f.toUInt32 >>> ((3 : Int32) &&& 31).toUInt32).toInt32) &&& (3 : Int32))), .val (.ref b12), .unset, .unset] [(.ref b14)])) tt
      refine XS.astore X15.here hx rfl (hb hby at_86) rfl rfl (l' := #[.val (.int f), .val (.int x1), .val (.int y1), .val (.int (own_bit f (1 : Int32))), .val (.int (own_bit f (2 : Int32))), .val (.int (own_max (1 : Int32) (x1 &&& (2147483647 : Int32)))), .val (.int m2), .val (.int (((f.toUInt32 >>> ((3 : Int32) &&& 31).toUInt32).toInt32) &&& (3 : Int32))), .val (.ref b12), .val (.ref b14), .unset]) rfl ?_
      show Steps p.tables e below (T15.setTop (mkF m 88 #[.val (.int f), .val (.int x1), .val (.int y1), .val (.int (own_bit f (1 : Int32))), .val (.int (own_bit f (2 : Int32))), .val (.int (own_max (1 : Int32) (x1 &&& (2147483647 : Int32)))), .val (.int m2), .val (.int (((f.toUInt32 >>> ((3 : Int32) &&& 31).toUInt32).toInt32) &&& (3 : Int32))), .val (.ref b12), .val (.ref b14), .unset] [])) tt
      refine XS.aload X15.here hx rfl (hb hby at_88) rfl rfl ?_
      show Steps p.tables e below (T15.setTop (mkF m 90 #[.val (.int f), .val (.int x1), .val (.int y1), .val (.int (own_bit f (1 : Int32))), .val (.int (own_bit f (2 : Int32))), .val (.int (own_max (1 : Int32) (x1 &&& (2147483647 : Int32)))), .val (.int m2), .val (.int (((f.toUInt32 >>> ((3 : Int32) &&& 31).toUInt32).toInt32) &&& (3 : Int32))), .val (.ref b12), .val (.ref b14), .unset] [(.ref b12)])) tt
      refine XS.aload X15.here hx rfl (hb hby at_90) rfl rfl ?_
      show Steps p.tables e below (T15.setTop (mkF m 92 #[.val (.int f), .val (.int x1), .val (.int y1), .val (.int (own_bit f (1 : Int32))), .val (.int (own_bit f (2 : Int32))), .val (.int (own_max (1 : Int32) (x1 &&& (2147483647 : Int32)))), .val (.int m2), .val (.int (((f.toUInt32 >>> ((3 : Int32) &&& 31).toUInt32).toInt32) &&& (3 : Int32))), .val (.ref b12), .val (.ref b14), .unset] [(.ref b12), (.ref b12)])) tt
      refine st16.trans ?_
      show Steps p.tables e below (T16.setTop (mkF m 95 #[.val (.int f), .val (.int x1), .val (.int y1), .val (.int (own_bit f (1 : Int32))), .val (.int (own_bit f (2 : Int32))), .val (.int (own_max (1 : Int32) (x1 &&& (2147483647 : Int32)))), .val (.int m2), .val (.int (((f.toUInt32 >>> ((3 : Int32) &&& 31).toUInt32).toInt32) &&& (3 : Int32))), .val (.ref b12), .val (.ref b14), .unset] [(.int (1 : Int32))])) tt
      refine XS.ifYes X16.here hx rfl (pc0 := 95) (pc' := 100) rfl (hb hby at_95) rfl ((if0 _ _).trans (feq (by decide : ¬ ((1 : Int32) = (0 : Int32)))).2) (by decide) (by decide) ?_
      show Steps p.tables e below (T16.setTop (mkF m 100 #[.val (.int f), .val (.int x1), .val (.int y1), .val (.int (own_bit f (1 : Int32))), .val (.int (own_bit f (2 : Int32))), .val (.int (own_max (1 : Int32) (x1 &&& (2147483647 : Int32)))), .val (.int m2), .val (.int (((f.toUInt32 >>> ((3 : Int32) &&& 31).toUInt32).toInt32) &&& (3 : Int32))), .val (.ref b12), .val (.ref b14), .unset] [])) tt
      refine XS.iload X16.here hx rfl (hb hby at_100) rfl ?_
      show Steps p.tables e below (T16.setTop (mkF m 102 #[.val (.int f), .val (.int x1), .val (.int y1), .val (.int (own_bit f (1 : Int32))), .val (.int (own_bit f (2 : Int32))), .val (.int (own_max (1 : Int32) (x1 &&& (2147483647 : Int32)))), .val (.int m2), .val (.int (((f.toUInt32 >>> ((3 : Int32) &&& 31).toUInt32).toInt32) &&& (3 : Int32))), .val (.ref b12), .val (.ref b14), .unset] [(.int (((f.toUInt32 >>> ((3 : Int32) &&& 31).toUInt32).toInt32) &&& (3 : Int32)))])) tt
      refine XS.iconst X16.here hx rfl (hb hby at_102) ?_
      exact kk
    by_cases c103_20 : (((f.toUInt32 >>> ((3 : Int32) &&& 31).toUInt32).toInt32) &&& (3 : Int32)) = (1 : Int32)
    · obtain ⟨cq21, kq21, q21a, q21b, q21c⟩ := isOf hZ hh16 ((Exa.ext E14 (A12.keep K13)).keep K15)
      obtain ⟨_, _, ⟨T21, L21, ka21, na21⟩, -, X21, ⟨Lc21, hQ21, l21, y21, z21⟩, st21⟩ := X16.virtualBack hx (y := (⟨"com/example/curb_queries/curbqueries/statistics/StatisticsSettings", "equals", "(Ljava/lang/Object;)Z"⟩ : MethodName)) (z := (⟨"com/example/curb_queries/curbqueries/statistics/StatisticsSettings", "equals", "(Ljava/lang/Object;)Z"⟩ : MethodName)) hown (mvT hZ (hw _ (List.mem_of_getElem? (i := 18) rfl))) (mvT hZ (hw _ (List.mem_of_getElem? (i := 19) rfl))) (notFace_of_selects (args := #[]) (mvT hZ (hw _ (List.mem_of_getElem? (i := 21) rfl)))) (mvT hZ (hw _ (List.mem_of_getElem? (i := 21) rfl))) (mvT hZ (hw _ (List.mem_of_getElem? (i := 20) rfl))) (by decide) (backOf (W := 0) (own_rmEn l Z a0 hw [] b12 T15.heap n0 Z15) hZ (hw _ (List.mem_of_getElem? (i := 22) rfl)) (hw _ (List.mem_of_getElem? (i := 7) rfl)) (by decide) (by decide)) q21a q21c (g := (mkF m 109 #[.val (.int f), .val (.int x1), .val (.int y1), .val (.int (own_bit f (1 : Int32))), .val (.int (own_bit f (2 : Int32))), .val (.int (own_max (1 : Int32) (x1 &&& (2147483647 : Int32)))), .val (.int m2), .val (.int (((f.toUInt32 >>> ((3 : Int32) &&& 31).toUInt32).toInt32) &&& (3 : Int32))), .val (.ref b12), .val (.ref b14), .unset] [.null, (.ref b12)])) rfl (by rw [hml]; rfl) (Steps.refl _) (argsL := [.null]) (rest := []) (lenOf own_pd__Ljava_lang_Object__Z rfl) rfl (by show 2 * 0 + _ ≤ _; exact Nat.le_of_eq rfl) (hb hby at_109) (fun _ _ => ⟨rfl, hh16, (by decide : 2 + 0 ≤ _), (by decide : 4 + 0 ≤ _)⟩)
      dsimp only [Pt.U, Pt.locs, Pt.cells, Pt.slots] at X21 l21 y21 z21 st21 hQ21
      subst l21 y21 z21
      obtain ⟨rfl, Nq21, hh21⟩ := hQ21
      have N21 := Fr.app N16 Nq21
      have k22 : ∀ tt, Steps p.tables e below (T21.setTop (mkF m 120 #[.val (.int f), .val (.int x1), .val (.int y1), .val (.int (own_bit f (1 : Int32))), .val (.int (own_bit f (2 : Int32))), .val (.int (own_max (1 : Int32) (x1 &&& (2147483647 : Int32)))), .val (.int m2), .val (.int (((f.toUInt32 >>> ((3 : Int32) &&& 31).toUInt32).toInt32) &&& (3 : Int32))), .val (.ref b12), .val (.ref b14), .unset] [(.int (1 : Int32))])) tt → Steps p.tables e below (s₁.setTop (entryFrame m #[(.int f), (.int x1), (.int y1)] maxLocals)) tt := by
        intro tt kk
        refine k19 tt ?_
        show Steps p.tables e below (T16.setTop (mkF m 103 #[.val (.int f), .val (.int x1), .val (.int y1), .val (.int (own_bit f (1 : Int32))), .val (.int (own_bit f (2 : Int32))), .val (.int (own_max (1 : Int32) (x1 &&& (2147483647 : Int32)))), .val (.int m2), .val (.int (((f.toUInt32 >>> ((3 : Int32) &&& 31).toUInt32).toInt32) &&& (3 : Int32))), .val (.ref b12), .val (.ref b14), .unset] [(.int (1 : Int32)), (.int (((f.toUInt32 >>> ((3 : Int32) &&& 31).toUInt32).toInt32) &&& (3 : Int32)))])) tt
        refine XS.icmpNo X16.here hx rfl (hb hby at_103) rfl (teq (c103_20 : (((f.toUInt32 >>> ((3 : Int32) &&& 31).toUInt32).toInt32) &&& (3 : Int32)) = (1 : Int32))).2 ?_
        show Steps p.tables e below (T16.setTop (mkF m 106 #[.val (.int f), .val (.int x1), .val (.int y1), .val (.int (own_bit f (1 : Int32))), .val (.int (own_bit f (2 : Int32))), .val (.int (own_max (1 : Int32) (x1 &&& (2147483647 : Int32)))), .val (.int m2), .val (.int (((f.toUInt32 >>> ((3 : Int32) &&& 31).toUInt32).toInt32) &&& (3 : Int32))), .val (.ref b12), .val (.ref b14), .unset] [])) tt
        refine XS.aload X16.here hx rfl (hb hby at_106) rfl rfl ?_
        show Steps p.tables e below (T16.setTop (mkF m 108 #[.val (.int f), .val (.int x1), .val (.int y1), .val (.int (own_bit f (1 : Int32))), .val (.int (own_bit f (2 : Int32))), .val (.int (own_max (1 : Int32) (x1 &&& (2147483647 : Int32)))), .val (.int m2), .val (.int (((f.toUInt32 >>> ((3 : Int32) &&& 31).toUInt32).toInt32) &&& (3 : Int32))), .val (.ref b12), .val (.ref b14), .unset] [(.ref b12)])) tt
        refine XS.aconstNull X16.here hx rfl (hb hby at_108) ?_
        show Steps p.tables e below (T16.setTop (mkF m 109 #[.val (.int f), .val (.int x1), .val (.int y1), .val (.int (own_bit f (1 : Int32))), .val (.int (own_bit f (2 : Int32))), .val (.int (own_max (1 : Int32) (x1 &&& (2147483647 : Int32)))), .val (.int m2), .val (.int (((f.toUInt32 >>> ((3 : Int32) &&& 31).toUInt32).toInt32) &&& (3 : Int32))), .val (.ref b12), .val (.ref b14), .unset] [.null, (.ref b12)])) tt
        refine st21.trans ?_
        show Steps p.tables e below (T21.setTop (mkF m 112 #[.val (.int f), .val (.int x1), .val (.int y1), .val (.int (own_bit f (1 : Int32))), .val (.int (own_bit f (2 : Int32))), .val (.int (own_max (1 : Int32) (x1 &&& (2147483647 : Int32)))), .val (.int m2), .val (.int (((f.toUInt32 >>> ((3 : Int32) &&& 31).toUInt32).toInt32) &&& (3 : Int32))), .val (.ref b12), .val (.ref b14), .unset] [(.int (0 : Int32))])) tt
        refine XS.ifNo X21.here hx rfl (hb hby at_112) rfl ((if0 _ _).trans (teq (by decide : (0 : Int32) = (0 : Int32))).2) ?_
        show Steps p.tables e below (T21.setTop (mkF m 115 #[.val (.int f), .val (.int x1), .val (.int y1), .val (.int (own_bit f (1 : Int32))), .val (.int (own_bit f (2 : Int32))), .val (.int (own_max (1 : Int32) (x1 &&& (2147483647 : Int32)))), .val (.int m2), .val (.int (((f.toUInt32 >>> ((3 : Int32) &&& 31).toUInt32).toInt32) &&& (3 : Int32))), .val (.ref b12), .val (.ref b14), .unset] [])) tt
        refine XS.iconst X21.here hx rfl (hb hby at_115) ?_
        show Steps p.tables e below (T21.setTop (mkF m 116 #[.val (.int f), .val (.int x1), .val (.int y1), .val (.int (own_bit f (1 : Int32))), .val (.int (own_bit f (2 : Int32))), .val (.int (own_max (1 : Int32) (x1 &&& (2147483647 : Int32)))), .val (.int m2), .val (.int (((f.toUInt32 >>> ((3 : Int32) &&& 31).toUInt32).toInt32) &&& (3 : Int32))), .val (.ref b12), .val (.ref b14), .unset] [(.int (1 : Int32))])) tt
        refine XS.goto X21.here hx rfl (pc0 := 116) (pc' := 120) rfl (hb hby at_116) (by decide) (by decide) ?_
        exact kk
      obtain ⟨fs, hr, hrun, hended, hW, hsame⟩ := X21.leave (v := some (.int (1 : Int32))) (fun hq => by rw [Bd.returns] at hq; cases hq)
      refine ⟨_, _, k22 _ ?_, hrun, hended, _, _, rfl, ?_, ⟨_, rfl⟩, hW, hsame.mono (by decide) (by decide)⟩
      · show Steps p.tables e below (T21.setTop (mkF m 120 #[.val (.int f), .val (.int x1), .val (.int y1), .val (.int (own_bit f (1 : Int32))), .val (.int (own_bit f (2 : Int32))), .val (.int (own_max (1 : Int32) (x1 &&& (2147483647 : Int32)))), .val (.int m2), .val (.int (((f.toUInt32 >>> ((3 : Int32) &&& 31).toUInt32).toInt32) &&& (3 : Int32))), .val (.ref b12), .val (.ref b14), .unset] [(.int (1 : Int32))])) _
        exact retN X21 hx (t := .boolean) Bd.returns (by simp) (hb hby at_120) hr
      · show (fun (v : Option Value) (h : Heap) (L : List Loc) => v = some (.int (1 : Int32)) ∧ Fr n0 L) _ T21.heap _
        rw [hh21]
        dsimp only
        exact ⟨rfl, N21⟩
    · have k23 : ∀ tt, Steps p.tables e below (T16.setTop (mkF m 124 #[.val (.int f), .val (.int x1), .val (.int y1), .val (.int (own_bit f (1 : Int32))), .val (.int (own_bit f (2 : Int32))), .val (.int (own_max (1 : Int32) (x1 &&& (2147483647 : Int32)))), .val (.int m2), .val (.int (((f.toUInt32 >>> ((3 : Int32) &&& 31).toUInt32).toInt32) &&& (3 : Int32))), .val (.ref b12), .val (.ref b14), .unset] [(.int (2 : Int32)), (.int (((f.toUInt32 >>> ((3 : Int32) &&& 31).toUInt32).toInt32) &&& (3 : Int32)))])) tt → Steps p.tables e below (s₁.setTop (entryFrame m #[(.int f), (.int x1), (.int y1)] maxLocals)) tt := by
        intro tt kk
        refine k19 tt ?_
        show Steps p.tables e below (T16.setTop (mkF m 103 #[.val (.int f), .val (.int x1), .val (.int y1), .val (.int (own_bit f (1 : Int32))), .val (.int (own_bit f (2 : Int32))), .val (.int (own_max (1 : Int32) (x1 &&& (2147483647 : Int32)))), .val (.int m2), .val (.int (((f.toUInt32 >>> ((3 : Int32) &&& 31).toUInt32).toInt32) &&& (3 : Int32))), .val (.ref b12), .val (.ref b14), .unset] [(.int (1 : Int32)), (.int (((f.toUInt32 >>> ((3 : Int32) &&& 31).toUInt32).toInt32) &&& (3 : Int32)))])) tt
        refine XS.icmpYes X16.here hx rfl (pc0 := 103) (pc' := 121) rfl (hb hby at_103) rfl (feq (c103_20 : ¬ ((((f.toUInt32 >>> ((3 : Int32) &&& 31).toUInt32).toInt32) &&& (3 : Int32)) = (1 : Int32)))).2 (by decide) (by decide) ?_
        show Steps p.tables e below (T16.setTop (mkF m 121 #[.val (.int f), .val (.int x1), .val (.int y1), .val (.int (own_bit f (1 : Int32))), .val (.int (own_bit f (2 : Int32))), .val (.int (own_max (1 : Int32) (x1 &&& (2147483647 : Int32)))), .val (.int m2), .val (.int (((f.toUInt32 >>> ((3 : Int32) &&& 31).toUInt32).toInt32) &&& (3 : Int32))), .val (.ref b12), .val (.ref b14), .unset] [])) tt
        refine XS.iload X16.here hx rfl (hb hby at_121) rfl ?_
        show Steps p.tables e below (T16.setTop (mkF m 123 #[.val (.int f), .val (.int x1), .val (.int y1), .val (.int (own_bit f (1 : Int32))), .val (.int (own_bit f (2 : Int32))), .val (.int (own_max (1 : Int32) (x1 &&& (2147483647 : Int32)))), .val (.int m2), .val (.int (((f.toUInt32 >>> ((3 : Int32) &&& 31).toUInt32).toInt32) &&& (3 : Int32))), .val (.ref b12), .val (.ref b14), .unset] [(.int (((f.toUInt32 >>> ((3 : Int32) &&& 31).toUInt32).toInt32) &&& (3 : Int32)))])) tt
        refine XS.iconst X16.here hx rfl (hb hby at_123) ?_
        exact kk
      by_cases c124_24 : (((f.toUInt32 >>> ((3 : Int32) &&& 31).toUInt32).toInt32) &&& (3 : Int32)) = (2 : Int32)
      · obtain ⟨_, _, ⟨T25, L25, ka25, na25⟩, -, X25, ⟨Lc25, hQ25, l25, y25, z25⟩, st25⟩ := Jvm.LawKit.callS X16 hx (y := (⟨"java/lang/Integer", "valueOf", "(I)Ljava/lang/Integer;"⟩ : MethodName)) hown (mvT hZ (hw _ (List.mem_of_getElem? (i := 25) rfl))) (mvT hZ (hw _ (List.mem_of_getElem? (i := 26) rfl))) (mvT hZ (hw _ (List.mem_of_getElem? (i := 27) rfl))) (mvT hZ (hw _ (List.mem_of_getElem? (i := 28) rfl))) (by decide) (backOf (W := 0) (own_rmV l Z a0 hw [] (own_max (1 : Int32) (x1 &&& (2147483647 : Int32))) wC cC T15.heap n0 Z15 (own_sta_keep0 S_H Kt15) (own_sta_keep0 S_C Kt15) ⟨Kt15.2.1 _ _ A_C.1 nin0, A_C.2⟩ z_C (fun i q => (h_C i q).imp fun b z => ⟨z.1, z.2.keep Kt15⟩) (own_max_pos _)) hZ (hw _ (List.mem_of_getElem? (i := 28) rfl)) (hw _ (List.mem_of_getElem? (i := 27) rfl)) (by decide) (by decide)) (g := (mkF m 129 #[.val (.int f), .val (.int x1), .val (.int y1), .val (.int (own_bit f (1 : Int32))), .val (.int (own_bit f (2 : Int32))), .val (.int (own_max (1 : Int32) (x1 &&& (2147483647 : Int32)))), .val (.int m2), .val (.int (((f.toUInt32 >>> ((3 : Int32) &&& 31).toUInt32).toInt32) &&& (3 : Int32))), .val (.ref b12), .val (.ref b14), .unset] [(.int (own_max (1 : Int32) (x1 &&& (2147483647 : Int32))))])) rfl (by rw [hml]; rfl) (argsL := [(.int (own_max (1 : Int32) (x1 &&& (2147483647 : Int32))))]) (rest := []) (lenOf own_pd__I_Ljava_lang_Integer_ rfl) rfl (by show 2 * 0 + _ ≤ _; exact Nat.le_of_eq rfl) (hb hby at_129) (fun _ _ => ⟨rfl, hh16, (by decide : 2 + 1 ≤ _), (by decide : 4 + 1 ≤ _)⟩)
        dsimp only [Pt.U, Pt.locs, Pt.cells, Pt.slots] at X25 l25 y25 z25 st25 hQ25
        subst l25 y25 z25
        obtain ⟨bl25, rfl, Nq25, K25, Ex25⟩ := hQ25
        have N25 := Fr.app N16 Nq25
        have Z25 : n0 ≤ T25.heap.size := Nat.le_trans Z15 K25.1
        have Kt25 := Keep.trans Kt15 K25 all0
        obtain ⟨cq26, kq26, q26a, q26b, q26c⟩ := isOf hZ rfl (((Exa.ext E14 (A12.keep K13)).keep K15).keep K25)
        obtain ⟨_, _, ⟨T26, L26, ka26, na26⟩, -, X26, ⟨Lc26, hQ26, l26, y26, z26⟩, st26⟩ := X25.virtualBack hx (y := (⟨"com/example/curb_queries/curbqueries/statistics/StatisticsSettings", "equals", "(Ljava/lang/Object;)Z"⟩ : MethodName)) (z := (⟨"com/example/curb_queries/curbqueries/statistics/StatisticsSettings", "equals", "(Ljava/lang/Object;)Z"⟩ : MethodName)) hown (mvT hZ (hw _ (List.mem_of_getElem? (i := 18) rfl))) (mvT hZ (hw _ (List.mem_of_getElem? (i := 19) rfl))) (notFace_of_selects (args := #[]) (mvT hZ (hw _ (List.mem_of_getElem? (i := 21) rfl)))) (mvT hZ (hw _ (List.mem_of_getElem? (i := 21) rfl))) (mvT hZ (hw _ (List.mem_of_getElem? (i := 20) rfl))) (by decide) (backOf (W := 0) (own_rmEx l Z a0 hw [] b12 bl25 T25.heap n0 Z25 Ex25) hZ (hw _ (List.mem_of_getElem? (i := 22) rfl)) (hw _ (List.mem_of_getElem? (i := 7) rfl)) (by decide) (by decide)) q26a q26c (g := (mkF m 138 #[.val (.int f), .val (.int x1), .val (.int y1), .val (.int (own_bit f (1 : Int32))), .val (.int (own_bit f (2 : Int32))), .val (.int (own_max (1 : Int32) (x1 &&& (2147483647 : Int32)))), .val (.int m2), .val (.int (((f.toUInt32 >>> ((3 : Int32) &&& 31).toUInt32).toInt32) &&& (3 : Int32))), .val (.ref b12), .val (.ref b14), .val (.ref bl25)] [(.ref bl25), (.ref b12)])) rfl (by rw [hml]; rfl) (Steps.refl _) (argsL := [(.ref bl25)]) (rest := []) (lenOf own_pd__Ljava_lang_Object__Z rfl) rfl (by show 2 * 0 + _ ≤ _; exact Nat.le_of_eq rfl) (hb hby at_138) (fun _ _ => ⟨rfl, rfl, (by decide : 3 + 0 ≤ _), (by decide : 5 + 0 ≤ _)⟩)
        dsimp only [Pt.U, Pt.locs, Pt.cells, Pt.slots] at X26 l26 y26 z26 st26 hQ26
        subst l26 y26 z26
        obtain ⟨rfl, Nq26, hh26⟩ := hQ26
        have N26 := Fr.app N25 Nq26
        have k27 : ∀ tt, Steps p.tables e below (T26.setTop (mkF m 149 #[.val (.int f), .val (.int x1), .val (.int y1), .val (.int (own_bit f (1 : Int32))), .val (.int (own_bit f (2 : Int32))), .val (.int (own_max (1 : Int32) (x1 &&& (2147483647 : Int32)))), .val (.int m2), .val (.int (((f.toUInt32 >>> ((3 : Int32) &&& 31).toUInt32).toInt32) &&& (3 : Int32))), .val (.ref b12), .val (.ref b14), .val (.ref bl25)] [(.int (1 : Int32))])) tt → Steps p.tables e below (s₁.setTop (entryFrame m #[(.int f), (.int x1), (.int y1)] maxLocals)) tt := by
          intro tt kk
          refine k23 tt ?_
          show Steps p.tables e below (T16.setTop (mkF m 124 #[.val (.int f), .val (.int x1), .val (.int y1), .val (.int (own_bit f (1 : Int32))), .val (.int (own_bit f (2 : Int32))), .val (.int (own_max (1 : Int32) (x1 &&& (2147483647 : Int32)))), .val (.int m2), .val (.int (((f.toUInt32 >>> ((3 : Int32) &&& 31).toUInt32).toInt32) &&& (3 : Int32))), .val (.ref b12), .val (.ref b14), .unset] [(.int (2 : Int32)), (.int (((f.toUInt32 >>> ((3 : Int32) &&& 31).toUInt32).toInt32) &&& (3 : Int32)))])) tt
          refine XS.icmpNo X16.here hx rfl (hb hby at_124) rfl (teq (c124_24 : (((f.toUInt32 >>> ((3 : Int32) &&& 31).toUInt32).toInt32) &&& (3 : Int32)) = (2 : Int32))).2 ?_
          show Steps p.tables e below (T16.setTop (mkF m 127 #[.val (.int f), .val (.int x1), .val (.int y1), .val (.int (own_bit f (1 : Int32))), .val (.int (own_bit f (2 : Int32))), .val (.int (own_max (1 : Int32) (x1 &&& (2147483647 : Int32)))), .val (.int m2), .val (.int (((f.toUInt32 >>> ((3 : Int32) &&& 31).toUInt32).toInt32) &&& (3 : Int32))), .val (.ref b12), .val (.ref b14), .unset] [])) tt
          refine XS.iload X16.here hx rfl (hb hby at_127) rfl ?_
          show Steps p.tables e below (T16.setTop (mkF m 129 #[.val (.int f), .val (.int x1), .val (.int y1), .val (.int (own_bit f (1 : Int32))), .val (.int (own_bit f (2 : Int32))), .val (.int (own_max (1 : Int32) (x1 &&& (2147483647 : Int32)))), .val (.int m2), .val (.int (((f.toUInt32 >>> ((3 : Int32) &&& 31).toUInt32).toInt32) &&& (3 : Int32))), .val (.ref b12), .val (.ref b14), .unset] [(.int (own_max (1 : Int32) (x1 &&& (2147483647 : Int32))))])) tt
          refine st25 _ ?_
          show Steps p.tables e below (T25.setTop (mkF m 132 #[.val (.int f), .val (.int x1), .val (.int y1), .val (.int (own_bit f (1 : Int32))), .val (.int (own_bit f (2 : Int32))), .val (.int (own_max (1 : Int32) (x1 &&& (2147483647 : Int32)))), .val (.int m2), .val (.int (((f.toUInt32 >>> ((3 : Int32) &&& 31).toUInt32).toInt32) &&& (3 : Int32))), .val (.ref b12), .val (.ref b14), .unset] [(.ref bl25)])) tt
          refine XS.astore X25.here hx rfl (hb hby at_132) rfl rfl (l' := #[.val (.int f), .val (.int x1), .val (.int y1), .val (.int (own_bit f (1 : Int32))), .val (.int (own_bit f (2 : Int32))), .val (.int (own_max (1 : Int32) (x1 &&& (2147483647 : Int32)))), .val (.int m2), .val (.int (((f.toUInt32 >>> ((3 : Int32) &&& 31).toUInt32).toInt32) &&& (3 : Int32))), .val (.ref b12), .val (.ref b14), .val (.ref bl25)]) rfl ?_
          show Steps p.tables e below (T25.setTop (mkF m 134 #[.val (.int f), .val (.int x1), .val (.int y1), .val (.int (own_bit f (1 : Int32))), .val (.int (own_bit f (2 : Int32))), .val (.int (own_max (1 : Int32) (x1 &&& (2147483647 : Int32)))), .val (.int m2), .val (.int (((f.toUInt32 >>> ((3 : Int32) &&& 31).toUInt32).toInt32) &&& (3 : Int32))), .val (.ref b12), .val (.ref b14), .val (.ref bl25)] [])) tt
          refine XS.aload X25.here hx rfl (hb hby at_134) rfl rfl ?_
          show Steps p.tables e below (T25.setTop (mkF m 136 #[.val (.int f), .val (.int x1), .val (.int y1), .val (.int (own_bit f (1 : Int32))), .val (.int (own_bit f (2 : Int32))), .val (.int (own_max (1 : Int32) (x1 &&& (2147483647 : Int32)))), .val (.int m2), .val (.int (((f.toUInt32 >>> ((3 : Int32) &&& 31).toUInt32).toInt32) &&& (3 : Int32))), .val (.ref b12), .val (.ref b14), .val (.ref bl25)] [(.ref b12)])) tt
          refine XS.aload X25.here hx rfl (hb hby at_136) rfl rfl ?_
          show Steps p.tables e below (T25.setTop (mkF m 138 #[.val (.int f), .val (.int x1), .val (.int y1), .val (.int (own_bit f (1 : Int32))), .val (.int (own_bit f (2 : Int32))), .val (.int (own_max (1 : Int32) (x1 &&& (2147483647 : Int32)))), .val (.int m2), .val (.int (((f.toUInt32 >>> ((3 : Int32) &&& 31).toUInt32).toInt32) &&& (3 : Int32))), .val (.ref b12), .val (.ref b14), .val (.ref bl25)] [(.ref bl25), (.ref b12)])) tt
          refine st26.trans ?_
          show Steps p.tables e below (T26.setTop (mkF m 141 #[.val (.int f), .val (.int x1), .val (.int y1), .val (.int (own_bit f (1 : Int32))), .val (.int (own_bit f (2 : Int32))), .val (.int (own_max (1 : Int32) (x1 &&& (2147483647 : Int32)))), .val (.int m2), .val (.int (((f.toUInt32 >>> ((3 : Int32) &&& 31).toUInt32).toInt32) &&& (3 : Int32))), .val (.ref b12), .val (.ref b14), .val (.ref bl25)] [(.int (0 : Int32))])) tt
          refine XS.ifNo X26.here hx rfl (hb hby at_141) rfl ((if0 _ _).trans (teq (by decide : (0 : Int32) = (0 : Int32))).2) ?_
          show Steps p.tables e below (T26.setTop (mkF m 144 #[.val (.int f), .val (.int x1), .val (.int y1), .val (.int (own_bit f (1 : Int32))), .val (.int (own_bit f (2 : Int32))), .val (.int (own_max (1 : Int32) (x1 &&& (2147483647 : Int32)))), .val (.int m2), .val (.int (((f.toUInt32 >>> ((3 : Int32) &&& 31).toUInt32).toInt32) &&& (3 : Int32))), .val (.ref b12), .val (.ref b14), .val (.ref bl25)] [])) tt
          refine XS.iconst X26.here hx rfl (hb hby at_144) ?_
          show Steps p.tables e below (T26.setTop (mkF m 145 #[.val (.int f), .val (.int x1), .val (.int y1), .val (.int (own_bit f (1 : Int32))), .val (.int (own_bit f (2 : Int32))), .val (.int (own_max (1 : Int32) (x1 &&& (2147483647 : Int32)))), .val (.int m2), .val (.int (((f.toUInt32 >>> ((3 : Int32) &&& 31).toUInt32).toInt32) &&& (3 : Int32))), .val (.ref b12), .val (.ref b14), .val (.ref bl25)] [(.int (1 : Int32))])) tt
          refine XS.goto X26.here hx rfl (pc0 := 145) (pc' := 149) rfl (hb hby at_145) (by decide) (by decide) ?_
          exact kk
        obtain ⟨fs, hr, hrun, hended, hW, hsame⟩ := X26.leave (v := some (.int (1 : Int32))) (fun hq => by rw [Bd.returns] at hq; cases hq)
        refine ⟨_, _, k27 _ ?_, hrun, hended, _, _, rfl, ?_, ⟨_, rfl⟩, hW, hsame.mono (by decide) (by decide)⟩
        · show Steps p.tables e below (T26.setTop (mkF m 149 #[.val (.int f), .val (.int x1), .val (.int y1), .val (.int (own_bit f (1 : Int32))), .val (.int (own_bit f (2 : Int32))), .val (.int (own_max (1 : Int32) (x1 &&& (2147483647 : Int32)))), .val (.int m2), .val (.int (((f.toUInt32 >>> ((3 : Int32) &&& 31).toUInt32).toInt32) &&& (3 : Int32))), .val (.ref b12), .val (.ref b14), .val (.ref bl25)] [(.int (1 : Int32))])) _
          exact retN X26 hx (t := .boolean) Bd.returns (by simp) (hb hby at_149) hr
        · show (fun (v : Option Value) (h : Heap) (L : List Loc) => v = some (.int (1 : Int32)) ∧ Fr n0 L) _ T26.heap _
          rw [hh26]
          dsimp only
          exact ⟨rfl, N26⟩
      · have k28 : ∀ tt, Steps p.tables e below (T16.setTop (mkF m 150 #[.val (.int f), .val (.int x1), .val (.int y1), .val (.int (own_bit f (1 : Int32))), .val (.int (own_bit f (2 : Int32))), .val (.int (own_max (1 : Int32) (x1 &&& (2147483647 : Int32)))), .val (.int m2), .val (.int (((f.toUInt32 >>> ((3 : Int32) &&& 31).toUInt32).toInt32) &&& (3 : Int32))), .val (.ref b12), .val (.ref b14), .unset] [])) tt → Steps p.tables e below (s₁.setTop (entryFrame m #[(.int f), (.int x1), (.int y1)] maxLocals)) tt := by
          intro tt kk
          refine k23 tt ?_
          show Steps p.tables e below (T16.setTop (mkF m 124 #[.val (.int f), .val (.int x1), .val (.int y1), .val (.int (own_bit f (1 : Int32))), .val (.int (own_bit f (2 : Int32))), .val (.int (own_max (1 : Int32) (x1 &&& (2147483647 : Int32)))), .val (.int m2), .val (.int (((f.toUInt32 >>> ((3 : Int32) &&& 31).toUInt32).toInt32) &&& (3 : Int32))), .val (.ref b12), .val (.ref b14), .unset] [(.int (2 : Int32)), (.int (((f.toUInt32 >>> ((3 : Int32) &&& 31).toUInt32).toInt32) &&& (3 : Int32)))])) tt
          refine XS.icmpYes X16.here hx rfl (pc0 := 124) (pc' := 150) rfl (hb hby at_124) rfl (feq (c124_24 : ¬ ((((f.toUInt32 >>> ((3 : Int32) &&& 31).toUInt32).toInt32) &&& (3 : Int32)) = (2 : Int32)))).2 (by decide) (by decide) ?_
          exact kk
        have k29 : ∀ tt, Steps p.tables e below (T16.setTop (mkF m 168 #[.val (.int f), .val (.int x1), .val (.int y1), .val (.int (own_bit f (1 : Int32))), .val (.int (own_bit f (2 : Int32))), .val (.int (own_max (1 : Int32) (x1 &&& (2147483647 : Int32)))), .val (.int m2), .val (.int (((f.toUInt32 >>> ((3 : Int32) &&& 31).toUInt32).toInt32) &&& (3 : Int32))), .val (.ref b12), .val (.ref b14), .unset] [(.int (own_eq (own_bit f (1 : Int32)) (own_max (1 : Int32) (x1 &&& (2147483647 : Int32))) (own_bit f (2 : Int32)) m2))])) tt → Steps p.tables e below (s₁.setTop (entryFrame m #[(.int f), (.int x1), (.int y1)] maxLocals)) tt := by
          intro tt kk
          refine k28 tt ?_
          rcases (Decidable.em ((own_bit f (1 : Int32)) = (own_bit f (2 : Int32)))) with q1 | q1
          rcases (Decidable.em ((own_max (1 : Int32) (x1 &&& (2147483647 : Int32))) = m2)) with q2 | q2
          · rw [show own_eq (own_bit f (1 : Int32)) (own_max (1 : Int32) (x1 &&& (2147483647 : Int32))) (own_bit f (2 : Int32)) m2 = (1 : Int32) by simp [own_eq, q1, q2]] at kk
            show Steps p.tables e below (T16.setTop (mkF m 150 #[.val (.int f), .val (.int x1), .val (.int y1), .val (.int (own_bit f (1 : Int32))), .val (.int (own_bit f (2 : Int32))), .val (.int (own_max (1 : Int32) (x1 &&& (2147483647 : Int32)))), .val (.int m2), .val (.int (((f.toUInt32 >>> ((3 : Int32) &&& 31).toUInt32).toInt32) &&& (3 : Int32))), .val (.ref b12), .val (.ref b14), .unset] [])) tt
            refine XS.iloadN X16.here hx rfl (hb hby at_150) rfl ?_
            show Steps p.tables e below (T16.setTop (mkF m 151 #[.val (.int f), .val (.int x1), .val (.int y1), .val (.int (own_bit f (1 : Int32))), .val (.int (own_bit f (2 : Int32))), .val (.int (own_max (1 : Int32) (x1 &&& (2147483647 : Int32)))), .val (.int m2), .val (.int (((f.toUInt32 >>> ((3 : Int32) &&& 31).toUInt32).toInt32) &&& (3 : Int32))), .val (.ref b12), .val (.ref b14), .unset] [(.int (own_bit f (1 : Int32)))])) tt
            refine XS.iload X16.here hx rfl (hb hby at_151) rfl ?_
            show Steps p.tables e below (T16.setTop (mkF m 153 #[.val (.int f), .val (.int x1), .val (.int y1), .val (.int (own_bit f (1 : Int32))), .val (.int (own_bit f (2 : Int32))), .val (.int (own_max (1 : Int32) (x1 &&& (2147483647 : Int32)))), .val (.int m2), .val (.int (((f.toUInt32 >>> ((3 : Int32) &&& 31).toUInt32).toInt32) &&& (3 : Int32))), .val (.ref b12), .val (.ref b14), .unset] [(.int (own_bit f (2 : Int32))), (.int (own_bit f (1 : Int32)))])) tt
            refine XS.icmpNo X16.here hx rfl (hb hby at_153) rfl (teq (q1 : (own_bit f (1 : Int32)) = (own_bit f (2 : Int32)))).2 ?_
            show Steps p.tables e below (T16.setTop (mkF m 156 #[.val (.int f), .val (.int x1), .val (.int y1), .val (.int (own_bit f (1 : Int32))), .val (.int (own_bit f (2 : Int32))), .val (.int (own_max (1 : Int32) (x1 &&& (2147483647 : Int32)))), .val (.int m2), .val (.int (((f.toUInt32 >>> ((3 : Int32) &&& 31).toUInt32).toInt32) &&& (3 : Int32))), .val (.ref b12), .val (.ref b14), .unset] [])) tt
            refine XS.iload X16.here hx rfl (hb hby at_156) rfl ?_
            show Steps p.tables e below (T16.setTop (mkF m 158 #[.val (.int f), .val (.int x1), .val (.int y1), .val (.int (own_bit f (1 : Int32))), .val (.int (own_bit f (2 : Int32))), .val (.int (own_max (1 : Int32) (x1 &&& (2147483647 : Int32)))), .val (.int m2), .val (.int (((f.toUInt32 >>> ((3 : Int32) &&& 31).toUInt32).toInt32) &&& (3 : Int32))), .val (.ref b12), .val (.ref b14), .unset] [(.int (own_max (1 : Int32) (x1 &&& (2147483647 : Int32))))])) tt
            refine XS.iload X16.here hx rfl (hb hby at_158) rfl ?_
            show Steps p.tables e below (T16.setTop (mkF m 160 #[.val (.int f), .val (.int x1), .val (.int y1), .val (.int (own_bit f (1 : Int32))), .val (.int (own_bit f (2 : Int32))), .val (.int (own_max (1 : Int32) (x1 &&& (2147483647 : Int32)))), .val (.int m2), .val (.int (((f.toUInt32 >>> ((3 : Int32) &&& 31).toUInt32).toInt32) &&& (3 : Int32))), .val (.ref b12), .val (.ref b14), .unset] [(.int m2), (.int (own_max (1 : Int32) (x1 &&& (2147483647 : Int32))))])) tt
            refine XS.icmpNo X16.here hx rfl (hb hby at_160) rfl (teq (q2 : (own_max (1 : Int32) (x1 &&& (2147483647 : Int32))) = m2)).2 ?_
            show Steps p.tables e below (T16.setTop (mkF m 163 #[.val (.int f), .val (.int x1), .val (.int y1), .val (.int (own_bit f (1 : Int32))), .val (.int (own_bit f (2 : Int32))), .val (.int (own_max (1 : Int32) (x1 &&& (2147483647 : Int32)))), .val (.int m2), .val (.int (((f.toUInt32 >>> ((3 : Int32) &&& 31).toUInt32).toInt32) &&& (3 : Int32))), .val (.ref b12), .val (.ref b14), .unset] [])) tt
            refine XS.iconst X16.here hx rfl (hb hby at_163) ?_
            show Steps p.tables e below (T16.setTop (mkF m 164 #[.val (.int f), .val (.int x1), .val (.int y1), .val (.int (own_bit f (1 : Int32))), .val (.int (own_bit f (2 : Int32))), .val (.int (own_max (1 : Int32) (x1 &&& (2147483647 : Int32)))), .val (.int m2), .val (.int (((f.toUInt32 >>> ((3 : Int32) &&& 31).toUInt32).toInt32) &&& (3 : Int32))), .val (.ref b12), .val (.ref b14), .unset] [(.int (1 : Int32))])) tt
            refine XS.goto X16.here hx rfl (pc0 := 164) (pc' := 168) rfl (hb hby at_164) (by decide) (by decide) ?_
            exact kk
          · rw [show own_eq (own_bit f (1 : Int32)) (own_max (1 : Int32) (x1 &&& (2147483647 : Int32))) (own_bit f (2 : Int32)) m2 = (0 : Int32) by simp [own_eq, q2]] at kk
            show Steps p.tables e below (T16.setTop (mkF m 150 #[.val (.int f), .val (.int x1), .val (.int y1), .val (.int (own_bit f (1 : Int32))), .val (.int (own_bit f (2 : Int32))), .val (.int (own_max (1 : Int32) (x1 &&& (2147483647 : Int32)))), .val (.int m2), .val (.int (((f.toUInt32 >>> ((3 : Int32) &&& 31).toUInt32).toInt32) &&& (3 : Int32))), .val (.ref b12), .val (.ref b14), .unset] [])) tt
            refine XS.iloadN X16.here hx rfl (hb hby at_150) rfl ?_
            show Steps p.tables e below (T16.setTop (mkF m 151 #[.val (.int f), .val (.int x1), .val (.int y1), .val (.int (own_bit f (1 : Int32))), .val (.int (own_bit f (2 : Int32))), .val (.int (own_max (1 : Int32) (x1 &&& (2147483647 : Int32)))), .val (.int m2), .val (.int (((f.toUInt32 >>> ((3 : Int32) &&& 31).toUInt32).toInt32) &&& (3 : Int32))), .val (.ref b12), .val (.ref b14), .unset] [(.int (own_bit f (1 : Int32)))])) tt
            refine XS.iload X16.here hx rfl (hb hby at_151) rfl ?_
            show Steps p.tables e below (T16.setTop (mkF m 153 #[.val (.int f), .val (.int x1), .val (.int y1), .val (.int (own_bit f (1 : Int32))), .val (.int (own_bit f (2 : Int32))), .val (.int (own_max (1 : Int32) (x1 &&& (2147483647 : Int32)))), .val (.int m2), .val (.int (((f.toUInt32 >>> ((3 : Int32) &&& 31).toUInt32).toInt32) &&& (3 : Int32))), .val (.ref b12), .val (.ref b14), .unset] [(.int (own_bit f (2 : Int32))), (.int (own_bit f (1 : Int32)))])) tt
            refine XS.icmpNo X16.here hx rfl (hb hby at_153) rfl (teq (q1 : (own_bit f (1 : Int32)) = (own_bit f (2 : Int32)))).2 ?_
            show Steps p.tables e below (T16.setTop (mkF m 156 #[.val (.int f), .val (.int x1), .val (.int y1), .val (.int (own_bit f (1 : Int32))), .val (.int (own_bit f (2 : Int32))), .val (.int (own_max (1 : Int32) (x1 &&& (2147483647 : Int32)))), .val (.int m2), .val (.int (((f.toUInt32 >>> ((3 : Int32) &&& 31).toUInt32).toInt32) &&& (3 : Int32))), .val (.ref b12), .val (.ref b14), .unset] [])) tt
            refine XS.iload X16.here hx rfl (hb hby at_156) rfl ?_
            show Steps p.tables e below (T16.setTop (mkF m 158 #[.val (.int f), .val (.int x1), .val (.int y1), .val (.int (own_bit f (1 : Int32))), .val (.int (own_bit f (2 : Int32))), .val (.int (own_max (1 : Int32) (x1 &&& (2147483647 : Int32)))), .val (.int m2), .val (.int (((f.toUInt32 >>> ((3 : Int32) &&& 31).toUInt32).toInt32) &&& (3 : Int32))), .val (.ref b12), .val (.ref b14), .unset] [(.int (own_max (1 : Int32) (x1 &&& (2147483647 : Int32))))])) tt
            refine XS.iload X16.here hx rfl (hb hby at_158) rfl ?_
            show Steps p.tables e below (T16.setTop (mkF m 160 #[.val (.int f), .val (.int x1), .val (.int y1), .val (.int (own_bit f (1 : Int32))), .val (.int (own_bit f (2 : Int32))), .val (.int (own_max (1 : Int32) (x1 &&& (2147483647 : Int32)))), .val (.int m2), .val (.int (((f.toUInt32 >>> ((3 : Int32) &&& 31).toUInt32).toInt32) &&& (3 : Int32))), .val (.ref b12), .val (.ref b14), .unset] [(.int m2), (.int (own_max (1 : Int32) (x1 &&& (2147483647 : Int32))))])) tt
            refine XS.icmpYes X16.here hx rfl (pc0 := 160) (pc' := 167) rfl (hb hby at_160) rfl (feq (q2 : ¬ ((own_max (1 : Int32) (x1 &&& (2147483647 : Int32))) = m2))).2 (by decide) (by decide) ?_
            show Steps p.tables e below (T16.setTop (mkF m 167 #[.val (.int f), .val (.int x1), .val (.int y1), .val (.int (own_bit f (1 : Int32))), .val (.int (own_bit f (2 : Int32))), .val (.int (own_max (1 : Int32) (x1 &&& (2147483647 : Int32)))), .val (.int m2), .val (.int (((f.toUInt32 >>> ((3 : Int32) &&& 31).toUInt32).toInt32) &&& (3 : Int32))), .val (.ref b12), .val (.ref b14), .unset] [])) tt
            refine XS.iconst X16.here hx rfl (hb hby at_167) ?_
            exact kk
          · rw [show own_eq (own_bit f (1 : Int32)) (own_max (1 : Int32) (x1 &&& (2147483647 : Int32))) (own_bit f (2 : Int32)) m2 = (0 : Int32) by simp [own_eq, q1]] at kk
            show Steps p.tables e below (T16.setTop (mkF m 150 #[.val (.int f), .val (.int x1), .val (.int y1), .val (.int (own_bit f (1 : Int32))), .val (.int (own_bit f (2 : Int32))), .val (.int (own_max (1 : Int32) (x1 &&& (2147483647 : Int32)))), .val (.int m2), .val (.int (((f.toUInt32 >>> ((3 : Int32) &&& 31).toUInt32).toInt32) &&& (3 : Int32))), .val (.ref b12), .val (.ref b14), .unset] [])) tt
            refine XS.iloadN X16.here hx rfl (hb hby at_150) rfl ?_
            show Steps p.tables e below (T16.setTop (mkF m 151 #[.val (.int f), .val (.int x1), .val (.int y1), .val (.int (own_bit f (1 : Int32))), .val (.int (own_bit f (2 : Int32))), .val (.int (own_max (1 : Int32) (x1 &&& (2147483647 : Int32)))), .val (.int m2), .val (.int (((f.toUInt32 >>> ((3 : Int32) &&& 31).toUInt32).toInt32) &&& (3 : Int32))), .val (.ref b12), .val (.ref b14), .unset] [(.int (own_bit f (1 : Int32)))])) tt
            refine XS.iload X16.here hx rfl (hb hby at_151) rfl ?_
            show Steps p.tables e below (T16.setTop (mkF m 153 #[.val (.int f), .val (.int x1), .val (.int y1), .val (.int (own_bit f (1 : Int32))), .val (.int (own_bit f (2 : Int32))), .val (.int (own_max (1 : Int32) (x1 &&& (2147483647 : Int32)))), .val (.int m2), .val (.int (((f.toUInt32 >>> ((3 : Int32) &&& 31).toUInt32).toInt32) &&& (3 : Int32))), .val (.ref b12), .val (.ref b14), .unset] [(.int (own_bit f (2 : Int32))), (.int (own_bit f (1 : Int32)))])) tt
            refine XS.icmpYes X16.here hx rfl (pc0 := 153) (pc' := 167) rfl (hb hby at_153) rfl (feq (q1 : ¬ ((own_bit f (1 : Int32)) = (own_bit f (2 : Int32))))).2 (by decide) (by decide) ?_
            show Steps p.tables e below (T16.setTop (mkF m 167 #[.val (.int f), .val (.int x1), .val (.int y1), .val (.int (own_bit f (1 : Int32))), .val (.int (own_bit f (2 : Int32))), .val (.int (own_max (1 : Int32) (x1 &&& (2147483647 : Int32)))), .val (.int m2), .val (.int (((f.toUInt32 >>> ((3 : Int32) &&& 31).toUInt32).toInt32) &&& (3 : Int32))), .val (.ref b12), .val (.ref b14), .unset] [])) tt
            refine XS.iconst X16.here hx rfl (hb hby at_167) ?_
            exact kk
        obtain ⟨cq30, kq30, q30a, q30b, q30c⟩ := isOf hZ hh16 ((Exa.ext E14 (A12.keep K13)).keep K15)
        obtain ⟨_, _, ⟨T30, L30, ka30, na30⟩, -, X30, ⟨Lc30, hQ30, l30, y30, z30⟩, st30⟩ := X16.virtualBack hx (y := (⟨"com/example/curb_queries/curbqueries/statistics/StatisticsSettings", "equals", "(Ljava/lang/Object;)Z"⟩ : MethodName)) (z := (⟨"com/example/curb_queries/curbqueries/statistics/StatisticsSettings", "equals", "(Ljava/lang/Object;)Z"⟩ : MethodName)) hown (mvT hZ (hw _ (List.mem_of_getElem? (i := 18) rfl))) (mvT hZ (hw _ (List.mem_of_getElem? (i := 19) rfl))) (notFace_of_selects (args := #[]) (mvT hZ (hw _ (List.mem_of_getElem? (i := 21) rfl)))) (mvT hZ (hw _ (List.mem_of_getElem? (i := 21) rfl))) (mvT hZ (hw _ (List.mem_of_getElem? (i := 20) rfl))) (by decide) (backOf (W := 0) (own_rmE l Z a0 hw [] b12 b14 (own_bit f (1 : Int32)) (own_max (1 : Int32) (x1 &&& (2147483647 : Int32))) (own_bit f (2 : Int32)) m2 T15.heap n0 Z15 (A14.keep K15) hf17 hf18 Fa15 Fb15) hZ (hw _ (List.mem_of_getElem? (i := 22) rfl)) (hw _ (List.mem_of_getElem? (i := 7) rfl)) (by decide) (by decide)) q30a q30c (g := (mkF m 174 #[.val (.int f), .val (.int x1), .val (.int y1), .val (.int (own_bit f (1 : Int32))), .val (.int (own_bit f (2 : Int32))), .val (.int (own_max (1 : Int32) (x1 &&& (2147483647 : Int32)))), .val (.int m2), .val (.int (((f.toUInt32 >>> ((3 : Int32) &&& 31).toUInt32).toInt32) &&& (3 : Int32))), .val (.ref b12), .val (.ref b14), .val (.int (own_eq (own_bit f (1 : Int32)) (own_max (1 : Int32) (x1 &&& (2147483647 : Int32))) (own_bit f (2 : Int32)) m2))] [(.ref b14), (.ref b12)])) rfl (by rw [hml]; rfl) (Steps.refl _) (argsL := [(.ref b14)]) (rest := []) (lenOf own_pd__Ljava_lang_Object__Z rfl) rfl (by show 2 * 0 + _ ≤ _; exact Nat.le_of_eq rfl) (hb hby at_174) (fun _ _ => ⟨rfl, hh16, (by decide : 2 + 0 ≤ _), (by decide : 4 + 0 ≤ _)⟩)
        dsimp only [Pt.U, Pt.locs, Pt.cells, Pt.slots] at X30 l30 y30 z30 st30 hQ30
        subst l30 y30 z30
        obtain ⟨rfl, Nq30, hh30⟩ := hQ30
        have N30 := Fr.app N16 Nq30
        obtain ⟨cq31, kq31, q31a, q31b, q31c⟩ := isOf hZ hh30 (A14.keep K15)
        obtain ⟨_, _, ⟨T31, L31, ka31, na31⟩, -, X31, ⟨Lc31, hQ31, l31, y31, z31⟩, st31⟩ := X30.virtualBack hx (y := (⟨"com/example/curb_queries/curbqueries/statistics/StatisticsSettings", "equals", "(Ljava/lang/Object;)Z"⟩ : MethodName)) (z := (⟨"com/example/curb_queries/curbqueries/statistics/StatisticsSettings", "equals", "(Ljava/lang/Object;)Z"⟩ : MethodName)) hown (mvT hZ (hw _ (List.mem_of_getElem? (i := 18) rfl))) (mvT hZ (hw _ (List.mem_of_getElem? (i := 19) rfl))) (notFace_of_selects (args := #[]) (mvT hZ (hw _ (List.mem_of_getElem? (i := 21) rfl)))) (mvT hZ (hw _ (List.mem_of_getElem? (i := 21) rfl))) (mvT hZ (hw _ (List.mem_of_getElem? (i := 20) rfl))) (by decide) (backOf (W := 0) (own_rmE l Z a0 hw [] b14 b12 (own_bit f (2 : Int32)) m2 (own_bit f (1 : Int32)) (own_max (1 : Int32) (x1 &&& (2147483647 : Int32))) T15.heap n0 Z15 ((Exa.ext E14 (A12.keep K13)).keep K15) Fa15 Fb15 hf17 hf18) hZ (hw _ (List.mem_of_getElem? (i := 22) rfl)) (hw _ (List.mem_of_getElem? (i := 7) rfl)) (by decide) (by decide)) q31a q31c (g := (mkF m 186 #[.val (.int f), .val (.int x1), .val (.int y1), .val (.int (own_bit f (1 : Int32))), .val (.int (own_bit f (2 : Int32))), .val (.int (own_max (1 : Int32) (x1 &&& (2147483647 : Int32)))), .val (.int m2), .val (.int (((f.toUInt32 >>> ((3 : Int32) &&& 31).toUInt32).toInt32) &&& (3 : Int32))), .val (.ref b12), .val (.ref b14), .val (.int (own_eq (own_bit f (1 : Int32)) (own_max (1 : Int32) (x1 &&& (2147483647 : Int32))) (own_bit f (2 : Int32)) m2))] [(.ref b12), (.ref b14)])) rfl (by rw [hml]; rfl) (Steps.refl _) (argsL := [(.ref b12)]) (rest := []) (lenOf own_pd__Ljava_lang_Object__Z rfl) rfl (by show 2 * 0 + _ ≤ _; exact Nat.le_of_eq rfl) (hb hby at_186) (fun _ _ => ⟨rfl, hh30, (by decide : 2 + 0 ≤ _), (by decide : 4 + 0 ≤ _)⟩)
        dsimp only [Pt.U, Pt.locs, Pt.cells, Pt.slots] at X31 l31 y31 z31 st31 hQ31
        subst l31 y31 z31
        obtain ⟨hv31, Nq31, hh31⟩ := hQ31
        have N31 := Fr.app N30 Nq31
        rw [own_eq_comm] at hv31
        subst hv31
        have k32 : ∀ tt, Steps p.tables e below (T31.setTop (mkF m 199 #[.val (.int f), .val (.int x1), .val (.int y1), .val (.int (own_bit f (1 : Int32))), .val (.int (own_bit f (2 : Int32))), .val (.int (own_max (1 : Int32) (x1 &&& (2147483647 : Int32)))), .val (.int m2), .val (.int (((f.toUInt32 >>> ((3 : Int32) &&& 31).toUInt32).toInt32) &&& (3 : Int32))), .val (.ref b12), .val (.ref b14), .val (.int (own_eq (own_bit f (1 : Int32)) (own_max (1 : Int32) (x1 &&& (2147483647 : Int32))) (own_bit f (2 : Int32)) m2))] [(.int (1 : Int32))])) tt → Steps p.tables e below (s₁.setTop (entryFrame m #[(.int f), (.int x1), (.int y1)] maxLocals)) tt := by
          intro tt kk
          refine k29 tt ?_
          show Steps p.tables e below (T16.setTop (mkF m 168 #[.val (.int f), .val (.int x1), .val (.int y1), .val (.int (own_bit f (1 : Int32))), .val (.int (own_bit f (2 : Int32))), .val (.int (own_max (1 : Int32) (x1 &&& (2147483647 : Int32)))), .val (.int m2), .val (.int (((f.toUInt32 >>> ((3 : Int32) &&& 31).toUInt32).toInt32) &&& (3 : Int32))), .val (.ref b12), .val (.ref b14), .unset] [(.int (own_eq (own_bit f (1 : Int32)) (own_max (1 : Int32) (x1 &&& (2147483647 : Int32))) (own_bit f (2 : Int32)) m2))])) tt
          refine XS.istore X16.here hx rfl (hb hby at_168) rfl (l' := #[.val (.int f), .val (.int x1), .val (.int y1), .val (.int (own_bit f (1 : Int32))), .val (.int (own_bit f (2 : Int32))), .val (.int (own_max (1 : Int32) (x1 &&& (2147483647 : Int32)))), .val (.int m2), .val (.int (((f.toUInt32 >>> ((3 : Int32) &&& 31).toUInt32).toInt32) &&& (3 : Int32))), .val (.ref b12), .val (.ref b14), .val (.int (own_eq (own_bit f (1 : Int32)) (own_max (1 : Int32) (x1 &&& (2147483647 : Int32))) (own_bit f (2 : Int32)) m2))]) rfl ?_
          show Steps p.tables e below (T16.setTop (mkF m 170 #[.val (.int f), .val (.int x1), .val (.int y1), .val (.int (own_bit f (1 : Int32))), .val (.int (own_bit f (2 : Int32))), .val (.int (own_max (1 : Int32) (x1 &&& (2147483647 : Int32)))), .val (.int m2), .val (.int (((f.toUInt32 >>> ((3 : Int32) &&& 31).toUInt32).toInt32) &&& (3 : Int32))), .val (.ref b12), .val (.ref b14), .val (.int (own_eq (own_bit f (1 : Int32)) (own_max (1 : Int32) (x1 &&& (2147483647 : Int32))) (own_bit f (2 : Int32)) m2))] [])) tt
          refine XS.aload X16.here hx rfl (hb hby at_170) rfl rfl ?_
          show Steps p.tables e below (T16.setTop (mkF m 172 #[.val (.int f), .val (.int x1), .val (.int y1), .val (.int (own_bit f (1 : Int32))), .val (.int (own_bit f (2 : Int32))), .val (.int (own_max (1 : Int32) (x1 &&& (2147483647 : Int32)))), .val (.int m2), .val (.int (((f.toUInt32 >>> ((3 : Int32) &&& 31).toUInt32).toInt32) &&& (3 : Int32))), .val (.ref b12), .val (.ref b14), .val (.int (own_eq (own_bit f (1 : Int32)) (own_max (1 : Int32) (x1 &&& (2147483647 : Int32))) (own_bit f (2 : Int32)) m2))] [(.ref b12)])) tt
          refine XS.aload X16.here hx rfl (hb hby at_172) rfl rfl ?_
          show Steps p.tables e below (T16.setTop (mkF m 174 #[.val (.int f), .val (.int x1), .val (.int y1), .val (.int (own_bit f (1 : Int32))), .val (.int (own_bit f (2 : Int32))), .val (.int (own_max (1 : Int32) (x1 &&& (2147483647 : Int32)))), .val (.int m2), .val (.int (((f.toUInt32 >>> ((3 : Int32) &&& 31).toUInt32).toInt32) &&& (3 : Int32))), .val (.ref b12), .val (.ref b14), .val (.int (own_eq (own_bit f (1 : Int32)) (own_max (1 : Int32) (x1 &&& (2147483647 : Int32))) (own_bit f (2 : Int32)) m2))] [(.ref b14), (.ref b12)])) tt
          refine st30.trans ?_
          show Steps p.tables e below (T30.setTop (mkF m 177 #[.val (.int f), .val (.int x1), .val (.int y1), .val (.int (own_bit f (1 : Int32))), .val (.int (own_bit f (2 : Int32))), .val (.int (own_max (1 : Int32) (x1 &&& (2147483647 : Int32)))), .val (.int m2), .val (.int (((f.toUInt32 >>> ((3 : Int32) &&& 31).toUInt32).toInt32) &&& (3 : Int32))), .val (.ref b12), .val (.ref b14), .val (.int (own_eq (own_bit f (1 : Int32)) (own_max (1 : Int32) (x1 &&& (2147483647 : Int32))) (own_bit f (2 : Int32)) m2))] [(.int (own_eq (own_bit f (1 : Int32)) (own_max (1 : Int32) (x1 &&& (2147483647 : Int32))) (own_bit f (2 : Int32)) m2))])) tt
          refine XS.iload X30.here hx rfl (hb hby at_177) rfl ?_
          show Steps p.tables e below (T30.setTop (mkF m 179 #[.val (.int f), .val (.int x1), .val (.int y1), .val (.int (own_bit f (1 : Int32))), .val (.int (own_bit f (2 : Int32))), .val (.int (own_max (1 : Int32) (x1 &&& (2147483647 : Int32)))), .val (.int m2), .val (.int (((f.toUInt32 >>> ((3 : Int32) &&& 31).toUInt32).toInt32) &&& (3 : Int32))), .val (.ref b12), .val (.ref b14), .val (.int (own_eq (own_bit f (1 : Int32)) (own_max (1 : Int32) (x1 &&& (2147483647 : Int32))) (own_bit f (2 : Int32)) m2))] [(.int (own_eq (own_bit f (1 : Int32)) (own_max (1 : Int32) (x1 &&& (2147483647 : Int32))) (own_bit f (2 : Int32)) m2)), (.int (own_eq (own_bit f (1 : Int32)) (own_max (1 : Int32) (x1 &&& (2147483647 : Int32))) (own_bit f (2 : Int32)) m2))])) tt
          refine XS.icmpNo X30.here hx rfl (hb hby at_179) rfl (teq (rfl : (own_eq (own_bit f (1 : Int32)) (own_max (1 : Int32) (x1 &&& (2147483647 : Int32))) (own_bit f (2 : Int32)) m2) = (own_eq (own_bit f (1 : Int32)) (own_max (1 : Int32) (x1 &&& (2147483647 : Int32))) (own_bit f (2 : Int32)) m2))).2 ?_
          show Steps p.tables e below (T30.setTop (mkF m 182 #[.val (.int f), .val (.int x1), .val (.int y1), .val (.int (own_bit f (1 : Int32))), .val (.int (own_bit f (2 : Int32))), .val (.int (own_max (1 : Int32) (x1 &&& (2147483647 : Int32)))), .val (.int m2), .val (.int (((f.toUInt32 >>> ((3 : Int32) &&& 31).toUInt32).toInt32) &&& (3 : Int32))), .val (.ref b12), .val (.ref b14), .val (.int (own_eq (own_bit f (1 : Int32)) (own_max (1 : Int32) (x1 &&& (2147483647 : Int32))) (own_bit f (2 : Int32)) m2))] [])) tt
          refine XS.aload X30.here hx rfl (hb hby at_182) rfl rfl ?_
          show Steps p.tables e below (T30.setTop (mkF m 184 #[.val (.int f), .val (.int x1), .val (.int y1), .val (.int (own_bit f (1 : Int32))), .val (.int (own_bit f (2 : Int32))), .val (.int (own_max (1 : Int32) (x1 &&& (2147483647 : Int32)))), .val (.int m2), .val (.int (((f.toUInt32 >>> ((3 : Int32) &&& 31).toUInt32).toInt32) &&& (3 : Int32))), .val (.ref b12), .val (.ref b14), .val (.int (own_eq (own_bit f (1 : Int32)) (own_max (1 : Int32) (x1 &&& (2147483647 : Int32))) (own_bit f (2 : Int32)) m2))] [(.ref b14)])) tt
          refine XS.aload X30.here hx rfl (hb hby at_184) rfl rfl ?_
          show Steps p.tables e below (T30.setTop (mkF m 186 #[.val (.int f), .val (.int x1), .val (.int y1), .val (.int (own_bit f (1 : Int32))), .val (.int (own_bit f (2 : Int32))), .val (.int (own_max (1 : Int32) (x1 &&& (2147483647 : Int32)))), .val (.int m2), .val (.int (((f.toUInt32 >>> ((3 : Int32) &&& 31).toUInt32).toInt32) &&& (3 : Int32))), .val (.ref b12), .val (.ref b14), .val (.int (own_eq (own_bit f (1 : Int32)) (own_max (1 : Int32) (x1 &&& (2147483647 : Int32))) (own_bit f (2 : Int32)) m2))] [(.ref b12), (.ref b14)])) tt
          refine st31.trans ?_
          show Steps p.tables e below (T31.setTop (mkF m 189 #[.val (.int f), .val (.int x1), .val (.int y1), .val (.int (own_bit f (1 : Int32))), .val (.int (own_bit f (2 : Int32))), .val (.int (own_max (1 : Int32) (x1 &&& (2147483647 : Int32)))), .val (.int m2), .val (.int (((f.toUInt32 >>> ((3 : Int32) &&& 31).toUInt32).toInt32) &&& (3 : Int32))), .val (.ref b12), .val (.ref b14), .val (.int (own_eq (own_bit f (1 : Int32)) (own_max (1 : Int32) (x1 &&& (2147483647 : Int32))) (own_bit f (2 : Int32)) m2))] [(.int (own_eq (own_bit f (1 : Int32)) (own_max (1 : Int32) (x1 &&& (2147483647 : Int32))) (own_bit f (2 : Int32)) m2))])) tt
          refine XS.iload X31.here hx rfl (hb hby at_189) rfl ?_
          show Steps p.tables e below (T31.setTop (mkF m 191 #[.val (.int f), .val (.int x1), .val (.int y1), .val (.int (own_bit f (1 : Int32))), .val (.int (own_bit f (2 : Int32))), .val (.int (own_max (1 : Int32) (x1 &&& (2147483647 : Int32)))), .val (.int m2), .val (.int (((f.toUInt32 >>> ((3 : Int32) &&& 31).toUInt32).toInt32) &&& (3 : Int32))), .val (.ref b12), .val (.ref b14), .val (.int (own_eq (own_bit f (1 : Int32)) (own_max (1 : Int32) (x1 &&& (2147483647 : Int32))) (own_bit f (2 : Int32)) m2))] [(.int (own_eq (own_bit f (1 : Int32)) (own_max (1 : Int32) (x1 &&& (2147483647 : Int32))) (own_bit f (2 : Int32)) m2)), (.int (own_eq (own_bit f (1 : Int32)) (own_max (1 : Int32) (x1 &&& (2147483647 : Int32))) (own_bit f (2 : Int32)) m2))])) tt
          refine XS.icmpNo X31.here hx rfl (hb hby at_191) rfl (teq (rfl : (own_eq (own_bit f (1 : Int32)) (own_max (1 : Int32) (x1 &&& (2147483647 : Int32))) (own_bit f (2 : Int32)) m2) = (own_eq (own_bit f (1 : Int32)) (own_max (1 : Int32) (x1 &&& (2147483647 : Int32))) (own_bit f (2 : Int32)) m2))).2 ?_
          show Steps p.tables e below (T31.setTop (mkF m 194 #[.val (.int f), .val (.int x1), .val (.int y1), .val (.int (own_bit f (1 : Int32))), .val (.int (own_bit f (2 : Int32))), .val (.int (own_max (1 : Int32) (x1 &&& (2147483647 : Int32)))), .val (.int m2), .val (.int (((f.toUInt32 >>> ((3 : Int32) &&& 31).toUInt32).toInt32) &&& (3 : Int32))), .val (.ref b12), .val (.ref b14), .val (.int (own_eq (own_bit f (1 : Int32)) (own_max (1 : Int32) (x1 &&& (2147483647 : Int32))) (own_bit f (2 : Int32)) m2))] [])) tt
          refine XS.iconst X31.here hx rfl (hb hby at_194) ?_
          show Steps p.tables e below (T31.setTop (mkF m 195 #[.val (.int f), .val (.int x1), .val (.int y1), .val (.int (own_bit f (1 : Int32))), .val (.int (own_bit f (2 : Int32))), .val (.int (own_max (1 : Int32) (x1 &&& (2147483647 : Int32)))), .val (.int m2), .val (.int (((f.toUInt32 >>> ((3 : Int32) &&& 31).toUInt32).toInt32) &&& (3 : Int32))), .val (.ref b12), .val (.ref b14), .val (.int (own_eq (own_bit f (1 : Int32)) (own_max (1 : Int32) (x1 &&& (2147483647 : Int32))) (own_bit f (2 : Int32)) m2))] [(.int (1 : Int32))])) tt
          refine XS.goto X31.here hx rfl (pc0 := 195) (pc' := 199) rfl (hb hby at_195) (by decide) (by decide) ?_
          exact kk
        obtain ⟨fs, hr, hrun, hended, hW, hsame⟩ := X31.leave (v := some (.int (1 : Int32))) (fun hq => by rw [Bd.returns] at hq; cases hq)
        refine ⟨_, _, k32 _ ?_, hrun, hended, _, _, rfl, ?_, ⟨_, rfl⟩, hW, hsame.mono (by decide) (by decide)⟩
        · show Steps p.tables e below (T31.setTop (mkF m 199 #[.val (.int f), .val (.int x1), .val (.int y1), .val (.int (own_bit f (1 : Int32))), .val (.int (own_bit f (2 : Int32))), .val (.int (own_max (1 : Int32) (x1 &&& (2147483647 : Int32)))), .val (.int m2), .val (.int (((f.toUInt32 >>> ((3 : Int32) &&& 31).toUInt32).toInt32) &&& (3 : Int32))), .val (.ref b12), .val (.ref b14), .val (.int (own_eq (own_bit f (1 : Int32)) (own_max (1 : Int32) (x1 &&& (2147483647 : Int32))) (own_bit f (2 : Int32)) m2))] [(.int (1 : Int32))])) _
          exact retN X31 hx (t := .boolean) Bd.returns (by simp) (hb hby at_199) hr
        · show (fun (v : Option Value) (h : Heap) (L : List Loc) => v = some (.int (1 : Int32)) ∧ Fr n0 L) _ T31.heap _
          rw [hh31]
          dsimp only
          exact ⟨rfl, N31⟩
theorem own_sta_int {args : Array Value} {s : State} {t : Term} {k : Int32} (h : (Jvm.Cond.eq t (Term.int k)).value args s none s [] = some true) : t.eval args s none [] s = some (.int k) := by
  obtain ⟨v, w, e1, e2, -, -⟩ := cmp_v (Or.inl h)
  have e2' : some (Value.int k) = some w := e2
  cases e2'
  simp only [Jvm.Cond.value, e1, e2] at h
  cases v <;> simp at h
  subst h
  exact e1
set_option maxRecDepth 65536 in
set_option maxHeartbeats 40000000 in
theorem comes_1 {Post : Tables → Env → Array Value → State → Outcome → State → Prop} (hpost : ∀ tb e args s v u, (limb_1_1.after args s (.returned v) u = true ∧ limb_1_2.after args s (.returned v) u = true ∧ True) → FrameEnd s (.returned v) u (Jvm.fieldLocs frame_1_writes args s ++ Jvm.arrayLocs frame_1_arrays args s ++ Jvm.staticLocs frame_1_statics s) 16 128 → Post tb e args s (.returned v) u) :
    ArmFor flags0 classFile x code maxLocals ret World_1 tables_1 room_1 Calls_1 rest_1 Pre_1 Post := by
  intro l hfl _ _ p e ha hc hk s m args below hf hA hF happ hP
  obtain ⟨hcalls, hrest, hpre⟩ := hP
  obtain ⟨-, -, -, hnamed, -, -, -, hat⟩ := (Spec.applies_iff hf).mp happ
  obtain ⟨hg, hn⟩ := and_e (Cond.before_iff.mp (show (Jvm.Cond.and given_1 narrow_1).before args s = true from hpre))
  obtain ⟨g1, g2⟩ := and_e hg
  obtain ⟨g3, g4⟩ := and_e g2
  obtain ⟨g5, g6⟩ := and_e g4
  obtain ⟨v0, v1, v2, rfl⟩ : ∃ v0 v1 v2 : Value, args = #[v0, v1, v2] := by
    have hs : args.size = 3 := by simpa [Cond.value, given_1] using g1
    obtain ⟨L⟩ := args
    match L, hs with
    | [v0, v1, v2], _ => exact ⟨v0, v1, v2, rfl⟩
  have hw := fun d (hd : d ∈ tables_1) => atoms_spec (ws := Jvm.Cond.code x code maxLocals ret :: tables_1) hat d (List.mem_cons_of_mem _ hd)
  have hfit : Fit s := fun {y c} hc i hi => by
    obtain ⟨ha, rfl⟩ := Array.getElem?_eq_some_iff.mp hc
    have q := List.all_eq_true.mp ((Array.all_eq_true_iff_forall_mem.mp hF) _ (Array.getElem_mem ha)) i (List.mem_range.mpr hi)
    simpa [Array.getElem?_eq_getElem hi] using q
  obtain ⟨hsets, hown0⟩ := atoms_of _ (rest_1_c_eq ▸ (show rest_1_c.before _ s = true from hrest))
  obtain ⟨i0, ei0⟩ := is_v g3
  obtain rfl : v0 = (.int i0) := Option.some.inj ei0
  obtain ⟨i1, ei1⟩ := is_v g5
  obtain rfl : v1 = (.int i1) := Option.some.inj ei1
  obtain ⟨i2, ei2⟩ := is_v g6
  obtain rfl : v2 = (.int i2) := Option.some.inj ei2
  have c2 := Cond.before_iff.mp (hsets _ (List.mem_of_getElem? (i := 4) rfl))
  obtain ⟨wC, evC⟩ := arr_v c2
  obtain ⟨cC, A_C⟩ := Arr.start evC c2
  have S_C := Sta.start evC (Or.inr ⟨(hw _ (List.mem_of_getElem? (i := 30) rfl)), (hsets _ (List.mem_of_getElem? (i := 2) rfl))⟩)
  obtain ⟨L1, L2⟩ := own_len evC A_C (Cond.before_iff.mp (hsets _ (List.mem_of_getElem? (i := 6) rfl)))
  have evH := own_sta_int (Cond.before_iff.mp (hsets _ (List.mem_of_getElem? (i := 3) rfl)))
  have S_H := Sta.start evH (Or.inl (hsets _ (List.mem_of_getElem? (i := 1) rfl)))
  have z_C : cC.slots.size = 256 := by
    have q := len_toInt L1
    rw [L2] at q
    have e : (256 : Int32).toInt = 256 := rfl
    omega
  have h_C : ∀ i, i < 256 → ∃ b, cC.slots[i]? = some (.ref b) ∧ Exa s s.heap b "java/lang/Integer" := fun i hi => by
    have q := own_all evC (Arr.fin (Vm.Alike.refl _) A_C) (Cond.before_iff.mp (hsets _ (List.mem_of_getElem? (i := 7) rfl))) i (by rw [z_C]; exact hi)
    obtain ⟨q1, -⟩ := own_and_e q
    exact own_elem_exa (Nat.lt_trans hi (by decide)) evC A_C q1
  obtain ⟨n, o, h1, h2, h3, _, L, rfl, ⟨rfl, N⟩, hq⟩ := own_rm0 l s _ hw tables_1 i0 i1 i2 wC cC s.heap s.heap.size (Nat.le_refl _) S_H S_C A_C z_C h_C p e ha hc hk s m _ below hf ((Spec.applies_iff_loose hf).mp happ).1 ⟨rfl, State.Warmed39.refl s, rfl⟩ trivial
  refine ⟨n, _, h1, h2, h3, hpost _ _ _ _ _ _ ⟨Cond.after_iff.mpr rfl, Cond.after_iff.mpr (eq_i res_at (Term.int_eval (1)) rfl), trivial⟩ ⟨hq.1, hq.2.1, (hq.2.2.sift fun y hy => Or.inr (N y hy)).mono (by decide) (by decide)⟩⟩
theorem main_1_1 : Claimed_1_1 := comes_1 fun _ _ _ _ _ _ h hF => ⟨h.1, hF⟩
theorem main_1_2 : Claimed_1_2 := comes_1 fun _ _ _ _ _ _ h hF => ⟨h.2.1, hF⟩
end Jvm.Pilot.@@N@@
namespace Jvm.Pilot.@@N@@
open Jvm Jvm.ClassFile Sem Op Lib Jvm.Free Jvm.Stand Jvm.Pilot.@@N@@.Jvm.D
/-! MADE BY PROGRAM (witnessworld.py) out of the Statement's table words and the real class files: 17 classes; the members and pool entries that the words name. The judged class is class 1, her method 1. -/
namespace start1
open Jvm.ClassFile
def u (s : String) : CpInfo := .utf8 (stringToUtf16 s)
/-- a pool by its gaps: so many unusable entries, then the entry; so many at the end -/
def gap : Nat → List CpInfo → List CpInfo
  | 0, r => r
  | n + 1, r => .unusable :: gap n r
def poolList (es : List (Nat × CpInfo)) (last : Nat) : List CpInfo := es.foldr (fun e r => gap e.1 (e.2 :: r)) (gap last [])
def pool (es : List (Nat × CpInfo)) (last : Nat) : Array CpInfo := ⟨poolList es last⟩
def fileOf (pool : Array CpInfo) (this : Nat) (attrs : Array Attribute := #[]) (ms : Array MethodInfo := #[]) (fl : Nat := 33) (sup : Nat := 0) (ifs : Array Nat := #[]) (fds : Array FieldInfo := #[]) : ClassFile where
  minorVersion := 0
  majorVersion := 65
  constantPool := pool
  accessFlags := fl
  thisClass := this
  superClass := sup
  interfaces := ifs
  fields := fds
  methods := ms
  attributes := attrs
def plain (name : String) (sup : Option ClassId) : Class where
  name := name
  kind := .ordinary
  loader := none
  accessFlags := 33
  super := sup
  interfaces := #[]
  cf := none
  fields := #[]
  methods := #[]
  instanceTypes := #[]
  staticTypes := #[]
  resolved := #[]
  callSites := []
  init := .initialized
  statics := none
  mirror := none

def pool0 : Array CpInfo := pool [(5, u "<init>"), (0, u "()V"), (1, .class_ 10), (1, u "java/lang/Object")] 113

def k0c0 : Code := { maxStack := 0, maxLocals := 1, code := object_method_1_code, exceptionTable := #[], attributes := #[] }
def k0m0 : Method := { name := "<init>", desc := "()V", sig := { parameters := [], returnType := none }, accessFlags := 1, code := some k0c0 }
/-- java/lang/Object -/
def k0 : Class := { plain "java/lang/Object" none with
  accessFlags := 33
  interfaces := #[]
  cf := some (fileOf pool0 8 #[] #[{ accessFlags := 1, nameIndex := 5, descriptorIndex := 6, attributes := #[] }] 33 0 #[] #[])
  fields := #[]
  methods := #[k0m0]
  instanceTypes := #[]
  staticTypes := #[]
  resolved := Array.replicate 124 none
  statics := none }

def pool1 : Array CpInfo := pool [(2, .class_ 4), (1, u "java/lang/Object"), (0, u "<init>"), (0, u "()V"), (0, .integer 2147483647), (0, .methodref 9 10), (0, .class_ 11), (0, .nameAndType 12 13), (0, u "java/lang/Math"), (0, u "max"), (0, u "(II)I"), (0, .class_ 15), (0, u "com/example/curb_queries/curbqueries/statistics/StatisticsSettings"), (0, .methodref 14 17), (0, .nameAndType 5 18), (0, u "(ZI)V"), (0, .methodref 14 20), (0, .nameAndType 21 22), (0, u "equals"), (0, u "(Ljava/lang/Object;)Z"), (0, .methodref 24 25), (0, .class_ 26), (0, .nameAndType 27 28), (0, u "java/lang/Integer"), (0, u "valueOf"), (0, u "(I)Ljava/lang/Integer;"), (0, .class_ 30), (0, u "com/example/curb_queries/curbqueries/statistics/StatisticsSettingsEqualsPinLaw"), (2, u "law"), (0, u "(III)Z")] 3

def k1m0 : Method := { name := "<init>", desc := "()V", sig := { parameters := [], returnType := none }, accessFlags := 1, code := none }
def k1c1 : Code := { maxStack := 4, maxLocals := 11, code := code, exceptionTable := #[], attributes := #[] }
def k1m1 : Method := { name := "law", desc := "(III)Z", sig := { parameters := [.int, .int, .int], returnType := some .boolean }, accessFlags := 9, code := some k1c1 }
/-- com/example/curb_queries/curbqueries/statistics/StatisticsSettingsEqualsPinLaw -/
def k1 : Class := { plain "com/example/curb_queries/curbqueries/statistics/StatisticsSettingsEqualsPinLaw" (some 0) with
  accessFlags := 49
  interfaces := #[]
  cf := some (fileOf pool1 29 #[] #[{ accessFlags := 1, nameIndex := 5, descriptorIndex := 6, attributes := #[] }, { accessFlags := 9, nameIndex := 33, descriptorIndex := 34, attributes := #[] }] 49 2 #[] #[])
  fields := #[]
  methods := #[k1m0, k1m1]
  instanceTypes := #[]
  staticTypes := #[]
  resolved := Array.replicate 38 none
  statics := none }

def pool2 : Array CpInfo := pool [(1, .class_ 2), (0, u "java/lang/Math"), (1, .class_ 6), (1, u "java/lang/Object"), (0, u "<init>"), (0, u "()V"), (89, .class_ 100), (1, u "java/lang/Math$RandomNumberGeneratorHolder"), (71, u "negativeZeroFloatBits"), (0, u "J"), (2, u "negativeZeroDoubleBits"), (21, u "max"), (46, u "$assertionsDisabled"), (0, u "Z"), (88, u "(II)I"), (2, u "twoToTheDoubleScaleDown"), (0, u "D"), (4, u "twoToTheDoubleScaleUp"), (9, u "E"), (3, u "PI"), (2, u "TAU"), (2, u "DEGREES_TO_RADIANS"), (0, u "RADIANS_TO_DEGREES")] 94

def k2m0 : Method := { name := "<init>", desc := "()V", sig := { parameters := [], returnType := none }, accessFlags := 2, code := none }
def k2c1 : Code := { maxStack := 2, maxLocals := 2, code := jdk_29_method_65_code, exceptionTable := #[], attributes := #[] }
def k2m1 : Method := { name := "max", desc := "(II)I", sig := { parameters := [.int, .int], returnType := some .int }, accessFlags := 9, code := some k2c1 }
/-- java/lang/Math -/
def k2 : Class := { plain "java/lang/Math" (some 0) with
  accessFlags := 49
  interfaces := #[]
  cf := some (fileOf pool2 1 #[.nestMembers #[98]] #[{ accessFlags := 2, nameIndex := 7, descriptorIndex := 8, attributes := #[] }, { accessFlags := 9, nameIndex := 198, descriptorIndex := 335, attributes := #[] }] 49 4 #[] #[{ accessFlags := 25, nameIndex := 354, descriptorIndex := 339, attributes := #[] }, { accessFlags := 25, nameIndex := 358, descriptorIndex := 339, attributes := #[] }, { accessFlags := 25, nameIndex := 361, descriptorIndex := 339, attributes := #[] }, { accessFlags := 26, nameIndex := 364, descriptorIndex := 339, attributes := #[] }, { accessFlags := 26, nameIndex := 365, descriptorIndex := 339, attributes := #[] }, { accessFlags := 26, nameIndex := 172, descriptorIndex := 173, attributes := #[] }, { accessFlags := 26, nameIndex := 176, descriptorIndex := 173, attributes := #[] }, { accessFlags := 8, nameIndex := 344, descriptorIndex := 339, attributes := #[] }, { accessFlags := 8, nameIndex := 338, descriptorIndex := 339, attributes := #[] }, { accessFlags := 4120, nameIndex := 245, descriptorIndex := 246, attributes := #[] }])
  fields := #[{ name := "E", type := .double, accessFlags := 25, slot := 0, constantValue := 0 }, { name := "PI", type := .double, accessFlags := 25, slot := 1, constantValue := 0 }, { name := "TAU", type := .double, accessFlags := 25, slot := 2, constantValue := 0 }, { name := "DEGREES_TO_RADIANS", type := .double, accessFlags := 26, slot := 3, constantValue := 0 }, { name := "RADIANS_TO_DEGREES", type := .double, accessFlags := 26, slot := 4, constantValue := 0 }, { name := "negativeZeroFloatBits", type := .long, accessFlags := 26, slot := 5, constantValue := 0 }, { name := "negativeZeroDoubleBits", type := .long, accessFlags := 26, slot := 6, constantValue := 0 }, { name := "twoToTheDoubleScaleUp", type := .double, accessFlags := 8, slot := 7, constantValue := 0 }, { name := "twoToTheDoubleScaleDown", type := .double, accessFlags := 8, slot := 8, constantValue := 0 }, { name := "$assertionsDisabled", type := .boolean, accessFlags := 4120, slot := 9, constantValue := 0 }]
  methods := #[k2m0, k2m1]
  instanceTypes := #[]
  staticTypes := #[.double, .double, .double, .double, .double, .long, .long, .double, .double, .boolean]
  resolved := Array.replicate 460 none
  statics := none }

def pool3 : Array CpInfo := pool [(1, .methodref 2 3), (0, .class_ 4), (0, .nameAndType 5 6), (0, u "java/lang/Object"), (0, u "<init>"), (0, u "()V"), (9, .fieldref 17 18), (0, .class_ 19), (0, .nameAndType 20 21), (0, u "com/example/curb_queries/curbqueries/statistics/StatisticsSettings"), (0, u "enabled"), (0, u "Z"), (0, .fieldref 17 23), (0, .nameAndType 24 25), (0, u "maxPatterns"), (0, u "I"), (6, u "(ZI)V"), (5, u "equals"), (0, u "(Ljava/lang/Object;)Z")] 17

def k3c0 : Code := { maxStack := 3, maxLocals := 3, code := prog_71_method_1_code, exceptionTable := #[], attributes := #[] }
def k3m0 : Method := { name := "<init>", desc := "(ZI)V", sig := { parameters := [.boolean, .int], returnType := none }, accessFlags := 1, code := some k3c0 }
def k3c1 : Code := { maxStack := 2, maxLocals := 2, code := prog_71_method_4_code, exceptionTable := #[], attributes := #[] }
def k3m1 : Method := { name := "equals", desc := "(Ljava/lang/Object;)Z", sig := { parameters := [(.object "java/lang/Object")], returnType := some .boolean }, accessFlags := 1, code := some k3c1 }
/-- com/example/curb_queries/curbqueries/statistics/StatisticsSettings -/
def k3 : Class := { plain "com/example/curb_queries/curbqueries/statistics/StatisticsSettings" (some 0) with
  accessFlags := 49
  interfaces := #[]
  cf := some (fileOf pool3 17 #[] #[{ accessFlags := 1, nameIndex := 5, descriptorIndex := 32, attributes := #[] }, { accessFlags := 1, nameIndex := 38, descriptorIndex := 39, attributes := #[] }] 49 2 #[] #[{ accessFlags := 18, nameIndex := 20, descriptorIndex := 21, attributes := #[] }, { accessFlags := 18, nameIndex := 24, descriptorIndex := 25, attributes := #[] }])
  fields := #[{ name := "enabled", type := .boolean, accessFlags := 18, slot := 0, constantValue := 0 }, { name := "maxPatterns", type := .int, accessFlags := 18, slot := 1, constantValue := 0 }]
  methods := #[k3m0, k3m1]
  instanceTypes := #[.boolean, .int]
  staticTypes := #[]
  resolved := Array.replicate 57 none
  statics := none }

def pool4 : Array CpInfo := pool [(1, .class_ 2), (0, u "java/io/Serializable"), (0, .class_ 4), (0, u "java/lang/Object")] 2

/-- java/io/Serializable -/
def k4 : Class := { plain "java/io/Serializable" (some 0) with
  accessFlags := 1537
  interfaces := #[]
  cf := some (fileOf pool4 1 #[] #[] 1537 3 #[] #[])
  fields := #[]
  methods := #[]
  instanceTypes := #[]
  staticTypes := #[]
  resolved := Array.replicate 7 none
  statics := none }

def pool5 : Array CpInfo := pool [(1, .methodref 2 3), (0, .class_ 4), (0, .nameAndType 5 6), (0, u "java/lang/Object"), (0, u "<init>"), (0, u "()V"), (1, .class_ 10), (1, u "java/lang/Number"), (2, .class_ 14), (0, u "java/io/Serializable"), (0, u "serialVersionUID"), (0, u "J")] 20

def k5c0 : Code := { maxStack := 1, maxLocals := 1, code := jdk_18_method_1_code, exceptionTable := #[], attributes := #[] }
def k5m0 : Method := { name := "<init>", desc := "()V", sig := { parameters := [], returnType := none }, accessFlags := 1, code := some k5c0 }
/-- java/lang/Number -/
def k5 : Class := { plain "java/lang/Number" (some 0) with
  accessFlags := 1057
  interfaces := #[4]
  cf := some (fileOf pool5 8 #[] #[{ accessFlags := 1, nameIndex := 5, descriptorIndex := 6, attributes := #[] }] 1057 2 #[13] #[{ accessFlags := 26, nameIndex := 15, descriptorIndex := 16, attributes := #[] }])
  fields := #[{ name := "serialVersionUID", type := .long, accessFlags := 26, slot := 0, constantValue := 0 }]
  methods := #[k5m0]
  instanceTypes := #[]
  staticTypes := #[.long]
  resolved := Array.replicate 37 none
  statics := none }

def pool6 : Array CpInfo := pool [(1, .class_ 2), (0, u "java/lang/Comparable"), (0, .class_ 4), (0, u "java/lang/Object")] 7

/-- java/lang/Comparable -/
def k6 : Class := { plain "java/lang/Comparable" (some 0) with
  accessFlags := 1537
  interfaces := #[]
  cf := some (fileOf pool6 1 #[] #[] 1537 3 #[] #[])
  fields := #[]
  methods := #[]
  instanceTypes := #[]
  staticTypes := #[]
  resolved := Array.replicate 12 none
  statics := none }

def pool7 : Array CpInfo := pool [(1, .class_ 2), (0, u "java/lang/constant/Constable"), (0, .class_ 4), (0, u "java/lang/Object")] 6

/-- java/lang/constant/Constable -/
def k7 : Class := { plain "java/lang/constant/Constable" (some 0) with
  accessFlags := 1537
  interfaces := #[]
  cf := some (fileOf pool7 1 #[] #[] 1537 3 #[] #[])
  fields := #[]
  methods := #[]
  instanceTypes := #[]
  staticTypes := #[]
  resolved := Array.replicate 11 none
  statics := none }

def pool8 : Array CpInfo := pool [(1, .class_ 2), (0, u "java/lang/constant/ConstantDesc"), (0, .class_ 4), (0, u "java/lang/Object")] 32

/-- java/lang/constant/ConstantDesc -/
def k8 : Class := { plain "java/lang/constant/ConstantDesc" (some 0) with
  accessFlags := 1537
  interfaces := #[]
  cf := some (fileOf pool8 1 #[] #[] 1537 3 #[] #[])
  fields := #[]
  methods := #[]
  instanceTypes := #[]
  staticTypes := #[]
  resolved := Array.replicate 37 none
  statics := none }

def pool9 : Array CpInfo := pool [(1, .class_ 2), (0, u "java/lang/Integer"), (16, u "digits"), (0, u "[C"), (46, u "<init>"), (17, u "DigitOnes"), (0, u "[B"), (2, u "DigitTens"), (10, .nameAndType 67 101), (0, u "()V"), (85, u "valueOf"), (0, u "(I)Ljava/lang/Integer;"), (0, .class_ 190), (0, u "java/lang/Integer$IntegerCache"), (0, .fieldref 189 192), (0, .nameAndType 193 194), (0, u "high"), (0, u "I"), (0, .fieldref 189 196), (0, .nameAndType 197 198), (0, u "cache"), (0, u "[Ljava/lang/Integer;"), (0, .methodref 1 200), (0, .nameAndType 67 201), (0, u "(I)V"), (0, .methodref 203 100), (0, .class_ 204), (0, u "java/lang/Number"), (0, .fieldref 1 206), (0, .nameAndType 207 194), (0, u "value"), (94, u "TYPE"), (0, u "Ljava/lang/Class;"), (0, .class_ 305), (0, u "java/lang/Comparable"), (0, .class_ 307), (0, u "java/lang/constant/Constable"), (0, .class_ 309), (0, u "java/lang/constant/ConstantDesc"), (0, u "MIN_VALUE"), (1, u "MAX_VALUE"), (3, u "SIZE"), (1, u "BYTES"), (1, u "serialVersionUID"), (0, u "J")] 131

def k9c0 : Code := { maxStack := 3, maxLocals := 1, code := jdk_33_method_22_code, exceptionTable := #[], attributes := #[] }
def k9m0 : Method := { name := "valueOf", desc := "(I)Ljava/lang/Integer;", sig := { parameters := [.int], returnType := some (.object "java/lang/Integer") }, accessFlags := 9, code := some k9c0 }
def k9c1 : Code := { maxStack := 2, maxLocals := 2, code := jdk_33_method_23_code, exceptionTable := #[], attributes := #[] }
def k9m1 : Method := { name := "<init>", desc := "(I)V", sig := { parameters := [.int], returnType := none }, accessFlags := 1, code := some k9c1 }
/-- java/lang/Integer -/
def k9 : Class := { plain "java/lang/Integer" (some 5) with
  accessFlags := 49
  interfaces := #[6, 7, 8]
  cf := some (fileOf pool9 1 #[.nestMembers #[189]] #[{ accessFlags := 9, nameIndex := 187, descriptorIndex := 188, attributes := #[] }, { accessFlags := 1, nameIndex := 67, descriptorIndex := 201, attributes := #[] }] 49 203 #[304, 306, 308] #[{ accessFlags := 25, nameIndex := 310, descriptorIndex := 194, attributes := #[] }, { accessFlags := 25, nameIndex := 312, descriptorIndex := 194, attributes := #[] }, { accessFlags := 25, nameIndex := 302, descriptorIndex := 303, attributes := #[] }, { accessFlags := 24, nameIndex := 19, descriptorIndex := 20, attributes := #[] }, { accessFlags := 24, nameIndex := 89, descriptorIndex := 86, attributes := #[] }, { accessFlags := 24, nameIndex := 85, descriptorIndex := 86, attributes := #[] }, { accessFlags := 18, nameIndex := 207, descriptorIndex := 194, attributes := #[] }, { accessFlags := 25, nameIndex := 316, descriptorIndex := 194, attributes := #[] }, { accessFlags := 25, nameIndex := 318, descriptorIndex := 194, attributes := #[] }, { accessFlags := 26, nameIndex := 320, descriptorIndex := 321, attributes := #[] }])
  fields := #[{ name := "MIN_VALUE", type := .int, accessFlags := 25, slot := 0, constantValue := 0 }, { name := "MAX_VALUE", type := .int, accessFlags := 25, slot := 1, constantValue := 0 }, { name := "TYPE", type := (.object "java/lang/Class"), accessFlags := 25, slot := 2, constantValue := 0 }, { name := "digits", type := (.array .char), accessFlags := 24, slot := 3, constantValue := 0 }, { name := "DigitTens", type := (.array .byte), accessFlags := 24, slot := 4, constantValue := 0 }, { name := "DigitOnes", type := (.array .byte), accessFlags := 24, slot := 5, constantValue := 0 }, { name := "value", type := .int, accessFlags := 18, slot := 0, constantValue := 0 }, { name := "SIZE", type := .int, accessFlags := 25, slot := 6, constantValue := 0 }, { name := "BYTES", type := .int, accessFlags := 25, slot := 7, constantValue := 0 }, { name := "serialVersionUID", type := .long, accessFlags := 26, slot := 8, constantValue := 0 }]
  methods := #[k9m0, k9m1]
  instanceTypes := #[.int]
  staticTypes := #[.int, .int, (.object "java/lang/Class"), (.array .char), (.array .byte), (.array .byte), .int, .int, .long]
  resolved := Array.replicate 453 none
  statics := none }

def pool10 : Array CpInfo := pool [(2, .class_ 4), (1, u "java/lang/Object"), (0, u "<init>"), (0, u "()V"), (0, .class_ 8), (0, u "java/lang/Integer"), (7, .class_ 18), (1, u "java/lang/Integer$IntegerCache"), (0, u "$assertionsDisabled"), (0, u "Z"), (26, u "high"), (0, u "I"), (8, u "archivedCache"), (0, u "[Ljava/lang/Integer;"), (12, u "cache"), (0, u "low")] 27

def k10m0 : Method := { name := "<init>", desc := "()V", sig := { parameters := [], returnType := none }, accessFlags := 2, code := none }
/-- java/lang/Integer$IntegerCache -/
def k10 : Class := { plain "java/lang/Integer$IntegerCache" (some 0) with
  accessFlags := 48
  interfaces := #[]
  cf := some (fileOf pool10 16 #[.nestHost 7] #[{ accessFlags := 2, nameIndex := 5, descriptorIndex := 6, attributes := #[] }] 48 2 #[] #[{ accessFlags := 24, nameIndex := 72, descriptorIndex := 48, attributes := #[] }, { accessFlags := 24, nameIndex := 47, descriptorIndex := 48, attributes := #[] }, { accessFlags := 24, nameIndex := 71, descriptorIndex := 58, attributes := #[] }, { accessFlags := 8, nameIndex := 57, descriptorIndex := 58, attributes := #[] }, { accessFlags := 4120, nameIndex := 19, descriptorIndex := 20, attributes := #[] }])
  fields := #[{ name := "low", type := .int, accessFlags := 24, slot := 0, constantValue := 0 }, { name := "high", type := .int, accessFlags := 24, slot := 1, constantValue := 0 }, { name := "cache", type := (.array (.object "java/lang/Integer")), accessFlags := 24, slot := 2, constantValue := 0 }, { name := "archivedCache", type := (.array (.object "java/lang/Integer")), accessFlags := 8, slot := 3, constantValue := 0 }, { name := "$assertionsDisabled", type := .boolean, accessFlags := 4120, slot := 4, constantValue := 0 }]
  methods := #[k10m0]
  instanceTypes := #[]
  staticTypes := #[.int, .int, (.array (.object "java/lang/Integer")), (.array (.object "java/lang/Integer")), .boolean]
  resolved := Array.replicate 100 none
  statics := some 0 }

def pool11 : Array CpInfo := pool [(1, u "java/lang/Cloneable"), (0, .class_ 1), (0, u "java/lang/Object"), (0, .class_ 3)] 3

/-- java/lang/Cloneable -/
def k11 : Class := { plain "java/lang/Cloneable" (some 0) with
  accessFlags := 1537
  interfaces := #[]
  cf := some (fileOf pool11 2 #[] #[] 1537 4 #[] #[])
  fields := #[]
  methods := #[]
  instanceTypes := #[]
  staticTypes := #[]
  resolved := Array.replicate 8 none
  statics := none }

/-- the primitive byte -/
def k12 : Class := { plain "byte" none with kind := .primitive 'B', accessFlags := 0x411 }
/-- [B -/
def k13 : Class := { plain "[B" (some 0) with kind := .array 12 .byte, interfaces := #[11, 4], accessFlags := 1041 }

/-- the primitive int -/
def k14 : Class := { plain "int" none with kind := .primitive 'I', accessFlags := 0x411 }
/-- [I -/
def k15 : Class := { plain "[I" (some 0) with kind := .array 14 .int, interfaces := #[11, 4], accessFlags := 1041 }

/-- [Ljava/lang/Integer; -/
def k16 : Class := { plain "[Ljava/lang/Integer;" (some 0) with kind := .array 9 (.object "java/lang/Integer"), interfaces := #[11, 4], accessFlags := 1041 }

def heap : Heap := #[{ cls := 10, slots := #[.int 0, .int 127, .ref 1, .null, .int 0], vm := .statics 10 },
  { cls := 16, slots := #[.ref 2, .ref 3, .ref 4, .ref 5, .ref 6, .ref 7, .ref 8, .ref 9, .ref 10, .ref 11, .ref 12, .ref 13, .ref 14, .ref 15, .ref 16, .ref 17, .ref 18, .ref 19, .ref 20, .ref 21, .ref 22, .ref 23, .ref 24, .ref 25, .ref 26, .ref 27, .ref 28, .ref 29, .ref 30, .ref 31, .ref 32, .ref 33, .ref 34, .ref 35, .ref 36, .ref 37, .ref 38, .ref 39, .ref 40, .ref 41, .ref 42, .ref 43, .ref 44, .ref 45, .ref 46, .ref 47, .ref 48, .ref 49, .ref 50, .ref 51, .ref 52, .ref 53, .ref 54, .ref 55, .ref 56, .ref 57, .ref 58, .ref 59, .ref 60, .ref 61, .ref 62, .ref 63, .ref 64, .ref 65, .ref 66, .ref 67, .ref 68, .ref 69, .ref 70, .ref 71, .ref 72, .ref 73, .ref 74, .ref 75, .ref 76, .ref 77, .ref 78, .ref 79, .ref 80, .ref 81, .ref 82, .ref 83, .ref 84, .ref 85, .ref 86, .ref 87, .ref 88, .ref 89, .ref 90, .ref 91, .ref 92, .ref 93, .ref 94, .ref 95, .ref 96, .ref 97, .ref 98, .ref 99, .ref 100, .ref 101, .ref 102, .ref 103, .ref 104, .ref 105, .ref 106, .ref 107, .ref 108, .ref 109, .ref 110, .ref 111, .ref 112, .ref 113, .ref 114, .ref 115, .ref 116, .ref 117, .ref 118, .ref 119, .ref 120, .ref 121, .ref 122, .ref 123, .ref 124, .ref 125, .ref 126, .ref 127, .ref 128, .ref 129, .ref 130, .ref 131, .ref 132, .ref 133, .ref 134, .ref 135, .ref 136, .ref 137, .ref 138, .ref 139, .ref 140, .ref 141, .ref 142, .ref 143, .ref 144, .ref 145, .ref 146, .ref 147, .ref 148, .ref 149, .ref 150, .ref 151, .ref 152, .ref 153, .ref 154, .ref 155, .ref 156, .ref 157, .ref 158, .ref 159, .ref 160, .ref 161, .ref 162, .ref 163, .ref 164, .ref 165, .ref 166, .ref 167, .ref 168, .ref 169, .ref 170, .ref 171, .ref 172, .ref 173, .ref 174, .ref 175, .ref 176, .ref 177, .ref 178, .ref 179, .ref 180, .ref 181, .ref 182, .ref 183, .ref 184, .ref 185, .ref 186, .ref 187, .ref 188, .ref 189, .ref 190, .ref 191, .ref 192, .ref 193, .ref 194, .ref 195, .ref 196, .ref 197, .ref 198, .ref 199, .ref 200, .ref 201, .ref 202, .ref 203, .ref 204, .ref 205, .ref 206, .ref 207, .ref 208, .ref 209, .ref 210, .ref 211, .ref 212, .ref 213, .ref 214, .ref 215, .ref 216, .ref 217, .ref 218, .ref 219, .ref 220, .ref 221, .ref 222, .ref 223, .ref 224, .ref 225, .ref 226, .ref 227, .ref 228, .ref 229, .ref 230, .ref 231, .ref 232, .ref 233, .ref 234, .ref 235, .ref 236, .ref 237, .ref 238, .ref 239, .ref 240, .ref 241, .ref 242, .ref 243, .ref 244, .ref 245, .ref 246, .ref 247, .ref 248, .ref 249, .ref 250, .ref 251, .ref 252, .ref 253, .ref 254, .ref 255, .ref 256, .ref 257], vm := .none },
  { cls := 9, slots := #[.int (-128)], vm := .none },
  { cls := 9, slots := #[.int (-127)], vm := .none },
  { cls := 9, slots := #[.int (-126)], vm := .none },
  { cls := 9, slots := #[.int (-125)], vm := .none },
  { cls := 9, slots := #[.int (-124)], vm := .none },
  { cls := 9, slots := #[.int (-123)], vm := .none },
  { cls := 9, slots := #[.int (-122)], vm := .none },
  { cls := 9, slots := #[.int (-121)], vm := .none },
  { cls := 9, slots := #[.int (-120)], vm := .none },
  { cls := 9, slots := #[.int (-119)], vm := .none },
  { cls := 9, slots := #[.int (-118)], vm := .none },
  { cls := 9, slots := #[.int (-117)], vm := .none },
  { cls := 9, slots := #[.int (-116)], vm := .none },
  { cls := 9, slots := #[.int (-115)], vm := .none },
  { cls := 9, slots := #[.int (-114)], vm := .none },
  { cls := 9, slots := #[.int (-113)], vm := .none },
  { cls := 9, slots := #[.int (-112)], vm := .none },
  { cls := 9, slots := #[.int (-111)], vm := .none },
  { cls := 9, slots := #[.int (-110)], vm := .none },
  { cls := 9, slots := #[.int (-109)], vm := .none },
  { cls := 9, slots := #[.int (-108)], vm := .none },
  { cls := 9, slots := #[.int (-107)], vm := .none },
  { cls := 9, slots := #[.int (-106)], vm := .none },
  { cls := 9, slots := #[.int (-105)], vm := .none },
  { cls := 9, slots := #[.int (-104)], vm := .none },
  { cls := 9, slots := #[.int (-103)], vm := .none },
  { cls := 9, slots := #[.int (-102)], vm := .none },
  { cls := 9, slots := #[.int (-101)], vm := .none },
  { cls := 9, slots := #[.int (-100)], vm := .none },
  { cls := 9, slots := #[.int (-99)], vm := .none },
  { cls := 9, slots := #[.int (-98)], vm := .none },
  { cls := 9, slots := #[.int (-97)], vm := .none },
  { cls := 9, slots := #[.int (-96)], vm := .none },
  { cls := 9, slots := #[.int (-95)], vm := .none },
  { cls := 9, slots := #[.int (-94)], vm := .none },
  { cls := 9, slots := #[.int (-93)], vm := .none },
  { cls := 9, slots := #[.int (-92)], vm := .none },
  { cls := 9, slots := #[.int (-91)], vm := .none },
  { cls := 9, slots := #[.int (-90)], vm := .none },
  { cls := 9, slots := #[.int (-89)], vm := .none },
  { cls := 9, slots := #[.int (-88)], vm := .none },
  { cls := 9, slots := #[.int (-87)], vm := .none },
  { cls := 9, slots := #[.int (-86)], vm := .none },
  { cls := 9, slots := #[.int (-85)], vm := .none },
  { cls := 9, slots := #[.int (-84)], vm := .none },
  { cls := 9, slots := #[.int (-83)], vm := .none },
  { cls := 9, slots := #[.int (-82)], vm := .none },
  { cls := 9, slots := #[.int (-81)], vm := .none },
  { cls := 9, slots := #[.int (-80)], vm := .none },
  { cls := 9, slots := #[.int (-79)], vm := .none },
  { cls := 9, slots := #[.int (-78)], vm := .none },
  { cls := 9, slots := #[.int (-77)], vm := .none },
  { cls := 9, slots := #[.int (-76)], vm := .none },
  { cls := 9, slots := #[.int (-75)], vm := .none },
  { cls := 9, slots := #[.int (-74)], vm := .none },
  { cls := 9, slots := #[.int (-73)], vm := .none },
  { cls := 9, slots := #[.int (-72)], vm := .none },
  { cls := 9, slots := #[.int (-71)], vm := .none },
  { cls := 9, slots := #[.int (-70)], vm := .none },
  { cls := 9, slots := #[.int (-69)], vm := .none },
  { cls := 9, slots := #[.int (-68)], vm := .none },
  { cls := 9, slots := #[.int (-67)], vm := .none },
  { cls := 9, slots := #[.int (-66)], vm := .none },
  { cls := 9, slots := #[.int (-65)], vm := .none },
  { cls := 9, slots := #[.int (-64)], vm := .none },
  { cls := 9, slots := #[.int (-63)], vm := .none },
  { cls := 9, slots := #[.int (-62)], vm := .none },
  { cls := 9, slots := #[.int (-61)], vm := .none },
  { cls := 9, slots := #[.int (-60)], vm := .none },
  { cls := 9, slots := #[.int (-59)], vm := .none },
  { cls := 9, slots := #[.int (-58)], vm := .none },
  { cls := 9, slots := #[.int (-57)], vm := .none },
  { cls := 9, slots := #[.int (-56)], vm := .none },
  { cls := 9, slots := #[.int (-55)], vm := .none },
  { cls := 9, slots := #[.int (-54)], vm := .none },
  { cls := 9, slots := #[.int (-53)], vm := .none },
  { cls := 9, slots := #[.int (-52)], vm := .none },
  { cls := 9, slots := #[.int (-51)], vm := .none },
  { cls := 9, slots := #[.int (-50)], vm := .none },
  { cls := 9, slots := #[.int (-49)], vm := .none },
  { cls := 9, slots := #[.int (-48)], vm := .none },
  { cls := 9, slots := #[.int (-47)], vm := .none },
  { cls := 9, slots := #[.int (-46)], vm := .none },
  { cls := 9, slots := #[.int (-45)], vm := .none },
  { cls := 9, slots := #[.int (-44)], vm := .none },
  { cls := 9, slots := #[.int (-43)], vm := .none },
  { cls := 9, slots := #[.int (-42)], vm := .none },
  { cls := 9, slots := #[.int (-41)], vm := .none },
  { cls := 9, slots := #[.int (-40)], vm := .none },
  { cls := 9, slots := #[.int (-39)], vm := .none },
  { cls := 9, slots := #[.int (-38)], vm := .none },
  { cls := 9, slots := #[.int (-37)], vm := .none },
  { cls := 9, slots := #[.int (-36)], vm := .none },
  { cls := 9, slots := #[.int (-35)], vm := .none },
  { cls := 9, slots := #[.int (-34)], vm := .none },
  { cls := 9, slots := #[.int (-33)], vm := .none },
  { cls := 9, slots := #[.int (-32)], vm := .none },
  { cls := 9, slots := #[.int (-31)], vm := .none },
  { cls := 9, slots := #[.int (-30)], vm := .none },
  { cls := 9, slots := #[.int (-29)], vm := .none },
  { cls := 9, slots := #[.int (-28)], vm := .none },
  { cls := 9, slots := #[.int (-27)], vm := .none },
  { cls := 9, slots := #[.int (-26)], vm := .none },
  { cls := 9, slots := #[.int (-25)], vm := .none },
  { cls := 9, slots := #[.int (-24)], vm := .none },
  { cls := 9, slots := #[.int (-23)], vm := .none },
  { cls := 9, slots := #[.int (-22)], vm := .none },
  { cls := 9, slots := #[.int (-21)], vm := .none },
  { cls := 9, slots := #[.int (-20)], vm := .none },
  { cls := 9, slots := #[.int (-19)], vm := .none },
  { cls := 9, slots := #[.int (-18)], vm := .none },
  { cls := 9, slots := #[.int (-17)], vm := .none },
  { cls := 9, slots := #[.int (-16)], vm := .none },
  { cls := 9, slots := #[.int (-15)], vm := .none },
  { cls := 9, slots := #[.int (-14)], vm := .none },
  { cls := 9, slots := #[.int (-13)], vm := .none },
  { cls := 9, slots := #[.int (-12)], vm := .none },
  { cls := 9, slots := #[.int (-11)], vm := .none },
  { cls := 9, slots := #[.int (-10)], vm := .none },
  { cls := 9, slots := #[.int (-9)], vm := .none },
  { cls := 9, slots := #[.int (-8)], vm := .none },
  { cls := 9, slots := #[.int (-7)], vm := .none },
  { cls := 9, slots := #[.int (-6)], vm := .none },
  { cls := 9, slots := #[.int (-5)], vm := .none },
  { cls := 9, slots := #[.int (-4)], vm := .none },
  { cls := 9, slots := #[.int (-3)], vm := .none },
  { cls := 9, slots := #[.int (-2)], vm := .none },
  { cls := 9, slots := #[.int (-1)], vm := .none },
  { cls := 9, slots := #[.int 0], vm := .none },
  { cls := 9, slots := #[.int 1], vm := .none },
  { cls := 9, slots := #[.int 2], vm := .none },
  { cls := 9, slots := #[.int 3], vm := .none },
  { cls := 9, slots := #[.int 4], vm := .none },
  { cls := 9, slots := #[.int 5], vm := .none },
  { cls := 9, slots := #[.int 6], vm := .none },
  { cls := 9, slots := #[.int 7], vm := .none },
  { cls := 9, slots := #[.int 8], vm := .none },
  { cls := 9, slots := #[.int 9], vm := .none },
  { cls := 9, slots := #[.int 10], vm := .none },
  { cls := 9, slots := #[.int 11], vm := .none },
  { cls := 9, slots := #[.int 12], vm := .none },
  { cls := 9, slots := #[.int 13], vm := .none },
  { cls := 9, slots := #[.int 14], vm := .none },
  { cls := 9, slots := #[.int 15], vm := .none },
  { cls := 9, slots := #[.int 16], vm := .none },
  { cls := 9, slots := #[.int 17], vm := .none },
  { cls := 9, slots := #[.int 18], vm := .none },
  { cls := 9, slots := #[.int 19], vm := .none },
  { cls := 9, slots := #[.int 20], vm := .none },
  { cls := 9, slots := #[.int 21], vm := .none },
  { cls := 9, slots := #[.int 22], vm := .none },
  { cls := 9, slots := #[.int 23], vm := .none },
  { cls := 9, slots := #[.int 24], vm := .none },
  { cls := 9, slots := #[.int 25], vm := .none },
  { cls := 9, slots := #[.int 26], vm := .none },
  { cls := 9, slots := #[.int 27], vm := .none },
  { cls := 9, slots := #[.int 28], vm := .none },
  { cls := 9, slots := #[.int 29], vm := .none },
  { cls := 9, slots := #[.int 30], vm := .none },
  { cls := 9, slots := #[.int 31], vm := .none },
  { cls := 9, slots := #[.int 32], vm := .none },
  { cls := 9, slots := #[.int 33], vm := .none },
  { cls := 9, slots := #[.int 34], vm := .none },
  { cls := 9, slots := #[.int 35], vm := .none },
  { cls := 9, slots := #[.int 36], vm := .none },
  { cls := 9, slots := #[.int 37], vm := .none },
  { cls := 9, slots := #[.int 38], vm := .none },
  { cls := 9, slots := #[.int 39], vm := .none },
  { cls := 9, slots := #[.int 40], vm := .none },
  { cls := 9, slots := #[.int 41], vm := .none },
  { cls := 9, slots := #[.int 42], vm := .none },
  { cls := 9, slots := #[.int 43], vm := .none },
  { cls := 9, slots := #[.int 44], vm := .none },
  { cls := 9, slots := #[.int 45], vm := .none },
  { cls := 9, slots := #[.int 46], vm := .none },
  { cls := 9, slots := #[.int 47], vm := .none },
  { cls := 9, slots := #[.int 48], vm := .none },
  { cls := 9, slots := #[.int 49], vm := .none },
  { cls := 9, slots := #[.int 50], vm := .none },
  { cls := 9, slots := #[.int 51], vm := .none },
  { cls := 9, slots := #[.int 52], vm := .none },
  { cls := 9, slots := #[.int 53], vm := .none },
  { cls := 9, slots := #[.int 54], vm := .none },
  { cls := 9, slots := #[.int 55], vm := .none },
  { cls := 9, slots := #[.int 56], vm := .none },
  { cls := 9, slots := #[.int 57], vm := .none },
  { cls := 9, slots := #[.int 58], vm := .none },
  { cls := 9, slots := #[.int 59], vm := .none },
  { cls := 9, slots := #[.int 60], vm := .none },
  { cls := 9, slots := #[.int 61], vm := .none },
  { cls := 9, slots := #[.int 62], vm := .none },
  { cls := 9, slots := #[.int 63], vm := .none },
  { cls := 9, slots := #[.int 64], vm := .none },
  { cls := 9, slots := #[.int 65], vm := .none },
  { cls := 9, slots := #[.int 66], vm := .none },
  { cls := 9, slots := #[.int 67], vm := .none },
  { cls := 9, slots := #[.int 68], vm := .none },
  { cls := 9, slots := #[.int 69], vm := .none },
  { cls := 9, slots := #[.int 70], vm := .none },
  { cls := 9, slots := #[.int 71], vm := .none },
  { cls := 9, slots := #[.int 72], vm := .none },
  { cls := 9, slots := #[.int 73], vm := .none },
  { cls := 9, slots := #[.int 74], vm := .none },
  { cls := 9, slots := #[.int 75], vm := .none },
  { cls := 9, slots := #[.int 76], vm := .none },
  { cls := 9, slots := #[.int 77], vm := .none },
  { cls := 9, slots := #[.int 78], vm := .none },
  { cls := 9, slots := #[.int 79], vm := .none },
  { cls := 9, slots := #[.int 80], vm := .none },
  { cls := 9, slots := #[.int 81], vm := .none },
  { cls := 9, slots := #[.int 82], vm := .none },
  { cls := 9, slots := #[.int 83], vm := .none },
  { cls := 9, slots := #[.int 84], vm := .none },
  { cls := 9, slots := #[.int 85], vm := .none },
  { cls := 9, slots := #[.int 86], vm := .none },
  { cls := 9, slots := #[.int 87], vm := .none },
  { cls := 9, slots := #[.int 88], vm := .none },
  { cls := 9, slots := #[.int 89], vm := .none },
  { cls := 9, slots := #[.int 90], vm := .none },
  { cls := 9, slots := #[.int 91], vm := .none },
  { cls := 9, slots := #[.int 92], vm := .none },
  { cls := 9, slots := #[.int 93], vm := .none },
  { cls := 9, slots := #[.int 94], vm := .none },
  { cls := 9, slots := #[.int 95], vm := .none },
  { cls := 9, slots := #[.int 96], vm := .none },
  { cls := 9, slots := #[.int 97], vm := .none },
  { cls := 9, slots := #[.int 98], vm := .none },
  { cls := 9, slots := #[.int 99], vm := .none },
  { cls := 9, slots := #[.int 100], vm := .none },
  { cls := 9, slots := #[.int 101], vm := .none },
  { cls := 9, slots := #[.int 102], vm := .none },
  { cls := 9, slots := #[.int 103], vm := .none },
  { cls := 9, slots := #[.int 104], vm := .none },
  { cls := 9, slots := #[.int 105], vm := .none },
  { cls := 9, slots := #[.int 106], vm := .none },
  { cls := 9, slots := #[.int 107], vm := .none },
  { cls := 9, slots := #[.int 108], vm := .none },
  { cls := 9, slots := #[.int 109], vm := .none },
  { cls := 9, slots := #[.int 110], vm := .none },
  { cls := 9, slots := #[.int 111], vm := .none },
  { cls := 9, slots := #[.int 112], vm := .none },
  { cls := 9, slots := #[.int 113], vm := .none },
  { cls := 9, slots := #[.int 114], vm := .none },
  { cls := 9, slots := #[.int 115], vm := .none },
  { cls := 9, slots := #[.int 116], vm := .none },
  { cls := 9, slots := #[.int 117], vm := .none },
  { cls := 9, slots := #[.int 118], vm := .none },
  { cls := 9, slots := #[.int 119], vm := .none },
  { cls := 9, slots := #[.int 120], vm := .none },
  { cls := 9, slots := #[.int 121], vm := .none },
  { cls := 9, slots := #[.int 122], vm := .none },
  { cls := 9, slots := #[.int 123], vm := .none },
  { cls := 9, slots := #[.int 124], vm := .none },
  { cls := 9, slots := #[.int 125], vm := .none },
  { cls := 9, slots := #[.int 126], vm := .none },
  { cls := 9, slots := #[.int 127], vm := .none }]
def classes : Array Class := #[k0, k1, k2, k3, k4, k5, k6, k7, k8, k9, k10, k11, k12, k13, k14, k15, k16]
def interned : List (Array UInt16 × Addr) := []
def slotsUsed : Nat := 517
def theMethod : MethodId := ⟨1, 1⟩
def args0 : Array Value := #[.int 5, .int 6, .int 7]
def aboutOver (below : List Frame) : State where
  vm := { classes := classes, interned := interned.toArray }
  heap := heap
  slotsUsed := slotsUsed
  threads := #[{ frames := .invoking theMethod args0 :: below }]
def below0 : List Frame := [.native { method := ⟨0, 0⟩, args := #[] }]
def about1 : State := aboutOver below0
def p0 : Program := .bare "" "" ""
def e0 : Env := launch0.env 0 0 0
theorem w_frames : about1.frames = Frame.invoking theMethod args0 :: below0 := rfl
set_option maxRecDepth 65536 in
theorem w_args : argsFit about1.vm theMethod args0 = true := by decide +kernel
set_option maxRecDepth 65536 in
theorem w_heap : heapFits about1 = true := by decide +kernel
set_option maxRecDepth 65536 in
theorem w_runnable : about1.curStatus? = some .runnable := by decide +kernel
set_option maxRecDepth 65536 in
theorem w_alone : about1.alone = true := by decide +kernel
set_option maxRecDepth 65536 in
theorem w_named : about1.methodNamed? x = some theMethod := by decide +kernel
set_option maxRecDepth 65536 in
theorem w_hears : about1.hears theMethod below0 = true := by decide +kernel
set_option maxRecDepth 65536 in
theorem w_ripe : about1.ripe theMethod args0 below0 = true := by decide +kernel
theorem w_running : about1.status = .running := rfl
set_option maxRecDepth 65536 in
theorem w_room : about1.hasRoom e0.platform room_1 = true :=
  launch0.hasRoom_least _ room_1 (by decide +kernel) (by decide +kernel) (by decide +kernel) (by decide +kernel) (by decide +kernel) (by decide +kernel)
theorem allAtoms_all (ts : List Jvm.Cond) (a : Array Jvm.Value) (st : Jvm.State) : (allAtoms ts).before a st = ts.all (fun c => c.before a st) := by
  induction ts with
  | nil => rfl
  | cons c t ih =>
    show (Jvm.Cond.and c (allAtoms t)).before a st = _
    rw [Jvm.Cond.before_and, ih, List.all_cons]
def words1 : List Jvm.Cond := Jvm.Cond.code x code maxLocals ret :: tables_1
/-- a 'code' word, met by the world's own term for the bytes: nothing is compared byte by byte -/
theorem code_word {y : MethodName} {bytes : ByteArray} {mx : Nat} {rt : Option FieldType} {a : Array Value} {s : State} {m : MethodId} {meth : Method} {c : Code} (h1 : s.methodNamed? y = some m) (h2 : s.vm.method? m = some meth) (h3 : meth.code = some c) (h4 : c.code = bytes)
    (h5 : (c.maxLocals == mx && c.exceptionTable.isEmpty && decide (c.maxStack ≤ mostOperands) && decide (meth.sig.returnType = rt) && !meth.locks && decide (parseMethodDescriptor y.desc = some meth.sig)) = true) : (Jvm.Cond.code y bytes mx rt).before a s = true := by
  simp only [Bool.and_eq_true, beq_iff_eq, Bool.not_eq_true', decide_eq_true_eq] at h5
  obtain ⟨⟨⟨⟨⟨g1, g2⟩, g3⟩, g4⟩, g5⟩, g6⟩ := h5
  simp [Cond.before, Cond.holds, Cond.value, h1, h2, h3, h4, g1, g2, g3, g4, g5, g6]
def isCode : Jvm.Cond → Bool
  | .code _ _ _ _ => true
  | _ => false
theorem all_split {L : List Jvm.Cond} {P : Jvm.Cond → Bool} (h1 : L.all (fun c => isCode c || P c) = true) (h2 : ∀ c ∈ L.filter isCode, P c = true) : L.all P = true := by
  refine List.all_eq_true.mpr fun c hc => ?_
  have h := List.all_eq_true.mp h1 c hc
  rcases Bool.eq_false_or_eq_true (isCode c) with hi | hi
  · exact h2 c (List.mem_filter.mpr ⟨hc, hi⟩)
  · simpa [hi] using h
set_option maxRecDepth 65536 in
theorem w_c0 : (Jvm.Cond.code x code maxLocals ret).before args0 about1 = true := code_word (m := ⟨1, 1⟩) (meth := k1m1) (c := k1c1) (by decide +kernel) rfl rfl rfl (by decide +kernel)
set_option maxRecDepth 65536 in
theorem w_c1 : (Jvm.Cond.code ({ cls := "java/lang/Math", name := "max", desc := "(II)I" } : Jvm.MethodName) jdk_29_method_65_code (2 : Nat) (Option.some Jvm.ClassFile.FieldType.int)).before args0 about1 = true := code_word (m := ⟨2, 1⟩) (meth := k2m1) (c := k2c1) (by decide +kernel) rfl rfl rfl (by decide +kernel)
set_option maxRecDepth 65536 in
theorem w_c2 : (Jvm.Cond.code ({ cls := "com/example/curb_queries/curbqueries/statistics/StatisticsSettings", name := "<init>", desc := "(ZI)V" } : Jvm.MethodName) prog_71_method_1_code (3 : Nat) (Option.none : Option Jvm.ClassFile.FieldType)).before args0 about1 = true := code_word (m := ⟨3, 0⟩) (meth := k3m0) (c := k3c0) (by decide +kernel) rfl rfl rfl (by decide +kernel)
set_option maxRecDepth 65536 in
theorem w_c3 : (Jvm.Cond.code ({ cls := "java/lang/Object", name := "<init>", desc := "()V" } : Jvm.MethodName) object_method_1_code (1 : Nat) (Option.none : Option Jvm.ClassFile.FieldType)).before args0 about1 = true := code_word (m := ⟨0, 0⟩) (meth := k0m0) (c := k0c0) (by decide +kernel) rfl rfl rfl (by decide +kernel)
set_option maxRecDepth 65536 in
theorem w_c4 : (Jvm.Cond.code ({ cls := "com/example/curb_queries/curbqueries/statistics/StatisticsSettings", name := "equals", desc := "(Ljava/lang/Object;)Z" } : Jvm.MethodName) prog_71_method_4_code (2 : Nat) (Option.some Jvm.ClassFile.FieldType.boolean)).before args0 about1 = true := code_word (m := ⟨3, 1⟩) (meth := k3m1) (c := k3c1) (by decide +kernel) rfl rfl rfl (by decide +kernel)
set_option maxRecDepth 65536 in
theorem w_c5 : (Jvm.Cond.code ({ cls := "java/lang/Integer", name := "valueOf", desc := "(I)Ljava/lang/Integer;" } : Jvm.MethodName) jdk_33_method_22_code (1 : Nat) (Option.some (Jvm.ClassFile.FieldType.object "java/lang/Integer"))).before args0 about1 = true := code_word (m := ⟨9, 0⟩) (meth := k9m0) (c := k9c0) (by decide +kernel) rfl rfl rfl (by decide +kernel)
set_option maxRecDepth 65536 in
theorem w_c6 : (Jvm.Cond.code ({ cls := "java/lang/Integer", name := "<init>", desc := "(I)V" } : Jvm.MethodName) jdk_33_method_23_code (2 : Nat) (Option.none : Option Jvm.ClassFile.FieldType)).before args0 about1 = true := code_word (m := ⟨9, 1⟩) (meth := k9m1) (c := k9c1) (by decide +kernel) rfl rfl rfl (by decide +kernel)
set_option maxRecDepth 65536 in
theorem w_c7 : (Jvm.Cond.code ({ cls := "java/lang/Number", name := "<init>", desc := "()V" } : Jvm.MethodName) jdk_18_method_1_code (1 : Nat) (Option.none : Option Jvm.ClassFile.FieldType)).before args0 about1 = true := code_word (m := ⟨5, 0⟩) (meth := k5m0) (c := k5c0) (by decide +kernel) rfl rfl rfl (by decide +kernel)
def codes1 : List Jvm.Cond := [Jvm.Cond.code x code maxLocals ret, Jvm.Cond.code ({ cls := "java/lang/Math", name := "max", desc := "(II)I" } : Jvm.MethodName) jdk_29_method_65_code (2 : Nat) (Option.some Jvm.ClassFile.FieldType.int), Jvm.Cond.code ({ cls := "com/example/curb_queries/curbqueries/statistics/StatisticsSettings", name := "<init>", desc := "(ZI)V" } : Jvm.MethodName) prog_71_method_1_code (3 : Nat) (Option.none : Option Jvm.ClassFile.FieldType), Jvm.Cond.code ({ cls := "java/lang/Object", name := "<init>", desc := "()V" } : Jvm.MethodName) object_method_1_code (1 : Nat) (Option.none : Option Jvm.ClassFile.FieldType), Jvm.Cond.code ({ cls := "com/example/curb_queries/curbqueries/statistics/StatisticsSettings", name := "equals", desc := "(Ljava/lang/Object;)Z" } : Jvm.MethodName) prog_71_method_4_code (2 : Nat) (Option.some Jvm.ClassFile.FieldType.boolean), Jvm.Cond.code ({ cls := "java/lang/Integer", name := "valueOf", desc := "(I)Ljava/lang/Integer;" } : Jvm.MethodName) jdk_33_method_22_code (1 : Nat) (Option.some (Jvm.ClassFile.FieldType.object "java/lang/Integer")), Jvm.Cond.code ({ cls := "java/lang/Integer", name := "<init>", desc := "(I)V" } : Jvm.MethodName) jdk_33_method_23_code (2 : Nat) (Option.none : Option Jvm.ClassFile.FieldType), Jvm.Cond.code ({ cls := "java/lang/Number", name := "<init>", desc := "()V" } : Jvm.MethodName) jdk_18_method_1_code (1 : Nat) (Option.none : Option Jvm.ClassFile.FieldType)]
set_option maxRecDepth 65536 in
theorem codes_eq : words1.filter isCode = codes1 := rfl
theorem w_codes : ∀ c ∈ words1.filter isCode, c.before args0 about1 = true := by
  rw [codes_eq]
  intro c hc
  simp only [codes1, List.mem_cons, List.not_mem_nil, or_false] at hc
  rcases hc with rfl | rfl | rfl | rfl | rfl | rfl | rfl | rfl
  · exact w_c0
  · exact w_c1
  · exact w_c2
  · exact w_c3
  · exact w_c4
  · exact w_c5
  · exact w_c6
  · exact w_c7
set_option maxRecDepth 65536 in
theorem w_t1 : (words1.take 24).all (fun c => isCode c || c.before args0 about1) = true := by decide +kernel
set_option maxRecDepth 65536 in
theorem w_t2 : ((words1.drop 24).take 24).all (fun c => isCode c || c.before args0 about1) = true := by decide +kernel
set_option maxRecDepth 65536 in
theorem w_t3 : ((words1.drop 24).drop 24).all (fun c => isCode c || c.before args0 about1) = true := by decide +kernel
theorem w_tables : (allAtoms (Jvm.Cond.code x code maxLocals ret :: tables_1)).before args0 about1 = true := by
  rw [allAtoms_all]
  show words1.all (fun c => c.before args0 about1) = true
  refine all_split ?_ w_codes
  rw [← List.take_append_drop 24 words1, List.all_append, w_t1, ← List.take_append_drop 24 (words1.drop 24), List.all_append, w_t2, w_t3]
  rfl
set_option maxRecDepth 65536 in
theorem w_rest : rest_1_c.before args0 about1 = true := by decide +kernel
set_option maxRecDepth 65536 in
theorem w_case : (Jvm.Cond.and given_1 narrow_1).before args0 about1 = true := by decide +kernel
theorem w_applies : (headSpec (Jvm.Cond.code x code maxLocals ret :: tables_1) room_1).applies x e0.platform about1 = true :=
  (Spec.applies_iff w_frames).mpr ⟨w_running, w_runnable, w_alone, w_named, w_hears, w_ripe, w_room, w_tables⟩
theorem atStart : AtStart classFile x code maxLocals ret World_1 tables_1 room_1 Calls_1 rest_1 Pre_1 launch0 p0 e0 about1 theMethod args0 below0 :=
  ⟨lists_1, trivial, launch0.admits_env _ _ _, launch0.least_env, fairChoices_fair.cas, fairChoices_fair.clock, w_frames, w_args, w_heap, w_applies, trivial, w_rest, w_case⟩
end start1
theorem witness_1 : WitnessClaimed_1 := ⟨start1.p0, start1.e0, start1.about1, start1.theMethod, start1.args0, start1.below0, start1.atStart⟩
end Jvm.Pilot.@@N@@
