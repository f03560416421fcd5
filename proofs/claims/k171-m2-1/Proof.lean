import JvmDerived
import JvmDerived.Pilot.@@N@@Statement
import JvmDerived.Pilot.@@N@@Code
set_option linter.unusedVariables false
set_option linter.unusedSimpArgs false
namespace Jvm.RoadKit
open Sem ClassFile Op Lib Jvm.Stand Jvm.Free Jvm.LawKit
section New
variable {p : Program} {l : Launch} {e : Env} {R : Room} {s : State} {m : MethodId} {args : Array Value} {below : List Frame} {meth : Method} {c : Code} {T : State} {locs : List Loc} {cells slots : Nat}
theorem retI (X : Stand p l e R s m args below meth c T locs cells slots) (hx : p.tables.exec = Jvm.exec) {pc : Nat} {Ls : Array Slot} {z : Int32} {rest : List Value} (hret : meth.sig.returnType = some .int) (hd : decode c.code pc = .ok (.ireturn, 1)) {fs : List Frame}
    (hl : ∀ (f : JFrame) (acts : List Action), f.method = m → f.locked = none → f.entered = [] → (doReturn e (T.setTop f) acts (some (.int z))).1 = T.setFrames fs) : Steps p.tables e below (T.setTop (mkF m pc Ls (.int z :: rest))) (T.setFrames fs) := by
  have hm' : T.vm.method? m = some meth := X.method'
  have hn : narrow .int (.int z) = .int z := rfl
  show Steps p.tables e below (T.setTop { method := m, pc := pc, locals := Ls, stack := _ :: rest, locked := none }) _
  jvm_step X.here [X.here.top, hx, hd, hm', hret, hn]
  first | (intro acts; rw [hl _ acts rfl rfl rfl]) | rw [hl _ _ rfl rfl rfl]
  exact Steps.refl _
end New
end Jvm.RoadKit
namespace Jvm.Pilot.@@N@@
open Jvm Jvm.ClassFile Sem Op Lib Jvm.Free Jvm.Stand Jvm.LawKit Jvm.RoadKit Bundle Jvm.Pilot.@@N@@.Jvm.D

theorem own_and_bd (x m : Int32) (hm : 0 ≤ m.toInt) : 0 ≤ (x &&& m).toInt ∧ (x &&& m).toInt ≤ m.toInt := by
  have e : (x &&& m).toBitVec.toNat = x.toBitVec.toNat &&& m.toBitVec.toNat := by
    show (x.toBitVec &&& m.toBitVec).toNat = _
    rw [BitVec.toNat_and]
  have l1 : x.toBitVec.toNat &&& m.toBitVec.toNat ≤ m.toBitVec.toNat := Nat.and_le_right
  change 0 ≤ m.toBitVec.toInt at hm
  show 0 ≤ (x &&& m).toBitVec.toInt ∧ (x &&& m).toBitVec.toInt ≤ m.toBitVec.toInt
  rw [BitVec.toInt_eq_toNat_cond] at hm ⊢
  rw [BitVec.toInt_eq_toNat_cond, e]
  have := m.toBitVec.isLt
  split at hm <;> split <;> (try split) <;> omega
theorem own_int_of {x : Int32} {k : Int} (h : x.toInt = k) : x = Int32.ofInt k := by
  rw [← h]; exact (Int32.ofInt_toInt x).symm
theorem own_rem_bd (x y : Int32) (hx : 0 ≤ x.toInt) (hy : 0 < y.toInt) : 0 ≤ (x % y).toInt ∧ (x % y).toInt < y.toInt := by
  have e : (x % y).toInt = x.toInt.tmod y.toInt := by
    first | exact Int32.toInt_mod x y | exact Int32.toInt_srem x y | simp
  rw [e]
  exact ⟨Int.tmod_nonneg _ hx, Int.tmod_lt_of_pos _ hy⟩
theorem own_len {args : Array Value} {s : State} {t : Term} {a : Addr} {cl : Cell} {ty : FieldType} {n : Int32} (ht : t.eval args s none [] s = some (.ref a)) (A : Arr s s.heap a cl ty) (h : (Jvm.Cond.eq (Term.length t) (Term.int n)).value args s none s [] = some true) : cl.slots.size < 2 ^ 31 ∧ cl.slots.size.toInt32 = n := by
  have hA : s.arrayAt? a = some cl := Arr.fin (Vm.Alike.refl _) A
  by_cases q : cl.slots.size < 2 ^ 31
  · refine ⟨q, ?_⟩
    have e := len_f ht hA q
    have e2 : (Term.int n).eval args s none [] s = some (.int n) := rfl
    simp only [Jvm.Cond.value, e, e2] at h
    simpa using h
  · exfalso
    have e : (Term.length t).eval args s none [] s = none := by simp [Term.eval, ht, hA, q]
    simp [Jvm.Cond.value, e] at h
theorem own_elem {args : Array Value} {s : State} {t u : Term} {a : Addr} {cl : Cell} {ty : FieldType} {j : Int32} {i : Nat} {v : Value} (ht : t.eval args s none [] s = some (.ref a)) (A : Arr s s.heap a cl ty) (h : (Jvm.Cond.eq (Term.elem t (Term.int j)) u).value args s none s [] = some true) (hu : u.eval args s none [] s = some v) (hi : j.toNatClampNeg = i) : cl.slots[i]? = some v := by
  subst hi
  obtain ⟨x, y, e1, e2, -, -⟩ := cmp_v (Or.inl h)
  cases hu.symm.trans e2
  have q := elem_in e1 ht (Term.int_eval j) A.1
  simp only [Jvm.Cond.value, e1, hu] at h
  rw [q.2]
  cases x <;> cases v <;> simp_all
theorem own_sta_keep0 {Z : State} {h h' : Heap} {C n d : String} {v : Value} (F : Sta Z h C n d v) (K : Keep h h' []) : Sta Z h' C n d v := by
  obtain ⟨cf, i, k, f, st, cell, h1, h2, h3, h4, h5, r⟩ := F
  exact ⟨cf, i, k, f, st, cell, h1, h2, h3, h4, K.2.1 st cell h5 nin0, r⟩
theorem own_fld_int {args : Array Value} {s : State} {t : Term} {C n d : String} {k : Int32} {x : Addr} (ht : t.eval args s none [] s = some (.ref x)) (h : (Jvm.Cond.eq (Term.field t C n d) (Term.int k)).value args s none s [] = some true) : Fld s s.heap x C n d (.int k) := by
  obtain ⟨v, w, e1, e2, -, -⟩ := cmp_v (Or.inl h)
  rw [fld_at ht] at e1
  have e2' : some (Value.int k) = some w := e2
  cases e2'
  have h' := h
  simp only [Jvm.Cond.value, fld_at ht, e1, e2] at h'
  cases v <;> simp at h'
  subst h'
  exact Fld.start e1
theorem own_fld_ref {args : Array Value} {s : State} {t u : Term} {C n d : String} {x y : Addr} (ht : t.eval args s none [] s = some (.ref x)) (hu : u.eval args s none [] s = some (.ref y)) (h : (Jvm.Cond.eq (Term.field t C n d) u).value args s none s [] = some true) : Fld s s.heap x C n d (.ref y) := by
  obtain ⟨v, w, e1, e2, -, -⟩ := cmp_v (Or.inl h)
  rw [fld_at ht] at e1
  cases hu.symm.trans e2
  have h' := h
  simp only [Jvm.Cond.value, fld_at ht, e1, hu] at h'
  cases v <;> simp at h'
  subst h'
  exact Fld.start e1
def own_ant (k : Int32) : Int32 := if k = 0 then 0 else if k = 1 then 1 else if k = 2 then 2 else 3
def own_cg (a b o ab : Addr) : Int32 := if a = o ∨ a = b ∨ b = ab then 1 else 0
theorem own_and3 (x : Int32) : (x &&& (3 : Int32)) = (0 : Int32) ∨ (x &&& (3 : Int32)) = (1 : Int32) ∨ (x &&& (3 : Int32)) = (2 : Int32) ∨ (x &&& (3 : Int32)) = (3 : Int32) := by
  obtain ⟨a, b⟩ : 0 ≤ ((x &&& (3 : Int32))).toInt ∧ ((x &&& (3 : Int32))).toInt ≤ 3 := own_and_bd x 3 (by decide)
  generalize (x &&& (3 : Int32)) = z at a b ⊢
  have q : z.toInt = 0 ∨ z.toInt = 1 ∨ z.toInt = 2 ∨ z.toInt = 3 := by omega
  rcases q with q | q | q | q
  · exact Or.inl (own_int_of q)
  · exact Or.inr (Or.inl (own_int_of q))
  · exact Or.inr (Or.inr (Or.inl (own_int_of q)))
  · exact Or.inr (Or.inr (Or.inr (own_int_of q)))
theorem own_pn_1 : plainName "com/example/probematch/probematch/generate/BloodTypeCanGiveToPinLaw" = true := by first | (simp [plainName, overriddenIn]; done) | decide +kernel
theorem d1_0 : decode method_2_code 0 = .ok (.iload_n 0, 1) := by decide +kernel
theorem d1_1 : decode method_2_code 1 = .ok (.ifCond .ne 5, 3) := by decide +kernel
theorem d1_4 : decode method_2_code 4 = .ok (.iconst 0, 1) := by decide +kernel
theorem d1_5 : decode method_2_code 5 = .ok (.ireturn, 1) := by decide +kernel
theorem d1_6 : decode method_2_code 6 = .ok (.iload_n 0, 1) := by decide +kernel
theorem d1_7 : decode method_2_code 7 = .ok (.iconst 1, 1) := by decide +kernel
theorem d1_8 : decode method_2_code 8 = .ok (.if_icmp .ne 5, 3) := by decide +kernel
theorem d1_11 : decode method_2_code 11 = .ok (.iconst 1, 1) := by decide +kernel
theorem d1_12 : decode method_2_code 12 = .ok (.ireturn, 1) := by decide +kernel
theorem d1_13 : decode method_2_code 13 = .ok (.iload_n 0, 1) := by decide +kernel
theorem d1_14 : decode method_2_code 14 = .ok (.iconst 2, 1) := by decide +kernel
theorem d1_15 : decode method_2_code 15 = .ok (.if_icmp .ne 5, 3) := by decide +kernel
theorem d1_18 : decode method_2_code 18 = .ok (.iconst 2, 1) := by decide +kernel
theorem d1_19 : decode method_2_code 19 = .ok (.ireturn, 1) := by decide +kernel
theorem d1_20 : decode method_2_code 20 = .ok (.iconst 3, 1) := by decide +kernel
theorem d1_21 : decode method_2_code 21 = .ok (.ireturn, 1) := by decide +kernel
def own_rmA_Q (Z : State) (k : Int32)  (h0 : Heap) (n0 : Nat) (v : Option Value) (h : Heap) (L : List Loc) : Prop := v = some (.int (own_ant k)) ∧ Fr n0 L ∧ h = h0
set_option maxRecDepth 65536 in
set_option maxHeartbeats 40000000 in
theorem own_rmA (l : Launch) (Z : State) (a0 : Array Value) (hw : ∀ d ∈ tables_1, d.before a0 Z = true) (ws : List Jvm.Cond) (k : Int32)  (h0 : Heap) (n0 : Nat) (Z0 : n0 ≤ h0.size)  :
    MetFree l (⟨"com/example/probematch/probematch/generate/BloodTypeCanGiveToPinLaw", "antigens", "(I)I"⟩ : MethodName) (head1 (Jvm.Cond.code (⟨"com/example/probematch/probematch/generate/BloodTypeCanGiveToPinLaw", "antigens", "(I)I"⟩ : MethodName) method_2_code 1 (some .int) :: ws) ({ frames := 0, cells := 0, slots := 0, locals := 0 } : Room)) (fun aa UU => aa = #[(.int k)] ∧ Z.Warmed39 UU.vm ∧ UU.heap = h0) (fun _ _ _ _ _ => True) (fun _ UU oo UU' => ∃ vv LL, oo = .returned vv ∧ own_rmA_Q Z k h0 n0 vv UU'.heap LL ∧ FrameEnd UU oo UU' LL ({ frames := 0, cells := 0, slots := 0, locals := 0 } : Room).cells ({ frames := 0, cells := 0, slots := 0, locals := 0 } : Room).slots) := by
  refine MetFree.of_bodySF (plainFor_of_name own_pn_1) hisR ?_
  intro p e s m args below meth cc s₁ Bd hml0 hP hK
  obtain ⟨rfl, hZ, hh⟩ := hP
  have hx := Bd.exec
  have hby := Bd.bytes
  have hml : cc.maxLocals = 1 := hml0
  have hown : s.vm.findClass "com/example/probematch/probematch/generate/BloodTypeCanGiveToPinLaw" = some m.cls := findClass_of_methodNamed Bd.named
  have hnm := (name_of_methodNamed Bd.named Bd.method).1
  have X0 : Stand p l e ({ frames := 0, cells := 0, slots := 0, locals := 0 } : Room) s m #[(.int k)] below meth cc s₁ [] 0 0 := Stand.of_body Bd
  have e0 : s₁.heap = h0 := by rw [← hh, Bd.state]; rfl
  have N0 := Fr.nil n0
  have k0 : ∀ tt, Steps p.tables e below (s₁.setTop (mkF m 0 #[.val (.int k)] [])) tt → Steps p.tables e below (s₁.setTop (entryFrame m #[(.int k)] 1)) tt := fun tt kk => castTop (by first | (simp [entryFrame, mkF, argsToLocals, Value.category]; done) | rfl) kk
  have k1 : ∀ tt, Steps p.tables e below (s₁.setTop (mkF m 1 #[.val (.int k)] [(.int k)])) tt → Steps p.tables e below (s₁.setTop (entryFrame m #[(.int k)] 1)) tt := by
    intro tt kk
    refine k0 tt ?_
    show Steps p.tables e below (s₁.setTop (mkF m 0 #[.val (.int k)] [])) tt
    refine XS.iloadN X0.here hx rfl (hb hby d1_0) rfl ?_
    exact kk
  by_cases c1_2 : k = (0 : Int32)
  · have k3 : ∀ tt, Steps p.tables e below (s₁.setTop (mkF m 5 #[.val (.int k)] [(.int (0 : Int32))])) tt → Steps p.tables e below (s₁.setTop (entryFrame m #[(.int k)] 1)) tt := by
      intro tt kk
      refine k1 tt ?_
      show Steps p.tables e below (s₁.setTop (mkF m 1 #[.val (.int k)] [(.int k)])) tt
      refine XS.ifNo X0.here hx rfl (hb hby d1_1) rfl ((if0 _ _).trans (teq (c1_2 : k = (0 : Int32))).2) ?_
      show Steps p.tables e below (s₁.setTop (mkF m 4 #[.val (.int k)] [])) tt
      refine XS.iconst X0.here hx rfl (hb hby d1_4) ?_
      exact kk
    obtain ⟨fs, hr, hrun, hended, hW, hsame⟩ := X0.leave (v := some (.int (0 : Int32))) (fun hq => by rw [Bd.returns] at hq; cases hq)
    refine ⟨_, _, k3 _ ?_, hrun, hended, _, _, rfl, ?_, ⟨_, rfl⟩, hW, hsame.mono (by decide) (by decide)⟩
    · show Steps p.tables e below (s₁.setTop (mkF m 5 #[.val (.int k)] [(.int (0 : Int32))])) _
      exact retI X0 hx Bd.returns (hb hby d1_5) hr
    · show (fun (v : Option Value) (h : Heap) (L : List Loc) => v = some (.int (own_ant k)) ∧ Fr n0 L ∧ h = h0) _ s₁.heap _
      rw [e0]
      dsimp only
      refine ⟨?_, N0, rfl⟩
      simp [own_ant, c1_2]
  · have k4 : ∀ tt, Steps p.tables e below (s₁.setTop (mkF m 8 #[.val (.int k)] [(.int (1 : Int32)), (.int k)])) tt → Steps p.tables e below (s₁.setTop (entryFrame m #[(.int k)] 1)) tt := by
      intro tt kk
      refine k1 tt ?_
      show Steps p.tables e below (s₁.setTop (mkF m 1 #[.val (.int k)] [(.int k)])) tt
      refine XS.ifYes X0.here hx rfl (pc0 := 1) (pc' := 6) rfl (hb hby d1_1) rfl ((if0 _ _).trans (feq (c1_2 : ¬ (k = (0 : Int32)))).2) (by decide) (by decide) ?_
      show Steps p.tables e below (s₁.setTop (mkF m 6 #[.val (.int k)] [])) tt
      refine XS.iloadN X0.here hx rfl (hb hby d1_6) rfl ?_
      show Steps p.tables e below (s₁.setTop (mkF m 7 #[.val (.int k)] [(.int k)])) tt
      refine XS.iconst X0.here hx rfl (hb hby d1_7) ?_
      exact kk
    by_cases c8_5 : k = (1 : Int32)
    · have k6 : ∀ tt, Steps p.tables e below (s₁.setTop (mkF m 12 #[.val (.int k)] [(.int (1 : Int32))])) tt → Steps p.tables e below (s₁.setTop (entryFrame m #[(.int k)] 1)) tt := by
        intro tt kk
        refine k4 tt ?_
        show Steps p.tables e below (s₁.setTop (mkF m 8 #[.val (.int k)] [(.int (1 : Int32)), (.int k)])) tt
        refine XS.icmpNo X0.here hx rfl (hb hby d1_8) rfl (teq (c8_5 : k = (1 : Int32))).2 ?_
        show Steps p.tables e below (s₁.setTop (mkF m 11 #[.val (.int k)] [])) tt
        refine XS.iconst X0.here hx rfl (hb hby d1_11) ?_
        exact kk
      obtain ⟨fs, hr, hrun, hended, hW, hsame⟩ := X0.leave (v := some (.int (1 : Int32))) (fun hq => by rw [Bd.returns] at hq; cases hq)
      refine ⟨_, _, k6 _ ?_, hrun, hended, _, _, rfl, ?_, ⟨_, rfl⟩, hW, hsame.mono (by decide) (by decide)⟩
      · show Steps p.tables e below (s₁.setTop (mkF m 12 #[.val (.int k)] [(.int (1 : Int32))])) _
        exact retI X0 hx Bd.returns (hb hby d1_12) hr
      · show (fun (v : Option Value) (h : Heap) (L : List Loc) => v = some (.int (own_ant k)) ∧ Fr n0 L ∧ h = h0) _ s₁.heap _
        rw [e0]
        dsimp only
        refine ⟨?_, N0, rfl⟩
        simp [own_ant, c1_2, c8_5]
    · have k7 : ∀ tt, Steps p.tables e below (s₁.setTop (mkF m 15 #[.val (.int k)] [(.int (2 : Int32)), (.int k)])) tt → Steps p.tables e below (s₁.setTop (entryFrame m #[(.int k)] 1)) tt := by
        intro tt kk
        refine k4 tt ?_
        show Steps p.tables e below (s₁.setTop (mkF m 8 #[.val (.int k)] [(.int (1 : Int32)), (.int k)])) tt
        refine XS.icmpYes X0.here hx rfl (pc0 := 8) (pc' := 13) rfl (hb hby d1_8) rfl (feq (c8_5 : ¬ (k = (1 : Int32)))).2 (by decide) (by decide) ?_
        show Steps p.tables e below (s₁.setTop (mkF m 13 #[.val (.int k)] [])) tt
        refine XS.iloadN X0.here hx rfl (hb hby d1_13) rfl ?_
        show Steps p.tables e below (s₁.setTop (mkF m 14 #[.val (.int k)] [(.int k)])) tt
        refine XS.iconst X0.here hx rfl (hb hby d1_14) ?_
        exact kk
      by_cases c15_8 : k = (2 : Int32)
      · have k9 : ∀ tt, Steps p.tables e below (s₁.setTop (mkF m 19 #[.val (.int k)] [(.int (2 : Int32))])) tt → Steps p.tables e below (s₁.setTop (entryFrame m #[(.int k)] 1)) tt := by
          intro tt kk
          refine k7 tt ?_
          show Steps p.tables e below (s₁.setTop (mkF m 15 #[.val (.int k)] [(.int (2 : Int32)), (.int k)])) tt
          refine XS.icmpNo X0.here hx rfl (hb hby d1_15) rfl (teq (c15_8 : k = (2 : Int32))).2 ?_
          show Steps p.tables e below (s₁.setTop (mkF m 18 #[.val (.int k)] [])) tt
          refine XS.iconst X0.here hx rfl (hb hby d1_18) ?_
          exact kk
        obtain ⟨fs, hr, hrun, hended, hW, hsame⟩ := X0.leave (v := some (.int (2 : Int32))) (fun hq => by rw [Bd.returns] at hq; cases hq)
        refine ⟨_, _, k9 _ ?_, hrun, hended, _, _, rfl, ?_, ⟨_, rfl⟩, hW, hsame.mono (by decide) (by decide)⟩
        · show Steps p.tables e below (s₁.setTop (mkF m 19 #[.val (.int k)] [(.int (2 : Int32))])) _
          exact retI X0 hx Bd.returns (hb hby d1_19) hr
        · show (fun (v : Option Value) (h : Heap) (L : List Loc) => v = some (.int (own_ant k)) ∧ Fr n0 L ∧ h = h0) _ s₁.heap _
          rw [e0]
          dsimp only
          refine ⟨?_, N0, rfl⟩
          simp [own_ant, c1_2, c8_5, c15_8]
      · have k10 : ∀ tt, Steps p.tables e below (s₁.setTop (mkF m 21 #[.val (.int k)] [(.int (3 : Int32))])) tt → Steps p.tables e below (s₁.setTop (entryFrame m #[(.int k)] 1)) tt := by
          intro tt kk
          refine k7 tt ?_
          show Steps p.tables e below (s₁.setTop (mkF m 15 #[.val (.int k)] [(.int (2 : Int32)), (.int k)])) tt
          refine XS.icmpYes X0.here hx rfl (pc0 := 15) (pc' := 20) rfl (hb hby d1_15) rfl (feq (c15_8 : ¬ (k = (2 : Int32)))).2 (by decide) (by decide) ?_
          show Steps p.tables e below (s₁.setTop (mkF m 20 #[.val (.int k)] [])) tt
          refine XS.iconst X0.here hx rfl (hb hby d1_20) ?_
          exact kk
        obtain ⟨fs, hr, hrun, hended, hW, hsame⟩ := X0.leave (v := some (.int (3 : Int32))) (fun hq => by rw [Bd.returns] at hq; cases hq)
        refine ⟨_, _, k10 _ ?_, hrun, hended, _, _, rfl, ?_, ⟨_, rfl⟩, hW, hsame.mono (by decide) (by decide)⟩
        · show Steps p.tables e below (s₁.setTop (mkF m 21 #[.val (.int k)] [(.int (3 : Int32))])) _
          exact retI X0 hx Bd.returns (hb hby d1_21) hr
        · show (fun (v : Option Value) (h : Heap) (L : List Loc) => v = some (.int (own_ant k)) ∧ Fr n0 L ∧ h = h0) _ s₁.heap _
          rw [e0]
          dsimp only
          refine ⟨?_, N0, rfl⟩
          simp [own_ant, c1_2, c8_5, c15_8]
theorem own_pn_2 : plainName "com/example/probematch/probematch/generate/BloodType" = true := by first | (simp [plainName, overriddenIn]; done) | decide +kernel
theorem d2_0 : decode prog_28_method_4_code 0 = .ok (.aload_n 0, 1) := by decide +kernel
theorem d2_1 : decode prog_28_method_4_code 1 = .ok (.getstatic 3, 3) := by decide +kernel
theorem d2_4 : decode prog_28_method_4_code 4 = .ok (.if_acmp .eq 15, 3) := by decide +kernel
theorem d2_19 : decode prog_28_method_4_code 19 = .ok (.iconst 1, 1) := by decide +kernel
theorem d2_20 : decode prog_28_method_4_code 20 = .ok (.goto 4, 3) := by decide +kernel
theorem d2_24 : decode prog_28_method_4_code 24 = .ok (.ireturn, 1) := by decide +kernel
theorem d2_7 : decode prog_28_method_4_code 7 = .ok (.aload_n 0, 1) := by decide +kernel
theorem d2_8 : decode prog_28_method_4_code 8 = .ok (.aload_n 1, 1) := by decide +kernel
theorem d2_9 : decode prog_28_method_4_code 9 = .ok (.if_acmp .eq 10, 3) := by decide +kernel
theorem d2_12 : decode prog_28_method_4_code 12 = .ok (.aload_n 1, 1) := by decide +kernel
theorem d2_13 : decode prog_28_method_4_code 13 = .ok (.getstatic 13, 3) := by decide +kernel
theorem d2_16 : decode prog_28_method_4_code 16 = .ok (.if_acmp .ne 7, 3) := by decide +kernel
theorem d2_23 : decode prog_28_method_4_code 23 = .ok (.iconst 0, 1) := by decide +kernel
def own_rmG_Q (Z : State) (a : Addr) (b : Addr) (wO wAB : Addr) (h0 : Heap) (n0 : Nat) (v : Option Value) (h : Heap) (L : List Loc) : Prop := v = some (.int (own_cg a b wO wAB)) ∧ Fr n0 L ∧ h = h0
set_option maxRecDepth 65536 in
set_option maxHeartbeats 40000000 in
theorem own_rmG (l : Launch) (Z : State) (a0 : Array Value) (hw : ∀ d ∈ tables_1, d.before a0 Z = true) (ws : List Jvm.Cond) (a : Addr) (b : Addr) (wO wAB : Addr) (h0 : Heap) (n0 : Nat) (Z0 : n0 ≤ h0.size) (S_wO : Sta Z h0 "com/example/probematch/probematch/generate/BloodType" "O" "Lcom/example/probematch/probematch/generate/BloodType;" (.ref wO)) (S_wAB : Sta Z h0 "com/example/probematch/probematch/generate/BloodType" "AB" "Lcom/example/probematch/probematch/generate/BloodType;" (.ref wAB)) :
    MetFree l (⟨"com/example/probematch/probematch/generate/BloodType", "canGiveTo", "(Lcom/example/probematch/probematch/generate/BloodType;)Z"⟩ : MethodName) (head1 (Jvm.Cond.code (⟨"com/example/probematch/probematch/generate/BloodType", "canGiveTo", "(Lcom/example/probematch/probematch/generate/BloodType;)Z"⟩ : MethodName) prog_28_method_4_code 2 (some .boolean) :: ws) ({ frames := 0, cells := 0, slots := 0, locals := 0 } : Room)) (fun aa UU => aa = #[(.ref a), (.ref b)] ∧ Z.Warmed39 UU.vm ∧ UU.heap = h0) (fun _ _ _ _ _ => True) (fun _ UU oo UU' => ∃ vv LL, oo = .returned vv ∧ own_rmG_Q Z a b wO wAB h0 n0 vv UU'.heap LL ∧ FrameEnd UU oo UU' LL ({ frames := 0, cells := 0, slots := 0, locals := 0 } : Room).cells ({ frames := 0, cells := 0, slots := 0, locals := 0 } : Room).slots) := by
  refine MetFree.of_bodySF (plainFor_of_name own_pn_2) hisR ?_
  intro p e s m args below meth cc s₁ Bd hml0 hP hK
  obtain ⟨rfl, hZ, hh⟩ := hP
  have hx := Bd.exec
  have hby := Bd.bytes
  have hml : cc.maxLocals = 2 := hml0
  have hown : s.vm.findClass "com/example/probematch/probematch/generate/BloodType" = some m.cls := findClass_of_methodNamed Bd.named
  have hnm := (name_of_methodNamed Bd.named Bd.method).1
  have X0 : Stand p l e ({ frames := 0, cells := 0, slots := 0, locals := 0 } : Room) s m #[(.ref a), (.ref b)] below meth cc s₁ [] 0 0 := Stand.of_body Bd
  have e0 : s₁.heap = h0 := by rw [← hh, Bd.state]; rfl
  have N0 := Fr.nil n0
  have k0 : ∀ tt, Steps p.tables e below (s₁.setTop (mkF m 0 #[.val (.ref a), .val (.ref b)] [])) tt → Steps p.tables e below (s₁.setTop (entryFrame m #[(.ref a), (.ref b)] 2)) tt := fun tt kk => castTop (by first | (simp [entryFrame, mkF, argsToLocals, Value.category]; done) | rfl) kk
  obtain ⟨T1, X1, e1, st1⟩ := getS2 X0 hx hZ hown (host := "") (Or.inl (hw _ (List.mem_of_getElem? (i := 21) rfl))) Via.refl e0 S_wO (g := (mkF m 1 #[.val (.ref a), .val (.ref b)] [(.ref a)])) rfl (hb hby d2_1)
  have k2 : ∀ tt, Steps p.tables e below (T1.setTop (mkF m 4 #[.val (.ref a), .val (.ref b)] [(.ref wO), (.ref a)])) tt → Steps p.tables e below (s₁.setTop (entryFrame m #[(.ref a), (.ref b)] 2)) tt := by
    intro tt kk
    refine k0 tt ?_
    show Steps p.tables e below (s₁.setTop (mkF m 0 #[.val (.ref a), .val (.ref b)] [])) tt
    refine XS.aloadN X0.here hx rfl (hb hby d2_0) rfl rfl ?_
    show Steps p.tables e below (s₁.setTop (mkF m 1 #[.val (.ref a), .val (.ref b)] [(.ref a)])) tt
    refine st1 _ ?_
    exact kk
  by_cases c4_3 : a = wO
  · have k4 : ∀ tt, Steps p.tables e below (T1.setTop (mkF m 24 #[.val (.ref a), .val (.ref b)] [(.int (1 : Int32))])) tt → Steps p.tables e below (s₁.setTop (entryFrame m #[(.ref a), (.ref b)] 2)) tt := by
      intro tt kk
      refine k2 tt ?_
      show Steps p.tables e below (T1.setTop (mkF m 4 #[.val (.ref a), .val (.ref b)] [(.ref wO), (.ref a)])) tt
      refine Jvm.RoadKit.acmp (g := (mkF m 4 #[.val (.ref a), .val (.ref b)] [(.ref wO), (.ref a)])) X1 hx rfl rfl rfl (pc0 := 4) (pc' := 19) (same := true) rfl (hb hby d2_4) rfl (decide_eq_true (congrArg Value.ref (c4_3))) (by decide) (by decide) ?_
      show Steps p.tables e below (T1.setTop (mkF m 19 #[.val (.ref a), .val (.ref b)] [])) tt
      refine XS.iconst X1.here hx rfl (hb hby d2_19) ?_
      show Steps p.tables e below (T1.setTop (mkF m 20 #[.val (.ref a), .val (.ref b)] [(.int (1 : Int32))])) tt
      refine XS.goto X1.here hx rfl (pc0 := 20) (pc' := 24) rfl (hb hby d2_20) (by decide) (by decide) ?_
      exact kk
    obtain ⟨fs, hr, hrun, hended, hW, hsame⟩ := X1.leave (v := some (.int (1 : Int32))) (fun hq => by rw [Bd.returns] at hq; cases hq)
    refine ⟨_, _, k4 _ ?_, hrun, hended, _, _, rfl, ?_, ⟨_, rfl⟩, hW, hsame.mono (by decide) (by decide)⟩
    · show Steps p.tables e below (T1.setTop (mkF m 24 #[.val (.ref a), .val (.ref b)] [(.int (1 : Int32))])) _
      exact retN X1 hx (t := .boolean) Bd.returns (by simp) (hb hby d2_24) hr
    · show (fun (v : Option Value) (h : Heap) (L : List Loc) => v = some (.int (own_cg a b wO wAB)) ∧ Fr n0 L ∧ h = h0) _ T1.heap _
      rw [e1]
      dsimp only
      refine ⟨?_, N0, rfl⟩
      simp [own_cg, c4_3]
  · have k5 : ∀ tt, Steps p.tables e below (T1.setTop (mkF m 9 #[.val (.ref a), .val (.ref b)] [(.ref b), (.ref a)])) tt → Steps p.tables e below (s₁.setTop (entryFrame m #[(.ref a), (.ref b)] 2)) tt := by
      intro tt kk
      refine k2 tt ?_
      show Steps p.tables e below (T1.setTop (mkF m 4 #[.val (.ref a), .val (.ref b)] [(.ref wO), (.ref a)])) tt
      refine Jvm.RoadKit.acmp (g := (mkF m 4 #[.val (.ref a), .val (.ref b)] [(.ref wO), (.ref a)])) X1 hx rfl rfl rfl (pc0 := 4) (pc' := 7) (same := false) rfl (hb hby d2_4) rfl (decide_eq_false fun q => (c4_3) (Value.ref.inj q)) (by decide) (by decide) ?_
      show Steps p.tables e below (T1.setTop (mkF m 7 #[.val (.ref a), .val (.ref b)] [])) tt
      refine XS.aloadN X1.here hx rfl (hb hby d2_7) rfl rfl ?_
      show Steps p.tables e below (T1.setTop (mkF m 8 #[.val (.ref a), .val (.ref b)] [(.ref a)])) tt
      refine XS.aloadN X1.here hx rfl (hb hby d2_8) rfl rfl ?_
      exact kk
    by_cases c9_6 : a = b
    · have k7 : ∀ tt, Steps p.tables e below (T1.setTop (mkF m 24 #[.val (.ref a), .val (.ref b)] [(.int (1 : Int32))])) tt → Steps p.tables e below (s₁.setTop (entryFrame m #[(.ref a), (.ref b)] 2)) tt := by
        intro tt kk
        refine k5 tt ?_
        show Steps p.tables e below (T1.setTop (mkF m 9 #[.val (.ref a), .val (.ref b)] [(.ref b), (.ref a)])) tt
        refine Jvm.RoadKit.acmp (g := (mkF m 9 #[.val (.ref a), .val (.ref b)] [(.ref b), (.ref a)])) X1 hx rfl rfl rfl (pc0 := 9) (pc' := 19) (same := true) rfl (hb hby d2_9) rfl (decide_eq_true (congrArg Value.ref (c9_6))) (by decide) (by decide) ?_
        show Steps p.tables e below (T1.setTop (mkF m 19 #[.val (.ref a), .val (.ref b)] [])) tt
        refine XS.iconst X1.here hx rfl (hb hby d2_19) ?_
        show Steps p.tables e below (T1.setTop (mkF m 20 #[.val (.ref a), .val (.ref b)] [(.int (1 : Int32))])) tt
        refine XS.goto X1.here hx rfl (pc0 := 20) (pc' := 24) rfl (hb hby d2_20) (by decide) (by decide) ?_
        exact kk
      obtain ⟨fs, hr, hrun, hended, hW, hsame⟩ := X1.leave (v := some (.int (1 : Int32))) (fun hq => by rw [Bd.returns] at hq; cases hq)
      refine ⟨_, _, k7 _ ?_, hrun, hended, _, _, rfl, ?_, ⟨_, rfl⟩, hW, hsame.mono (by decide) (by decide)⟩
      · show Steps p.tables e below (T1.setTop (mkF m 24 #[.val (.ref a), .val (.ref b)] [(.int (1 : Int32))])) _
        exact retN X1 hx (t := .boolean) Bd.returns (by simp) (hb hby d2_24) hr
      · show (fun (v : Option Value) (h : Heap) (L : List Loc) => v = some (.int (own_cg a b wO wAB)) ∧ Fr n0 L ∧ h = h0) _ T1.heap _
        rw [e1]
        dsimp only
        refine ⟨?_, N0, rfl⟩
        simp [own_cg, c4_3, c9_6]
    · obtain ⟨T8, X8, e8, st8⟩ := getS2 X1 hx hZ hown (host := "") (Or.inl (hw _ (List.mem_of_getElem? (i := 22) rfl))) Via.refl e1 S_wAB (g := (mkF m 13 #[.val (.ref a), .val (.ref b)] [(.ref b)])) rfl (hb hby d2_13)
      have k9 : ∀ tt, Steps p.tables e below (T8.setTop (mkF m 16 #[.val (.ref a), .val (.ref b)] [(.ref wAB), (.ref b)])) tt → Steps p.tables e below (s₁.setTop (entryFrame m #[(.ref a), (.ref b)] 2)) tt := by
        intro tt kk
        refine k5 tt ?_
        show Steps p.tables e below (T1.setTop (mkF m 9 #[.val (.ref a), .val (.ref b)] [(.ref b), (.ref a)])) tt
        refine Jvm.RoadKit.acmp (g := (mkF m 9 #[.val (.ref a), .val (.ref b)] [(.ref b), (.ref a)])) X1 hx rfl rfl rfl (pc0 := 9) (pc' := 12) (same := false) rfl (hb hby d2_9) rfl (decide_eq_false fun q => (c9_6) (Value.ref.inj q)) (by decide) (by decide) ?_
        show Steps p.tables e below (T1.setTop (mkF m 12 #[.val (.ref a), .val (.ref b)] [])) tt
        refine XS.aloadN X1.here hx rfl (hb hby d2_12) rfl rfl ?_
        show Steps p.tables e below (T1.setTop (mkF m 13 #[.val (.ref a), .val (.ref b)] [(.ref b)])) tt
        refine st8 _ ?_
        exact kk
      by_cases c16_10 : b = wAB
      · have k11 : ∀ tt, Steps p.tables e below (T8.setTop (mkF m 24 #[.val (.ref a), .val (.ref b)] [(.int (1 : Int32))])) tt → Steps p.tables e below (s₁.setTop (entryFrame m #[(.ref a), (.ref b)] 2)) tt := by
          intro tt kk
          refine k9 tt ?_
          show Steps p.tables e below (T8.setTop (mkF m 16 #[.val (.ref a), .val (.ref b)] [(.ref wAB), (.ref b)])) tt
          refine Jvm.RoadKit.acmp (g := (mkF m 16 #[.val (.ref a), .val (.ref b)] [(.ref wAB), (.ref b)])) X8 hx rfl rfl rfl (pc0 := 16) (pc' := 19) (same := true) rfl (hb hby d2_16) rfl (decide_eq_true (congrArg Value.ref (c16_10))) (by decide) (by decide) ?_
          show Steps p.tables e below (T8.setTop (mkF m 19 #[.val (.ref a), .val (.ref b)] [])) tt
          refine XS.iconst X8.here hx rfl (hb hby d2_19) ?_
          show Steps p.tables e below (T8.setTop (mkF m 20 #[.val (.ref a), .val (.ref b)] [(.int (1 : Int32))])) tt
          refine XS.goto X8.here hx rfl (pc0 := 20) (pc' := 24) rfl (hb hby d2_20) (by decide) (by decide) ?_
          exact kk
        obtain ⟨fs, hr, hrun, hended, hW, hsame⟩ := X8.leave (v := some (.int (1 : Int32))) (fun hq => by rw [Bd.returns] at hq; cases hq)
        refine ⟨_, _, k11 _ ?_, hrun, hended, _, _, rfl, ?_, ⟨_, rfl⟩, hW, hsame.mono (by decide) (by decide)⟩
        · show Steps p.tables e below (T8.setTop (mkF m 24 #[.val (.ref a), .val (.ref b)] [(.int (1 : Int32))])) _
          exact retN X8 hx (t := .boolean) Bd.returns (by simp) (hb hby d2_24) hr
        · show (fun (v : Option Value) (h : Heap) (L : List Loc) => v = some (.int (own_cg a b wO wAB)) ∧ Fr n0 L ∧ h = h0) _ T8.heap _
          rw [e8]
          dsimp only
          refine ⟨?_, N0, rfl⟩
          simp [own_cg, c4_3, c9_6, c16_10]
      · have k12 : ∀ tt, Steps p.tables e below (T8.setTop (mkF m 24 #[.val (.ref a), .val (.ref b)] [(.int (0 : Int32))])) tt → Steps p.tables e below (s₁.setTop (entryFrame m #[(.ref a), (.ref b)] 2)) tt := by
          intro tt kk
          refine k9 tt ?_
          show Steps p.tables e below (T8.setTop (mkF m 16 #[.val (.ref a), .val (.ref b)] [(.ref wAB), (.ref b)])) tt
          refine Jvm.RoadKit.acmp (g := (mkF m 16 #[.val (.ref a), .val (.ref b)] [(.ref wAB), (.ref b)])) X8 hx rfl rfl rfl (pc0 := 16) (pc' := 23) (same := false) rfl (hb hby d2_16) rfl (decide_eq_false fun q => (c16_10) (Value.ref.inj q)) (by decide) (by decide) ?_
          show Steps p.tables e below (T8.setTop (mkF m 23 #[.val (.ref a), .val (.ref b)] [])) tt
          refine XS.iconst X8.here hx rfl (hb hby d2_23) ?_
          exact kk
        obtain ⟨fs, hr, hrun, hended, hW, hsame⟩ := X8.leave (v := some (.int (0 : Int32))) (fun hq => by rw [Bd.returns] at hq; cases hq)
        refine ⟨_, _, k12 _ ?_, hrun, hended, _, _, rfl, ?_, ⟨_, rfl⟩, hW, hsame.mono (by decide) (by decide)⟩
        · show Steps p.tables e below (T8.setTop (mkF m 24 #[.val (.ref a), .val (.ref b)] [(.int (0 : Int32))])) _
          exact retN X8 hx (t := .boolean) Bd.returns (by simp) (hb hby d2_24) hr
        · show (fun (v : Option Value) (h : Heap) (L : List Loc) => v = some (.int (own_cg a b wO wAB)) ∧ Fr n0 L ∧ h = h0) _ T8.heap _
          rw [e8]
          dsimp only
          refine ⟨?_, N0, rfl⟩
          simp [own_cg, c4_3, c9_6, c16_10]
theorem own_pn_0 : plainName "com/example/probematch/probematch/generate/BloodTypeCanGiveToPinLaw" = true := by first | (simp [plainName, overriddenIn]; done) | decide +kernel
theorem own_pd__I_I : parseMethodDescriptor "(I)I" = some ⟨[.int], some .int⟩ := by decide +kernel
theorem own_pd__Lcom_example_probematch_probematch_generate_BloodType__Z : parseMethodDescriptor "(Lcom/example/probematch/probematch/generate/BloodType;)Z" = some ⟨[(.object "com/example/probematch/probematch/generate/BloodType")], some .boolean⟩ := by decide +kernel
def own_rm0_Q (Z : State) (p1 : Int32) (p2 : Int32) (wO wA wB wAB : Addr) (h0 : Heap) (n0 : Nat) (v : Option Value) (h : Heap) (L : List Loc) : Prop := v = some (.int (1 : Int32)) ∧ Fr n0 L
set_option maxRecDepth 65536 in
set_option maxHeartbeats 40000000 in
theorem own_rm0 (l : Launch) (Z : State) (a0 : Array Value) (hw : ∀ d ∈ tables_1, d.before a0 Z = true) (ws : List Jvm.Cond) (p1 : Int32) (p2 : Int32) (wO wA wB wAB : Addr) (h0 : Heap) (n0 : Nat) (Z0 : n0 ≤ h0.size) (S_wO : Sta Z h0 "com/example/probematch/probematch/generate/BloodType" "O" "Lcom/example/probematch/probematch/generate/BloodType;" (.ref wO)) (S_wA : Sta Z h0 "com/example/probematch/probematch/generate/BloodType" "A" "Lcom/example/probematch/probematch/generate/BloodType;" (.ref wA)) (S_wB : Sta Z h0 "com/example/probematch/probematch/generate/BloodType" "B" "Lcom/example/probematch/probematch/generate/BloodType;" (.ref wB)) (S_wAB : Sta Z h0 "com/example/probematch/probematch/generate/BloodType" "AB" "Lcom/example/probematch/probematch/generate/BloodType;" (.ref wAB)) (E_wO : Exa Z h0 wO "com/example/probematch/probematch/generate/BloodType") (E_wA : Exa Z h0 wA "com/example/probematch/probematch/generate/BloodType") (E_wB : Exa Z h0 wB "com/example/probematch/probematch/generate/BloodType") (E_wAB : Exa Z h0 wAB "com/example/probematch/probematch/generate/BloodType") (n_wO_wA : wO ≠ wA) (n_wO_wB : wO ≠ wB) (n_wO_wAB : wO ≠ wAB) (n_wA_wO : wA ≠ wO) (n_wA_wB : wA ≠ wB) (n_wA_wAB : wA ≠ wAB) (n_wB_wO : wB ≠ wO) (n_wB_wA : wB ≠ wA) (n_wB_wAB : wB ≠ wAB) (n_wAB_wO : wAB ≠ wO) (n_wAB_wA : wAB ≠ wA) (n_wAB_wB : wAB ≠ wB) :
    MetFree l x (head1 (Jvm.Cond.code x code maxLocals ret :: ws) room_1) (fun aa UU => aa = #[(.int p1), (.int p2)] ∧ Z.Warmed39 UU.vm ∧ UU.heap = h0) (fun _ _ _ _ _ => True) (fun _ UU oo UU' => ∃ vv LL, oo = .returned vv ∧ own_rm0_Q Z p1 p2 wO wA wB wAB h0 n0 vv UU'.heap LL ∧ FrameEnd UU oo UU' LL room_1.cells room_1.slots) := by
  refine MetFree.of_bodySF (plainFor_of_name own_pn_0) hisR ?_
  intro p e s m args below meth cc s₁ Bd hml0 hP hK
  obtain ⟨rfl, hZ, hh⟩ := hP
  have hx := Bd.exec
  have hby := Bd.bytes
  have hml : cc.maxLocals = 8 := hml0
  have hown : s.vm.findClass "com/example/probematch/probematch/generate/BloodTypeCanGiveToPinLaw" = some m.cls := findClass_of_methodNamed Bd.named
  have hnm := (name_of_methodNamed Bd.named Bd.method).1
  have X0 : Stand p l e room_1 s m #[(.int p1), (.int p2)] below meth cc s₁ [] 0 0 := Stand.of_body Bd
  have e0 : s₁.heap = h0 := by rw [← hh, Bd.state]; rfl
  have N0 := Fr.nil n0
  have k0 : ∀ tt, Steps p.tables e below (s₁.setTop (mkF m 0 #[.val (.int p1), .val (.int p2), .unset, .unset, .unset, .unset, .unset, .unset] [])) tt → Steps p.tables e below (s₁.setTop (entryFrame m #[(.int p1), (.int p2)] maxLocals)) tt := fun tt kk => castTop (by first | (simp [entryFrame, mkF, argsToLocals, Value.category, maxLocals]; done) | rfl) kk
  obtain ⟨T1, h1, k1, X1, e1, E1, A1, O1, st1⟩ := newR X0 hx hZ hown (hw _ (List.mem_of_getElem? (i := 0) rfl)) (hw _ (List.mem_of_getElem? (i := 1) rfl)) e0 (g := (mkF m 1 #[.val (.int p1), .val (.int p2), .unset, .unset, .unset, .unset, .unset, .unset] [(.int (4 : Int32))])) rfl (hb hby at_1) rfl (by decide) (cap := 4) (by decide) (by decide) (by decide) (by decide)
  obtain ⟨b1, g1⟩ : ∃ z, z = h0.size := ⟨_, rfl⟩
  rw [← g1] at A1 st1
  have g_b1 : n0 ≤ b1 := Nat.le_trans Z0 (Nat.le_of_eq g1.symm)
  have sz_b1 : h0.size ≤ b1 := Nat.le_trans (Keep.refl h0 []).1 (Nat.le_of_eq g1.symm)
  have Z1 : n0 ≤ h1.size := Nat.le_trans Z0 E1.1
  have K1 := Keep.ext (Keep.refl h0 []) E1
  have V1 : Arv Z h1 b1 k1 (.object "com/example/probematch/probematch/generate/BloodType") (4 : Int32) [.null, .null, .null, .null] .null := (Arv.new A1 (by decide)).pad (pad_rep [] .null 4)
  obtain ⟨T2, X2, e2, st2⟩ := getS2 X1 hx hZ hown (host := "") (Or.inl (hw _ (List.mem_of_getElem? (i := 2) rfl))) Via.refl e1 (Sta.ext E1 S_wO) (g := (mkF m 6 #[.val (.int p1), .val (.int p2), .unset, .unset, .unset, .unset, .unset, .unset] [(.int (0 : Int32)), (.ref b1), (.ref b1)])) rfl (hb hby at_6)
  obtain ⟨cl3, Ar3, q3, S3, P3, H3, G3⟩ := id V1
  have hin3 : ¬ ((0 : Int32) < 0 ∨ cl3.slots.size ≤ ((0 : Int32)).toNatClampNeg) := inb_of S3 ⟨by decide, by decide⟩
  obtain ⟨T4, h4, X4, e4, W4, st4⟩ := stR X2 hx hZ e2 Ar3 (j := (0 : Int32)) hin3 rfl (Sto.ofV Ar3 q3 O1 (Ins.self (Exa.ext E1 E_wO))) (g := (mkF m 9 #[.val (.int p1), .val (.int p2), .unset, .unset, .unset, .unset, .unset, .unset] [(.ref wO), (.int (0 : Int32)), (.ref b1), (.ref b1)])) rfl rfl (hb hby at_9)
  have V4 : Arv Z h4 b1 k1 (.object "com/example/probematch/probematch/generate/BloodType") (4 : Int32) [(.ref wO), .null, .null, .null] .null := Arv.set Ar3 q3 S3 P3 H3 G3 rfl W4 0 rfl (Nat.le_of_ble_eq_true rfl)
  have Z4 : n0 ≤ h4.size := Nat.le_trans Z1 (Keep.of_wr W4).1
  have N4 := Fr.snoc X4 N0 g_b1
  have K4 := Keep.wr K1 W4 (Or.inr sz_b1)
  obtain ⟨T5, X5, e5, st5⟩ := getS2 X4 hx hZ hown (host := "") (Or.inl (hw _ (List.mem_of_getElem? (i := 6) rfl))) Via.refl e4 (own_sta_keep0 S_wA K4) (g := (mkF m 12 #[.val (.int p1), .val (.int p2), .unset, .unset, .unset, .unset, .unset, .unset] [(.int (1 : Int32)), (.ref b1), (.ref b1)])) rfl (hb hby at_12)
  obtain ⟨cl6, Ar6, q6, S6, P6, H6, G6⟩ := id V4
  have hin6 : ¬ ((1 : Int32) < 0 ∨ cl6.slots.size ≤ ((1 : Int32)).toNatClampNeg) := inb_of S6 ⟨by decide, by decide⟩
  obtain ⟨T7, h7, X7, e7, W7, st7⟩ := stR X5 hx hZ e5 Ar6 (j := (1 : Int32)) hin6 rfl (Sto.ofV Ar6 q6 O1 (Ins.self (Exa.keep E_wA K4))) (g := (mkF m 15 #[.val (.int p1), .val (.int p2), .unset, .unset, .unset, .unset, .unset, .unset] [(.ref wA), (.int (1 : Int32)), (.ref b1), (.ref b1)])) rfl rfl (hb hby at_15)
  have V7 : Arv Z h7 b1 k1 (.object "com/example/probematch/probematch/generate/BloodType") (4 : Int32) [(.ref wO), (.ref wA), .null, .null] .null := Arv.set Ar6 q6 S6 P6 H6 G6 rfl W7 1 rfl (Nat.le_of_ble_eq_true rfl)
  have Z7 : n0 ≤ h7.size := Nat.le_trans Z4 (Keep.of_wr W7).1
  have N7 := Fr.snoc X7 N4 g_b1
  have K7 := Keep.wr K4 W7 (Or.inr sz_b1)
  obtain ⟨T8, X8, e8, st8⟩ := getS2 X7 hx hZ hown (host := "") (Or.inl (hw _ (List.mem_of_getElem? (i := 8) rfl))) Via.refl e7 (own_sta_keep0 S_wB K7) (g := (mkF m 18 #[.val (.int p1), .val (.int p2), .unset, .unset, .unset, .unset, .unset, .unset] [(.int (2 : Int32)), (.ref b1), (.ref b1)])) rfl (hb hby at_18)
  obtain ⟨cl9, Ar9, q9, S9, P9, H9, G9⟩ := id V7
  have hin9 : ¬ ((2 : Int32) < 0 ∨ cl9.slots.size ≤ ((2 : Int32)).toNatClampNeg) := inb_of S9 ⟨by decide, by decide⟩
  obtain ⟨T10, h10, X10, e10, W10, st10⟩ := stR X8 hx hZ e8 Ar9 (j := (2 : Int32)) hin9 rfl (Sto.ofV Ar9 q9 O1 (Ins.self (Exa.keep E_wB K7))) (g := (mkF m 21 #[.val (.int p1), .val (.int p2), .unset, .unset, .unset, .unset, .unset, .unset] [(.ref wB), (.int (2 : Int32)), (.ref b1), (.ref b1)])) rfl rfl (hb hby at_21)
  have V10 : Arv Z h10 b1 k1 (.object "com/example/probematch/probematch/generate/BloodType") (4 : Int32) [(.ref wO), (.ref wA), (.ref wB), .null] .null := Arv.set Ar9 q9 S9 P9 H9 G9 rfl W10 2 rfl (Nat.le_of_ble_eq_true rfl)
  have Z10 : n0 ≤ h10.size := Nat.le_trans Z7 (Keep.of_wr W10).1
  have N10 := Fr.snoc X10 N7 g_b1
  have K10 := Keep.wr K7 W10 (Or.inr sz_b1)
  obtain ⟨T11, X11, e11, st11⟩ := getS2 X10 hx hZ hown (host := "") (Or.inl (hw _ (List.mem_of_getElem? (i := 10) rfl))) Via.refl e10 (own_sta_keep0 S_wAB K10) (g := (mkF m 24 #[.val (.int p1), .val (.int p2), .unset, .unset, .unset, .unset, .unset, .unset] [(.int (3 : Int32)), (.ref b1), (.ref b1)])) rfl (hb hby at_24)
  obtain ⟨cl12, Ar12, q12, S12, P12, H12, G12⟩ := id V10
  have hin12 : ¬ ((3 : Int32) < 0 ∨ cl12.slots.size ≤ ((3 : Int32)).toNatClampNeg) := inb_of S12 ⟨by decide, by decide⟩
  obtain ⟨T13, h13, X13, e13, W13, st13⟩ := stR X11 hx hZ e11 Ar12 (j := (3 : Int32)) hin12 rfl (Sto.ofV Ar12 q12 O1 (Ins.self (Exa.keep E_wAB K10))) (g := (mkF m 27 #[.val (.int p1), .val (.int p2), .unset, .unset, .unset, .unset, .unset, .unset] [(.ref wAB), (.int (3 : Int32)), (.ref b1), (.ref b1)])) rfl rfl (hb hby at_27)
  have V13 : Arv Z h13 b1 k1 (.object "com/example/probematch/probematch/generate/BloodType") (4 : Int32) [(.ref wO), (.ref wA), (.ref wB), (.ref wAB)] .null := Arv.set Ar12 q12 S12 P12 H12 G12 rfl W13 3 rfl (Nat.le_of_ble_eq_true rfl)
  have Z13 : n0 ≤ h13.size := Nat.le_trans Z10 (Keep.of_wr W13).1
  have N13 := Fr.snoc X13 N10 g_b1
  have K13 := Keep.wr K10 W13 (Or.inr sz_b1)
  obtain ⟨_, _, ⟨T14, L14, ka14, na14⟩, -, X14, ⟨Lc14, hQ14, l14, y14, z14⟩, st14⟩ := Jvm.LawKit.callS X13 hx (y := (⟨"com/example/probematch/probematch/generate/BloodTypeCanGiveToPinLaw", "antigens", "(I)I"⟩ : MethodName)) hown (mvT hZ (hw _ (List.mem_of_getElem? (i := 12) rfl))) (mvT hZ (hw _ (List.mem_of_getElem? (i := 13) rfl))) (mvT hZ (hw _ (List.mem_of_getElem? (i := 14) rfl))) (mvT hZ (hw _ (List.mem_of_getElem? (i := 15) rfl))) (by decide) (backOf (W := 0) (own_rmA l Z a0 hw [] (p1 &&& (3 : Int32)) h13 n0 Z13) hZ (hw _ (List.mem_of_getElem? (i := 15) rfl)) (hw _ (List.mem_of_getElem? (i := 14) rfl)) (by decide) (by decide)) (g := (mkF m 39 #[.val (.int p1), .val (.int p2), .val (.ref b1), .val (.int (p1 &&& (3 : Int32))), .val (.int (p2 &&& (3 : Int32))), .unset, .unset, .unset] [(.int (p1 &&& (3 : Int32)))])) rfl (by rw [hml]; rfl) (argsL := [(.int (p1 &&& (3 : Int32)))]) (rest := []) (lenOf own_pd__I_I rfl) rfl (by show 2 * 0 + _ ≤ _; exact Nat.le_of_eq rfl) (hb hby at_39) (fun _ _ => ⟨rfl, e13, (by decide : 1 + 0 ≤ _), (by decide : 4 + 0 ≤ _)⟩)
  dsimp only [Pt.U, Pt.locs, Pt.cells, Pt.slots] at X14 l14 y14 z14 st14 hQ14
  subst l14 y14 z14
  obtain ⟨rfl, Nq14, hh14⟩ := hQ14
  have N14 := Fr.app N13 Nq14
  obtain ⟨_, _, ⟨T15, L15, ka15, na15⟩, -, X15, ⟨Lc15, hQ15, l15, y15, z15⟩, st15⟩ := Jvm.LawKit.callS X14 hx (y := (⟨"com/example/probematch/probematch/generate/BloodTypeCanGiveToPinLaw", "antigens", "(I)I"⟩ : MethodName)) hown (mvT hZ (hw _ (List.mem_of_getElem? (i := 12) rfl))) (mvT hZ (hw _ (List.mem_of_getElem? (i := 13) rfl))) (mvT hZ (hw _ (List.mem_of_getElem? (i := 14) rfl))) (mvT hZ (hw _ (List.mem_of_getElem? (i := 15) rfl))) (by decide) (backOf (W := 0) (own_rmA l Z a0 hw [] (p2 &&& (3 : Int32)) h13 n0 Z13) hZ (hw _ (List.mem_of_getElem? (i := 15) rfl)) (hw _ (List.mem_of_getElem? (i := 14) rfl)) (by decide) (by decide)) (g := (mkF m 46 #[.val (.int p1), .val (.int p2), .val (.ref b1), .val (.int (p1 &&& (3 : Int32))), .val (.int (p2 &&& (3 : Int32))), .val (.int (own_ant (p1 &&& (3 : Int32)))), .unset, .unset] [(.int (p2 &&& (3 : Int32)))])) rfl (by rw [hml]; rfl) (argsL := [(.int (p2 &&& (3 : Int32)))]) (rest := []) (lenOf own_pd__I_I rfl) rfl (by show 2 * 0 + _ ≤ _; exact Nat.le_of_eq rfl) (hb hby at_46) (fun _ _ => ⟨rfl, hh14, (by decide : 1 + 0 ≤ _), (by decide : 4 + 0 ≤ _)⟩)
  dsimp only [Pt.U, Pt.locs, Pt.cells, Pt.slots] at X15 l15 y15 z15 st15 hQ15
  subst l15 y15 z15
  obtain ⟨rfl, Nq15, hh15⟩ := hQ15
  have N15 := Fr.app N14 Nq15
  have k16 : ∀ tt, Steps p.tables e below (T15.setTop (mkF m 58 #[.val (.int p1), .val (.int p2), .val (.ref b1), .val (.int (p1 &&& (3 : Int32))), .val (.int (p2 &&& (3 : Int32))), .val (.int (own_ant (p1 &&& (3 : Int32)))), .val (.int (own_ant (p2 &&& (3 : Int32)))), .unset] [(.int ((own_ant (p1 &&& (3 : Int32))) &&& ((own_ant (p2 &&& (3 : Int32))) ^^^ (-1 : Int32))))])) tt → Steps p.tables e below (s₁.setTop (entryFrame m #[(.int p1), (.int p2)] maxLocals)) tt := by
    intro tt kk
    refine k0 tt ?_
    show Steps p.tables e below (s₁.setTop (mkF m 0 #[.val (.int p1), .val (.int p2), .unset, .unset, .unset, .unset, .unset, .unset] [])) tt
    refine XS.iconst X0.here hx rfl (hb hby at_0) ?_
    show Steps p.tables e below (s₁.setTop (mkF m 1 #[.val (.int p1), .val (.int p2), .unset, .unset, .unset, .unset, .unset, .unset] [(.int (4 : Int32))])) tt
    refine st1 _ ?_
    show Steps p.tables e below (T1.setTop (mkF m 4 #[.val (.int p1), .val (.int p2), .unset, .unset, .unset, .unset, .unset, .unset] [(.ref b1)])) tt
    refine XS.dup X1.here hx rfl (hb hby at_4) rfl rfl ?_
    show Steps p.tables e below (T1.setTop (mkF m 5 #[.val (.int p1), .val (.int p2), .unset, .unset, .unset, .unset, .unset, .unset] [(.ref b1), (.ref b1)])) tt
    refine XS.iconst X1.here hx rfl (hb hby at_5) ?_
    show Steps p.tables e below (T1.setTop (mkF m 6 #[.val (.int p1), .val (.int p2), .unset, .unset, .unset, .unset, .unset, .unset] [(.int (0 : Int32)), (.ref b1), (.ref b1)])) tt
    refine st2 _ ?_
    show Steps p.tables e below (T2.setTop (mkF m 9 #[.val (.int p1), .val (.int p2), .unset, .unset, .unset, .unset, .unset, .unset] [(.ref wO), (.int (0 : Int32)), (.ref b1), (.ref b1)])) tt
    refine st4 _ ?_
    show Steps p.tables e below (T4.setTop (mkF m 10 #[.val (.int p1), .val (.int p2), .unset, .unset, .unset, .unset, .unset, .unset] [(.ref b1)])) tt
    refine XS.dup X4.here hx rfl (hb hby at_10) rfl rfl ?_
    show Steps p.tables e below (T4.setTop (mkF m 11 #[.val (.int p1), .val (.int p2), .unset, .unset, .unset, .unset, .unset, .unset] [(.ref b1), (.ref b1)])) tt
    refine XS.iconst X4.here hx rfl (hb hby at_11) ?_
    show Steps p.tables e below (T4.setTop (mkF m 12 #[.val (.int p1), .val (.int p2), .unset, .unset, .unset, .unset, .unset, .unset] [(.int (1 : Int32)), (.ref b1), (.ref b1)])) tt
    refine st5 _ ?_
    show Steps p.tables e below (T5.setTop (mkF m 15 #[.val (.int p1), .val (.int p2), .unset, .unset, .unset, .unset, .unset, .unset] [(.ref wA), (.int (1 : Int32)), (.ref b1), (.ref b1)])) tt
    refine st7 _ ?_
    show Steps p.tables e below (T7.setTop (mkF m 16 #[.val (.int p1), .val (.int p2), .unset, .unset, .unset, .unset, .unset, .unset] [(.ref b1)])) tt
    refine XS.dup X7.here hx rfl (hb hby at_16) rfl rfl ?_
    show Steps p.tables e below (T7.setTop (mkF m 17 #[.val (.int p1), .val (.int p2), .unset, .unset, .unset, .unset, .unset, .unset] [(.ref b1), (.ref b1)])) tt
    refine XS.iconst X7.here hx rfl (hb hby at_17) ?_
    show Steps p.tables e below (T7.setTop (mkF m 18 #[.val (.int p1), .val (.int p2), .unset, .unset, .unset, .unset, .unset, .unset] [(.int (2 : Int32)), (.ref b1), (.ref b1)])) tt
    refine st8 _ ?_
    show Steps p.tables e below (T8.setTop (mkF m 21 #[.val (.int p1), .val (.int p2), .unset, .unset, .unset, .unset, .unset, .unset] [(.ref wB), (.int (2 : Int32)), (.ref b1), (.ref b1)])) tt
    refine st10 _ ?_
    show Steps p.tables e below (T10.setTop (mkF m 22 #[.val (.int p1), .val (.int p2), .unset, .unset, .unset, .unset, .unset, .unset] [(.ref b1)])) tt
    refine XS.dup X10.here hx rfl (hb hby at_22) rfl rfl ?_
    show Steps p.tables e below (T10.setTop (mkF m 23 #[.val (.int p1), .val (.int p2), .unset, .unset, .unset, .unset, .unset, .unset] [(.ref b1), (.ref b1)])) tt
    refine XS.iconst X10.here hx rfl (hb hby at_23) ?_
    show Steps p.tables e below (T10.setTop (mkF m 24 #[.val (.int p1), .val (.int p2), .unset, .unset, .unset, .unset, .unset, .unset] [(.int (3 : Int32)), (.ref b1), (.ref b1)])) tt
    refine st11 _ ?_
    show Steps p.tables e below (T11.setTop (mkF m 27 #[.val (.int p1), .val (.int p2), .unset, .unset, .unset, .unset, .unset, .unset] [(.ref wAB), (.int (3 : Int32)), (.ref b1), (.ref b1)])) tt
    refine st13 _ ?_
    show Steps p.tables e below (T13.setTop (mkF m 28 #[.val (.int p1), .val (.int p2), .unset, .unset, .unset, .unset, .unset, .unset] [(.ref b1)])) tt
    refine XS.astoreN X13.here hx rfl (hb hby at_28) rfl rfl (l' := #[.val (.int p1), .val (.int p2), .val (.ref b1), .unset, .unset, .unset, .unset, .unset]) rfl ?_
    show Steps p.tables e below (T13.setTop (mkF m 29 #[.val (.int p1), .val (.int p2), .val (.ref b1), .unset, .unset, .unset, .unset, .unset] [])) tt
    refine XS.iloadN X13.here hx rfl (hb hby at_29) rfl ?_
    show Steps p.tables e below (T13.setTop (mkF m 30 #[.val (.int p1), .val (.int p2), .val (.ref b1), .unset, .unset, .unset, .unset, .unset] [(.int p1)])) tt
    refine XS.iconst X13.here hx rfl (hb hby at_30) ?_
    show Steps p.tables e below (T13.setTop (mkF m 31 #[.val (.int p1), .val (.int p2), .val (.ref b1), .unset, .unset, .unset, .unset, .unset] [(.int (3 : Int32)), (.int p1)])) tt
    refine XS.iand X13.here hx rfl (hb hby at_31) rfl ?_
    show Steps p.tables e below (T13.setTop (mkF m 32 #[.val (.int p1), .val (.int p2), .val (.ref b1), .unset, .unset, .unset, .unset, .unset] [(.int (p1 &&& (3 : Int32)))])) tt
    refine XS.istoreN X13.here hx rfl (hb hby at_32) rfl (l' := #[.val (.int p1), .val (.int p2), .val (.ref b1), .val (.int (p1 &&& (3 : Int32))), .unset, .unset, .unset, .unset]) rfl ?_
    show Steps p.tables e below (T13.setTop (mkF m 33 #[.val (.int p1), .val (.int p2), .val (.ref b1), .val (.int (p1 &&& (3 : Int32))), .unset, .unset, .unset, .unset] [])) tt
    refine XS.iloadN X13.here hx rfl (hb hby at_33) rfl ?_
    show Steps p.tables e below (T13.setTop (mkF m 34 #[.val (.int p1), .val (.int p2), .val (.ref b1), .val (.int (p1 &&& (3 : Int32))), .unset, .unset, .unset, .unset] [(.int p2)])) tt
    refine XS.iconst X13.here hx rfl (hb hby at_34) ?_
    show Steps p.tables e below (T13.setTop (mkF m 35 #[.val (.int p1), .val (.int p2), .val (.ref b1), .val (.int (p1 &&& (3 : Int32))), .unset, .unset, .unset, .unset] [(.int (3 : Int32)), (.int p2)])) tt
    refine XS.iand X13.here hx rfl (hb hby at_35) rfl ?_
    show Steps p.tables e below (T13.setTop (mkF m 36 #[.val (.int p1), .val (.int p2), .val (.ref b1), .val (.int (p1 &&& (3 : Int32))), .unset, .unset, .unset, .unset] [(.int (p2 &&& (3 : Int32)))])) tt
    refine XS.istore X13.here hx rfl (hb hby at_36) rfl (l' := #[.val (.int p1), .val (.int p2), .val (.ref b1), .val (.int (p1 &&& (3 : Int32))), .val (.int (p2 &&& (3 : Int32))), .unset, .unset, .unset]) rfl ?_
    show Steps p.tables e below (T13.setTop (mkF m 38 #[.val (.int p1), .val (.int p2), .val (.ref b1), .val (.int (p1 &&& (3 : Int32))), .val (.int (p2 &&& (3 : Int32))), .unset, .unset, .unset] [])) tt
    refine XS.iloadN X13.here hx rfl (hb hby at_38) rfl ?_
    show Steps p.tables e below (T13.setTop (mkF m 39 #[.val (.int p1), .val (.int p2), .val (.ref b1), .val (.int (p1 &&& (3 : Int32))), .val (.int (p2 &&& (3 : Int32))), .unset, .unset, .unset] [(.int (p1 &&& (3 : Int32)))])) tt
    refine st14 _ ?_
    show Steps p.tables e below (T14.setTop (mkF m 42 #[.val (.int p1), .val (.int p2), .val (.ref b1), .val (.int (p1 &&& (3 : Int32))), .val (.int (p2 &&& (3 : Int32))), .unset, .unset, .unset] [(.int (own_ant (p1 &&& (3 : Int32))))])) tt
    refine XS.istore X14.here hx rfl (hb hby at_42) rfl (l' := #[.val (.int p1), .val (.int p2), .val (.ref b1), .val (.int (p1 &&& (3 : Int32))), .val (.int (p2 &&& (3 : Int32))), .val (.int (own_ant (p1 &&& (3 : Int32)))), .unset, .unset]) rfl ?_
    show Steps p.tables e below (T14.setTop (mkF m 44 #[.val (.int p1), .val (.int p2), .val (.ref b1), .val (.int (p1 &&& (3 : Int32))), .val (.int (p2 &&& (3 : Int32))), .val (.int (own_ant (p1 &&& (3 : Int32)))), .unset, .unset] [])) tt
    refine XS.iload X14.here hx rfl (hb hby at_44) rfl ?_
    show Steps p.tables e below (T14.setTop (mkF m 46 #[.val (.int p1), .val (.int p2), .val (.ref b1), .val (.int (p1 &&& (3 : Int32))), .val (.int (p2 &&& (3 : Int32))), .val (.int (own_ant (p1 &&& (3 : Int32)))), .unset, .unset] [(.int (p2 &&& (3 : Int32)))])) tt
    refine st15 _ ?_
    show Steps p.tables e below (T15.setTop (mkF m 49 #[.val (.int p1), .val (.int p2), .val (.ref b1), .val (.int (p1 &&& (3 : Int32))), .val (.int (p2 &&& (3 : Int32))), .val (.int (own_ant (p1 &&& (3 : Int32)))), .unset, .unset] [(.int (own_ant (p2 &&& (3 : Int32))))])) tt
    refine XS.istore X15.here hx rfl (hb hby at_49) rfl (l' := #[.val (.int p1), .val (.int p2), .val (.ref b1), .val (.int (p1 &&& (3 : Int32))), .val (.int (p2 &&& (3 : Int32))), .val (.int (own_ant (p1 &&& (3 : Int32)))), .val (.int (own_ant (p2 &&& (3 : Int32)))), .unset]) rfl ?_
    show Steps p.tables e below (T15.setTop (mkF m 51 #[.val (.int p1), .val (.int p2), .val (.ref b1), .val (.int (p1 &&& (3 : Int32))), .val (.int (p2 &&& (3 : Int32))), .val (.int (own_ant (p1 &&& (3 : Int32)))), .val (.int (own_ant (p2 &&& (3 : Int32)))), .unset] [])) tt
    refine XS.iload X15.here hx rfl (hb hby at_51) rfl ?_
    show Steps p.tables e below (T15.setTop (mkF m 53 #[.val (.int p1), .val (.int p2), .val (.ref b1), .val (.int (p1 &&& (3 : Int32))), .val (.int (p2 &&& (3 : Int32))), .val (.int (own_ant (p1 &&& (3 : Int32)))), .val (.int (own_ant (p2 &&& (3 : Int32)))), .unset] [(.int (own_ant (p1 &&& (3 : Int32))))])) tt
    refine XS.iload X15.here hx rfl (hb hby at_53) rfl ?_
    show Steps p.tables e below (T15.setTop (mkF m 55 #[.val (.int p1), .val (.int p2), .val (.ref b1), .val (.int (p1 &&& (3 : Int32))), .val (.int (p2 &&& (3 : Int32))), .val (.int (own_ant (p1 &&& (3 : Int32)))), .val (.int (own_ant (p2 &&& (3 : Int32)))), .unset] [(.int (own_ant (p2 &&& (3 : Int32)))), (.int (own_ant (p1 &&& (3 : Int32))))])) tt
    refine XS.iconst X15.here hx rfl (hb hby at_55) ?_
    show Steps p.tables e below (T15.setTop (mkF m 56 #[.val (.int p1), .val (.int p2), .val (.ref b1), .val (.int (p1 &&& (3 : Int32))), .val (.int (p2 &&& (3 : Int32))), .val (.int (own_ant (p1 &&& (3 : Int32)))), .val (.int (own_ant (p2 &&& (3 : Int32)))), .unset] [(.int (-1 : Int32)), (.int (own_ant (p2 &&& (3 : Int32)))), (.int (own_ant (p1 &&& (3 : Int32))))])) tt
    refine XS.ixor X15.here hx rfl (hb hby at_56) rfl ?_
    show Steps p.tables e below (T15.setTop (mkF m 57 #[.val (.int p1), .val (.int p2), .val (.ref b1), .val (.int (p1 &&& (3 : Int32))), .val (.int (p2 &&& (3 : Int32))), .val (.int (own_ant (p1 &&& (3 : Int32)))), .val (.int (own_ant (p2 &&& (3 : Int32)))), .unset] [(.int ((own_ant (p2 &&& (3 : Int32))) ^^^ (-1 : Int32))), (.int (own_ant (p1 &&& (3 : Int32))))])) tt
    refine XS.iand X15.here hx rfl (hb hby at_57) rfl ?_
    exact kk
  rcases own_and3 p1 with hi | hi | hi | hi
  · have own_mark : True := trivial
    rcases own_and3 p2 with hj | hj | hj | hj
    · have own_mark : True := trivial
      obtain ⟨cl17, Ar17, q17, S17, P17, H17, G17⟩ := id V13
      have hin17 : ¬ ((p1 &&& (3 : Int32)) < 0 ∨ cl17.slots.size ≤ ((p1 &&& (3 : Int32))).toNatClampNeg) := inb_of S17 (by rw [hi]; exact ⟨by decide, by decide⟩)
      have hat17 : cl17.slots[((p1 &&& (3 : Int32))).toNatClampNeg]? = some (.ref wO) := Has.at H17 hin17 (by rw [hi]; rfl)
      obtain ⟨cl18, Ar18, q18, S18, P18, H18, G18⟩ := id V13
      have hin18 : ¬ ((p2 &&& (3 : Int32)) < 0 ∨ cl18.slots.size ≤ ((p2 &&& (3 : Int32))).toNatClampNeg) := inb_of S18 (by rw [hj]; exact ⟨by decide, by decide⟩)
      have hat18 : cl18.slots[((p2 &&& (3 : Int32))).toNatClampNeg]? = some (.ref wO) := Has.at H18 hin18 (by rw [hj]; rfl)
      obtain ⟨cq19, kq19, q19a, q19b, q19c⟩ := isOf hZ hh15 (Exa.keep E_wO K13)
      obtain ⟨_, _, ⟨T19, L19, ka19, na19⟩, -, X19, ⟨Lc19, hQ19, l19, y19, z19⟩, st19⟩ := X15.virtualBack hx (y := (⟨"com/example/probematch/probematch/generate/BloodType", "canGiveTo", "(Lcom/example/probematch/probematch/generate/BloodType;)Z"⟩ : MethodName)) (z := (⟨"com/example/probematch/probematch/generate/BloodType", "canGiveTo", "(Lcom/example/probematch/probematch/generate/BloodType;)Z"⟩ : MethodName)) hown (mvT hZ (hw _ (List.mem_of_getElem? (i := 16) rfl))) (mvT hZ (hw _ (List.mem_of_getElem? (i := 17) rfl))) (notFace_of_selects (args := #[]) (mvT hZ (hw _ (List.mem_of_getElem? (i := 19) rfl)))) (mvT hZ (hw _ (List.mem_of_getElem? (i := 19) rfl))) (mvT hZ (hw _ (List.mem_of_getElem? (i := 18) rfl))) (by decide) (backOf (W := 0) (own_rmG l Z a0 hw [] wO wO wO wAB h13 n0 Z13 (own_sta_keep0 S_wO K13) (own_sta_keep0 S_wAB K13)) hZ (hw _ (List.mem_of_getElem? (i := 20) rfl)) (hw _ (List.mem_of_getElem? (i := 3) rfl)) (by decide) (by decide)) q19a q19c (g := (mkF m 75 #[.val (.int p1), .val (.int p2), .val (.ref b1), .val (.int (p1 &&& (3 : Int32))), .val (.int (p2 &&& (3 : Int32))), .val (.int (own_ant (p1 &&& (3 : Int32)))), .val (.int (own_ant (p2 &&& (3 : Int32)))), .val (.int (1 : Int32))] [(.ref wO), (.ref wO)])) rfl (by rw [hml]; rfl) (Steps.refl _) (argsL := [(.ref wO)]) (rest := []) (lenOf own_pd__Lcom_example_probematch_probematch_generate_BloodType__Z rfl) rfl (by show 2 * 0 + _ ≤ _; exact Nat.le_of_eq rfl) (hb hby at_75) (fun _ _ => ⟨rfl, hh15, (by decide : 1 + 0 ≤ _), (by decide : 4 + 0 ≤ _)⟩)
      dsimp only [Pt.U, Pt.locs, Pt.cells, Pt.slots] at X19 l19 y19 z19 st19 hQ19
      subst l19 y19 z19
      obtain ⟨rfl, Nq19, hh19⟩ := hQ19
      have N19 := Fr.app N15 Nq19
      have k20 : ∀ tt, Steps p.tables e below (T19.setTop (mkF m 88 #[.val (.int p1), .val (.int p2), .val (.ref b1), .val (.int (p1 &&& (3 : Int32))), .val (.int (p2 &&& (3 : Int32))), .val (.int (own_ant (p1 &&& (3 : Int32)))), .val (.int (own_ant (p2 &&& (3 : Int32)))), .val (.int (1 : Int32))] [(.int (1 : Int32))])) tt → Steps p.tables e below (s₁.setTop (entryFrame m #[(.int p1), (.int p2)] maxLocals)) tt := by
        intro tt kk
        refine k16 tt ?_
        show Steps p.tables e below (T15.setTop (mkF m 58 #[.val (.int p1), .val (.int p2), .val (.ref b1), .val (.int (p1 &&& (3 : Int32))), .val (.int (p2 &&& (3 : Int32))), .val (.int (own_ant (p1 &&& (3 : Int32)))), .val (.int (own_ant (p2 &&& (3 : Int32)))), .unset] [(.int ((own_ant (p1 &&& (3 : Int32))) &&& ((own_ant (p2 &&& (3 : Int32))) ^^^ (-1 : Int32))))])) tt
        refine XS.ifNo X15.here hx rfl (hb hby at_58) rfl ((if0 _ _).trans (teq (by rw [hi, hj]; decide : ((own_ant (p1 &&& (3 : Int32))) &&& ((own_ant (p2 &&& (3 : Int32))) ^^^ (-1 : Int32))) = (0 : Int32))).2) ?_
        show Steps p.tables e below (T15.setTop (mkF m 61 #[.val (.int p1), .val (.int p2), .val (.ref b1), .val (.int (p1 &&& (3 : Int32))), .val (.int (p2 &&& (3 : Int32))), .val (.int (own_ant (p1 &&& (3 : Int32)))), .val (.int (own_ant (p2 &&& (3 : Int32)))), .unset] [])) tt
        refine XS.iconst X15.here hx rfl (hb hby at_61) ?_
        show Steps p.tables e below (T15.setTop (mkF m 62 #[.val (.int p1), .val (.int p2), .val (.ref b1), .val (.int (p1 &&& (3 : Int32))), .val (.int (p2 &&& (3 : Int32))), .val (.int (own_ant (p1 &&& (3 : Int32)))), .val (.int (own_ant (p2 &&& (3 : Int32)))), .unset] [(.int (1 : Int32))])) tt
        refine XS.goto X15.here hx rfl (pc0 := 62) (pc' := 66) rfl (hb hby at_62) (by decide) (by decide) ?_
        show Steps p.tables e below (T15.setTop (mkF m 66 #[.val (.int p1), .val (.int p2), .val (.ref b1), .val (.int (p1 &&& (3 : Int32))), .val (.int (p2 &&& (3 : Int32))), .val (.int (own_ant (p1 &&& (3 : Int32)))), .val (.int (own_ant (p2 &&& (3 : Int32)))), .unset] [(.int (1 : Int32))])) tt
        refine XS.istore X15.here hx rfl (hb hby at_66) rfl (l' := #[.val (.int p1), .val (.int p2), .val (.ref b1), .val (.int (p1 &&& (3 : Int32))), .val (.int (p2 &&& (3 : Int32))), .val (.int (own_ant (p1 &&& (3 : Int32)))), .val (.int (own_ant (p2 &&& (3 : Int32)))), .val (.int (1 : Int32))]) rfl ?_
        show Steps p.tables e below (T15.setTop (mkF m 68 #[.val (.int p1), .val (.int p2), .val (.ref b1), .val (.int (p1 &&& (3 : Int32))), .val (.int (p2 &&& (3 : Int32))), .val (.int (own_ant (p1 &&& (3 : Int32)))), .val (.int (own_ant (p2 &&& (3 : Int32)))), .val (.int (1 : Int32))] [])) tt
        refine XS.aloadN X15.here hx rfl (hb hby at_68) rfl rfl ?_
        show Steps p.tables e below (T15.setTop (mkF m 69 #[.val (.int p1), .val (.int p2), .val (.ref b1), .val (.int (p1 &&& (3 : Int32))), .val (.int (p2 &&& (3 : Int32))), .val (.int (own_ant (p1 &&& (3 : Int32)))), .val (.int (own_ant (p2 &&& (3 : Int32)))), .val (.int (1 : Int32))] [(.ref b1)])) tt
        refine XS.iloadN X15.here hx rfl (hb hby at_69) rfl ?_
        show Steps p.tables e below (T15.setTop (mkF m 70 #[.val (.int p1), .val (.int p2), .val (.ref b1), .val (.int (p1 &&& (3 : Int32))), .val (.int (p2 &&& (3 : Int32))), .val (.int (own_ant (p1 &&& (3 : Int32)))), .val (.int (own_ant (p2 &&& (3 : Int32)))), .val (.int (1 : Int32))] [(.int (p1 &&& (3 : Int32))), (.ref b1)])) tt
        refine X15.aaload hx (j := (p1 &&& (3 : Int32))) (v := (.ref wO)) (by rw [hh15]; exact Ar17.1) (State.isArrayOf_alike hZ.alike Ar17.2.1) rfl Ar17.2.2 hin17 hat17 (g := (mkF m 70 #[.val (.int p1), .val (.int p2), .val (.ref b1), .val (.int (p1 &&& (3 : Int32))), .val (.int (p2 &&& (3 : Int32))), .val (.int (own_ant (p1 &&& (3 : Int32)))), .val (.int (own_ant (p2 &&& (3 : Int32)))), .val (.int (1 : Int32))] [(.int (p1 &&& (3 : Int32))), (.ref b1)])) rfl rfl (hb hby at_70) _ ?_
        show Steps p.tables e below (T15.setTop (mkF m 71 #[.val (.int p1), .val (.int p2), .val (.ref b1), .val (.int (p1 &&& (3 : Int32))), .val (.int (p2 &&& (3 : Int32))), .val (.int (own_ant (p1 &&& (3 : Int32)))), .val (.int (own_ant (p2 &&& (3 : Int32)))), .val (.int (1 : Int32))] [(.ref wO)])) tt
        refine XS.aloadN X15.here hx rfl (hb hby at_71) rfl rfl ?_
        show Steps p.tables e below (T15.setTop (mkF m 72 #[.val (.int p1), .val (.int p2), .val (.ref b1), .val (.int (p1 &&& (3 : Int32))), .val (.int (p2 &&& (3 : Int32))), .val (.int (own_ant (p1 &&& (3 : Int32)))), .val (.int (own_ant (p2 &&& (3 : Int32)))), .val (.int (1 : Int32))] [(.ref b1), (.ref wO)])) tt
        refine XS.iload X15.here hx rfl (hb hby at_72) rfl ?_
        show Steps p.tables e below (T15.setTop (mkF m 74 #[.val (.int p1), .val (.int p2), .val (.ref b1), .val (.int (p1 &&& (3 : Int32))), .val (.int (p2 &&& (3 : Int32))), .val (.int (own_ant (p1 &&& (3 : Int32)))), .val (.int (own_ant (p2 &&& (3 : Int32)))), .val (.int (1 : Int32))] [(.int (p2 &&& (3 : Int32))), (.ref b1), (.ref wO)])) tt
        refine X15.aaload hx (j := (p2 &&& (3 : Int32))) (v := (.ref wO)) (by rw [hh15]; exact Ar18.1) (State.isArrayOf_alike hZ.alike Ar18.2.1) rfl Ar18.2.2 hin18 hat18 (g := (mkF m 74 #[.val (.int p1), .val (.int p2), .val (.ref b1), .val (.int (p1 &&& (3 : Int32))), .val (.int (p2 &&& (3 : Int32))), .val (.int (own_ant (p1 &&& (3 : Int32)))), .val (.int (own_ant (p2 &&& (3 : Int32)))), .val (.int (1 : Int32))] [(.int (p2 &&& (3 : Int32))), (.ref b1), (.ref wO)])) rfl rfl (hb hby at_74) _ ?_
        show Steps p.tables e below (T15.setTop (mkF m 75 #[.val (.int p1), .val (.int p2), .val (.ref b1), .val (.int (p1 &&& (3 : Int32))), .val (.int (p2 &&& (3 : Int32))), .val (.int (own_ant (p1 &&& (3 : Int32)))), .val (.int (own_ant (p2 &&& (3 : Int32)))), .val (.int (1 : Int32))] [(.ref wO), (.ref wO)])) tt
        refine st19.trans ?_
        show Steps p.tables e below (T19.setTop (mkF m 78 #[.val (.int p1), .val (.int p2), .val (.ref b1), .val (.int (p1 &&& (3 : Int32))), .val (.int (p2 &&& (3 : Int32))), .val (.int (own_ant (p1 &&& (3 : Int32)))), .val (.int (own_ant (p2 &&& (3 : Int32)))), .val (.int (1 : Int32))] [(.int (own_cg wO wO wO wAB))])) tt
        refine XS.iload X19.here hx rfl (hb hby at_78) rfl ?_
        show Steps p.tables e below (T19.setTop (mkF m 80 #[.val (.int p1), .val (.int p2), .val (.ref b1), .val (.int (p1 &&& (3 : Int32))), .val (.int (p2 &&& (3 : Int32))), .val (.int (own_ant (p1 &&& (3 : Int32)))), .val (.int (own_ant (p2 &&& (3 : Int32)))), .val (.int (1 : Int32))] [(.int (1 : Int32)), (.int (own_cg wO wO wO wAB))])) tt
        refine XS.icmpNo X19.here hx rfl (hb hby at_80) rfl (teq (by simp [own_cg, n_wO_wA, n_wO_wB, n_wO_wAB, n_wA_wO, n_wA_wB, n_wA_wAB, n_wB_wO, n_wB_wA, n_wB_wAB, n_wAB_wO, n_wAB_wA, n_wAB_wB] : (own_cg wO wO wO wAB) = (1 : Int32))).2 ?_
        show Steps p.tables e below (T19.setTop (mkF m 83 #[.val (.int p1), .val (.int p2), .val (.ref b1), .val (.int (p1 &&& (3 : Int32))), .val (.int (p2 &&& (3 : Int32))), .val (.int (own_ant (p1 &&& (3 : Int32)))), .val (.int (own_ant (p2 &&& (3 : Int32)))), .val (.int (1 : Int32))] [])) tt
        refine XS.iconst X19.here hx rfl (hb hby at_83) ?_
        show Steps p.tables e below (T19.setTop (mkF m 84 #[.val (.int p1), .val (.int p2), .val (.ref b1), .val (.int (p1 &&& (3 : Int32))), .val (.int (p2 &&& (3 : Int32))), .val (.int (own_ant (p1 &&& (3 : Int32)))), .val (.int (own_ant (p2 &&& (3 : Int32)))), .val (.int (1 : Int32))] [(.int (1 : Int32))])) tt
        refine XS.goto X19.here hx rfl (pc0 := 84) (pc' := 88) rfl (hb hby at_84) (by decide) (by decide) ?_
        exact kk
      obtain ⟨fs, hr, hrun, hended, hW, hsame⟩ := X19.leave (v := some (.int (1 : Int32))) (fun hq => by rw [Bd.returns] at hq; cases hq)
      refine ⟨_, _, k20 _ ?_, hrun, hended, _, _, rfl, ?_, ⟨_, rfl⟩, hW, hsame.mono (by decide) (by decide)⟩
      · show Steps p.tables e below (T19.setTop (mkF m 88 #[.val (.int p1), .val (.int p2), .val (.ref b1), .val (.int (p1 &&& (3 : Int32))), .val (.int (p2 &&& (3 : Int32))), .val (.int (own_ant (p1 &&& (3 : Int32)))), .val (.int (own_ant (p2 &&& (3 : Int32)))), .val (.int (1 : Int32))] [(.int (1 : Int32))])) _
        exact retN X19 hx (t := .boolean) Bd.returns (by simp) (hb hby at_88) hr
      · show (fun (v : Option Value) (h : Heap) (L : List Loc) => v = some (.int (1 : Int32)) ∧ Fr n0 L) _ T19.heap _
        rw [hh19]
        dsimp only
        exact ⟨rfl, N19⟩
    · have own_mark : True := trivial
      obtain ⟨cl21, Ar21, q21, S21, P21, H21, G21⟩ := id V13
      have hin21 : ¬ ((p1 &&& (3 : Int32)) < 0 ∨ cl21.slots.size ≤ ((p1 &&& (3 : Int32))).toNatClampNeg) := inb_of S21 (by rw [hi]; exact ⟨by decide, by decide⟩)
      have hat21 : cl21.slots[((p1 &&& (3 : Int32))).toNatClampNeg]? = some (.ref wO) := Has.at H21 hin21 (by rw [hi]; rfl)
      obtain ⟨cl22, Ar22, q22, S22, P22, H22, G22⟩ := id V13
      have hin22 : ¬ ((p2 &&& (3 : Int32)) < 0 ∨ cl22.slots.size ≤ ((p2 &&& (3 : Int32))).toNatClampNeg) := inb_of S22 (by rw [hj]; exact ⟨by decide, by decide⟩)
      have hat22 : cl22.slots[((p2 &&& (3 : Int32))).toNatClampNeg]? = some (.ref wA) := Has.at H22 hin22 (by rw [hj]; rfl)
      obtain ⟨cq23, kq23, q23a, q23b, q23c⟩ := isOf hZ hh15 (Exa.keep E_wO K13)
      obtain ⟨_, _, ⟨T23, L23, ka23, na23⟩, -, X23, ⟨Lc23, hQ23, l23, y23, z23⟩, st23⟩ := X15.virtualBack hx (y := (⟨"com/example/probematch/probematch/generate/BloodType", "canGiveTo", "(Lcom/example/probematch/probematch/generate/BloodType;)Z"⟩ : MethodName)) (z := (⟨"com/example/probematch/probematch/generate/BloodType", "canGiveTo", "(Lcom/example/probematch/probematch/generate/BloodType;)Z"⟩ : MethodName)) hown (mvT hZ (hw _ (List.mem_of_getElem? (i := 16) rfl))) (mvT hZ (hw _ (List.mem_of_getElem? (i := 17) rfl))) (notFace_of_selects (args := #[]) (mvT hZ (hw _ (List.mem_of_getElem? (i := 19) rfl)))) (mvT hZ (hw _ (List.mem_of_getElem? (i := 19) rfl))) (mvT hZ (hw _ (List.mem_of_getElem? (i := 18) rfl))) (by decide) (backOf (W := 0) (own_rmG l Z a0 hw [] wO wA wO wAB h13 n0 Z13 (own_sta_keep0 S_wO K13) (own_sta_keep0 S_wAB K13)) hZ (hw _ (List.mem_of_getElem? (i := 20) rfl)) (hw _ (List.mem_of_getElem? (i := 3) rfl)) (by decide) (by decide)) q23a q23c (g := (mkF m 75 #[.val (.int p1), .val (.int p2), .val (.ref b1), .val (.int (p1 &&& (3 : Int32))), .val (.int (p2 &&& (3 : Int32))), .val (.int (own_ant (p1 &&& (3 : Int32)))), .val (.int (own_ant (p2 &&& (3 : Int32)))), .val (.int (1 : Int32))] [(.ref wA), (.ref wO)])) rfl (by rw [hml]; rfl) (Steps.refl _) (argsL := [(.ref wA)]) (rest := []) (lenOf own_pd__Lcom_example_probematch_probematch_generate_BloodType__Z rfl) rfl (by show 2 * 0 + _ ≤ _; exact Nat.le_of_eq rfl) (hb hby at_75) (fun _ _ => ⟨rfl, hh15, (by decide : 1 + 0 ≤ _), (by decide : 4 + 0 ≤ _)⟩)
      dsimp only [Pt.U, Pt.locs, Pt.cells, Pt.slots] at X23 l23 y23 z23 st23 hQ23
      subst l23 y23 z23
      obtain ⟨rfl, Nq23, hh23⟩ := hQ23
      have N23 := Fr.app N15 Nq23
      have k24 : ∀ tt, Steps p.tables e below (T23.setTop (mkF m 88 #[.val (.int p1), .val (.int p2), .val (.ref b1), .val (.int (p1 &&& (3 : Int32))), .val (.int (p2 &&& (3 : Int32))), .val (.int (own_ant (p1 &&& (3 : Int32)))), .val (.int (own_ant (p2 &&& (3 : Int32)))), .val (.int (1 : Int32))] [(.int (1 : Int32))])) tt → Steps p.tables e below (s₁.setTop (entryFrame m #[(.int p1), (.int p2)] maxLocals)) tt := by
        intro tt kk
        refine k16 tt ?_
        show Steps p.tables e below (T15.setTop (mkF m 58 #[.val (.int p1), .val (.int p2), .val (.ref b1), .val (.int (p1 &&& (3 : Int32))), .val (.int (p2 &&& (3 : Int32))), .val (.int (own_ant (p1 &&& (3 : Int32)))), .val (.int (own_ant (p2 &&& (3 : Int32)))), .unset] [(.int ((own_ant (p1 &&& (3 : Int32))) &&& ((own_ant (p2 &&& (3 : Int32))) ^^^ (-1 : Int32))))])) tt
        refine XS.ifNo X15.here hx rfl (hb hby at_58) rfl ((if0 _ _).trans (teq (by rw [hi, hj]; decide : ((own_ant (p1 &&& (3 : Int32))) &&& ((own_ant (p2 &&& (3 : Int32))) ^^^ (-1 : Int32))) = (0 : Int32))).2) ?_
        show Steps p.tables e below (T15.setTop (mkF m 61 #[.val (.int p1), .val (.int p2), .val (.ref b1), .val (.int (p1 &&& (3 : Int32))), .val (.int (p2 &&& (3 : Int32))), .val (.int (own_ant (p1 &&& (3 : Int32)))), .val (.int (own_ant (p2 &&& (3 : Int32)))), .unset] [])) tt
        refine XS.iconst X15.here hx rfl (hb hby at_61) ?_
        show Steps p.tables e below (T15.setTop (mkF m 62 #[.val (.int p1), .val (.int p2), .val (.ref b1), .val (.int (p1 &&& (3 : Int32))), .val (.int (p2 &&& (3 : Int32))), .val (.int (own_ant (p1 &&& (3 : Int32)))), .val (.int (own_ant (p2 &&& (3 : Int32)))), .unset] [(.int (1 : Int32))])) tt
        refine XS.goto X15.here hx rfl (pc0 := 62) (pc' := 66) rfl (hb hby at_62) (by decide) (by decide) ?_
        show Steps p.tables e below (T15.setTop (mkF m 66 #[.val (.int p1), .val (.int p2), .val (.ref b1), .val (.int (p1 &&& (3 : Int32))), .val (.int (p2 &&& (3 : Int32))), .val (.int (own_ant (p1 &&& (3 : Int32)))), .val (.int (own_ant (p2 &&& (3 : Int32)))), .unset] [(.int (1 : Int32))])) tt
        refine XS.istore X15.here hx rfl (hb hby at_66) rfl (l' := #[.val (.int p1), .val (.int p2), .val (.ref b1), .val (.int (p1 &&& (3 : Int32))), .val (.int (p2 &&& (3 : Int32))), .val (.int (own_ant (p1 &&& (3 : Int32)))), .val (.int (own_ant (p2 &&& (3 : Int32)))), .val (.int (1 : Int32))]) rfl ?_
        show Steps p.tables e below (T15.setTop (mkF m 68 #[.val (.int p1), .val (.int p2), .val (.ref b1), .val (.int (p1 &&& (3 : Int32))), .val (.int (p2 &&& (3 : Int32))), .val (.int (own_ant (p1 &&& (3 : Int32)))), .val (.int (own_ant (p2 &&& (3 : Int32)))), .val (.int (1 : Int32))] [])) tt
        refine XS.aloadN X15.here hx rfl (hb hby at_68) rfl rfl ?_
        show Steps p.tables e below (T15.setTop (mkF m 69 #[.val (.int p1), .val (.int p2), .val (.ref b1), .val (.int (p1 &&& (3 : Int32))), .val (.int (p2 &&& (3 : Int32))), .val (.int (own_ant (p1 &&& (3 : Int32)))), .val (.int (own_ant (p2 &&& (3 : Int32)))), .val (.int (1 : Int32))] [(.ref b1)])) tt
        refine XS.iloadN X15.here hx rfl (hb hby at_69) rfl ?_
        show Steps p.tables e below (T15.setTop (mkF m 70 #[.val (.int p1), .val (.int p2), .val (.ref b1), .val (.int (p1 &&& (3 : Int32))), .val (.int (p2 &&& (3 : Int32))), .val (.int (own_ant (p1 &&& (3 : Int32)))), .val (.int (own_ant (p2 &&& (3 : Int32)))), .val (.int (1 : Int32))] [(.int (p1 &&& (3 : Int32))), (.ref b1)])) tt
        refine X15.aaload hx (j := (p1 &&& (3 : Int32))) (v := (.ref wO)) (by rw [hh15]; exact Ar21.1) (State.isArrayOf_alike hZ.alike Ar21.2.1) rfl Ar21.2.2 hin21 hat21 (g := (mkF m 70 #[.val (.int p1), .val (.int p2), .val (.ref b1), .val (.int (p1 &&& (3 : Int32))), .val (.int (p2 &&& (3 : Int32))), .val (.int (own_ant (p1 &&& (3 : Int32)))), .val (.int (own_ant (p2 &&& (3 : Int32)))), .val (.int (1 : Int32))] [(.int (p1 &&& (3 : Int32))), (.ref b1)])) rfl rfl (hb hby at_70) _ ?_
        show Steps p.tables e below (T15.setTop (mkF m 71 #[.val (.int p1), .val (.int p2), .val (.ref b1), .val (.int (p1 &&& (3 : Int32))), .val (.int (p2 &&& (3 : Int32))), .val (.int (own_ant (p1 &&& (3 : Int32)))), .val (.int (own_ant (p2 &&& (3 : Int32)))), .val (.int (1 : Int32))] [(.ref wO)])) tt
        refine XS.aloadN X15.here hx rfl (hb hby at_71) rfl rfl ?_
        show Steps p.tables e below (T15.setTop (mkF m 72 #[.val (.int p1), .val (.int p2), .val (.ref b1), .val (.int (p1 &&& (3 : Int32))), .val (.int (p2 &&& (3 : Int32))), .val (.int (own_ant (p1 &&& (3 : Int32)))), .val (.int (own_ant (p2 &&& (3 : Int32)))), .val (.int (1 : Int32))] [(.ref b1), (.ref wO)])) tt
        refine XS.iload X15.here hx rfl (hb hby at_72) rfl ?_
        show Steps p.tables e below (T15.setTop (mkF m 74 #[.val (.int p1), .val (.int p2), .val (.ref b1), .val (.int (p1 &&& (3 : Int32))), .val (.int (p2 &&& (3 : Int32))), .val (.int (own_ant (p1 &&& (3 : Int32)))), .val (.int (own_ant (p2 &&& (3 : Int32)))), .val (.int (1 : Int32))] [(.int (p2 &&& (3 : Int32))), (.ref b1), (.ref wO)])) tt
        refine X15.aaload hx (j := (p2 &&& (3 : Int32))) (v := (.ref wA)) (by rw [hh15]; exact Ar22.1) (State.isArrayOf_alike hZ.alike Ar22.2.1) rfl Ar22.2.2 hin22 hat22 (g := (mkF m 74 #[.val (.int p1), .val (.int p2), .val (.ref b1), .val (.int (p1 &&& (3 : Int32))), .val (.int (p2 &&& (3 : Int32))), .val (.int (own_ant (p1 &&& (3 : Int32)))), .val (.int (own_ant (p2 &&& (3 : Int32)))), .val (.int (1 : Int32))] [(.int (p2 &&& (3 : Int32))), (.ref b1), (.ref wO)])) rfl rfl (hb hby at_74) _ ?_
        show Steps p.tables e below (T15.setTop (mkF m 75 #[.val (.int p1), .val (.int p2), .val (.ref b1), .val (.int (p1 &&& (3 : Int32))), .val (.int (p2 &&& (3 : Int32))), .val (.int (own_ant (p1 &&& (3 : Int32)))), .val (.int (own_ant (p2 &&& (3 : Int32)))), .val (.int (1 : Int32))] [(.ref wA), (.ref wO)])) tt
        refine st23.trans ?_
        show Steps p.tables e below (T23.setTop (mkF m 78 #[.val (.int p1), .val (.int p2), .val (.ref b1), .val (.int (p1 &&& (3 : Int32))), .val (.int (p2 &&& (3 : Int32))), .val (.int (own_ant (p1 &&& (3 : Int32)))), .val (.int (own_ant (p2 &&& (3 : Int32)))), .val (.int (1 : Int32))] [(.int (own_cg wO wA wO wAB))])) tt
        refine XS.iload X23.here hx rfl (hb hby at_78) rfl ?_
        show Steps p.tables e below (T23.setTop (mkF m 80 #[.val (.int p1), .val (.int p2), .val (.ref b1), .val (.int (p1 &&& (3 : Int32))), .val (.int (p2 &&& (3 : Int32))), .val (.int (own_ant (p1 &&& (3 : Int32)))), .val (.int (own_ant (p2 &&& (3 : Int32)))), .val (.int (1 : Int32))] [(.int (1 : Int32)), (.int (own_cg wO wA wO wAB))])) tt
        refine XS.icmpNo X23.here hx rfl (hb hby at_80) rfl (teq (by simp [own_cg, n_wO_wA, n_wO_wB, n_wO_wAB, n_wA_wO, n_wA_wB, n_wA_wAB, n_wB_wO, n_wB_wA, n_wB_wAB, n_wAB_wO, n_wAB_wA, n_wAB_wB] : (own_cg wO wA wO wAB) = (1 : Int32))).2 ?_
        show Steps p.tables e below (T23.setTop (mkF m 83 #[.val (.int p1), .val (.int p2), .val (.ref b1), .val (.int (p1 &&& (3 : Int32))), .val (.int (p2 &&& (3 : Int32))), .val (.int (own_ant (p1 &&& (3 : Int32)))), .val (.int (own_ant (p2 &&& (3 : Int32)))), .val (.int (1 : Int32))] [])) tt
        refine XS.iconst X23.here hx rfl (hb hby at_83) ?_
        show Steps p.tables e below (T23.setTop (mkF m 84 #[.val (.int p1), .val (.int p2), .val (.ref b1), .val (.int (p1 &&& (3 : Int32))), .val (.int (p2 &&& (3 : Int32))), .val (.int (own_ant (p1 &&& (3 : Int32)))), .val (.int (own_ant (p2 &&& (3 : Int32)))), .val (.int (1 : Int32))] [(.int (1 : Int32))])) tt
        refine XS.goto X23.here hx rfl (pc0 := 84) (pc' := 88) rfl (hb hby at_84) (by decide) (by decide) ?_
        exact kk
      obtain ⟨fs, hr, hrun, hended, hW, hsame⟩ := X23.leave (v := some (.int (1 : Int32))) (fun hq => by rw [Bd.returns] at hq; cases hq)
      refine ⟨_, _, k24 _ ?_, hrun, hended, _, _, rfl, ?_, ⟨_, rfl⟩, hW, hsame.mono (by decide) (by decide)⟩
      · show Steps p.tables e below (T23.setTop (mkF m 88 #[.val (.int p1), .val (.int p2), .val (.ref b1), .val (.int (p1 &&& (3 : Int32))), .val (.int (p2 &&& (3 : Int32))), .val (.int (own_ant (p1 &&& (3 : Int32)))), .val (.int (own_ant (p2 &&& (3 : Int32)))), .val (.int (1 : Int32))] [(.int (1 : Int32))])) _
        exact retN X23 hx (t := .boolean) Bd.returns (by simp) (hb hby at_88) hr
      · show (fun (v : Option Value) (h : Heap) (L : List Loc) => v = some (.int (1 : Int32)) ∧ Fr n0 L) _ T23.heap _
        rw [hh23]
        dsimp only
        exact ⟨rfl, N23⟩
    · have own_mark : True := trivial
      obtain ⟨cl25, Ar25, q25, S25, P25, H25, G25⟩ := id V13
      have hin25 : ¬ ((p1 &&& (3 : Int32)) < 0 ∨ cl25.slots.size ≤ ((p1 &&& (3 : Int32))).toNatClampNeg) := inb_of S25 (by rw [hi]; exact ⟨by decide, by decide⟩)
      have hat25 : cl25.slots[((p1 &&& (3 : Int32))).toNatClampNeg]? = some (.ref wO) := Has.at H25 hin25 (by rw [hi]; rfl)
      obtain ⟨cl26, Ar26, q26, S26, P26, H26, G26⟩ := id V13
      have hin26 : ¬ ((p2 &&& (3 : Int32)) < 0 ∨ cl26.slots.size ≤ ((p2 &&& (3 : Int32))).toNatClampNeg) := inb_of S26 (by rw [hj]; exact ⟨by decide, by decide⟩)
      have hat26 : cl26.slots[((p2 &&& (3 : Int32))).toNatClampNeg]? = some (.ref wB) := Has.at H26 hin26 (by rw [hj]; rfl)
      obtain ⟨cq27, kq27, q27a, q27b, q27c⟩ := isOf hZ hh15 (Exa.keep E_wO K13)
      obtain ⟨_, _, ⟨T27, L27, ka27, na27⟩, -, X27, ⟨Lc27, hQ27, l27, y27, z27⟩, st27⟩ := X15.virtualBack hx (y := (⟨"com/example/probematch/probematch/generate/BloodType", "canGiveTo", "(Lcom/example/probematch/probematch/generate/BloodType;)Z"⟩ : MethodName)) (z := (⟨"com/example/probematch/probematch/generate/BloodType", "canGiveTo", "(Lcom/example/probematch/probematch/generate/BloodType;)Z"⟩ : MethodName)) hown (mvT hZ (hw _ (List.mem_of_getElem? (i := 16) rfl))) (mvT hZ (hw _ (List.mem_of_getElem? (i := 17) rfl))) (notFace_of_selects (args := #[]) (mvT hZ (hw _ (List.mem_of_getElem? (i := 19) rfl)))) (mvT hZ (hw _ (List.mem_of_getElem? (i := 19) rfl))) (mvT hZ (hw _ (List.mem_of_getElem? (i := 18) rfl))) (by decide) (backOf (W := 0) (own_rmG l Z a0 hw [] wO wB wO wAB h13 n0 Z13 (own_sta_keep0 S_wO K13) (own_sta_keep0 S_wAB K13)) hZ (hw _ (List.mem_of_getElem? (i := 20) rfl)) (hw _ (List.mem_of_getElem? (i := 3) rfl)) (by decide) (by decide)) q27a q27c (g := (mkF m 75 #[.val (.int p1), .val (.int p2), .val (.ref b1), .val (.int (p1 &&& (3 : Int32))), .val (.int (p2 &&& (3 : Int32))), .val (.int (own_ant (p1 &&& (3 : Int32)))), .val (.int (own_ant (p2 &&& (3 : Int32)))), .val (.int (1 : Int32))] [(.ref wB), (.ref wO)])) rfl (by rw [hml]; rfl) (Steps.refl _) (argsL := [(.ref wB)]) (rest := []) (lenOf own_pd__Lcom_example_probematch_probematch_generate_BloodType__Z rfl) rfl (by show 2 * 0 + _ ≤ _; exact Nat.le_of_eq rfl) (hb hby at_75) (fun _ _ => ⟨rfl, hh15, (by decide : 1 + 0 ≤ _), (by decide : 4 + 0 ≤ _)⟩)
      dsimp only [Pt.U, Pt.locs, Pt.cells, Pt.slots] at X27 l27 y27 z27 st27 hQ27
      subst l27 y27 z27
      obtain ⟨rfl, Nq27, hh27⟩ := hQ27
      have N27 := Fr.app N15 Nq27
      have k28 : ∀ tt, Steps p.tables e below (T27.setTop (mkF m 88 #[.val (.int p1), .val (.int p2), .val (.ref b1), .val (.int (p1 &&& (3 : Int32))), .val (.int (p2 &&& (3 : Int32))), .val (.int (own_ant (p1 &&& (3 : Int32)))), .val (.int (own_ant (p2 &&& (3 : Int32)))), .val (.int (1 : Int32))] [(.int (1 : Int32))])) tt → Steps p.tables e below (s₁.setTop (entryFrame m #[(.int p1), (.int p2)] maxLocals)) tt := by
        intro tt kk
        refine k16 tt ?_
        show Steps p.tables e below (T15.setTop (mkF m 58 #[.val (.int p1), .val (.int p2), .val (.ref b1), .val (.int (p1 &&& (3 : Int32))), .val (.int (p2 &&& (3 : Int32))), .val (.int (own_ant (p1 &&& (3 : Int32)))), .val (.int (own_ant (p2 &&& (3 : Int32)))), .unset] [(.int ((own_ant (p1 &&& (3 : Int32))) &&& ((own_ant (p2 &&& (3 : Int32))) ^^^ (-1 : Int32))))])) tt
        refine XS.ifNo X15.here hx rfl (hb hby at_58) rfl ((if0 _ _).trans (teq (by rw [hi, hj]; decide : ((own_ant (p1 &&& (3 : Int32))) &&& ((own_ant (p2 &&& (3 : Int32))) ^^^ (-1 : Int32))) = (0 : Int32))).2) ?_
        show Steps p.tables e below (T15.setTop (mkF m 61 #[.val (.int p1), .val (.int p2), .val (.ref b1), .val (.int (p1 &&& (3 : Int32))), .val (.int (p2 &&& (3 : Int32))), .val (.int (own_ant (p1 &&& (3 : Int32)))), .val (.int (own_ant (p2 &&& (3 : Int32)))), .unset] [])) tt
        refine XS.iconst X15.here hx rfl (hb hby at_61) ?_
        show Steps p.tables e below (T15.setTop (mkF m 62 #[.val (.int p1), .val (.int p2), .val (.ref b1), .val (.int (p1 &&& (3 : Int32))), .val (.int (p2 &&& (3 : Int32))), .val (.int (own_ant (p1 &&& (3 : Int32)))), .val (.int (own_ant (p2 &&& (3 : Int32)))), .unset] [(.int (1 : Int32))])) tt
        refine XS.goto X15.here hx rfl (pc0 := 62) (pc' := 66) rfl (hb hby at_62) (by decide) (by decide) ?_
        show Steps p.tables e below (T15.setTop (mkF m 66 #[.val (.int p1), .val (.int p2), .val (.ref b1), .val (.int (p1 &&& (3 : Int32))), .val (.int (p2 &&& (3 : Int32))), .val (.int (own_ant (p1 &&& (3 : Int32)))), .val (.int (own_ant (p2 &&& (3 : Int32)))), .unset] [(.int (1 : Int32))])) tt
        refine XS.istore X15.here hx rfl (hb hby at_66) rfl (l' := #[.val (.int p1), .val (.int p2), .val (.ref b1), .val (.int (p1 &&& (3 : Int32))), .val (.int (p2 &&& (3 : Int32))), .val (.int (own_ant (p1 &&& (3 : Int32)))), .val (.int (own_ant (p2 &&& (3 : Int32)))), .val (.int (1 : Int32))]) rfl ?_
        show Steps p.tables e below (T15.setTop (mkF m 68 #[.val (.int p1), .val (.int p2), .val (.ref b1), .val (.int (p1 &&& (3 : Int32))), .val (.int (p2 &&& (3 : Int32))), .val (.int (own_ant (p1 &&& (3 : Int32)))), .val (.int (own_ant (p2 &&& (3 : Int32)))), .val (.int (1 : Int32))] [])) tt
        refine XS.aloadN X15.here hx rfl (hb hby at_68) rfl rfl ?_
        show Steps p.tables e below (T15.setTop (mkF m 69 #[.val (.int p1), .val (.int p2), .val (.ref b1), .val (.int (p1 &&& (3 : Int32))), .val (.int (p2 &&& (3 : Int32))), .val (.int (own_ant (p1 &&& (3 : Int32)))), .val (.int (own_ant (p2 &&& (3 : Int32)))), .val (.int (1 : Int32))] [(.ref b1)])) tt
        refine XS.iloadN X15.here hx rfl (hb hby at_69) rfl ?_
        show Steps p.tables e below (T15.setTop (mkF m 70 #[.val (.int p1), .val (.int p2), .val (.ref b1), .val (.int (p1 &&& (3 : Int32))), .val (.int (p2 &&& (3 : Int32))), .val (.int (own_ant (p1 &&& (3 : Int32)))), .val (.int (own_ant (p2 &&& (3 : Int32)))), .val (.int (1 : Int32))] [(.int (p1 &&& (3 : Int32))), (.ref b1)])) tt
        refine X15.aaload hx (j := (p1 &&& (3 : Int32))) (v := (.ref wO)) (by rw [hh15]; exact Ar25.1) (State.isArrayOf_alike hZ.alike Ar25.2.1) rfl Ar25.2.2 hin25 hat25 (g := (mkF m 70 #[.val (.int p1), .val (.int p2), .val (.ref b1), .val (.int (p1 &&& (3 : Int32))), .val (.int (p2 &&& (3 : Int32))), .val (.int (own_ant (p1 &&& (3 : Int32)))), .val (.int (own_ant (p2 &&& (3 : Int32)))), .val (.int (1 : Int32))] [(.int (p1 &&& (3 : Int32))), (.ref b1)])) rfl rfl (hb hby at_70) _ ?_
        show Steps p.tables e below (T15.setTop (mkF m 71 #[.val (.int p1), .val (.int p2), .val (.ref b1), .val (.int (p1 &&& (3 : Int32))), .val (.int (p2 &&& (3 : Int32))), .val (.int (own_ant (p1 &&& (3 : Int32)))), .val (.int (own_ant (p2 &&& (3 : Int32)))), .val (.int (1 : Int32))] [(.ref wO)])) tt
        refine XS.aloadN X15.here hx rfl (hb hby at_71) rfl rfl ?_
        show Steps p.tables e below (T15.setTop (mkF m 72 #[.val (.int p1), .val (.int p2), .val (.ref b1), .val (.int (p1 &&& (3 : Int32))), .val (.int (p2 &&& (3 : Int32))), .val (.int (own_ant (p1 &&& (3 : Int32)))), .val (.int (own_ant (p2 &&& (3 : Int32)))), .val (.int (1 : Int32))] [(.ref b1), (.ref wO)])) tt
        refine XS.iload X15.here hx rfl (hb hby at_72) rfl ?_
        show Steps p.tables e below (T15.setTop (mkF m 74 #[.val (.int p1), .val (.int p2), .val (.ref b1), .val (.int (p1 &&& (3 : Int32))), .val (.int (p2 &&& (3 : Int32))), .val (.int (own_ant (p1 &&& (3 : Int32)))), .val (.int (own_ant (p2 &&& (3 : Int32)))), .val (.int (1 : Int32))] [(.int (p2 &&& (3 : Int32))), (.ref b1), (.ref wO)])) tt
        refine X15.aaload hx (j := (p2 &&& (3 : Int32))) (v := (.ref wB)) (by rw [hh15]; exact Ar26.1) (State.isArrayOf_alike hZ.alike Ar26.2.1) rfl Ar26.2.2 hin26 hat26 (g := (mkF m 74 #[.val (.int p1), .val (.int p2), .val (.ref b1), .val (.int (p1 &&& (3 : Int32))), .val (.int (p2 &&& (3 : Int32))), .val (.int (own_ant (p1 &&& (3 : Int32)))), .val (.int (own_ant (p2 &&& (3 : Int32)))), .val (.int (1 : Int32))] [(.int (p2 &&& (3 : Int32))), (.ref b1), (.ref wO)])) rfl rfl (hb hby at_74) _ ?_
        show Steps p.tables e below (T15.setTop (mkF m 75 #[.val (.int p1), .val (.int p2), .val (.ref b1), .val (.int (p1 &&& (3 : Int32))), .val (.int (p2 &&& (3 : Int32))), .val (.int (own_ant (p1 &&& (3 : Int32)))), .val (.int (own_ant (p2 &&& (3 : Int32)))), .val (.int (1 : Int32))] [(.ref wB), (.ref wO)])) tt
        refine st27.trans ?_
        show Steps p.tables e below (T27.setTop (mkF m 78 #[.val (.int p1), .val (.int p2), .val (.ref b1), .val (.int (p1 &&& (3 : Int32))), .val (.int (p2 &&& (3 : Int32))), .val (.int (own_ant (p1 &&& (3 : Int32)))), .val (.int (own_ant (p2 &&& (3 : Int32)))), .val (.int (1 : Int32))] [(.int (own_cg wO wB wO wAB))])) tt
        refine XS.iload X27.here hx rfl (hb hby at_78) rfl ?_
        show Steps p.tables e below (T27.setTop (mkF m 80 #[.val (.int p1), .val (.int p2), .val (.ref b1), .val (.int (p1 &&& (3 : Int32))), .val (.int (p2 &&& (3 : Int32))), .val (.int (own_ant (p1 &&& (3 : Int32)))), .val (.int (own_ant (p2 &&& (3 : Int32)))), .val (.int (1 : Int32))] [(.int (1 : Int32)), (.int (own_cg wO wB wO wAB))])) tt
        refine XS.icmpNo X27.here hx rfl (hb hby at_80) rfl (teq (by simp [own_cg, n_wO_wA, n_wO_wB, n_wO_wAB, n_wA_wO, n_wA_wB, n_wA_wAB, n_wB_wO, n_wB_wA, n_wB_wAB, n_wAB_wO, n_wAB_wA, n_wAB_wB] : (own_cg wO wB wO wAB) = (1 : Int32))).2 ?_
        show Steps p.tables e below (T27.setTop (mkF m 83 #[.val (.int p1), .val (.int p2), .val (.ref b1), .val (.int (p1 &&& (3 : Int32))), .val (.int (p2 &&& (3 : Int32))), .val (.int (own_ant (p1 &&& (3 : Int32)))), .val (.int (own_ant (p2 &&& (3 : Int32)))), .val (.int (1 : Int32))] [])) tt
        refine XS.iconst X27.here hx rfl (hb hby at_83) ?_
        show Steps p.tables e below (T27.setTop (mkF m 84 #[.val (.int p1), .val (.int p2), .val (.ref b1), .val (.int (p1 &&& (3 : Int32))), .val (.int (p2 &&& (3 : Int32))), .val (.int (own_ant (p1 &&& (3 : Int32)))), .val (.int (own_ant (p2 &&& (3 : Int32)))), .val (.int (1 : Int32))] [(.int (1 : Int32))])) tt
        refine XS.goto X27.here hx rfl (pc0 := 84) (pc' := 88) rfl (hb hby at_84) (by decide) (by decide) ?_
        exact kk
      obtain ⟨fs, hr, hrun, hended, hW, hsame⟩ := X27.leave (v := some (.int (1 : Int32))) (fun hq => by rw [Bd.returns] at hq; cases hq)
      refine ⟨_, _, k28 _ ?_, hrun, hended, _, _, rfl, ?_, ⟨_, rfl⟩, hW, hsame.mono (by decide) (by decide)⟩
      · show Steps p.tables e below (T27.setTop (mkF m 88 #[.val (.int p1), .val (.int p2), .val (.ref b1), .val (.int (p1 &&& (3 : Int32))), .val (.int (p2 &&& (3 : Int32))), .val (.int (own_ant (p1 &&& (3 : Int32)))), .val (.int (own_ant (p2 &&& (3 : Int32)))), .val (.int (1 : Int32))] [(.int (1 : Int32))])) _
        exact retN X27 hx (t := .boolean) Bd.returns (by simp) (hb hby at_88) hr
      · show (fun (v : Option Value) (h : Heap) (L : List Loc) => v = some (.int (1 : Int32)) ∧ Fr n0 L) _ T27.heap _
        rw [hh27]
        dsimp only
        exact ⟨rfl, N27⟩
    · have own_mark : True := trivial
      obtain ⟨cl29, Ar29, q29, S29, P29, H29, G29⟩ := id V13
      have hin29 : ¬ ((p1 &&& (3 : Int32)) < 0 ∨ cl29.slots.size ≤ ((p1 &&& (3 : Int32))).toNatClampNeg) := inb_of S29 (by rw [hi]; exact ⟨by decide, by decide⟩)
      have hat29 : cl29.slots[((p1 &&& (3 : Int32))).toNatClampNeg]? = some (.ref wO) := Has.at H29 hin29 (by rw [hi]; rfl)
      obtain ⟨cl30, Ar30, q30, S30, P30, H30, G30⟩ := id V13
      have hin30 : ¬ ((p2 &&& (3 : Int32)) < 0 ∨ cl30.slots.size ≤ ((p2 &&& (3 : Int32))).toNatClampNeg) := inb_of S30 (by rw [hj]; exact ⟨by decide, by decide⟩)
      have hat30 : cl30.slots[((p2 &&& (3 : Int32))).toNatClampNeg]? = some (.ref wAB) := Has.at H30 hin30 (by rw [hj]; rfl)
      obtain ⟨cq31, kq31, q31a, q31b, q31c⟩ := isOf hZ hh15 (Exa.keep E_wO K13)
      obtain ⟨_, _, ⟨T31, L31, ka31, na31⟩, -, X31, ⟨Lc31, hQ31, l31, y31, z31⟩, st31⟩ := X15.virtualBack hx (y := (⟨"com/example/probematch/probematch/generate/BloodType", "canGiveTo", "(Lcom/example/probematch/probematch/generate/BloodType;)Z"⟩ : MethodName)) (z := (⟨"com/example/probematch/probematch/generate/BloodType", "canGiveTo", "(Lcom/example/probematch/probematch/generate/BloodType;)Z"⟩ : MethodName)) hown (mvT hZ (hw _ (List.mem_of_getElem? (i := 16) rfl))) (mvT hZ (hw _ (List.mem_of_getElem? (i := 17) rfl))) (notFace_of_selects (args := #[]) (mvT hZ (hw _ (List.mem_of_getElem? (i := 19) rfl)))) (mvT hZ (hw _ (List.mem_of_getElem? (i := 19) rfl))) (mvT hZ (hw _ (List.mem_of_getElem? (i := 18) rfl))) (by decide) (backOf (W := 0) (own_rmG l Z a0 hw [] wO wAB wO wAB h13 n0 Z13 (own_sta_keep0 S_wO K13) (own_sta_keep0 S_wAB K13)) hZ (hw _ (List.mem_of_getElem? (i := 20) rfl)) (hw _ (List.mem_of_getElem? (i := 3) rfl)) (by decide) (by decide)) q31a q31c (g := (mkF m 75 #[.val (.int p1), .val (.int p2), .val (.ref b1), .val (.int (p1 &&& (3 : Int32))), .val (.int (p2 &&& (3 : Int32))), .val (.int (own_ant (p1 &&& (3 : Int32)))), .val (.int (own_ant (p2 &&& (3 : Int32)))), .val (.int (1 : Int32))] [(.ref wAB), (.ref wO)])) rfl (by rw [hml]; rfl) (Steps.refl _) (argsL := [(.ref wAB)]) (rest := []) (lenOf own_pd__Lcom_example_probematch_probematch_generate_BloodType__Z rfl) rfl (by show 2 * 0 + _ ≤ _; exact Nat.le_of_eq rfl) (hb hby at_75) (fun _ _ => ⟨rfl, hh15, (by decide : 1 + 0 ≤ _), (by decide : 4 + 0 ≤ _)⟩)
      dsimp only [Pt.U, Pt.locs, Pt.cells, Pt.slots] at X31 l31 y31 z31 st31 hQ31
      subst l31 y31 z31
      obtain ⟨rfl, Nq31, hh31⟩ := hQ31
      have N31 := Fr.app N15 Nq31
      have k32 : ∀ tt, Steps p.tables e below (T31.setTop (mkF m 88 #[.val (.int p1), .val (.int p2), .val (.ref b1), .val (.int (p1 &&& (3 : Int32))), .val (.int (p2 &&& (3 : Int32))), .val (.int (own_ant (p1 &&& (3 : Int32)))), .val (.int (own_ant (p2 &&& (3 : Int32)))), .val (.int (1 : Int32))] [(.int (1 : Int32))])) tt → Steps p.tables e below (s₁.setTop (entryFrame m #[(.int p1), (.int p2)] maxLocals)) tt := by
        intro tt kk
        refine k16 tt ?_
        show Steps p.tables e below (T15.setTop (mkF m 58 #[.val (.int p1), .val (.int p2), .val (.ref b1), .val (.int (p1 &&& (3 : Int32))), .val (.int (p2 &&& (3 : Int32))), .val (.int (own_ant (p1 &&& (3 : Int32)))), .val (.int (own_ant (p2 &&& (3 : Int32)))), .unset] [(.int ((own_ant (p1 &&& (3 : Int32))) &&& ((own_ant (p2 &&& (3 : Int32))) ^^^ (-1 : Int32))))])) tt
        refine XS.ifNo X15.here hx rfl (hb hby at_58) rfl ((if0 _ _).trans (teq (by rw [hi, hj]; decide : ((own_ant (p1 &&& (3 : Int32))) &&& ((own_ant (p2 &&& (3 : Int32))) ^^^ (-1 : Int32))) = (0 : Int32))).2) ?_
        show Steps p.tables e below (T15.setTop (mkF m 61 #[.val (.int p1), .val (.int p2), .val (.ref b1), .val (.int (p1 &&& (3 : Int32))), .val (.int (p2 &&& (3 : Int32))), .val (.int (own_ant (p1 &&& (3 : Int32)))), .val (.int (own_ant (p2 &&& (3 : Int32)))), .unset] [])) tt
        refine XS.iconst X15.here hx rfl (hb hby at_61) ?_
        show Steps p.tables e below (T15.setTop (mkF m 62 #[.val (.int p1), .val (.int p2), .val (.ref b1), .val (.int (p1 &&& (3 : Int32))), .val (.int (p2 &&& (3 : Int32))), .val (.int (own_ant (p1 &&& (3 : Int32)))), .val (.int (own_ant (p2 &&& (3 : Int32)))), .unset] [(.int (1 : Int32))])) tt
        refine XS.goto X15.here hx rfl (pc0 := 62) (pc' := 66) rfl (hb hby at_62) (by decide) (by decide) ?_
        show Steps p.tables e below (T15.setTop (mkF m 66 #[.val (.int p1), .val (.int p2), .val (.ref b1), .val (.int (p1 &&& (3 : Int32))), .val (.int (p2 &&& (3 : Int32))), .val (.int (own_ant (p1 &&& (3 : Int32)))), .val (.int (own_ant (p2 &&& (3 : Int32)))), .unset] [(.int (1 : Int32))])) tt
        refine XS.istore X15.here hx rfl (hb hby at_66) rfl (l' := #[.val (.int p1), .val (.int p2), .val (.ref b1), .val (.int (p1 &&& (3 : Int32))), .val (.int (p2 &&& (3 : Int32))), .val (.int (own_ant (p1 &&& (3 : Int32)))), .val (.int (own_ant (p2 &&& (3 : Int32)))), .val (.int (1 : Int32))]) rfl ?_
        show Steps p.tables e below (T15.setTop (mkF m 68 #[.val (.int p1), .val (.int p2), .val (.ref b1), .val (.int (p1 &&& (3 : Int32))), .val (.int (p2 &&& (3 : Int32))), .val (.int (own_ant (p1 &&& (3 : Int32)))), .val (.int (own_ant (p2 &&& (3 : Int32)))), .val (.int (1 : Int32))] [])) tt
        refine XS.aloadN X15.here hx rfl (hb hby at_68) rfl rfl ?_
        show Steps p.tables e below (T15.setTop (mkF m 69 #[.val (.int p1), .val (.int p2), .val (.ref b1), .val (.int (p1 &&& (3 : Int32))), .val (.int (p2 &&& (3 : Int32))), .val (.int (own_ant (p1 &&& (3 : Int32)))), .val (.int (own_ant (p2 &&& (3 : Int32)))), .val (.int (1 : Int32))] [(.ref b1)])) tt
        refine XS.iloadN X15.here hx rfl (hb hby at_69) rfl ?_
        show Steps p.tables e below (T15.setTop (mkF m 70 #[.val (.int p1), .val (.int p2), .val (.ref b1), .val (.int (p1 &&& (3 : Int32))), .val (.int (p2 &&& (3 : Int32))), .val (.int (own_ant (p1 &&& (3 : Int32)))), .val (.int (own_ant (p2 &&& (3 : Int32)))), .val (.int (1 : Int32))] [(.int (p1 &&& (3 : Int32))), (.ref b1)])) tt
        refine X15.aaload hx (j := (p1 &&& (3 : Int32))) (v := (.ref wO)) (by rw [hh15]; exact Ar29.1) (State.isArrayOf_alike hZ.alike Ar29.2.1) rfl Ar29.2.2 hin29 hat29 (g := (mkF m 70 #[.val (.int p1), .val (.int p2), .val (.ref b1), .val (.int (p1 &&& (3 : Int32))), .val (.int (p2 &&& (3 : Int32))), .val (.int (own_ant (p1 &&& (3 : Int32)))), .val (.int (own_ant (p2 &&& (3 : Int32)))), .val (.int (1 : Int32))] [(.int (p1 &&& (3 : Int32))), (.ref b1)])) rfl rfl (hb hby at_70) _ ?_
        show Steps p.tables e below (T15.setTop (mkF m 71 #[.val (.int p1), .val (.int p2), .val (.ref b1), .val (.int (p1 &&& (3 : Int32))), .val (.int (p2 &&& (3 : Int32))), .val (.int (own_ant (p1 &&& (3 : Int32)))), .val (.int (own_ant (p2 &&& (3 : Int32)))), .val (.int (1 : Int32))] [(.ref wO)])) tt
        refine XS.aloadN X15.here hx rfl (hb hby at_71) rfl rfl ?_
        show Steps p.tables e below (T15.setTop (mkF m 72 #[.val (.int p1), .val (.int p2), .val (.ref b1), .val (.int (p1 &&& (3 : Int32))), .val (.int (p2 &&& (3 : Int32))), .val (.int (own_ant (p1 &&& (3 : Int32)))), .val (.int (own_ant (p2 &&& (3 : Int32)))), .val (.int (1 : Int32))] [(.ref b1), (.ref wO)])) tt
        refine XS.iload X15.here hx rfl (hb hby at_72) rfl ?_
        show Steps p.tables e below (T15.setTop (mkF m 74 #[.val (.int p1), .val (.int p2), .val (.ref b1), .val (.int (p1 &&& (3 : Int32))), .val (.int (p2 &&& (3 : Int32))), .val (.int (own_ant (p1 &&& (3 : Int32)))), .val (.int (own_ant (p2 &&& (3 : Int32)))), .val (.int (1 : Int32))] [(.int (p2 &&& (3 : Int32))), (.ref b1), (.ref wO)])) tt
        refine X15.aaload hx (j := (p2 &&& (3 : Int32))) (v := (.ref wAB)) (by rw [hh15]; exact Ar30.1) (State.isArrayOf_alike hZ.alike Ar30.2.1) rfl Ar30.2.2 hin30 hat30 (g := (mkF m 74 #[.val (.int p1), .val (.int p2), .val (.ref b1), .val (.int (p1 &&& (3 : Int32))), .val (.int (p2 &&& (3 : Int32))), .val (.int (own_ant (p1 &&& (3 : Int32)))), .val (.int (own_ant (p2 &&& (3 : Int32)))), .val (.int (1 : Int32))] [(.int (p2 &&& (3 : Int32))), (.ref b1), (.ref wO)])) rfl rfl (hb hby at_74) _ ?_
        show Steps p.tables e below (T15.setTop (mkF m 75 #[.val (.int p1), .val (.int p2), .val (.ref b1), .val (.int (p1 &&& (3 : Int32))), .val (.int (p2 &&& (3 : Int32))), .val (.int (own_ant (p1 &&& (3 : Int32)))), .val (.int (own_ant (p2 &&& (3 : Int32)))), .val (.int (1 : Int32))] [(.ref wAB), (.ref wO)])) tt
        refine st31.trans ?_
        show Steps p.tables e below (T31.setTop (mkF m 78 #[.val (.int p1), .val (.int p2), .val (.ref b1), .val (.int (p1 &&& (3 : Int32))), .val (.int (p2 &&& (3 : Int32))), .val (.int (own_ant (p1 &&& (3 : Int32)))), .val (.int (own_ant (p2 &&& (3 : Int32)))), .val (.int (1 : Int32))] [(.int (own_cg wO wAB wO wAB))])) tt
        refine XS.iload X31.here hx rfl (hb hby at_78) rfl ?_
        show Steps p.tables e below (T31.setTop (mkF m 80 #[.val (.int p1), .val (.int p2), .val (.ref b1), .val (.int (p1 &&& (3 : Int32))), .val (.int (p2 &&& (3 : Int32))), .val (.int (own_ant (p1 &&& (3 : Int32)))), .val (.int (own_ant (p2 &&& (3 : Int32)))), .val (.int (1 : Int32))] [(.int (1 : Int32)), (.int (own_cg wO wAB wO wAB))])) tt
        refine XS.icmpNo X31.here hx rfl (hb hby at_80) rfl (teq (by simp [own_cg, n_wO_wA, n_wO_wB, n_wO_wAB, n_wA_wO, n_wA_wB, n_wA_wAB, n_wB_wO, n_wB_wA, n_wB_wAB, n_wAB_wO, n_wAB_wA, n_wAB_wB] : (own_cg wO wAB wO wAB) = (1 : Int32))).2 ?_
        show Steps p.tables e below (T31.setTop (mkF m 83 #[.val (.int p1), .val (.int p2), .val (.ref b1), .val (.int (p1 &&& (3 : Int32))), .val (.int (p2 &&& (3 : Int32))), .val (.int (own_ant (p1 &&& (3 : Int32)))), .val (.int (own_ant (p2 &&& (3 : Int32)))), .val (.int (1 : Int32))] [])) tt
        refine XS.iconst X31.here hx rfl (hb hby at_83) ?_
        show Steps p.tables e below (T31.setTop (mkF m 84 #[.val (.int p1), .val (.int p2), .val (.ref b1), .val (.int (p1 &&& (3 : Int32))), .val (.int (p2 &&& (3 : Int32))), .val (.int (own_ant (p1 &&& (3 : Int32)))), .val (.int (own_ant (p2 &&& (3 : Int32)))), .val (.int (1 : Int32))] [(.int (1 : Int32))])) tt
        refine XS.goto X31.here hx rfl (pc0 := 84) (pc' := 88) rfl (hb hby at_84) (by decide) (by decide) ?_
        exact kk
      obtain ⟨fs, hr, hrun, hended, hW, hsame⟩ := X31.leave (v := some (.int (1 : Int32))) (fun hq => by rw [Bd.returns] at hq; cases hq)
      refine ⟨_, _, k32 _ ?_, hrun, hended, _, _, rfl, ?_, ⟨_, rfl⟩, hW, hsame.mono (by decide) (by decide)⟩
      · show Steps p.tables e below (T31.setTop (mkF m 88 #[.val (.int p1), .val (.int p2), .val (.ref b1), .val (.int (p1 &&& (3 : Int32))), .val (.int (p2 &&& (3 : Int32))), .val (.int (own_ant (p1 &&& (3 : Int32)))), .val (.int (own_ant (p2 &&& (3 : Int32)))), .val (.int (1 : Int32))] [(.int (1 : Int32))])) _
        exact retN X31 hx (t := .boolean) Bd.returns (by simp) (hb hby at_88) hr
      · show (fun (v : Option Value) (h : Heap) (L : List Loc) => v = some (.int (1 : Int32)) ∧ Fr n0 L) _ T31.heap _
        rw [hh31]
        dsimp only
        exact ⟨rfl, N31⟩
  · have own_mark : True := trivial
    rcases own_and3 p2 with hj | hj | hj | hj
    · have own_mark : True := trivial
      obtain ⟨cl33, Ar33, q33, S33, P33, H33, G33⟩ := id V13
      have hin33 : ¬ ((p1 &&& (3 : Int32)) < 0 ∨ cl33.slots.size ≤ ((p1 &&& (3 : Int32))).toNatClampNeg) := inb_of S33 (by rw [hi]; exact ⟨by decide, by decide⟩)
      have hat33 : cl33.slots[((p1 &&& (3 : Int32))).toNatClampNeg]? = some (.ref wA) := Has.at H33 hin33 (by rw [hi]; rfl)
      obtain ⟨cl34, Ar34, q34, S34, P34, H34, G34⟩ := id V13
      have hin34 : ¬ ((p2 &&& (3 : Int32)) < 0 ∨ cl34.slots.size ≤ ((p2 &&& (3 : Int32))).toNatClampNeg) := inb_of S34 (by rw [hj]; exact ⟨by decide, by decide⟩)
      have hat34 : cl34.slots[((p2 &&& (3 : Int32))).toNatClampNeg]? = some (.ref wO) := Has.at H34 hin34 (by rw [hj]; rfl)
      obtain ⟨cq35, kq35, q35a, q35b, q35c⟩ := isOf hZ hh15 (Exa.keep E_wA K13)
      obtain ⟨_, _, ⟨T35, L35, ka35, na35⟩, -, X35, ⟨Lc35, hQ35, l35, y35, z35⟩, st35⟩ := X15.virtualBack hx (y := (⟨"com/example/probematch/probematch/generate/BloodType", "canGiveTo", "(Lcom/example/probematch/probematch/generate/BloodType;)Z"⟩ : MethodName)) (z := (⟨"com/example/probematch/probematch/generate/BloodType", "canGiveTo", "(Lcom/example/probematch/probematch/generate/BloodType;)Z"⟩ : MethodName)) hown (mvT hZ (hw _ (List.mem_of_getElem? (i := 16) rfl))) (mvT hZ (hw _ (List.mem_of_getElem? (i := 17) rfl))) (notFace_of_selects (args := #[]) (mvT hZ (hw _ (List.mem_of_getElem? (i := 19) rfl)))) (mvT hZ (hw _ (List.mem_of_getElem? (i := 19) rfl))) (mvT hZ (hw _ (List.mem_of_getElem? (i := 18) rfl))) (by decide) (backOf (W := 0) (own_rmG l Z a0 hw [] wA wO wO wAB h13 n0 Z13 (own_sta_keep0 S_wO K13) (own_sta_keep0 S_wAB K13)) hZ (hw _ (List.mem_of_getElem? (i := 20) rfl)) (hw _ (List.mem_of_getElem? (i := 3) rfl)) (by decide) (by decide)) q35a q35c (g := (mkF m 75 #[.val (.int p1), .val (.int p2), .val (.ref b1), .val (.int (p1 &&& (3 : Int32))), .val (.int (p2 &&& (3 : Int32))), .val (.int (own_ant (p1 &&& (3 : Int32)))), .val (.int (own_ant (p2 &&& (3 : Int32)))), .val (.int (0 : Int32))] [(.ref wO), (.ref wA)])) rfl (by rw [hml]; rfl) (Steps.refl _) (argsL := [(.ref wO)]) (rest := []) (lenOf own_pd__Lcom_example_probematch_probematch_generate_BloodType__Z rfl) rfl (by show 2 * 0 + _ ≤ _; exact Nat.le_of_eq rfl) (hb hby at_75) (fun _ _ => ⟨rfl, hh15, (by decide : 1 + 0 ≤ _), (by decide : 4 + 0 ≤ _)⟩)
      dsimp only [Pt.U, Pt.locs, Pt.cells, Pt.slots] at X35 l35 y35 z35 st35 hQ35
      subst l35 y35 z35
      obtain ⟨rfl, Nq35, hh35⟩ := hQ35
      have N35 := Fr.app N15 Nq35
      have k36 : ∀ tt, Steps p.tables e below (T35.setTop (mkF m 88 #[.val (.int p1), .val (.int p2), .val (.ref b1), .val (.int (p1 &&& (3 : Int32))), .val (.int (p2 &&& (3 : Int32))), .val (.int (own_ant (p1 &&& (3 : Int32)))), .val (.int (own_ant (p2 &&& (3 : Int32)))), .val (.int (0 : Int32))] [(.int (1 : Int32))])) tt → Steps p.tables e below (s₁.setTop (entryFrame m #[(.int p1), (.int p2)] maxLocals)) tt := by
        intro tt kk
        refine k16 tt ?_
        show Steps p.tables e below (T15.setTop (mkF m 58 #[.val (.int p1), .val (.int p2), .val (.ref b1), .val (.int (p1 &&& (3 : Int32))), .val (.int (p2 &&& (3 : Int32))), .val (.int (own_ant (p1 &&& (3 : Int32)))), .val (.int (own_ant (p2 &&& (3 : Int32)))), .unset] [(.int ((own_ant (p1 &&& (3 : Int32))) &&& ((own_ant (p2 &&& (3 : Int32))) ^^^ (-1 : Int32))))])) tt
        refine XS.ifYes X15.here hx rfl (pc0 := 58) (pc' := 65) rfl (hb hby at_58) rfl ((if0 _ _).trans (feq (by rw [hi, hj]; decide : ¬ (((own_ant (p1 &&& (3 : Int32))) &&& ((own_ant (p2 &&& (3 : Int32))) ^^^ (-1 : Int32))) = (0 : Int32)))).2) (by decide) (by decide) ?_
        show Steps p.tables e below (T15.setTop (mkF m 65 #[.val (.int p1), .val (.int p2), .val (.ref b1), .val (.int (p1 &&& (3 : Int32))), .val (.int (p2 &&& (3 : Int32))), .val (.int (own_ant (p1 &&& (3 : Int32)))), .val (.int (own_ant (p2 &&& (3 : Int32)))), .unset] [])) tt
        refine XS.iconst X15.here hx rfl (hb hby at_65) ?_
        show Steps p.tables e below (T15.setTop (mkF m 66 #[.val (.int p1), .val (.int p2), .val (.ref b1), .val (.int (p1 &&& (3 : Int32))), .val (.int (p2 &&& (3 : Int32))), .val (.int (own_ant (p1 &&& (3 : Int32)))), .val (.int (own_ant (p2 &&& (3 : Int32)))), .unset] [(.int (0 : Int32))])) tt
        refine XS.istore X15.here hx rfl (hb hby at_66) rfl (l' := #[.val (.int p1), .val (.int p2), .val (.ref b1), .val (.int (p1 &&& (3 : Int32))), .val (.int (p2 &&& (3 : Int32))), .val (.int (own_ant (p1 &&& (3 : Int32)))), .val (.int (own_ant (p2 &&& (3 : Int32)))), .val (.int (0 : Int32))]) rfl ?_
        show Steps p.tables e below (T15.setTop (mkF m 68 #[.val (.int p1), .val (.int p2), .val (.ref b1), .val (.int (p1 &&& (3 : Int32))), .val (.int (p2 &&& (3 : Int32))), .val (.int (own_ant (p1 &&& (3 : Int32)))), .val (.int (own_ant (p2 &&& (3 : Int32)))), .val (.int (0 : Int32))] [])) tt
        refine XS.aloadN X15.here hx rfl (hb hby at_68) rfl rfl ?_
        show Steps p.tables e below (T15.setTop (mkF m 69 #[.val (.int p1), .val (.int p2), .val (.ref b1), .val (.int (p1 &&& (3 : Int32))), .val (.int (p2 &&& (3 : Int32))), .val (.int (own_ant (p1 &&& (3 : Int32)))), .val (.int (own_ant (p2 &&& (3 : Int32)))), .val (.int (0 : Int32))] [(.ref b1)])) tt
        refine XS.iloadN X15.here hx rfl (hb hby at_69) rfl ?_
        show Steps p.tables e below (T15.setTop (mkF m 70 #[.val (.int p1), .val (.int p2), .val (.ref b1), .val (.int (p1 &&& (3 : Int32))), .val (.int (p2 &&& (3 : Int32))), .val (.int (own_ant (p1 &&& (3 : Int32)))), .val (.int (own_ant (p2 &&& (3 : Int32)))), .val (.int (0 : Int32))] [(.int (p1 &&& (3 : Int32))), (.ref b1)])) tt
        refine X15.aaload hx (j := (p1 &&& (3 : Int32))) (v := (.ref wA)) (by rw [hh15]; exact Ar33.1) (State.isArrayOf_alike hZ.alike Ar33.2.1) rfl Ar33.2.2 hin33 hat33 (g := (mkF m 70 #[.val (.int p1), .val (.int p2), .val (.ref b1), .val (.int (p1 &&& (3 : Int32))), .val (.int (p2 &&& (3 : Int32))), .val (.int (own_ant (p1 &&& (3 : Int32)))), .val (.int (own_ant (p2 &&& (3 : Int32)))), .val (.int (0 : Int32))] [(.int (p1 &&& (3 : Int32))), (.ref b1)])) rfl rfl (hb hby at_70) _ ?_
        show Steps p.tables e below (T15.setTop (mkF m 71 #[.val (.int p1), .val (.int p2), .val (.ref b1), .val (.int (p1 &&& (3 : Int32))), .val (.int (p2 &&& (3 : Int32))), .val (.int (own_ant (p1 &&& (3 : Int32)))), .val (.int (own_ant (p2 &&& (3 : Int32)))), .val (.int (0 : Int32))] [(.ref wA)])) tt
        refine XS.aloadN X15.here hx rfl (hb hby at_71) rfl rfl ?_
        show Steps p.tables e below (T15.setTop (mkF m 72 #[.val (.int p1), .val (.int p2), .val (.ref b1), .val (.int (p1 &&& (3 : Int32))), .val (.int (p2 &&& (3 : Int32))), .val (.int (own_ant (p1 &&& (3 : Int32)))), .val (.int (own_ant (p2 &&& (3 : Int32)))), .val (.int (0 : Int32))] [(.ref b1), (.ref wA)])) tt
        refine XS.iload X15.here hx rfl (hb hby at_72) rfl ?_
        show Steps p.tables e below (T15.setTop (mkF m 74 #[.val (.int p1), .val (.int p2), .val (.ref b1), .val (.int (p1 &&& (3 : Int32))), .val (.int (p2 &&& (3 : Int32))), .val (.int (own_ant (p1 &&& (3 : Int32)))), .val (.int (own_ant (p2 &&& (3 : Int32)))), .val (.int (0 : Int32))] [(.int (p2 &&& (3 : Int32))), (.ref b1), (.ref wA)])) tt
        refine X15.aaload hx (j := (p2 &&& (3 : Int32))) (v := (.ref wO)) (by rw [hh15]; exact Ar34.1) (State.isArrayOf_alike hZ.alike Ar34.2.1) rfl Ar34.2.2 hin34 hat34 (g := (mkF m 74 #[.val (.int p1), .val (.int p2), .val (.ref b1), .val (.int (p1 &&& (3 : Int32))), .val (.int (p2 &&& (3 : Int32))), .val (.int (own_ant (p1 &&& (3 : Int32)))), .val (.int (own_ant (p2 &&& (3 : Int32)))), .val (.int (0 : Int32))] [(.int (p2 &&& (3 : Int32))), (.ref b1), (.ref wA)])) rfl rfl (hb hby at_74) _ ?_
        show Steps p.tables e below (T15.setTop (mkF m 75 #[.val (.int p1), .val (.int p2), .val (.ref b1), .val (.int (p1 &&& (3 : Int32))), .val (.int (p2 &&& (3 : Int32))), .val (.int (own_ant (p1 &&& (3 : Int32)))), .val (.int (own_ant (p2 &&& (3 : Int32)))), .val (.int (0 : Int32))] [(.ref wO), (.ref wA)])) tt
        refine st35.trans ?_
        show Steps p.tables e below (T35.setTop (mkF m 78 #[.val (.int p1), .val (.int p2), .val (.ref b1), .val (.int (p1 &&& (3 : Int32))), .val (.int (p2 &&& (3 : Int32))), .val (.int (own_ant (p1 &&& (3 : Int32)))), .val (.int (own_ant (p2 &&& (3 : Int32)))), .val (.int (0 : Int32))] [(.int (own_cg wA wO wO wAB))])) tt
        refine XS.iload X35.here hx rfl (hb hby at_78) rfl ?_
        show Steps p.tables e below (T35.setTop (mkF m 80 #[.val (.int p1), .val (.int p2), .val (.ref b1), .val (.int (p1 &&& (3 : Int32))), .val (.int (p2 &&& (3 : Int32))), .val (.int (own_ant (p1 &&& (3 : Int32)))), .val (.int (own_ant (p2 &&& (3 : Int32)))), .val (.int (0 : Int32))] [(.int (0 : Int32)), (.int (own_cg wA wO wO wAB))])) tt
        refine XS.icmpNo X35.here hx rfl (hb hby at_80) rfl (teq (by simp [own_cg, n_wO_wA, n_wO_wB, n_wO_wAB, n_wA_wO, n_wA_wB, n_wA_wAB, n_wB_wO, n_wB_wA, n_wB_wAB, n_wAB_wO, n_wAB_wA, n_wAB_wB] : (own_cg wA wO wO wAB) = (0 : Int32))).2 ?_
        show Steps p.tables e below (T35.setTop (mkF m 83 #[.val (.int p1), .val (.int p2), .val (.ref b1), .val (.int (p1 &&& (3 : Int32))), .val (.int (p2 &&& (3 : Int32))), .val (.int (own_ant (p1 &&& (3 : Int32)))), .val (.int (own_ant (p2 &&& (3 : Int32)))), .val (.int (0 : Int32))] [])) tt
        refine XS.iconst X35.here hx rfl (hb hby at_83) ?_
        show Steps p.tables e below (T35.setTop (mkF m 84 #[.val (.int p1), .val (.int p2), .val (.ref b1), .val (.int (p1 &&& (3 : Int32))), .val (.int (p2 &&& (3 : Int32))), .val (.int (own_ant (p1 &&& (3 : Int32)))), .val (.int (own_ant (p2 &&& (3 : Int32)))), .val (.int (0 : Int32))] [(.int (1 : Int32))])) tt
        refine XS.goto X35.here hx rfl (pc0 := 84) (pc' := 88) rfl (hb hby at_84) (by decide) (by decide) ?_
        exact kk
      obtain ⟨fs, hr, hrun, hended, hW, hsame⟩ := X35.leave (v := some (.int (1 : Int32))) (fun hq => by rw [Bd.returns] at hq; cases hq)
      refine ⟨_, _, k36 _ ?_, hrun, hended, _, _, rfl, ?_, ⟨_, rfl⟩, hW, hsame.mono (by decide) (by decide)⟩
      · show Steps p.tables e below (T35.setTop (mkF m 88 #[.val (.int p1), .val (.int p2), .val (.ref b1), .val (.int (p1 &&& (3 : Int32))), .val (.int (p2 &&& (3 : Int32))), .val (.int (own_ant (p1 &&& (3 : Int32)))), .val (.int (own_ant (p2 &&& (3 : Int32)))), .val (.int (0 : Int32))] [(.int (1 : Int32))])) _
        exact retN X35 hx (t := .boolean) Bd.returns (by simp) (hb hby at_88) hr
      · show (fun (v : Option Value) (h : Heap) (L : List Loc) => v = some (.int (1 : Int32)) ∧ Fr n0 L) _ T35.heap _
        rw [hh35]
        dsimp only
        exact ⟨rfl, N35⟩
    · have own_mark : True := trivial
      obtain ⟨cl37, Ar37, q37, S37, P37, H37, G37⟩ := id V13
      have hin37 : ¬ ((p1 &&& (3 : Int32)) < 0 ∨ cl37.slots.size ≤ ((p1 &&& (3 : Int32))).toNatClampNeg) := inb_of S37 (by rw [hi]; exact ⟨by decide, by decide⟩)
      have hat37 : cl37.slots[((p1 &&& (3 : Int32))).toNatClampNeg]? = some (.ref wA) := Has.at H37 hin37 (by rw [hi]; rfl)
      obtain ⟨cl38, Ar38, q38, S38, P38, H38, G38⟩ := id V13
      have hin38 : ¬ ((p2 &&& (3 : Int32)) < 0 ∨ cl38.slots.size ≤ ((p2 &&& (3 : Int32))).toNatClampNeg) := inb_of S38 (by rw [hj]; exact ⟨by decide, by decide⟩)
      have hat38 : cl38.slots[((p2 &&& (3 : Int32))).toNatClampNeg]? = some (.ref wA) := Has.at H38 hin38 (by rw [hj]; rfl)
      obtain ⟨cq39, kq39, q39a, q39b, q39c⟩ := isOf hZ hh15 (Exa.keep E_wA K13)
      obtain ⟨_, _, ⟨T39, L39, ka39, na39⟩, -, X39, ⟨Lc39, hQ39, l39, y39, z39⟩, st39⟩ := X15.virtualBack hx (y := (⟨"com/example/probematch/probematch/generate/BloodType", "canGiveTo", "(Lcom/example/probematch/probematch/generate/BloodType;)Z"⟩ : MethodName)) (z := (⟨"com/example/probematch/probematch/generate/BloodType", "canGiveTo", "(Lcom/example/probematch/probematch/generate/BloodType;)Z"⟩ : MethodName)) hown (mvT hZ (hw _ (List.mem_of_getElem? (i := 16) rfl))) (mvT hZ (hw _ (List.mem_of_getElem? (i := 17) rfl))) (notFace_of_selects (args := #[]) (mvT hZ (hw _ (List.mem_of_getElem? (i := 19) rfl)))) (mvT hZ (hw _ (List.mem_of_getElem? (i := 19) rfl))) (mvT hZ (hw _ (List.mem_of_getElem? (i := 18) rfl))) (by decide) (backOf (W := 0) (own_rmG l Z a0 hw [] wA wA wO wAB h13 n0 Z13 (own_sta_keep0 S_wO K13) (own_sta_keep0 S_wAB K13)) hZ (hw _ (List.mem_of_getElem? (i := 20) rfl)) (hw _ (List.mem_of_getElem? (i := 3) rfl)) (by decide) (by decide)) q39a q39c (g := (mkF m 75 #[.val (.int p1), .val (.int p2), .val (.ref b1), .val (.int (p1 &&& (3 : Int32))), .val (.int (p2 &&& (3 : Int32))), .val (.int (own_ant (p1 &&& (3 : Int32)))), .val (.int (own_ant (p2 &&& (3 : Int32)))), .val (.int (1 : Int32))] [(.ref wA), (.ref wA)])) rfl (by rw [hml]; rfl) (Steps.refl _) (argsL := [(.ref wA)]) (rest := []) (lenOf own_pd__Lcom_example_probematch_probematch_generate_BloodType__Z rfl) rfl (by show 2 * 0 + _ ≤ _; exact Nat.le_of_eq rfl) (hb hby at_75) (fun _ _ => ⟨rfl, hh15, (by decide : 1 + 0 ≤ _), (by decide : 4 + 0 ≤ _)⟩)
      dsimp only [Pt.U, Pt.locs, Pt.cells, Pt.slots] at X39 l39 y39 z39 st39 hQ39
      subst l39 y39 z39
      obtain ⟨rfl, Nq39, hh39⟩ := hQ39
      have N39 := Fr.app N15 Nq39
      have k40 : ∀ tt, Steps p.tables e below (T39.setTop (mkF m 88 #[.val (.int p1), .val (.int p2), .val (.ref b1), .val (.int (p1 &&& (3 : Int32))), .val (.int (p2 &&& (3 : Int32))), .val (.int (own_ant (p1 &&& (3 : Int32)))), .val (.int (own_ant (p2 &&& (3 : Int32)))), .val (.int (1 : Int32))] [(.int (1 : Int32))])) tt → Steps p.tables e below (s₁.setTop (entryFrame m #[(.int p1), (.int p2)] maxLocals)) tt := by
        intro tt kk
        refine k16 tt ?_
        show Steps p.tables e below (T15.setTop (mkF m 58 #[.val (.int p1), .val (.int p2), .val (.ref b1), .val (.int (p1 &&& (3 : Int32))), .val (.int (p2 &&& (3 : Int32))), .val (.int (own_ant (p1 &&& (3 : Int32)))), .val (.int (own_ant (p2 &&& (3 : Int32)))), .unset] [(.int ((own_ant (p1 &&& (3 : Int32))) &&& ((own_ant (p2 &&& (3 : Int32))) ^^^ (-1 : Int32))))])) tt
        refine XS.ifNo X15.here hx rfl (hb hby at_58) rfl ((if0 _ _).trans (teq (by rw [hi, hj]; decide : ((own_ant (p1 &&& (3 : Int32))) &&& ((own_ant (p2 &&& (3 : Int32))) ^^^ (-1 : Int32))) = (0 : Int32))).2) ?_
        show Steps p.tables e below (T15.setTop (mkF m 61 #[.val (.int p1), .val (.int p2), .val (.ref b1), .val (.int (p1 &&& (3 : Int32))), .val (.int (p2 &&& (3 : Int32))), .val (.int (own_ant (p1 &&& (3 : Int32)))), .val (.int (own_ant (p2 &&& (3 : Int32)))), .unset] [])) tt
        refine XS.iconst X15.here hx rfl (hb hby at_61) ?_
        show Steps p.tables e below (T15.setTop (mkF m 62 #[.val (.int p1), .val (.int p2), .val (.ref b1), .val (.int (p1 &&& (3 : Int32))), .val (.int (p2 &&& (3 : Int32))), .val (.int (own_ant (p1 &&& (3 : Int32)))), .val (.int (own_ant (p2 &&& (3 : Int32)))), .unset] [(.int (1 : Int32))])) tt
        refine XS.goto X15.here hx rfl (pc0 := 62) (pc' := 66) rfl (hb hby at_62) (by decide) (by decide) ?_
        show Steps p.tables e below (T15.setTop (mkF m 66 #[.val (.int p1), .val (.int p2), .val (.ref b1), .val (.int (p1 &&& (3 : Int32))), .val (.int (p2 &&& (3 : Int32))), .val (.int (own_ant (p1 &&& (3 : Int32)))), .val (.int (own_ant (p2 &&& (3 : Int32)))), .unset] [(.int (1 : Int32))])) tt
        refine XS.istore X15.here hx rfl (hb hby at_66) rfl (l' := #[.val (.int p1), .val (.int p2), .val (.ref b1), .val (.int (p1 &&& (3 : Int32))), .val (.int (p2 &&& (3 : Int32))), .val (.int (own_ant (p1 &&& (3 : Int32)))), .val (.int (own_ant (p2 &&& (3 : Int32)))), .val (.int (1 : Int32))]) rfl ?_
        show Steps p.tables e below (T15.setTop (mkF m 68 #[.val (.int p1), .val (.int p2), .val (.ref b1), .val (.int (p1 &&& (3 : Int32))), .val (.int (p2 &&& (3 : Int32))), .val (.int (own_ant (p1 &&& (3 : Int32)))), .val (.int (own_ant (p2 &&& (3 : Int32)))), .val (.int (1 : Int32))] [])) tt
        refine XS.aloadN X15.here hx rfl (hb hby at_68) rfl rfl ?_
        show Steps p.tables e below (T15.setTop (mkF m 69 #[.val (.int p1), .val (.int p2), .val (.ref b1), .val (.int (p1 &&& (3 : Int32))), .val (.int (p2 &&& (3 : Int32))), .val (.int (own_ant (p1 &&& (3 : Int32)))), .val (.int (own_ant (p2 &&& (3 : Int32)))), .val (.int (1 : Int32))] [(.ref b1)])) tt
        refine XS.iloadN X15.here hx rfl (hb hby at_69) rfl ?_
        show Steps p.tables e below (T15.setTop (mkF m 70 #[.val (.int p1), .val (.int p2), .val (.ref b1), .val (.int (p1 &&& (3 : Int32))), .val (.int (p2 &&& (3 : Int32))), .val (.int (own_ant (p1 &&& (3 : Int32)))), .val (.int (own_ant (p2 &&& (3 : Int32)))), .val (.int (1 : Int32))] [(.int (p1 &&& (3 : Int32))), (.ref b1)])) tt
        refine X15.aaload hx (j := (p1 &&& (3 : Int32))) (v := (.ref wA)) (by rw [hh15]; exact Ar37.1) (State.isArrayOf_alike hZ.alike Ar37.2.1) rfl Ar37.2.2 hin37 hat37 (g := (mkF m 70 #[.val (.int p1), .val (.int p2), .val (.ref b1), .val (.int (p1 &&& (3 : Int32))), .val (.int (p2 &&& (3 : Int32))), .val (.int (own_ant (p1 &&& (3 : Int32)))), .val (.int (own_ant (p2 &&& (3 : Int32)))), .val (.int (1 : Int32))] [(.int (p1 &&& (3 : Int32))), (.ref b1)])) rfl rfl (hb hby at_70) _ ?_
        show Steps p.tables e below (T15.setTop (mkF m 71 #[.val (.int p1), .val (.int p2), .val (.ref b1), .val (.int (p1 &&& (3 : Int32))), .val (.int (p2 &&& (3 : Int32))), .val (.int (own_ant (p1 &&& (3 : Int32)))), .val (.int (own_ant (p2 &&& (3 : Int32)))), .val (.int (1 : Int32))] [(.ref wA)])) tt
        refine XS.aloadN X15.here hx rfl (hb hby at_71) rfl rfl ?_
        show Steps p.tables e below (T15.setTop (mkF m 72 #[.val (.int p1), .val (.int p2), .val (.ref b1), .val (.int (p1 &&& (3 : Int32))), .val (.int (p2 &&& (3 : Int32))), .val (.int (own_ant (p1 &&& (3 : Int32)))), .val (.int (own_ant (p2 &&& (3 : Int32)))), .val (.int (1 : Int32))] [(.ref b1), (.ref wA)])) tt
        refine XS.iload X15.here hx rfl (hb hby at_72) rfl ?_
        show Steps p.tables e below (T15.setTop (mkF m 74 #[.val (.int p1), .val (.int p2), .val (.ref b1), .val (.int (p1 &&& (3 : Int32))), .val (.int (p2 &&& (3 : Int32))), .val (.int (own_ant (p1 &&& (3 : Int32)))), .val (.int (own_ant (p2 &&& (3 : Int32)))), .val (.int (1 : Int32))] [(.int (p2 &&& (3 : Int32))), (.ref b1), (.ref wA)])) tt
        refine X15.aaload hx (j := (p2 &&& (3 : Int32))) (v := (.ref wA)) (by rw [hh15]; exact Ar38.1) (State.isArrayOf_alike hZ.alike Ar38.2.1) rfl Ar38.2.2 hin38 hat38 (g := (mkF m 74 #[.val (.int p1), .val (.int p2), .val (.ref b1), .val (.int (p1 &&& (3 : Int32))), .val (.int (p2 &&& (3 : Int32))), .val (.int (own_ant (p1 &&& (3 : Int32)))), .val (.int (own_ant (p2 &&& (3 : Int32)))), .val (.int (1 : Int32))] [(.int (p2 &&& (3 : Int32))), (.ref b1), (.ref wA)])) rfl rfl (hb hby at_74) _ ?_
        show Steps p.tables e below (T15.setTop (mkF m 75 #[.val (.int p1), .val (.int p2), .val (.ref b1), .val (.int (p1 &&& (3 : Int32))), .val (.int (p2 &&& (3 : Int32))), .val (.int (own_ant (p1 &&& (3 : Int32)))), .val (.int (own_ant (p2 &&& (3 : Int32)))), .val (.int (1 : Int32))] [(.ref wA), (.ref wA)])) tt
        refine st39.trans ?_
        show Steps p.tables e below (T39.setTop (mkF m 78 #[.val (.int p1), .val (.int p2), .val (.ref b1), .val (.int (p1 &&& (3 : Int32))), .val (.int (p2 &&& (3 : Int32))), .val (.int (own_ant (p1 &&& (3 : Int32)))), .val (.int (own_ant (p2 &&& (3 : Int32)))), .val (.int (1 : Int32))] [(.int (own_cg wA wA wO wAB))])) tt
        refine XS.iload X39.here hx rfl (hb hby at_78) rfl ?_
        show Steps p.tables e below (T39.setTop (mkF m 80 #[.val (.int p1), .val (.int p2), .val (.ref b1), .val (.int (p1 &&& (3 : Int32))), .val (.int (p2 &&& (3 : Int32))), .val (.int (own_ant (p1 &&& (3 : Int32)))), .val (.int (own_ant (p2 &&& (3 : Int32)))), .val (.int (1 : Int32))] [(.int (1 : Int32)), (.int (own_cg wA wA wO wAB))])) tt
        refine XS.icmpNo X39.here hx rfl (hb hby at_80) rfl (teq (by simp [own_cg, n_wO_wA, n_wO_wB, n_wO_wAB, n_wA_wO, n_wA_wB, n_wA_wAB, n_wB_wO, n_wB_wA, n_wB_wAB, n_wAB_wO, n_wAB_wA, n_wAB_wB] : (own_cg wA wA wO wAB) = (1 : Int32))).2 ?_
        show Steps p.tables e below (T39.setTop (mkF m 83 #[.val (.int p1), .val (.int p2), .val (.ref b1), .val (.int (p1 &&& (3 : Int32))), .val (.int (p2 &&& (3 : Int32))), .val (.int (own_ant (p1 &&& (3 : Int32)))), .val (.int (own_ant (p2 &&& (3 : Int32)))), .val (.int (1 : Int32))] [])) tt
        refine XS.iconst X39.here hx rfl (hb hby at_83) ?_
        show Steps p.tables e below (T39.setTop (mkF m 84 #[.val (.int p1), .val (.int p2), .val (.ref b1), .val (.int (p1 &&& (3 : Int32))), .val (.int (p2 &&& (3 : Int32))), .val (.int (own_ant (p1 &&& (3 : Int32)))), .val (.int (own_ant (p2 &&& (3 : Int32)))), .val (.int (1 : Int32))] [(.int (1 : Int32))])) tt
        refine XS.goto X39.here hx rfl (pc0 := 84) (pc' := 88) rfl (hb hby at_84) (by decide) (by decide) ?_
        exact kk
      obtain ⟨fs, hr, hrun, hended, hW, hsame⟩ := X39.leave (v := some (.int (1 : Int32))) (fun hq => by rw [Bd.returns] at hq; cases hq)
      refine ⟨_, _, k40 _ ?_, hrun, hended, _, _, rfl, ?_, ⟨_, rfl⟩, hW, hsame.mono (by decide) (by decide)⟩
      · show Steps p.tables e below (T39.setTop (mkF m 88 #[.val (.int p1), .val (.int p2), .val (.ref b1), .val (.int (p1 &&& (3 : Int32))), .val (.int (p2 &&& (3 : Int32))), .val (.int (own_ant (p1 &&& (3 : Int32)))), .val (.int (own_ant (p2 &&& (3 : Int32)))), .val (.int (1 : Int32))] [(.int (1 : Int32))])) _
        exact retN X39 hx (t := .boolean) Bd.returns (by simp) (hb hby at_88) hr
      · show (fun (v : Option Value) (h : Heap) (L : List Loc) => v = some (.int (1 : Int32)) ∧ Fr n0 L) _ T39.heap _
        rw [hh39]
        dsimp only
        exact ⟨rfl, N39⟩
    · have own_mark : True := trivial
      obtain ⟨cl41, Ar41, q41, S41, P41, H41, G41⟩ := id V13
      have hin41 : ¬ ((p1 &&& (3 : Int32)) < 0 ∨ cl41.slots.size ≤ ((p1 &&& (3 : Int32))).toNatClampNeg) := inb_of S41 (by rw [hi]; exact ⟨by decide, by decide⟩)
      have hat41 : cl41.slots[((p1 &&& (3 : Int32))).toNatClampNeg]? = some (.ref wA) := Has.at H41 hin41 (by rw [hi]; rfl)
      obtain ⟨cl42, Ar42, q42, S42, P42, H42, G42⟩ := id V13
      have hin42 : ¬ ((p2 &&& (3 : Int32)) < 0 ∨ cl42.slots.size ≤ ((p2 &&& (3 : Int32))).toNatClampNeg) := inb_of S42 (by rw [hj]; exact ⟨by decide, by decide⟩)
      have hat42 : cl42.slots[((p2 &&& (3 : Int32))).toNatClampNeg]? = some (.ref wB) := Has.at H42 hin42 (by rw [hj]; rfl)
      obtain ⟨cq43, kq43, q43a, q43b, q43c⟩ := isOf hZ hh15 (Exa.keep E_wA K13)
      obtain ⟨_, _, ⟨T43, L43, ka43, na43⟩, -, X43, ⟨Lc43, hQ43, l43, y43, z43⟩, st43⟩ := X15.virtualBack hx (y := (⟨"com/example/probematch/probematch/generate/BloodType", "canGiveTo", "(Lcom/example/probematch/probematch/generate/BloodType;)Z"⟩ : MethodName)) (z := (⟨"com/example/probematch/probematch/generate/BloodType", "canGiveTo", "(Lcom/example/probematch/probematch/generate/BloodType;)Z"⟩ : MethodName)) hown (mvT hZ (hw _ (List.mem_of_getElem? (i := 16) rfl))) (mvT hZ (hw _ (List.mem_of_getElem? (i := 17) rfl))) (notFace_of_selects (args := #[]) (mvT hZ (hw _ (List.mem_of_getElem? (i := 19) rfl)))) (mvT hZ (hw _ (List.mem_of_getElem? (i := 19) rfl))) (mvT hZ (hw _ (List.mem_of_getElem? (i := 18) rfl))) (by decide) (backOf (W := 0) (own_rmG l Z a0 hw [] wA wB wO wAB h13 n0 Z13 (own_sta_keep0 S_wO K13) (own_sta_keep0 S_wAB K13)) hZ (hw _ (List.mem_of_getElem? (i := 20) rfl)) (hw _ (List.mem_of_getElem? (i := 3) rfl)) (by decide) (by decide)) q43a q43c (g := (mkF m 75 #[.val (.int p1), .val (.int p2), .val (.ref b1), .val (.int (p1 &&& (3 : Int32))), .val (.int (p2 &&& (3 : Int32))), .val (.int (own_ant (p1 &&& (3 : Int32)))), .val (.int (own_ant (p2 &&& (3 : Int32)))), .val (.int (0 : Int32))] [(.ref wB), (.ref wA)])) rfl (by rw [hml]; rfl) (Steps.refl _) (argsL := [(.ref wB)]) (rest := []) (lenOf own_pd__Lcom_example_probematch_probematch_generate_BloodType__Z rfl) rfl (by show 2 * 0 + _ ≤ _; exact Nat.le_of_eq rfl) (hb hby at_75) (fun _ _ => ⟨rfl, hh15, (by decide : 1 + 0 ≤ _), (by decide : 4 + 0 ≤ _)⟩)
      dsimp only [Pt.U, Pt.locs, Pt.cells, Pt.slots] at X43 l43 y43 z43 st43 hQ43
      subst l43 y43 z43
      obtain ⟨rfl, Nq43, hh43⟩ := hQ43
      have N43 := Fr.app N15 Nq43
      have k44 : ∀ tt, Steps p.tables e below (T43.setTop (mkF m 88 #[.val (.int p1), .val (.int p2), .val (.ref b1), .val (.int (p1 &&& (3 : Int32))), .val (.int (p2 &&& (3 : Int32))), .val (.int (own_ant (p1 &&& (3 : Int32)))), .val (.int (own_ant (p2 &&& (3 : Int32)))), .val (.int (0 : Int32))] [(.int (1 : Int32))])) tt → Steps p.tables e below (s₁.setTop (entryFrame m #[(.int p1), (.int p2)] maxLocals)) tt := by
        intro tt kk
        refine k16 tt ?_
        show Steps p.tables e below (T15.setTop (mkF m 58 #[.val (.int p1), .val (.int p2), .val (.ref b1), .val (.int (p1 &&& (3 : Int32))), .val (.int (p2 &&& (3 : Int32))), .val (.int (own_ant (p1 &&& (3 : Int32)))), .val (.int (own_ant (p2 &&& (3 : Int32)))), .unset] [(.int ((own_ant (p1 &&& (3 : Int32))) &&& ((own_ant (p2 &&& (3 : Int32))) ^^^ (-1 : Int32))))])) tt
        refine XS.ifYes X15.here hx rfl (pc0 := 58) (pc' := 65) rfl (hb hby at_58) rfl ((if0 _ _).trans (feq (by rw [hi, hj]; decide : ¬ (((own_ant (p1 &&& (3 : Int32))) &&& ((own_ant (p2 &&& (3 : Int32))) ^^^ (-1 : Int32))) = (0 : Int32)))).2) (by decide) (by decide) ?_
        show Steps p.tables e below (T15.setTop (mkF m 65 #[.val (.int p1), .val (.int p2), .val (.ref b1), .val (.int (p1 &&& (3 : Int32))), .val (.int (p2 &&& (3 : Int32))), .val (.int (own_ant (p1 &&& (3 : Int32)))), .val (.int (own_ant (p2 &&& (3 : Int32)))), .unset] [])) tt
        refine XS.iconst X15.here hx rfl (hb hby at_65) ?_
        show Steps p.tables e below (T15.setTop (mkF m 66 #[.val (.int p1), .val (.int p2), .val (.ref b1), .val (.int (p1 &&& (3 : Int32))), .val (.int (p2 &&& (3 : Int32))), .val (.int (own_ant (p1 &&& (3 : Int32)))), .val (.int (own_ant (p2 &&& (3 : Int32)))), .unset] [(.int (0 : Int32))])) tt
        refine XS.istore X15.here hx rfl (hb hby at_66) rfl (l' := #[.val (.int p1), .val (.int p2), .val (.ref b1), .val (.int (p1 &&& (3 : Int32))), .val (.int (p2 &&& (3 : Int32))), .val (.int (own_ant (p1 &&& (3 : Int32)))), .val (.int (own_ant (p2 &&& (3 : Int32)))), .val (.int (0 : Int32))]) rfl ?_
        show Steps p.tables e below (T15.setTop (mkF m 68 #[.val (.int p1), .val (.int p2), .val (.ref b1), .val (.int (p1 &&& (3 : Int32))), .val (.int (p2 &&& (3 : Int32))), .val (.int (own_ant (p1 &&& (3 : Int32)))), .val (.int (own_ant (p2 &&& (3 : Int32)))), .val (.int (0 : Int32))] [])) tt
        refine XS.aloadN X15.here hx rfl (hb hby at_68) rfl rfl ?_
        show Steps p.tables e below (T15.setTop (mkF m 69 #[.val (.int p1), .val (.int p2), .val (.ref b1), .val (.int (p1 &&& (3 : Int32))), .val (.int (p2 &&& (3 : Int32))), .val (.int (own_ant (p1 &&& (3 : Int32)))), .val (.int (own_ant (p2 &&& (3 : Int32)))), .val (.int (0 : Int32))] [(.ref b1)])) tt
        refine XS.iloadN X15.here hx rfl (hb hby at_69) rfl ?_
        show Steps p.tables e below (T15.setTop (mkF m 70 #[.val (.int p1), .val (.int p2), .val (.ref b1), .val (.int (p1 &&& (3 : Int32))), .val (.int (p2 &&& (3 : Int32))), .val (.int (own_ant (p1 &&& (3 : Int32)))), .val (.int (own_ant (p2 &&& (3 : Int32)))), .val (.int (0 : Int32))] [(.int (p1 &&& (3 : Int32))), (.ref b1)])) tt
        refine X15.aaload hx (j := (p1 &&& (3 : Int32))) (v := (.ref wA)) (by rw [hh15]; exact Ar41.1) (State.isArrayOf_alike hZ.alike Ar41.2.1) rfl Ar41.2.2 hin41 hat41 (g := (mkF m 70 #[.val (.int p1), .val (.int p2), .val (.ref b1), .val (.int (p1 &&& (3 : Int32))), .val (.int (p2 &&& (3 : Int32))), .val (.int (own_ant (p1 &&& (3 : Int32)))), .val (.int (own_ant (p2 &&& (3 : Int32)))), .val (.int (0 : Int32))] [(.int (p1 &&& (3 : Int32))), (.ref b1)])) rfl rfl (hb hby at_70) _ ?_
        show Steps p.tables e below (T15.setTop (mkF m 71 #[.val (.int p1), .val (.int p2), .val (.ref b1), .val (.int (p1 &&& (3 : Int32))), .val (.int (p2 &&& (3 : Int32))), .val (.int (own_ant (p1 &&& (3 : Int32)))), .val (.int (own_ant (p2 &&& (3 : Int32)))), .val (.int (0 : Int32))] [(.ref wA)])) tt
        refine XS.aloadN X15.here hx rfl (hb hby at_71) rfl rfl ?_
        show Steps p.tables e below (T15.setTop (mkF m 72 #[.val (.int p1), .val (.int p2), .val (.ref b1), .val (.int (p1 &&& (3 : Int32))), .val (.int (p2 &&& (3 : Int32))), .val (.int (own_ant (p1 &&& (3 : Int32)))), .val (.int (own_ant (p2 &&& (3 : Int32)))), .val (.int (0 : Int32))] [(.ref b1), (.ref wA)])) tt
        refine XS.iload X15.here hx rfl (hb hby at_72) rfl ?_
        show Steps p.tables e below (T15.setTop (mkF m 74 #[.val (.int p1), .val (.int p2), .val (.ref b1), .val (.int (p1 &&& (3 : Int32))), .val (.int (p2 &&& (3 : Int32))), .val (.int (own_ant (p1 &&& (3 : Int32)))), .val (.int (own_ant (p2 &&& (3 : Int32)))), .val (.int (0 : Int32))] [(.int (p2 &&& (3 : Int32))), (.ref b1), (.ref wA)])) tt
        refine X15.aaload hx (j := (p2 &&& (3 : Int32))) (v := (.ref wB)) (by rw [hh15]; exact Ar42.1) (State.isArrayOf_alike hZ.alike Ar42.2.1) rfl Ar42.2.2 hin42 hat42 (g := (mkF m 74 #[.val (.int p1), .val (.int p2), .val (.ref b1), .val (.int (p1 &&& (3 : Int32))), .val (.int (p2 &&& (3 : Int32))), .val (.int (own_ant (p1 &&& (3 : Int32)))), .val (.int (own_ant (p2 &&& (3 : Int32)))), .val (.int (0 : Int32))] [(.int (p2 &&& (3 : Int32))), (.ref b1), (.ref wA)])) rfl rfl (hb hby at_74) _ ?_
        show Steps p.tables e below (T15.setTop (mkF m 75 #[.val (.int p1), .val (.int p2), .val (.ref b1), .val (.int (p1 &&& (3 : Int32))), .val (.int (p2 &&& (3 : Int32))), .val (.int (own_ant (p1 &&& (3 : Int32)))), .val (.int (own_ant (p2 &&& (3 : Int32)))), .val (.int (0 : Int32))] [(.ref wB), (.ref wA)])) tt
        refine st43.trans ?_
        show Steps p.tables e below (T43.setTop (mkF m 78 #[.val (.int p1), .val (.int p2), .val (.ref b1), .val (.int (p1 &&& (3 : Int32))), .val (.int (p2 &&& (3 : Int32))), .val (.int (own_ant (p1 &&& (3 : Int32)))), .val (.int (own_ant (p2 &&& (3 : Int32)))), .val (.int (0 : Int32))] [(.int (own_cg wA wB wO wAB))])) tt
        refine XS.iload X43.here hx rfl (hb hby at_78) rfl ?_
        show Steps p.tables e below (T43.setTop (mkF m 80 #[.val (.int p1), .val (.int p2), .val (.ref b1), .val (.int (p1 &&& (3 : Int32))), .val (.int (p2 &&& (3 : Int32))), .val (.int (own_ant (p1 &&& (3 : Int32)))), .val (.int (own_ant (p2 &&& (3 : Int32)))), .val (.int (0 : Int32))] [(.int (0 : Int32)), (.int (own_cg wA wB wO wAB))])) tt
        refine XS.icmpNo X43.here hx rfl (hb hby at_80) rfl (teq (by simp [own_cg, n_wO_wA, n_wO_wB, n_wO_wAB, n_wA_wO, n_wA_wB, n_wA_wAB, n_wB_wO, n_wB_wA, n_wB_wAB, n_wAB_wO, n_wAB_wA, n_wAB_wB] : (own_cg wA wB wO wAB) = (0 : Int32))).2 ?_
        show Steps p.tables e below (T43.setTop (mkF m 83 #[.val (.int p1), .val (.int p2), .val (.ref b1), .val (.int (p1 &&& (3 : Int32))), .val (.int (p2 &&& (3 : Int32))), .val (.int (own_ant (p1 &&& (3 : Int32)))), .val (.int (own_ant (p2 &&& (3 : Int32)))), .val (.int (0 : Int32))] [])) tt
        refine XS.iconst X43.here hx rfl (hb hby at_83) ?_
        show Steps p.tables e below (T43.setTop (mkF m 84 #[.val (.int p1), .val (.int p2), .val (.ref b1), .val (.int (p1 &&& (3 : Int32))), .val (.int (p2 &&& (3 : Int32))), .val (.int (own_ant (p1 &&& (3 : Int32)))), .val (.int (own_ant (p2 &&& (3 : Int32)))), .val (.int (0 : Int32))] [(.int (1 : Int32))])) tt
        refine XS.goto X43.here hx rfl (pc0 := 84) (pc' := 88) rfl (hb hby at_84) (by decide) (by decide) ?_
        exact kk
      obtain ⟨fs, hr, hrun, hended, hW, hsame⟩ := X43.leave (v := some (.int (1 : Int32))) (fun hq => by rw [Bd.returns] at hq; cases hq)
      refine ⟨_, _, k44 _ ?_, hrun, hended, _, _, rfl, ?_, ⟨_, rfl⟩, hW, hsame.mono (by decide) (by decide)⟩
      · show Steps p.tables e below (T43.setTop (mkF m 88 #[.val (.int p1), .val (.int p2), .val (.ref b1), .val (.int (p1 &&& (3 : Int32))), .val (.int (p2 &&& (3 : Int32))), .val (.int (own_ant (p1 &&& (3 : Int32)))), .val (.int (own_ant (p2 &&& (3 : Int32)))), .val (.int (0 : Int32))] [(.int (1 : Int32))])) _
        exact retN X43 hx (t := .boolean) Bd.returns (by simp) (hb hby at_88) hr
      · show (fun (v : Option Value) (h : Heap) (L : List Loc) => v = some (.int (1 : Int32)) ∧ Fr n0 L) _ T43.heap _
        rw [hh43]
        dsimp only
        exact ⟨rfl, N43⟩
    · have own_mark : True := trivial
      obtain ⟨cl45, Ar45, q45, S45, P45, H45, G45⟩ := id V13
      have hin45 : ¬ ((p1 &&& (3 : Int32)) < 0 ∨ cl45.slots.size ≤ ((p1 &&& (3 : Int32))).toNatClampNeg) := inb_of S45 (by rw [hi]; exact ⟨by decide, by decide⟩)
      have hat45 : cl45.slots[((p1 &&& (3 : Int32))).toNatClampNeg]? = some (.ref wA) := Has.at H45 hin45 (by rw [hi]; rfl)
      obtain ⟨cl46, Ar46, q46, S46, P46, H46, G46⟩ := id V13
      have hin46 : ¬ ((p2 &&& (3 : Int32)) < 0 ∨ cl46.slots.size ≤ ((p2 &&& (3 : Int32))).toNatClampNeg) := inb_of S46 (by rw [hj]; exact ⟨by decide, by decide⟩)
      have hat46 : cl46.slots[((p2 &&& (3 : Int32))).toNatClampNeg]? = some (.ref wAB) := Has.at H46 hin46 (by rw [hj]; rfl)
      obtain ⟨cq47, kq47, q47a, q47b, q47c⟩ := isOf hZ hh15 (Exa.keep E_wA K13)
      obtain ⟨_, _, ⟨T47, L47, ka47, na47⟩, -, X47, ⟨Lc47, hQ47, l47, y47, z47⟩, st47⟩ := X15.virtualBack hx (y := (⟨"com/example/probematch/probematch/generate/BloodType", "canGiveTo", "(Lcom/example/probematch/probematch/generate/BloodType;)Z"⟩ : MethodName)) (z := (⟨"com/example/probematch/probematch/generate/BloodType", "canGiveTo", "(Lcom/example/probematch/probematch/generate/BloodType;)Z"⟩ : MethodName)) hown (mvT hZ (hw _ (List.mem_of_getElem? (i := 16) rfl))) (mvT hZ (hw _ (List.mem_of_getElem? (i := 17) rfl))) (notFace_of_selects (args := #[]) (mvT hZ (hw _ (List.mem_of_getElem? (i := 19) rfl)))) (mvT hZ (hw _ (List.mem_of_getElem? (i := 19) rfl))) (mvT hZ (hw _ (List.mem_of_getElem? (i := 18) rfl))) (by decide) (backOf (W := 0) (own_rmG l Z a0 hw [] wA wAB wO wAB h13 n0 Z13 (own_sta_keep0 S_wO K13) (own_sta_keep0 S_wAB K13)) hZ (hw _ (List.mem_of_getElem? (i := 20) rfl)) (hw _ (List.mem_of_getElem? (i := 3) rfl)) (by decide) (by decide)) q47a q47c (g := (mkF m 75 #[.val (.int p1), .val (.int p2), .val (.ref b1), .val (.int (p1 &&& (3 : Int32))), .val (.int (p2 &&& (3 : Int32))), .val (.int (own_ant (p1 &&& (3 : Int32)))), .val (.int (own_ant (p2 &&& (3 : Int32)))), .val (.int (1 : Int32))] [(.ref wAB), (.ref wA)])) rfl (by rw [hml]; rfl) (Steps.refl _) (argsL := [(.ref wAB)]) (rest := []) (lenOf own_pd__Lcom_example_probematch_probematch_generate_BloodType__Z rfl) rfl (by show 2 * 0 + _ ≤ _; exact Nat.le_of_eq rfl) (hb hby at_75) (fun _ _ => ⟨rfl, hh15, (by decide : 1 + 0 ≤ _), (by decide : 4 + 0 ≤ _)⟩)
      dsimp only [Pt.U, Pt.locs, Pt.cells, Pt.slots] at X47 l47 y47 z47 st47 hQ47
      subst l47 y47 z47
      obtain ⟨rfl, Nq47, hh47⟩ := hQ47
      have N47 := Fr.app N15 Nq47
      have k48 : ∀ tt, Steps p.tables e below (T47.setTop (mkF m 88 #[.val (.int p1), .val (.int p2), .val (.ref b1), .val (.int (p1 &&& (3 : Int32))), .val (.int (p2 &&& (3 : Int32))), .val (.int (own_ant (p1 &&& (3 : Int32)))), .val (.int (own_ant (p2 &&& (3 : Int32)))), .val (.int (1 : Int32))] [(.int (1 : Int32))])) tt → Steps p.tables e below (s₁.setTop (entryFrame m #[(.int p1), (.int p2)] maxLocals)) tt := by
        intro tt kk
        refine k16 tt ?_
        show Steps p.tables e below (T15.setTop (mkF m 58 #[.val (.int p1), .val (.int p2), .val (.ref b1), .val (.int (p1 &&& (3 : Int32))), .val (.int (p2 &&& (3 : Int32))), .val (.int (own_ant (p1 &&& (3 : Int32)))), .val (.int (own_ant (p2 &&& (3 : Int32)))), .unset] [(.int ((own_ant (p1 &&& (3 : Int32))) &&& ((own_ant (p2 &&& (3 : Int32))) ^^^ (-1 : Int32))))])) tt
        refine XS.ifNo X15.here hx rfl (hb hby at_58) rfl ((if0 _ _).trans (teq (by rw [hi, hj]; decide : ((own_ant (p1 &&& (3 : Int32))) &&& ((own_ant (p2 &&& (3 : Int32))) ^^^ (-1 : Int32))) = (0 : Int32))).2) ?_
        show Steps p.tables e below (T15.setTop (mkF m 61 #[.val (.int p1), .val (.int p2), .val (.ref b1), .val (.int (p1 &&& (3 : Int32))), .val (.int (p2 &&& (3 : Int32))), .val (.int (own_ant (p1 &&& (3 : Int32)))), .val (.int (own_ant (p2 &&& (3 : Int32)))), .unset] [])) tt
        refine XS.iconst X15.here hx rfl (hb hby at_61) ?_
        show Steps p.tables e below (T15.setTop (mkF m 62 #[.val (.int p1), .val (.int p2), .val (.ref b1), .val (.int (p1 &&& (3 : Int32))), .val (.int (p2 &&& (3 : Int32))), .val (.int (own_ant (p1 &&& (3 : Int32)))), .val (.int (own_ant (p2 &&& (3 : Int32)))), .unset] [(.int (1 : Int32))])) tt
        refine XS.goto X15.here hx rfl (pc0 := 62) (pc' := 66) rfl (hb hby at_62) (by decide) (by decide) ?_
        show Steps p.tables e below (T15.setTop (mkF m 66 #[.val (.int p1), .val (.int p2), .val (.ref b1), .val (.int (p1 &&& (3 : Int32))), .val (.int (p2 &&& (3 : Int32))), .val (.int (own_ant (p1 &&& (3 : Int32)))), .val (.int (own_ant (p2 &&& (3 : Int32)))), .unset] [(.int (1 : Int32))])) tt
        refine XS.istore X15.here hx rfl (hb hby at_66) rfl (l' := #[.val (.int p1), .val (.int p2), .val (.ref b1), .val (.int (p1 &&& (3 : Int32))), .val (.int (p2 &&& (3 : Int32))), .val (.int (own_ant (p1 &&& (3 : Int32)))), .val (.int (own_ant (p2 &&& (3 : Int32)))), .val (.int (1 : Int32))]) rfl ?_
        show Steps p.tables e below (T15.setTop (mkF m 68 #[.val (.int p1), .val (.int p2), .val (.ref b1), .val (.int (p1 &&& (3 : Int32))), .val (.int (p2 &&& (3 : Int32))), .val (.int (own_ant (p1 &&& (3 : Int32)))), .val (.int (own_ant (p2 &&& (3 : Int32)))), .val (.int (1 : Int32))] [])) tt
        refine XS.aloadN X15.here hx rfl (hb hby at_68) rfl rfl ?_
        show Steps p.tables e below (T15.setTop (mkF m 69 #[.val (.int p1), .val (.int p2), .val (.ref b1), .val (.int (p1 &&& (3 : Int32))), .val (.int (p2 &&& (3 : Int32))), .val (.int (own_ant (p1 &&& (3 : Int32)))), .val (.int (own_ant (p2 &&& (3 : Int32)))), .val (.int (1 : Int32))] [(.ref b1)])) tt
        refine XS.iloadN X15.here hx rfl (hb hby at_69) rfl ?_
        show Steps p.tables e below (T15.setTop (mkF m 70 #[.val (.int p1), .val (.int p2), .val (.ref b1), .val (.int (p1 &&& (3 : Int32))), .val (.int (p2 &&& (3 : Int32))), .val (.int (own_ant (p1 &&& (3 : Int32)))), .val (.int (own_ant (p2 &&& (3 : Int32)))), .val (.int (1 : Int32))] [(.int (p1 &&& (3 : Int32))), (.ref b1)])) tt
        refine X15.aaload hx (j := (p1 &&& (3 : Int32))) (v := (.ref wA)) (by rw [hh15]; exact Ar45.1) (State.isArrayOf_alike hZ.alike Ar45.2.1) rfl Ar45.2.2 hin45 hat45 (g := (mkF m 70 #[.val (.int p1), .val (.int p2), .val (.ref b1), .val (.int (p1 &&& (3 : Int32))), .val (.int (p2 &&& (3 : Int32))), .val (.int (own_ant (p1 &&& (3 : Int32)))), .val (.int (own_ant (p2 &&& (3 : Int32)))), .val (.int (1 : Int32))] [(.int (p1 &&& (3 : Int32))), (.ref b1)])) rfl rfl (hb hby at_70) _ ?_
        show Steps p.tables e below (T15.setTop (mkF m 71 #[.val (.int p1), .val (.int p2), .val (.ref b1), .val (.int (p1 &&& (3 : Int32))), .val (.int (p2 &&& (3 : Int32))), .val (.int (own_ant (p1 &&& (3 : Int32)))), .val (.int (own_ant (p2 &&& (3 : Int32)))), .val (.int (1 : Int32))] [(.ref wA)])) tt
        refine XS.aloadN X15.here hx rfl (hb hby at_71) rfl rfl ?_
        show Steps p.tables e below (T15.setTop (mkF m 72 #[.val (.int p1), .val (.int p2), .val (.ref b1), .val (.int (p1 &&& (3 : Int32))), .val (.int (p2 &&& (3 : Int32))), .val (.int (own_ant (p1 &&& (3 : Int32)))), .val (.int (own_ant (p2 &&& (3 : Int32)))), .val (.int (1 : Int32))] [(.ref b1), (.ref wA)])) tt
        refine XS.iload X15.here hx rfl (hb hby at_72) rfl ?_
        show Steps p.tables e below (T15.setTop (mkF m 74 #[.val (.int p1), .val (.int p2), .val (.ref b1), .val (.int (p1 &&& (3 : Int32))), .val (.int (p2 &&& (3 : Int32))), .val (.int (own_ant (p1 &&& (3 : Int32)))), .val (.int (own_ant (p2 &&& (3 : Int32)))), .val (.int (1 : Int32))] [(.int (p2 &&& (3 : Int32))), (.ref b1), (.ref wA)])) tt
        refine X15.aaload hx (j := (p2 &&& (3 : Int32))) (v := (.ref wAB)) (by rw [hh15]; exact Ar46.1) (State.isArrayOf_alike hZ.alike Ar46.2.1) rfl Ar46.2.2 hin46 hat46 (g := (mkF m 74 #[.val (.int p1), .val (.int p2), .val (.ref b1), .val (.int (p1 &&& (3 : Int32))), .val (.int (p2 &&& (3 : Int32))), .val (.int (own_ant (p1 &&& (3 : Int32)))), .val (.int (own_ant (p2 &&& (3 : Int32)))), .val (.int (1 : Int32))] [(.int (p2 &&& (3 : Int32))), (.ref b1), (.ref wA)])) rfl rfl (hb hby at_74) _ ?_
        show Steps p.tables e below (T15.setTop (mkF m 75 #[.val (.int p1), .val (.int p2), .val (.ref b1), .val (.int (p1 &&& (3 : Int32))), .val (.int (p2 &&& (3 : Int32))), .val (.int (own_ant (p1 &&& (3 : Int32)))), .val (.int (own_ant (p2 &&& (3 : Int32)))), .val (.int (1 : Int32))] [(.ref wAB), (.ref wA)])) tt
        refine st47.trans ?_
        show Steps p.tables e below (T47.setTop (mkF m 78 #[.val (.int p1), .val (.int p2), .val (.ref b1), .val (.int (p1 &&& (3 : Int32))), .val (.int (p2 &&& (3 : Int32))), .val (.int (own_ant (p1 &&& (3 : Int32)))), .val (.int (own_ant (p2 &&& (3 : Int32)))), .val (.int (1 : Int32))] [(.int (own_cg wA wAB wO wAB))])) tt
        refine XS.iload X47.here hx rfl (hb hby at_78) rfl ?_
        show Steps p.tables e below (T47.setTop (mkF m 80 #[.val (.int p1), .val (.int p2), .val (.ref b1), .val (.int (p1 &&& (3 : Int32))), .val (.int (p2 &&& (3 : Int32))), .val (.int (own_ant (p1 &&& (3 : Int32)))), .val (.int (own_ant (p2 &&& (3 : Int32)))), .val (.int (1 : Int32))] [(.int (1 : Int32)), (.int (own_cg wA wAB wO wAB))])) tt
        refine XS.icmpNo X47.here hx rfl (hb hby at_80) rfl (teq (by simp [own_cg, n_wO_wA, n_wO_wB, n_wO_wAB, n_wA_wO, n_wA_wB, n_wA_wAB, n_wB_wO, n_wB_wA, n_wB_wAB, n_wAB_wO, n_wAB_wA, n_wAB_wB] : (own_cg wA wAB wO wAB) = (1 : Int32))).2 ?_
        show Steps p.tables e below (T47.setTop (mkF m 83 #[.val (.int p1), .val (.int p2), .val (.ref b1), .val (.int (p1 &&& (3 : Int32))), .val (.int (p2 &&& (3 : Int32))), .val (.int (own_ant (p1 &&& (3 : Int32)))), .val (.int (own_ant (p2 &&& (3 : Int32)))), .val (.int (1 : Int32))] [])) tt
        refine XS.iconst X47.here hx rfl (hb hby at_83) ?_
        show Steps p.tables e below (T47.setTop (mkF m 84 #[.val (.int p1), .val (.int p2), .val (.ref b1), .val (.int (p1 &&& (3 : Int32))), .val (.int (p2 &&& (3 : Int32))), .val (.int (own_ant (p1 &&& (3 : Int32)))), .val (.int (own_ant (p2 &&& (3 : Int32)))), .val (.int (1 : Int32))] [(.int (1 : Int32))])) tt
        refine XS.goto X47.here hx rfl (pc0 := 84) (pc' := 88) rfl (hb hby at_84) (by decide) (by decide) ?_
        exact kk
      obtain ⟨fs, hr, hrun, hended, hW, hsame⟩ := X47.leave (v := some (.int (1 : Int32))) (fun hq => by rw [Bd.returns] at hq; cases hq)
      refine ⟨_, _, k48 _ ?_, hrun, hended, _, _, rfl, ?_, ⟨_, rfl⟩, hW, hsame.mono (by decide) (by decide)⟩
      · show Steps p.tables e below (T47.setTop (mkF m 88 #[.val (.int p1), .val (.int p2), .val (.ref b1), .val (.int (p1 &&& (3 : Int32))), .val (.int (p2 &&& (3 : Int32))), .val (.int (own_ant (p1 &&& (3 : Int32)))), .val (.int (own_ant (p2 &&& (3 : Int32)))), .val (.int (1 : Int32))] [(.int (1 : Int32))])) _
        exact retN X47 hx (t := .boolean) Bd.returns (by simp) (hb hby at_88) hr
      · show (fun (v : Option Value) (h : Heap) (L : List Loc) => v = some (.int (1 : Int32)) ∧ Fr n0 L) _ T47.heap _
        rw [hh47]
        dsimp only
        exact ⟨rfl, N47⟩
  · have own_mark : True := trivial
    rcases own_and3 p2 with hj | hj | hj | hj
    · have own_mark : True := trivial
      obtain ⟨cl49, Ar49, q49, S49, P49, H49, G49⟩ := id V13
      have hin49 : ¬ ((p1 &&& (3 : Int32)) < 0 ∨ cl49.slots.size ≤ ((p1 &&& (3 : Int32))).toNatClampNeg) := inb_of S49 (by rw [hi]; exact ⟨by decide, by decide⟩)
      have hat49 : cl49.slots[((p1 &&& (3 : Int32))).toNatClampNeg]? = some (.ref wB) := Has.at H49 hin49 (by rw [hi]; rfl)
      obtain ⟨cl50, Ar50, q50, S50, P50, H50, G50⟩ := id V13
      have hin50 : ¬ ((p2 &&& (3 : Int32)) < 0 ∨ cl50.slots.size ≤ ((p2 &&& (3 : Int32))).toNatClampNeg) := inb_of S50 (by rw [hj]; exact ⟨by decide, by decide⟩)
      have hat50 : cl50.slots[((p2 &&& (3 : Int32))).toNatClampNeg]? = some (.ref wO) := Has.at H50 hin50 (by rw [hj]; rfl)
      obtain ⟨cq51, kq51, q51a, q51b, q51c⟩ := isOf hZ hh15 (Exa.keep E_wB K13)
      obtain ⟨_, _, ⟨T51, L51, ka51, na51⟩, -, X51, ⟨Lc51, hQ51, l51, y51, z51⟩, st51⟩ := X15.virtualBack hx (y := (⟨"com/example/probematch/probematch/generate/BloodType", "canGiveTo", "(Lcom/example/probematch/probematch/generate/BloodType;)Z"⟩ : MethodName)) (z := (⟨"com/example/probematch/probematch/generate/BloodType", "canGiveTo", "(Lcom/example/probematch/probematch/generate/BloodType;)Z"⟩ : MethodName)) hown (mvT hZ (hw _ (List.mem_of_getElem? (i := 16) rfl))) (mvT hZ (hw _ (List.mem_of_getElem? (i := 17) rfl))) (notFace_of_selects (args := #[]) (mvT hZ (hw _ (List.mem_of_getElem? (i := 19) rfl)))) (mvT hZ (hw _ (List.mem_of_getElem? (i := 19) rfl))) (mvT hZ (hw _ (List.mem_of_getElem? (i := 18) rfl))) (by decide) (backOf (W := 0) (own_rmG l Z a0 hw [] wB wO wO wAB h13 n0 Z13 (own_sta_keep0 S_wO K13) (own_sta_keep0 S_wAB K13)) hZ (hw _ (List.mem_of_getElem? (i := 20) rfl)) (hw _ (List.mem_of_getElem? (i := 3) rfl)) (by decide) (by decide)) q51a q51c (g := (mkF m 75 #[.val (.int p1), .val (.int p2), .val (.ref b1), .val (.int (p1 &&& (3 : Int32))), .val (.int (p2 &&& (3 : Int32))), .val (.int (own_ant (p1 &&& (3 : Int32)))), .val (.int (own_ant (p2 &&& (3 : Int32)))), .val (.int (0 : Int32))] [(.ref wO), (.ref wB)])) rfl (by rw [hml]; rfl) (Steps.refl _) (argsL := [(.ref wO)]) (rest := []) (lenOf own_pd__Lcom_example_probematch_probematch_generate_BloodType__Z rfl) rfl (by show 2 * 0 + _ ≤ _; exact Nat.le_of_eq rfl) (hb hby at_75) (fun _ _ => ⟨rfl, hh15, (by decide : 1 + 0 ≤ _), (by decide : 4 + 0 ≤ _)⟩)
      dsimp only [Pt.U, Pt.locs, Pt.cells, Pt.slots] at X51 l51 y51 z51 st51 hQ51
      subst l51 y51 z51
      obtain ⟨rfl, Nq51, hh51⟩ := hQ51
      have N51 := Fr.app N15 Nq51
      have k52 : ∀ tt, Steps p.tables e below (T51.setTop (mkF m 88 #[.val (.int p1), .val (.int p2), .val (.ref b1), .val (.int (p1 &&& (3 : Int32))), .val (.int (p2 &&& (3 : Int32))), .val (.int (own_ant (p1 &&& (3 : Int32)))), .val (.int (own_ant (p2 &&& (3 : Int32)))), .val (.int (0 : Int32))] [(.int (1 : Int32))])) tt → Steps p.tables e below (s₁.setTop (entryFrame m #[(.int p1), (.int p2)] maxLocals)) tt := by
        intro tt kk
        refine k16 tt ?_
        show Steps p.tables e below (T15.setTop (mkF m 58 #[.val (.int p1), .val (.int p2), .val (.ref b1), .val (.int (p1 &&& (3 : Int32))), .val (.int (p2 &&& (3 : Int32))), .val (.int (own_ant (p1 &&& (3 : Int32)))), .val (.int (own_ant (p2 &&& (3 : Int32)))), .unset] [(.int ((own_ant (p1 &&& (3 : Int32))) &&& ((own_ant (p2 &&& (3 : Int32))) ^^^ (-1 : Int32))))])) tt
        refine XS.ifYes X15.here hx rfl (pc0 := 58) (pc' := 65) rfl (hb hby at_58) rfl ((if0 _ _).trans (feq (by rw [hi, hj]; decide : ¬ (((own_ant (p1 &&& (3 : Int32))) &&& ((own_ant (p2 &&& (3 : Int32))) ^^^ (-1 : Int32))) = (0 : Int32)))).2) (by decide) (by decide) ?_
        show Steps p.tables e below (T15.setTop (mkF m 65 #[.val (.int p1), .val (.int p2), .val (.ref b1), .val (.int (p1 &&& (3 : Int32))), .val (.int (p2 &&& (3 : Int32))), .val (.int (own_ant (p1 &&& (3 : Int32)))), .val (.int (own_ant (p2 &&& (3 : Int32)))), .unset] [])) tt
        refine XS.iconst X15.here hx rfl (hb hby at_65) ?_
        show Steps p.tables e below (T15.setTop (mkF m 66 #[.val (.int p1), .val (.int p2), .val (.ref b1), .val (.int (p1 &&& (3 : Int32))), .val (.int (p2 &&& (3 : Int32))), .val (.int (own_ant (p1 &&& (3 : Int32)))), .val (.int (own_ant (p2 &&& (3 : Int32)))), .unset] [(.int (0 : Int32))])) tt
        refine XS.istore X15.here hx rfl (hb hby at_66) rfl (l' := #[.val (.int p1), .val (.int p2), .val (.ref b1), .val (.int (p1 &&& (3 : Int32))), .val (.int (p2 &&& (3 : Int32))), .val (.int (own_ant (p1 &&& (3 : Int32)))), .val (.int (own_ant (p2 &&& (3 : Int32)))), .val (.int (0 : Int32))]) rfl ?_
        show Steps p.tables e below (T15.setTop (mkF m 68 #[.val (.int p1), .val (.int p2), .val (.ref b1), .val (.int (p1 &&& (3 : Int32))), .val (.int (p2 &&& (3 : Int32))), .val (.int (own_ant (p1 &&& (3 : Int32)))), .val (.int (own_ant (p2 &&& (3 : Int32)))), .val (.int (0 : Int32))] [])) tt
        refine XS.aloadN X15.here hx rfl (hb hby at_68) rfl rfl ?_
        show Steps p.tables e below (T15.setTop (mkF m 69 #[.val (.int p1), .val (.int p2), .val (.ref b1), .val (.int (p1 &&& (3 : Int32))), .val (.int (p2 &&& (3 : Int32))), .val (.int (own_ant (p1 &&& (3 : Int32)))), .val (.int (own_ant (p2 &&& (3 : Int32)))), .val (.int (0 : Int32))] [(.ref b1)])) tt
        refine XS.iloadN X15.here hx rfl (hb hby at_69) rfl ?_
        show Steps p.tables e below (T15.setTop (mkF m 70 #[.val (.int p1), .val (.int p2), .val (.ref b1), .val (.int (p1 &&& (3 : Int32))), .val (.int (p2 &&& (3 : Int32))), .val (.int (own_ant (p1 &&& (3 : Int32)))), .val (.int (own_ant (p2 &&& (3 : Int32)))), .val (.int (0 : Int32))] [(.int (p1 &&& (3 : Int32))), (.ref b1)])) tt
        refine X15.aaload hx (j := (p1 &&& (3 : Int32))) (v := (.ref wB)) (by rw [hh15]; exact Ar49.1) (State.isArrayOf_alike hZ.alike Ar49.2.1) rfl Ar49.2.2 hin49 hat49 (g := (mkF m 70 #[.val (.int p1), .val (.int p2), .val (.ref b1), .val (.int (p1 &&& (3 : Int32))), .val (.int (p2 &&& (3 : Int32))), .val (.int (own_ant (p1 &&& (3 : Int32)))), .val (.int (own_ant (p2 &&& (3 : Int32)))), .val (.int (0 : Int32))] [(.int (p1 &&& (3 : Int32))), (.ref b1)])) rfl rfl (hb hby at_70) _ ?_
        show Steps p.tables e below (T15.setTop (mkF m 71 #[.val (.int p1), .val (.int p2), .val (.ref b1), .val (.int (p1 &&& (3 : Int32))), .val (.int (p2 &&& (3 : Int32))), .val (.int (own_ant (p1 &&& (3 : Int32)))), .val (.int (own_ant (p2 &&& (3 : Int32)))), .val (.int (0 : Int32))] [(.ref wB)])) tt
        refine XS.aloadN X15.here hx rfl (hb hby at_71) rfl rfl ?_
        show Steps p.tables e below (T15.setTop (mkF m 72 #[.val (.int p1), .val (.int p2), .val (.ref b1), .val (.int (p1 &&& (3 : Int32))), .val (.int (p2 &&& (3 : Int32))), .val (.int (own_ant (p1 &&& (3 : Int32)))), .val (.int (own_ant (p2 &&& (3 : Int32)))), .val (.int (0 : Int32))] [(.ref b1), (.ref wB)])) tt
        refine XS.iload X15.here hx rfl (hb hby at_72) rfl ?_
        show Steps p.tables e below (T15.setTop (mkF m 74 #[.val (.int p1), .val (.int p2), .val (.ref b1), .val (.int (p1 &&& (3 : Int32))), .val (.int (p2 &&& (3 : Int32))), .val (.int (own_ant (p1 &&& (3 : Int32)))), .val (.int (own_ant (p2 &&& (3 : Int32)))), .val (.int (0 : Int32))] [(.int (p2 &&& (3 : Int32))), (.ref b1), (.ref wB)])) tt
        refine X15.aaload hx (j := (p2 &&& (3 : Int32))) (v := (.ref wO)) (by rw [hh15]; exact Ar50.1) (State.isArrayOf_alike hZ.alike Ar50.2.1) rfl Ar50.2.2 hin50 hat50 (g := (mkF m 74 #[.val (.int p1), .val (.int p2), .val (.ref b1), .val (.int (p1 &&& (3 : Int32))), .val (.int (p2 &&& (3 : Int32))), .val (.int (own_ant (p1 &&& (3 : Int32)))), .val (.int (own_ant (p2 &&& (3 : Int32)))), .val (.int (0 : Int32))] [(.int (p2 &&& (3 : Int32))), (.ref b1), (.ref wB)])) rfl rfl (hb hby at_74) _ ?_
        show Steps p.tables e below (T15.setTop (mkF m 75 #[.val (.int p1), .val (.int p2), .val (.ref b1), .val (.int (p1 &&& (3 : Int32))), .val (.int (p2 &&& (3 : Int32))), .val (.int (own_ant (p1 &&& (3 : Int32)))), .val (.int (own_ant (p2 &&& (3 : Int32)))), .val (.int (0 : Int32))] [(.ref wO), (.ref wB)])) tt
        refine st51.trans ?_
        show Steps p.tables e below (T51.setTop (mkF m 78 #[.val (.int p1), .val (.int p2), .val (.ref b1), .val (.int (p1 &&& (3 : Int32))), .val (.int (p2 &&& (3 : Int32))), .val (.int (own_ant (p1 &&& (3 : Int32)))), .val (.int (own_ant (p2 &&& (3 : Int32)))), .val (.int (0 : Int32))] [(.int (own_cg wB wO wO wAB))])) tt
        refine XS.iload X51.here hx rfl (hb hby at_78) rfl ?_
        show Steps p.tables e below (T51.setTop (mkF m 80 #[.val (.int p1), .val (.int p2), .val (.ref b1), .val (.int (p1 &&& (3 : Int32))), .val (.int (p2 &&& (3 : Int32))), .val (.int (own_ant (p1 &&& (3 : Int32)))), .val (.int (own_ant (p2 &&& (3 : Int32)))), .val (.int (0 : Int32))] [(.int (0 : Int32)), (.int (own_cg wB wO wO wAB))])) tt
        refine XS.icmpNo X51.here hx rfl (hb hby at_80) rfl (teq (by simp [own_cg, n_wO_wA, n_wO_wB, n_wO_wAB, n_wA_wO, n_wA_wB, n_wA_wAB, n_wB_wO, n_wB_wA, n_wB_wAB, n_wAB_wO, n_wAB_wA, n_wAB_wB] : (own_cg wB wO wO wAB) = (0 : Int32))).2 ?_
        show Steps p.tables e below (T51.setTop (mkF m 83 #[.val (.int p1), .val (.int p2), .val (.ref b1), .val (.int (p1 &&& (3 : Int32))), .val (.int (p2 &&& (3 : Int32))), .val (.int (own_ant (p1 &&& (3 : Int32)))), .val (.int (own_ant (p2 &&& (3 : Int32)))), .val (.int (0 : Int32))] [])) tt
        refine XS.iconst X51.here hx rfl (hb hby at_83) ?_
        show Steps p.tables e below (T51.setTop (mkF m 84 #[.val (.int p1), .val (.int p2), .val (.ref b1), .val (.int (p1 &&& (3 : Int32))), .val (.int (p2 &&& (3 : Int32))), .val (.int (own_ant (p1 &&& (3 : Int32)))), .val (.int (own_ant (p2 &&& (3 : Int32)))), .val (.int (0 : Int32))] [(.int (1 : Int32))])) tt
        refine XS.goto X51.here hx rfl (pc0 := 84) (pc' := 88) rfl (hb hby at_84) (by decide) (by decide) ?_
        exact kk
      obtain ⟨fs, hr, hrun, hended, hW, hsame⟩ := X51.leave (v := some (.int (1 : Int32))) (fun hq => by rw [Bd.returns] at hq; cases hq)
      refine ⟨_, _, k52 _ ?_, hrun, hended, _, _, rfl, ?_, ⟨_, rfl⟩, hW, hsame.mono (by decide) (by decide)⟩
      · show Steps p.tables e below (T51.setTop (mkF m 88 #[.val (.int p1), .val (.int p2), .val (.ref b1), .val (.int (p1 &&& (3 : Int32))), .val (.int (p2 &&& (3 : Int32))), .val (.int (own_ant (p1 &&& (3 : Int32)))), .val (.int (own_ant (p2 &&& (3 : Int32)))), .val (.int (0 : Int32))] [(.int (1 : Int32))])) _
        exact retN X51 hx (t := .boolean) Bd.returns (by simp) (hb hby at_88) hr
      · show (fun (v : Option Value) (h : Heap) (L : List Loc) => v = some (.int (1 : Int32)) ∧ Fr n0 L) _ T51.heap _
        rw [hh51]
        dsimp only
        exact ⟨rfl, N51⟩
    · have own_mark : True := trivial
      obtain ⟨cl53, Ar53, q53, S53, P53, H53, G53⟩ := id V13
      have hin53 : ¬ ((p1 &&& (3 : Int32)) < 0 ∨ cl53.slots.size ≤ ((p1 &&& (3 : Int32))).toNatClampNeg) := inb_of S53 (by rw [hi]; exact ⟨by decide, by decide⟩)
      have hat53 : cl53.slots[((p1 &&& (3 : Int32))).toNatClampNeg]? = some (.ref wB) := Has.at H53 hin53 (by rw [hi]; rfl)
      obtain ⟨cl54, Ar54, q54, S54, P54, H54, G54⟩ := id V13
      have hin54 : ¬ ((p2 &&& (3 : Int32)) < 0 ∨ cl54.slots.size ≤ ((p2 &&& (3 : Int32))).toNatClampNeg) := inb_of S54 (by rw [hj]; exact ⟨by decide, by decide⟩)
      have hat54 : cl54.slots[((p2 &&& (3 : Int32))).toNatClampNeg]? = some (.ref wA) := Has.at H54 hin54 (by rw [hj]; rfl)
      obtain ⟨cq55, kq55, q55a, q55b, q55c⟩ := isOf hZ hh15 (Exa.keep E_wB K13)
      obtain ⟨_, _, ⟨T55, L55, ka55, na55⟩, -, X55, ⟨Lc55, hQ55, l55, y55, z55⟩, st55⟩ := X15.virtualBack hx (y := (⟨"com/example/probematch/probematch/generate/BloodType", "canGiveTo", "(Lcom/example/probematch/probematch/generate/BloodType;)Z"⟩ : MethodName)) (z := (⟨"com/example/probematch/probematch/generate/BloodType", "canGiveTo", "(Lcom/example/probematch/probematch/generate/BloodType;)Z"⟩ : MethodName)) hown (mvT hZ (hw _ (List.mem_of_getElem? (i := 16) rfl))) (mvT hZ (hw _ (List.mem_of_getElem? (i := 17) rfl))) (notFace_of_selects (args := #[]) (mvT hZ (hw _ (List.mem_of_getElem? (i := 19) rfl)))) (mvT hZ (hw _ (List.mem_of_getElem? (i := 19) rfl))) (mvT hZ (hw _ (List.mem_of_getElem? (i := 18) rfl))) (by decide) (backOf (W := 0) (own_rmG l Z a0 hw [] wB wA wO wAB h13 n0 Z13 (own_sta_keep0 S_wO K13) (own_sta_keep0 S_wAB K13)) hZ (hw _ (List.mem_of_getElem? (i := 20) rfl)) (hw _ (List.mem_of_getElem? (i := 3) rfl)) (by decide) (by decide)) q55a q55c (g := (mkF m 75 #[.val (.int p1), .val (.int p2), .val (.ref b1), .val (.int (p1 &&& (3 : Int32))), .val (.int (p2 &&& (3 : Int32))), .val (.int (own_ant (p1 &&& (3 : Int32)))), .val (.int (own_ant (p2 &&& (3 : Int32)))), .val (.int (0 : Int32))] [(.ref wA), (.ref wB)])) rfl (by rw [hml]; rfl) (Steps.refl _) (argsL := [(.ref wA)]) (rest := []) (lenOf own_pd__Lcom_example_probematch_probematch_generate_BloodType__Z rfl) rfl (by show 2 * 0 + _ ≤ _; exact Nat.le_of_eq rfl) (hb hby at_75) (fun _ _ => ⟨rfl, hh15, (by decide : 1 + 0 ≤ _), (by decide : 4 + 0 ≤ _)⟩)
      dsimp only [Pt.U, Pt.locs, Pt.cells, Pt.slots] at X55 l55 y55 z55 st55 hQ55
      subst l55 y55 z55
      obtain ⟨rfl, Nq55, hh55⟩ := hQ55
      have N55 := Fr.app N15 Nq55
      have k56 : ∀ tt, Steps p.tables e below (T55.setTop (mkF m 88 #[.val (.int p1), .val (.int p2), .val (.ref b1), .val (.int (p1 &&& (3 : Int32))), .val (.int (p2 &&& (3 : Int32))), .val (.int (own_ant (p1 &&& (3 : Int32)))), .val (.int (own_ant (p2 &&& (3 : Int32)))), .val (.int (0 : Int32))] [(.int (1 : Int32))])) tt → Steps p.tables e below (s₁.setTop (entryFrame m #[(.int p1), (.int p2)] maxLocals)) tt := by
        intro tt kk
        refine k16 tt ?_
        show Steps p.tables e below (T15.setTop (mkF m 58 #[.val (.int p1), .val (.int p2), .val (.ref b1), .val (.int (p1 &&& (3 : Int32))), .val (.int (p2 &&& (3 : Int32))), .val (.int (own_ant (p1 &&& (3 : Int32)))), .val (.int (own_ant (p2 &&& (3 : Int32)))), .unset] [(.int ((own_ant (p1 &&& (3 : Int32))) &&& ((own_ant (p2 &&& (3 : Int32))) ^^^ (-1 : Int32))))])) tt
        refine XS.ifYes X15.here hx rfl (pc0 := 58) (pc' := 65) rfl (hb hby at_58) rfl ((if0 _ _).trans (feq (by rw [hi, hj]; decide : ¬ (((own_ant (p1 &&& (3 : Int32))) &&& ((own_ant (p2 &&& (3 : Int32))) ^^^ (-1 : Int32))) = (0 : Int32)))).2) (by decide) (by decide) ?_
        show Steps p.tables e below (T15.setTop (mkF m 65 #[.val (.int p1), .val (.int p2), .val (.ref b1), .val (.int (p1 &&& (3 : Int32))), .val (.int (p2 &&& (3 : Int32))), .val (.int (own_ant (p1 &&& (3 : Int32)))), .val (.int (own_ant (p2 &&& (3 : Int32)))), .unset] [])) tt
        refine XS.iconst X15.here hx rfl (hb hby at_65) ?_
        show Steps p.tables e below (T15.setTop (mkF m 66 #[.val (.int p1), .val (.int p2), .val (.ref b1), .val (.int (p1 &&& (3 : Int32))), .val (.int (p2 &&& (3 : Int32))), .val (.int (own_ant (p1 &&& (3 : Int32)))), .val (.int (own_ant (p2 &&& (3 : Int32)))), .unset] [(.int (0 : Int32))])) tt
        refine XS.istore X15.here hx rfl (hb hby at_66) rfl (l' := #[.val (.int p1), .val (.int p2), .val (.ref b1), .val (.int (p1 &&& (3 : Int32))), .val (.int (p2 &&& (3 : Int32))), .val (.int (own_ant (p1 &&& (3 : Int32)))), .val (.int (own_ant (p2 &&& (3 : Int32)))), .val (.int (0 : Int32))]) rfl ?_
        show Steps p.tables e below (T15.setTop (mkF m 68 #[.val (.int p1), .val (.int p2), .val (.ref b1), .val (.int (p1 &&& (3 : Int32))), .val (.int (p2 &&& (3 : Int32))), .val (.int (own_ant (p1 &&& (3 : Int32)))), .val (.int (own_ant (p2 &&& (3 : Int32)))), .val (.int (0 : Int32))] [])) tt
        refine XS.aloadN X15.here hx rfl (hb hby at_68) rfl rfl ?_
        show Steps p.tables e below (T15.setTop (mkF m 69 #[.val (.int p1), .val (.int p2), .val (.ref b1), .val (.int (p1 &&& (3 : Int32))), .val (.int (p2 &&& (3 : Int32))), .val (.int (own_ant (p1 &&& (3 : Int32)))), .val (.int (own_ant (p2 &&& (3 : Int32)))), .val (.int (0 : Int32))] [(.ref b1)])) tt
        refine XS.iloadN X15.here hx rfl (hb hby at_69) rfl ?_
        show Steps p.tables e below (T15.setTop (mkF m 70 #[.val (.int p1), .val (.int p2), .val (.ref b1), .val (.int (p1 &&& (3 : Int32))), .val (.int (p2 &&& (3 : Int32))), .val (.int (own_ant (p1 &&& (3 : Int32)))), .val (.int (own_ant (p2 &&& (3 : Int32)))), .val (.int (0 : Int32))] [(.int (p1 &&& (3 : Int32))), (.ref b1)])) tt
        refine X15.aaload hx (j := (p1 &&& (3 : Int32))) (v := (.ref wB)) (by rw [hh15]; exact Ar53.1) (State.isArrayOf_alike hZ.alike Ar53.2.1) rfl Ar53.2.2 hin53 hat53 (g := (mkF m 70 #[.val (.int p1), .val (.int p2), .val (.ref b1), .val (.int (p1 &&& (3 : Int32))), .val (.int (p2 &&& (3 : Int32))), .val (.int (own_ant (p1 &&& (3 : Int32)))), .val (.int (own_ant (p2 &&& (3 : Int32)))), .val (.int (0 : Int32))] [(.int (p1 &&& (3 : Int32))), (.ref b1)])) rfl rfl (hb hby at_70) _ ?_
        show Steps p.tables e below (T15.setTop (mkF m 71 #[.val (.int p1), .val (.int p2), .val (.ref b1), .val (.int (p1 &&& (3 : Int32))), .val (.int (p2 &&& (3 : Int32))), .val (.int (own_ant (p1 &&& (3 : Int32)))), .val (.int (own_ant (p2 &&& (3 : Int32)))), .val (.int (0 : Int32))] [(.ref wB)])) tt
        refine XS.aloadN X15.here hx rfl (hb hby at_71) rfl rfl ?_
        show Steps p.tables e below (T15.setTop (mkF m 72 #[.val (.int p1), .val (.int p2), .val (.ref b1), .val (.int (p1 &&& (3 : Int32))), .val (.int (p2 &&& (3 : Int32))), .val (.int (own_ant (p1 &&& (3 : Int32)))), .val (.int (own_ant (p2 &&& (3 : Int32)))), .val (.int (0 : Int32))] [(.ref b1), (.ref wB)])) tt
        refine XS.iload X15.here hx rfl (hb hby at_72) rfl ?_
        show Steps p.tables e below (T15.setTop (mkF m 74 #[.val (.int p1), .val (.int p2), .val (.ref b1), .val (.int (p1 &&& (3 : Int32))), .val (.int (p2 &&& (3 : Int32))), .val (.int (own_ant (p1 &&& (3 : Int32)))), .val (.int (own_ant (p2 &&& (3 : Int32)))), .val (.int (0 : Int32))] [(.int (p2 &&& (3 : Int32))), (.ref b1), (.ref wB)])) tt
        refine X15.aaload hx (j := (p2 &&& (3 : Int32))) (v := (.ref wA)) (by rw [hh15]; exact Ar54.1) (State.isArrayOf_alike hZ.alike Ar54.2.1) rfl Ar54.2.2 hin54 hat54 (g := (mkF m 74 #[.val (.int p1), .val (.int p2), .val (.ref b1), .val (.int (p1 &&& (3 : Int32))), .val (.int (p2 &&& (3 : Int32))), .val (.int (own_ant (p1 &&& (3 : Int32)))), .val (.int (own_ant (p2 &&& (3 : Int32)))), .val (.int (0 : Int32))] [(.int (p2 &&& (3 : Int32))), (.ref b1), (.ref wB)])) rfl rfl (hb hby at_74) _ ?_
        show Steps p.tables e below (T15.setTop (mkF m 75 #[.val (.int p1), .val (.int p2), .val (.ref b1), .val (.int (p1 &&& (3 : Int32))), .val (.int (p2 &&& (3 : Int32))), .val (.int (own_ant (p1 &&& (3 : Int32)))), .val (.int (own_ant (p2 &&& (3 : Int32)))), .val (.int (0 : Int32))] [(.ref wA), (.ref wB)])) tt
        refine st55.trans ?_
        show Steps p.tables e below (T55.setTop (mkF m 78 #[.val (.int p1), .val (.int p2), .val (.ref b1), .val (.int (p1 &&& (3 : Int32))), .val (.int (p2 &&& (3 : Int32))), .val (.int (own_ant (p1 &&& (3 : Int32)))), .val (.int (own_ant (p2 &&& (3 : Int32)))), .val (.int (0 : Int32))] [(.int (own_cg wB wA wO wAB))])) tt
        refine XS.iload X55.here hx rfl (hb hby at_78) rfl ?_
        show Steps p.tables e below (T55.setTop (mkF m 80 #[.val (.int p1), .val (.int p2), .val (.ref b1), .val (.int (p1 &&& (3 : Int32))), .val (.int (p2 &&& (3 : Int32))), .val (.int (own_ant (p1 &&& (3 : Int32)))), .val (.int (own_ant (p2 &&& (3 : Int32)))), .val (.int (0 : Int32))] [(.int (0 : Int32)), (.int (own_cg wB wA wO wAB))])) tt
        refine XS.icmpNo X55.here hx rfl (hb hby at_80) rfl (teq (by simp [own_cg, n_wO_wA, n_wO_wB, n_wO_wAB, n_wA_wO, n_wA_wB, n_wA_wAB, n_wB_wO, n_wB_wA, n_wB_wAB, n_wAB_wO, n_wAB_wA, n_wAB_wB] : (own_cg wB wA wO wAB) = (0 : Int32))).2 ?_
        show Steps p.tables e below (T55.setTop (mkF m 83 #[.val (.int p1), .val (.int p2), .val (.ref b1), .val (.int (p1 &&& (3 : Int32))), .val (.int (p2 &&& (3 : Int32))), .val (.int (own_ant (p1 &&& (3 : Int32)))), .val (.int (own_ant (p2 &&& (3 : Int32)))), .val (.int (0 : Int32))] [])) tt
        refine XS.iconst X55.here hx rfl (hb hby at_83) ?_
        show Steps p.tables e below (T55.setTop (mkF m 84 #[.val (.int p1), .val (.int p2), .val (.ref b1), .val (.int (p1 &&& (3 : Int32))), .val (.int (p2 &&& (3 : Int32))), .val (.int (own_ant (p1 &&& (3 : Int32)))), .val (.int (own_ant (p2 &&& (3 : Int32)))), .val (.int (0 : Int32))] [(.int (1 : Int32))])) tt
        refine XS.goto X55.here hx rfl (pc0 := 84) (pc' := 88) rfl (hb hby at_84) (by decide) (by decide) ?_
        exact kk
      obtain ⟨fs, hr, hrun, hended, hW, hsame⟩ := X55.leave (v := some (.int (1 : Int32))) (fun hq => by rw [Bd.returns] at hq; cases hq)
      refine ⟨_, _, k56 _ ?_, hrun, hended, _, _, rfl, ?_, ⟨_, rfl⟩, hW, hsame.mono (by decide) (by decide)⟩
      · show Steps p.tables e below (T55.setTop (mkF m 88 #[.val (.int p1), .val (.int p2), .val (.ref b1), .val (.int (p1 &&& (3 : Int32))), .val (.int (p2 &&& (3 : Int32))), .val (.int (own_ant (p1 &&& (3 : Int32)))), .val (.int (own_ant (p2 &&& (3 : Int32)))), .val (.int (0 : Int32))] [(.int (1 : Int32))])) _
        exact retN X55 hx (t := .boolean) Bd.returns (by simp) (hb hby at_88) hr
      · show (fun (v : Option Value) (h : Heap) (L : List Loc) => v = some (.int (1 : Int32)) ∧ Fr n0 L) _ T55.heap _
        rw [hh55]
        dsimp only
        exact ⟨rfl, N55⟩
    · have own_mark : True := trivial
      obtain ⟨cl57, Ar57, q57, S57, P57, H57, G57⟩ := id V13
      have hin57 : ¬ ((p1 &&& (3 : Int32)) < 0 ∨ cl57.slots.size ≤ ((p1 &&& (3 : Int32))).toNatClampNeg) := inb_of S57 (by rw [hi]; exact ⟨by decide, by decide⟩)
      have hat57 : cl57.slots[((p1 &&& (3 : Int32))).toNatClampNeg]? = some (.ref wB) := Has.at H57 hin57 (by rw [hi]; rfl)
      obtain ⟨cl58, Ar58, q58, S58, P58, H58, G58⟩ := id V13
      have hin58 : ¬ ((p2 &&& (3 : Int32)) < 0 ∨ cl58.slots.size ≤ ((p2 &&& (3 : Int32))).toNatClampNeg) := inb_of S58 (by rw [hj]; exact ⟨by decide, by decide⟩)
      have hat58 : cl58.slots[((p2 &&& (3 : Int32))).toNatClampNeg]? = some (.ref wB) := Has.at H58 hin58 (by rw [hj]; rfl)
      obtain ⟨cq59, kq59, q59a, q59b, q59c⟩ := isOf hZ hh15 (Exa.keep E_wB K13)
      obtain ⟨_, _, ⟨T59, L59, ka59, na59⟩, -, X59, ⟨Lc59, hQ59, l59, y59, z59⟩, st59⟩ := X15.virtualBack hx (y := (⟨"com/example/probematch/probematch/generate/BloodType", "canGiveTo", "(Lcom/example/probematch/probematch/generate/BloodType;)Z"⟩ : MethodName)) (z := (⟨"com/example/probematch/probematch/generate/BloodType", "canGiveTo", "(Lcom/example/probematch/probematch/generate/BloodType;)Z"⟩ : MethodName)) hown (mvT hZ (hw _ (List.mem_of_getElem? (i := 16) rfl))) (mvT hZ (hw _ (List.mem_of_getElem? (i := 17) rfl))) (notFace_of_selects (args := #[]) (mvT hZ (hw _ (List.mem_of_getElem? (i := 19) rfl)))) (mvT hZ (hw _ (List.mem_of_getElem? (i := 19) rfl))) (mvT hZ (hw _ (List.mem_of_getElem? (i := 18) rfl))) (by decide) (backOf (W := 0) (own_rmG l Z a0 hw [] wB wB wO wAB h13 n0 Z13 (own_sta_keep0 S_wO K13) (own_sta_keep0 S_wAB K13)) hZ (hw _ (List.mem_of_getElem? (i := 20) rfl)) (hw _ (List.mem_of_getElem? (i := 3) rfl)) (by decide) (by decide)) q59a q59c (g := (mkF m 75 #[.val (.int p1), .val (.int p2), .val (.ref b1), .val (.int (p1 &&& (3 : Int32))), .val (.int (p2 &&& (3 : Int32))), .val (.int (own_ant (p1 &&& (3 : Int32)))), .val (.int (own_ant (p2 &&& (3 : Int32)))), .val (.int (1 : Int32))] [(.ref wB), (.ref wB)])) rfl (by rw [hml]; rfl) (Steps.refl _) (argsL := [(.ref wB)]) (rest := []) (lenOf own_pd__Lcom_example_probematch_probematch_generate_BloodType__Z rfl) rfl (by show 2 * 0 + _ ≤ _; exact Nat.le_of_eq rfl) (hb hby at_75) (fun _ _ => ⟨rfl, hh15, (by decide : 1 + 0 ≤ _), (by decide : 4 + 0 ≤ _)⟩)
      dsimp only [Pt.U, Pt.locs, Pt.cells, Pt.slots] at X59 l59 y59 z59 st59 hQ59
      subst l59 y59 z59
      obtain ⟨rfl, Nq59, hh59⟩ := hQ59
      have N59 := Fr.app N15 Nq59
      have k60 : ∀ tt, Steps p.tables e below (T59.setTop (mkF m 88 #[.val (.int p1), .val (.int p2), .val (.ref b1), .val (.int (p1 &&& (3 : Int32))), .val (.int (p2 &&& (3 : Int32))), .val (.int (own_ant (p1 &&& (3 : Int32)))), .val (.int (own_ant (p2 &&& (3 : Int32)))), .val (.int (1 : Int32))] [(.int (1 : Int32))])) tt → Steps p.tables e below (s₁.setTop (entryFrame m #[(.int p1), (.int p2)] maxLocals)) tt := by
        intro tt kk
        refine k16 tt ?_
        show Steps p.tables e below (T15.setTop (mkF m 58 #[.val (.int p1), .val (.int p2), .val (.ref b1), .val (.int (p1 &&& (3 : Int32))), .val (.int (p2 &&& (3 : Int32))), .val (.int (own_ant (p1 &&& (3 : Int32)))), .val (.int (own_ant (p2 &&& (3 : Int32)))), .unset] [(.int ((own_ant (p1 &&& (3 : Int32))) &&& ((own_ant (p2 &&& (3 : Int32))) ^^^ (-1 : Int32))))])) tt
        refine XS.ifNo X15.here hx rfl (hb hby at_58) rfl ((if0 _ _).trans (teq (by rw [hi, hj]; decide : ((own_ant (p1 &&& (3 : Int32))) &&& ((own_ant (p2 &&& (3 : Int32))) ^^^ (-1 : Int32))) = (0 : Int32))).2) ?_
        show Steps p.tables e below (T15.setTop (mkF m 61 #[.val (.int p1), .val (.int p2), .val (.ref b1), .val (.int (p1 &&& (3 : Int32))), .val (.int (p2 &&& (3 : Int32))), .val (.int (own_ant (p1 &&& (3 : Int32)))), .val (.int (own_ant (p2 &&& (3 : Int32)))), .unset] [])) tt
        refine XS.iconst X15.here hx rfl (hb hby at_61) ?_
        show Steps p.tables e below (T15.setTop (mkF m 62 #[.val (.int p1), .val (.int p2), .val (.ref b1), .val (.int (p1 &&& (3 : Int32))), .val (.int (p2 &&& (3 : Int32))), .val (.int (own_ant (p1 &&& (3 : Int32)))), .val (.int (own_ant (p2 &&& (3 : Int32)))), .unset] [(.int (1 : Int32))])) tt
        refine XS.goto X15.here hx rfl (pc0 := 62) (pc' := 66) rfl (hb hby at_62) (by decide) (by decide) ?_
        show Steps p.tables e below (T15.setTop (mkF m 66 #[.val (.int p1), .val (.int p2), .val (.ref b1), .val (.int (p1 &&& (3 : Int32))), .val (.int (p2 &&& (3 : Int32))), .val (.int (own_ant (p1 &&& (3 : Int32)))), .val (.int (own_ant (p2 &&& (3 : Int32)))), .unset] [(.int (1 : Int32))])) tt
        refine XS.istore X15.here hx rfl (hb hby at_66) rfl (l' := #[.val (.int p1), .val (.int p2), .val (.ref b1), .val (.int (p1 &&& (3 : Int32))), .val (.int (p2 &&& (3 : Int32))), .val (.int (own_ant (p1 &&& (3 : Int32)))), .val (.int (own_ant (p2 &&& (3 : Int32)))), .val (.int (1 : Int32))]) rfl ?_
        show Steps p.tables e below (T15.setTop (mkF m 68 #[.val (.int p1), .val (.int p2), .val (.ref b1), .val (.int (p1 &&& (3 : Int32))), .val (.int (p2 &&& (3 : Int32))), .val (.int (own_ant (p1 &&& (3 : Int32)))), .val (.int (own_ant (p2 &&& (3 : Int32)))), .val (.int (1 : Int32))] [])) tt
        refine XS.aloadN X15.here hx rfl (hb hby at_68) rfl rfl ?_
        show Steps p.tables e below (T15.setTop (mkF m 69 #[.val (.int p1), .val (.int p2), .val (.ref b1), .val (.int (p1 &&& (3 : Int32))), .val (.int (p2 &&& (3 : Int32))), .val (.int (own_ant (p1 &&& (3 : Int32)))), .val (.int (own_ant (p2 &&& (3 : Int32)))), .val (.int (1 : Int32))] [(.ref b1)])) tt
        refine XS.iloadN X15.here hx rfl (hb hby at_69) rfl ?_
        show Steps p.tables e below (T15.setTop (mkF m 70 #[.val (.int p1), .val (.int p2), .val (.ref b1), .val (.int (p1 &&& (3 : Int32))), .val (.int (p2 &&& (3 : Int32))), .val (.int (own_ant (p1 &&& (3 : Int32)))), .val (.int (own_ant (p2 &&& (3 : Int32)))), .val (.int (1 : Int32))] [(.int (p1 &&& (3 : Int32))), (.ref b1)])) tt
        refine X15.aaload hx (j := (p1 &&& (3 : Int32))) (v := (.ref wB)) (by rw [hh15]; exact Ar57.1) (State.isArrayOf_alike hZ.alike Ar57.2.1) rfl Ar57.2.2 hin57 hat57 (g := (mkF m 70 #[.val (.int p1), .val (.int p2), .val (.ref b1), .val (.int (p1 &&& (3 : Int32))), .val (.int (p2 &&& (3 : Int32))), .val (.int (own_ant (p1 &&& (3 : Int32)))), .val (.int (own_ant (p2 &&& (3 : Int32)))), .val (.int (1 : Int32))] [(.int (p1 &&& (3 : Int32))), (.ref b1)])) rfl rfl (hb hby at_70) _ ?_
        show Steps p.tables e below (T15.setTop (mkF m 71 #[.val (.int p1), .val (.int p2), .val (.ref b1), .val (.int (p1 &&& (3 : Int32))), .val (.int (p2 &&& (3 : Int32))), .val (.int (own_ant (p1 &&& (3 : Int32)))), .val (.int (own_ant (p2 &&& (3 : Int32)))), .val (.int (1 : Int32))] [(.ref wB)])) tt
        refine XS.aloadN X15.here hx rfl (hb hby at_71) rfl rfl ?_
        show Steps p.tables e below (T15.setTop (mkF m 72 #[.val (.int p1), .val (.int p2), .val (.ref b1), .val (.int (p1 &&& (3 : Int32))), .val (.int (p2 &&& (3 : Int32))), .val (.int (own_ant (p1 &&& (3 : Int32)))), .val (.int (own_ant (p2 &&& (3 : Int32)))), .val (.int (1 : Int32))] [(.ref b1), (.ref wB)])) tt
        refine XS.iload X15.here hx rfl (hb hby at_72) rfl ?_
        show Steps p.tables e below (T15.setTop (mkF m 74 #[.val (.int p1), .val (.int p2), .val (.ref b1), .val (.int (p1 &&& (3 : Int32))), .val (.int (p2 &&& (3 : Int32))), .val (.int (own_ant (p1 &&& (3 : Int32)))), .val (.int (own_ant (p2 &&& (3 : Int32)))), .val (.int (1 : Int32))] [(.int (p2 &&& (3 : Int32))), (.ref b1), (.ref wB)])) tt
        refine X15.aaload hx (j := (p2 &&& (3 : Int32))) (v := (.ref wB)) (by rw [hh15]; exact Ar58.1) (State.isArrayOf_alike hZ.alike Ar58.2.1) rfl Ar58.2.2 hin58 hat58 (g := (mkF m 74 #[.val (.int p1), .val (.int p2), .val (.ref b1), .val (.int (p1 &&& (3 : Int32))), .val (.int (p2 &&& (3 : Int32))), .val (.int (own_ant (p1 &&& (3 : Int32)))), .val (.int (own_ant (p2 &&& (3 : Int32)))), .val (.int (1 : Int32))] [(.int (p2 &&& (3 : Int32))), (.ref b1), (.ref wB)])) rfl rfl (hb hby at_74) _ ?_
        show Steps p.tables e below (T15.setTop (mkF m 75 #[.val (.int p1), .val (.int p2), .val (.ref b1), .val (.int (p1 &&& (3 : Int32))), .val (.int (p2 &&& (3 : Int32))), .val (.int (own_ant (p1 &&& (3 : Int32)))), .val (.int (own_ant (p2 &&& (3 : Int32)))), .val (.int (1 : Int32))] [(.ref wB), (.ref wB)])) tt
        refine st59.trans ?_
        show Steps p.tables e below (T59.setTop (mkF m 78 #[.val (.int p1), .val (.int p2), .val (.ref b1), .val (.int (p1 &&& (3 : Int32))), .val (.int (p2 &&& (3 : Int32))), .val (.int (own_ant (p1 &&& (3 : Int32)))), .val (.int (own_ant (p2 &&& (3 : Int32)))), .val (.int (1 : Int32))] [(.int (own_cg wB wB wO wAB))])) tt
        refine XS.iload X59.here hx rfl (hb hby at_78) rfl ?_
        show Steps p.tables e below (T59.setTop (mkF m 80 #[.val (.int p1), .val (.int p2), .val (.ref b1), .val (.int (p1 &&& (3 : Int32))), .val (.int (p2 &&& (3 : Int32))), .val (.int (own_ant (p1 &&& (3 : Int32)))), .val (.int (own_ant (p2 &&& (3 : Int32)))), .val (.int (1 : Int32))] [(.int (1 : Int32)), (.int (own_cg wB wB wO wAB))])) tt
        refine XS.icmpNo X59.here hx rfl (hb hby at_80) rfl (teq (by simp [own_cg, n_wO_wA, n_wO_wB, n_wO_wAB, n_wA_wO, n_wA_wB, n_wA_wAB, n_wB_wO, n_wB_wA, n_wB_wAB, n_wAB_wO, n_wAB_wA, n_wAB_wB] : (own_cg wB wB wO wAB) = (1 : Int32))).2 ?_
        show Steps p.tables e below (T59.setTop (mkF m 83 #[.val (.int p1), .val (.int p2), .val (.ref b1), .val (.int (p1 &&& (3 : Int32))), .val (.int (p2 &&& (3 : Int32))), .val (.int (own_ant (p1 &&& (3 : Int32)))), .val (.int (own_ant (p2 &&& (3 : Int32)))), .val (.int (1 : Int32))] [])) tt
        refine XS.iconst X59.here hx rfl (hb hby at_83) ?_
        show Steps p.tables e below (T59.setTop (mkF m 84 #[.val (.int p1), .val (.int p2), .val (.ref b1), .val (.int (p1 &&& (3 : Int32))), .val (.int (p2 &&& (3 : Int32))), .val (.int (own_ant (p1 &&& (3 : Int32)))), .val (.int (own_ant (p2 &&& (3 : Int32)))), .val (.int (1 : Int32))] [(.int (1 : Int32))])) tt
        refine XS.goto X59.here hx rfl (pc0 := 84) (pc' := 88) rfl (hb hby at_84) (by decide) (by decide) ?_
        exact kk
      obtain ⟨fs, hr, hrun, hended, hW, hsame⟩ := X59.leave (v := some (.int (1 : Int32))) (fun hq => by rw [Bd.returns] at hq; cases hq)
      refine ⟨_, _, k60 _ ?_, hrun, hended, _, _, rfl, ?_, ⟨_, rfl⟩, hW, hsame.mono (by decide) (by decide)⟩
      · show Steps p.tables e below (T59.setTop (mkF m 88 #[.val (.int p1), .val (.int p2), .val (.ref b1), .val (.int (p1 &&& (3 : Int32))), .val (.int (p2 &&& (3 : Int32))), .val (.int (own_ant (p1 &&& (3 : Int32)))), .val (.int (own_ant (p2 &&& (3 : Int32)))), .val (.int (1 : Int32))] [(.int (1 : Int32))])) _
        exact retN X59 hx (t := .boolean) Bd.returns (by simp) (hb hby at_88) hr
      · show (fun (v : Option Value) (h : Heap) (L : List Loc) => v = some (.int (1 : Int32)) ∧ Fr n0 L) _ T59.heap _
        rw [hh59]
        dsimp only
        exact ⟨rfl, N59⟩
    · have own_mark : True := trivial
      obtain ⟨cl61, Ar61, q61, S61, P61, H61, G61⟩ := id V13
      have hin61 : ¬ ((p1 &&& (3 : Int32)) < 0 ∨ cl61.slots.size ≤ ((p1 &&& (3 : Int32))).toNatClampNeg) := inb_of S61 (by rw [hi]; exact ⟨by decide, by decide⟩)
      have hat61 : cl61.slots[((p1 &&& (3 : Int32))).toNatClampNeg]? = some (.ref wB) := Has.at H61 hin61 (by rw [hi]; rfl)
      obtain ⟨cl62, Ar62, q62, S62, P62, H62, G62⟩ := id V13
      have hin62 : ¬ ((p2 &&& (3 : Int32)) < 0 ∨ cl62.slots.size ≤ ((p2 &&& (3 : Int32))).toNatClampNeg) := inb_of S62 (by rw [hj]; exact ⟨by decide, by decide⟩)
      have hat62 : cl62.slots[((p2 &&& (3 : Int32))).toNatClampNeg]? = some (.ref wAB) := Has.at H62 hin62 (by rw [hj]; rfl)
      obtain ⟨cq63, kq63, q63a, q63b, q63c⟩ := isOf hZ hh15 (Exa.keep E_wB K13)
      obtain ⟨_, _, ⟨T63, L63, ka63, na63⟩, -, X63, ⟨Lc63, hQ63, l63, y63, z63⟩, st63⟩ := X15.virtualBack hx (y := (⟨"com/example/probematch/probematch/generate/BloodType", "canGiveTo", "(Lcom/example/probematch/probematch/generate/BloodType;)Z"⟩ : MethodName)) (z := (⟨"com/example/probematch/probematch/generate/BloodType", "canGiveTo", "(Lcom/example/probematch/probematch/generate/BloodType;)Z"⟩ : MethodName)) hown (mvT hZ (hw _ (List.mem_of_getElem? (i := 16) rfl))) (mvT hZ (hw _ (List.mem_of_getElem? (i := 17) rfl))) (notFace_of_selects (args := #[]) (mvT hZ (hw _ (List.mem_of_getElem? (i := 19) rfl)))) (mvT hZ (hw _ (List.mem_of_getElem? (i := 19) rfl))) (mvT hZ (hw _ (List.mem_of_getElem? (i := 18) rfl))) (by decide) (backOf (W := 0) (own_rmG l Z a0 hw [] wB wAB wO wAB h13 n0 Z13 (own_sta_keep0 S_wO K13) (own_sta_keep0 S_wAB K13)) hZ (hw _ (List.mem_of_getElem? (i := 20) rfl)) (hw _ (List.mem_of_getElem? (i := 3) rfl)) (by decide) (by decide)) q63a q63c (g := (mkF m 75 #[.val (.int p1), .val (.int p2), .val (.ref b1), .val (.int (p1 &&& (3 : Int32))), .val (.int (p2 &&& (3 : Int32))), .val (.int (own_ant (p1 &&& (3 : Int32)))), .val (.int (own_ant (p2 &&& (3 : Int32)))), .val (.int (1 : Int32))] [(.ref wAB), (.ref wB)])) rfl (by rw [hml]; rfl) (Steps.refl _) (argsL := [(.ref wAB)]) (rest := []) (lenOf own_pd__Lcom_example_probematch_probematch_generate_BloodType__Z rfl) rfl (by show 2 * 0 + _ ≤ _; exact Nat.le_of_eq rfl) (hb hby at_75) (fun _ _ => ⟨rfl, hh15, (by decide : 1 + 0 ≤ _), (by decide : 4 + 0 ≤ _)⟩)
      dsimp only [Pt.U, Pt.locs, Pt.cells, Pt.slots] at X63 l63 y63 z63 st63 hQ63
      subst l63 y63 z63
      obtain ⟨rfl, Nq63, hh63⟩ := hQ63
      have N63 := Fr.app N15 Nq63
      have k64 : ∀ tt, Steps p.tables e below (T63.setTop (mkF m 88 #[.val (.int p1), .val (.int p2), .val (.ref b1), .val (.int (p1 &&& (3 : Int32))), .val (.int (p2 &&& (3 : Int32))), .val (.int (own_ant (p1 &&& (3 : Int32)))), .val (.int (own_ant (p2 &&& (3 : Int32)))), .val (.int (1 : Int32))] [(.int (1 : Int32))])) tt → Steps p.tables e below (s₁.setTop (entryFrame m #[(.int p1), (.int p2)] maxLocals)) tt := by
        intro tt kk
        refine k16 tt ?_
        show Steps p.tables e below (T15.setTop (mkF m 58 #[.val (.int p1), .val (.int p2), .val (.ref b1), .val (.int (p1 &&& (3 : Int32))), .val (.int (p2 &&& (3 : Int32))), .val (.int (own_ant (p1 &&& (3 : Int32)))), .val (.int (own_ant (p2 &&& (3 : Int32)))), .unset] [(.int ((own_ant (p1 &&& (3 : Int32))) &&& ((own_ant (p2 &&& (3 : Int32))) ^^^ (-1 : Int32))))])) tt
        refine XS.ifNo X15.here hx rfl (hb hby at_58) rfl ((if0 _ _).trans (teq (by rw [hi, hj]; decide : ((own_ant (p1 &&& (3 : Int32))) &&& ((own_ant (p2 &&& (3 : Int32))) ^^^ (-1 : Int32))) = (0 : Int32))).2) ?_
        show Steps p.tables e below (T15.setTop (mkF m 61 #[.val (.int p1), .val (.int p2), .val (.ref b1), .val (.int (p1 &&& (3 : Int32))), .val (.int (p2 &&& (3 : Int32))), .val (.int (own_ant (p1 &&& (3 : Int32)))), .val (.int (own_ant (p2 &&& (3 : Int32)))), .unset] [])) tt
        refine XS.iconst X15.here hx rfl (hb hby at_61) ?_
        show Steps p.tables e below (T15.setTop (mkF m 62 #[.val (.int p1), .val (.int p2), .val (.ref b1), .val (.int (p1 &&& (3 : Int32))), .val (.int (p2 &&& (3 : Int32))), .val (.int (own_ant (p1 &&& (3 : Int32)))), .val (.int (own_ant (p2 &&& (3 : Int32)))), .unset] [(.int (1 : Int32))])) tt
        refine XS.goto X15.here hx rfl (pc0 := 62) (pc' := 66) rfl (hb hby at_62) (by decide) (by decide) ?_
        show Steps p.tables e below (T15.setTop (mkF m 66 #[.val (.int p1), .val (.int p2), .val (.ref b1), .val (.int (p1 &&& (3 : Int32))), .val (.int (p2 &&& (3 : Int32))), .val (.int (own_ant (p1 &&& (3 : Int32)))), .val (.int (own_ant (p2 &&& (3 : Int32)))), .unset] [(.int (1 : Int32))])) tt
        refine XS.istore X15.here hx rfl (hb hby at_66) rfl (l' := #[.val (.int p1), .val (.int p2), .val (.ref b1), .val (.int (p1 &&& (3 : Int32))), .val (.int (p2 &&& (3 : Int32))), .val (.int (own_ant (p1 &&& (3 : Int32)))), .val (.int (own_ant (p2 &&& (3 : Int32)))), .val (.int (1 : Int32))]) rfl ?_
        show Steps p.tables e below (T15.setTop (mkF m 68 #[.val (.int p1), .val (.int p2), .val (.ref b1), .val (.int (p1 &&& (3 : Int32))), .val (.int (p2 &&& (3 : Int32))), .val (.int (own_ant (p1 &&& (3 : Int32)))), .val (.int (own_ant (p2 &&& (3 : Int32)))), .val (.int (1 : Int32))] [])) tt
        refine XS.aloadN X15.here hx rfl (hb hby at_68) rfl rfl ?_
        show Steps p.tables e below (T15.setTop (mkF m 69 #[.val (.int p1), .val (.int p2), .val (.ref b1), .val (.int (p1 &&& (3 : Int32))), .val (.int (p2 &&& (3 : Int32))), .val (.int (own_ant (p1 &&& (3 : Int32)))), .val (.int (own_ant (p2 &&& (3 : Int32)))), .val (.int (1 : Int32))] [(.ref b1)])) tt
        refine XS.iloadN X15.here hx rfl (hb hby at_69) rfl ?_
        show Steps p.tables e below (T15.setTop (mkF m 70 #[.val (.int p1), .val (.int p2), .val (.ref b1), .val (.int (p1 &&& (3 : Int32))), .val (.int (p2 &&& (3 : Int32))), .val (.int (own_ant (p1 &&& (3 : Int32)))), .val (.int (own_ant (p2 &&& (3 : Int32)))), .val (.int (1 : Int32))] [(.int (p1 &&& (3 : Int32))), (.ref b1)])) tt
        refine X15.aaload hx (j := (p1 &&& (3 : Int32))) (v := (.ref wB)) (by rw [hh15]; exact Ar61.1) (State.isArrayOf_alike hZ.alike Ar61.2.1) rfl Ar61.2.2 hin61 hat61 (g := (mkF m 70 #[.val (.int p1), .val (.int p2), .val (.ref b1), .val (.int (p1 &&& (3 : Int32))), .val (.int (p2 &&& (3 : Int32))), .val (.int (own_ant (p1 &&& (3 : Int32)))), .val (.int (own_ant (p2 &&& (3 : Int32)))), .val (.int (1 : Int32))] [(.int (p1 &&& (3 : Int32))), (.ref b1)])) rfl rfl (hb hby at_70) _ ?_
        show Steps p.tables e below (T15.setTop (mkF m 71 #[.val (.int p1), .val (.int p2), .val (.ref b1), .val (.int (p1 &&& (3 : Int32))), .val (.int (p2 &&& (3 : Int32))), .val (.int (own_ant (p1 &&& (3 : Int32)))), .val (.int (own_ant (p2 &&& (3 : Int32)))), .val (.int (1 : Int32))] [(.ref wB)])) tt
        refine XS.aloadN X15.here hx rfl (hb hby at_71) rfl rfl ?_
        show Steps p.tables e below (T15.setTop (mkF m 72 #[.val (.int p1), .val (.int p2), .val (.ref b1), .val (.int (p1 &&& (3 : Int32))), .val (.int (p2 &&& (3 : Int32))), .val (.int (own_ant (p1 &&& (3 : Int32)))), .val (.int (own_ant (p2 &&& (3 : Int32)))), .val (.int (1 : Int32))] [(.ref b1), (.ref wB)])) tt
        refine XS.iload X15.here hx rfl (hb hby at_72) rfl ?_
        show Steps p.tables e below (T15.setTop (mkF m 74 #[.val (.int p1), .val (.int p2), .val (.ref b1), .val (.int (p1 &&& (3 : Int32))), .val (.int (p2 &&& (3 : Int32))), .val (.int (own_ant (p1 &&& (3 : Int32)))), .val (.int (own_ant (p2 &&& (3 : Int32)))), .val (.int (1 : Int32))] [(.int (p2 &&& (3 : Int32))), (.ref b1), (.ref wB)])) tt
        refine X15.aaload hx (j := (p2 &&& (3 : Int32))) (v := (.ref wAB)) (by rw [hh15]; exact Ar62.1) (State.isArrayOf_alike hZ.alike Ar62.2.1) rfl Ar62.2.2 hin62 hat62 (g := (mkF m 74 #[.val (.int p1), .val (.int p2), .val (.ref b1), .val (.int (p1 &&& (3 : Int32))), .val (.int (p2 &&& (3 : Int32))), .val (.int (own_ant (p1 &&& (3 : Int32)))), .val (.int (own_ant (p2 &&& (3 : Int32)))), .val (.int (1 : Int32))] [(.int (p2 &&& (3 : Int32))), (.ref b1), (.ref wB)])) rfl rfl (hb hby at_74) _ ?_
        show Steps p.tables e below (T15.setTop (mkF m 75 #[.val (.int p1), .val (.int p2), .val (.ref b1), .val (.int (p1 &&& (3 : Int32))), .val (.int (p2 &&& (3 : Int32))), .val (.int (own_ant (p1 &&& (3 : Int32)))), .val (.int (own_ant (p2 &&& (3 : Int32)))), .val (.int (1 : Int32))] [(.ref wAB), (.ref wB)])) tt
        refine st63.trans ?_
        show Steps p.tables e below (T63.setTop (mkF m 78 #[.val (.int p1), .val (.int p2), .val (.ref b1), .val (.int (p1 &&& (3 : Int32))), .val (.int (p2 &&& (3 : Int32))), .val (.int (own_ant (p1 &&& (3 : Int32)))), .val (.int (own_ant (p2 &&& (3 : Int32)))), .val (.int (1 : Int32))] [(.int (own_cg wB wAB wO wAB))])) tt
        refine XS.iload X63.here hx rfl (hb hby at_78) rfl ?_
        show Steps p.tables e below (T63.setTop (mkF m 80 #[.val (.int p1), .val (.int p2), .val (.ref b1), .val (.int (p1 &&& (3 : Int32))), .val (.int (p2 &&& (3 : Int32))), .val (.int (own_ant (p1 &&& (3 : Int32)))), .val (.int (own_ant (p2 &&& (3 : Int32)))), .val (.int (1 : Int32))] [(.int (1 : Int32)), (.int (own_cg wB wAB wO wAB))])) tt
        refine XS.icmpNo X63.here hx rfl (hb hby at_80) rfl (teq (by simp [own_cg, n_wO_wA, n_wO_wB, n_wO_wAB, n_wA_wO, n_wA_wB, n_wA_wAB, n_wB_wO, n_wB_wA, n_wB_wAB, n_wAB_wO, n_wAB_wA, n_wAB_wB] : (own_cg wB wAB wO wAB) = (1 : Int32))).2 ?_
        show Steps p.tables e below (T63.setTop (mkF m 83 #[.val (.int p1), .val (.int p2), .val (.ref b1), .val (.int (p1 &&& (3 : Int32))), .val (.int (p2 &&& (3 : Int32))), .val (.int (own_ant (p1 &&& (3 : Int32)))), .val (.int (own_ant (p2 &&& (3 : Int32)))), .val (.int (1 : Int32))] [])) tt
        refine XS.iconst X63.here hx rfl (hb hby at_83) ?_
        show Steps p.tables e below (T63.setTop (mkF m 84 #[.val (.int p1), .val (.int p2), .val (.ref b1), .val (.int (p1 &&& (3 : Int32))), .val (.int (p2 &&& (3 : Int32))), .val (.int (own_ant (p1 &&& (3 : Int32)))), .val (.int (own_ant (p2 &&& (3 : Int32)))), .val (.int (1 : Int32))] [(.int (1 : Int32))])) tt
        refine XS.goto X63.here hx rfl (pc0 := 84) (pc' := 88) rfl (hb hby at_84) (by decide) (by decide) ?_
        exact kk
      obtain ⟨fs, hr, hrun, hended, hW, hsame⟩ := X63.leave (v := some (.int (1 : Int32))) (fun hq => by rw [Bd.returns] at hq; cases hq)
      refine ⟨_, _, k64 _ ?_, hrun, hended, _, _, rfl, ?_, ⟨_, rfl⟩, hW, hsame.mono (by decide) (by decide)⟩
      · show Steps p.tables e below (T63.setTop (mkF m 88 #[.val (.int p1), .val (.int p2), .val (.ref b1), .val (.int (p1 &&& (3 : Int32))), .val (.int (p2 &&& (3 : Int32))), .val (.int (own_ant (p1 &&& (3 : Int32)))), .val (.int (own_ant (p2 &&& (3 : Int32)))), .val (.int (1 : Int32))] [(.int (1 : Int32))])) _
        exact retN X63 hx (t := .boolean) Bd.returns (by simp) (hb hby at_88) hr
      · show (fun (v : Option Value) (h : Heap) (L : List Loc) => v = some (.int (1 : Int32)) ∧ Fr n0 L) _ T63.heap _
        rw [hh63]
        dsimp only
        exact ⟨rfl, N63⟩
  · have own_mark : True := trivial
    rcases own_and3 p2 with hj | hj | hj | hj
    · have own_mark : True := trivial
      obtain ⟨cl65, Ar65, q65, S65, P65, H65, G65⟩ := id V13
      have hin65 : ¬ ((p1 &&& (3 : Int32)) < 0 ∨ cl65.slots.size ≤ ((p1 &&& (3 : Int32))).toNatClampNeg) := inb_of S65 (by rw [hi]; exact ⟨by decide, by decide⟩)
      have hat65 : cl65.slots[((p1 &&& (3 : Int32))).toNatClampNeg]? = some (.ref wAB) := Has.at H65 hin65 (by rw [hi]; rfl)
      obtain ⟨cl66, Ar66, q66, S66, P66, H66, G66⟩ := id V13
      have hin66 : ¬ ((p2 &&& (3 : Int32)) < 0 ∨ cl66.slots.size ≤ ((p2 &&& (3 : Int32))).toNatClampNeg) := inb_of S66 (by rw [hj]; exact ⟨by decide, by decide⟩)
      have hat66 : cl66.slots[((p2 &&& (3 : Int32))).toNatClampNeg]? = some (.ref wO) := Has.at H66 hin66 (by rw [hj]; rfl)
      obtain ⟨cq67, kq67, q67a, q67b, q67c⟩ := isOf hZ hh15 (Exa.keep E_wAB K13)
      obtain ⟨_, _, ⟨T67, L67, ka67, na67⟩, -, X67, ⟨Lc67, hQ67, l67, y67, z67⟩, st67⟩ := X15.virtualBack hx (y := (⟨"com/example/probematch/probematch/generate/BloodType", "canGiveTo", "(Lcom/example/probematch/probematch/generate/BloodType;)Z"⟩ : MethodName)) (z := (⟨"com/example/probematch/probematch/generate/BloodType", "canGiveTo", "(Lcom/example/probematch/probematch/generate/BloodType;)Z"⟩ : MethodName)) hown (mvT hZ (hw _ (List.mem_of_getElem? (i := 16) rfl))) (mvT hZ (hw _ (List.mem_of_getElem? (i := 17) rfl))) (notFace_of_selects (args := #[]) (mvT hZ (hw _ (List.mem_of_getElem? (i := 19) rfl)))) (mvT hZ (hw _ (List.mem_of_getElem? (i := 19) rfl))) (mvT hZ (hw _ (List.mem_of_getElem? (i := 18) rfl))) (by decide) (backOf (W := 0) (own_rmG l Z a0 hw [] wAB wO wO wAB h13 n0 Z13 (own_sta_keep0 S_wO K13) (own_sta_keep0 S_wAB K13)) hZ (hw _ (List.mem_of_getElem? (i := 20) rfl)) (hw _ (List.mem_of_getElem? (i := 3) rfl)) (by decide) (by decide)) q67a q67c (g := (mkF m 75 #[.val (.int p1), .val (.int p2), .val (.ref b1), .val (.int (p1 &&& (3 : Int32))), .val (.int (p2 &&& (3 : Int32))), .val (.int (own_ant (p1 &&& (3 : Int32)))), .val (.int (own_ant (p2 &&& (3 : Int32)))), .val (.int (0 : Int32))] [(.ref wO), (.ref wAB)])) rfl (by rw [hml]; rfl) (Steps.refl _) (argsL := [(.ref wO)]) (rest := []) (lenOf own_pd__Lcom_example_probematch_probematch_generate_BloodType__Z rfl) rfl (by show 2 * 0 + _ ≤ _; exact Nat.le_of_eq rfl) (hb hby at_75) (fun _ _ => ⟨rfl, hh15, (by decide : 1 + 0 ≤ _), (by decide : 4 + 0 ≤ _)⟩)
      dsimp only [Pt.U, Pt.locs, Pt.cells, Pt.slots] at X67 l67 y67 z67 st67 hQ67
      subst l67 y67 z67
      obtain ⟨rfl, Nq67, hh67⟩ := hQ67
      have N67 := Fr.app N15 Nq67
      have k68 : ∀ tt, Steps p.tables e below (T67.setTop (mkF m 88 #[.val (.int p1), .val (.int p2), .val (.ref b1), .val (.int (p1 &&& (3 : Int32))), .val (.int (p2 &&& (3 : Int32))), .val (.int (own_ant (p1 &&& (3 : Int32)))), .val (.int (own_ant (p2 &&& (3 : Int32)))), .val (.int (0 : Int32))] [(.int (1 : Int32))])) tt → Steps p.tables e below (s₁.setTop (entryFrame m #[(.int p1), (.int p2)] maxLocals)) tt := by
        intro tt kk
        refine k16 tt ?_
        show Steps p.tables e below (T15.setTop (mkF m 58 #[.val (.int p1), .val (.int p2), .val (.ref b1), .val (.int (p1 &&& (3 : Int32))), .val (.int (p2 &&& (3 : Int32))), .val (.int (own_ant (p1 &&& (3 : Int32)))), .val (.int (own_ant (p2 &&& (3 : Int32)))), .unset] [(.int ((own_ant (p1 &&& (3 : Int32))) &&& ((own_ant (p2 &&& (3 : Int32))) ^^^ (-1 : Int32))))])) tt
        refine XS.ifYes X15.here hx rfl (pc0 := 58) (pc' := 65) rfl (hb hby at_58) rfl ((if0 _ _).trans (feq (by rw [hi, hj]; decide : ¬ (((own_ant (p1 &&& (3 : Int32))) &&& ((own_ant (p2 &&& (3 : Int32))) ^^^ (-1 : Int32))) = (0 : Int32)))).2) (by decide) (by decide) ?_
        show Steps p.tables e below (T15.setTop (mkF m 65 #[.val (.int p1), .val (.int p2), .val (.ref b1), .val (.int (p1 &&& (3 : Int32))), .val (.int (p2 &&& (3 : Int32))), .val (.int (own_ant (p1 &&& (3 : Int32)))), .val (.int (own_ant (p2 &&& (3 : Int32)))), .unset] [])) tt
        refine XS.iconst X15.here hx rfl (hb hby at_65) ?_
        show Steps p.tables e below (T15.setTop (mkF m 66 #[.val (.int p1), .val (.int p2), .val (.ref b1), .val (.int (p1 &&& (3 : Int32))), .val (.int (p2 &&& (3 : Int32))), .val (.int (own_ant (p1 &&& (3 : Int32)))), .val (.int (own_ant (p2 &&& (3 : Int32)))), .unset] [(.int (0 : Int32))])) tt
        refine XS.istore X15.here hx rfl (hb hby at_66) rfl (l' := #[.val (.int p1), .val (.int p2), .val (.ref b1), .val (.int (p1 &&& (3 : Int32))), .val (.int (p2 &&& (3 : Int32))), .val (.int (own_ant (p1 &&& (3 : Int32)))), .val (.int (own_ant (p2 &&& (3 : Int32)))), .val (.int (0 : Int32))]) rfl ?_
        show Steps p.tables e below (T15.setTop (mkF m 68 #[.val (.int p1), .val (.int p2), .val (.ref b1), .val (.int (p1 &&& (3 : Int32))), .val (.int (p2 &&& (3 : Int32))), .val (.int (own_ant (p1 &&& (3 : Int32)))), .val (.int (own_ant (p2 &&& (3 : Int32)))), .val (.int (0 : Int32))] [])) tt
        refine XS.aloadN X15.here hx rfl (hb hby at_68) rfl rfl ?_
        show Steps p.tables e below (T15.setTop (mkF m 69 #[.val (.int p1), .val (.int p2), .val (.ref b1), .val (.int (p1 &&& (3 : Int32))), .val (.int (p2 &&& (3 : Int32))), .val (.int (own_ant (p1 &&& (3 : Int32)))), .val (.int (own_ant (p2 &&& (3 : Int32)))), .val (.int (0 : Int32))] [(.ref b1)])) tt
        refine XS.iloadN X15.here hx rfl (hb hby at_69) rfl ?_
        show Steps p.tables e below (T15.setTop (mkF m 70 #[.val (.int p1), .val (.int p2), .val (.ref b1), .val (.int (p1 &&& (3 : Int32))), .val (.int (p2 &&& (3 : Int32))), .val (.int (own_ant (p1 &&& (3 : Int32)))), .val (.int (own_ant (p2 &&& (3 : Int32)))), .val (.int (0 : Int32))] [(.int (p1 &&& (3 : Int32))), (.ref b1)])) tt
        refine X15.aaload hx (j := (p1 &&& (3 : Int32))) (v := (.ref wAB)) (by rw [hh15]; exact Ar65.1) (State.isArrayOf_alike hZ.alike Ar65.2.1) rfl Ar65.2.2 hin65 hat65 (g := (mkF m 70 #[.val (.int p1), .val (.int p2), .val (.ref b1), .val (.int (p1 &&& (3 : Int32))), .val (.int (p2 &&& (3 : Int32))), .val (.int (own_ant (p1 &&& (3 : Int32)))), .val (.int (own_ant (p2 &&& (3 : Int32)))), .val (.int (0 : Int32))] [(.int (p1 &&& (3 : Int32))), (.ref b1)])) rfl rfl (hb hby at_70) _ ?_
        show Steps p.tables e below (T15.setTop (mkF m 71 #[.val (.int p1), .val (.int p2), .val (.ref b1), .val (.int (p1 &&& (3 : Int32))), .val (.int (p2 &&& (3 : Int32))), .val (.int (own_ant (p1 &&& (3 : Int32)))), .val (.int (own_ant (p2 &&& (3 : Int32)))), .val (.int (0 : Int32))] [(.ref wAB)])) tt
        refine XS.aloadN X15.here hx rfl (hb hby at_71) rfl rfl ?_
        show Steps p.tables e below (T15.setTop (mkF m 72 #[.val (.int p1), .val (.int p2), .val (.ref b1), .val (.int (p1 &&& (3 : Int32))), .val (.int (p2 &&& (3 : Int32))), .val (.int (own_ant (p1 &&& (3 : Int32)))), .val (.int (own_ant (p2 &&& (3 : Int32)))), .val (.int (0 : Int32))] [(.ref b1), (.ref wAB)])) tt
        refine XS.iload X15.here hx rfl (hb hby at_72) rfl ?_
        show Steps p.tables e below (T15.setTop (mkF m 74 #[.val (.int p1), .val (.int p2), .val (.ref b1), .val (.int (p1 &&& (3 : Int32))), .val (.int (p2 &&& (3 : Int32))), .val (.int (own_ant (p1 &&& (3 : Int32)))), .val (.int (own_ant (p2 &&& (3 : Int32)))), .val (.int (0 : Int32))] [(.int (p2 &&& (3 : Int32))), (.ref b1), (.ref wAB)])) tt
        refine X15.aaload hx (j := (p2 &&& (3 : Int32))) (v := (.ref wO)) (by rw [hh15]; exact Ar66.1) (State.isArrayOf_alike hZ.alike Ar66.2.1) rfl Ar66.2.2 hin66 hat66 (g := (mkF m 74 #[.val (.int p1), .val (.int p2), .val (.ref b1), .val (.int (p1 &&& (3 : Int32))), .val (.int (p2 &&& (3 : Int32))), .val (.int (own_ant (p1 &&& (3 : Int32)))), .val (.int (own_ant (p2 &&& (3 : Int32)))), .val (.int (0 : Int32))] [(.int (p2 &&& (3 : Int32))), (.ref b1), (.ref wAB)])) rfl rfl (hb hby at_74) _ ?_
        show Steps p.tables e below (T15.setTop (mkF m 75 #[.val (.int p1), .val (.int p2), .val (.ref b1), .val (.int (p1 &&& (3 : Int32))), .val (.int (p2 &&& (3 : Int32))), .val (.int (own_ant (p1 &&& (3 : Int32)))), .val (.int (own_ant (p2 &&& (3 : Int32)))), .val (.int (0 : Int32))] [(.ref wO), (.ref wAB)])) tt
        refine st67.trans ?_
        show Steps p.tables e below (T67.setTop (mkF m 78 #[.val (.int p1), .val (.int p2), .val (.ref b1), .val (.int (p1 &&& (3 : Int32))), .val (.int (p2 &&& (3 : Int32))), .val (.int (own_ant (p1 &&& (3 : Int32)))), .val (.int (own_ant (p2 &&& (3 : Int32)))), .val (.int (0 : Int32))] [(.int (own_cg wAB wO wO wAB))])) tt
        refine XS.iload X67.here hx rfl (hb hby at_78) rfl ?_
        show Steps p.tables e below (T67.setTop (mkF m 80 #[.val (.int p1), .val (.int p2), .val (.ref b1), .val (.int (p1 &&& (3 : Int32))), .val (.int (p2 &&& (3 : Int32))), .val (.int (own_ant (p1 &&& (3 : Int32)))), .val (.int (own_ant (p2 &&& (3 : Int32)))), .val (.int (0 : Int32))] [(.int (0 : Int32)), (.int (own_cg wAB wO wO wAB))])) tt
        refine XS.icmpNo X67.here hx rfl (hb hby at_80) rfl (teq (by simp [own_cg, n_wO_wA, n_wO_wB, n_wO_wAB, n_wA_wO, n_wA_wB, n_wA_wAB, n_wB_wO, n_wB_wA, n_wB_wAB, n_wAB_wO, n_wAB_wA, n_wAB_wB] : (own_cg wAB wO wO wAB) = (0 : Int32))).2 ?_
        show Steps p.tables e below (T67.setTop (mkF m 83 #[.val (.int p1), .val (.int p2), .val (.ref b1), .val (.int (p1 &&& (3 : Int32))), .val (.int (p2 &&& (3 : Int32))), .val (.int (own_ant (p1 &&& (3 : Int32)))), .val (.int (own_ant (p2 &&& (3 : Int32)))), .val (.int (0 : Int32))] [])) tt
        refine XS.iconst X67.here hx rfl (hb hby at_83) ?_
        show Steps p.tables e below (T67.setTop (mkF m 84 #[.val (.int p1), .val (.int p2), .val (.ref b1), .val (.int (p1 &&& (3 : Int32))), .val (.int (p2 &&& (3 : Int32))), .val (.int (own_ant (p1 &&& (3 : Int32)))), .val (.int (own_ant (p2 &&& (3 : Int32)))), .val (.int (0 : Int32))] [(.int (1 : Int32))])) tt
        refine XS.goto X67.here hx rfl (pc0 := 84) (pc' := 88) rfl (hb hby at_84) (by decide) (by decide) ?_
        exact kk
      obtain ⟨fs, hr, hrun, hended, hW, hsame⟩ := X67.leave (v := some (.int (1 : Int32))) (fun hq => by rw [Bd.returns] at hq; cases hq)
      refine ⟨_, _, k68 _ ?_, hrun, hended, _, _, rfl, ?_, ⟨_, rfl⟩, hW, hsame.mono (by decide) (by decide)⟩
      · show Steps p.tables e below (T67.setTop (mkF m 88 #[.val (.int p1), .val (.int p2), .val (.ref b1), .val (.int (p1 &&& (3 : Int32))), .val (.int (p2 &&& (3 : Int32))), .val (.int (own_ant (p1 &&& (3 : Int32)))), .val (.int (own_ant (p2 &&& (3 : Int32)))), .val (.int (0 : Int32))] [(.int (1 : Int32))])) _
        exact retN X67 hx (t := .boolean) Bd.returns (by simp) (hb hby at_88) hr
      · show (fun (v : Option Value) (h : Heap) (L : List Loc) => v = some (.int (1 : Int32)) ∧ Fr n0 L) _ T67.heap _
        rw [hh67]
        dsimp only
        exact ⟨rfl, N67⟩
    · have own_mark : True := trivial
      obtain ⟨cl69, Ar69, q69, S69, P69, H69, G69⟩ := id V13
      have hin69 : ¬ ((p1 &&& (3 : Int32)) < 0 ∨ cl69.slots.size ≤ ((p1 &&& (3 : Int32))).toNatClampNeg) := inb_of S69 (by rw [hi]; exact ⟨by decide, by decide⟩)
      have hat69 : cl69.slots[((p1 &&& (3 : Int32))).toNatClampNeg]? = some (.ref wAB) := Has.at H69 hin69 (by rw [hi]; rfl)
      obtain ⟨cl70, Ar70, q70, S70, P70, H70, G70⟩ := id V13
      have hin70 : ¬ ((p2 &&& (3 : Int32)) < 0 ∨ cl70.slots.size ≤ ((p2 &&& (3 : Int32))).toNatClampNeg) := inb_of S70 (by rw [hj]; exact ⟨by decide, by decide⟩)
      have hat70 : cl70.slots[((p2 &&& (3 : Int32))).toNatClampNeg]? = some (.ref wA) := Has.at H70 hin70 (by rw [hj]; rfl)
      obtain ⟨cq71, kq71, q71a, q71b, q71c⟩ := isOf hZ hh15 (Exa.keep E_wAB K13)
      obtain ⟨_, _, ⟨T71, L71, ka71, na71⟩, -, X71, ⟨Lc71, hQ71, l71, y71, z71⟩, st71⟩ := X15.virtualBack hx (y := (⟨"com/example/probematch/probematch/generate/BloodType", "canGiveTo", "(Lcom/example/probematch/probematch/generate/BloodType;)Z"⟩ : MethodName)) (z := (⟨"com/example/probematch/probematch/generate/BloodType", "canGiveTo", "(Lcom/example/probematch/probematch/generate/BloodType;)Z"⟩ : MethodName)) hown (mvT hZ (hw _ (List.mem_of_getElem? (i := 16) rfl))) (mvT hZ (hw _ (List.mem_of_getElem? (i := 17) rfl))) (notFace_of_selects (args := #[]) (mvT hZ (hw _ (List.mem_of_getElem? (i := 19) rfl)))) (mvT hZ (hw _ (List.mem_of_getElem? (i := 19) rfl))) (mvT hZ (hw _ (List.mem_of_getElem? (i := 18) rfl))) (by decide) (backOf (W := 0) (own_rmG l Z a0 hw [] wAB wA wO wAB h13 n0 Z13 (own_sta_keep0 S_wO K13) (own_sta_keep0 S_wAB K13)) hZ (hw _ (List.mem_of_getElem? (i := 20) rfl)) (hw _ (List.mem_of_getElem? (i := 3) rfl)) (by decide) (by decide)) q71a q71c (g := (mkF m 75 #[.val (.int p1), .val (.int p2), .val (.ref b1), .val (.int (p1 &&& (3 : Int32))), .val (.int (p2 &&& (3 : Int32))), .val (.int (own_ant (p1 &&& (3 : Int32)))), .val (.int (own_ant (p2 &&& (3 : Int32)))), .val (.int (0 : Int32))] [(.ref wA), (.ref wAB)])) rfl (by rw [hml]; rfl) (Steps.refl _) (argsL := [(.ref wA)]) (rest := []) (lenOf own_pd__Lcom_example_probematch_probematch_generate_BloodType__Z rfl) rfl (by show 2 * 0 + _ ≤ _; exact Nat.le_of_eq rfl) (hb hby at_75) (fun _ _ => ⟨rfl, hh15, (by decide : 1 + 0 ≤ _), (by decide : 4 + 0 ≤ _)⟩)
      dsimp only [Pt.U, Pt.locs, Pt.cells, Pt.slots] at X71 l71 y71 z71 st71 hQ71
      subst l71 y71 z71
      obtain ⟨rfl, Nq71, hh71⟩ := hQ71
      have N71 := Fr.app N15 Nq71
      have k72 : ∀ tt, Steps p.tables e below (T71.setTop (mkF m 88 #[.val (.int p1), .val (.int p2), .val (.ref b1), .val (.int (p1 &&& (3 : Int32))), .val (.int (p2 &&& (3 : Int32))), .val (.int (own_ant (p1 &&& (3 : Int32)))), .val (.int (own_ant (p2 &&& (3 : Int32)))), .val (.int (0 : Int32))] [(.int (1 : Int32))])) tt → Steps p.tables e below (s₁.setTop (entryFrame m #[(.int p1), (.int p2)] maxLocals)) tt := by
        intro tt kk
        refine k16 tt ?_
        show Steps p.tables e below (T15.setTop (mkF m 58 #[.val (.int p1), .val (.int p2), .val (.ref b1), .val (.int (p1 &&& (3 : Int32))), .val (.int (p2 &&& (3 : Int32))), .val (.int (own_ant (p1 &&& (3 : Int32)))), .val (.int (own_ant (p2 &&& (3 : Int32)))), .unset] [(.int ((own_ant (p1 &&& (3 : Int32))) &&& ((own_ant (p2 &&& (3 : Int32))) ^^^ (-1 : Int32))))])) tt
        refine XS.ifYes X15.here hx rfl (pc0 := 58) (pc' := 65) rfl (hb hby at_58) rfl ((if0 _ _).trans (feq (by rw [hi, hj]; decide : ¬ (((own_ant (p1 &&& (3 : Int32))) &&& ((own_ant (p2 &&& (3 : Int32))) ^^^ (-1 : Int32))) = (0 : Int32)))).2) (by decide) (by decide) ?_
        show Steps p.tables e below (T15.setTop (mkF m 65 #[.val (.int p1), .val (.int p2), .val (.ref b1), .val (.int (p1 &&& (3 : Int32))), .val (.int (p2 &&& (3 : Int32))), .val (.int (own_ant (p1 &&& (3 : Int32)))), .val (.int (own_ant (p2 &&& (3 : Int32)))), .unset] [])) tt
        refine XS.iconst X15.here hx rfl (hb hby at_65) ?_
        show Steps p.tables e below (T15.setTop (mkF m 66 #[.val (.int p1), .val (.int p2), .val (.ref b1), .val (.int (p1 &&& (3 : Int32))), .val (.int (p2 &&& (3 : Int32))), .val (.int (own_ant (p1 &&& (3 : Int32)))), .val (.int (own_ant (p2 &&& (3 : Int32)))), .unset] [(.int (0 : Int32))])) tt
        refine XS.istore X15.here hx rfl (hb hby at_66) rfl (l' := #[.val (.int p1), .val (.int p2), .val (.ref b1), .val (.int (p1 &&& (3 : Int32))), .val (.int (p2 &&& (3 : Int32))), .val (.int (own_ant (p1 &&& (3 : Int32)))), .val (.int (own_ant (p2 &&& (3 : Int32)))), .val (.int (0 : Int32))]) rfl ?_
        show Steps p.tables e below (T15.setTop (mkF m 68 #[.val (.int p1), .val (.int p2), .val (.ref b1), .val (.int (p1 &&& (3 : Int32))), .val (.int (p2 &&& (3 : Int32))), .val (.int (own_ant (p1 &&& (3 : Int32)))), .val (.int (own_ant (p2 &&& (3 : Int32)))), .val (.int (0 : Int32))] [])) tt
        refine XS.aloadN X15.here hx rfl (hb hby at_68) rfl rfl ?_
        show Steps p.tables e below (T15.setTop (mkF m 69 #[.val (.int p1), .val (.int p2), .val (.ref b1), .val (.int (p1 &&& (3 : Int32))), .val (.int (p2 &&& (3 : Int32))), .val (.int (own_ant (p1 &&& (3 : Int32)))), .val (.int (own_ant (p2 &&& (3 : Int32)))), .val (.int (0 : Int32))] [(.ref b1)])) tt
        refine XS.iloadN X15.here hx rfl (hb hby at_69) rfl ?_
        show Steps p.tables e below (T15.setTop (mkF m 70 #[.val (.int p1), .val (.int p2), .val (.ref b1), .val (.int (p1 &&& (3 : Int32))), .val (.int (p2 &&& (3 : Int32))), .val (.int (own_ant (p1 &&& (3 : Int32)))), .val (.int (own_ant (p2 &&& (3 : Int32)))), .val (.int (0 : Int32))] [(.int (p1 &&& (3 : Int32))), (.ref b1)])) tt
        refine X15.aaload hx (j := (p1 &&& (3 : Int32))) (v := (.ref wAB)) (by rw [hh15]; exact Ar69.1) (State.isArrayOf_alike hZ.alike Ar69.2.1) rfl Ar69.2.2 hin69 hat69 (g := (mkF m 70 #[.val (.int p1), .val (.int p2), .val (.ref b1), .val (.int (p1 &&& (3 : Int32))), .val (.int (p2 &&& (3 : Int32))), .val (.int (own_ant (p1 &&& (3 : Int32)))), .val (.int (own_ant (p2 &&& (3 : Int32)))), .val (.int (0 : Int32))] [(.int (p1 &&& (3 : Int32))), (.ref b1)])) rfl rfl (hb hby at_70) _ ?_
        show Steps p.tables e below (T15.setTop (mkF m 71 #[.val (.int p1), .val (.int p2), .val (.ref b1), .val (.int (p1 &&& (3 : Int32))), .val (.int (p2 &&& (3 : Int32))), .val (.int (own_ant (p1 &&& (3 : Int32)))), .val (.int (own_ant (p2 &&& (3 : Int32)))), .val (.int (0 : Int32))] [(.ref wAB)])) tt
        refine XS.aloadN X15.here hx rfl (hb hby at_71) rfl rfl ?_
        show Steps p.tables e below (T15.setTop (mkF m 72 #[.val (.int p1), .val (.int p2), .val (.ref b1), .val (.int (p1 &&& (3 : Int32))), .val (.int (p2 &&& (3 : Int32))), .val (.int (own_ant (p1 &&& (3 : Int32)))), .val (.int (own_ant (p2 &&& (3 : Int32)))), .val (.int (0 : Int32))] [(.ref b1), (.ref wAB)])) tt
        refine XS.iload X15.here hx rfl (hb hby at_72) rfl ?_
        show Steps p.tables e below (T15.setTop (mkF m 74 #[.val (.int p1), .val (.int p2), .val (.ref b1), .val (.int (p1 &&& (3 : Int32))), .val (.int (p2 &&& (3 : Int32))), .val (.int (own_ant (p1 &&& (3 : Int32)))), .val (.int (own_ant (p2 &&& (3 : Int32)))), .val (.int (0 : Int32))] [(.int (p2 &&& (3 : Int32))), (.ref b1), (.ref wAB)])) tt
        refine X15.aaload hx (j := (p2 &&& (3 : Int32))) (v := (.ref wA)) (by rw [hh15]; exact Ar70.1) (State.isArrayOf_alike hZ.alike Ar70.2.1) rfl Ar70.2.2 hin70 hat70 (g := (mkF m 74 #[.val (.int p1), .val (.int p2), .val (.ref b1), .val (.int (p1 &&& (3 : Int32))), .val (.int (p2 &&& (3 : Int32))), .val (.int (own_ant (p1 &&& (3 : Int32)))), .val (.int (own_ant (p2 &&& (3 : Int32)))), .val (.int (0 : Int32))] [(.int (p2 &&& (3 : Int32))), (.ref b1), (.ref wAB)])) rfl rfl (hb hby at_74) _ ?_
        show Steps p.tables e below (T15.setTop (mkF m 75 #[.val (.int p1), .val (.int p2), .val (.ref b1), .val (.int (p1 &&& (3 : Int32))), .val (.int (p2 &&& (3 : Int32))), .val (.int (own_ant (p1 &&& (3 : Int32)))), .val (.int (own_ant (p2 &&& (3 : Int32)))), .val (.int (0 : Int32))] [(.ref wA), (.ref wAB)])) tt
        refine st71.trans ?_
        show Steps p.tables e below (T71.setTop (mkF m 78 #[.val (.int p1), .val (.int p2), .val (.ref b1), .val (.int (p1 &&& (3 : Int32))), .val (.int (p2 &&& (3 : Int32))), .val (.int (own_ant (p1 &&& (3 : Int32)))), .val (.int (own_ant (p2 &&& (3 : Int32)))), .val (.int (0 : Int32))] [(.int (own_cg wAB wA wO wAB))])) tt
        refine XS.iload X71.here hx rfl (hb hby at_78) rfl ?_
        show Steps p.tables e below (T71.setTop (mkF m 80 #[.val (.int p1), .val (.int p2), .val (.ref b1), .val (.int (p1 &&& (3 : Int32))), .val (.int (p2 &&& (3 : Int32))), .val (.int (own_ant (p1 &&& (3 : Int32)))), .val (.int (own_ant (p2 &&& (3 : Int32)))), .val (.int (0 : Int32))] [(.int (0 : Int32)), (.int (own_cg wAB wA wO wAB))])) tt
        refine XS.icmpNo X71.here hx rfl (hb hby at_80) rfl (teq (by simp [own_cg, n_wO_wA, n_wO_wB, n_wO_wAB, n_wA_wO, n_wA_wB, n_wA_wAB, n_wB_wO, n_wB_wA, n_wB_wAB, n_wAB_wO, n_wAB_wA, n_wAB_wB] : (own_cg wAB wA wO wAB) = (0 : Int32))).2 ?_
        show Steps p.tables e below (T71.setTop (mkF m 83 #[.val (.int p1), .val (.int p2), .val (.ref b1), .val (.int (p1 &&& (3 : Int32))), .val (.int (p2 &&& (3 : Int32))), .val (.int (own_ant (p1 &&& (3 : Int32)))), .val (.int (own_ant (p2 &&& (3 : Int32)))), .val (.int (0 : Int32))] [])) tt
        refine XS.iconst X71.here hx rfl (hb hby at_83) ?_
        show Steps p.tables e below (T71.setTop (mkF m 84 #[.val (.int p1), .val (.int p2), .val (.ref b1), .val (.int (p1 &&& (3 : Int32))), .val (.int (p2 &&& (3 : Int32))), .val (.int (own_ant (p1 &&& (3 : Int32)))), .val (.int (own_ant (p2 &&& (3 : Int32)))), .val (.int (0 : Int32))] [(.int (1 : Int32))])) tt
        refine XS.goto X71.here hx rfl (pc0 := 84) (pc' := 88) rfl (hb hby at_84) (by decide) (by decide) ?_
        exact kk
      obtain ⟨fs, hr, hrun, hended, hW, hsame⟩ := X71.leave (v := some (.int (1 : Int32))) (fun hq => by rw [Bd.returns] at hq; cases hq)
      refine ⟨_, _, k72 _ ?_, hrun, hended, _, _, rfl, ?_, ⟨_, rfl⟩, hW, hsame.mono (by decide) (by decide)⟩
      · show Steps p.tables e below (T71.setTop (mkF m 88 #[.val (.int p1), .val (.int p2), .val (.ref b1), .val (.int (p1 &&& (3 : Int32))), .val (.int (p2 &&& (3 : Int32))), .val (.int (own_ant (p1 &&& (3 : Int32)))), .val (.int (own_ant (p2 &&& (3 : Int32)))), .val (.int (0 : Int32))] [(.int (1 : Int32))])) _
        exact retN X71 hx (t := .boolean) Bd.returns (by simp) (hb hby at_88) hr
      · show (fun (v : Option Value) (h : Heap) (L : List Loc) => v = some (.int (1 : Int32)) ∧ Fr n0 L) _ T71.heap _
        rw [hh71]
        dsimp only
        exact ⟨rfl, N71⟩
    · have own_mark : True := trivial
      obtain ⟨cl73, Ar73, q73, S73, P73, H73, G73⟩ := id V13
      have hin73 : ¬ ((p1 &&& (3 : Int32)) < 0 ∨ cl73.slots.size ≤ ((p1 &&& (3 : Int32))).toNatClampNeg) := inb_of S73 (by rw [hi]; exact ⟨by decide, by decide⟩)
      have hat73 : cl73.slots[((p1 &&& (3 : Int32))).toNatClampNeg]? = some (.ref wAB) := Has.at H73 hin73 (by rw [hi]; rfl)
      obtain ⟨cl74, Ar74, q74, S74, P74, H74, G74⟩ := id V13
      have hin74 : ¬ ((p2 &&& (3 : Int32)) < 0 ∨ cl74.slots.size ≤ ((p2 &&& (3 : Int32))).toNatClampNeg) := inb_of S74 (by rw [hj]; exact ⟨by decide, by decide⟩)
      have hat74 : cl74.slots[((p2 &&& (3 : Int32))).toNatClampNeg]? = some (.ref wB) := Has.at H74 hin74 (by rw [hj]; rfl)
      obtain ⟨cq75, kq75, q75a, q75b, q75c⟩ := isOf hZ hh15 (Exa.keep E_wAB K13)
      obtain ⟨_, _, ⟨T75, L75, ka75, na75⟩, -, X75, ⟨Lc75, hQ75, l75, y75, z75⟩, st75⟩ := X15.virtualBack hx (y := (⟨"com/example/probematch/probematch/generate/BloodType", "canGiveTo", "(Lcom/example/probematch/probematch/generate/BloodType;)Z"⟩ : MethodName)) (z := (⟨"com/example/probematch/probematch/generate/BloodType", "canGiveTo", "(Lcom/example/probematch/probematch/generate/BloodType;)Z"⟩ : MethodName)) hown (mvT hZ (hw _ (List.mem_of_getElem? (i := 16) rfl))) (mvT hZ (hw _ (List.mem_of_getElem? (i := 17) rfl))) (notFace_of_selects (args := #[]) (mvT hZ (hw _ (List.mem_of_getElem? (i := 19) rfl)))) (mvT hZ (hw _ (List.mem_of_getElem? (i := 19) rfl))) (mvT hZ (hw _ (List.mem_of_getElem? (i := 18) rfl))) (by decide) (backOf (W := 0) (own_rmG l Z a0 hw [] wAB wB wO wAB h13 n0 Z13 (own_sta_keep0 S_wO K13) (own_sta_keep0 S_wAB K13)) hZ (hw _ (List.mem_of_getElem? (i := 20) rfl)) (hw _ (List.mem_of_getElem? (i := 3) rfl)) (by decide) (by decide)) q75a q75c (g := (mkF m 75 #[.val (.int p1), .val (.int p2), .val (.ref b1), .val (.int (p1 &&& (3 : Int32))), .val (.int (p2 &&& (3 : Int32))), .val (.int (own_ant (p1 &&& (3 : Int32)))), .val (.int (own_ant (p2 &&& (3 : Int32)))), .val (.int (0 : Int32))] [(.ref wB), (.ref wAB)])) rfl (by rw [hml]; rfl) (Steps.refl _) (argsL := [(.ref wB)]) (rest := []) (lenOf own_pd__Lcom_example_probematch_probematch_generate_BloodType__Z rfl) rfl (by show 2 * 0 + _ ≤ _; exact Nat.le_of_eq rfl) (hb hby at_75) (fun _ _ => ⟨rfl, hh15, (by decide : 1 + 0 ≤ _), (by decide : 4 + 0 ≤ _)⟩)
      dsimp only [Pt.U, Pt.locs, Pt.cells, Pt.slots] at X75 l75 y75 z75 st75 hQ75
      subst l75 y75 z75
      obtain ⟨rfl, Nq75, hh75⟩ := hQ75
      have N75 := Fr.app N15 Nq75
      have k76 : ∀ tt, Steps p.tables e below (T75.setTop (mkF m 88 #[.val (.int p1), .val (.int p2), .val (.ref b1), .val (.int (p1 &&& (3 : Int32))), .val (.int (p2 &&& (3 : Int32))), .val (.int (own_ant (p1 &&& (3 : Int32)))), .val (.int (own_ant (p2 &&& (3 : Int32)))), .val (.int (0 : Int32))] [(.int (1 : Int32))])) tt → Steps p.tables e below (s₁.setTop (entryFrame m #[(.int p1), (.int p2)] maxLocals)) tt := by
        intro tt kk
        refine k16 tt ?_
        show Steps p.tables e below (T15.setTop (mkF m 58 #[.val (.int p1), .val (.int p2), .val (.ref b1), .val (.int (p1 &&& (3 : Int32))), .val (.int (p2 &&& (3 : Int32))), .val (.int (own_ant (p1 &&& (3 : Int32)))), .val (.int (own_ant (p2 &&& (3 : Int32)))), .unset] [(.int ((own_ant (p1 &&& (3 : Int32))) &&& ((own_ant (p2 &&& (3 : Int32))) ^^^ (-1 : Int32))))])) tt
        refine XS.ifYes X15.here hx rfl (pc0 := 58) (pc' := 65) rfl (hb hby at_58) rfl ((if0 _ _).trans (feq (by rw [hi, hj]; decide : ¬ (((own_ant (p1 &&& (3 : Int32))) &&& ((own_ant (p2 &&& (3 : Int32))) ^^^ (-1 : Int32))) = (0 : Int32)))).2) (by decide) (by decide) ?_
        show Steps p.tables e below (T15.setTop (mkF m 65 #[.val (.int p1), .val (.int p2), .val (.ref b1), .val (.int (p1 &&& (3 : Int32))), .val (.int (p2 &&& (3 : Int32))), .val (.int (own_ant (p1 &&& (3 : Int32)))), .val (.int (own_ant (p2 &&& (3 : Int32)))), .unset] [])) tt
        refine XS.iconst X15.here hx rfl (hb hby at_65) ?_
        show Steps p.tables e below (T15.setTop (mkF m 66 #[.val (.int p1), .val (.int p2), .val (.ref b1), .val (.int (p1 &&& (3 : Int32))), .val (.int (p2 &&& (3 : Int32))), .val (.int (own_ant (p1 &&& (3 : Int32)))), .val (.int (own_ant (p2 &&& (3 : Int32)))), .unset] [(.int (0 : Int32))])) tt
        refine XS.istore X15.here hx rfl (hb hby at_66) rfl (l' := #[.val (.int p1), .val (.int p2), .val (.ref b1), .val (.int (p1 &&& (3 : Int32))), .val (.int (p2 &&& (3 : Int32))), .val (.int (own_ant (p1 &&& (3 : Int32)))), .val (.int (own_ant (p2 &&& (3 : Int32)))), .val (.int (0 : Int32))]) rfl ?_
        show Steps p.tables e below (T15.setTop (mkF m 68 #[.val (.int p1), .val (.int p2), .val (.ref b1), .val (.int (p1 &&& (3 : Int32))), .val (.int (p2 &&& (3 : Int32))), .val (.int (own_ant (p1 &&& (3 : Int32)))), .val (.int (own_ant (p2 &&& (3 : Int32)))), .val (.int (0 : Int32))] [])) tt
        refine XS.aloadN X15.here hx rfl (hb hby at_68) rfl rfl ?_
        show Steps p.tables e below (T15.setTop (mkF m 69 #[.val (.int p1), .val (.int p2), .val (.ref b1), .val (.int (p1 &&& (3 : Int32))), .val (.int (p2 &&& (3 : Int32))), .val (.int (own_ant (p1 &&& (3 : Int32)))), .val (.int (own_ant (p2 &&& (3 : Int32)))), .val (.int (0 : Int32))] [(.ref b1)])) tt
        refine XS.iloadN X15.here hx rfl (hb hby at_69) rfl ?_
        show Steps p.tables e below (T15.setTop (mkF m 70 #[.val (.int p1), .val (.int p2), .val (.ref b1), .val (.int (p1 &&& (3 : Int32))), .val (.int (p2 &&& (3 : Int32))), .val (.int (own_ant (p1 &&& (3 : Int32)))), .val (.int (own_ant (p2 &&& (3 : Int32)))), .val (.int (0 : Int32))] [(.int (p1 &&& (3 : Int32))), (.ref b1)])) tt
        refine X15.aaload hx (j := (p1 &&& (3 : Int32))) (v := (.ref wAB)) (by rw [hh15]; exact Ar73.1) (State.isArrayOf_alike hZ.alike Ar73.2.1) rfl Ar73.2.2 hin73 hat73 (g := (mkF m 70 #[.val (.int p1), .val (.int p2), .val (.ref b1), .val (.int (p1 &&& (3 : Int32))), .val (.int (p2 &&& (3 : Int32))), .val (.int (own_ant (p1 &&& (3 : Int32)))), .val (.int (own_ant (p2 &&& (3 : Int32)))), .val (.int (0 : Int32))] [(.int (p1 &&& (3 : Int32))), (.ref b1)])) rfl rfl (hb hby at_70) _ ?_
        show Steps p.tables e below (T15.setTop (mkF m 71 #[.val (.int p1), .val (.int p2), .val (.ref b1), .val (.int (p1 &&& (3 : Int32))), .val (.int (p2 &&& (3 : Int32))), .val (.int (own_ant (p1 &&& (3 : Int32)))), .val (.int (own_ant (p2 &&& (3 : Int32)))), .val (.int (0 : Int32))] [(.ref wAB)])) tt
        refine XS.aloadN X15.here hx rfl (hb hby at_71) rfl rfl ?_
        show Steps p.tables e below (T15.setTop (mkF m 72 #[.val (.int p1), .val (.int p2), .val (.ref b1), .val (.int (p1 &&& (3 : Int32))), .val (.int (p2 &&& (3 : Int32))), .val (.int (own_ant (p1 &&& (3 : Int32)))), .val (.int (own_ant (p2 &&& (3 : Int32)))), .val (.int (0 : Int32))] [(.ref b1), (.ref wAB)])) tt
        refine XS.iload X15.here hx rfl (hb hby at_72) rfl ?_
        show Steps p.tables e below (T15.setTop (mkF m 74 #[.val (.int p1), .val (.int p2), .val (.ref b1), .val (.int (p1 &&& (3 : Int32))), .val (.int (p2 &&& (3 : Int32))), .val (.int (own_ant (p1 &&& (3 : Int32)))), .val (.int (own_ant (p2 &&& (3 : Int32)))), .val (.int (0 : Int32))] [(.int (p2 &&& (3 : Int32))), (.ref b1), (.ref wAB)])) tt
        refine X15.aaload hx (j := (p2 &&& (3 : Int32))) (v := (.ref wB)) (by rw [hh15]; exact Ar74.1) (State.isArrayOf_alike hZ.alike Ar74.2.1) rfl Ar74.2.2 hin74 hat74 (g := (mkF m 74 #[.val (.int p1), .val (.int p2), .val (.ref b1), .val (.int (p1 &&& (3 : Int32))), .val (.int (p2 &&& (3 : Int32))), .val (.int (own_ant (p1 &&& (3 : Int32)))), .val (.int (own_ant (p2 &&& (3 : Int32)))), .val (.int (0 : Int32))] [(.int (p2 &&& (3 : Int32))), (.ref b1), (.ref wAB)])) rfl rfl (hb hby at_74) _ ?_
        show Steps p.tables e below (T15.setTop (mkF m 75 #[.val (.int p1), .val (.int p2), .val (.ref b1), .val (.int (p1 &&& (3 : Int32))), .val (.int (p2 &&& (3 : Int32))), .val (.int (own_ant (p1 &&& (3 : Int32)))), .val (.int (own_ant (p2 &&& (3 : Int32)))), .val (.int (0 : Int32))] [(.ref wB), (.ref wAB)])) tt
        refine st75.trans ?_
        show Steps p.tables e below (T75.setTop (mkF m 78 #[.val (.int p1), .val (.int p2), .val (.ref b1), .val (.int (p1 &&& (3 : Int32))), .val (.int (p2 &&& (3 : Int32))), .val (.int (own_ant (p1 &&& (3 : Int32)))), .val (.int (own_ant (p2 &&& (3 : Int32)))), .val (.int (0 : Int32))] [(.int (own_cg wAB wB wO wAB))])) tt
        refine XS.iload X75.here hx rfl (hb hby at_78) rfl ?_
        show Steps p.tables e below (T75.setTop (mkF m 80 #[.val (.int p1), .val (.int p2), .val (.ref b1), .val (.int (p1 &&& (3 : Int32))), .val (.int (p2 &&& (3 : Int32))), .val (.int (own_ant (p1 &&& (3 : Int32)))), .val (.int (own_ant (p2 &&& (3 : Int32)))), .val (.int (0 : Int32))] [(.int (0 : Int32)), (.int (own_cg wAB wB wO wAB))])) tt
        refine XS.icmpNo X75.here hx rfl (hb hby at_80) rfl (teq (by simp [own_cg, n_wO_wA, n_wO_wB, n_wO_wAB, n_wA_wO, n_wA_wB, n_wA_wAB, n_wB_wO, n_wB_wA, n_wB_wAB, n_wAB_wO, n_wAB_wA, n_wAB_wB] : (own_cg wAB wB wO wAB) = (0 : Int32))).2 ?_
        show Steps p.tables e below (T75.setTop (mkF m 83 #[.val (.int p1), .val (.int p2), .val (.ref b1), .val (.int (p1 &&& (3 : Int32))), .val (.int (p2 &&& (3 : Int32))), .val (.int (own_ant (p1 &&& (3 : Int32)))), .val (.int (own_ant (p2 &&& (3 : Int32)))), .val (.int (0 : Int32))] [])) tt
        refine XS.iconst X75.here hx rfl (hb hby at_83) ?_
        show Steps p.tables e below (T75.setTop (mkF m 84 #[.val (.int p1), .val (.int p2), .val (.ref b1), .val (.int (p1 &&& (3 : Int32))), .val (.int (p2 &&& (3 : Int32))), .val (.int (own_ant (p1 &&& (3 : Int32)))), .val (.int (own_ant (p2 &&& (3 : Int32)))), .val (.int (0 : Int32))] [(.int (1 : Int32))])) tt
        refine XS.goto X75.here hx rfl (pc0 := 84) (pc' := 88) rfl (hb hby at_84) (by decide) (by decide) ?_
        exact kk
      obtain ⟨fs, hr, hrun, hended, hW, hsame⟩ := X75.leave (v := some (.int (1 : Int32))) (fun hq => by rw [Bd.returns] at hq; cases hq)
      refine ⟨_, _, k76 _ ?_, hrun, hended, _, _, rfl, ?_, ⟨_, rfl⟩, hW, hsame.mono (by decide) (by decide)⟩
      · show Steps p.tables e below (T75.setTop (mkF m 88 #[.val (.int p1), .val (.int p2), .val (.ref b1), .val (.int (p1 &&& (3 : Int32))), .val (.int (p2 &&& (3 : Int32))), .val (.int (own_ant (p1 &&& (3 : Int32)))), .val (.int (own_ant (p2 &&& (3 : Int32)))), .val (.int (0 : Int32))] [(.int (1 : Int32))])) _
        exact retN X75 hx (t := .boolean) Bd.returns (by simp) (hb hby at_88) hr
      · show (fun (v : Option Value) (h : Heap) (L : List Loc) => v = some (.int (1 : Int32)) ∧ Fr n0 L) _ T75.heap _
        rw [hh75]
        dsimp only
        exact ⟨rfl, N75⟩
    · have own_mark : True := trivial
      obtain ⟨cl77, Ar77, q77, S77, P77, H77, G77⟩ := id V13
      have hin77 : ¬ ((p1 &&& (3 : Int32)) < 0 ∨ cl77.slots.size ≤ ((p1 &&& (3 : Int32))).toNatClampNeg) := inb_of S77 (by rw [hi]; exact ⟨by decide, by decide⟩)
      have hat77 : cl77.slots[((p1 &&& (3 : Int32))).toNatClampNeg]? = some (.ref wAB) := Has.at H77 hin77 (by rw [hi]; rfl)
      obtain ⟨cl78, Ar78, q78, S78, P78, H78, G78⟩ := id V13
      have hin78 : ¬ ((p2 &&& (3 : Int32)) < 0 ∨ cl78.slots.size ≤ ((p2 &&& (3 : Int32))).toNatClampNeg) := inb_of S78 (by rw [hj]; exact ⟨by decide, by decide⟩)
      have hat78 : cl78.slots[((p2 &&& (3 : Int32))).toNatClampNeg]? = some (.ref wAB) := Has.at H78 hin78 (by rw [hj]; rfl)
      obtain ⟨cq79, kq79, q79a, q79b, q79c⟩ := isOf hZ hh15 (Exa.keep E_wAB K13)
      obtain ⟨_, _, ⟨T79, L79, ka79, na79⟩, -, X79, ⟨Lc79, hQ79, l79, y79, z79⟩, st79⟩ := X15.virtualBack hx (y := (⟨"com/example/probematch/probematch/generate/BloodType", "canGiveTo", "(Lcom/example/probematch/probematch/generate/BloodType;)Z"⟩ : MethodName)) (z := (⟨"com/example/probematch/probematch/generate/BloodType", "canGiveTo", "(Lcom/example/probematch/probematch/generate/BloodType;)Z"⟩ : MethodName)) hown (mvT hZ (hw _ (List.mem_of_getElem? (i := 16) rfl))) (mvT hZ (hw _ (List.mem_of_getElem? (i := 17) rfl))) (notFace_of_selects (args := #[]) (mvT hZ (hw _ (List.mem_of_getElem? (i := 19) rfl)))) (mvT hZ (hw _ (List.mem_of_getElem? (i := 19) rfl))) (mvT hZ (hw _ (List.mem_of_getElem? (i := 18) rfl))) (by decide) (backOf (W := 0) (own_rmG l Z a0 hw [] wAB wAB wO wAB h13 n0 Z13 (own_sta_keep0 S_wO K13) (own_sta_keep0 S_wAB K13)) hZ (hw _ (List.mem_of_getElem? (i := 20) rfl)) (hw _ (List.mem_of_getElem? (i := 3) rfl)) (by decide) (by decide)) q79a q79c (g := (mkF m 75 #[.val (.int p1), .val (.int p2), .val (.ref b1), .val (.int (p1 &&& (3 : Int32))), .val (.int (p2 &&& (3 : Int32))), .val (.int (own_ant (p1 &&& (3 : Int32)))), .val (.int (own_ant (p2 &&& (3 : Int32)))), .val (.int (1 : Int32))] [(.ref wAB), (.ref wAB)])) rfl (by rw [hml]; rfl) (Steps.refl _) (argsL := [(.ref wAB)]) (rest := []) (lenOf own_pd__Lcom_example_probematch_probematch_generate_BloodType__Z rfl) rfl (by show 2 * 0 + _ ≤ _; exact Nat.le_of_eq rfl) (hb hby at_75) (fun _ _ => ⟨rfl, hh15, (by decide : 1 + 0 ≤ _), (by decide : 4 + 0 ≤ _)⟩)
      dsimp only [Pt.U, Pt.locs, Pt.cells, Pt.slots] at X79 l79 y79 z79 st79 hQ79
      subst l79 y79 z79
      obtain ⟨rfl, Nq79, hh79⟩ := hQ79
      have N79 := Fr.app N15 Nq79
      have k80 : ∀ tt, Steps p.tables e below (T79.setTop (mkF m 88 #[.val (.int p1), .val (.int p2), .val (.ref b1), .val (.int (p1 &&& (3 : Int32))), .val (.int (p2 &&& (3 : Int32))), .val (.int (own_ant (p1 &&& (3 : Int32)))), .val (.int (own_ant (p2 &&& (3 : Int32)))), .val (.int (1 : Int32))] [(.int (1 : Int32))])) tt → Steps p.tables e below (s₁.setTop (entryFrame m #[(.int p1), (.int p2)] maxLocals)) tt := by
        intro tt kk
        refine k16 tt ?_
        show Steps p.tables e below (T15.setTop (mkF m 58 #[.val (.int p1), .val (.int p2), .val (.ref b1), .val (.int (p1 &&& (3 : Int32))), .val (.int (p2 &&& (3 : Int32))), .val (.int (own_ant (p1 &&& (3 : Int32)))), .val (.int (own_ant (p2 &&& (3 : Int32)))), .unset] [(.int ((own_ant (p1 &&& (3 : Int32))) &&& ((own_ant (p2 &&& (3 : Int32))) ^^^ (-1 : Int32))))])) tt
        refine XS.ifNo X15.here hx rfl (hb hby at_58) rfl ((if0 _ _).trans (teq (by rw [hi, hj]; decide : ((own_ant (p1 &&& (3 : Int32))) &&& ((own_ant (p2 &&& (3 : Int32))) ^^^ (-1 : Int32))) = (0 : Int32))).2) ?_
        show Steps p.tables e below (T15.setTop (mkF m 61 #[.val (.int p1), .val (.int p2), .val (.ref b1), .val (.int (p1 &&& (3 : Int32))), .val (.int (p2 &&& (3 : Int32))), .val (.int (own_ant (p1 &&& (3 : Int32)))), .val (.int (own_ant (p2 &&& (3 : Int32)))), .unset] [])) tt
        refine XS.iconst X15.here hx rfl (hb hby at_61) ?_
        show Steps p.tables e below (T15.setTop (mkF m 62 #[.val (.int p1), .val (.int p2), .val (.ref b1), .val (.int (p1 &&& (3 : Int32))), .val (.int (p2 &&& (3 : Int32))), .val (.int (own_ant (p1 &&& (3 : Int32)))), .val (.int (own_ant (p2 &&& (3 : Int32)))), .unset] [(.int (1 : Int32))])) tt
        refine XS.goto X15.here hx rfl (pc0 := 62) (pc' := 66) rfl (hb hby at_62) (by decide) (by decide) ?_
        show Steps p.tables e below (T15.setTop (mkF m 66 #[.val (.int p1), .val (.int p2), .val (.ref b1), .val (.int (p1 &&& (3 : Int32))), .val (.int (p2 &&& (3 : Int32))), .val (.int (own_ant (p1 &&& (3 : Int32)))), .val (.int (own_ant (p2 &&& (3 : Int32)))), .unset] [(.int (1 : Int32))])) tt
        refine XS.istore X15.here hx rfl (hb hby at_66) rfl (l' := #[.val (.int p1), .val (.int p2), .val (.ref b1), .val (.int (p1 &&& (3 : Int32))), .val (.int (p2 &&& (3 : Int32))), .val (.int (own_ant (p1 &&& (3 : Int32)))), .val (.int (own_ant (p2 &&& (3 : Int32)))), .val (.int (1 : Int32))]) rfl ?_
        show Steps p.tables e below (T15.setTop (mkF m 68 #[.val (.int p1), .val (.int p2), .val (.ref b1), .val (.int (p1 &&& (3 : Int32))), .val (.int (p2 &&& (3 : Int32))), .val (.int (own_ant (p1 &&& (3 : Int32)))), .val (.int (own_ant (p2 &&& (3 : Int32)))), .val (.int (1 : Int32))] [])) tt
        refine XS.aloadN X15.here hx rfl (hb hby at_68) rfl rfl ?_
        show Steps p.tables e below (T15.setTop (mkF m 69 #[.val (.int p1), .val (.int p2), .val (.ref b1), .val (.int (p1 &&& (3 : Int32))), .val (.int (p2 &&& (3 : Int32))), .val (.int (own_ant (p1 &&& (3 : Int32)))), .val (.int (own_ant (p2 &&& (3 : Int32)))), .val (.int (1 : Int32))] [(.ref b1)])) tt
        refine XS.iloadN X15.here hx rfl (hb hby at_69) rfl ?_
        show Steps p.tables e below (T15.setTop (mkF m 70 #[.val (.int p1), .val (.int p2), .val (.ref b1), .val (.int (p1 &&& (3 : Int32))), .val (.int (p2 &&& (3 : Int32))), .val (.int (own_ant (p1 &&& (3 : Int32)))), .val (.int (own_ant (p2 &&& (3 : Int32)))), .val (.int (1 : Int32))] [(.int (p1 &&& (3 : Int32))), (.ref b1)])) tt
        refine X15.aaload hx (j := (p1 &&& (3 : Int32))) (v := (.ref wAB)) (by rw [hh15]; exact Ar77.1) (State.isArrayOf_alike hZ.alike Ar77.2.1) rfl Ar77.2.2 hin77 hat77 (g := (mkF m 70 #[.val (.int p1), .val (.int p2), .val (.ref b1), .val (.int (p1 &&& (3 : Int32))), .val (.int (p2 &&& (3 : Int32))), .val (.int (own_ant (p1 &&& (3 : Int32)))), .val (.int (own_ant (p2 &&& (3 : Int32)))), .val (.int (1 : Int32))] [(.int (p1 &&& (3 : Int32))), (.ref b1)])) rfl rfl (hb hby at_70) _ ?_
        show Steps p.tables e below (T15.setTop (mkF m 71 #[.val (.int p1), .val (.int p2), .val (.ref b1), .val (.int (p1 &&& (3 : Int32))), .val (.int (p2 &&& (3 : Int32))), .val (.int (own_ant (p1 &&& (3 : Int32)))), .val (.int (own_ant (p2 &&& (3 : Int32)))), .val (.int (1 : Int32))] [(.ref wAB)])) tt
        refine XS.aloadN X15.here hx rfl (hb hby at_71) rfl rfl ?_
        show Steps p.tables e below (T15.setTop (mkF m 72 #[.val (.int p1), .val (.int p2), .val (.ref b1), .val (.int (p1 &&& (3 : Int32))), .val (.int (p2 &&& (3 : Int32))), .val (.int (own_ant (p1 &&& (3 : Int32)))), .val (.int (own_ant (p2 &&& (3 : Int32)))), .val (.int (1 : Int32))] [(.ref b1), (.ref wAB)])) tt
        refine XS.iload X15.here hx rfl (hb hby at_72) rfl ?_
        show Steps p.tables e below (T15.setTop (mkF m 74 #[.val (.int p1), .val (.int p2), .val (.ref b1), .val (.int (p1 &&& (3 : Int32))), .val (.int (p2 &&& (3 : Int32))), .val (.int (own_ant (p1 &&& (3 : Int32)))), .val (.int (own_ant (p2 &&& (3 : Int32)))), .val (.int (1 : Int32))] [(.int (p2 &&& (3 : Int32))), (.ref b1), (.ref wAB)])) tt
        refine X15.aaload hx (j := (p2 &&& (3 : Int32))) (v := (.ref wAB)) (by rw [hh15]; exact Ar78.1) (State.isArrayOf_alike hZ.alike Ar78.2.1) rfl Ar78.2.2 hin78 hat78 (g := (mkF m 74 #[.val (.int p1), .val (.int p2), .val (.ref b1), .val (.int (p1 &&& (3 : Int32))), .val (.int (p2 &&& (3 : Int32))), .val (.int (own_ant (p1 &&& (3 : Int32)))), .val (.int (own_ant (p2 &&& (3 : Int32)))), .val (.int (1 : Int32))] [(.int (p2 &&& (3 : Int32))), (.ref b1), (.ref wAB)])) rfl rfl (hb hby at_74) _ ?_
        show Steps p.tables e below (T15.setTop (mkF m 75 #[.val (.int p1), .val (.int p2), .val (.ref b1), .val (.int (p1 &&& (3 : Int32))), .val (.int (p2 &&& (3 : Int32))), .val (.int (own_ant (p1 &&& (3 : Int32)))), .val (.int (own_ant (p2 &&& (3 : Int32)))), .val (.int (1 : Int32))] [(.ref wAB), (.ref wAB)])) tt
        refine st79.trans ?_
        show Steps p.tables e below (T79.setTop (mkF m 78 #[.val (.int p1), .val (.int p2), .val (.ref b1), .val (.int (p1 &&& (3 : Int32))), .val (.int (p2 &&& (3 : Int32))), .val (.int (own_ant (p1 &&& (3 : Int32)))), .val (.int (own_ant (p2 &&& (3 : Int32)))), .val (.int (1 : Int32))] [(.int (own_cg wAB wAB wO wAB))])) tt
        refine XS.iload X79.here hx rfl (hb hby at_78) rfl ?_
        show Steps p.tables e below (T79.setTop (mkF m 80 #[.val (.int p1), .val (.int p2), .val (.ref b1), .val (.int (p1 &&& (3 : Int32))), .val (.int (p2 &&& (3 : Int32))), .val (.int (own_ant (p1 &&& (3 : Int32)))), .val (.int (own_ant (p2 &&& (3 : Int32)))), .val (.int (1 : Int32))] [(.int (1 : Int32)), (.int (own_cg wAB wAB wO wAB))])) tt
        refine XS.icmpNo X79.here hx rfl (hb hby at_80) rfl (teq (by simp [own_cg, n_wO_wA, n_wO_wB, n_wO_wAB, n_wA_wO, n_wA_wB, n_wA_wAB, n_wB_wO, n_wB_wA, n_wB_wAB, n_wAB_wO, n_wAB_wA, n_wAB_wB] : (own_cg wAB wAB wO wAB) = (1 : Int32))).2 ?_
        show Steps p.tables e below (T79.setTop (mkF m 83 #[.val (.int p1), .val (.int p2), .val (.ref b1), .val (.int (p1 &&& (3 : Int32))), .val (.int (p2 &&& (3 : Int32))), .val (.int (own_ant (p1 &&& (3 : Int32)))), .val (.int (own_ant (p2 &&& (3 : Int32)))), .val (.int (1 : Int32))] [])) tt
        refine XS.iconst X79.here hx rfl (hb hby at_83) ?_
        show Steps p.tables e below (T79.setTop (mkF m 84 #[.val (.int p1), .val (.int p2), .val (.ref b1), .val (.int (p1 &&& (3 : Int32))), .val (.int (p2 &&& (3 : Int32))), .val (.int (own_ant (p1 &&& (3 : Int32)))), .val (.int (own_ant (p2 &&& (3 : Int32)))), .val (.int (1 : Int32))] [(.int (1 : Int32))])) tt
        refine XS.goto X79.here hx rfl (pc0 := 84) (pc' := 88) rfl (hb hby at_84) (by decide) (by decide) ?_
        exact kk
      obtain ⟨fs, hr, hrun, hended, hW, hsame⟩ := X79.leave (v := some (.int (1 : Int32))) (fun hq => by rw [Bd.returns] at hq; cases hq)
      refine ⟨_, _, k80 _ ?_, hrun, hended, _, _, rfl, ?_, ⟨_, rfl⟩, hW, hsame.mono (by decide) (by decide)⟩
      · show Steps p.tables e below (T79.setTop (mkF m 88 #[.val (.int p1), .val (.int p2), .val (.ref b1), .val (.int (p1 &&& (3 : Int32))), .val (.int (p2 &&& (3 : Int32))), .val (.int (own_ant (p1 &&& (3 : Int32)))), .val (.int (own_ant (p2 &&& (3 : Int32)))), .val (.int (1 : Int32))] [(.int (1 : Int32))])) _
        exact retN X79 hx (t := .boolean) Bd.returns (by simp) (hb hby at_88) hr
      · show (fun (v : Option Value) (h : Heap) (L : List Loc) => v = some (.int (1 : Int32)) ∧ Fr n0 L) _ T79.heap _
        rw [hh79]
        dsimp only
        exact ⟨rfl, N79⟩
set_option maxRecDepth 65536 in
set_option maxHeartbeats 40000000 in
theorem comes_1 {Post : Tables → Env → Array Value → State → Outcome → State → Prop} (hpost : ∀ tb e args s v u, (limb_1_1.after args s (.returned v) u = true ∧ limb_1_2.after args s (.returned v) u = true ∧ True) → FrameEnd s (.returned v) u (Jvm.fieldLocs frame_1_writes args s ++ Jvm.arrayLocs frame_1_arrays args s ++ Jvm.staticLocs frame_1_statics s) 16 128 → Post tb e args s (.returned v) u) :
    ArmFor flags0 classFile x code maxLocals ret World_1 tables_1 room_1 Calls_1 rest_1 Pre_1 Post := by
  intro l hfl _ _ p e ha hc hk s m args below hf hA hF happ hP
  obtain ⟨hcalls, hrest, hpre⟩ := hP
  obtain ⟨-, -, -, hnamed, -, -, -, hat⟩ := (Spec.applies_iff hf).mp happ
  obtain ⟨hg, hn⟩ := and_e (Cond.before_iff.mp (show (Jvm.Cond.and given_1 narrow_1).before args s = true from hpre))
  obtain ⟨g1, g2⟩ := and_e hg
  obtain ⟨g3, g4⟩ := and_e g2
  obtain ⟨v0, v1, rfl⟩ : ∃ v0 v1 : Value, args = #[v0, v1] := by
    have hs : args.size = 2 := by simpa [Cond.value, given_1] using g1
    obtain ⟨L⟩ := args
    match L, hs with
    | [v0, v1], _ => exact ⟨v0, v1, rfl⟩
  have hw := fun d (hd : d ∈ tables_1) => atoms_spec (ws := Jvm.Cond.code x code maxLocals ret :: tables_1) hat d (List.mem_cons_of_mem _ hd)
  have hfit : Fit s := fun {y c} hc i hi => by
    obtain ⟨ha, rfl⟩ := Array.getElem?_eq_some_iff.mp hc
    have q := List.all_eq_true.mp ((Array.all_eq_true_iff_forall_mem.mp hF) _ (Array.getElem_mem ha)) i (List.mem_range.mpr hi)
    simpa [Array.getElem?_eq_getElem hi] using q
  obtain ⟨i0, ei0⟩ := is_v g3
  obtain rfl : v0 = (.int i0) := Option.some.inj ei0
  obtain ⟨i1, ei1⟩ := is_v g4
  obtain rfl : v1 = (.int i1) := Option.some.inj ei1
  obtain ⟨g5, g6⟩ := and_e hn
  obtain ⟨w_O, ev_w_O⟩ := exa_v g5
  have E_w_O := Exa.start ev_w_O g5
  obtain ⟨g7, g8⟩ := and_e g6
  obtain ⟨w_A, ev_w_A⟩ := exa_v g7
  have E_w_A := Exa.start ev_w_A g7
  obtain ⟨g9, g10⟩ := and_e g8
  obtain ⟨w_B, ev_w_B⟩ := exa_v g9
  have E_w_B := Exa.start ev_w_B g9
  obtain ⟨g11, g12⟩ := and_e g10
  obtain ⟨w_AB, ev_w_AB⟩ := exa_v g11
  have E_w_AB := Exa.start ev_w_AB g11
  obtain ⟨g13, g14⟩ := and_e g12
  obtain ⟨g15, g16⟩ := and_e g14
  obtain ⟨g17, g18⟩ := and_e g16
  have S_w_O := Sta.start ev_w_O (Or.inr ⟨(hw _ (List.mem_of_getElem? (i := 3) rfl)), (hw _ (List.mem_of_getElem? (i := 4) rfl))⟩)
  have S_w_A := Sta.start ev_w_A (Or.inr ⟨(hw _ (List.mem_of_getElem? (i := 3) rfl)), (hw _ (List.mem_of_getElem? (i := 7) rfl))⟩)
  have S_w_B := Sta.start ev_w_B (Or.inr ⟨(hw _ (List.mem_of_getElem? (i := 3) rfl)), (hw _ (List.mem_of_getElem? (i := 9) rfl))⟩)
  have S_w_AB := Sta.start ev_w_AB (Or.inr ⟨(hw _ (List.mem_of_getElem? (i := 3) rfl)), (hw _ (List.mem_of_getElem? (i := 11) rfl))⟩)
  have F_w_B_ordinal := own_fld_int ev_w_B g13
  have F_w_O_ordinal := own_fld_int ev_w_O g15
  have F_w_A_ordinal := own_fld_int ev_w_A g17
  have F_w_AB_ordinal := own_fld_int ev_w_AB g18
  obtain ⟨n, o, h1, h2, h3, _, L, rfl, ⟨rfl, N⟩, hq⟩ := own_rm0 l s _ hw tables_1 i0 i1 w_O w_A w_B w_AB s.heap s.heap.size (Nat.le_refl _) S_w_O S_w_A S_w_B S_w_AB E_w_O E_w_A E_w_B E_w_AB (Fld.ne F_w_O_ordinal F_w_A_ordinal (by decide)) (Fld.ne F_w_O_ordinal F_w_B_ordinal (by decide)) (Fld.ne F_w_O_ordinal F_w_AB_ordinal (by decide)) (Fld.ne F_w_A_ordinal F_w_O_ordinal (by decide)) (Fld.ne F_w_A_ordinal F_w_B_ordinal (by decide)) (Fld.ne F_w_A_ordinal F_w_AB_ordinal (by decide)) (Fld.ne F_w_B_ordinal F_w_O_ordinal (by decide)) (Fld.ne F_w_B_ordinal F_w_A_ordinal (by decide)) (Fld.ne F_w_B_ordinal F_w_AB_ordinal (by decide)) (Fld.ne F_w_AB_ordinal F_w_O_ordinal (by decide)) (Fld.ne F_w_AB_ordinal F_w_A_ordinal (by decide)) (Fld.ne F_w_AB_ordinal F_w_B_ordinal (by decide)) p e ha hc hk s m _ below hf ((Spec.applies_iff_loose hf).mp happ).1 ⟨rfl, State.Warmed39.refl s, rfl⟩ trivial
  refine ⟨n, _, h1, h2, h3, hpost _ _ _ _ _ _ ⟨Cond.after_iff.mpr rfl, Cond.after_iff.mpr (eq_i res_at (Term.int_eval (1)) rfl), trivial⟩ ⟨hq.1, hq.2.1, (hq.2.2.sift fun y hy => Or.inr (N y hy)).mono (by decide) (by decide)⟩⟩
theorem main_1_1 : Claimed_1_1 := comes_1 fun _ _ _ _ _ _ h hF => ⟨h.1, hF⟩
theorem main_1_2 : Claimed_1_2 := comes_1 fun _ _ _ _ _ _ h hF => ⟨h.2.1, hF⟩
end Jvm.Pilot.@@N@@
namespace Jvm.Pilot.@@N@@
open Jvm Jvm.ClassFile Sem Op Lib Jvm.Free Jvm.Stand Jvm.Pilot.@@N@@.Jvm.D
/-! MADE BY PROGRAM (witnessworld.py) out of the Statement's table words and the real class files: 13 classes; the members and pool entries that the words name. The judged class is class 1, her method 2. -/
namespace start1
open Jvm.ClassFile
def u (s : String) : CpInfo := .utf8 (stringToUtf16 s)
/-- a pool by its gaps: so many unusable entries, then the entry; so many at the end -/
def gap : Nat → List CpInfo → List CpInfo
  | 0, r => r
  | n + 1, r => .unusable :: gap n r
def poolList (es : List (Nat × CpInfo)) (last : Nat) : List CpInfo := es.foldr (fun e r => gap e.1 (e.2 :: r)) (gap last [])
def pool (es : List (Nat × CpInfo)) (last : Nat) : Array CpInfo := ⟨poolList es last⟩
def fileOf (pool : Array CpInfo) (this : Nat) (attrs : Array Attribute := #[]) (ms : Array MethodInfo := #[]) (fl : Nat := 33) (sup : Nat := 0) (ifs : Array Nat := #[]) (fds : Array FieldInfo := #[]) : ClassFile where
  minorVersion := 0
  majorVersion := 65
  constantPool := pool
  accessFlags := fl
  thisClass := this
  superClass := sup
  interfaces := ifs
  fields := fds
  methods := ms
  attributes := attrs
def plain (name : String) (sup : Option ClassId) : Class where
  name := name
  kind := .ordinary
  loader := none
  accessFlags := 33
  super := sup
  interfaces := #[]
  cf := none
  fields := #[]
  methods := #[]
  instanceTypes := #[]
  staticTypes := #[]
  resolved := #[]
  callSites := []
  init := .initialized
  statics := none
  mirror := none

def pool0 : Array CpInfo := pool [(5, u "<init>"), (0, u "()V"), (1, .class_ 10), (1, u "java/lang/Object")] 113

def k0m0 : Method := { name := "<init>", desc := "()V", sig := { parameters := [], returnType := none }, accessFlags := 1, code := none }
/-- java/lang/Object -/
def k0 : Class := { plain "java/lang/Object" none with
  accessFlags := 33
  interfaces := #[]
  cf := some (fileOf pool0 8 #[] #[{ accessFlags := 1, nameIndex := 5, descriptorIndex := 6, attributes := #[] }] 33 0 #[] #[])
  fields := #[]
  methods := #[k0m0]
  instanceTypes := #[]
  staticTypes := #[]
  resolved := Array.replicate 124 none
  statics := none }

def pool1 : Array CpInfo := pool [(2, .class_ 4), (1, u "java/lang/Object"), (0, u "<init>"), (0, u "()V"), (0, .class_ 8), (0, u "com/example/probematch/probematch/generate/BloodType"), (0, .fieldref 7 10), (0, .nameAndType 11 12), (0, u "O"), (0, u "Lcom/example/probematch/probematch/generate/BloodType;"), (0, .fieldref 7 14), (0, .nameAndType 15 12), (0, u "A"), (0, .fieldref 7 17), (0, .nameAndType 18 12), (0, u "B"), (0, .fieldref 7 20), (0, .nameAndType 21 12), (0, u "AB"), (0, .methodref 23 24), (0, .class_ 25), (0, .nameAndType 26 27), (0, u "com/example/probematch/probematch/generate/BloodTypeCanGiveToPinLaw"), (0, u "antigens"), (0, u "(I)I"), (0, .methodref 7 29), (0, .nameAndType 30 31), (0, u "canGiveTo"), (0, u "(Lcom/example/probematch/probematch/generate/BloodType;)Z"), (3, u "law"), (0, u "(II)Z")] 4

def k1m0 : Method := { name := "<init>", desc := "()V", sig := { parameters := [], returnType := none }, accessFlags := 1, code := none }
def k1c1 : Code := { maxStack := 2, maxLocals := 1, code := method_2_code, exceptionTable := #[], attributes := #[] }
def k1m1 : Method := { name := "antigens", desc := "(I)I", sig := { parameters := [.int], returnType := some .int }, accessFlags := 10, code := some k1c1 }
def k1c2 : Code := { maxStack := 4, maxLocals := 8, code := code, exceptionTable := #[], attributes := #[] }
def k1m2 : Method := { name := "law", desc := "(II)Z", sig := { parameters := [.int, .int], returnType := some .boolean }, accessFlags := 9, code := some k1c2 }
/-- com/example/probematch/probematch/generate/BloodTypeCanGiveToPinLaw -/
def k1 : Class := { plain "com/example/probematch/probematch/generate/BloodTypeCanGiveToPinLaw" (some 0) with
  accessFlags := 49
  interfaces := #[]
  cf := some (fileOf pool1 23 #[] #[{ accessFlags := 1, nameIndex := 5, descriptorIndex := 6, attributes := #[] }, { accessFlags := 10, nameIndex := 26, descriptorIndex := 27, attributes := #[] }, { accessFlags := 9, nameIndex := 35, descriptorIndex := 36, attributes := #[] }] 49 2 #[] #[])
  fields := #[]
  methods := #[k1m0, k1m1, k1m2]
  instanceTypes := #[]
  staticTypes := #[]
  resolved := Array.replicate 41 none
  statics := none }

def pool2 : Array CpInfo := pool [(1, .class_ 2), (0, u "java/lang/constant/Constable"), (0, .class_ 4), (0, u "java/lang/Object")] 6

/-- java/lang/constant/Constable -/
def k2 : Class := { plain "java/lang/constant/Constable" (some 0) with
  accessFlags := 1537
  interfaces := #[]
  cf := some (fileOf pool2 1 #[] #[] 1537 3 #[] #[])
  fields := #[]
  methods := #[]
  instanceTypes := #[]
  staticTypes := #[]
  resolved := Array.replicate 11 none
  statics := none }

def pool3 : Array CpInfo := pool [(1, .class_ 2), (0, u "java/lang/Comparable"), (0, .class_ 4), (0, u "java/lang/Object")] 7

/-- java/lang/Comparable -/
def k3 : Class := { plain "java/lang/Comparable" (some 0) with
  accessFlags := 1537
  interfaces := #[]
  cf := some (fileOf pool3 1 #[] #[] 1537 3 #[] #[])
  fields := #[]
  methods := #[]
  instanceTypes := #[]
  staticTypes := #[]
  resolved := Array.replicate 12 none
  statics := none }

def pool4 : Array CpInfo := pool [(1, .class_ 2), (0, u "java/io/Serializable"), (0, .class_ 4), (0, u "java/lang/Object")] 2

/-- java/io/Serializable -/
def k4 : Class := { plain "java/io/Serializable" (some 0) with
  accessFlags := 1537
  interfaces := #[]
  cf := some (fileOf pool4 1 #[] #[] 1537 3 #[] #[])
  fields := #[]
  methods := #[]
  instanceTypes := #[]
  staticTypes := #[]
  resolved := Array.replicate 7 none
  statics := none }

def pool5 : Array CpInfo := pool [(2, .class_ 4), (1, u "java/lang/Enum"), (0, u "name"), (0, u "Ljava/lang/String;"), (2, u "ordinal"), (0, u "I"), (1, .class_ 14), (1, u "java/lang/Object"), (4, u "hash"), (86, .class_ 108), (1, u "java/lang/Enum$EnumDesc"), (2, .class_ 112), (0, u "java/lang/constant/Constable"), (0, .class_ 114), (0, u "java/lang/Comparable"), (0, .class_ 116), (0, u "java/io/Serializable")] 87

/-- java/lang/Enum -/
def k5 : Class := { plain "java/lang/Enum" (some 0) with
  accessFlags := 1057
  interfaces := #[2, 3, 4]
  cf := some (fileOf pool5 2 #[.nestMembers #[106]] #[] 1057 12 #[111, 113, 115] #[{ accessFlags := 18, nameIndex := 5, descriptorIndex := 6, attributes := #[] }, { accessFlags := 18, nameIndex := 9, descriptorIndex := 10, attributes := #[] }, { accessFlags := 2, nameIndex := 19, descriptorIndex := 10, attributes := #[] }])
  fields := #[{ name := "name", type := (.object "java/lang/String"), accessFlags := 18, slot := 0, constantValue := 0 }, { name := "ordinal", type := .int, accessFlags := 18, slot := 1, constantValue := 0 }, { name := "hash", type := .int, accessFlags := 2, slot := 2, constantValue := 0 }]
  methods := #[]
  instanceTypes := #[(.object "java/lang/String"), .int, .int]
  staticTypes := #[]
  resolved := Array.replicate 204 none
  statics := none }

def pool6 : Array CpInfo := pool [(1, .class_ 2), (0, u "com/example/probematch/probematch/generate/BloodType"), (0, .fieldref 1 4), (0, .nameAndType 5 6), (0, u "O"), (0, u "Lcom/example/probematch/probematch/generate/BloodType;"), (2, u "A"), (2, u "B"), (0, .fieldref 1 14), (0, .nameAndType 15 6), (0, u "AB"), (2, u "$VALUES"), (0, u "[Lcom/example/probematch/probematch/generate/BloodType;"), (6, .class_ 28), (1, u "java/lang/Enum"), (22, u "canGiveTo"), (0, u "(Lcom/example/probematch/probematch/generate/BloodType;)Z")] 5

def k6c0 : Code := { maxStack := 2, maxLocals := 2, code := prog_28_method_4_code, exceptionTable := #[], attributes := #[] }
def k6m0 : Method := { name := "canGiveTo", desc := "(Lcom/example/probematch/probematch/generate/BloodType;)Z", sig := { parameters := [(.object "com/example/probematch/probematch/generate/BloodType")], returnType := some .boolean }, accessFlags := 1, code := some k6c0 }
/-- com/example/probematch/probematch/generate/BloodType -/
def k6 : Class := { plain "com/example/probematch/probematch/generate/BloodType" (some 5) with
  accessFlags := 16433
  interfaces := #[]
  cf := some (fileOf pool6 1 #[] #[{ accessFlags := 1, nameIndex := 51, descriptorIndex := 52, attributes := #[] }] 16433 26 #[] #[{ accessFlags := 16409, nameIndex := 5, descriptorIndex := 6, attributes := #[] }, { accessFlags := 16409, nameIndex := 9, descriptorIndex := 6, attributes := #[] }, { accessFlags := 16409, nameIndex := 12, descriptorIndex := 6, attributes := #[] }, { accessFlags := 16409, nameIndex := 15, descriptorIndex := 6, attributes := #[] }, { accessFlags := 4122, nameIndex := 18, descriptorIndex := 19, attributes := #[] }])
  fields := #[{ name := "O", type := (.object "com/example/probematch/probematch/generate/BloodType"), accessFlags := 16409, slot := 0, constantValue := 0 }, { name := "A", type := (.object "com/example/probematch/probematch/generate/BloodType"), accessFlags := 16409, slot := 1, constantValue := 0 }, { name := "B", type := (.object "com/example/probematch/probematch/generate/BloodType"), accessFlags := 16409, slot := 2, constantValue := 0 }, { name := "AB", type := (.object "com/example/probematch/probematch/generate/BloodType"), accessFlags := 16409, slot := 3, constantValue := 0 }, { name := "$VALUES", type := (.array (.object "com/example/probematch/probematch/generate/BloodType")), accessFlags := 4122, slot := 4, constantValue := 0 }]
  methods := #[k6m0]
  instanceTypes := #[(.object "java/lang/String"), .int, .int]
  staticTypes := #[(.object "com/example/probematch/probematch/generate/BloodType"), (.object "com/example/probematch/probematch/generate/BloodType"), (.object "com/example/probematch/probematch/generate/BloodType"), (.object "com/example/probematch/probematch/generate/BloodType"), (.array (.object "com/example/probematch/probematch/generate/BloodType"))]
  resolved := Array.replicate 58 none
  statics := some 0 }

def pool7 : Array CpInfo := pool [(1, u "java/lang/Cloneable"), (0, .class_ 1), (0, u "java/lang/Object"), (0, .class_ 3)] 3

/-- java/lang/Cloneable -/
def k7 : Class := { plain "java/lang/Cloneable" (some 0) with
  accessFlags := 1537
  interfaces := #[]
  cf := some (fileOf pool7 2 #[] #[] 1537 4 #[] #[])
  fields := #[]
  methods := #[]
  instanceTypes := #[]
  staticTypes := #[]
  resolved := Array.replicate 8 none
  statics := none }

/-- the primitive byte -/
def k8 : Class := { plain "byte" none with kind := .primitive 'B', accessFlags := 0x411 }
/-- [B -/
def k9 : Class := { plain "[B" (some 0) with kind := .array 8 .byte, interfaces := #[7, 4], accessFlags := 1041 }

/-- the primitive int -/
def k10 : Class := { plain "int" none with kind := .primitive 'I', accessFlags := 0x411 }
/-- [I -/
def k11 : Class := { plain "[I" (some 0) with kind := .array 10 .int, interfaces := #[7, 4], accessFlags := 1041 }

/-- [Lcom/example/probematch/probematch/generate/BloodType; -/
def k12 : Class := { plain "[Lcom/example/probematch/probematch/generate/BloodType;" (some 0) with kind := .array 6 (.object "com/example/probematch/probematch/generate/BloodType"), interfaces := #[7, 4], accessFlags := 1041 }

def heap : Heap := #[{ cls := 6, slots := #[.ref 1, .ref 2, .ref 3, .ref 4, .null], vm := .statics 6 },
  { cls := 6, slots := #[.null, .int 0, .int 0], vm := .none },
  { cls := 6, slots := #[.null, .int 1, .int 0], vm := .none },
  { cls := 6, slots := #[.null, .int 2, .int 0], vm := .none },
  { cls := 6, slots := #[.null, .int 3, .int 0], vm := .none }]
def classes : Array Class := #[k0, k1, k2, k3, k4, k5, k6, k7, k8, k9, k10, k11, k12]
def interned : List (Array UInt16 × Addr) := []
def slotsUsed : Nat := 17
def theMethod : MethodId := ⟨1, 2⟩
def args0 : Array Value := #[.int 5, .int 6]
def aboutOver (below : List Frame) : State where
  vm := { classes := classes, interned := interned.toArray }
  heap := heap
  slotsUsed := slotsUsed
  threads := #[{ frames := .invoking theMethod args0 :: below }]
def below0 : List Frame := [.native { method := ⟨0, 0⟩, args := #[] }]
def about1 : State := aboutOver below0
def p0 : Program := .bare "" "" ""
def e0 : Env := launch0.env 0 0 0
theorem w_frames : about1.frames = Frame.invoking theMethod args0 :: below0 := rfl
set_option maxRecDepth 65536 in
theorem w_args : argsFit about1.vm theMethod args0 = true := by decide +kernel
set_option maxRecDepth 65536 in
theorem w_heap : heapFits about1 = true := by decide +kernel
set_option maxRecDepth 65536 in
theorem w_runnable : about1.curStatus? = some .runnable := by decide +kernel
set_option maxRecDepth 65536 in
theorem w_alone : about1.alone = true := by decide +kernel
set_option maxRecDepth 65536 in
theorem w_named : about1.methodNamed? x = some theMethod := by decide +kernel
set_option maxRecDepth 65536 in
theorem w_hears : about1.hears theMethod below0 = true := by decide +kernel
set_option maxRecDepth 65536 in
theorem w_ripe : about1.ripe theMethod args0 below0 = true := by decide +kernel
theorem w_running : about1.status = .running := rfl
set_option maxRecDepth 65536 in
theorem w_room : about1.hasRoom e0.platform room_1 = true :=
  launch0.hasRoom_least _ room_1 (by decide +kernel) (by decide +kernel) (by decide +kernel) (by decide +kernel) (by decide +kernel) (by decide +kernel)
theorem allAtoms_all (ts : List Jvm.Cond) (a : Array Jvm.Value) (st : Jvm.State) : (allAtoms ts).before a st = ts.all (fun c => c.before a st) := by
  induction ts with
  | nil => rfl
  | cons c t ih =>
    show (Jvm.Cond.and c (allAtoms t)).before a st = _
    rw [Jvm.Cond.before_and, ih, List.all_cons]
def words1 : List Jvm.Cond := Jvm.Cond.code x code maxLocals ret :: tables_1
/-- a 'code' word, met by the world's own term for the bytes: nothing is compared byte by byte -/
theorem code_word {y : MethodName} {bytes : ByteArray} {mx : Nat} {rt : Option FieldType} {a : Array Value} {s : State} {m : MethodId} {meth : Method} {c : Code} (h1 : s.methodNamed? y = some m) (h2 : s.vm.method? m = some meth) (h3 : meth.code = some c) (h4 : c.code = bytes)
    (h5 : (c.maxLocals == mx && c.exceptionTable.isEmpty && decide (c.maxStack ≤ mostOperands) && decide (meth.sig.returnType = rt) && !meth.locks && decide (parseMethodDescriptor y.desc = some meth.sig)) = true) : (Jvm.Cond.code y bytes mx rt).before a s = true := by
  simp only [Bool.and_eq_true, beq_iff_eq, Bool.not_eq_true', decide_eq_true_eq] at h5
  obtain ⟨⟨⟨⟨⟨g1, g2⟩, g3⟩, g4⟩, g5⟩, g6⟩ := h5
  simp [Cond.before, Cond.holds, Cond.value, h1, h2, h3, h4, g1, g2, g3, g4, g5, g6]
def isCode : Jvm.Cond → Bool
  | .code _ _ _ _ => true
  | _ => false
theorem all_split {L : List Jvm.Cond} {P : Jvm.Cond → Bool} (h1 : L.all (fun c => isCode c || P c) = true) (h2 : ∀ c ∈ L.filter isCode, P c = true) : L.all P = true := by
  refine List.all_eq_true.mpr fun c hc => ?_
  have h := List.all_eq_true.mp h1 c hc
  rcases Bool.eq_false_or_eq_true (isCode c) with hi | hi
  · exact h2 c (List.mem_filter.mpr ⟨hc, hi⟩)
  · simpa [hi] using h
set_option maxRecDepth 65536 in
theorem w_c0 : (Jvm.Cond.code x code maxLocals ret).before args0 about1 = true := code_word (m := ⟨1, 2⟩) (meth := k1m2) (c := k1c2) (by decide +kernel) rfl rfl rfl (by decide +kernel)
set_option maxRecDepth 65536 in
theorem w_c1 : (Jvm.Cond.code ({ cls := "com/example/probematch/probematch/generate/BloodTypeCanGiveToPinLaw", name := "antigens", desc := "(I)I" } : Jvm.MethodName) method_2_code (1 : Nat) (Option.some Jvm.ClassFile.FieldType.int)).before args0 about1 = true := code_word (m := ⟨1, 1⟩) (meth := k1m1) (c := k1c1) (by decide +kernel) rfl rfl rfl (by decide +kernel)
set_option maxRecDepth 65536 in
theorem w_c2 : (Jvm.Cond.code ({ cls := "com/example/probematch/probematch/generate/BloodType", name := "canGiveTo", desc := "(Lcom/example/probematch/probematch/generate/BloodType;)Z" } : Jvm.MethodName) prog_28_method_4_code (2 : Nat) (Option.some Jvm.ClassFile.FieldType.boolean)).before args0 about1 = true := code_word (m := ⟨6, 0⟩) (meth := k6m0) (c := k6c0) (by decide +kernel) rfl rfl rfl (by decide +kernel)
def codes1 : List Jvm.Cond := [Jvm.Cond.code x code maxLocals ret, Jvm.Cond.code ({ cls := "com/example/probematch/probematch/generate/BloodTypeCanGiveToPinLaw", name := "antigens", desc := "(I)I" } : Jvm.MethodName) method_2_code (1 : Nat) (Option.some Jvm.ClassFile.FieldType.int), Jvm.Cond.code ({ cls := "com/example/probematch/probematch/generate/BloodType", name := "canGiveTo", desc := "(Lcom/example/probematch/probematch/generate/BloodType;)Z" } : Jvm.MethodName) prog_28_method_4_code (2 : Nat) (Option.some Jvm.ClassFile.FieldType.boolean)]
set_option maxRecDepth 65536 in
theorem codes_eq : words1.filter isCode = codes1 := rfl
theorem w_codes : ∀ c ∈ words1.filter isCode, c.before args0 about1 = true := by
  rw [codes_eq]
  intro c hc
  simp only [codes1, List.mem_cons, List.not_mem_nil, or_false] at hc
  rcases hc with rfl | rfl | rfl
  · exact w_c0
  · exact w_c1
  · exact w_c2
set_option maxRecDepth 65536 in
theorem w_t1 : words1.all (fun c => isCode c || c.before args0 about1) = true := by decide +kernel
theorem w_tables : (allAtoms (Jvm.Cond.code x code maxLocals ret :: tables_1)).before args0 about1 = true := by
  rw [allAtoms_all]
  show words1.all (fun c => c.before args0 about1) = true
  refine all_split ?_ w_codes
  rw [w_t1]
set_option maxRecDepth 65536 in
theorem w_case : (Jvm.Cond.and given_1 narrow_1).before args0 about1 = true := by decide +kernel
theorem w_applies : (headSpec (Jvm.Cond.code x code maxLocals ret :: tables_1) room_1).applies x e0.platform about1 = true :=
  (Spec.applies_iff w_frames).mpr ⟨w_running, w_runnable, w_alone, w_named, w_hears, w_ripe, w_room, w_tables⟩
theorem atStart : AtStart classFile x code maxLocals ret World_1 tables_1 room_1 Calls_1 rest_1 Pre_1 launch0 p0 e0 about1 theMethod args0 below0 :=
  ⟨lists_1, trivial, launch0.admits_env _ _ _, launch0.least_env, fairChoices_fair.cas, fairChoices_fair.clock, w_frames, w_args, w_heap, w_applies, trivial, trivial, w_case⟩
end start1
theorem witness_1 : WitnessClaimed_1 := ⟨start1.p0, start1.e0, start1.about1, start1.theMethod, start1.args0, start1.below0, start1.atStart⟩
end Jvm.Pilot.@@N@@
