import JvmDerived
import JvmDerived.Pilot.@@N@@Statement
import JvmDerived.Pilot.@@N@@Code
set_option linter.unusedVariables false
set_option linter.unusedSimpArgs false
namespace Jvm.RoadKit
open Sem ClassFile Op Lib Jvm.Stand Jvm.Free Jvm.LawKit
section New
variable {p : Program} {l : Launch} {e : Env} {R : Room} {s : State} {m : MethodId} {args : Array Value} {below : List Frame} {meth : Method} {c : Code} {T : State} {locs : List Loc} {cells slots : Nat}
theorem retI (X : Stand p l e R s m args below meth c T locs cells slots) (hx : p.tables.exec = Jvm.exec) {pc : Nat} {Ls : Array Slot} {z : Int32} {rest : List Value} (hret : meth.sig.returnType = some .int) (hd : decode c.code pc = .ok (.ireturn, 1)) {fs : List Frame}
    (hl : ∀ (f : JFrame) (acts : List Action), f.method = m → f.locked = none → f.entered = [] → (doReturn e (T.setTop f) acts (some (.int z))).1 = T.setFrames fs) : Steps p.tables e below (T.setTop (mkF m pc Ls (.int z :: rest))) (T.setFrames fs) := by
  have hm' : T.vm.method? m = some meth := X.method'
  have hn : narrow .int (.int z) = .int z := rfl
  show Steps p.tables e below (T.setTop { method := m, pc := pc, locals := Ls, stack := _ :: rest, locked := none }) _
  jvm_step X.here [X.here.top, hx, hd, hm', hret, hn]
  first | (intro acts; rw [hl _ acts rfl rfl rfl]) | rw [hl _ _ rfl rfl rfl]
  exact Steps.refl _
end New
end Jvm.RoadKit
namespace Jvm.Pilot.@@N@@
open Jvm Jvm.ClassFile Sem Op Lib Jvm.Free Jvm.Stand Jvm.LawKit Jvm.RoadKit Bundle Jvm.Pilot.@@N@@.Jvm.D

theorem own_and_bd (x m : Int32) (hm : 0 ≤ m.toInt) : 0 ≤ (x &&& m).toInt ∧ (x &&& m).toInt ≤ m.toInt := by
  have e : (x &&& m).toBitVec.toNat = x.toBitVec.toNat &&& m.toBitVec.toNat := by
    show (x.toBitVec &&& m.toBitVec).toNat = _
    rw [BitVec.toNat_and]
  have l1 : x.toBitVec.toNat &&& m.toBitVec.toNat ≤ m.toBitVec.toNat := Nat.and_le_right
  change 0 ≤ m.toBitVec.toInt at hm
  show 0 ≤ (x &&& m).toBitVec.toInt ∧ (x &&& m).toBitVec.toInt ≤ m.toBitVec.toInt
  rw [BitVec.toInt_eq_toNat_cond] at hm ⊢
  rw [BitVec.toInt_eq_toNat_cond, e]
  have := m.toBitVec.isLt
  split at hm <;> split <;> (try split) <;> omega
theorem own_int_of {x : Int32} {k : Int} (h : x.toInt = k) : x = Int32.ofInt k := by
  rw [← h]; exact (Int32.ofInt_toInt x).symm
theorem own_rem_bd (x y : Int32) (hx : 0 ≤ x.toInt) (hy : 0 < y.toInt) : 0 ≤ (x % y).toInt ∧ (x % y).toInt < y.toInt := by
  have e : (x % y).toInt = x.toInt.tmod y.toInt := by
    first | exact Int32.toInt_mod x y | exact Int32.toInt_srem x y | simp
  rw [e]
  exact ⟨Int.tmod_nonneg _ hx, Int.tmod_lt_of_pos _ hy⟩
theorem own_len {args : Array Value} {s : State} {t : Term} {a : Addr} {cl : Cell} {ty : FieldType} {n : Int32} (ht : t.eval args s none [] s = some (.ref a)) (A : Arr s s.heap a cl ty) (h : (Jvm.Cond.eq (Term.length t) (Term.int n)).value args s none s [] = some true) : cl.slots.size < 2 ^ 31 ∧ cl.slots.size.toInt32 = n := by
  have hA : s.arrayAt? a = some cl := Arr.fin (Vm.Alike.refl _) A
  by_cases q : cl.slots.size < 2 ^ 31
  · refine ⟨q, ?_⟩
    have e := len_f ht hA q
    have e2 : (Term.int n).eval args s none [] s = some (.int n) := rfl
    simp only [Jvm.Cond.value, e, e2] at h
    simpa using h
  · exfalso
    have e : (Term.length t).eval args s none [] s = none := by simp [Term.eval, ht, hA, q]
    simp [Jvm.Cond.value, e] at h
theorem own_elem {args : Array Value} {s : State} {t u : Term} {a : Addr} {cl : Cell} {ty : FieldType} {j : Int32} {i : Nat} {v : Value} (ht : t.eval args s none [] s = some (.ref a)) (A : Arr s s.heap a cl ty) (h : (Jvm.Cond.eq (Term.elem t (Term.int j)) u).value args s none s [] = some true) (hu : u.eval args s none [] s = some v) (hi : j.toNatClampNeg = i) : cl.slots[i]? = some v := by
  subst hi
  obtain ⟨x, y, e1, e2, -, -⟩ := cmp_v (Or.inl h)
  cases hu.symm.trans e2
  have q := elem_in e1 ht (Term.int_eval j) A.1
  simp only [Jvm.Cond.value, e1, hu] at h
  rw [q.2]
  cases x <;> cases v <;> simp_all
theorem own_hide {p : Program} {l : Launch} {e : Env} {R : Room} {s : State} {m : MethodId} {args : Array Value} {below : List Frame} {meth : Method} {c : Code} {T : State} {locs : List Loc} {cells slots k : Nat} (X : Stand p l e R s m args below meth c T locs cells slots) (N : Fr k locs) : ∃ L, Stand p l e R s m args below meth c T L cells slots ∧ Fr k L := ⟨_, X, N⟩
theorem own_sta_keep0 {Z : State} {h h' : Heap} {C n d : String} {v : Value} (F : Sta Z h C n d v) (K : Keep h h' []) : Sta Z h' C n d v := by
  obtain ⟨cf, i, k, f, st, cell, h1, h2, h3, h4, h5, r⟩ := F
  exact ⟨cf, i, k, f, st, cell, h1, h2, h3, h4, K.2.1 st cell h5 nin0, r⟩
theorem own_fld_int {args : Array Value} {s : State} {t : Term} {C n d : String} {k : Int32} {x : Addr} (ht : t.eval args s none [] s = some (.ref x)) (h : (Jvm.Cond.eq (Term.field t C n d) (Term.int k)).value args s none s [] = some true) : Fld s s.heap x C n d (.int k) := by
  obtain ⟨v, w, e1, e2, -, -⟩ := cmp_v (Or.inl h)
  rw [fld_at ht] at e1
  have e2' : some (Value.int k) = some w := e2
  cases e2'
  have h' := h
  simp only [Jvm.Cond.value, fld_at ht, e1, e2] at h'
  cases v <;> simp at h'
  subst h'
  exact Fld.start e1
theorem own_fld_ref {args : Array Value} {s : State} {t u : Term} {C n d : String} {x y : Addr} (ht : t.eval args s none [] s = some (.ref x)) (hu : u.eval args s none [] s = some (.ref y)) (h : (Jvm.Cond.eq (Term.field t C n d) u).value args s none s [] = some true) : Fld s s.heap x C n d (.ref y) := by
  obtain ⟨v, w, e1, e2, -, -⟩ := cmp_v (Or.inl h)
  rw [fld_at ht] at e1
  cases hu.symm.trans e2
  have h' := h
  simp only [Jvm.Cond.value, fld_at ht, e1, hu] at h'
  cases v <;> simp at h'
  subst h'
  exact Fld.start e1
theorem own_idx (x : Int32) : (x &&& (31 : Int32)) = (0 : Int32) ∨ (x &&& (31 : Int32)) = (1 : Int32) ∨ (x &&& (31 : Int32)) = (2 : Int32) ∨ (x &&& (31 : Int32)) = (3 : Int32) ∨ (x &&& (31 : Int32)) = (4 : Int32) ∨ (x &&& (31 : Int32)) = (5 : Int32) ∨ (x &&& (31 : Int32)) = (6 : Int32) ∨ (x &&& (31 : Int32)) = (7 : Int32) ∨ (x &&& (31 : Int32)) = (8 : Int32) ∨ (x &&& (31 : Int32)) = (9 : Int32) ∨ (x &&& (31 : Int32)) = (10 : Int32) ∨ (x &&& (31 : Int32)) = (11 : Int32) ∨ (x &&& (31 : Int32)) = (12 : Int32) ∨ (x &&& (31 : Int32)) = (13 : Int32) ∨ (x &&& (31 : Int32)) = (14 : Int32) ∨ (x &&& (31 : Int32)) = (15 : Int32) ∨ (x &&& (31 : Int32)) = (16 : Int32) ∨ (x &&& (31 : Int32)) = (17 : Int32) ∨ (x &&& (31 : Int32)) = (18 : Int32) ∨ (x &&& (31 : Int32)) = (19 : Int32) ∨ (x &&& (31 : Int32)) = (20 : Int32) ∨ (x &&& (31 : Int32)) = (21 : Int32) ∨ (x &&& (31 : Int32)) = (22 : Int32) ∨ (x &&& (31 : Int32)) = (23 : Int32) ∨ (x &&& (31 : Int32)) = (24 : Int32) ∨ (x &&& (31 : Int32)) = (25 : Int32) ∨ (x &&& (31 : Int32)) = (26 : Int32) ∨ (x &&& (31 : Int32)) = (27 : Int32) ∨ (x &&& (31 : Int32)) = (28 : Int32) ∨ (x &&& (31 : Int32)) = (29 : Int32) ∨ (x &&& (31 : Int32)) = (30 : Int32) ∨ (x &&& (31 : Int32)) = (31 : Int32) := by
  obtain ⟨a, b⟩ : 0 ≤ ((x &&& (31 : Int32))).toInt ∧ ((x &&& (31 : Int32))).toInt ≤ 31 := own_and_bd x 31 (by decide)
  generalize (x &&& (31 : Int32)) = z at a b ⊢
  have q : z.toInt = 0 ∨ z.toInt = 1 ∨ z.toInt = 2 ∨ z.toInt = 3 ∨ z.toInt = 4 ∨ z.toInt = 5 ∨ z.toInt = 6 ∨ z.toInt = 7 ∨ z.toInt = 8 ∨ z.toInt = 9 ∨ z.toInt = 10 ∨ z.toInt = 11 ∨ z.toInt = 12 ∨ z.toInt = 13 ∨ z.toInt = 14 ∨ z.toInt = 15 ∨ z.toInt = 16 ∨ z.toInt = 17 ∨ z.toInt = 18 ∨ z.toInt = 19 ∨ z.toInt = 20 ∨ z.toInt = 21 ∨ z.toInt = 22 ∨ z.toInt = 23 ∨ z.toInt = 24 ∨ z.toInt = 25 ∨ z.toInt = 26 ∨ z.toInt = 27 ∨ z.toInt = 28 ∨ z.toInt = 29 ∨ z.toInt = 30 ∨ z.toInt = 31 := by omega
  rcases q with q | q | q | q | q | q | q | q | q | q | q | q | q | q | q | q | q | q | q | q | q | q | q | q | q | q | q | q | q | q | q | q
  · exact Or.inl (own_int_of q)
  · exact Or.inr (Or.inl (own_int_of q))
  · exact Or.inr (Or.inr (Or.inl (own_int_of q)))
  · exact Or.inr (Or.inr (Or.inr (Or.inl (own_int_of q))))
  · exact Or.inr (Or.inr (Or.inr (Or.inr (Or.inl (own_int_of q)))))
  · exact Or.inr (Or.inr (Or.inr (Or.inr (Or.inr (Or.inl (own_int_of q))))))
  · exact Or.inr (Or.inr (Or.inr (Or.inr (Or.inr (Or.inr (Or.inl (own_int_of q)))))))
  · exact Or.inr (Or.inr (Or.inr (Or.inr (Or.inr (Or.inr (Or.inr (Or.inl (own_int_of q))))))))
  · exact Or.inr (Or.inr (Or.inr (Or.inr (Or.inr (Or.inr (Or.inr (Or.inr (Or.inl (own_int_of q)))))))))
  · exact Or.inr (Or.inr (Or.inr (Or.inr (Or.inr (Or.inr (Or.inr (Or.inr (Or.inr (Or.inl (own_int_of q))))))))))
  · exact Or.inr (Or.inr (Or.inr (Or.inr (Or.inr (Or.inr (Or.inr (Or.inr (Or.inr (Or.inr (Or.inl (own_int_of q)))))))))))
  · exact Or.inr (Or.inr (Or.inr (Or.inr (Or.inr (Or.inr (Or.inr (Or.inr (Or.inr (Or.inr (Or.inr (Or.inl (own_int_of q))))))))))))
  · exact Or.inr (Or.inr (Or.inr (Or.inr (Or.inr (Or.inr (Or.inr (Or.inr (Or.inr (Or.inr (Or.inr (Or.inr (Or.inl (own_int_of q)))))))))))))
  · exact Or.inr (Or.inr (Or.inr (Or.inr (Or.inr (Or.inr (Or.inr (Or.inr (Or.inr (Or.inr (Or.inr (Or.inr (Or.inr (Or.inl (own_int_of q))))))))))))))
  · exact Or.inr (Or.inr (Or.inr (Or.inr (Or.inr (Or.inr (Or.inr (Or.inr (Or.inr (Or.inr (Or.inr (Or.inr (Or.inr (Or.inr (Or.inl (own_int_of q)))))))))))))))
  · exact Or.inr (Or.inr (Or.inr (Or.inr (Or.inr (Or.inr (Or.inr (Or.inr (Or.inr (Or.inr (Or.inr (Or.inr (Or.inr (Or.inr (Or.inr (Or.inl (own_int_of q))))))))))))))))
  · exact Or.inr (Or.inr (Or.inr (Or.inr (Or.inr (Or.inr (Or.inr (Or.inr (Or.inr (Or.inr (Or.inr (Or.inr (Or.inr (Or.inr (Or.inr (Or.inr (Or.inl (own_int_of q)))))))))))))))))
  · exact Or.inr (Or.inr (Or.inr (Or.inr (Or.inr (Or.inr (Or.inr (Or.inr (Or.inr (Or.inr (Or.inr (Or.inr (Or.inr (Or.inr (Or.inr (Or.inr (Or.inr (Or.inl (own_int_of q))))))))))))))))))
  · exact Or.inr (Or.inr (Or.inr (Or.inr (Or.inr (Or.inr (Or.inr (Or.inr (Or.inr (Or.inr (Or.inr (Or.inr (Or.inr (Or.inr (Or.inr (Or.inr (Or.inr (Or.inr (Or.inl (own_int_of q)))))))))))))))))))
  · exact Or.inr (Or.inr (Or.inr (Or.inr (Or.inr (Or.inr (Or.inr (Or.inr (Or.inr (Or.inr (Or.inr (Or.inr (Or.inr (Or.inr (Or.inr (Or.inr (Or.inr (Or.inr (Or.inr (Or.inl (own_int_of q))))))))))))))))))))
  · exact Or.inr (Or.inr (Or.inr (Or.inr (Or.inr (Or.inr (Or.inr (Or.inr (Or.inr (Or.inr (Or.inr (Or.inr (Or.inr (Or.inr (Or.inr (Or.inr (Or.inr (Or.inr (Or.inr (Or.inr (Or.inl (own_int_of q)))))))))))))))))))))
  · exact Or.inr (Or.inr (Or.inr (Or.inr (Or.inr (Or.inr (Or.inr (Or.inr (Or.inr (Or.inr (Or.inr (Or.inr (Or.inr (Or.inr (Or.inr (Or.inr (Or.inr (Or.inr (Or.inr (Or.inr (Or.inr (Or.inl (own_int_of q))))))))))))))))))))))
  · exact Or.inr (Or.inr (Or.inr (Or.inr (Or.inr (Or.inr (Or.inr (Or.inr (Or.inr (Or.inr (Or.inr (Or.inr (Or.inr (Or.inr (Or.inr (Or.inr (Or.inr (Or.inr (Or.inr (Or.inr (Or.inr (Or.inr (Or.inl (own_int_of q)))))))))))))))))))))))
  · exact Or.inr (Or.inr (Or.inr (Or.inr (Or.inr (Or.inr (Or.inr (Or.inr (Or.inr (Or.inr (Or.inr (Or.inr (Or.inr (Or.inr (Or.inr (Or.inr (Or.inr (Or.inr (Or.inr (Or.inr (Or.inr (Or.inr (Or.inr (Or.inl (own_int_of q))))))))))))))))))))))))
  · exact Or.inr (Or.inr (Or.inr (Or.inr (Or.inr (Or.inr (Or.inr (Or.inr (Or.inr (Or.inr (Or.inr (Or.inr (Or.inr (Or.inr (Or.inr (Or.inr (Or.inr (Or.inr (Or.inr (Or.inr (Or.inr (Or.inr (Or.inr (Or.inr (Or.inl (own_int_of q)))))))))))))))))))))))))
  · exact Or.inr (Or.inr (Or.inr (Or.inr (Or.inr (Or.inr (Or.inr (Or.inr (Or.inr (Or.inr (Or.inr (Or.inr (Or.inr (Or.inr (Or.inr (Or.inr (Or.inr (Or.inr (Or.inr (Or.inr (Or.inr (Or.inr (Or.inr (Or.inr (Or.inr (Or.inl (own_int_of q))))))))))))))))))))))))))
  · exact Or.inr (Or.inr (Or.inr (Or.inr (Or.inr (Or.inr (Or.inr (Or.inr (Or.inr (Or.inr (Or.inr (Or.inr (Or.inr (Or.inr (Or.inr (Or.inr (Or.inr (Or.inr (Or.inr (Or.inr (Or.inr (Or.inr (Or.inr (Or.inr (Or.inr (Or.inr (Or.inl (own_int_of q)))))))))))))))))))))))))))
  · exact Or.inr (Or.inr (Or.inr (Or.inr (Or.inr (Or.inr (Or.inr (Or.inr (Or.inr (Or.inr (Or.inr (Or.inr (Or.inr (Or.inr (Or.inr (Or.inr (Or.inr (Or.inr (Or.inr (Or.inr (Or.inr (Or.inr (Or.inr (Or.inr (Or.inr (Or.inr (Or.inr (Or.inl (own_int_of q))))))))))))))))))))))))))))
  · exact Or.inr (Or.inr (Or.inr (Or.inr (Or.inr (Or.inr (Or.inr (Or.inr (Or.inr (Or.inr (Or.inr (Or.inr (Or.inr (Or.inr (Or.inr (Or.inr (Or.inr (Or.inr (Or.inr (Or.inr (Or.inr (Or.inr (Or.inr (Or.inr (Or.inr (Or.inr (Or.inr (Or.inr (Or.inl (own_int_of q)))))))))))))))))))))))))))))
  · exact Or.inr (Or.inr (Or.inr (Or.inr (Or.inr (Or.inr (Or.inr (Or.inr (Or.inr (Or.inr (Or.inr (Or.inr (Or.inr (Or.inr (Or.inr (Or.inr (Or.inr (Or.inr (Or.inr (Or.inr (Or.inr (Or.inr (Or.inr (Or.inr (Or.inr (Or.inr (Or.inr (Or.inr (Or.inr (Or.inl (own_int_of q))))))))))))))))))))))))))))))
  · exact Or.inr (Or.inr (Or.inr (Or.inr (Or.inr (Or.inr (Or.inr (Or.inr (Or.inr (Or.inr (Or.inr (Or.inr (Or.inr (Or.inr (Or.inr (Or.inr (Or.inr (Or.inr (Or.inr (Or.inr (Or.inr (Or.inr (Or.inr (Or.inr (Or.inr (Or.inr (Or.inr (Or.inr (Or.inr (Or.inr (Or.inl (own_int_of q)))))))))))))))))))))))))))))))
  · exact Or.inr (Or.inr (Or.inr (Or.inr (Or.inr (Or.inr (Or.inr (Or.inr (Or.inr (Or.inr (Or.inr (Or.inr (Or.inr (Or.inr (Or.inr (Or.inr (Or.inr (Or.inr (Or.inr (Or.inr (Or.inr (Or.inr (Or.inr (Or.inr (Or.inr (Or.inr (Or.inr (Or.inr (Or.inr (Or.inr (Or.inr (own_int_of q)))))))))))))))))))))))))))))))
def own_fc (z : Int32) : Int32 := if z = 503 then 1 else 0
theorem own_pn_1 : plainName "com/example/hopguard/hopguard/core/Reason" = true := by first | (simp [plainName, overriddenIn]; done) | decide +kernel
theorem d1_0 : decode prog_7_method_6_code 0 = .ok (.aload_n 0, 1) := by decide +kernel
theorem d1_1 : decode prog_7_method_6_code 1 = .ok (.getfield 119, 3) := by decide +kernel
theorem d1_4 : decode prog_7_method_6_code 4 = .ok (.sipush 503, 3) := by decide +kernel
theorem d1_7 : decode prog_7_method_6_code 7 = .ok (.if_icmp .ne 7, 3) := by decide +kernel
theorem d1_10 : decode prog_7_method_6_code 10 = .ok (.iconst 1, 1) := by decide +kernel
theorem d1_11 : decode prog_7_method_6_code 11 = .ok (.goto 4, 3) := by decide +kernel
theorem d1_15 : decode prog_7_method_6_code 15 = .ok (.ireturn, 1) := by decide +kernel
theorem d1_14 : decode prog_7_method_6_code 14 = .ok (.iconst 0, 1) := by decide +kernel
def own_rmF_Q (Z : State) (a : Addr) (z : Int32) (h0 : Heap) (n0 : Nat) (v : Option Value) (h : Heap) (L : List Loc) : Prop := v = some (.int (own_fc z)) ∧ Fr n0 L ∧ h = h0
set_option maxRecDepth 65536 in
set_option maxHeartbeats 40000000 in
theorem own_rmF (l : Launch) (Z : State) (a0 : Array Value) (hw : ∀ d ∈ tables_1, d.before a0 Z = true) (ws : List Jvm.Cond) (a : Addr) (z : Int32) (h0 : Heap) (n0 : Nat) (Z0 : n0 ≤ h0.size) (F : Fld Z h0 a "com/example/hopguard/hopguard/core/Reason" "status" "I" (.int z)) :
    MetFree l (⟨"com/example/hopguard/hopguard/core/Reason", "failsClosed", "()Z"⟩ : MethodName) (head1 (Jvm.Cond.code (⟨"com/example/hopguard/hopguard/core/Reason", "failsClosed", "()Z"⟩ : MethodName) prog_7_method_6_code 1 (some .boolean) :: ws) ({ frames := 0, cells := 0, slots := 0, locals := 0 } : Room)) (fun aa UU => aa = #[(.ref a)] ∧ Z.Warmed39 UU.vm ∧ UU.heap = h0) (fun _ _ _ _ _ => True) (fun _ UU oo UU' => ∃ vv LL, oo = .returned vv ∧ own_rmF_Q Z a z h0 n0 vv UU'.heap LL ∧ FrameEnd UU oo UU' LL ({ frames := 0, cells := 0, slots := 0, locals := 0 } : Room).cells ({ frames := 0, cells := 0, slots := 0, locals := 0 } : Room).slots) := by
  refine MetFree.of_bodySF (plainFor_of_name own_pn_1) hisR ?_
  intro p e s m args below meth cc s₁ Bd hml0 hP hK
  obtain ⟨rfl, hZ, hh⟩ := hP
  have hx := Bd.exec
  have hby := Bd.bytes
  have hml : cc.maxLocals = 1 := hml0
  have hown : s.vm.findClass "com/example/hopguard/hopguard/core/Reason" = some m.cls := findClass_of_methodNamed Bd.named
  have hnm := (name_of_methodNamed Bd.named Bd.method).1
  have X0 : Stand p l e ({ frames := 0, cells := 0, slots := 0, locals := 0 } : Room) s m #[(.ref a)] below meth cc s₁ [] 0 0 := Stand.of_body Bd
  have e0 : s₁.heap = h0 := by rw [← hh, Bd.state]; rfl
  have N0 := Fr.nil n0
  have k0 : ∀ tt, Steps p.tables e below (s₁.setTop (mkF m 0 #[.val (.ref a)] [])) tt → Steps p.tables e below (s₁.setTop (entryFrame m #[(.ref a)] 1)) tt := fun tt kk => castTop (by first | (simp [entryFrame, mkF, argsToLocals, Value.category]; done) | rfl) kk
  obtain ⟨T1, X1, e1, st1⟩ := getF X0 hx hZ hown (host := "") (Or.inl (hw _ (List.mem_of_getElem? (i := 73) rfl))) Via.refl e0 F (g := (mkF m 1 #[.val (.ref a)] [(.ref a)])) rfl rfl (hb hby d1_1)
  have k2 : ∀ tt, Steps p.tables e below (T1.setTop (mkF m 7 #[.val (.ref a)] [(.int (503 : Int32)), (.int z)])) tt → Steps p.tables e below (s₁.setTop (entryFrame m #[(.ref a)] 1)) tt := by
    intro tt kk
    refine k0 tt ?_
    show Steps p.tables e below (s₁.setTop (mkF m 0 #[.val (.ref a)] [])) tt
    refine XS.aloadN X0.here hx rfl (hb hby d1_0) rfl rfl ?_
    show Steps p.tables e below (s₁.setTop (mkF m 1 #[.val (.ref a)] [(.ref a)])) tt
    refine st1 _ ?_
    show Steps p.tables e below (T1.setTop (mkF m 4 #[.val (.ref a)] [(.int z)])) tt
    refine XS.sipush X1.here hx rfl (hb hby d1_4) ?_
    exact kk
  by_cases c7_3 : z = (503 : Int32)
  · have k4 : ∀ tt, Steps p.tables e below (T1.setTop (mkF m 15 #[.val (.ref a)] [(.int (1 : Int32))])) tt → Steps p.tables e below (s₁.setTop (entryFrame m #[(.ref a)] 1)) tt := by
      intro tt kk
      refine k2 tt ?_
      show Steps p.tables e below (T1.setTop (mkF m 7 #[.val (.ref a)] [(.int (503 : Int32)), (.int z)])) tt
      refine XS.icmpNo X1.here hx rfl (hb hby d1_7) rfl (teq (c7_3 : z = (503 : Int32))).2 ?_
      show Steps p.tables e below (T1.setTop (mkF m 10 #[.val (.ref a)] [])) tt
      refine XS.iconst X1.here hx rfl (hb hby d1_10) ?_
      show Steps p.tables e below (T1.setTop (mkF m 11 #[.val (.ref a)] [(.int (1 : Int32))])) tt
      refine XS.goto X1.here hx rfl (pc0 := 11) (pc' := 15) rfl (hb hby d1_11) (by decide) (by decide) ?_
      exact kk
    obtain ⟨fs, hr, hrun, hended, hW, hsame⟩ := X1.leave (v := some (.int (1 : Int32))) (fun hq => by rw [Bd.returns] at hq; cases hq)
    refine ⟨_, _, k4 _ ?_, hrun, hended, _, _, rfl, ?_, ⟨_, rfl⟩, hW, hsame.mono (by decide) (by decide)⟩
    · show Steps p.tables e below (T1.setTop (mkF m 15 #[.val (.ref a)] [(.int (1 : Int32))])) _
      exact retN X1 hx (t := .boolean) Bd.returns (by simp) (hb hby d1_15) hr
    · show (fun (v : Option Value) (h : Heap) (L : List Loc) => v = some (.int (own_fc z)) ∧ Fr n0 L ∧ h = h0) _ T1.heap _
      rw [e1]
      dsimp only
      refine ⟨?_, N0, rfl⟩
      simp [own_fc, c7_3]
  · have k5 : ∀ tt, Steps p.tables e below (T1.setTop (mkF m 15 #[.val (.ref a)] [(.int (0 : Int32))])) tt → Steps p.tables e below (s₁.setTop (entryFrame m #[(.ref a)] 1)) tt := by
      intro tt kk
      refine k2 tt ?_
      show Steps p.tables e below (T1.setTop (mkF m 7 #[.val (.ref a)] [(.int (503 : Int32)), (.int z)])) tt
      refine XS.icmpYes X1.here hx rfl (pc0 := 7) (pc' := 14) rfl (hb hby d1_7) rfl (feq (c7_3 : ¬ (z = (503 : Int32)))).2 (by decide) (by decide) ?_
      show Steps p.tables e below (T1.setTop (mkF m 14 #[.val (.ref a)] [])) tt
      refine XS.iconst X1.here hx rfl (hb hby d1_14) ?_
      exact kk
    obtain ⟨fs, hr, hrun, hended, hW, hsame⟩ := X1.leave (v := some (.int (0 : Int32))) (fun hq => by rw [Bd.returns] at hq; cases hq)
    refine ⟨_, _, k5 _ ?_, hrun, hended, _, _, rfl, ?_, ⟨_, rfl⟩, hW, hsame.mono (by decide) (by decide)⟩
    · show Steps p.tables e below (T1.setTop (mkF m 15 #[.val (.ref a)] [(.int (0 : Int32))])) _
      exact retN X1 hx (t := .boolean) Bd.returns (by simp) (hb hby d1_15) hr
    · show (fun (v : Option Value) (h : Heap) (L : List Loc) => v = some (.int (own_fc z)) ∧ Fr n0 L ∧ h = h0) _ T1.heap _
      rw [e1]
      dsimp only
      refine ⟨?_, N0, rfl⟩
      simp [own_fc, c7_3]
theorem own_pn_2 : plainName "com/example/hopguard/hopguard/core/Reason" = true := by first | (simp [plainName, overriddenIn]; done) | decide +kernel
theorem d2_0 : decode prog_7_method_5_code 0 = .ok (.aload_n 0, 1) := by decide +kernel
theorem d2_1 : decode prog_7_method_5_code 1 = .ok (.getfield 119, 3) := by decide +kernel
theorem d2_4 : decode prog_7_method_5_code 4 = .ok (.ireturn, 1) := by decide +kernel
def own_rmS_Q (Z : State) (a : Addr) (z : Int32) (h0 : Heap) (n0 : Nat) (v : Option Value) (h : Heap) (L : List Loc) : Prop := v = some (.int z) ∧ Fr n0 L ∧ h = h0
set_option maxRecDepth 65536 in
set_option maxHeartbeats 40000000 in
theorem own_rmS (l : Launch) (Z : State) (a0 : Array Value) (hw : ∀ d ∈ tables_1, d.before a0 Z = true) (ws : List Jvm.Cond) (a : Addr) (z : Int32) (h0 : Heap) (n0 : Nat) (Z0 : n0 ≤ h0.size) (F : Fld Z h0 a "com/example/hopguard/hopguard/core/Reason" "status" "I" (.int z)) :
    MetFree l (⟨"com/example/hopguard/hopguard/core/Reason", "status", "()I"⟩ : MethodName) (head1 (Jvm.Cond.code (⟨"com/example/hopguard/hopguard/core/Reason", "status", "()I"⟩ : MethodName) prog_7_method_5_code 1 (some .int) :: ws) ({ frames := 0, cells := 0, slots := 0, locals := 0 } : Room)) (fun aa UU => aa = #[(.ref a)] ∧ Z.Warmed39 UU.vm ∧ UU.heap = h0) (fun _ _ _ _ _ => True) (fun _ UU oo UU' => ∃ vv LL, oo = .returned vv ∧ own_rmS_Q Z a z h0 n0 vv UU'.heap LL ∧ FrameEnd UU oo UU' LL ({ frames := 0, cells := 0, slots := 0, locals := 0 } : Room).cells ({ frames := 0, cells := 0, slots := 0, locals := 0 } : Room).slots) := by
  refine MetFree.of_bodySF (plainFor_of_name own_pn_2) hisR ?_
  intro p e s m args below meth cc s₁ Bd hml0 hP hK
  obtain ⟨rfl, hZ, hh⟩ := hP
  have hx := Bd.exec
  have hby := Bd.bytes
  have hml : cc.maxLocals = 1 := hml0
  have hown : s.vm.findClass "com/example/hopguard/hopguard/core/Reason" = some m.cls := findClass_of_methodNamed Bd.named
  have hnm := (name_of_methodNamed Bd.named Bd.method).1
  have X0 : Stand p l e ({ frames := 0, cells := 0, slots := 0, locals := 0 } : Room) s m #[(.ref a)] below meth cc s₁ [] 0 0 := Stand.of_body Bd
  have e0 : s₁.heap = h0 := by rw [← hh, Bd.state]; rfl
  have N0 := Fr.nil n0
  have k0 : ∀ tt, Steps p.tables e below (s₁.setTop (mkF m 0 #[.val (.ref a)] [])) tt → Steps p.tables e below (s₁.setTop (entryFrame m #[(.ref a)] 1)) tt := fun tt kk => castTop (by first | (simp [entryFrame, mkF, argsToLocals, Value.category]; done) | rfl) kk
  obtain ⟨T1, X1, e1, st1⟩ := getF X0 hx hZ hown (host := "") (Or.inl (hw _ (List.mem_of_getElem? (i := 73) rfl))) Via.refl e0 F (g := (mkF m 1 #[.val (.ref a)] [(.ref a)])) rfl rfl (hb hby d2_1)
  have k2 : ∀ tt, Steps p.tables e below (T1.setTop (mkF m 4 #[.val (.ref a)] [(.int z)])) tt → Steps p.tables e below (s₁.setTop (entryFrame m #[(.ref a)] 1)) tt := by
    intro tt kk
    refine k0 tt ?_
    show Steps p.tables e below (s₁.setTop (mkF m 0 #[.val (.ref a)] [])) tt
    refine XS.aloadN X0.here hx rfl (hb hby d2_0) rfl rfl ?_
    show Steps p.tables e below (s₁.setTop (mkF m 1 #[.val (.ref a)] [(.ref a)])) tt
    refine st1 _ ?_
    exact kk
  obtain ⟨fs, hr, hrun, hended, hW, hsame⟩ := X1.leave (v := some (.int z)) (fun hq => by rw [Bd.returns] at hq; cases hq)
  refine ⟨_, _, k2 _ ?_, hrun, hended, _, _, rfl, ?_, ⟨_, rfl⟩, hW, hsame.mono (by decide) (by decide)⟩
  · show Steps p.tables e below (T1.setTop (mkF m 4 #[.val (.ref a)] [(.int z)])) _
    exact retI X1 hx Bd.returns (hb hby d2_4) hr
  · show (fun (v : Option Value) (h : Heap) (L : List Loc) => v = some (.int z) ∧ Fr n0 L ∧ h = h0) _ T1.heap _
    rw [e1]
    dsimp only
    exact ⟨rfl, N0, rfl⟩
def own_HS (Z : State) (h0 : Heap) (w0 w1 w2 w3 w4 w5 w6 w7 w8 w9 w10 w11 w12 w13 w14 w15 w16 w17 w18 w19 w20 w21 w22 w23 w24 w25 w26 w27 w28 w29 w30 w31 : Addr) : Prop := Sta Z h0 "com/example/hopguard/hopguard/core/Reason" "ALLOWED" "Lcom/example/hopguard/hopguard/core/Reason;" (.ref w0) ∧ Sta Z h0 "com/example/hopguard/hopguard/core/Reason" "UNKNOWN_PURPOSE" "Lcom/example/hopguard/hopguard/core/Reason;" (.ref w1) ∧ Sta Z h0 "com/example/hopguard/hopguard/core/Reason" "UNKNOWN_ACTION" "Lcom/example/hopguard/hopguard/core/Reason;" (.ref w2) ∧ Sta Z h0 "com/example/hopguard/hopguard/core/Reason" "HOP_NOT_ALLOWED" "Lcom/example/hopguard/hopguard/core/Reason;" (.ref w3) ∧ Sta Z h0 "com/example/hopguard/hopguard/core/Reason" "SUBJECT_NOT_ALLOWED" "Lcom/example/hopguard/hopguard/core/Reason;" (.ref w4) ∧ Sta Z h0 "com/example/hopguard/hopguard/core/Reason" "TOKEN_MISSING" "Lcom/example/hopguard/hopguard/core/Reason;" (.ref w5) ∧ Sta Z h0 "com/example/hopguard/hopguard/core/Reason" "TOKEN_MALFORMED" "Lcom/example/hopguard/hopguard/core/Reason;" (.ref w6) ∧ Sta Z h0 "com/example/hopguard/hopguard/core/Reason" "TOKEN_TYPE" "Lcom/example/hopguard/hopguard/core/Reason;" (.ref w7) ∧ Sta Z h0 "com/example/hopguard/hopguard/core/Reason" "TOKEN_ALGORITHM" "Lcom/example/hopguard/hopguard/core/Reason;" (.ref w8) ∧ Sta Z h0 "com/example/hopguard/hopguard/core/Reason" "TOKEN_KEY_UNKNOWN" "Lcom/example/hopguard/hopguard/core/Reason;" (.ref w9) ∧ Sta Z h0 "com/example/hopguard/hopguard/core/Reason" "TOKEN_SIGNATURE" "Lcom/example/hopguard/hopguard/core/Reason;" (.ref w10) ∧ Sta Z h0 "com/example/hopguard/hopguard/core/Reason" "TOKEN_ISSUER" "Lcom/example/hopguard/hopguard/core/Reason;" (.ref w11) ∧ Sta Z h0 "com/example/hopguard/hopguard/core/Reason" "TOKEN_AUDIENCE" "Lcom/example/hopguard/hopguard/core/Reason;" (.ref w12) ∧ Sta Z h0 "com/example/hopguard/hopguard/core/Reason" "TOKEN_EXPIRED" "Lcom/example/hopguard/hopguard/core/Reason;" (.ref w13) ∧ Sta Z h0 "com/example/hopguard/hopguard/core/Reason" "TOKEN_NOT_YET_VALID" "Lcom/example/hopguard/hopguard/core/Reason;" (.ref w14) ∧ Sta Z h0 "com/example/hopguard/hopguard/core/Reason" "TOKEN_CLAIM_MISSING" "Lcom/example/hopguard/hopguard/core/Reason;" (.ref w15) ∧ Sta Z h0 "com/example/hopguard/hopguard/core/Reason" "KEYSET_UNAVAILABLE" "Lcom/example/hopguard/hopguard/core/Reason;" (.ref w16) ∧ Sta Z h0 "com/example/hopguard/hopguard/core/Reason" "ACTOR_MISSING" "Lcom/example/hopguard/hopguard/core/Reason;" (.ref w17) ∧ Sta Z h0 "com/example/hopguard/hopguard/core/Reason" "SCOPE_MISSING" "Lcom/example/hopguard/hopguard/core/Reason;" (.ref w18) ∧ Sta Z h0 "com/example/hopguard/hopguard/core/Reason" "NOT_FOUND" "Lcom/example/hopguard/hopguard/core/Reason;" (.ref w19) ∧ Sta Z h0 "com/example/hopguard/hopguard/core/Reason" "PARENT_MISMATCH" "Lcom/example/hopguard/hopguard/core/Reason;" (.ref w20) ∧ Sta Z h0 "com/example/hopguard/hopguard/core/Reason" "TENANT_MISSING" "Lcom/example/hopguard/hopguard/core/Reason;" (.ref w21) ∧ Sta Z h0 "com/example/hopguard/hopguard/core/Reason" "TENANT_MISMATCH" "Lcom/example/hopguard/hopguard/core/Reason;" (.ref w22) ∧ Sta Z h0 "com/example/hopguard/hopguard/core/Reason" "OBJECT_NOT_VISIBLE" "Lcom/example/hopguard/hopguard/core/Reason;" (.ref w23) ∧ Sta Z h0 "com/example/hopguard/hopguard/core/Reason" "ROUTE_UNKNOWN" "Lcom/example/hopguard/hopguard/core/Reason;" (.ref w24) ∧ Sta Z h0 "com/example/hopguard/hopguard/core/Reason" "DECISION_POINT_UNAVAILABLE" "Lcom/example/hopguard/hopguard/core/Reason;" (.ref w25) ∧ Sta Z h0 "com/example/hopguard/hopguard/core/Reason" "DECISION_POINT_INVALID" "Lcom/example/hopguard/hopguard/core/Reason;" (.ref w26) ∧ Sta Z h0 "com/example/hopguard/hopguard/core/Reason" "OWNER_CHECK_FAILED" "Lcom/example/hopguard/hopguard/core/Reason;" (.ref w27) ∧ Sta Z h0 "com/example/hopguard/hopguard/core/Reason" "GRANT_TYPE_UNSUPPORTED" "Lcom/example/hopguard/hopguard/core/Reason;" (.ref w28) ∧ Sta Z h0 "com/example/hopguard/hopguard/core/Reason" "EXCHANGE_REQUEST_INVALID" "Lcom/example/hopguard/hopguard/core/Reason;" (.ref w29) ∧ Sta Z h0 "com/example/hopguard/hopguard/core/Reason" "ACTOR_TOKEN_NOT_OWN" "Lcom/example/hopguard/hopguard/core/Reason;" (.ref w30) ∧ Sta Z h0 "com/example/hopguard/hopguard/core/Reason" "PURPOSE_MISMATCH" "Lcom/example/hopguard/hopguard/core/Reason;" (.ref w31)
def own_HE (Z : State) (h0 : Heap) (w0 w1 w2 w3 w4 w5 w6 w7 w8 w9 w10 w11 w12 w13 w14 w15 w16 w17 w18 w19 w20 w21 w22 w23 w24 w25 w26 w27 w28 w29 w30 w31 : Addr) : Prop := Exa Z h0 w0 "com/example/hopguard/hopguard/core/Reason" ∧ Exa Z h0 w1 "com/example/hopguard/hopguard/core/Reason" ∧ Exa Z h0 w2 "com/example/hopguard/hopguard/core/Reason" ∧ Exa Z h0 w3 "com/example/hopguard/hopguard/core/Reason" ∧ Exa Z h0 w4 "com/example/hopguard/hopguard/core/Reason" ∧ Exa Z h0 w5 "com/example/hopguard/hopguard/core/Reason" ∧ Exa Z h0 w6 "com/example/hopguard/hopguard/core/Reason" ∧ Exa Z h0 w7 "com/example/hopguard/hopguard/core/Reason" ∧ Exa Z h0 w8 "com/example/hopguard/hopguard/core/Reason" ∧ Exa Z h0 w9 "com/example/hopguard/hopguard/core/Reason" ∧ Exa Z h0 w10 "com/example/hopguard/hopguard/core/Reason" ∧ Exa Z h0 w11 "com/example/hopguard/hopguard/core/Reason" ∧ Exa Z h0 w12 "com/example/hopguard/hopguard/core/Reason" ∧ Exa Z h0 w13 "com/example/hopguard/hopguard/core/Reason" ∧ Exa Z h0 w14 "com/example/hopguard/hopguard/core/Reason" ∧ Exa Z h0 w15 "com/example/hopguard/hopguard/core/Reason" ∧ Exa Z h0 w16 "com/example/hopguard/hopguard/core/Reason" ∧ Exa Z h0 w17 "com/example/hopguard/hopguard/core/Reason" ∧ Exa Z h0 w18 "com/example/hopguard/hopguard/core/Reason" ∧ Exa Z h0 w19 "com/example/hopguard/hopguard/core/Reason" ∧ Exa Z h0 w20 "com/example/hopguard/hopguard/core/Reason" ∧ Exa Z h0 w21 "com/example/hopguard/hopguard/core/Reason" ∧ Exa Z h0 w22 "com/example/hopguard/hopguard/core/Reason" ∧ Exa Z h0 w23 "com/example/hopguard/hopguard/core/Reason" ∧ Exa Z h0 w24 "com/example/hopguard/hopguard/core/Reason" ∧ Exa Z h0 w25 "com/example/hopguard/hopguard/core/Reason" ∧ Exa Z h0 w26 "com/example/hopguard/hopguard/core/Reason" ∧ Exa Z h0 w27 "com/example/hopguard/hopguard/core/Reason" ∧ Exa Z h0 w28 "com/example/hopguard/hopguard/core/Reason" ∧ Exa Z h0 w29 "com/example/hopguard/hopguard/core/Reason" ∧ Exa Z h0 w30 "com/example/hopguard/hopguard/core/Reason" ∧ Exa Z h0 w31 "com/example/hopguard/hopguard/core/Reason"
def own_HF (Z : State) (h0 : Heap) (w0 w1 w2 w3 w4 w5 w6 w7 w8 w9 w10 w11 w12 w13 w14 w15 w16 w17 w18 w19 w20 w21 w22 w23 w24 w25 w26 w27 w28 w29 w30 w31 : Addr) : Prop := Fld Z h0 w0 "com/example/hopguard/hopguard/core/Reason" "status" "I" (.int (200 : Int32)) ∧ Fld Z h0 w1 "com/example/hopguard/hopguard/core/Reason" "status" "I" (.int (403 : Int32)) ∧ Fld Z h0 w2 "com/example/hopguard/hopguard/core/Reason" "status" "I" (.int (403 : Int32)) ∧ Fld Z h0 w3 "com/example/hopguard/hopguard/core/Reason" "status" "I" (.int (403 : Int32)) ∧ Fld Z h0 w4 "com/example/hopguard/hopguard/core/Reason" "status" "I" (.int (403 : Int32)) ∧ Fld Z h0 w5 "com/example/hopguard/hopguard/core/Reason" "status" "I" (.int (401 : Int32)) ∧ Fld Z h0 w6 "com/example/hopguard/hopguard/core/Reason" "status" "I" (.int (401 : Int32)) ∧ Fld Z h0 w7 "com/example/hopguard/hopguard/core/Reason" "status" "I" (.int (401 : Int32)) ∧ Fld Z h0 w8 "com/example/hopguard/hopguard/core/Reason" "status" "I" (.int (401 : Int32)) ∧ Fld Z h0 w9 "com/example/hopguard/hopguard/core/Reason" "status" "I" (.int (401 : Int32)) ∧ Fld Z h0 w10 "com/example/hopguard/hopguard/core/Reason" "status" "I" (.int (401 : Int32)) ∧ Fld Z h0 w11 "com/example/hopguard/hopguard/core/Reason" "status" "I" (.int (401 : Int32)) ∧ Fld Z h0 w12 "com/example/hopguard/hopguard/core/Reason" "status" "I" (.int (401 : Int32)) ∧ Fld Z h0 w13 "com/example/hopguard/hopguard/core/Reason" "status" "I" (.int (401 : Int32)) ∧ Fld Z h0 w14 "com/example/hopguard/hopguard/core/Reason" "status" "I" (.int (401 : Int32)) ∧ Fld Z h0 w15 "com/example/hopguard/hopguard/core/Reason" "status" "I" (.int (401 : Int32)) ∧ Fld Z h0 w16 "com/example/hopguard/hopguard/core/Reason" "status" "I" (.int (503 : Int32)) ∧ Fld Z h0 w17 "com/example/hopguard/hopguard/core/Reason" "status" "I" (.int (403 : Int32)) ∧ Fld Z h0 w18 "com/example/hopguard/hopguard/core/Reason" "status" "I" (.int (403 : Int32)) ∧ Fld Z h0 w19 "com/example/hopguard/hopguard/core/Reason" "status" "I" (.int (404 : Int32)) ∧ Fld Z h0 w20 "com/example/hopguard/hopguard/core/Reason" "status" "I" (.int (404 : Int32)) ∧ Fld Z h0 w21 "com/example/hopguard/hopguard/core/Reason" "status" "I" (.int (404 : Int32)) ∧ Fld Z h0 w22 "com/example/hopguard/hopguard/core/Reason" "status" "I" (.int (404 : Int32)) ∧ Fld Z h0 w23 "com/example/hopguard/hopguard/core/Reason" "status" "I" (.int (404 : Int32)) ∧ Fld Z h0 w24 "com/example/hopguard/hopguard/core/Reason" "status" "I" (.int (403 : Int32)) ∧ Fld Z h0 w25 "com/example/hopguard/hopguard/core/Reason" "status" "I" (.int (503 : Int32)) ∧ Fld Z h0 w26 "com/example/hopguard/hopguard/core/Reason" "status" "I" (.int (503 : Int32)) ∧ Fld Z h0 w27 "com/example/hopguard/hopguard/core/Reason" "status" "I" (.int (503 : Int32)) ∧ Fld Z h0 w28 "com/example/hopguard/hopguard/core/Reason" "status" "I" (.int (403 : Int32)) ∧ Fld Z h0 w29 "com/example/hopguard/hopguard/core/Reason" "status" "I" (.int (403 : Int32)) ∧ Fld Z h0 w30 "com/example/hopguard/hopguard/core/Reason" "status" "I" (.int (403 : Int32)) ∧ Fld Z h0 w31 "com/example/hopguard/hopguard/core/Reason" "status" "I" (.int (403 : Int32))
theorem own_pick {Z : State} {h0 : Heap} {w0 w1 w2 w3 w4 w5 w6 w7 w8 w9 w10 w11 w12 w13 w14 w15 w16 w17 w18 w19 w20 w21 w22 w23 w24 w25 w26 w27 w28 w29 w30 w31 : Addr} (HE : own_HE Z h0 w0 w1 w2 w3 w4 w5 w6 w7 w8 w9 w10 w11 w12 w13 w14 w15 w16 w17 w18 w19 w20 w21 w22 w23 w24 w25 w26 w27 w28 w29 w30 w31) (HF : own_HF Z h0 w0 w1 w2 w3 w4 w5 w6 w7 w8 w9 w10 w11 w12 w13 w14 w15 w16 w17 w18 w19 w20 w21 w22 w23 w24 w25 w26 w27 w28 w29 w30 w31) (k : Int32) : ∃ (r : Addr) (z : Int32), ([(.ref w0), (.ref w1), (.ref w2), (.ref w3), (.ref w4), (.ref w5), (.ref w6), (.ref w7), (.ref w8), (.ref w9), (.ref w10), (.ref w11), (.ref w12), (.ref w13), (.ref w14), (.ref w15), (.ref w16), (.ref w17), (.ref w18), (.ref w19), (.ref w20), (.ref w21), (.ref w22), (.ref w23), (.ref w24), (.ref w25), (.ref w26), (.ref w27), (.ref w28), (.ref w29), (.ref w30), (.ref w31)] : List Value).getD (k &&& (31 : Int32)).toNatClampNeg .null = .ref r ∧ Exa Z h0 r "com/example/hopguard/hopguard/core/Reason" ∧ Fld Z h0 r "com/example/hopguard/hopguard/core/Reason" "status" "I" (.int z) ∧ (z = (503 : Int32) ↔ (r = w16 ∨ r = w25 ∨ r = w26 ∨ r = w27)) := by
  rcases own_idx k with hi | hi | hi | hi | hi | hi | hi | hi | hi | hi | hi | hi | hi | hi | hi | hi | hi | hi | hi | hi | hi | hi | hi | hi | hi | hi | hi | hi | hi | hi | hi | hi
  · rw [hi]
    exact ⟨w0, (200 : Int32), rfl, (HE.1), (HF.1), ⟨fun q => absurd q (by decide), fun q => (q.elim (fun q => Fld.ne (HF.1) (HF.2.2.2.2.2.2.2.2.2.2.2.2.2.2.2.2.1) (by decide) q) fun q => q.elim (fun q => Fld.ne (HF.1) (HF.2.2.2.2.2.2.2.2.2.2.2.2.2.2.2.2.2.2.2.2.2.2.2.2.2.1) (by decide) q) fun q => q.elim (fun q => Fld.ne (HF.1) (HF.2.2.2.2.2.2.2.2.2.2.2.2.2.2.2.2.2.2.2.2.2.2.2.2.2.2.1) (by decide) q) (fun q => Fld.ne (HF.1) (HF.2.2.2.2.2.2.2.2.2.2.2.2.2.2.2.2.2.2.2.2.2.2.2.2.2.2.2.1) (by decide) q)).elim⟩⟩
  · rw [hi]
    exact ⟨w1, (403 : Int32), rfl, (HE.2.1), (HF.2.1), ⟨fun q => absurd q (by decide), fun q => (q.elim (fun q => Fld.ne (HF.2.1) (HF.2.2.2.2.2.2.2.2.2.2.2.2.2.2.2.2.1) (by decide) q) fun q => q.elim (fun q => Fld.ne (HF.2.1) (HF.2.2.2.2.2.2.2.2.2.2.2.2.2.2.2.2.2.2.2.2.2.2.2.2.2.1) (by decide) q) fun q => q.elim (fun q => Fld.ne (HF.2.1) (HF.2.2.2.2.2.2.2.2.2.2.2.2.2.2.2.2.2.2.2.2.2.2.2.2.2.2.1) (by decide) q) (fun q => Fld.ne (HF.2.1) (HF.2.2.2.2.2.2.2.2.2.2.2.2.2.2.2.2.2.2.2.2.2.2.2.2.2.2.2.1) (by decide) q)).elim⟩⟩
  · rw [hi]
    exact ⟨w2, (403 : Int32), rfl, (HE.2.2.1), (HF.2.2.1), ⟨fun q => absurd q (by decide), fun q => (q.elim (fun q => Fld.ne (HF.2.2.1) (HF.2.2.2.2.2.2.2.2.2.2.2.2.2.2.2.2.1) (by decide) q) fun q => q.elim (fun q => Fld.ne (HF.2.2.1) (HF.2.2.2.2.2.2.2.2.2.2.2.2.2.2.2.2.2.2.2.2.2.2.2.2.2.1) (by decide) q) fun q => q.elim (fun q => Fld.ne (HF.2.2.1) (HF.2.2.2.2.2.2.2.2.2.2.2.2.2.2.2.2.2.2.2.2.2.2.2.2.2.2.1) (by decide) q) (fun q => Fld.ne (HF.2.2.1) (HF.2.2.2.2.2.2.2.2.2.2.2.2.2.2.2.2.2.2.2.2.2.2.2.2.2.2.2.1) (by decide) q)).elim⟩⟩
  · rw [hi]
    exact ⟨w3, (403 : Int32), rfl, (HE.2.2.2.1), (HF.2.2.2.1), ⟨fun q => absurd q (by decide), fun q => (q.elim (fun q => Fld.ne (HF.2.2.2.1) (HF.2.2.2.2.2.2.2.2.2.2.2.2.2.2.2.2.1) (by decide) q) fun q => q.elim (fun q => Fld.ne (HF.2.2.2.1) (HF.2.2.2.2.2.2.2.2.2.2.2.2.2.2.2.2.2.2.2.2.2.2.2.2.2.1) (by decide) q) fun q => q.elim (fun q => Fld.ne (HF.2.2.2.1) (HF.2.2.2.2.2.2.2.2.2.2.2.2.2.2.2.2.2.2.2.2.2.2.2.2.2.2.1) (by decide) q) (fun q => Fld.ne (HF.2.2.2.1) (HF.2.2.2.2.2.2.2.2.2.2.2.2.2.2.2.2.2.2.2.2.2.2.2.2.2.2.2.1) (by decide) q)).elim⟩⟩
  · rw [hi]
    exact ⟨w4, (403 : Int32), rfl, (HE.2.2.2.2.1), (HF.2.2.2.2.1), ⟨fun q => absurd q (by decide), fun q => (q.elim (fun q => Fld.ne (HF.2.2.2.2.1) (HF.2.2.2.2.2.2.2.2.2.2.2.2.2.2.2.2.1) (by decide) q) fun q => q.elim (fun q => Fld.ne (HF.2.2.2.2.1) (HF.2.2.2.2.2.2.2.2.2.2.2.2.2.2.2.2.2.2.2.2.2.2.2.2.2.1) (by decide) q) fun q => q.elim (fun q => Fld.ne (HF.2.2.2.2.1) (HF.2.2.2.2.2.2.2.2.2.2.2.2.2.2.2.2.2.2.2.2.2.2.2.2.2.2.1) (by decide) q) (fun q => Fld.ne (HF.2.2.2.2.1) (HF.2.2.2.2.2.2.2.2.2.2.2.2.2.2.2.2.2.2.2.2.2.2.2.2.2.2.2.1) (by decide) q)).elim⟩⟩
  · rw [hi]
    exact ⟨w5, (401 : Int32), rfl, (HE.2.2.2.2.2.1), (HF.2.2.2.2.2.1), ⟨fun q => absurd q (by decide), fun q => (q.elim (fun q => Fld.ne (HF.2.2.2.2.2.1) (HF.2.2.2.2.2.2.2.2.2.2.2.2.2.2.2.2.1) (by decide) q) fun q => q.elim (fun q => Fld.ne (HF.2.2.2.2.2.1) (HF.2.2.2.2.2.2.2.2.2.2.2.2.2.2.2.2.2.2.2.2.2.2.2.2.2.1) (by decide) q) fun q => q.elim (fun q => Fld.ne (HF.2.2.2.2.2.1) (HF.2.2.2.2.2.2.2.2.2.2.2.2.2.2.2.2.2.2.2.2.2.2.2.2.2.2.1) (by decide) q) (fun q => Fld.ne (HF.2.2.2.2.2.1) (HF.2.2.2.2.2.2.2.2.2.2.2.2.2.2.2.2.2.2.2.2.2.2.2.2.2.2.2.1) (by decide) q)).elim⟩⟩
  · rw [hi]
    exact ⟨w6, (401 : Int32), rfl, (HE.2.2.2.2.2.2.1), (HF.2.2.2.2.2.2.1), ⟨fun q => absurd q (by decide), fun q => (q.elim (fun q => Fld.ne (HF.2.2.2.2.2.2.1) (HF.2.2.2.2.2.2.2.2.2.2.2.2.2.2.2.2.1) (by decide) q) fun q => q.elim (fun q => Fld.ne (HF.2.2.2.2.2.2.1) (HF.2.2.2.2.2.2.2.2.2.2.2.2.2.2.2.2.2.2.2.2.2.2.2.2.2.1) (by decide) q) fun q => q.elim (fun q => Fld.ne (HF.2.2.2.2.2.2.1) (HF.2.2.2.2.2.2.2.2.2.2.2.2.2.2.2.2.2.2.2.2.2.2.2.2.2.2.1) (by decide) q) (fun q => Fld.ne (HF.2.2.2.2.2.2.1) (HF.2.2.2.2.2.2.2.2.2.2.2.2.2.2.2.2.2.2.2.2.2.2.2.2.2.2.2.1) (by decide) q)).elim⟩⟩
  · rw [hi]
    exact ⟨w7, (401 : Int32), rfl, (HE.2.2.2.2.2.2.2.1), (HF.2.2.2.2.2.2.2.1), ⟨fun q => absurd q (by decide), fun q => (q.elim (fun q => Fld.ne (HF.2.2.2.2.2.2.2.1) (HF.2.2.2.2.2.2.2.2.2.2.2.2.2.2.2.2.1) (by decide) q) fun q => q.elim (fun q => Fld.ne (HF.2.2.2.2.2.2.2.1) (HF.2.2.2.2.2.2.2.2.2.2.2.2.2.2.2.2.2.2.2.2.2.2.2.2.2.1) (by decide) q) fun q => q.elim (fun q => Fld.ne (HF.2.2.2.2.2.2.2.1) (HF.2.2.2.2.2.2.2.2.2.2.2.2.2.2.2.2.2.2.2.2.2.2.2.2.2.2.1) (by decide) q) (fun q => Fld.ne (HF.2.2.2.2.2.2.2.1) (HF.2.2.2.2.2.2.2.2.2.2.2.2.2.2.2.2.2.2.2.2.2.2.2.2.2.2.2.1) (by decide) q)).elim⟩⟩
  · rw [hi]
    exact ⟨w8, (401 : Int32), rfl, (HE.2.2.2.2.2.2.2.2.1), (HF.2.2.2.2.2.2.2.2.1), ⟨fun q => absurd q (by decide), fun q => (q.elim (fun q => Fld.ne (HF.2.2.2.2.2.2.2.2.1) (HF.2.2.2.2.2.2.2.2.2.2.2.2.2.2.2.2.1) (by decide) q) fun q => q.elim (fun q => Fld.ne (HF.2.2.2.2.2.2.2.2.1) (HF.2.2.2.2.2.2.2.2.2.2.2.2.2.2.2.2.2.2.2.2.2.2.2.2.2.1) (by decide) q) fun q => q.elim (fun q => Fld.ne (HF.2.2.2.2.2.2.2.2.1) (HF.2.2.2.2.2.2.2.2.2.2.2.2.2.2.2.2.2.2.2.2.2.2.2.2.2.2.1) (by decide) q) (fun q => Fld.ne (HF.2.2.2.2.2.2.2.2.1) (HF.2.2.2.2.2.2.2.2.2.2.2.2.2.2.2.2.2.2.2.2.2.2.2.2.2.2.2.1) (by decide) q)).elim⟩⟩
  · rw [hi]
    exact ⟨w9, (401 : Int32), rfl, (HE.2.2.2.2.2.2.2.2.2.1), (HF.2.2.2.2.2.2.2.2.2.1), ⟨fun q => absurd q (by decide), fun q => (q.elim (fun q => Fld.ne (HF.2.2.2.2.2.2.2.2.2.1) (HF.2.2.2.2.2.2.2.2.2.2.2.2.2.2.2.2.1) (by decide) q) fun q => q.elim (fun q => Fld.ne (HF.2.2.2.2.2.2.2.2.2.1) (HF.2.2.2.2.2.2.2.2.2.2.2.2.2.2.2.2.2.2.2.2.2.2.2.2.2.1) (by decide) q) fun q => q.elim (fun q => Fld.ne (HF.2.2.2.2.2.2.2.2.2.1) (HF.2.2.2.2.2.2.2.2.2.2.2.2.2.2.2.2.2.2.2.2.2.2.2.2.2.2.1) (by decide) q) (fun q => Fld.ne (HF.2.2.2.2.2.2.2.2.2.1) (HF.2.2.2.2.2.2.2.2.2.2.2.2.2.2.2.2.2.2.2.2.2.2.2.2.2.2.2.1) (by decide) q)).elim⟩⟩
  · rw [hi]
    exact ⟨w10, (401 : Int32), rfl, (HE.2.2.2.2.2.2.2.2.2.2.1), (HF.2.2.2.2.2.2.2.2.2.2.1), ⟨fun q => absurd q (by decide), fun q => (q.elim (fun q => Fld.ne (HF.2.2.2.2.2.2.2.2.2.2.1) (HF.2.2.2.2.2.2.2.2.2.2.2.2.2.2.2.2.1) (by decide) q) fun q => q.elim (fun q => Fld.ne (HF.2.2.2.2.2.2.2.2.2.2.1) (HF.2.2.2.2.2.2.2.2.2.2.2.2.2.2.2.2.2.2.2.2.2.2.2.2.2.1) (by decide) q) fun q => q.elim (fun q => Fld.ne (HF.2.2.2.2.2.2.2.2.2.2.1) (HF.2.2.2.2.2.2.2.2.2.2.2.2.2.2.2.2.2.2.2.2.2.2.2.2.2.2.1) (by decide) q) (fun q => Fld.ne (HF.2.2.2.2.2.2.2.2.2.2.1) (HF.2.2.2.2.2.2.2.2.2.2.2.2.2.2.2.2.2.2.2.2.2.2.2.2.2.2.2.1) (by decide) q)).elim⟩⟩
  · rw [hi]
    exact ⟨w11, (401 : Int32), rfl, (HE.2.2.2.2.2.2.2.2.2.2.2.1), (HF.2.2.2.2.2.2.2.2.2.2.2.1), ⟨fun q => absurd q (by decide), fun q => (q.elim (fun q => Fld.ne (HF.2.2.2.2.2.2.2.2.2.2.2.1) (HF.2.2.2.2.2.2.2.2.2.2.2.2.2.2.2.2.1) (by decide) q) fun q => q.elim (fun q => Fld.ne (HF.2.2.2.2.2.2.2.2.2.2.2.1) (HF.2.2.2.2.2.2.2.2.2.2.2.2.2.2.2.2.2.2.2.2.2.2.2.2.2.1) (by decide) q) fun q => q.elim (fun q => Fld.ne (HF.2.2.2.2.2.2.2.2.2.2.2.1) (HF.2.2.2.2.2.2.2.2.2.2.2.2.2.2.2.2.2.2.2.2.2.2.2.2.2.2.1) (by decide) q) (fun q => Fld.ne (HF.2.2.2.2.2.2.2.2.2.2.2.1) (HF.2.2.2.2.2.2.2.2.2.2.2.2.2.2.2.2.2.2.2.2.2.2.2.2.2.2.2.1) (by decide) q)).elim⟩⟩
  · rw [hi]
    exact ⟨w12, (401 : Int32), rfl, (HE.2.2.2.2.2.2.2.2.2.2.2.2.1), (HF.2.2.2.2.2.2.2.2.2.2.2.2.1), ⟨fun q => absurd q (by decide), fun q => (q.elim (fun q => Fld.ne (HF.2.2.2.2.2.2.2.2.2.2.2.2.1) (HF.2.2.2.2.2.2.2.2.2.2.2.2.2.2.2.2.1) (by decide) q) fun q => q.elim (fun q => Fld.ne (HF.2.2.2.2.2.2.2.2.2.2.2.2.1) (HF.2.2.2.2.2.2.2.2.2.2.2.2.2.2.2.2.2.2.2.2.2.2.2.2.2.1) (by decide) q) fun q => q.elim (fun q => Fld.ne (HF.2.2.2.2.2.2.2.2.2.2.2.2.1) (HF.2.2.2.2.2.2.2.2.2.2.2.2.2.2.2.2.2.2.2.2.2.2.2.2.2.2.1) (by decide) q) (fun q => Fld.ne (HF.2.2.2.2.2.2.2.2.2.2.2.2.1) (HF.2.2.2.2.2.2.2.2.2.2.2.2.2.2.2.2.2.2.2.2.2.2.2.2.2.2.2.1) (by decide) q)).elim⟩⟩
  · rw [hi]
    exact ⟨w13, (401 : Int32), rfl, (HE.2.2.2.2.2.2.2.2.2.2.2.2.2.1), (HF.2.2.2.2.2.2.2.2.2.2.2.2.2.1), ⟨fun q => absurd q (by decide), fun q => (q.elim (fun q => Fld.ne (HF.2.2.2.2.2.2.2.2.2.2.2.2.2.1) (HF.2.2.2.2.2.2.2.2.2.2.2.2.2.2.2.2.1) (by decide) q) fun q => q.elim (fun q => Fld.ne (HF.2.2.2.2.2.2.2.2.2.2.2.2.2.1) (HF.2.2.2.2.2.2.2.2.2.2.2.2.2.2.2.2.2.2.2.2.2.2.2.2.2.1) (by decide) q) fun q => q.elim (fun q => Fld.ne (HF.2.2.2.2.2.2.2.2.2.2.2.2.2.1) (HF.2.2.2.2.2.2.2.2.2.2.2.2.2.2.2.2.2.2.2.2.2.2.2.2.2.2.1) (by decide) q) (fun q => Fld.ne (HF.2.2.2.2.2.2.2.2.2.2.2.2.2.1) (HF.2.2.2.2.2.2.2.2.2.2.2.2.2.2.2.2.2.2.2.2.2.2.2.2.2.2.2.1) (by decide) q)).elim⟩⟩
  · rw [hi]
    exact ⟨w14, (401 : Int32), rfl, (HE.2.2.2.2.2.2.2.2.2.2.2.2.2.2.1), (HF.2.2.2.2.2.2.2.2.2.2.2.2.2.2.1), ⟨fun q => absurd q (by decide), fun q => (q.elim (fun q => Fld.ne (HF.2.2.2.2.2.2.2.2.2.2.2.2.2.2.1) (HF.2.2.2.2.2.2.2.2.2.2.2.2.2.2.2.2.1) (by decide) q) fun q => q.elim (fun q => Fld.ne (HF.2.2.2.2.2.2.2.2.2.2.2.2.2.2.1) (HF.2.2.2.2.2.2.2.2.2.2.2.2.2.2.2.2.2.2.2.2.2.2.2.2.2.1) (by decide) q) fun q => q.elim (fun q => Fld.ne (HF.2.2.2.2.2.2.2.2.2.2.2.2.2.2.1) (HF.2.2.2.2.2.2.2.2.2.2.2.2.2.2.2.2.2.2.2.2.2.2.2.2.2.2.1) (by decide) q) (fun q => Fld.ne (HF.2.2.2.2.2.2.2.2.2.2.2.2.2.2.1) (HF.2.2.2.2.2.2.2.2.2.2.2.2.2.2.2.2.2.2.2.2.2.2.2.2.2.2.2.1) (by decide) q)).elim⟩⟩
  · rw [hi]
    exact ⟨w15, (401 : Int32), rfl, (HE.2.2.2.2.2.2.2.2.2.2.2.2.2.2.2.1), (HF.2.2.2.2.2.2.2.2.2.2.2.2.2.2.2.1), ⟨fun q => absurd q (by decide), fun q => (q.elim (fun q => Fld.ne (HF.2.2.2.2.2.2.2.2.2.2.2.2.2.2.2.1) (HF.2.2.2.2.2.2.2.2.2.2.2.2.2.2.2.2.1) (by decide) q) fun q => q.elim (fun q => Fld.ne (HF.2.2.2.2.2.2.2.2.2.2.2.2.2.2.2.1) (HF.2.2.2.2.2.2.2.2.2.2.2.2.2.2.2.2.2.2.2.2.2.2.2.2.2.1) (by decide) q) fun q => q.elim (fun q => Fld.ne (HF.2.2.2.2.2.2.2.2.2.2.2.2.2.2.2.1) (HF.2.2.2.2.2.2.2.2.2.2.2.2.2.2.2.2.2.2.2.2.2.2.2.2.2.2.1) (by decide) q) (fun q => Fld.ne (HF.2.2.2.2.2.2.2.2.2.2.2.2.2.2.2.1) (HF.2.2.2.2.2.2.2.2.2.2.2.2.2.2.2.2.2.2.2.2.2.2.2.2.2.2.2.1) (by decide) q)).elim⟩⟩
  · rw [hi]
    exact ⟨w16, (503 : Int32), rfl, (HE.2.2.2.2.2.2.2.2.2.2.2.2.2.2.2.2.1), (HF.2.2.2.2.2.2.2.2.2.2.2.2.2.2.2.2.1), ⟨fun _ => Or.inl rfl, fun _ => rfl⟩⟩
  · rw [hi]
    exact ⟨w17, (403 : Int32), rfl, (HE.2.2.2.2.2.2.2.2.2.2.2.2.2.2.2.2.2.1), (HF.2.2.2.2.2.2.2.2.2.2.2.2.2.2.2.2.2.1), ⟨fun q => absurd q (by decide), fun q => (q.elim (fun q => Fld.ne (HF.2.2.2.2.2.2.2.2.2.2.2.2.2.2.2.2.2.1) (HF.2.2.2.2.2.2.2.2.2.2.2.2.2.2.2.2.1) (by decide) q) fun q => q.elim (fun q => Fld.ne (HF.2.2.2.2.2.2.2.2.2.2.2.2.2.2.2.2.2.1) (HF.2.2.2.2.2.2.2.2.2.2.2.2.2.2.2.2.2.2.2.2.2.2.2.2.2.1) (by decide) q) fun q => q.elim (fun q => Fld.ne (HF.2.2.2.2.2.2.2.2.2.2.2.2.2.2.2.2.2.1) (HF.2.2.2.2.2.2.2.2.2.2.2.2.2.2.2.2.2.2.2.2.2.2.2.2.2.2.1) (by decide) q) (fun q => Fld.ne (HF.2.2.2.2.2.2.2.2.2.2.2.2.2.2.2.2.2.1) (HF.2.2.2.2.2.2.2.2.2.2.2.2.2.2.2.2.2.2.2.2.2.2.2.2.2.2.2.1) (by decide) q)).elim⟩⟩
  · rw [hi]
    exact ⟨w18, (403 : Int32), rfl, (HE.2.2.2.2.2.2.2.2.2.2.2.2.2.2.2.2.2.2.1), (HF.2.2.2.2.2.2.2.2.2.2.2.2.2.2.2.2.2.2.1), ⟨fun q => absurd q (by decide), fun q => (q.elim (fun q => Fld.ne (HF.2.2.2.2.2.2.2.2.2.2.2.2.2.2.2.2.2.2.1) (HF.2.2.2.2.2.2.2.2.2.2.2.2.2.2.2.2.1) (by decide) q) fun q => q.elim (fun q => Fld.ne (HF.2.2.2.2.2.2.2.2.2.2.2.2.2.2.2.2.2.2.1) (HF.2.2.2.2.2.2.2.2.2.2.2.2.2.2.2.2.2.2.2.2.2.2.2.2.2.1) (by decide) q) fun q => q.elim (fun q => Fld.ne (HF.2.2.2.2.2.2.2.2.2.2.2.2.2.2.2.2.2.2.1) (HF.2.2.2.2.2.2.2.2.2.2.2.2.2.2.2.2.2.2.2.2.2.2.2.2.2.2.1) (by decide) q) (fun q => Fld.ne (HF.2.2.2.2.2.2.2.2.2.2.2.2.2.2.2.2.2.2.1) (HF.2.2.2.2.2.2.2.2.2.2.2.2.2.2.2.2.2.2.2.2.2.2.2.2.2.2.2.1) (by decide) q)).elim⟩⟩
  · rw [hi]
    exact ⟨w19, (404 : Int32), rfl, (HE.2.2.2.2.2.2.2.2.2.2.2.2.2.2.2.2.2.2.2.1), (HF.2.2.2.2.2.2.2.2.2.2.2.2.2.2.2.2.2.2.2.1), ⟨fun q => absurd q (by decide), fun q => (q.elim (fun q => Fld.ne (HF.2.2.2.2.2.2.2.2.2.2.2.2.2.2.2.2.2.2.2.1) (HF.2.2.2.2.2.2.2.2.2.2.2.2.2.2.2.2.1) (by decide) q) fun q => q.elim (fun q => Fld.ne (HF.2.2.2.2.2.2.2.2.2.2.2.2.2.2.2.2.2.2.2.1) (HF.2.2.2.2.2.2.2.2.2.2.2.2.2.2.2.2.2.2.2.2.2.2.2.2.2.1) (by decide) q) fun q => q.elim (fun q => Fld.ne (HF.2.2.2.2.2.2.2.2.2.2.2.2.2.2.2.2.2.2.2.1) (HF.2.2.2.2.2.2.2.2.2.2.2.2.2.2.2.2.2.2.2.2.2.2.2.2.2.2.1) (by decide) q) (fun q => Fld.ne (HF.2.2.2.2.2.2.2.2.2.2.2.2.2.2.2.2.2.2.2.1) (HF.2.2.2.2.2.2.2.2.2.2.2.2.2.2.2.2.2.2.2.2.2.2.2.2.2.2.2.1) (by decide) q)).elim⟩⟩
  · rw [hi]
    exact ⟨w20, (404 : Int32), rfl, (HE.2.2.2.2.2.2.2.2.2.2.2.2.2.2.2.2.2.2.2.2.1), (HF.2.2.2.2.2.2.2.2.2.2.2.2.2.2.2.2.2.2.2.2.1), ⟨fun q => absurd q (by decide), fun q => (q.elim (fun q => Fld.ne (HF.2.2.2.2.2.2.2.2.2.2.2.2.2.2.2.2.2.2.2.2.1) (HF.2.2.2.2.2.2.2.2.2.2.2.2.2.2.2.2.1) (by decide) q) fun q => q.elim (fun q => Fld.ne (HF.2.2.2.2.2.2.2.2.2.2.2.2.2.2.2.2.2.2.2.2.1) (HF.2.2.2.2.2.2.2.2.2.2.2.2.2.2.2.2.2.2.2.2.2.2.2.2.2.1) (by decide) q) fun q => q.elim (fun q => Fld.ne (HF.2.2.2.2.2.2.2.2.2.2.2.2.2.2.2.2.2.2.2.2.1) (HF.2.2.2.2.2.2.2.2.2.2.2.2.2.2.2.2.2.2.2.2.2.2.2.2.2.2.1) (by decide) q) (fun q => Fld.ne (HF.2.2.2.2.2.2.2.2.2.2.2.2.2.2.2.2.2.2.2.2.1) (HF.2.2.2.2.2.2.2.2.2.2.2.2.2.2.2.2.2.2.2.2.2.2.2.2.2.2.2.1) (by decide) q)).elim⟩⟩
  · rw [hi]
    exact ⟨w21, (404 : Int32), rfl, (HE.2.2.2.2.2.2.2.2.2.2.2.2.2.2.2.2.2.2.2.2.2.1), (HF.2.2.2.2.2.2.2.2.2.2.2.2.2.2.2.2.2.2.2.2.2.1), ⟨fun q => absurd q (by decide), fun q => (q.elim (fun q => Fld.ne (HF.2.2.2.2.2.2.2.2.2.2.2.2.2.2.2.2.2.2.2.2.2.1) (HF.2.2.2.2.2.2.2.2.2.2.2.2.2.2.2.2.1) (by decide) q) fun q => q.elim (fun q => Fld.ne (HF.2.2.2.2.2.2.2.2.2.2.2.2.2.2.2.2.2.2.2.2.2.1) (HF.2.2.2.2.2.2.2.2.2.2.2.2.2.2.2.2.2.2.2.2.2.2.2.2.2.1) (by decide) q) fun q => q.elim (fun q => Fld.ne (HF.2.2.2.2.2.2.2.2.2.2.2.2.2.2.2.2.2.2.2.2.2.1) (HF.2.2.2.2.2.2.2.2.2.2.2.2.2.2.2.2.2.2.2.2.2.2.2.2.2.2.1) (by decide) q) (fun q => Fld.ne (HF.2.2.2.2.2.2.2.2.2.2.2.2.2.2.2.2.2.2.2.2.2.1) (HF.2.2.2.2.2.2.2.2.2.2.2.2.2.2.2.2.2.2.2.2.2.2.2.2.2.2.2.1) (by decide) q)).elim⟩⟩
  · rw [hi]
    exact ⟨w22, (404 : Int32), rfl, (HE.2.2.2.2.2.2.2.2.2.2.2.2.2.2.2.2.2.2.2.2.2.2.1), (HF.2.2.2.2.2.2.2.2.2.2.2.2.2.2.2.2.2.2.2.2.2.2.1), ⟨fun q => absurd q (by decide), fun q => (q.elim (fun q => Fld.ne (HF.2.2.2.2.2.2.2.2.2.2.2.2.2.2.2.2.2.2.2.2.2.2.1) (HF.2.2.2.2.2.2.2.2.2.2.2.2.2.2.2.2.1) (by decide) q) fun q => q.elim (fun q => Fld.ne (HF.2.2.2.2.2.2.2.2.2.2.2.2.2.2.2.2.2.2.2.2.2.2.1) (HF.2.2.2.2.2.2.2.2.2.2.2.2.2.2.2.2.2.2.2.2.2.2.2.2.2.1) (by decide) q) fun q => q.elim (fun q => Fld.ne (HF.2.2.2.2.2.2.2.2.2.2.2.2.2.2.2.2.2.2.2.2.2.2.1) (HF.2.2.2.2.2.2.2.2.2.2.2.2.2.2.2.2.2.2.2.2.2.2.2.2.2.2.1) (by decide) q) (fun q => Fld.ne (HF.2.2.2.2.2.2.2.2.2.2.2.2.2.2.2.2.2.2.2.2.2.2.1) (HF.2.2.2.2.2.2.2.2.2.2.2.2.2.2.2.2.2.2.2.2.2.2.2.2.2.2.2.1) (by decide) q)).elim⟩⟩
  · rw [hi]
    exact ⟨w23, (404 : Int32), rfl, (HE.2.2.2.2.2.2.2.2.2.2.2.2.2.2.2.2.2.2.2.2.2.2.2.1), (HF.2.2.2.2.2.2.2.2.2.2.2.2.2.2.2.2.2.2.2.2.2.2.2.1), ⟨fun q => absurd q (by decide), fun q => (q.elim (fun q => Fld.ne (HF.2.2.2.2.2.2.2.2.2.2.2.2.2.2.2.2.2.2.2.2.2.2.2.1) (HF.2.2.2.2.2.2.2.2.2.2.2.2.2.2.2.2.1) (by decide) q) fun q => q.elim (fun q => Fld.ne (HF.2.2.2.2.2.2.2.2.2.2.2.2.2.2.2.2.2.2.2.2.2.2.2.1) (HF.2.2.2.2.2.2.2.2.2.2.2.2.2.2.2.2.2.2.2.2.2.2.2.2.2.1) (by decide) q) fun q => q.elim (fun q => Fld.ne (HF.2.2.2.2.2.2.2.2.2.2.2.2.2.2.2.2.2.2.2.2.2.2.2.1) (HF.2.2.2.2.2.2.2.2.2.2.2.2.2.2.2.2.2.2.2.2.2.2.2.2.2.2.1) (by decide) q) (fun q => Fld.ne (HF.2.2.2.2.2.2.2.2.2.2.2.2.2.2.2.2.2.2.2.2.2.2.2.1) (HF.2.2.2.2.2.2.2.2.2.2.2.2.2.2.2.2.2.2.2.2.2.2.2.2.2.2.2.1) (by decide) q)).elim⟩⟩
  · rw [hi]
    exact ⟨w24, (403 : Int32), rfl, (HE.2.2.2.2.2.2.2.2.2.2.2.2.2.2.2.2.2.2.2.2.2.2.2.2.1), (HF.2.2.2.2.2.2.2.2.2.2.2.2.2.2.2.2.2.2.2.2.2.2.2.2.1), ⟨fun q => absurd q (by decide), fun q => (q.elim (fun q => Fld.ne (HF.2.2.2.2.2.2.2.2.2.2.2.2.2.2.2.2.2.2.2.2.2.2.2.2.1) (HF.2.2.2.2.2.2.2.2.2.2.2.2.2.2.2.2.1) (by decide) q) fun q => q.elim (fun q => Fld.ne (HF.2.2.2.2.2.2.2.2.2.2.2.2.2.2.2.2.2.2.2.2.2.2.2.2.1) (HF.2.2.2.2.2.2.2.2.2.2.2.2.2.2.2.2.2.2.2.2.2.2.2.2.2.1) (by decide) q) fun q => q.elim (fun q => Fld.ne (HF.2.2.2.2.2.2.2.2.2.2.2.2.2.2.2.2.2.2.2.2.2.2.2.2.1) (HF.2.2.2.2.2.2.2.2.2.2.2.2.2.2.2.2.2.2.2.2.2.2.2.2.2.2.1) (by decide) q) (fun q => Fld.ne (HF.2.2.2.2.2.2.2.2.2.2.2.2.2.2.2.2.2.2.2.2.2.2.2.2.1) (HF.2.2.2.2.2.2.2.2.2.2.2.2.2.2.2.2.2.2.2.2.2.2.2.2.2.2.2.1) (by decide) q)).elim⟩⟩
  · rw [hi]
    exact ⟨w25, (503 : Int32), rfl, (HE.2.2.2.2.2.2.2.2.2.2.2.2.2.2.2.2.2.2.2.2.2.2.2.2.2.1), (HF.2.2.2.2.2.2.2.2.2.2.2.2.2.2.2.2.2.2.2.2.2.2.2.2.2.1), ⟨fun _ => Or.inr (Or.inl rfl), fun _ => rfl⟩⟩
  · rw [hi]
    exact ⟨w26, (503 : Int32), rfl, (HE.2.2.2.2.2.2.2.2.2.2.2.2.2.2.2.2.2.2.2.2.2.2.2.2.2.2.1), (HF.2.2.2.2.2.2.2.2.2.2.2.2.2.2.2.2.2.2.2.2.2.2.2.2.2.2.1), ⟨fun _ => Or.inr (Or.inr (Or.inl rfl)), fun _ => rfl⟩⟩
  · rw [hi]
    exact ⟨w27, (503 : Int32), rfl, (HE.2.2.2.2.2.2.2.2.2.2.2.2.2.2.2.2.2.2.2.2.2.2.2.2.2.2.2.1), (HF.2.2.2.2.2.2.2.2.2.2.2.2.2.2.2.2.2.2.2.2.2.2.2.2.2.2.2.1), ⟨fun _ => Or.inr (Or.inr (Or.inr (rfl))), fun _ => rfl⟩⟩
  · rw [hi]
    exact ⟨w28, (403 : Int32), rfl, (HE.2.2.2.2.2.2.2.2.2.2.2.2.2.2.2.2.2.2.2.2.2.2.2.2.2.2.2.2.1), (HF.2.2.2.2.2.2.2.2.2.2.2.2.2.2.2.2.2.2.2.2.2.2.2.2.2.2.2.2.1), ⟨fun q => absurd q (by decide), fun q => (q.elim (fun q => Fld.ne (HF.2.2.2.2.2.2.2.2.2.2.2.2.2.2.2.2.2.2.2.2.2.2.2.2.2.2.2.2.1) (HF.2.2.2.2.2.2.2.2.2.2.2.2.2.2.2.2.1) (by decide) q) fun q => q.elim (fun q => Fld.ne (HF.2.2.2.2.2.2.2.2.2.2.2.2.2.2.2.2.2.2.2.2.2.2.2.2.2.2.2.2.1) (HF.2.2.2.2.2.2.2.2.2.2.2.2.2.2.2.2.2.2.2.2.2.2.2.2.2.1) (by decide) q) fun q => q.elim (fun q => Fld.ne (HF.2.2.2.2.2.2.2.2.2.2.2.2.2.2.2.2.2.2.2.2.2.2.2.2.2.2.2.2.1) (HF.2.2.2.2.2.2.2.2.2.2.2.2.2.2.2.2.2.2.2.2.2.2.2.2.2.2.1) (by decide) q) (fun q => Fld.ne (HF.2.2.2.2.2.2.2.2.2.2.2.2.2.2.2.2.2.2.2.2.2.2.2.2.2.2.2.2.1) (HF.2.2.2.2.2.2.2.2.2.2.2.2.2.2.2.2.2.2.2.2.2.2.2.2.2.2.2.1) (by decide) q)).elim⟩⟩
  · rw [hi]
    exact ⟨w29, (403 : Int32), rfl, (HE.2.2.2.2.2.2.2.2.2.2.2.2.2.2.2.2.2.2.2.2.2.2.2.2.2.2.2.2.2.1), (HF.2.2.2.2.2.2.2.2.2.2.2.2.2.2.2.2.2.2.2.2.2.2.2.2.2.2.2.2.2.1), ⟨fun q => absurd q (by decide), fun q => (q.elim (fun q => Fld.ne (HF.2.2.2.2.2.2.2.2.2.2.2.2.2.2.2.2.2.2.2.2.2.2.2.2.2.2.2.2.2.1) (HF.2.2.2.2.2.2.2.2.2.2.2.2.2.2.2.2.1) (by decide) q) fun q => q.elim (fun q => Fld.ne (HF.2.2.2.2.2.2.2.2.2.2.2.2.2.2.2.2.2.2.2.2.2.2.2.2.2.2.2.2.2.1) (HF.2.2.2.2.2.2.2.2.2.2.2.2.2.2.2.2.2.2.2.2.2.2.2.2.2.1) (by decide) q) fun q => q.elim (fun q => Fld.ne (HF.2.2.2.2.2.2.2.2.2.2.2.2.2.2.2.2.2.2.2.2.2.2.2.2.2.2.2.2.2.1) (HF.2.2.2.2.2.2.2.2.2.2.2.2.2.2.2.2.2.2.2.2.2.2.2.2.2.2.1) (by decide) q) (fun q => Fld.ne (HF.2.2.2.2.2.2.2.2.2.2.2.2.2.2.2.2.2.2.2.2.2.2.2.2.2.2.2.2.2.1) (HF.2.2.2.2.2.2.2.2.2.2.2.2.2.2.2.2.2.2.2.2.2.2.2.2.2.2.2.1) (by decide) q)).elim⟩⟩
  · rw [hi]
    exact ⟨w30, (403 : Int32), rfl, (HE.2.2.2.2.2.2.2.2.2.2.2.2.2.2.2.2.2.2.2.2.2.2.2.2.2.2.2.2.2.2.1), (HF.2.2.2.2.2.2.2.2.2.2.2.2.2.2.2.2.2.2.2.2.2.2.2.2.2.2.2.2.2.2.1), ⟨fun q => absurd q (by decide), fun q => (q.elim (fun q => Fld.ne (HF.2.2.2.2.2.2.2.2.2.2.2.2.2.2.2.2.2.2.2.2.2.2.2.2.2.2.2.2.2.2.1) (HF.2.2.2.2.2.2.2.2.2.2.2.2.2.2.2.2.1) (by decide) q) fun q => q.elim (fun q => Fld.ne (HF.2.2.2.2.2.2.2.2.2.2.2.2.2.2.2.2.2.2.2.2.2.2.2.2.2.2.2.2.2.2.1) (HF.2.2.2.2.2.2.2.2.2.2.2.2.2.2.2.2.2.2.2.2.2.2.2.2.2.1) (by decide) q) fun q => q.elim (fun q => Fld.ne (HF.2.2.2.2.2.2.2.2.2.2.2.2.2.2.2.2.2.2.2.2.2.2.2.2.2.2.2.2.2.2.1) (HF.2.2.2.2.2.2.2.2.2.2.2.2.2.2.2.2.2.2.2.2.2.2.2.2.2.2.1) (by decide) q) (fun q => Fld.ne (HF.2.2.2.2.2.2.2.2.2.2.2.2.2.2.2.2.2.2.2.2.2.2.2.2.2.2.2.2.2.2.1) (HF.2.2.2.2.2.2.2.2.2.2.2.2.2.2.2.2.2.2.2.2.2.2.2.2.2.2.2.1) (by decide) q)).elim⟩⟩
  · rw [hi]
    exact ⟨w31, (403 : Int32), rfl, (HE.2.2.2.2.2.2.2.2.2.2.2.2.2.2.2.2.2.2.2.2.2.2.2.2.2.2.2.2.2.2.2), (HF.2.2.2.2.2.2.2.2.2.2.2.2.2.2.2.2.2.2.2.2.2.2.2.2.2.2.2.2.2.2.2), ⟨fun q => absurd q (by decide), fun q => (q.elim (fun q => Fld.ne (HF.2.2.2.2.2.2.2.2.2.2.2.2.2.2.2.2.2.2.2.2.2.2.2.2.2.2.2.2.2.2.2) (HF.2.2.2.2.2.2.2.2.2.2.2.2.2.2.2.2.1) (by decide) q) fun q => q.elim (fun q => Fld.ne (HF.2.2.2.2.2.2.2.2.2.2.2.2.2.2.2.2.2.2.2.2.2.2.2.2.2.2.2.2.2.2.2) (HF.2.2.2.2.2.2.2.2.2.2.2.2.2.2.2.2.2.2.2.2.2.2.2.2.2.1) (by decide) q) fun q => q.elim (fun q => Fld.ne (HF.2.2.2.2.2.2.2.2.2.2.2.2.2.2.2.2.2.2.2.2.2.2.2.2.2.2.2.2.2.2.2) (HF.2.2.2.2.2.2.2.2.2.2.2.2.2.2.2.2.2.2.2.2.2.2.2.2.2.2.1) (by decide) q) (fun q => Fld.ne (HF.2.2.2.2.2.2.2.2.2.2.2.2.2.2.2.2.2.2.2.2.2.2.2.2.2.2.2.2.2.2.2) (HF.2.2.2.2.2.2.2.2.2.2.2.2.2.2.2.2.2.2.2.2.2.2.2.2.2.2.2.1) (by decide) q)).elim⟩⟩
theorem own_inb (k : Int32) : ¬ (k &&& (31 : Int32)) < 0 ∧ (k &&& (31 : Int32)) < (32 : Int32) := by
  obtain ⟨a, b⟩ := own_and_bd k 31 (by decide)
  have b' : (k &&& (31 : Int32)).toInt ≤ 31 := b
  rw [Int32.lt_iff_toInt_lt, Int32.lt_iff_toInt_lt]
  have e0 : (0 : Int32).toInt = 0 := rfl
  have e1 : (32 : Int32).toInt = 32 := rfl
  omega
theorem own_pn_0 : plainName "com/example/hopguard/hopguard/core/ReasonFailsClosedPinLaw" = true := by first | (simp [plainName, overriddenIn]; done) | decide +kernel
theorem own_pd___Z : parseMethodDescriptor "()Z" = some ⟨[], some .boolean⟩ := by decide +kernel
theorem own_pd___I : parseMethodDescriptor "()I" = some ⟨[], some .int⟩ := by decide +kernel
def own_rm0_Q (Z : State) (k : Int32) (w0 w1 w2 w3 w4 w5 w6 w7 w8 w9 w10 w11 w12 w13 w14 w15 w16 w17 w18 w19 w20 w21 w22 w23 w24 w25 w26 w27 w28 w29 w30 w31 : Addr) (h0 : Heap) (n0 : Nat) (v : Option Value) (h : Heap) (L : List Loc) : Prop := v = some (.int (1 : Int32)) ∧ Fr n0 L
set_option maxRecDepth 65536 in
set_option maxHeartbeats 40000000 in
theorem own_rm0 (l : Launch) (Z : State) (a0 : Array Value) (hw : ∀ d ∈ tables_1, d.before a0 Z = true) (ws : List Jvm.Cond) (k : Int32) (w0 w1 w2 w3 w4 w5 w6 w7 w8 w9 w10 w11 w12 w13 w14 w15 w16 w17 w18 w19 w20 w21 w22 w23 w24 w25 w26 w27 w28 w29 w30 w31 : Addr) (h0 : Heap) (n0 : Nat) (Z0 : n0 ≤ h0.size) (HS : own_HS Z h0 w0 w1 w2 w3 w4 w5 w6 w7 w8 w9 w10 w11 w12 w13 w14 w15 w16 w17 w18 w19 w20 w21 w22 w23 w24 w25 w26 w27 w28 w29 w30 w31) (HE : own_HE Z h0 w0 w1 w2 w3 w4 w5 w6 w7 w8 w9 w10 w11 w12 w13 w14 w15 w16 w17 w18 w19 w20 w21 w22 w23 w24 w25 w26 w27 w28 w29 w30 w31) (HF : own_HF Z h0 w0 w1 w2 w3 w4 w5 w6 w7 w8 w9 w10 w11 w12 w13 w14 w15 w16 w17 w18 w19 w20 w21 w22 w23 w24 w25 w26 w27 w28 w29 w30 w31) :
    MetFree l x (head1 (Jvm.Cond.code x code maxLocals ret :: ws) room_1) (fun aa UU => aa = #[(.int k)] ∧ Z.Warmed39 UU.vm ∧ UU.heap = h0) (fun _ _ _ _ _ => True) (fun _ UU oo UU' => ∃ vv LL, oo = .returned vv ∧ own_rm0_Q Z k w0 w1 w2 w3 w4 w5 w6 w7 w8 w9 w10 w11 w12 w13 w14 w15 w16 w17 w18 w19 w20 w21 w22 w23 w24 w25 w26 w27 w28 w29 w30 w31 h0 n0 vv UU'.heap LL ∧ FrameEnd UU oo UU' LL room_1.cells room_1.slots) := by
  refine MetFree.of_bodySF (plainFor_of_name own_pn_0) hisR ?_
  intro p e s m args below meth cc s₁ Bd hml0 hP hK
  obtain ⟨rfl, hZ, hh⟩ := hP
  have hx := Bd.exec
  have hby := Bd.bytes
  have hml : cc.maxLocals = 5 := hml0
  have hown : s.vm.findClass "com/example/hopguard/hopguard/core/ReasonFailsClosedPinLaw" = some m.cls := findClass_of_methodNamed Bd.named
  have hnm := (name_of_methodNamed Bd.named Bd.method).1
  have X0 : Stand p l e room_1 s m #[(.int k)] below meth cc s₁ [] 0 0 := Stand.of_body Bd
  have e0 : s₁.heap = h0 := by rw [← hh, Bd.state]; rfl
  have N0 := Fr.nil n0
  have k0 : ∀ tt, Steps p.tables e below (s₁.setTop (mkF m 0 #[.val (.int k), .unset, .unset, .unset, .unset] [])) tt → Steps p.tables e below (s₁.setTop (entryFrame m #[(.int k)] maxLocals)) tt := fun tt kk => castTop (by first | (simp [entryFrame, mkF, argsToLocals, Value.category, maxLocals]; done) | rfl) kk
  obtain ⟨T1, h1, k1, X1, e1, E1, A1, O1, st1⟩ := newR X0 hx hZ hown (hw _ (List.mem_of_getElem? (i := 0) rfl)) (hw _ (List.mem_of_getElem? (i := 1) rfl)) e0 (g := (mkF m 2 #[.val (.int k), .unset, .unset, .unset, .unset] [(.int (32 : Int32))])) rfl (hb hby at_2) rfl (by decide) (cap := 32) (by decide) (by decide) (by decide) (by decide)
  obtain ⟨b1, g1⟩ : ∃ z, z = h0.size := ⟨_, rfl⟩
  rw [← g1] at A1 st1
  have g_b1 : n0 ≤ b1 := Nat.le_trans Z0 (Nat.le_of_eq g1.symm)
  have sz_b1 : h0.size ≤ b1 := Nat.le_trans (Keep.refl h0 []).1 (Nat.le_of_eq g1.symm)
  have Z1 : n0 ≤ h1.size := Nat.le_trans Z0 E1.1
  have K1 := Keep.ext (Keep.refl h0 []) E1
  have V1 : Arv Z h1 b1 k1 (.object "com/example/hopguard/hopguard/core/Reason") (32 : Int32) [.null, .null, .null, .null, .null, .null, .null, .null, .null, .null, .null, .null, .null, .null, .null, .null, .null, .null, .null, .null, .null, .null, .null, .null, .null, .null, .null, .null, .null, .null, .null, .null] .null := (Arv.new A1 (by decide)).pad (pad_rep [] .null 32)
  obtain ⟨T2, X2, e2, st2⟩ := getS2 X1 hx hZ hown (host := "") (Or.inl (hw _ (List.mem_of_getElem? (i := 2) rfl))) Via.refl e1 (own_sta_keep0 (HS.1) K1) (g := (mkF m 7 #[.val (.int k), .unset, .unset, .unset, .unset] [(.int (0 : Int32)), (.ref b1), (.ref b1)])) rfl (hb hby at_7)
  obtain ⟨cl3, Ar3, q3, S3, P3, H3, G3⟩ := id V1
  have hin3 : ¬ ((0 : Int32) < 0 ∨ cl3.slots.size ≤ ((0 : Int32)).toNatClampNeg) := inb_of S3 ⟨by decide, by decide⟩
  obtain ⟨T4, h4, X4, e4, W4, st4⟩ := stR X2 hx hZ e2 Ar3 (j := (0 : Int32)) hin3 rfl (Sto.ofV Ar3 q3 O1 (Ins.self (Exa.keep (HE.1) K1))) (g := (mkF m 10 #[.val (.int k), .unset, .unset, .unset, .unset] [(.ref w0), (.int (0 : Int32)), (.ref b1), (.ref b1)])) rfl rfl (hb hby at_10)
  have V4 : Arv Z h4 b1 k1 (.object "com/example/hopguard/hopguard/core/Reason") (32 : Int32) [(.ref w0), .null, .null, .null, .null, .null, .null, .null, .null, .null, .null, .null, .null, .null, .null, .null, .null, .null, .null, .null, .null, .null, .null, .null, .null, .null, .null, .null, .null, .null, .null, .null] .null := Arv.set Ar3 q3 S3 P3 H3 G3 rfl W4 0 rfl (Nat.le_of_ble_eq_true rfl)
  have Z4 : n0 ≤ h4.size := Nat.le_trans Z1 (Keep.of_wr W4).1
  obtain ⟨lc4, X4, N4⟩ := own_hide X4 (Fr.snoc X4 N0 g_b1)
  have K4 := Keep.wr K1 W4 (Or.inr sz_b1)
  obtain ⟨T5, X5, e5, st5⟩ := getS2 X4 hx hZ hown (host := "") (Or.inl (hw _ (List.mem_of_getElem? (i := 6) rfl))) Via.refl e4 (own_sta_keep0 (HS.2.1) K4) (g := (mkF m 13 #[.val (.int k), .unset, .unset, .unset, .unset] [(.int (1 : Int32)), (.ref b1), (.ref b1)])) rfl (hb hby at_13)
  obtain ⟨cl6, Ar6, q6, S6, P6, H6, G6⟩ := id V4
  have hin6 : ¬ ((1 : Int32) < 0 ∨ cl6.slots.size ≤ ((1 : Int32)).toNatClampNeg) := inb_of S6 ⟨by decide, by decide⟩
  obtain ⟨T7, h7, X7, e7, W7, st7⟩ := stR X5 hx hZ e5 Ar6 (j := (1 : Int32)) hin6 rfl (Sto.ofV Ar6 q6 O1 (Ins.self (Exa.keep (HE.2.1) K4))) (g := (mkF m 16 #[.val (.int k), .unset, .unset, .unset, .unset] [(.ref w1), (.int (1 : Int32)), (.ref b1), (.ref b1)])) rfl rfl (hb hby at_16)
  have V7 : Arv Z h7 b1 k1 (.object "com/example/hopguard/hopguard/core/Reason") (32 : Int32) [(.ref w0), (.ref w1), .null, .null, .null, .null, .null, .null, .null, .null, .null, .null, .null, .null, .null, .null, .null, .null, .null, .null, .null, .null, .null, .null, .null, .null, .null, .null, .null, .null, .null, .null] .null := Arv.set Ar6 q6 S6 P6 H6 G6 rfl W7 1 rfl (Nat.le_of_ble_eq_true rfl)
  have Z7 : n0 ≤ h7.size := Nat.le_trans Z4 (Keep.of_wr W7).1
  obtain ⟨lc7, X7, N7⟩ := own_hide X7 (Fr.snoc X7 N4 g_b1)
  have K7 := Keep.wr K4 W7 (Or.inr sz_b1)
  have k8 : ∀ tt, Steps p.tables e below (T7.setTop (mkF m 17 #[.val (.int k), .unset, .unset, .unset, .unset] [(.ref b1)])) tt → Steps p.tables e below (s₁.setTop (entryFrame m #[(.int k)] maxLocals)) tt := by
    intro tt kk
    refine k0 tt ?_
    show Steps p.tables e below (s₁.setTop (mkF m 0 #[.val (.int k), .unset, .unset, .unset, .unset] [])) tt
    refine XS.bipush X0.here hx rfl (hb hby at_0) ?_
    show Steps p.tables e below (s₁.setTop (mkF m 2 #[.val (.int k), .unset, .unset, .unset, .unset] [(.int (32 : Int32))])) tt
    refine st1 _ ?_
    show Steps p.tables e below (T1.setTop (mkF m 5 #[.val (.int k), .unset, .unset, .unset, .unset] [(.ref b1)])) tt
    refine XS.dup X1.here hx rfl (hb hby at_5) rfl rfl ?_
    show Steps p.tables e below (T1.setTop (mkF m 6 #[.val (.int k), .unset, .unset, .unset, .unset] [(.ref b1), (.ref b1)])) tt
    refine XS.iconst X1.here hx rfl (hb hby at_6) ?_
    show Steps p.tables e below (T1.setTop (mkF m 7 #[.val (.int k), .unset, .unset, .unset, .unset] [(.int (0 : Int32)), (.ref b1), (.ref b1)])) tt
    refine st2 _ ?_
    show Steps p.tables e below (T2.setTop (mkF m 10 #[.val (.int k), .unset, .unset, .unset, .unset] [(.ref w0), (.int (0 : Int32)), (.ref b1), (.ref b1)])) tt
    refine st4 _ ?_
    show Steps p.tables e below (T4.setTop (mkF m 11 #[.val (.int k), .unset, .unset, .unset, .unset] [(.ref b1)])) tt
    refine XS.dup X4.here hx rfl (hb hby at_11) rfl rfl ?_
    show Steps p.tables e below (T4.setTop (mkF m 12 #[.val (.int k), .unset, .unset, .unset, .unset] [(.ref b1), (.ref b1)])) tt
    refine XS.iconst X4.here hx rfl (hb hby at_12) ?_
    show Steps p.tables e below (T4.setTop (mkF m 13 #[.val (.int k), .unset, .unset, .unset, .unset] [(.int (1 : Int32)), (.ref b1), (.ref b1)])) tt
    refine st5 _ ?_
    show Steps p.tables e below (T5.setTop (mkF m 16 #[.val (.int k), .unset, .unset, .unset, .unset] [(.ref w1), (.int (1 : Int32)), (.ref b1), (.ref b1)])) tt
    refine st7 _ ?_
    exact kk
  obtain ⟨T9, X9, e9, st9⟩ := getS2 X7 hx hZ hown (host := "") (Or.inl (hw _ (List.mem_of_getElem? (i := 8) rfl))) Via.refl e7 (own_sta_keep0 (HS.2.2.1) K7) (g := (mkF m 19 #[.val (.int k), .unset, .unset, .unset, .unset] [(.int (2 : Int32)), (.ref b1), (.ref b1)])) rfl (hb hby at_19)
  obtain ⟨cl10, Ar10, q10, S10, P10, H10, G10⟩ := id V7
  have hin10 : ¬ ((2 : Int32) < 0 ∨ cl10.slots.size ≤ ((2 : Int32)).toNatClampNeg) := inb_of S10 ⟨by decide, by decide⟩
  obtain ⟨T11, h11, X11, e11, W11, st11⟩ := stR X9 hx hZ e9 Ar10 (j := (2 : Int32)) hin10 rfl (Sto.ofV Ar10 q10 O1 (Ins.self (Exa.keep (HE.2.2.1) K7))) (g := (mkF m 22 #[.val (.int k), .unset, .unset, .unset, .unset] [(.ref w2), (.int (2 : Int32)), (.ref b1), (.ref b1)])) rfl rfl (hb hby at_22)
  have V11 : Arv Z h11 b1 k1 (.object "com/example/hopguard/hopguard/core/Reason") (32 : Int32) [(.ref w0), (.ref w1), (.ref w2), .null, .null, .null, .null, .null, .null, .null, .null, .null, .null, .null, .null, .null, .null, .null, .null, .null, .null, .null, .null, .null, .null, .null, .null, .null, .null, .null, .null, .null] .null := Arv.set Ar10 q10 S10 P10 H10 G10 rfl W11 2 rfl (Nat.le_of_ble_eq_true rfl)
  have Z11 : n0 ≤ h11.size := Nat.le_trans Z7 (Keep.of_wr W11).1
  obtain ⟨lc11, X11, N11⟩ := own_hide X11 (Fr.snoc X11 N7 g_b1)
  have K11 := Keep.wr K7 W11 (Or.inr sz_b1)
  obtain ⟨T12, X12, e12, st12⟩ := getS2 X11 hx hZ hown (host := "") (Or.inl (hw _ (List.mem_of_getElem? (i := 10) rfl))) Via.refl e11 (own_sta_keep0 (HS.2.2.2.1) K11) (g := (mkF m 25 #[.val (.int k), .unset, .unset, .unset, .unset] [(.int (3 : Int32)), (.ref b1), (.ref b1)])) rfl (hb hby at_25)
  obtain ⟨cl13, Ar13, q13, S13, P13, H13, G13⟩ := id V11
  have hin13 : ¬ ((3 : Int32) < 0 ∨ cl13.slots.size ≤ ((3 : Int32)).toNatClampNeg) := inb_of S13 ⟨by decide, by decide⟩
  obtain ⟨T14, h14, X14, e14, W14, st14⟩ := stR X12 hx hZ e12 Ar13 (j := (3 : Int32)) hin13 rfl (Sto.ofV Ar13 q13 O1 (Ins.self (Exa.keep (HE.2.2.2.1) K11))) (g := (mkF m 28 #[.val (.int k), .unset, .unset, .unset, .unset] [(.ref w3), (.int (3 : Int32)), (.ref b1), (.ref b1)])) rfl rfl (hb hby at_28)
  have V14 : Arv Z h14 b1 k1 (.object "com/example/hopguard/hopguard/core/Reason") (32 : Int32) [(.ref w0), (.ref w1), (.ref w2), (.ref w3), .null, .null, .null, .null, .null, .null, .null, .null, .null, .null, .null, .null, .null, .null, .null, .null, .null, .null, .null, .null, .null, .null, .null, .null, .null, .null, .null, .null] .null := Arv.set Ar13 q13 S13 P13 H13 G13 rfl W14 3 rfl (Nat.le_of_ble_eq_true rfl)
  have Z14 : n0 ≤ h14.size := Nat.le_trans Z11 (Keep.of_wr W14).1
  obtain ⟨lc14, X14, N14⟩ := own_hide X14 (Fr.snoc X14 N11 g_b1)
  have K14 := Keep.wr K11 W14 (Or.inr sz_b1)
  have k15 : ∀ tt, Steps p.tables e below (T14.setTop (mkF m 31 #[.val (.int k), .unset, .unset, .unset, .unset] [(.int (4 : Int32)), (.ref b1), (.ref b1)])) tt → Steps p.tables e below (s₁.setTop (entryFrame m #[(.int k)] maxLocals)) tt := by
    intro tt kk
    refine k8 tt ?_
    show Steps p.tables e below (T7.setTop (mkF m 17 #[.val (.int k), .unset, .unset, .unset, .unset] [(.ref b1)])) tt
    refine XS.dup X7.here hx rfl (hb hby at_17) rfl rfl ?_
    show Steps p.tables e below (T7.setTop (mkF m 18 #[.val (.int k), .unset, .unset, .unset, .unset] [(.ref b1), (.ref b1)])) tt
    refine XS.iconst X7.here hx rfl (hb hby at_18) ?_
    show Steps p.tables e below (T7.setTop (mkF m 19 #[.val (.int k), .unset, .unset, .unset, .unset] [(.int (2 : Int32)), (.ref b1), (.ref b1)])) tt
    refine st9 _ ?_
    show Steps p.tables e below (T9.setTop (mkF m 22 #[.val (.int k), .unset, .unset, .unset, .unset] [(.ref w2), (.int (2 : Int32)), (.ref b1), (.ref b1)])) tt
    refine st11 _ ?_
    show Steps p.tables e below (T11.setTop (mkF m 23 #[.val (.int k), .unset, .unset, .unset, .unset] [(.ref b1)])) tt
    refine XS.dup X11.here hx rfl (hb hby at_23) rfl rfl ?_
    show Steps p.tables e below (T11.setTop (mkF m 24 #[.val (.int k), .unset, .unset, .unset, .unset] [(.ref b1), (.ref b1)])) tt
    refine XS.iconst X11.here hx rfl (hb hby at_24) ?_
    show Steps p.tables e below (T11.setTop (mkF m 25 #[.val (.int k), .unset, .unset, .unset, .unset] [(.int (3 : Int32)), (.ref b1), (.ref b1)])) tt
    refine st12 _ ?_
    show Steps p.tables e below (T12.setTop (mkF m 28 #[.val (.int k), .unset, .unset, .unset, .unset] [(.ref w3), (.int (3 : Int32)), (.ref b1), (.ref b1)])) tt
    refine st14 _ ?_
    show Steps p.tables e below (T14.setTop (mkF m 29 #[.val (.int k), .unset, .unset, .unset, .unset] [(.ref b1)])) tt
    refine XS.dup X14.here hx rfl (hb hby at_29) rfl rfl ?_
    show Steps p.tables e below (T14.setTop (mkF m 30 #[.val (.int k), .unset, .unset, .unset, .unset] [(.ref b1), (.ref b1)])) tt
    refine XS.iconst X14.here hx rfl (hb hby at_30) ?_
    exact kk
  obtain ⟨T16, X16, e16, st16⟩ := getS2 X14 hx hZ hown (host := "") (Or.inl (hw _ (List.mem_of_getElem? (i := 12) rfl))) Via.refl e14 (own_sta_keep0 (HS.2.2.2.2.1) K14) (g := (mkF m 31 #[.val (.int k), .unset, .unset, .unset, .unset] [(.int (4 : Int32)), (.ref b1), (.ref b1)])) rfl (hb hby at_31)
  obtain ⟨cl17, Ar17, q17, S17, P17, H17, G17⟩ := id V14
  have hin17 : ¬ ((4 : Int32) < 0 ∨ cl17.slots.size ≤ ((4 : Int32)).toNatClampNeg) := inb_of S17 ⟨by decide, by decide⟩
  obtain ⟨T18, h18, X18, e18, W18, st18⟩ := stR X16 hx hZ e16 Ar17 (j := (4 : Int32)) hin17 rfl (Sto.ofV Ar17 q17 O1 (Ins.self (Exa.keep (HE.2.2.2.2.1) K14))) (g := (mkF m 34 #[.val (.int k), .unset, .unset, .unset, .unset] [(.ref w4), (.int (4 : Int32)), (.ref b1), (.ref b1)])) rfl rfl (hb hby at_34)
  have V18 : Arv Z h18 b1 k1 (.object "com/example/hopguard/hopguard/core/Reason") (32 : Int32) [(.ref w0), (.ref w1), (.ref w2), (.ref w3), (.ref w4), .null, .null, .null, .null, .null, .null, .null, .null, .null, .null, .null, .null, .null, .null, .null, .null, .null, .null, .null, .null, .null, .null, .null, .null, .null, .null, .null] .null := Arv.set Ar17 q17 S17 P17 H17 G17 rfl W18 4 rfl (Nat.le_of_ble_eq_true rfl)
  have Z18 : n0 ≤ h18.size := Nat.le_trans Z14 (Keep.of_wr W18).1
  obtain ⟨lc18, X18, N18⟩ := own_hide X18 (Fr.snoc X18 N14 g_b1)
  have K18 := Keep.wr K14 W18 (Or.inr sz_b1)
  obtain ⟨T19, X19, e19, st19⟩ := getS2 X18 hx hZ hown (host := "") (Or.inl (hw _ (List.mem_of_getElem? (i := 14) rfl))) Via.refl e18 (own_sta_keep0 (HS.2.2.2.2.2.1) K18) (g := (mkF m 37 #[.val (.int k), .unset, .unset, .unset, .unset] [(.int (5 : Int32)), (.ref b1), (.ref b1)])) rfl (hb hby at_37)
  obtain ⟨cl20, Ar20, q20, S20, P20, H20, G20⟩ := id V18
  have hin20 : ¬ ((5 : Int32) < 0 ∨ cl20.slots.size ≤ ((5 : Int32)).toNatClampNeg) := inb_of S20 ⟨by decide, by decide⟩
  obtain ⟨T21, h21, X21, e21, W21, st21⟩ := stR X19 hx hZ e19 Ar20 (j := (5 : Int32)) hin20 rfl (Sto.ofV Ar20 q20 O1 (Ins.self (Exa.keep (HE.2.2.2.2.2.1) K18))) (g := (mkF m 40 #[.val (.int k), .unset, .unset, .unset, .unset] [(.ref w5), (.int (5 : Int32)), (.ref b1), (.ref b1)])) rfl rfl (hb hby at_40)
  have V21 : Arv Z h21 b1 k1 (.object "com/example/hopguard/hopguard/core/Reason") (32 : Int32) [(.ref w0), (.ref w1), (.ref w2), (.ref w3), (.ref w4), (.ref w5), .null, .null, .null, .null, .null, .null, .null, .null, .null, .null, .null, .null, .null, .null, .null, .null, .null, .null, .null, .null, .null, .null, .null, .null, .null, .null] .null := Arv.set Ar20 q20 S20 P20 H20 G20 rfl W21 5 rfl (Nat.le_of_ble_eq_true rfl)
  have Z21 : n0 ≤ h21.size := Nat.le_trans Z18 (Keep.of_wr W21).1
  obtain ⟨lc21, X21, N21⟩ := own_hide X21 (Fr.snoc X21 N18 g_b1)
  have K21 := Keep.wr K18 W21 (Or.inr sz_b1)
  obtain ⟨T22, X22, e22, st22⟩ := getS2 X21 hx hZ hown (host := "") (Or.inl (hw _ (List.mem_of_getElem? (i := 16) rfl))) Via.refl e21 (own_sta_keep0 (HS.2.2.2.2.2.2.1) K21) (g := (mkF m 44 #[.val (.int k), .unset, .unset, .unset, .unset] [(.int (6 : Int32)), (.ref b1), (.ref b1)])) rfl (hb hby at_44)
  obtain ⟨cl23, Ar23, q23, S23, P23, H23, G23⟩ := id V21
  have hin23 : ¬ ((6 : Int32) < 0 ∨ cl23.slots.size ≤ ((6 : Int32)).toNatClampNeg) := inb_of S23 ⟨by decide, by decide⟩
  obtain ⟨T24, h24, X24, e24, W24, st24⟩ := stR X22 hx hZ e22 Ar23 (j := (6 : Int32)) hin23 rfl (Sto.ofV Ar23 q23 O1 (Ins.self (Exa.keep (HE.2.2.2.2.2.2.1) K21))) (g := (mkF m 47 #[.val (.int k), .unset, .unset, .unset, .unset] [(.ref w6), (.int (6 : Int32)), (.ref b1), (.ref b1)])) rfl rfl (hb hby at_47)
  have V24 : Arv Z h24 b1 k1 (.object "com/example/hopguard/hopguard/core/Reason") (32 : Int32) [(.ref w0), (.ref w1), (.ref w2), (.ref w3), (.ref w4), (.ref w5), (.ref w6), .null, .null, .null, .null, .null, .null, .null, .null, .null, .null, .null, .null, .null, .null, .null, .null, .null, .null, .null, .null, .null, .null, .null, .null, .null] .null := Arv.set Ar23 q23 S23 P23 H23 G23 rfl W24 6 rfl (Nat.le_of_ble_eq_true rfl)
  have Z24 : n0 ≤ h24.size := Nat.le_trans Z21 (Keep.of_wr W24).1
  obtain ⟨lc24, X24, N24⟩ := own_hide X24 (Fr.snoc X24 N21 g_b1)
  have K24 := Keep.wr K21 W24 (Or.inr sz_b1)
  have k25 : ∀ tt, Steps p.tables e below (T24.setTop (mkF m 48 #[.val (.int k), .unset, .unset, .unset, .unset] [(.ref b1)])) tt → Steps p.tables e below (s₁.setTop (entryFrame m #[(.int k)] maxLocals)) tt := by
    intro tt kk
    refine k15 tt ?_
    show Steps p.tables e below (T14.setTop (mkF m 31 #[.val (.int k), .unset, .unset, .unset, .unset] [(.int (4 : Int32)), (.ref b1), (.ref b1)])) tt
    refine st16 _ ?_
    show Steps p.tables e below (T16.setTop (mkF m 34 #[.val (.int k), .unset, .unset, .unset, .unset] [(.ref w4), (.int (4 : Int32)), (.ref b1), (.ref b1)])) tt
    refine st18 _ ?_
    show Steps p.tables e below (T18.setTop (mkF m 35 #[.val (.int k), .unset, .unset, .unset, .unset] [(.ref b1)])) tt
    refine XS.dup X18.here hx rfl (hb hby at_35) rfl rfl ?_
    show Steps p.tables e below (T18.setTop (mkF m 36 #[.val (.int k), .unset, .unset, .unset, .unset] [(.ref b1), (.ref b1)])) tt
    refine XS.iconst X18.here hx rfl (hb hby at_36) ?_
    show Steps p.tables e below (T18.setTop (mkF m 37 #[.val (.int k), .unset, .unset, .unset, .unset] [(.int (5 : Int32)), (.ref b1), (.ref b1)])) tt
    refine st19 _ ?_
    show Steps p.tables e below (T19.setTop (mkF m 40 #[.val (.int k), .unset, .unset, .unset, .unset] [(.ref w5), (.int (5 : Int32)), (.ref b1), (.ref b1)])) tt
    refine st21 _ ?_
    show Steps p.tables e below (T21.setTop (mkF m 41 #[.val (.int k), .unset, .unset, .unset, .unset] [(.ref b1)])) tt
    refine XS.dup X21.here hx rfl (hb hby at_41) rfl rfl ?_
    show Steps p.tables e below (T21.setTop (mkF m 42 #[.val (.int k), .unset, .unset, .unset, .unset] [(.ref b1), (.ref b1)])) tt
    refine XS.bipush X21.here hx rfl (hb hby at_42) ?_
    show Steps p.tables e below (T21.setTop (mkF m 44 #[.val (.int k), .unset, .unset, .unset, .unset] [(.int (6 : Int32)), (.ref b1), (.ref b1)])) tt
    refine st22 _ ?_
    show Steps p.tables e below (T22.setTop (mkF m 47 #[.val (.int k), .unset, .unset, .unset, .unset] [(.ref w6), (.int (6 : Int32)), (.ref b1), (.ref b1)])) tt
    refine st24 _ ?_
    exact kk
  obtain ⟨T26, X26, e26, st26⟩ := getS2 X24 hx hZ hown (host := "") (Or.inl (hw _ (List.mem_of_getElem? (i := 18) rfl))) Via.refl e24 (own_sta_keep0 (HS.2.2.2.2.2.2.2.1) K24) (g := (mkF m 51 #[.val (.int k), .unset, .unset, .unset, .unset] [(.int (7 : Int32)), (.ref b1), (.ref b1)])) rfl (hb hby at_51)
  obtain ⟨cl27, Ar27, q27, S27, P27, H27, G27⟩ := id V24
  have hin27 : ¬ ((7 : Int32) < 0 ∨ cl27.slots.size ≤ ((7 : Int32)).toNatClampNeg) := inb_of S27 ⟨by decide, by decide⟩
  obtain ⟨T28, h28, X28, e28, W28, st28⟩ := stR X26 hx hZ e26 Ar27 (j := (7 : Int32)) hin27 rfl (Sto.ofV Ar27 q27 O1 (Ins.self (Exa.keep (HE.2.2.2.2.2.2.2.1) K24))) (g := (mkF m 54 #[.val (.int k), .unset, .unset, .unset, .unset] [(.ref w7), (.int (7 : Int32)), (.ref b1), (.ref b1)])) rfl rfl (hb hby at_54)
  have V28 : Arv Z h28 b1 k1 (.object "com/example/hopguard/hopguard/core/Reason") (32 : Int32) [(.ref w0), (.ref w1), (.ref w2), (.ref w3), (.ref w4), (.ref w5), (.ref w6), (.ref w7), .null, .null, .null, .null, .null, .null, .null, .null, .null, .null, .null, .null, .null, .null, .null, .null, .null, .null, .null, .null, .null, .null, .null, .null] .null := Arv.set Ar27 q27 S27 P27 H27 G27 rfl W28 7 rfl (Nat.le_of_ble_eq_true rfl)
  have Z28 : n0 ≤ h28.size := Nat.le_trans Z24 (Keep.of_wr W28).1
  obtain ⟨lc28, X28, N28⟩ := own_hide X28 (Fr.snoc X28 N24 g_b1)
  have K28 := Keep.wr K24 W28 (Or.inr sz_b1)
  obtain ⟨T29, X29, e29, st29⟩ := getS2 X28 hx hZ hown (host := "") (Or.inl (hw _ (List.mem_of_getElem? (i := 20) rfl))) Via.refl e28 (own_sta_keep0 (HS.2.2.2.2.2.2.2.2.1) K28) (g := (mkF m 58 #[.val (.int k), .unset, .unset, .unset, .unset] [(.int (8 : Int32)), (.ref b1), (.ref b1)])) rfl (hb hby at_58)
  obtain ⟨cl30, Ar30, q30, S30, P30, H30, G30⟩ := id V28
  have hin30 : ¬ ((8 : Int32) < 0 ∨ cl30.slots.size ≤ ((8 : Int32)).toNatClampNeg) := inb_of S30 ⟨by decide, by decide⟩
  obtain ⟨T31, h31, X31, e31, W31, st31⟩ := stR X29 hx hZ e29 Ar30 (j := (8 : Int32)) hin30 rfl (Sto.ofV Ar30 q30 O1 (Ins.self (Exa.keep (HE.2.2.2.2.2.2.2.2.1) K28))) (g := (mkF m 61 #[.val (.int k), .unset, .unset, .unset, .unset] [(.ref w8), (.int (8 : Int32)), (.ref b1), (.ref b1)])) rfl rfl (hb hby at_61)
  have V31 : Arv Z h31 b1 k1 (.object "com/example/hopguard/hopguard/core/Reason") (32 : Int32) [(.ref w0), (.ref w1), (.ref w2), (.ref w3), (.ref w4), (.ref w5), (.ref w6), (.ref w7), (.ref w8), .null, .null, .null, .null, .null, .null, .null, .null, .null, .null, .null, .null, .null, .null, .null, .null, .null, .null, .null, .null, .null, .null, .null] .null := Arv.set Ar30 q30 S30 P30 H30 G30 rfl W31 8 rfl (Nat.le_of_ble_eq_true rfl)
  have Z31 : n0 ≤ h31.size := Nat.le_trans Z28 (Keep.of_wr W31).1
  obtain ⟨lc31, X31, N31⟩ := own_hide X31 (Fr.snoc X31 N28 g_b1)
  have K31 := Keep.wr K28 W31 (Or.inr sz_b1)
  have k32 : ∀ tt, Steps p.tables e below (T31.setTop (mkF m 65 #[.val (.int k), .unset, .unset, .unset, .unset] [(.int (9 : Int32)), (.ref b1), (.ref b1)])) tt → Steps p.tables e below (s₁.setTop (entryFrame m #[(.int k)] maxLocals)) tt := by
    intro tt kk
    refine k25 tt ?_
    show Steps p.tables e below (T24.setTop (mkF m 48 #[.val (.int k), .unset, .unset, .unset, .unset] [(.ref b1)])) tt
    refine XS.dup X24.here hx rfl (hb hby at_48) rfl rfl ?_
    show Steps p.tables e below (T24.setTop (mkF m 49 #[.val (.int k), .unset, .unset, .unset, .unset] [(.ref b1), (.ref b1)])) tt
    refine XS.bipush X24.here hx rfl (hb hby at_49) ?_
    show Steps p.tables e below (T24.setTop (mkF m 51 #[.val (.int k), .unset, .unset, .unset, .unset] [(.int (7 : Int32)), (.ref b1), (.ref b1)])) tt
    refine st26 _ ?_
    show Steps p.tables e below (T26.setTop (mkF m 54 #[.val (.int k), .unset, .unset, .unset, .unset] [(.ref w7), (.int (7 : Int32)), (.ref b1), (.ref b1)])) tt
    refine st28 _ ?_
    show Steps p.tables e below (T28.setTop (mkF m 55 #[.val (.int k), .unset, .unset, .unset, .unset] [(.ref b1)])) tt
    refine XS.dup X28.here hx rfl (hb hby at_55) rfl rfl ?_
    show Steps p.tables e below (T28.setTop (mkF m 56 #[.val (.int k), .unset, .unset, .unset, .unset] [(.ref b1), (.ref b1)])) tt
    refine XS.bipush X28.here hx rfl (hb hby at_56) ?_
    show Steps p.tables e below (T28.setTop (mkF m 58 #[.val (.int k), .unset, .unset, .unset, .unset] [(.int (8 : Int32)), (.ref b1), (.ref b1)])) tt
    refine st29 _ ?_
    show Steps p.tables e below (T29.setTop (mkF m 61 #[.val (.int k), .unset, .unset, .unset, .unset] [(.ref w8), (.int (8 : Int32)), (.ref b1), (.ref b1)])) tt
    refine st31 _ ?_
    show Steps p.tables e below (T31.setTop (mkF m 62 #[.val (.int k), .unset, .unset, .unset, .unset] [(.ref b1)])) tt
    refine XS.dup X31.here hx rfl (hb hby at_62) rfl rfl ?_
    show Steps p.tables e below (T31.setTop (mkF m 63 #[.val (.int k), .unset, .unset, .unset, .unset] [(.ref b1), (.ref b1)])) tt
    refine XS.bipush X31.here hx rfl (hb hby at_63) ?_
    exact kk
  obtain ⟨T33, X33, e33, st33⟩ := getS2 X31 hx hZ hown (host := "") (Or.inl (hw _ (List.mem_of_getElem? (i := 22) rfl))) Via.refl e31 (own_sta_keep0 (HS.2.2.2.2.2.2.2.2.2.1) K31) (g := (mkF m 65 #[.val (.int k), .unset, .unset, .unset, .unset] [(.int (9 : Int32)), (.ref b1), (.ref b1)])) rfl (hb hby at_65)
  obtain ⟨cl34, Ar34, q34, S34, P34, H34, G34⟩ := id V31
  have hin34 : ¬ ((9 : Int32) < 0 ∨ cl34.slots.size ≤ ((9 : Int32)).toNatClampNeg) := inb_of S34 ⟨by decide, by decide⟩
  obtain ⟨T35, h35, X35, e35, W35, st35⟩ := stR X33 hx hZ e33 Ar34 (j := (9 : Int32)) hin34 rfl (Sto.ofV Ar34 q34 O1 (Ins.self (Exa.keep (HE.2.2.2.2.2.2.2.2.2.1) K31))) (g := (mkF m 68 #[.val (.int k), .unset, .unset, .unset, .unset] [(.ref w9), (.int (9 : Int32)), (.ref b1), (.ref b1)])) rfl rfl (hb hby at_68)
  have V35 : Arv Z h35 b1 k1 (.object "com/example/hopguard/hopguard/core/Reason") (32 : Int32) [(.ref w0), (.ref w1), (.ref w2), (.ref w3), (.ref w4), (.ref w5), (.ref w6), (.ref w7), (.ref w8), (.ref w9), .null, .null, .null, .null, .null, .null, .null, .null, .null, .null, .null, .null, .null, .null, .null, .null, .null, .null, .null, .null, .null, .null] .null := Arv.set Ar34 q34 S34 P34 H34 G34 rfl W35 9 rfl (Nat.le_of_ble_eq_true rfl)
  have Z35 : n0 ≤ h35.size := Nat.le_trans Z31 (Keep.of_wr W35).1
  obtain ⟨lc35, X35, N35⟩ := own_hide X35 (Fr.snoc X35 N31 g_b1)
  have K35 := Keep.wr K31 W35 (Or.inr sz_b1)
  obtain ⟨T36, X36, e36, st36⟩ := getS2 X35 hx hZ hown (host := "") (Or.inl (hw _ (List.mem_of_getElem? (i := 24) rfl))) Via.refl e35 (own_sta_keep0 (HS.2.2.2.2.2.2.2.2.2.2.1) K35) (g := (mkF m 72 #[.val (.int k), .unset, .unset, .unset, .unset] [(.int (10 : Int32)), (.ref b1), (.ref b1)])) rfl (hb hby at_72)
  obtain ⟨cl37, Ar37, q37, S37, P37, H37, G37⟩ := id V35
  have hin37 : ¬ ((10 : Int32) < 0 ∨ cl37.slots.size ≤ ((10 : Int32)).toNatClampNeg) := inb_of S37 ⟨by decide, by decide⟩
  obtain ⟨T38, h38, X38, e38, W38, st38⟩ := stR X36 hx hZ e36 Ar37 (j := (10 : Int32)) hin37 rfl (Sto.ofV Ar37 q37 O1 (Ins.self (Exa.keep (HE.2.2.2.2.2.2.2.2.2.2.1) K35))) (g := (mkF m 75 #[.val (.int k), .unset, .unset, .unset, .unset] [(.ref w10), (.int (10 : Int32)), (.ref b1), (.ref b1)])) rfl rfl (hb hby at_75)
  have V38 : Arv Z h38 b1 k1 (.object "com/example/hopguard/hopguard/core/Reason") (32 : Int32) [(.ref w0), (.ref w1), (.ref w2), (.ref w3), (.ref w4), (.ref w5), (.ref w6), (.ref w7), (.ref w8), (.ref w9), (.ref w10), .null, .null, .null, .null, .null, .null, .null, .null, .null, .null, .null, .null, .null, .null, .null, .null, .null, .null, .null, .null, .null] .null := Arv.set Ar37 q37 S37 P37 H37 G37 rfl W38 10 rfl (Nat.le_of_ble_eq_true rfl)
  have Z38 : n0 ≤ h38.size := Nat.le_trans Z35 (Keep.of_wr W38).1
  obtain ⟨lc38, X38, N38⟩ := own_hide X38 (Fr.snoc X38 N35 g_b1)
  have K38 := Keep.wr K35 W38 (Or.inr sz_b1)
  obtain ⟨T39, X39, e39, st39⟩ := getS2 X38 hx hZ hown (host := "") (Or.inl (hw _ (List.mem_of_getElem? (i := 26) rfl))) Via.refl e38 (own_sta_keep0 (HS.2.2.2.2.2.2.2.2.2.2.2.1) K38) (g := (mkF m 79 #[.val (.int k), .unset, .unset, .unset, .unset] [(.int (11 : Int32)), (.ref b1), (.ref b1)])) rfl (hb hby at_79)
  obtain ⟨cl40, Ar40, q40, S40, P40, H40, G40⟩ := id V38
  have hin40 : ¬ ((11 : Int32) < 0 ∨ cl40.slots.size ≤ ((11 : Int32)).toNatClampNeg) := inb_of S40 ⟨by decide, by decide⟩
  obtain ⟨T41, h41, X41, e41, W41, st41⟩ := stR X39 hx hZ e39 Ar40 (j := (11 : Int32)) hin40 rfl (Sto.ofV Ar40 q40 O1 (Ins.self (Exa.keep (HE.2.2.2.2.2.2.2.2.2.2.2.1) K38))) (g := (mkF m 82 #[.val (.int k), .unset, .unset, .unset, .unset] [(.ref w11), (.int (11 : Int32)), (.ref b1), (.ref b1)])) rfl rfl (hb hby at_82)
  have V41 : Arv Z h41 b1 k1 (.object "com/example/hopguard/hopguard/core/Reason") (32 : Int32) [(.ref w0), (.ref w1), (.ref w2), (.ref w3), (.ref w4), (.ref w5), (.ref w6), (.ref w7), (.ref w8), (.ref w9), (.ref w10), (.ref w11), .null, .null, .null, .null, .null, .null, .null, .null, .null, .null, .null, .null, .null, .null, .null, .null, .null, .null, .null, .null] .null := Arv.set Ar40 q40 S40 P40 H40 G40 rfl W41 11 rfl (Nat.le_of_ble_eq_true rfl)
  have Z41 : n0 ≤ h41.size := Nat.le_trans Z38 (Keep.of_wr W41).1
  obtain ⟨lc41, X41, N41⟩ := own_hide X41 (Fr.snoc X41 N38 g_b1)
  have K41 := Keep.wr K38 W41 (Or.inr sz_b1)
  have k42 : ∀ tt, Steps p.tables e below (T41.setTop (mkF m 83 #[.val (.int k), .unset, .unset, .unset, .unset] [(.ref b1)])) tt → Steps p.tables e below (s₁.setTop (entryFrame m #[(.int k)] maxLocals)) tt := by
    intro tt kk
    refine k32 tt ?_
    show Steps p.tables e below (T31.setTop (mkF m 65 #[.val (.int k), .unset, .unset, .unset, .unset] [(.int (9 : Int32)), (.ref b1), (.ref b1)])) tt
    refine st33 _ ?_
    show Steps p.tables e below (T33.setTop (mkF m 68 #[.val (.int k), .unset, .unset, .unset, .unset] [(.ref w9), (.int (9 : Int32)), (.ref b1), (.ref b1)])) tt
    refine st35 _ ?_
    show Steps p.tables e below (T35.setTop (mkF m 69 #[.val (.int k), .unset, .unset, .unset, .unset] [(.ref b1)])) tt
    refine XS.dup X35.here hx rfl (hb hby at_69) rfl rfl ?_
    show Steps p.tables e below (T35.setTop (mkF m 70 #[.val (.int k), .unset, .unset, .unset, .unset] [(.ref b1), (.ref b1)])) tt
    refine XS.bipush X35.here hx rfl (hb hby at_70) ?_
    show Steps p.tables e below (T35.setTop (mkF m 72 #[.val (.int k), .unset, .unset, .unset, .unset] [(.int (10 : Int32)), (.ref b1), (.ref b1)])) tt
    refine st36 _ ?_
    show Steps p.tables e below (T36.setTop (mkF m 75 #[.val (.int k), .unset, .unset, .unset, .unset] [(.ref w10), (.int (10 : Int32)), (.ref b1), (.ref b1)])) tt
    refine st38 _ ?_
    show Steps p.tables e below (T38.setTop (mkF m 76 #[.val (.int k), .unset, .unset, .unset, .unset] [(.ref b1)])) tt
    refine XS.dup X38.here hx rfl (hb hby at_76) rfl rfl ?_
    show Steps p.tables e below (T38.setTop (mkF m 77 #[.val (.int k), .unset, .unset, .unset, .unset] [(.ref b1), (.ref b1)])) tt
    refine XS.bipush X38.here hx rfl (hb hby at_77) ?_
    show Steps p.tables e below (T38.setTop (mkF m 79 #[.val (.int k), .unset, .unset, .unset, .unset] [(.int (11 : Int32)), (.ref b1), (.ref b1)])) tt
    refine st39 _ ?_
    show Steps p.tables e below (T39.setTop (mkF m 82 #[.val (.int k), .unset, .unset, .unset, .unset] [(.ref w11), (.int (11 : Int32)), (.ref b1), (.ref b1)])) tt
    refine st41 _ ?_
    exact kk
  obtain ⟨T43, X43, e43, st43⟩ := getS2 X41 hx hZ hown (host := "") (Or.inl (hw _ (List.mem_of_getElem? (i := 28) rfl))) Via.refl e41 (own_sta_keep0 (HS.2.2.2.2.2.2.2.2.2.2.2.2.1) K41) (g := (mkF m 86 #[.val (.int k), .unset, .unset, .unset, .unset] [(.int (12 : Int32)), (.ref b1), (.ref b1)])) rfl (hb hby at_86)
  obtain ⟨cl44, Ar44, q44, S44, P44, H44, G44⟩ := id V41
  have hin44 : ¬ ((12 : Int32) < 0 ∨ cl44.slots.size ≤ ((12 : Int32)).toNatClampNeg) := inb_of S44 ⟨by decide, by decide⟩
  obtain ⟨T45, h45, X45, e45, W45, st45⟩ := stR X43 hx hZ e43 Ar44 (j := (12 : Int32)) hin44 rfl (Sto.ofV Ar44 q44 O1 (Ins.self (Exa.keep (HE.2.2.2.2.2.2.2.2.2.2.2.2.1) K41))) (g := (mkF m 89 #[.val (.int k), .unset, .unset, .unset, .unset] [(.ref w12), (.int (12 : Int32)), (.ref b1), (.ref b1)])) rfl rfl (hb hby at_89)
  have V45 : Arv Z h45 b1 k1 (.object "com/example/hopguard/hopguard/core/Reason") (32 : Int32) [(.ref w0), (.ref w1), (.ref w2), (.ref w3), (.ref w4), (.ref w5), (.ref w6), (.ref w7), (.ref w8), (.ref w9), (.ref w10), (.ref w11), (.ref w12), .null, .null, .null, .null, .null, .null, .null, .null, .null, .null, .null, .null, .null, .null, .null, .null, .null, .null, .null] .null := Arv.set Ar44 q44 S44 P44 H44 G44 rfl W45 12 rfl (Nat.le_of_ble_eq_true rfl)
  have Z45 : n0 ≤ h45.size := Nat.le_trans Z41 (Keep.of_wr W45).1
  obtain ⟨lc45, X45, N45⟩ := own_hide X45 (Fr.snoc X45 N41 g_b1)
  have K45 := Keep.wr K41 W45 (Or.inr sz_b1)
  obtain ⟨T46, X46, e46, st46⟩ := getS2 X45 hx hZ hown (host := "") (Or.inl (hw _ (List.mem_of_getElem? (i := 30) rfl))) Via.refl e45 (own_sta_keep0 (HS.2.2.2.2.2.2.2.2.2.2.2.2.2.1) K45) (g := (mkF m 93 #[.val (.int k), .unset, .unset, .unset, .unset] [(.int (13 : Int32)), (.ref b1), (.ref b1)])) rfl (hb hby at_93)
  obtain ⟨cl47, Ar47, q47, S47, P47, H47, G47⟩ := id V45
  have hin47 : ¬ ((13 : Int32) < 0 ∨ cl47.slots.size ≤ ((13 : Int32)).toNatClampNeg) := inb_of S47 ⟨by decide, by decide⟩
  obtain ⟨T48, h48, X48, e48, W48, st48⟩ := stR X46 hx hZ e46 Ar47 (j := (13 : Int32)) hin47 rfl (Sto.ofV Ar47 q47 O1 (Ins.self (Exa.keep (HE.2.2.2.2.2.2.2.2.2.2.2.2.2.1) K45))) (g := (mkF m 96 #[.val (.int k), .unset, .unset, .unset, .unset] [(.ref w13), (.int (13 : Int32)), (.ref b1), (.ref b1)])) rfl rfl (hb hby at_96)
  have V48 : Arv Z h48 b1 k1 (.object "com/example/hopguard/hopguard/core/Reason") (32 : Int32) [(.ref w0), (.ref w1), (.ref w2), (.ref w3), (.ref w4), (.ref w5), (.ref w6), (.ref w7), (.ref w8), (.ref w9), (.ref w10), (.ref w11), (.ref w12), (.ref w13), .null, .null, .null, .null, .null, .null, .null, .null, .null, .null, .null, .null, .null, .null, .null, .null, .null, .null] .null := Arv.set Ar47 q47 S47 P47 H47 G47 rfl W48 13 rfl (Nat.le_of_ble_eq_true rfl)
  have Z48 : n0 ≤ h48.size := Nat.le_trans Z45 (Keep.of_wr W48).1
  obtain ⟨lc48, X48, N48⟩ := own_hide X48 (Fr.snoc X48 N45 g_b1)
  have K48 := Keep.wr K45 W48 (Or.inr sz_b1)
  have k49 : ∀ tt, Steps p.tables e below (T48.setTop (mkF m 100 #[.val (.int k), .unset, .unset, .unset, .unset] [(.int (14 : Int32)), (.ref b1), (.ref b1)])) tt → Steps p.tables e below (s₁.setTop (entryFrame m #[(.int k)] maxLocals)) tt := by
    intro tt kk
    refine k42 tt ?_
    show Steps p.tables e below (T41.setTop (mkF m 83 #[.val (.int k), .unset, .unset, .unset, .unset] [(.ref b1)])) tt
    refine XS.dup X41.here hx rfl (hb hby at_83) rfl rfl ?_
    show Steps p.tables e below (T41.setTop (mkF m 84 #[.val (.int k), .unset, .unset, .unset, .unset] [(.ref b1), (.ref b1)])) tt
    refine XS.bipush X41.here hx rfl (hb hby at_84) ?_
    show Steps p.tables e below (T41.setTop (mkF m 86 #[.val (.int k), .unset, .unset, .unset, .unset] [(.int (12 : Int32)), (.ref b1), (.ref b1)])) tt
    refine st43 _ ?_
    show Steps p.tables e below (T43.setTop (mkF m 89 #[.val (.int k), .unset, .unset, .unset, .unset] [(.ref w12), (.int (12 : Int32)), (.ref b1), (.ref b1)])) tt
    refine st45 _ ?_
    show Steps p.tables e below (T45.setTop (mkF m 90 #[.val (.int k), .unset, .unset, .unset, .unset] [(.ref b1)])) tt
    refine XS.dup X45.here hx rfl (hb hby at_90) rfl rfl ?_
    show Steps p.tables e below (T45.setTop (mkF m 91 #[.val (.int k), .unset, .unset, .unset, .unset] [(.ref b1), (.ref b1)])) tt
    refine XS.bipush X45.here hx rfl (hb hby at_91) ?_
    show Steps p.tables e below (T45.setTop (mkF m 93 #[.val (.int k), .unset, .unset, .unset, .unset] [(.int (13 : Int32)), (.ref b1), (.ref b1)])) tt
    refine st46 _ ?_
    show Steps p.tables e below (T46.setTop (mkF m 96 #[.val (.int k), .unset, .unset, .unset, .unset] [(.ref w13), (.int (13 : Int32)), (.ref b1), (.ref b1)])) tt
    refine st48 _ ?_
    show Steps p.tables e below (T48.setTop (mkF m 97 #[.val (.int k), .unset, .unset, .unset, .unset] [(.ref b1)])) tt
    refine XS.dup X48.here hx rfl (hb hby at_97) rfl rfl ?_
    show Steps p.tables e below (T48.setTop (mkF m 98 #[.val (.int k), .unset, .unset, .unset, .unset] [(.ref b1), (.ref b1)])) tt
    refine XS.bipush X48.here hx rfl (hb hby at_98) ?_
    exact kk
  obtain ⟨T50, X50, e50, st50⟩ := getS2 X48 hx hZ hown (host := "") (Or.inl (hw _ (List.mem_of_getElem? (i := 32) rfl))) Via.refl e48 (own_sta_keep0 (HS.2.2.2.2.2.2.2.2.2.2.2.2.2.2.1) K48) (g := (mkF m 100 #[.val (.int k), .unset, .unset, .unset, .unset] [(.int (14 : Int32)), (.ref b1), (.ref b1)])) rfl (hb hby at_100)
  obtain ⟨cl51, Ar51, q51, S51, P51, H51, G51⟩ := id V48
  have hin51 : ¬ ((14 : Int32) < 0 ∨ cl51.slots.size ≤ ((14 : Int32)).toNatClampNeg) := inb_of S51 ⟨by decide, by decide⟩
  obtain ⟨T52, h52, X52, e52, W52, st52⟩ := stR X50 hx hZ e50 Ar51 (j := (14 : Int32)) hin51 rfl (Sto.ofV Ar51 q51 O1 (Ins.self (Exa.keep (HE.2.2.2.2.2.2.2.2.2.2.2.2.2.2.1) K48))) (g := (mkF m 103 #[.val (.int k), .unset, .unset, .unset, .unset] [(.ref w14), (.int (14 : Int32)), (.ref b1), (.ref b1)])) rfl rfl (hb hby at_103)
  have V52 : Arv Z h52 b1 k1 (.object "com/example/hopguard/hopguard/core/Reason") (32 : Int32) [(.ref w0), (.ref w1), (.ref w2), (.ref w3), (.ref w4), (.ref w5), (.ref w6), (.ref w7), (.ref w8), (.ref w9), (.ref w10), (.ref w11), (.ref w12), (.ref w13), (.ref w14), .null, .null, .null, .null, .null, .null, .null, .null, .null, .null, .null, .null, .null, .null, .null, .null, .null] .null := Arv.set Ar51 q51 S51 P51 H51 G51 rfl W52 14 rfl (Nat.le_of_ble_eq_true rfl)
  have Z52 : n0 ≤ h52.size := Nat.le_trans Z48 (Keep.of_wr W52).1
  obtain ⟨lc52, X52, N52⟩ := own_hide X52 (Fr.snoc X52 N48 g_b1)
  have K52 := Keep.wr K48 W52 (Or.inr sz_b1)
  obtain ⟨T53, X53, e53, st53⟩ := getS2 X52 hx hZ hown (host := "") (Or.inl (hw _ (List.mem_of_getElem? (i := 34) rfl))) Via.refl e52 (own_sta_keep0 (HS.2.2.2.2.2.2.2.2.2.2.2.2.2.2.2.1) K52) (g := (mkF m 107 #[.val (.int k), .unset, .unset, .unset, .unset] [(.int (15 : Int32)), (.ref b1), (.ref b1)])) rfl (hb hby at_107)
  obtain ⟨cl54, Ar54, q54, S54, P54, H54, G54⟩ := id V52
  have hin54 : ¬ ((15 : Int32) < 0 ∨ cl54.slots.size ≤ ((15 : Int32)).toNatClampNeg) := inb_of S54 ⟨by decide, by decide⟩
  obtain ⟨T55, h55, X55, e55, W55, st55⟩ := stR X53 hx hZ e53 Ar54 (j := (15 : Int32)) hin54 rfl (Sto.ofV Ar54 q54 O1 (Ins.self (Exa.keep (HE.2.2.2.2.2.2.2.2.2.2.2.2.2.2.2.1) K52))) (g := (mkF m 110 #[.val (.int k), .unset, .unset, .unset, .unset] [(.ref w15), (.int (15 : Int32)), (.ref b1), (.ref b1)])) rfl rfl (hb hby at_110)
  have V55 : Arv Z h55 b1 k1 (.object "com/example/hopguard/hopguard/core/Reason") (32 : Int32) [(.ref w0), (.ref w1), (.ref w2), (.ref w3), (.ref w4), (.ref w5), (.ref w6), (.ref w7), (.ref w8), (.ref w9), (.ref w10), (.ref w11), (.ref w12), (.ref w13), (.ref w14), (.ref w15), .null, .null, .null, .null, .null, .null, .null, .null, .null, .null, .null, .null, .null, .null, .null, .null] .null := Arv.set Ar54 q54 S54 P54 H54 G54 rfl W55 15 rfl (Nat.le_of_ble_eq_true rfl)
  have Z55 : n0 ≤ h55.size := Nat.le_trans Z52 (Keep.of_wr W55).1
  obtain ⟨lc55, X55, N55⟩ := own_hide X55 (Fr.snoc X55 N52 g_b1)
  have K55 := Keep.wr K52 W55 (Or.inr sz_b1)
  obtain ⟨T56, X56, e56, st56⟩ := getS2 X55 hx hZ hown (host := "") (Or.inl (hw _ (List.mem_of_getElem? (i := 36) rfl))) Via.refl e55 (own_sta_keep0 (HS.2.2.2.2.2.2.2.2.2.2.2.2.2.2.2.2.1) K55) (g := (mkF m 114 #[.val (.int k), .unset, .unset, .unset, .unset] [(.int (16 : Int32)), (.ref b1), (.ref b1)])) rfl (hb hby at_114)
  obtain ⟨cl57, Ar57, q57, S57, P57, H57, G57⟩ := id V55
  have hin57 : ¬ ((16 : Int32) < 0 ∨ cl57.slots.size ≤ ((16 : Int32)).toNatClampNeg) := inb_of S57 ⟨by decide, by decide⟩
  obtain ⟨T58, h58, X58, e58, W58, st58⟩ := stR X56 hx hZ e56 Ar57 (j := (16 : Int32)) hin57 rfl (Sto.ofV Ar57 q57 O1 (Ins.self (Exa.keep (HE.2.2.2.2.2.2.2.2.2.2.2.2.2.2.2.2.1) K55))) (g := (mkF m 117 #[.val (.int k), .unset, .unset, .unset, .unset] [(.ref w16), (.int (16 : Int32)), (.ref b1), (.ref b1)])) rfl rfl (hb hby at_117)
  have V58 : Arv Z h58 b1 k1 (.object "com/example/hopguard/hopguard/core/Reason") (32 : Int32) [(.ref w0), (.ref w1), (.ref w2), (.ref w3), (.ref w4), (.ref w5), (.ref w6), (.ref w7), (.ref w8), (.ref w9), (.ref w10), (.ref w11), (.ref w12), (.ref w13), (.ref w14), (.ref w15), (.ref w16), .null, .null, .null, .null, .null, .null, .null, .null, .null, .null, .null, .null, .null, .null, .null] .null := Arv.set Ar57 q57 S57 P57 H57 G57 rfl W58 16 rfl (Nat.le_of_ble_eq_true rfl)
  have Z58 : n0 ≤ h58.size := Nat.le_trans Z55 (Keep.of_wr W58).1
  obtain ⟨lc58, X58, N58⟩ := own_hide X58 (Fr.snoc X58 N55 g_b1)
  have K58 := Keep.wr K55 W58 (Or.inr sz_b1)
  have k59 : ∀ tt, Steps p.tables e below (T58.setTop (mkF m 118 #[.val (.int k), .unset, .unset, .unset, .unset] [(.ref b1)])) tt → Steps p.tables e below (s₁.setTop (entryFrame m #[(.int k)] maxLocals)) tt := by
    intro tt kk
    refine k49 tt ?_
    show Steps p.tables e below (T48.setTop (mkF m 100 #[.val (.int k), .unset, .unset, .unset, .unset] [(.int (14 : Int32)), (.ref b1), (.ref b1)])) tt
    refine st50 _ ?_
    show Steps p.tables e below (T50.setTop (mkF m 103 #[.val (.int k), .unset, .unset, .unset, .unset] [(.ref w14), (.int (14 : Int32)), (.ref b1), (.ref b1)])) tt
    refine st52 _ ?_
    show Steps p.tables e below (T52.setTop (mkF m 104 #[.val (.int k), .unset, .unset, .unset, .unset] [(.ref b1)])) tt
    refine XS.dup X52.here hx rfl (hb hby at_104) rfl rfl ?_
    show Steps p.tables e below (T52.setTop (mkF m 105 #[.val (.int k), .unset, .unset, .unset, .unset] [(.ref b1), (.ref b1)])) tt
    refine XS.bipush X52.here hx rfl (hb hby at_105) ?_
    show Steps p.tables e below (T52.setTop (mkF m 107 #[.val (.int k), .unset, .unset, .unset, .unset] [(.int (15 : Int32)), (.ref b1), (.ref b1)])) tt
    refine st53 _ ?_
    show Steps p.tables e below (T53.setTop (mkF m 110 #[.val (.int k), .unset, .unset, .unset, .unset] [(.ref w15), (.int (15 : Int32)), (.ref b1), (.ref b1)])) tt
    refine st55 _ ?_
    show Steps p.tables e below (T55.setTop (mkF m 111 #[.val (.int k), .unset, .unset, .unset, .unset] [(.ref b1)])) tt
    refine XS.dup X55.here hx rfl (hb hby at_111) rfl rfl ?_
    show Steps p.tables e below (T55.setTop (mkF m 112 #[.val (.int k), .unset, .unset, .unset, .unset] [(.ref b1), (.ref b1)])) tt
    refine XS.bipush X55.here hx rfl (hb hby at_112) ?_
    show Steps p.tables e below (T55.setTop (mkF m 114 #[.val (.int k), .unset, .unset, .unset, .unset] [(.int (16 : Int32)), (.ref b1), (.ref b1)])) tt
    refine st56 _ ?_
    show Steps p.tables e below (T56.setTop (mkF m 117 #[.val (.int k), .unset, .unset, .unset, .unset] [(.ref w16), (.int (16 : Int32)), (.ref b1), (.ref b1)])) tt
    refine st58 _ ?_
    exact kk
  obtain ⟨T60, X60, e60, st60⟩ := getS2 X58 hx hZ hown (host := "") (Or.inl (hw _ (List.mem_of_getElem? (i := 38) rfl))) Via.refl e58 (own_sta_keep0 (HS.2.2.2.2.2.2.2.2.2.2.2.2.2.2.2.2.2.1) K58) (g := (mkF m 121 #[.val (.int k), .unset, .unset, .unset, .unset] [(.int (17 : Int32)), (.ref b1), (.ref b1)])) rfl (hb hby at_121)
  obtain ⟨cl61, Ar61, q61, S61, P61, H61, G61⟩ := id V58
  have hin61 : ¬ ((17 : Int32) < 0 ∨ cl61.slots.size ≤ ((17 : Int32)).toNatClampNeg) := inb_of S61 ⟨by decide, by decide⟩
  obtain ⟨T62, h62, X62, e62, W62, st62⟩ := stR X60 hx hZ e60 Ar61 (j := (17 : Int32)) hin61 rfl (Sto.ofV Ar61 q61 O1 (Ins.self (Exa.keep (HE.2.2.2.2.2.2.2.2.2.2.2.2.2.2.2.2.2.1) K58))) (g := (mkF m 124 #[.val (.int k), .unset, .unset, .unset, .unset] [(.ref w17), (.int (17 : Int32)), (.ref b1), (.ref b1)])) rfl rfl (hb hby at_124)
  have V62 : Arv Z h62 b1 k1 (.object "com/example/hopguard/hopguard/core/Reason") (32 : Int32) [(.ref w0), (.ref w1), (.ref w2), (.ref w3), (.ref w4), (.ref w5), (.ref w6), (.ref w7), (.ref w8), (.ref w9), (.ref w10), (.ref w11), (.ref w12), (.ref w13), (.ref w14), (.ref w15), (.ref w16), (.ref w17), .null, .null, .null, .null, .null, .null, .null, .null, .null, .null, .null, .null, .null, .null] .null := Arv.set Ar61 q61 S61 P61 H61 G61 rfl W62 17 rfl (Nat.le_of_ble_eq_true rfl)
  have Z62 : n0 ≤ h62.size := Nat.le_trans Z58 (Keep.of_wr W62).1
  obtain ⟨lc62, X62, N62⟩ := own_hide X62 (Fr.snoc X62 N58 g_b1)
  have K62 := Keep.wr K58 W62 (Or.inr sz_b1)
  obtain ⟨T63, X63, e63, st63⟩ := getS2 X62 hx hZ hown (host := "") (Or.inl (hw _ (List.mem_of_getElem? (i := 40) rfl))) Via.refl e62 (own_sta_keep0 (HS.2.2.2.2.2.2.2.2.2.2.2.2.2.2.2.2.2.2.1) K62) (g := (mkF m 128 #[.val (.int k), .unset, .unset, .unset, .unset] [(.int (18 : Int32)), (.ref b1), (.ref b1)])) rfl (hb hby at_128)
  obtain ⟨cl64, Ar64, q64, S64, P64, H64, G64⟩ := id V62
  have hin64 : ¬ ((18 : Int32) < 0 ∨ cl64.slots.size ≤ ((18 : Int32)).toNatClampNeg) := inb_of S64 ⟨by decide, by decide⟩
  obtain ⟨T65, h65, X65, e65, W65, st65⟩ := stR X63 hx hZ e63 Ar64 (j := (18 : Int32)) hin64 rfl (Sto.ofV Ar64 q64 O1 (Ins.self (Exa.keep (HE.2.2.2.2.2.2.2.2.2.2.2.2.2.2.2.2.2.2.1) K62))) (g := (mkF m 131 #[.val (.int k), .unset, .unset, .unset, .unset] [(.ref w18), (.int (18 : Int32)), (.ref b1), (.ref b1)])) rfl rfl (hb hby at_131)
  have V65 : Arv Z h65 b1 k1 (.object "com/example/hopguard/hopguard/core/Reason") (32 : Int32) [(.ref w0), (.ref w1), (.ref w2), (.ref w3), (.ref w4), (.ref w5), (.ref w6), (.ref w7), (.ref w8), (.ref w9), (.ref w10), (.ref w11), (.ref w12), (.ref w13), (.ref w14), (.ref w15), (.ref w16), (.ref w17), (.ref w18), .null, .null, .null, .null, .null, .null, .null, .null, .null, .null, .null, .null, .null] .null := Arv.set Ar64 q64 S64 P64 H64 G64 rfl W65 18 rfl (Nat.le_of_ble_eq_true rfl)
  have Z65 : n0 ≤ h65.size := Nat.le_trans Z62 (Keep.of_wr W65).1
  obtain ⟨lc65, X65, N65⟩ := own_hide X65 (Fr.snoc X65 N62 g_b1)
  have K65 := Keep.wr K62 W65 (Or.inr sz_b1)
  have k66 : ∀ tt, Steps p.tables e below (T65.setTop (mkF m 135 #[.val (.int k), .unset, .unset, .unset, .unset] [(.int (19 : Int32)), (.ref b1), (.ref b1)])) tt → Steps p.tables e below (s₁.setTop (entryFrame m #[(.int k)] maxLocals)) tt := by
    intro tt kk
    refine k59 tt ?_
    show Steps p.tables e below (T58.setTop (mkF m 118 #[.val (.int k), .unset, .unset, .unset, .unset] [(.ref b1)])) tt
    refine XS.dup X58.here hx rfl (hb hby at_118) rfl rfl ?_
    show Steps p.tables e below (T58.setTop (mkF m 119 #[.val (.int k), .unset, .unset, .unset, .unset] [(.ref b1), (.ref b1)])) tt
    refine XS.bipush X58.here hx rfl (hb hby at_119) ?_
    show Steps p.tables e below (T58.setTop (mkF m 121 #[.val (.int k), .unset, .unset, .unset, .unset] [(.int (17 : Int32)), (.ref b1), (.ref b1)])) tt
    refine st60 _ ?_
    show Steps p.tables e below (T60.setTop (mkF m 124 #[.val (.int k), .unset, .unset, .unset, .unset] [(.ref w17), (.int (17 : Int32)), (.ref b1), (.ref b1)])) tt
    refine st62 _ ?_
    show Steps p.tables e below (T62.setTop (mkF m 125 #[.val (.int k), .unset, .unset, .unset, .unset] [(.ref b1)])) tt
    refine XS.dup X62.here hx rfl (hb hby at_125) rfl rfl ?_
    show Steps p.tables e below (T62.setTop (mkF m 126 #[.val (.int k), .unset, .unset, .unset, .unset] [(.ref b1), (.ref b1)])) tt
    refine XS.bipush X62.here hx rfl (hb hby at_126) ?_
    show Steps p.tables e below (T62.setTop (mkF m 128 #[.val (.int k), .unset, .unset, .unset, .unset] [(.int (18 : Int32)), (.ref b1), (.ref b1)])) tt
    refine st63 _ ?_
    show Steps p.tables e below (T63.setTop (mkF m 131 #[.val (.int k), .unset, .unset, .unset, .unset] [(.ref w18), (.int (18 : Int32)), (.ref b1), (.ref b1)])) tt
    refine st65 _ ?_
    show Steps p.tables e below (T65.setTop (mkF m 132 #[.val (.int k), .unset, .unset, .unset, .unset] [(.ref b1)])) tt
    refine XS.dup X65.here hx rfl (hb hby at_132) rfl rfl ?_
    show Steps p.tables e below (T65.setTop (mkF m 133 #[.val (.int k), .unset, .unset, .unset, .unset] [(.ref b1), (.ref b1)])) tt
    refine XS.bipush X65.here hx rfl (hb hby at_133) ?_
    exact kk
  obtain ⟨T67, X67, e67, st67⟩ := getS2 X65 hx hZ hown (host := "") (Or.inl (hw _ (List.mem_of_getElem? (i := 42) rfl))) Via.refl e65 (own_sta_keep0 (HS.2.2.2.2.2.2.2.2.2.2.2.2.2.2.2.2.2.2.2.1) K65) (g := (mkF m 135 #[.val (.int k), .unset, .unset, .unset, .unset] [(.int (19 : Int32)), (.ref b1), (.ref b1)])) rfl (hb hby at_135)
  obtain ⟨cl68, Ar68, q68, S68, P68, H68, G68⟩ := id V65
  have hin68 : ¬ ((19 : Int32) < 0 ∨ cl68.slots.size ≤ ((19 : Int32)).toNatClampNeg) := inb_of S68 ⟨by decide, by decide⟩
  obtain ⟨T69, h69, X69, e69, W69, st69⟩ := stR X67 hx hZ e67 Ar68 (j := (19 : Int32)) hin68 rfl (Sto.ofV Ar68 q68 O1 (Ins.self (Exa.keep (HE.2.2.2.2.2.2.2.2.2.2.2.2.2.2.2.2.2.2.2.1) K65))) (g := (mkF m 138 #[.val (.int k), .unset, .unset, .unset, .unset] [(.ref w19), (.int (19 : Int32)), (.ref b1), (.ref b1)])) rfl rfl (hb hby at_138)
  have V69 : Arv Z h69 b1 k1 (.object "com/example/hopguard/hopguard/core/Reason") (32 : Int32) [(.ref w0), (.ref w1), (.ref w2), (.ref w3), (.ref w4), (.ref w5), (.ref w6), (.ref w7), (.ref w8), (.ref w9), (.ref w10), (.ref w11), (.ref w12), (.ref w13), (.ref w14), (.ref w15), (.ref w16), (.ref w17), (.ref w18), (.ref w19), .null, .null, .null, .null, .null, .null, .null, .null, .null, .null, .null, .null] .null := Arv.set Ar68 q68 S68 P68 H68 G68 rfl W69 19 rfl (Nat.le_of_ble_eq_true rfl)
  have Z69 : n0 ≤ h69.size := Nat.le_trans Z65 (Keep.of_wr W69).1
  obtain ⟨lc69, X69, N69⟩ := own_hide X69 (Fr.snoc X69 N65 g_b1)
  have K69 := Keep.wr K65 W69 (Or.inr sz_b1)
  obtain ⟨T70, X70, e70, st70⟩ := getS2 X69 hx hZ hown (host := "") (Or.inl (hw _ (List.mem_of_getElem? (i := 44) rfl))) Via.refl e69 (own_sta_keep0 (HS.2.2.2.2.2.2.2.2.2.2.2.2.2.2.2.2.2.2.2.2.1) K69) (g := (mkF m 142 #[.val (.int k), .unset, .unset, .unset, .unset] [(.int (20 : Int32)), (.ref b1), (.ref b1)])) rfl (hb hby at_142)
  obtain ⟨cl71, Ar71, q71, S71, P71, H71, G71⟩ := id V69
  have hin71 : ¬ ((20 : Int32) < 0 ∨ cl71.slots.size ≤ ((20 : Int32)).toNatClampNeg) := inb_of S71 ⟨by decide, by decide⟩
  obtain ⟨T72, h72, X72, e72, W72, st72⟩ := stR X70 hx hZ e70 Ar71 (j := (20 : Int32)) hin71 rfl (Sto.ofV Ar71 q71 O1 (Ins.self (Exa.keep (HE.2.2.2.2.2.2.2.2.2.2.2.2.2.2.2.2.2.2.2.2.1) K69))) (g := (mkF m 145 #[.val (.int k), .unset, .unset, .unset, .unset] [(.ref w20), (.int (20 : Int32)), (.ref b1), (.ref b1)])) rfl rfl (hb hby at_145)
  have V72 : Arv Z h72 b1 k1 (.object "com/example/hopguard/hopguard/core/Reason") (32 : Int32) [(.ref w0), (.ref w1), (.ref w2), (.ref w3), (.ref w4), (.ref w5), (.ref w6), (.ref w7), (.ref w8), (.ref w9), (.ref w10), (.ref w11), (.ref w12), (.ref w13), (.ref w14), (.ref w15), (.ref w16), (.ref w17), (.ref w18), (.ref w19), (.ref w20), .null, .null, .null, .null, .null, .null, .null, .null, .null, .null, .null] .null := Arv.set Ar71 q71 S71 P71 H71 G71 rfl W72 20 rfl (Nat.le_of_ble_eq_true rfl)
  have Z72 : n0 ≤ h72.size := Nat.le_trans Z69 (Keep.of_wr W72).1
  obtain ⟨lc72, X72, N72⟩ := own_hide X72 (Fr.snoc X72 N69 g_b1)
  have K72 := Keep.wr K69 W72 (Or.inr sz_b1)
  obtain ⟨T73, X73, e73, st73⟩ := getS2 X72 hx hZ hown (host := "") (Or.inl (hw _ (List.mem_of_getElem? (i := 46) rfl))) Via.refl e72 (own_sta_keep0 (HS.2.2.2.2.2.2.2.2.2.2.2.2.2.2.2.2.2.2.2.2.2.1) K72) (g := (mkF m 149 #[.val (.int k), .unset, .unset, .unset, .unset] [(.int (21 : Int32)), (.ref b1), (.ref b1)])) rfl (hb hby at_149)
  obtain ⟨cl74, Ar74, q74, S74, P74, H74, G74⟩ := id V72
  have hin74 : ¬ ((21 : Int32) < 0 ∨ cl74.slots.size ≤ ((21 : Int32)).toNatClampNeg) := inb_of S74 ⟨by decide, by decide⟩
  obtain ⟨T75, h75, X75, e75, W75, st75⟩ := stR X73 hx hZ e73 Ar74 (j := (21 : Int32)) hin74 rfl (Sto.ofV Ar74 q74 O1 (Ins.self (Exa.keep (HE.2.2.2.2.2.2.2.2.2.2.2.2.2.2.2.2.2.2.2.2.2.1) K72))) (g := (mkF m 152 #[.val (.int k), .unset, .unset, .unset, .unset] [(.ref w21), (.int (21 : Int32)), (.ref b1), (.ref b1)])) rfl rfl (hb hby at_152)
  have V75 : Arv Z h75 b1 k1 (.object "com/example/hopguard/hopguard/core/Reason") (32 : Int32) [(.ref w0), (.ref w1), (.ref w2), (.ref w3), (.ref w4), (.ref w5), (.ref w6), (.ref w7), (.ref w8), (.ref w9), (.ref w10), (.ref w11), (.ref w12), (.ref w13), (.ref w14), (.ref w15), (.ref w16), (.ref w17), (.ref w18), (.ref w19), (.ref w20), (.ref w21), .null, .null, .null, .null, .null, .null, .null, .null, .null, .null] .null := Arv.set Ar74 q74 S74 P74 H74 G74 rfl W75 21 rfl (Nat.le_of_ble_eq_true rfl)
  have Z75 : n0 ≤ h75.size := Nat.le_trans Z72 (Keep.of_wr W75).1
  obtain ⟨lc75, X75, N75⟩ := own_hide X75 (Fr.snoc X75 N72 g_b1)
  have K75 := Keep.wr K72 W75 (Or.inr sz_b1)
  have k76 : ∀ tt, Steps p.tables e below (T75.setTop (mkF m 153 #[.val (.int k), .unset, .unset, .unset, .unset] [(.ref b1)])) tt → Steps p.tables e below (s₁.setTop (entryFrame m #[(.int k)] maxLocals)) tt := by
    intro tt kk
    refine k66 tt ?_
    show Steps p.tables e below (T65.setTop (mkF m 135 #[.val (.int k), .unset, .unset, .unset, .unset] [(.int (19 : Int32)), (.ref b1), (.ref b1)])) tt
    refine st67 _ ?_
    show Steps p.tables e below (T67.setTop (mkF m 138 #[.val (.int k), .unset, .unset, .unset, .unset] [(.ref w19), (.int (19 : Int32)), (.ref b1), (.ref b1)])) tt
    refine st69 _ ?_
    show Steps p.tables e below (T69.setTop (mkF m 139 #[.val (.int k), .unset, .unset, .unset, .unset] [(.ref b1)])) tt
    refine XS.dup X69.here hx rfl (hb hby at_139) rfl rfl ?_
    show Steps p.tables e below (T69.setTop (mkF m 140 #[.val (.int k), .unset, .unset, .unset, .unset] [(.ref b1), (.ref b1)])) tt
    refine XS.bipush X69.here hx rfl (hb hby at_140) ?_
    show Steps p.tables e below (T69.setTop (mkF m 142 #[.val (.int k), .unset, .unset, .unset, .unset] [(.int (20 : Int32)), (.ref b1), (.ref b1)])) tt
    refine st70 _ ?_
    show Steps p.tables e below (T70.setTop (mkF m 145 #[.val (.int k), .unset, .unset, .unset, .unset] [(.ref w20), (.int (20 : Int32)), (.ref b1), (.ref b1)])) tt
    refine st72 _ ?_
    show Steps p.tables e below (T72.setTop (mkF m 146 #[.val (.int k), .unset, .unset, .unset, .unset] [(.ref b1)])) tt
    refine XS.dup X72.here hx rfl (hb hby at_146) rfl rfl ?_
    show Steps p.tables e below (T72.setTop (mkF m 147 #[.val (.int k), .unset, .unset, .unset, .unset] [(.ref b1), (.ref b1)])) tt
    refine XS.bipush X72.here hx rfl (hb hby at_147) ?_
    show Steps p.tables e below (T72.setTop (mkF m 149 #[.val (.int k), .unset, .unset, .unset, .unset] [(.int (21 : Int32)), (.ref b1), (.ref b1)])) tt
    refine st73 _ ?_
    show Steps p.tables e below (T73.setTop (mkF m 152 #[.val (.int k), .unset, .unset, .unset, .unset] [(.ref w21), (.int (21 : Int32)), (.ref b1), (.ref b1)])) tt
    refine st75 _ ?_
    exact kk
  obtain ⟨T77, X77, e77, st77⟩ := getS2 X75 hx hZ hown (host := "") (Or.inl (hw _ (List.mem_of_getElem? (i := 48) rfl))) Via.refl e75 (own_sta_keep0 (HS.2.2.2.2.2.2.2.2.2.2.2.2.2.2.2.2.2.2.2.2.2.2.1) K75) (g := (mkF m 156 #[.val (.int k), .unset, .unset, .unset, .unset] [(.int (22 : Int32)), (.ref b1), (.ref b1)])) rfl (hb hby at_156)
  obtain ⟨cl78, Ar78, q78, S78, P78, H78, G78⟩ := id V75
  have hin78 : ¬ ((22 : Int32) < 0 ∨ cl78.slots.size ≤ ((22 : Int32)).toNatClampNeg) := inb_of S78 ⟨by decide, by decide⟩
  obtain ⟨T79, h79, X79, e79, W79, st79⟩ := stR X77 hx hZ e77 Ar78 (j := (22 : Int32)) hin78 rfl (Sto.ofV Ar78 q78 O1 (Ins.self (Exa.keep (HE.2.2.2.2.2.2.2.2.2.2.2.2.2.2.2.2.2.2.2.2.2.2.1) K75))) (g := (mkF m 159 #[.val (.int k), .unset, .unset, .unset, .unset] [(.ref w22), (.int (22 : Int32)), (.ref b1), (.ref b1)])) rfl rfl (hb hby at_159)
  have V79 : Arv Z h79 b1 k1 (.object "com/example/hopguard/hopguard/core/Reason") (32 : Int32) [(.ref w0), (.ref w1), (.ref w2), (.ref w3), (.ref w4), (.ref w5), (.ref w6), (.ref w7), (.ref w8), (.ref w9), (.ref w10), (.ref w11), (.ref w12), (.ref w13), (.ref w14), (.ref w15), (.ref w16), (.ref w17), (.ref w18), (.ref w19), (.ref w20), (.ref w21), (.ref w22), .null, .null, .null, .null, .null, .null, .null, .null, .null] .null := Arv.set Ar78 q78 S78 P78 H78 G78 rfl W79 22 rfl (Nat.le_of_ble_eq_true rfl)
  have Z79 : n0 ≤ h79.size := Nat.le_trans Z75 (Keep.of_wr W79).1
  obtain ⟨lc79, X79, N79⟩ := own_hide X79 (Fr.snoc X79 N75 g_b1)
  have K79 := Keep.wr K75 W79 (Or.inr sz_b1)
  obtain ⟨T80, X80, e80, st80⟩ := getS2 X79 hx hZ hown (host := "") (Or.inl (hw _ (List.mem_of_getElem? (i := 50) rfl))) Via.refl e79 (own_sta_keep0 (HS.2.2.2.2.2.2.2.2.2.2.2.2.2.2.2.2.2.2.2.2.2.2.2.1) K79) (g := (mkF m 163 #[.val (.int k), .unset, .unset, .unset, .unset] [(.int (23 : Int32)), (.ref b1), (.ref b1)])) rfl (hb hby at_163)
  obtain ⟨cl81, Ar81, q81, S81, P81, H81, G81⟩ := id V79
  have hin81 : ¬ ((23 : Int32) < 0 ∨ cl81.slots.size ≤ ((23 : Int32)).toNatClampNeg) := inb_of S81 ⟨by decide, by decide⟩
  obtain ⟨T82, h82, X82, e82, W82, st82⟩ := stR X80 hx hZ e80 Ar81 (j := (23 : Int32)) hin81 rfl (Sto.ofV Ar81 q81 O1 (Ins.self (Exa.keep (HE.2.2.2.2.2.2.2.2.2.2.2.2.2.2.2.2.2.2.2.2.2.2.2.1) K79))) (g := (mkF m 166 #[.val (.int k), .unset, .unset, .unset, .unset] [(.ref w23), (.int (23 : Int32)), (.ref b1), (.ref b1)])) rfl rfl (hb hby at_166)
  have V82 : Arv Z h82 b1 k1 (.object "com/example/hopguard/hopguard/core/Reason") (32 : Int32) [(.ref w0), (.ref w1), (.ref w2), (.ref w3), (.ref w4), (.ref w5), (.ref w6), (.ref w7), (.ref w8), (.ref w9), (.ref w10), (.ref w11), (.ref w12), (.ref w13), (.ref w14), (.ref w15), (.ref w16), (.ref w17), (.ref w18), (.ref w19), (.ref w20), (.ref w21), (.ref w22), (.ref w23), .null, .null, .null, .null, .null, .null, .null, .null] .null := Arv.set Ar81 q81 S81 P81 H81 G81 rfl W82 23 rfl (Nat.le_of_ble_eq_true rfl)
  have Z82 : n0 ≤ h82.size := Nat.le_trans Z79 (Keep.of_wr W82).1
  obtain ⟨lc82, X82, N82⟩ := own_hide X82 (Fr.snoc X82 N79 g_b1)
  have K82 := Keep.wr K79 W82 (Or.inr sz_b1)
  have k83 : ∀ tt, Steps p.tables e below (T82.setTop (mkF m 170 #[.val (.int k), .unset, .unset, .unset, .unset] [(.int (24 : Int32)), (.ref b1), (.ref b1)])) tt → Steps p.tables e below (s₁.setTop (entryFrame m #[(.int k)] maxLocals)) tt := by
    intro tt kk
    refine k76 tt ?_
    show Steps p.tables e below (T75.setTop (mkF m 153 #[.val (.int k), .unset, .unset, .unset, .unset] [(.ref b1)])) tt
    refine XS.dup X75.here hx rfl (hb hby at_153) rfl rfl ?_
    show Steps p.tables e below (T75.setTop (mkF m 154 #[.val (.int k), .unset, .unset, .unset, .unset] [(.ref b1), (.ref b1)])) tt
    refine XS.bipush X75.here hx rfl (hb hby at_154) ?_
    show Steps p.tables e below (T75.setTop (mkF m 156 #[.val (.int k), .unset, .unset, .unset, .unset] [(.int (22 : Int32)), (.ref b1), (.ref b1)])) tt
    refine st77 _ ?_
    show Steps p.tables e below (T77.setTop (mkF m 159 #[.val (.int k), .unset, .unset, .unset, .unset] [(.ref w22), (.int (22 : Int32)), (.ref b1), (.ref b1)])) tt
    refine st79 _ ?_
    show Steps p.tables e below (T79.setTop (mkF m 160 #[.val (.int k), .unset, .unset, .unset, .unset] [(.ref b1)])) tt
    refine XS.dup X79.here hx rfl (hb hby at_160) rfl rfl ?_
    show Steps p.tables e below (T79.setTop (mkF m 161 #[.val (.int k), .unset, .unset, .unset, .unset] [(.ref b1), (.ref b1)])) tt
    refine XS.bipush X79.here hx rfl (hb hby at_161) ?_
    show Steps p.tables e below (T79.setTop (mkF m 163 #[.val (.int k), .unset, .unset, .unset, .unset] [(.int (23 : Int32)), (.ref b1), (.ref b1)])) tt
    refine st80 _ ?_
    show Steps p.tables e below (T80.setTop (mkF m 166 #[.val (.int k), .unset, .unset, .unset, .unset] [(.ref w23), (.int (23 : Int32)), (.ref b1), (.ref b1)])) tt
    refine st82 _ ?_
    show Steps p.tables e below (T82.setTop (mkF m 167 #[.val (.int k), .unset, .unset, .unset, .unset] [(.ref b1)])) tt
    refine XS.dup X82.here hx rfl (hb hby at_167) rfl rfl ?_
    show Steps p.tables e below (T82.setTop (mkF m 168 #[.val (.int k), .unset, .unset, .unset, .unset] [(.ref b1), (.ref b1)])) tt
    refine XS.bipush X82.here hx rfl (hb hby at_168) ?_
    exact kk
  obtain ⟨T84, X84, e84, st84⟩ := getS2 X82 hx hZ hown (host := "") (Or.inl (hw _ (List.mem_of_getElem? (i := 52) rfl))) Via.refl e82 (own_sta_keep0 (HS.2.2.2.2.2.2.2.2.2.2.2.2.2.2.2.2.2.2.2.2.2.2.2.2.1) K82) (g := (mkF m 170 #[.val (.int k), .unset, .unset, .unset, .unset] [(.int (24 : Int32)), (.ref b1), (.ref b1)])) rfl (hb hby at_170)
  obtain ⟨cl85, Ar85, q85, S85, P85, H85, G85⟩ := id V82
  have hin85 : ¬ ((24 : Int32) < 0 ∨ cl85.slots.size ≤ ((24 : Int32)).toNatClampNeg) := inb_of S85 ⟨by decide, by decide⟩
  obtain ⟨T86, h86, X86, e86, W86, st86⟩ := stR X84 hx hZ e84 Ar85 (j := (24 : Int32)) hin85 rfl (Sto.ofV Ar85 q85 O1 (Ins.self (Exa.keep (HE.2.2.2.2.2.2.2.2.2.2.2.2.2.2.2.2.2.2.2.2.2.2.2.2.1) K82))) (g := (mkF m 173 #[.val (.int k), .unset, .unset, .unset, .unset] [(.ref w24), (.int (24 : Int32)), (.ref b1), (.ref b1)])) rfl rfl (hb hby at_173)
  have V86 : Arv Z h86 b1 k1 (.object "com/example/hopguard/hopguard/core/Reason") (32 : Int32) [(.ref w0), (.ref w1), (.ref w2), (.ref w3), (.ref w4), (.ref w5), (.ref w6), (.ref w7), (.ref w8), (.ref w9), (.ref w10), (.ref w11), (.ref w12), (.ref w13), (.ref w14), (.ref w15), (.ref w16), (.ref w17), (.ref w18), (.ref w19), (.ref w20), (.ref w21), (.ref w22), (.ref w23), (.ref w24), .null, .null, .null, .null, .null, .null, .null] .null := Arv.set Ar85 q85 S85 P85 H85 G85 rfl W86 24 rfl (Nat.le_of_ble_eq_true rfl)
  have Z86 : n0 ≤ h86.size := Nat.le_trans Z82 (Keep.of_wr W86).1
  obtain ⟨lc86, X86, N86⟩ := own_hide X86 (Fr.snoc X86 N82 g_b1)
  have K86 := Keep.wr K82 W86 (Or.inr sz_b1)
  obtain ⟨T87, X87, e87, st87⟩ := getS2 X86 hx hZ hown (host := "") (Or.inl (hw _ (List.mem_of_getElem? (i := 54) rfl))) Via.refl e86 (own_sta_keep0 (HS.2.2.2.2.2.2.2.2.2.2.2.2.2.2.2.2.2.2.2.2.2.2.2.2.2.1) K86) (g := (mkF m 177 #[.val (.int k), .unset, .unset, .unset, .unset] [(.int (25 : Int32)), (.ref b1), (.ref b1)])) rfl (hb hby at_177)
  obtain ⟨cl88, Ar88, q88, S88, P88, H88, G88⟩ := id V86
  have hin88 : ¬ ((25 : Int32) < 0 ∨ cl88.slots.size ≤ ((25 : Int32)).toNatClampNeg) := inb_of S88 ⟨by decide, by decide⟩
  obtain ⟨T89, h89, X89, e89, W89, st89⟩ := stR X87 hx hZ e87 Ar88 (j := (25 : Int32)) hin88 rfl (Sto.ofV Ar88 q88 O1 (Ins.self (Exa.keep (HE.2.2.2.2.2.2.2.2.2.2.2.2.2.2.2.2.2.2.2.2.2.2.2.2.2.1) K86))) (g := (mkF m 180 #[.val (.int k), .unset, .unset, .unset, .unset] [(.ref w25), (.int (25 : Int32)), (.ref b1), (.ref b1)])) rfl rfl (hb hby at_180)
  have V89 : Arv Z h89 b1 k1 (.object "com/example/hopguard/hopguard/core/Reason") (32 : Int32) [(.ref w0), (.ref w1), (.ref w2), (.ref w3), (.ref w4), (.ref w5), (.ref w6), (.ref w7), (.ref w8), (.ref w9), (.ref w10), (.ref w11), (.ref w12), (.ref w13), (.ref w14), (.ref w15), (.ref w16), (.ref w17), (.ref w18), (.ref w19), (.ref w20), (.ref w21), (.ref w22), (.ref w23), (.ref w24), (.ref w25), .null, .null, .null, .null, .null, .null] .null := Arv.set Ar88 q88 S88 P88 H88 G88 rfl W89 25 rfl (Nat.le_of_ble_eq_true rfl)
  have Z89 : n0 ≤ h89.size := Nat.le_trans Z86 (Keep.of_wr W89).1
  obtain ⟨lc89, X89, N89⟩ := own_hide X89 (Fr.snoc X89 N86 g_b1)
  have K89 := Keep.wr K86 W89 (Or.inr sz_b1)
  obtain ⟨T90, X90, e90, st90⟩ := getS2 X89 hx hZ hown (host := "") (Or.inl (hw _ (List.mem_of_getElem? (i := 56) rfl))) Via.refl e89 (own_sta_keep0 (HS.2.2.2.2.2.2.2.2.2.2.2.2.2.2.2.2.2.2.2.2.2.2.2.2.2.2.1) K89) (g := (mkF m 184 #[.val (.int k), .unset, .unset, .unset, .unset] [(.int (26 : Int32)), (.ref b1), (.ref b1)])) rfl (hb hby at_184)
  obtain ⟨cl91, Ar91, q91, S91, P91, H91, G91⟩ := id V89
  have hin91 : ¬ ((26 : Int32) < 0 ∨ cl91.slots.size ≤ ((26 : Int32)).toNatClampNeg) := inb_of S91 ⟨by decide, by decide⟩
  obtain ⟨T92, h92, X92, e92, W92, st92⟩ := stR X90 hx hZ e90 Ar91 (j := (26 : Int32)) hin91 rfl (Sto.ofV Ar91 q91 O1 (Ins.self (Exa.keep (HE.2.2.2.2.2.2.2.2.2.2.2.2.2.2.2.2.2.2.2.2.2.2.2.2.2.2.1) K89))) (g := (mkF m 187 #[.val (.int k), .unset, .unset, .unset, .unset] [(.ref w26), (.int (26 : Int32)), (.ref b1), (.ref b1)])) rfl rfl (hb hby at_187)
  have V92 : Arv Z h92 b1 k1 (.object "com/example/hopguard/hopguard/core/Reason") (32 : Int32) [(.ref w0), (.ref w1), (.ref w2), (.ref w3), (.ref w4), (.ref w5), (.ref w6), (.ref w7), (.ref w8), (.ref w9), (.ref w10), (.ref w11), (.ref w12), (.ref w13), (.ref w14), (.ref w15), (.ref w16), (.ref w17), (.ref w18), (.ref w19), (.ref w20), (.ref w21), (.ref w22), (.ref w23), (.ref w24), (.ref w25), (.ref w26), .null, .null, .null, .null, .null] .null := Arv.set Ar91 q91 S91 P91 H91 G91 rfl W92 26 rfl (Nat.le_of_ble_eq_true rfl)
  have Z92 : n0 ≤ h92.size := Nat.le_trans Z89 (Keep.of_wr W92).1
  obtain ⟨lc92, X92, N92⟩ := own_hide X92 (Fr.snoc X92 N89 g_b1)
  have K92 := Keep.wr K89 W92 (Or.inr sz_b1)
  have k93 : ∀ tt, Steps p.tables e below (T92.setTop (mkF m 188 #[.val (.int k), .unset, .unset, .unset, .unset] [(.ref b1)])) tt → Steps p.tables e below (s₁.setTop (entryFrame m #[(.int k)] maxLocals)) tt := by
    intro tt kk
    refine k83 tt ?_
    show Steps p.tables e below (T82.setTop (mkF m 170 #[.val (.int k), .unset, .unset, .unset, .unset] [(.int (24 : Int32)), (.ref b1), (.ref b1)])) tt
    refine st84 _ ?_
    show Steps p.tables e below (T84.setTop (mkF m 173 #[.val (.int k), .unset, .unset, .unset, .unset] [(.ref w24), (.int (24 : Int32)), (.ref b1), (.ref b1)])) tt
    refine st86 _ ?_
    show Steps p.tables e below (T86.setTop (mkF m 174 #[.val (.int k), .unset, .unset, .unset, .unset] [(.ref b1)])) tt
    refine XS.dup X86.here hx rfl (hb hby at_174) rfl rfl ?_
    show Steps p.tables e below (T86.setTop (mkF m 175 #[.val (.int k), .unset, .unset, .unset, .unset] [(.ref b1), (.ref b1)])) tt
    refine XS.bipush X86.here hx rfl (hb hby at_175) ?_
    show Steps p.tables e below (T86.setTop (mkF m 177 #[.val (.int k), .unset, .unset, .unset, .unset] [(.int (25 : Int32)), (.ref b1), (.ref b1)])) tt
    refine st87 _ ?_
    show Steps p.tables e below (T87.setTop (mkF m 180 #[.val (.int k), .unset, .unset, .unset, .unset] [(.ref w25), (.int (25 : Int32)), (.ref b1), (.ref b1)])) tt
    refine st89 _ ?_
    show Steps p.tables e below (T89.setTop (mkF m 181 #[.val (.int k), .unset, .unset, .unset, .unset] [(.ref b1)])) tt
    refine XS.dup X89.here hx rfl (hb hby at_181) rfl rfl ?_
    show Steps p.tables e below (T89.setTop (mkF m 182 #[.val (.int k), .unset, .unset, .unset, .unset] [(.ref b1), (.ref b1)])) tt
    refine XS.bipush X89.here hx rfl (hb hby at_182) ?_
    show Steps p.tables e below (T89.setTop (mkF m 184 #[.val (.int k), .unset, .unset, .unset, .unset] [(.int (26 : Int32)), (.ref b1), (.ref b1)])) tt
    refine st90 _ ?_
    show Steps p.tables e below (T90.setTop (mkF m 187 #[.val (.int k), .unset, .unset, .unset, .unset] [(.ref w26), (.int (26 : Int32)), (.ref b1), (.ref b1)])) tt
    refine st92 _ ?_
    exact kk
  obtain ⟨T94, X94, e94, st94⟩ := getS2 X92 hx hZ hown (host := "") (Or.inl (hw _ (List.mem_of_getElem? (i := 58) rfl))) Via.refl e92 (own_sta_keep0 (HS.2.2.2.2.2.2.2.2.2.2.2.2.2.2.2.2.2.2.2.2.2.2.2.2.2.2.2.1) K92) (g := (mkF m 191 #[.val (.int k), .unset, .unset, .unset, .unset] [(.int (27 : Int32)), (.ref b1), (.ref b1)])) rfl (hb hby at_191)
  obtain ⟨cl95, Ar95, q95, S95, P95, H95, G95⟩ := id V92
  have hin95 : ¬ ((27 : Int32) < 0 ∨ cl95.slots.size ≤ ((27 : Int32)).toNatClampNeg) := inb_of S95 ⟨by decide, by decide⟩
  obtain ⟨T96, h96, X96, e96, W96, st96⟩ := stR X94 hx hZ e94 Ar95 (j := (27 : Int32)) hin95 rfl (Sto.ofV Ar95 q95 O1 (Ins.self (Exa.keep (HE.2.2.2.2.2.2.2.2.2.2.2.2.2.2.2.2.2.2.2.2.2.2.2.2.2.2.2.1) K92))) (g := (mkF m 194 #[.val (.int k), .unset, .unset, .unset, .unset] [(.ref w27), (.int (27 : Int32)), (.ref b1), (.ref b1)])) rfl rfl (hb hby at_194)
  have V96 : Arv Z h96 b1 k1 (.object "com/example/hopguard/hopguard/core/Reason") (32 : Int32) [(.ref w0), (.ref w1), (.ref w2), (.ref w3), (.ref w4), (.ref w5), (.ref w6), (.ref w7), (.ref w8), (.ref w9), (.ref w10), (.ref w11), (.ref w12), (.ref w13), (.ref w14), (.ref w15), (.ref w16), (.ref w17), (.ref w18), (.ref w19), (.ref w20), (.ref w21), (.ref w22), (.ref w23), (.ref w24), (.ref w25), (.ref w26), (.ref w27), .null, .null, .null, .null] .null := Arv.set Ar95 q95 S95 P95 H95 G95 rfl W96 27 rfl (Nat.le_of_ble_eq_true rfl)
  have Z96 : n0 ≤ h96.size := Nat.le_trans Z92 (Keep.of_wr W96).1
  obtain ⟨lc96, X96, N96⟩ := own_hide X96 (Fr.snoc X96 N92 g_b1)
  have K96 := Keep.wr K92 W96 (Or.inr sz_b1)
  obtain ⟨T97, X97, e97, st97⟩ := getS2 X96 hx hZ hown (host := "") (Or.inl (hw _ (List.mem_of_getElem? (i := 60) rfl))) Via.refl e96 (own_sta_keep0 (HS.2.2.2.2.2.2.2.2.2.2.2.2.2.2.2.2.2.2.2.2.2.2.2.2.2.2.2.2.1) K96) (g := (mkF m 198 #[.val (.int k), .unset, .unset, .unset, .unset] [(.int (28 : Int32)), (.ref b1), (.ref b1)])) rfl (hb hby at_198)
  obtain ⟨cl98, Ar98, q98, S98, P98, H98, G98⟩ := id V96
  have hin98 : ¬ ((28 : Int32) < 0 ∨ cl98.slots.size ≤ ((28 : Int32)).toNatClampNeg) := inb_of S98 ⟨by decide, by decide⟩
  obtain ⟨T99, h99, X99, e99, W99, st99⟩ := stR X97 hx hZ e97 Ar98 (j := (28 : Int32)) hin98 rfl (Sto.ofV Ar98 q98 O1 (Ins.self (Exa.keep (HE.2.2.2.2.2.2.2.2.2.2.2.2.2.2.2.2.2.2.2.2.2.2.2.2.2.2.2.2.1) K96))) (g := (mkF m 201 #[.val (.int k), .unset, .unset, .unset, .unset] [(.ref w28), (.int (28 : Int32)), (.ref b1), (.ref b1)])) rfl rfl (hb hby at_201)
  have V99 : Arv Z h99 b1 k1 (.object "com/example/hopguard/hopguard/core/Reason") (32 : Int32) [(.ref w0), (.ref w1), (.ref w2), (.ref w3), (.ref w4), (.ref w5), (.ref w6), (.ref w7), (.ref w8), (.ref w9), (.ref w10), (.ref w11), (.ref w12), (.ref w13), (.ref w14), (.ref w15), (.ref w16), (.ref w17), (.ref w18), (.ref w19), (.ref w20), (.ref w21), (.ref w22), (.ref w23), (.ref w24), (.ref w25), (.ref w26), (.ref w27), (.ref w28), .null, .null, .null] .null := Arv.set Ar98 q98 S98 P98 H98 G98 rfl W99 28 rfl (Nat.le_of_ble_eq_true rfl)
  have Z99 : n0 ≤ h99.size := Nat.le_trans Z96 (Keep.of_wr W99).1
  obtain ⟨lc99, X99, N99⟩ := own_hide X99 (Fr.snoc X99 N96 g_b1)
  have K99 := Keep.wr K96 W99 (Or.inr sz_b1)
  have k100 : ∀ tt, Steps p.tables e below (T99.setTop (mkF m 205 #[.val (.int k), .unset, .unset, .unset, .unset] [(.int (29 : Int32)), (.ref b1), (.ref b1)])) tt → Steps p.tables e below (s₁.setTop (entryFrame m #[(.int k)] maxLocals)) tt := by
    intro tt kk
    refine k93 tt ?_
    show Steps p.tables e below (T92.setTop (mkF m 188 #[.val (.int k), .unset, .unset, .unset, .unset] [(.ref b1)])) tt
    refine XS.dup X92.here hx rfl (hb hby at_188) rfl rfl ?_
    show Steps p.tables e below (T92.setTop (mkF m 189 #[.val (.int k), .unset, .unset, .unset, .unset] [(.ref b1), (.ref b1)])) tt
    refine XS.bipush X92.here hx rfl (hb hby at_189) ?_
    show Steps p.tables e below (T92.setTop (mkF m 191 #[.val (.int k), .unset, .unset, .unset, .unset] [(.int (27 : Int32)), (.ref b1), (.ref b1)])) tt
    refine st94 _ ?_
    show Steps p.tables e below (T94.setTop (mkF m 194 #[.val (.int k), .unset, .unset, .unset, .unset] [(.ref w27), (.int (27 : Int32)), (.ref b1), (.ref b1)])) tt
    refine st96 _ ?_
    show Steps p.tables e below (T96.setTop (mkF m 195 #[.val (.int k), .unset, .unset, .unset, .unset] [(.ref b1)])) tt
    refine XS.dup X96.here hx rfl (hb hby at_195) rfl rfl ?_
    show Steps p.tables e below (T96.setTop (mkF m 196 #[.val (.int k), .unset, .unset, .unset, .unset] [(.ref b1), (.ref b1)])) tt
    refine XS.bipush X96.here hx rfl (hb hby at_196) ?_
    show Steps p.tables e below (T96.setTop (mkF m 198 #[.val (.int k), .unset, .unset, .unset, .unset] [(.int (28 : Int32)), (.ref b1), (.ref b1)])) tt
    refine st97 _ ?_
    show Steps p.tables e below (T97.setTop (mkF m 201 #[.val (.int k), .unset, .unset, .unset, .unset] [(.ref w28), (.int (28 : Int32)), (.ref b1), (.ref b1)])) tt
    refine st99 _ ?_
    show Steps p.tables e below (T99.setTop (mkF m 202 #[.val (.int k), .unset, .unset, .unset, .unset] [(.ref b1)])) tt
    refine XS.dup X99.here hx rfl (hb hby at_202) rfl rfl ?_
    show Steps p.tables e below (T99.setTop (mkF m 203 #[.val (.int k), .unset, .unset, .unset, .unset] [(.ref b1), (.ref b1)])) tt
    refine XS.bipush X99.here hx rfl (hb hby at_203) ?_
    exact kk
  obtain ⟨T101, X101, e101, st101⟩ := getS2 X99 hx hZ hown (host := "") (Or.inl (hw _ (List.mem_of_getElem? (i := 62) rfl))) Via.refl e99 (own_sta_keep0 (HS.2.2.2.2.2.2.2.2.2.2.2.2.2.2.2.2.2.2.2.2.2.2.2.2.2.2.2.2.2.1) K99) (g := (mkF m 205 #[.val (.int k), .unset, .unset, .unset, .unset] [(.int (29 : Int32)), (.ref b1), (.ref b1)])) rfl (hb hby at_205)
  obtain ⟨cl102, Ar102, q102, S102, P102, H102, G102⟩ := id V99
  have hin102 : ¬ ((29 : Int32) < 0 ∨ cl102.slots.size ≤ ((29 : Int32)).toNatClampNeg) := inb_of S102 ⟨by decide, by decide⟩
  obtain ⟨T103, h103, X103, e103, W103, st103⟩ := stR X101 hx hZ e101 Ar102 (j := (29 : Int32)) hin102 rfl (Sto.ofV Ar102 q102 O1 (Ins.self (Exa.keep (HE.2.2.2.2.2.2.2.2.2.2.2.2.2.2.2.2.2.2.2.2.2.2.2.2.2.2.2.2.2.1) K99))) (g := (mkF m 208 #[.val (.int k), .unset, .unset, .unset, .unset] [(.ref w29), (.int (29 : Int32)), (.ref b1), (.ref b1)])) rfl rfl (hb hby at_208)
  have V103 : Arv Z h103 b1 k1 (.object "com/example/hopguard/hopguard/core/Reason") (32 : Int32) [(.ref w0), (.ref w1), (.ref w2), (.ref w3), (.ref w4), (.ref w5), (.ref w6), (.ref w7), (.ref w8), (.ref w9), (.ref w10), (.ref w11), (.ref w12), (.ref w13), (.ref w14), (.ref w15), (.ref w16), (.ref w17), (.ref w18), (.ref w19), (.ref w20), (.ref w21), (.ref w22), (.ref w23), (.ref w24), (.ref w25), (.ref w26), (.ref w27), (.ref w28), (.ref w29), .null, .null] .null := Arv.set Ar102 q102 S102 P102 H102 G102 rfl W103 29 rfl (Nat.le_of_ble_eq_true rfl)
  have Z103 : n0 ≤ h103.size := Nat.le_trans Z99 (Keep.of_wr W103).1
  obtain ⟨lc103, X103, N103⟩ := own_hide X103 (Fr.snoc X103 N99 g_b1)
  have K103 := Keep.wr K99 W103 (Or.inr sz_b1)
  obtain ⟨T104, X104, e104, st104⟩ := getS2 X103 hx hZ hown (host := "") (Or.inl (hw _ (List.mem_of_getElem? (i := 64) rfl))) Via.refl e103 (own_sta_keep0 (HS.2.2.2.2.2.2.2.2.2.2.2.2.2.2.2.2.2.2.2.2.2.2.2.2.2.2.2.2.2.2.1) K103) (g := (mkF m 212 #[.val (.int k), .unset, .unset, .unset, .unset] [(.int (30 : Int32)), (.ref b1), (.ref b1)])) rfl (hb hby at_212)
  obtain ⟨cl105, Ar105, q105, S105, P105, H105, G105⟩ := id V103
  have hin105 : ¬ ((30 : Int32) < 0 ∨ cl105.slots.size ≤ ((30 : Int32)).toNatClampNeg) := inb_of S105 ⟨by decide, by decide⟩
  obtain ⟨T106, h106, X106, e106, W106, st106⟩ := stR X104 hx hZ e104 Ar105 (j := (30 : Int32)) hin105 rfl (Sto.ofV Ar105 q105 O1 (Ins.self (Exa.keep (HE.2.2.2.2.2.2.2.2.2.2.2.2.2.2.2.2.2.2.2.2.2.2.2.2.2.2.2.2.2.2.1) K103))) (g := (mkF m 215 #[.val (.int k), .unset, .unset, .unset, .unset] [(.ref w30), (.int (30 : Int32)), (.ref b1), (.ref b1)])) rfl rfl (hb hby at_215)
  have V106 : Arv Z h106 b1 k1 (.object "com/example/hopguard/hopguard/core/Reason") (32 : Int32) [(.ref w0), (.ref w1), (.ref w2), (.ref w3), (.ref w4), (.ref w5), (.ref w6), (.ref w7), (.ref w8), (.ref w9), (.ref w10), (.ref w11), (.ref w12), (.ref w13), (.ref w14), (.ref w15), (.ref w16), (.ref w17), (.ref w18), (.ref w19), (.ref w20), (.ref w21), (.ref w22), (.ref w23), (.ref w24), (.ref w25), (.ref w26), (.ref w27), (.ref w28), (.ref w29), (.ref w30), .null] .null := Arv.set Ar105 q105 S105 P105 H105 G105 rfl W106 30 rfl (Nat.le_of_ble_eq_true rfl)
  have Z106 : n0 ≤ h106.size := Nat.le_trans Z103 (Keep.of_wr W106).1
  obtain ⟨lc106, X106, N106⟩ := own_hide X106 (Fr.snoc X106 N103 g_b1)
  have K106 := Keep.wr K103 W106 (Or.inr sz_b1)
  obtain ⟨T107, X107, e107, st107⟩ := getS2 X106 hx hZ hown (host := "") (Or.inl (hw _ (List.mem_of_getElem? (i := 66) rfl))) Via.refl e106 (own_sta_keep0 (HS.2.2.2.2.2.2.2.2.2.2.2.2.2.2.2.2.2.2.2.2.2.2.2.2.2.2.2.2.2.2.2) K106) (g := (mkF m 219 #[.val (.int k), .unset, .unset, .unset, .unset] [(.int (31 : Int32)), (.ref b1), (.ref b1)])) rfl (hb hby at_219)
  obtain ⟨cl108, Ar108, q108, S108, P108, H108, G108⟩ := id V106
  have hin108 : ¬ ((31 : Int32) < 0 ∨ cl108.slots.size ≤ ((31 : Int32)).toNatClampNeg) := inb_of S108 ⟨by decide, by decide⟩
  obtain ⟨T109, h109, X109, e109, W109, st109⟩ := stR X107 hx hZ e107 Ar108 (j := (31 : Int32)) hin108 rfl (Sto.ofV Ar108 q108 O1 (Ins.self (Exa.keep (HE.2.2.2.2.2.2.2.2.2.2.2.2.2.2.2.2.2.2.2.2.2.2.2.2.2.2.2.2.2.2.2) K106))) (g := (mkF m 222 #[.val (.int k), .unset, .unset, .unset, .unset] [(.ref w31), (.int (31 : Int32)), (.ref b1), (.ref b1)])) rfl rfl (hb hby at_222)
  have V109 : Arv Z h109 b1 k1 (.object "com/example/hopguard/hopguard/core/Reason") (32 : Int32) [(.ref w0), (.ref w1), (.ref w2), (.ref w3), (.ref w4), (.ref w5), (.ref w6), (.ref w7), (.ref w8), (.ref w9), (.ref w10), (.ref w11), (.ref w12), (.ref w13), (.ref w14), (.ref w15), (.ref w16), (.ref w17), (.ref w18), (.ref w19), (.ref w20), (.ref w21), (.ref w22), (.ref w23), (.ref w24), (.ref w25), (.ref w26), (.ref w27), (.ref w28), (.ref w29), (.ref w30), (.ref w31)] .null := Arv.set Ar108 q108 S108 P108 H108 G108 rfl W109 31 rfl (Nat.le_of_ble_eq_true rfl)
  have Z109 : n0 ≤ h109.size := Nat.le_trans Z106 (Keep.of_wr W109).1
  obtain ⟨lc109, X109, N109⟩ := own_hide X109 (Fr.snoc X109 N106 g_b1)
  have K109 := Keep.wr K106 W109 (Or.inr sz_b1)
  have k110 : ∀ tt, Steps p.tables e below (T109.setTop (mkF m 223 #[.val (.int k), .unset, .unset, .unset, .unset] [(.ref b1)])) tt → Steps p.tables e below (s₁.setTop (entryFrame m #[(.int k)] maxLocals)) tt := by
    intro tt kk
    refine k100 tt ?_
    show Steps p.tables e below (T99.setTop (mkF m 205 #[.val (.int k), .unset, .unset, .unset, .unset] [(.int (29 : Int32)), (.ref b1), (.ref b1)])) tt
    refine st101 _ ?_
    show Steps p.tables e below (T101.setTop (mkF m 208 #[.val (.int k), .unset, .unset, .unset, .unset] [(.ref w29), (.int (29 : Int32)), (.ref b1), (.ref b1)])) tt
    refine st103 _ ?_
    show Steps p.tables e below (T103.setTop (mkF m 209 #[.val (.int k), .unset, .unset, .unset, .unset] [(.ref b1)])) tt
    refine XS.dup X103.here hx rfl (hb hby at_209) rfl rfl ?_
    show Steps p.tables e below (T103.setTop (mkF m 210 #[.val (.int k), .unset, .unset, .unset, .unset] [(.ref b1), (.ref b1)])) tt
    refine XS.bipush X103.here hx rfl (hb hby at_210) ?_
    show Steps p.tables e below (T103.setTop (mkF m 212 #[.val (.int k), .unset, .unset, .unset, .unset] [(.int (30 : Int32)), (.ref b1), (.ref b1)])) tt
    refine st104 _ ?_
    show Steps p.tables e below (T104.setTop (mkF m 215 #[.val (.int k), .unset, .unset, .unset, .unset] [(.ref w30), (.int (30 : Int32)), (.ref b1), (.ref b1)])) tt
    refine st106 _ ?_
    show Steps p.tables e below (T106.setTop (mkF m 216 #[.val (.int k), .unset, .unset, .unset, .unset] [(.ref b1)])) tt
    refine XS.dup X106.here hx rfl (hb hby at_216) rfl rfl ?_
    show Steps p.tables e below (T106.setTop (mkF m 217 #[.val (.int k), .unset, .unset, .unset, .unset] [(.ref b1), (.ref b1)])) tt
    refine XS.bipush X106.here hx rfl (hb hby at_217) ?_
    show Steps p.tables e below (T106.setTop (mkF m 219 #[.val (.int k), .unset, .unset, .unset, .unset] [(.int (31 : Int32)), (.ref b1), (.ref b1)])) tt
    refine st107 _ ?_
    show Steps p.tables e below (T107.setTop (mkF m 222 #[.val (.int k), .unset, .unset, .unset, .unset] [(.ref w31), (.int (31 : Int32)), (.ref b1), (.ref b1)])) tt
    refine st109 _ ?_
    exact kk
  obtain ⟨cl111, Ar111, q111, S111, P111, H111, G111⟩ := id V109
  obtain ⟨r, z, hr, Er, Fr', hz⟩ := own_pick HE HF k
  have hin111 : ¬ ((k &&& (31 : Int32)) < 0 ∨ cl111.slots.size ≤ ((k &&& (31 : Int32))).toNatClampNeg) := inb_of S111 (own_inb k)
  have hat111 : cl111.slots[((k &&& (31 : Int32))).toNatClampNeg]? = some (.ref r) := Has.at H111 hin111 hr
  obtain ⟨T112, X112, e112, st112⟩ := getS2 X109 hx hZ hown (host := "") (Or.inl (hw _ (List.mem_of_getElem? (i := 36) rfl))) Via.refl e109 (own_sta_keep0 (HS.2.2.2.2.2.2.2.2.2.2.2.2.2.2.2.2.1) K109) (g := (mkF m 232 #[.val (.int k), .val (.ref b1), .val (.ref r), .unset, .unset] [(.ref r)])) rfl (hb hby at_232)
  have k113 : ∀ tt, Steps p.tables e below (T112.setTop (mkF m 235 #[.val (.int k), .val (.ref b1), .val (.ref r), .unset, .unset] [(.ref w16), (.ref r)])) tt → Steps p.tables e below (s₁.setTop (entryFrame m #[(.int k)] maxLocals)) tt := by
    intro tt kk
    refine k110 tt ?_
    show Steps p.tables e below (T109.setTop (mkF m 223 #[.val (.int k), .unset, .unset, .unset, .unset] [(.ref b1)])) tt
    refine XS.astoreN X109.here hx rfl (hb hby at_223) rfl rfl (l' := #[.val (.int k), .val (.ref b1), .unset, .unset, .unset]) rfl ?_
    show Steps p.tables e below (T109.setTop (mkF m 224 #[.val (.int k), .val (.ref b1), .unset, .unset, .unset] [])) tt
    refine XS.aloadN X109.here hx rfl (hb hby at_224) rfl rfl ?_
    show Steps p.tables e below (T109.setTop (mkF m 225 #[.val (.int k), .val (.ref b1), .unset, .unset, .unset] [(.ref b1)])) tt
    refine XS.iloadN X109.here hx rfl (hb hby at_225) rfl ?_
    show Steps p.tables e below (T109.setTop (mkF m 226 #[.val (.int k), .val (.ref b1), .unset, .unset, .unset] [(.int k), (.ref b1)])) tt
    refine XS.bipush X109.here hx rfl (hb hby at_226) ?_
    show Steps p.tables e below (T109.setTop (mkF m 228 #[.val (.int k), .val (.ref b1), .unset, .unset, .unset] [(.int (31 : Int32)), (.int k), (.ref b1)])) tt
    refine XS.iand X109.here hx rfl (hb hby at_228) rfl ?_
    show Steps p.tables e below (T109.setTop (mkF m 229 #[.val (.int k), .val (.ref b1), .unset, .unset, .unset] [(.int (k &&& (31 : Int32))), (.ref b1)])) tt
    refine X109.aaload hx (j := (k &&& (31 : Int32))) (v := (.ref r)) (by rw [e109]; exact Ar111.1) (State.isArrayOf_alike hZ.alike Ar111.2.1) rfl Ar111.2.2 hin111 hat111 (g := (mkF m 229 #[.val (.int k), .val (.ref b1), .unset, .unset, .unset] [(.int (k &&& (31 : Int32))), (.ref b1)])) rfl rfl (hb hby at_229) _ ?_
    show Steps p.tables e below (T109.setTop (mkF m 230 #[.val (.int k), .val (.ref b1), .unset, .unset, .unset] [(.ref r)])) tt
    refine XS.astoreN X109.here hx rfl (hb hby at_230) rfl rfl (l' := #[.val (.int k), .val (.ref b1), .val (.ref r), .unset, .unset]) rfl ?_
    show Steps p.tables e below (T109.setTop (mkF m 231 #[.val (.int k), .val (.ref b1), .val (.ref r), .unset, .unset] [])) tt
    refine XS.aloadN X109.here hx rfl (hb hby at_231) rfl rfl ?_
    show Steps p.tables e below (T109.setTop (mkF m 232 #[.val (.int k), .val (.ref b1), .val (.ref r), .unset, .unset] [(.ref r)])) tt
    refine st112 _ ?_
    exact kk
  by_cases c235_114 : r = w16
  · have hz5 : z = (503 : Int32) := hz.mpr (Or.inl c235_114)
    obtain ⟨cq115, kq115, q115a, q115b, q115c⟩ := isOf hZ e112 (Exa.keep Er K109)
    obtain ⟨_, _, ⟨T115, L115, ka115, na115⟩, -, X115, ⟨Lc115, hQ115, l115, y115, z115⟩, st115⟩ := X112.virtualBack hx (y := (⟨"com/example/hopguard/hopguard/core/Reason", "failsClosed", "()Z"⟩ : MethodName)) (z := (⟨"com/example/hopguard/hopguard/core/Reason", "failsClosed", "()Z"⟩ : MethodName)) hown (mvT hZ (hw _ (List.mem_of_getElem? (i := 68) rfl))) (mvT hZ (hw _ (List.mem_of_getElem? (i := 69) rfl))) (notFace_of_selects (args := #[]) (mvT hZ (hw _ (List.mem_of_getElem? (i := 71) rfl)))) (mvT hZ (hw _ (List.mem_of_getElem? (i := 71) rfl))) (mvT hZ (hw _ (List.mem_of_getElem? (i := 70) rfl))) (by decide) (backOf (W := 0) (own_rmF l Z a0 hw [] r z h109 n0 Z109 (Fld.keep Fr' K109 nin0)) hZ (hw _ (List.mem_of_getElem? (i := 72) rfl)) (hw _ (List.mem_of_getElem? (i := 3) rfl)) (by decide) (by decide)) q115a q115c (g := (mkF m 266 #[.val (.int k), .val (.ref b1), .val (.ref r), .val (.int (1 : Int32)), .unset] [(.ref r)])) rfl (by rw [hml]; rfl) (Steps.refl _) (argsL := []) (rest := []) (lenOf own_pd___Z rfl) rfl (by show 2 * 0 + _ ≤ _; exact Nat.le_of_eq rfl) (hb hby at_266) (fun _ _ => ⟨rfl, e112, (by decide : 1 + 0 ≤ _), (by decide : 32 + 0 ≤ _)⟩)
    dsimp only [Pt.U, Pt.locs, Pt.cells, Pt.slots] at X115 l115 y115 z115 st115 hQ115
    subst l115 y115 z115
    obtain ⟨hv115, Nq115, hh115⟩ := hQ115
    obtain ⟨lc115, X115, N115⟩ := own_hide X115 (Fr.app N109 Nq115)
    rw [show own_fc z = (1 : Int32) from if_pos hz5] at hv115
    subst hv115
    have k116 : ∀ tt, Steps p.tables e below (T115.setTop (mkF m 277 #[.val (.int k), .val (.ref b1), .val (.ref r), .val (.int (1 : Int32)), .val (.int (1 : Int32))] [])) tt → Steps p.tables e below (s₁.setTop (entryFrame m #[(.int k)] maxLocals)) tt := by
      intro tt kk
      refine k113 tt ?_
      show Steps p.tables e below (T112.setTop (mkF m 235 #[.val (.int k), .val (.ref b1), .val (.ref r), .unset, .unset] [(.ref w16), (.ref r)])) tt
      refine Jvm.RoadKit.acmp (g := (mkF m 235 #[.val (.int k), .val (.ref b1), .val (.ref r), .unset, .unset] [(.ref w16), (.ref r)])) X112 hx rfl rfl rfl (pc0 := 235) (pc' := 259) (same := true) rfl (hb hby at_235) rfl (decide_eq_true (congrArg Value.ref (c235_114))) (by decide) (by decide) ?_
      show Steps p.tables e below (T112.setTop (mkF m 259 #[.val (.int k), .val (.ref b1), .val (.ref r), .unset, .unset] [])) tt
      refine XS.iconst X112.here hx rfl (hb hby at_259) ?_
      show Steps p.tables e below (T112.setTop (mkF m 260 #[.val (.int k), .val (.ref b1), .val (.ref r), .unset, .unset] [(.int (1 : Int32))])) tt
      refine XS.goto X112.here hx rfl (pc0 := 260) (pc' := 264) rfl (hb hby at_260) (by decide) (by decide) ?_
      show Steps p.tables e below (T112.setTop (mkF m 264 #[.val (.int k), .val (.ref b1), .val (.ref r), .unset, .unset] [(.int (1 : Int32))])) tt
      refine XS.istoreN X112.here hx rfl (hb hby at_264) rfl (l' := #[.val (.int k), .val (.ref b1), .val (.ref r), .val (.int (1 : Int32)), .unset]) rfl ?_
      show Steps p.tables e below (T112.setTop (mkF m 265 #[.val (.int k), .val (.ref b1), .val (.ref r), .val (.int (1 : Int32)), .unset] [])) tt
      refine XS.aloadN X112.here hx rfl (hb hby at_265) rfl rfl ?_
      show Steps p.tables e below (T112.setTop (mkF m 266 #[.val (.int k), .val (.ref b1), .val (.ref r), .val (.int (1 : Int32)), .unset] [(.ref r)])) tt
      refine st115.trans ?_
      show Steps p.tables e below (T115.setTop (mkF m 269 #[.val (.int k), .val (.ref b1), .val (.ref r), .val (.int (1 : Int32)), .unset] [(.int (1 : Int32))])) tt
      refine XS.istore X115.here hx rfl (hb hby at_269) rfl (l' := #[.val (.int k), .val (.ref b1), .val (.ref r), .val (.int (1 : Int32)), .val (.int (1 : Int32))]) rfl ?_
      show Steps p.tables e below (T115.setTop (mkF m 271 #[.val (.int k), .val (.ref b1), .val (.ref r), .val (.int (1 : Int32)), .val (.int (1 : Int32))] [])) tt
      refine XS.iload X115.here hx rfl (hb hby at_271) rfl ?_
      show Steps p.tables e below (T115.setTop (mkF m 273 #[.val (.int k), .val (.ref b1), .val (.ref r), .val (.int (1 : Int32)), .val (.int (1 : Int32))] [(.int (1 : Int32))])) tt
      refine XS.iloadN X115.here hx rfl (hb hby at_273) rfl ?_
      show Steps p.tables e below (T115.setTop (mkF m 274 #[.val (.int k), .val (.ref b1), .val (.ref r), .val (.int (1 : Int32)), .val (.int (1 : Int32))] [(.int (1 : Int32)), (.int (1 : Int32))])) tt
      refine XS.icmpNo X115.here hx rfl (hb hby at_274) rfl (teq (by decide : (1 : Int32) = (1 : Int32))).2 ?_
      exact kk
    obtain ⟨cq117, kq117, q117a, q117b, q117c⟩ := isOf hZ hh115 (Exa.keep Er K109)
    obtain ⟨_, _, ⟨T117, L117, ka117, na117⟩, -, X117, ⟨Lc117, hQ117, l117, y117, z117⟩, st117⟩ := X115.virtualBack hx (y := (⟨"com/example/hopguard/hopguard/core/Reason", "status", "()I"⟩ : MethodName)) (z := (⟨"com/example/hopguard/hopguard/core/Reason", "status", "()I"⟩ : MethodName)) hown (mvT hZ (hw _ (List.mem_of_getElem? (i := 75) rfl))) (mvT hZ (hw _ (List.mem_of_getElem? (i := 76) rfl))) (notFace_of_selects (args := #[]) (mvT hZ (hw _ (List.mem_of_getElem? (i := 78) rfl)))) (mvT hZ (hw _ (List.mem_of_getElem? (i := 78) rfl))) (mvT hZ (hw _ (List.mem_of_getElem? (i := 77) rfl))) (by decide) (backOf (W := 1) (own_rmS l Z a0 hw [] r z h109 n0 Z109 (Fld.keep Fr' K109 nin0)) hZ (hw _ (List.mem_of_getElem? (i := 79) rfl)) (hw _ (List.mem_of_getElem? (i := 3) rfl)) (by decide) (by decide)) q117a q117c (g := (mkF m 280 #[.val (.int k), .val (.ref b1), .val (.ref r), .val (.int (1 : Int32)), .val (.int (1 : Int32))] [(.ref r), (.int (1 : Int32))])) rfl (by rw [hml]; rfl) (Steps.refl _) (argsL := []) (rest := [(.int (1 : Int32))]) (lenOf own_pd___I rfl) rfl (by show 2 * 0 + _ ≤ _; exact Nat.le_of_eq rfl) (hb hby at_280) (fun _ _ => ⟨rfl, hh115, (by decide : 1 + 0 ≤ _), (by decide : 32 + 0 ≤ _)⟩)
    dsimp only [Pt.U, Pt.locs, Pt.cells, Pt.slots] at X117 l117 y117 z117 st117 hQ117
    subst l117 y117 z117
    obtain ⟨rfl, Nq117, hh117⟩ := hQ117
    obtain ⟨lc117, X117, N117⟩ := own_hide X117 (Fr.app N115 Nq117)
    have k118 : ∀ tt, Steps p.tables e below (T117.setTop (mkF m 302 #[.val (.int k), .val (.ref b1), .val (.ref r), .val (.int (1 : Int32)), .val (.int (1 : Int32))] [(.int (1 : Int32))])) tt → Steps p.tables e below (s₁.setTop (entryFrame m #[(.int k)] maxLocals)) tt := by
      intro tt kk
      refine k116 tt ?_
      show Steps p.tables e below (T115.setTop (mkF m 277 #[.val (.int k), .val (.ref b1), .val (.ref r), .val (.int (1 : Int32)), .val (.int (1 : Int32))] [])) tt
      refine XS.iload X115.here hx rfl (hb hby at_277) rfl ?_
      show Steps p.tables e below (T115.setTop (mkF m 279 #[.val (.int k), .val (.ref b1), .val (.ref r), .val (.int (1 : Int32)), .val (.int (1 : Int32))] [(.int (1 : Int32))])) tt
      refine XS.aloadN X115.here hx rfl (hb hby at_279) rfl rfl ?_
      show Steps p.tables e below (T115.setTop (mkF m 280 #[.val (.int k), .val (.ref b1), .val (.ref r), .val (.int (1 : Int32)), .val (.int (1 : Int32))] [(.ref r), (.int (1 : Int32))])) tt
      refine st117.trans ?_
      show Steps p.tables e below (T117.setTop (mkF m 283 #[.val (.int k), .val (.ref b1), .val (.ref r), .val (.int (1 : Int32)), .val (.int (1 : Int32))] [(.int z), (.int (1 : Int32))])) tt
      refine XS.sipush X117.here hx rfl (hb hby at_283) ?_
      show Steps p.tables e below (T117.setTop (mkF m 286 #[.val (.int k), .val (.ref b1), .val (.ref r), .val (.int (1 : Int32)), .val (.int (1 : Int32))] [(.int (503 : Int32)), (.int z), (.int (1 : Int32))])) tt
      refine XS.icmpNo X117.here hx rfl (hb hby at_286) rfl (teq (hz5 : z = (503 : Int32))).2 ?_
      show Steps p.tables e below (T117.setTop (mkF m 289 #[.val (.int k), .val (.ref b1), .val (.ref r), .val (.int (1 : Int32)), .val (.int (1 : Int32))] [(.int (1 : Int32))])) tt
      refine XS.iconst X117.here hx rfl (hb hby at_289) ?_
      show Steps p.tables e below (T117.setTop (mkF m 290 #[.val (.int k), .val (.ref b1), .val (.ref r), .val (.int (1 : Int32)), .val (.int (1 : Int32))] [(.int (1 : Int32)), (.int (1 : Int32))])) tt
      refine XS.goto X117.here hx rfl (pc0 := 290) (pc' := 294) rfl (hb hby at_290) (by decide) (by decide) ?_
      show Steps p.tables e below (T117.setTop (mkF m 294 #[.val (.int k), .val (.ref b1), .val (.ref r), .val (.int (1 : Int32)), .val (.int (1 : Int32))] [(.int (1 : Int32)), (.int (1 : Int32))])) tt
      refine XS.icmpNo X117.here hx rfl (hb hby at_294) rfl (teq (by decide : (1 : Int32) = (1 : Int32))).2 ?_
      show Steps p.tables e below (T117.setTop (mkF m 297 #[.val (.int k), .val (.ref b1), .val (.ref r), .val (.int (1 : Int32)), .val (.int (1 : Int32))] [])) tt
      refine XS.iconst X117.here hx rfl (hb hby at_297) ?_
      show Steps p.tables e below (T117.setTop (mkF m 298 #[.val (.int k), .val (.ref b1), .val (.ref r), .val (.int (1 : Int32)), .val (.int (1 : Int32))] [(.int (1 : Int32))])) tt
      refine XS.goto X117.here hx rfl (pc0 := 298) (pc' := 302) rfl (hb hby at_298) (by decide) (by decide) ?_
      exact kk
    obtain ⟨fs, hr, hrun, hended, hW, hsame⟩ := X117.leave (v := some (.int (1 : Int32))) (fun hq => by rw [Bd.returns] at hq; cases hq)
    refine ⟨_, _, k118 _ ?_, hrun, hended, _, _, rfl, ?_, ⟨_, rfl⟩, hW, hsame.mono (by decide) (by decide)⟩
    · show Steps p.tables e below (T117.setTop (mkF m 302 #[.val (.int k), .val (.ref b1), .val (.ref r), .val (.int (1 : Int32)), .val (.int (1 : Int32))] [(.int (1 : Int32))])) _
      exact retN X117 hx (t := .boolean) Bd.returns (by simp) (hb hby at_302) hr
    · show (fun (v : Option Value) (h : Heap) (L : List Loc) => v = some (.int (1 : Int32)) ∧ Fr n0 L) _ T117.heap _
      rw [hh117]
      dsimp only
      exact ⟨rfl, N117⟩
  · obtain ⟨T119, X119, e119, st119⟩ := getS2 X112 hx hZ hown (host := "") (Or.inl (hw _ (List.mem_of_getElem? (i := 54) rfl))) Via.refl e112 (own_sta_keep0 (HS.2.2.2.2.2.2.2.2.2.2.2.2.2.2.2.2.2.2.2.2.2.2.2.2.2.1) K109) (g := (mkF m 239 #[.val (.int k), .val (.ref b1), .val (.ref r), .unset, .unset] [(.ref r)])) rfl (hb hby at_239)
    have k120 : ∀ tt, Steps p.tables e below (T119.setTop (mkF m 242 #[.val (.int k), .val (.ref b1), .val (.ref r), .unset, .unset] [(.ref w25), (.ref r)])) tt → Steps p.tables e below (s₁.setTop (entryFrame m #[(.int k)] maxLocals)) tt := by
      intro tt kk
      refine k113 tt ?_
      show Steps p.tables e below (T112.setTop (mkF m 235 #[.val (.int k), .val (.ref b1), .val (.ref r), .unset, .unset] [(.ref w16), (.ref r)])) tt
      refine Jvm.RoadKit.acmp (g := (mkF m 235 #[.val (.int k), .val (.ref b1), .val (.ref r), .unset, .unset] [(.ref w16), (.ref r)])) X112 hx rfl rfl rfl (pc0 := 235) (pc' := 238) (same := false) rfl (hb hby at_235) rfl (decide_eq_false fun hz0 => (c235_114) (Value.ref.inj hz0)) (by decide) (by decide) ?_
      show Steps p.tables e below (T112.setTop (mkF m 238 #[.val (.int k), .val (.ref b1), .val (.ref r), .unset, .unset] [])) tt
      refine XS.aloadN X112.here hx rfl (hb hby at_238) rfl rfl ?_
      show Steps p.tables e below (T112.setTop (mkF m 239 #[.val (.int k), .val (.ref b1), .val (.ref r), .unset, .unset] [(.ref r)])) tt
      refine st119 _ ?_
      exact kk
    by_cases c242_121 : r = w25
    · have hz5 : z = (503 : Int32) := hz.mpr (Or.inr (Or.inl c242_121))
      obtain ⟨cq122, kq122, q122a, q122b, q122c⟩ := isOf hZ e119 (Exa.keep Er K109)
      obtain ⟨_, _, ⟨T122, L122, ka122, na122⟩, -, X122, ⟨Lc122, hQ122, l122, y122, z122⟩, st122⟩ := X119.virtualBack hx (y := (⟨"com/example/hopguard/hopguard/core/Reason", "failsClosed", "()Z"⟩ : MethodName)) (z := (⟨"com/example/hopguard/hopguard/core/Reason", "failsClosed", "()Z"⟩ : MethodName)) hown (mvT hZ (hw _ (List.mem_of_getElem? (i := 68) rfl))) (mvT hZ (hw _ (List.mem_of_getElem? (i := 69) rfl))) (notFace_of_selects (args := #[]) (mvT hZ (hw _ (List.mem_of_getElem? (i := 71) rfl)))) (mvT hZ (hw _ (List.mem_of_getElem? (i := 71) rfl))) (mvT hZ (hw _ (List.mem_of_getElem? (i := 70) rfl))) (by decide) (backOf (W := 0) (own_rmF l Z a0 hw [] r z h109 n0 Z109 (Fld.keep Fr' K109 nin0)) hZ (hw _ (List.mem_of_getElem? (i := 72) rfl)) (hw _ (List.mem_of_getElem? (i := 3) rfl)) (by decide) (by decide)) q122a q122c (g := (mkF m 266 #[.val (.int k), .val (.ref b1), .val (.ref r), .val (.int (1 : Int32)), .unset] [(.ref r)])) rfl (by rw [hml]; rfl) (Steps.refl _) (argsL := []) (rest := []) (lenOf own_pd___Z rfl) rfl (by show 2 * 0 + _ ≤ _; exact Nat.le_of_eq rfl) (hb hby at_266) (fun _ _ => ⟨rfl, e119, (by decide : 1 + 0 ≤ _), (by decide : 32 + 0 ≤ _)⟩)
      dsimp only [Pt.U, Pt.locs, Pt.cells, Pt.slots] at X122 l122 y122 z122 st122 hQ122
      subst l122 y122 z122
      obtain ⟨hv122, Nq122, hh122⟩ := hQ122
      obtain ⟨lc122, X122, N122⟩ := own_hide X122 (Fr.app N109 Nq122)
      rw [show own_fc z = (1 : Int32) from if_pos hz5] at hv122
      subst hv122
      have k123 : ∀ tt, Steps p.tables e below (T122.setTop (mkF m 277 #[.val (.int k), .val (.ref b1), .val (.ref r), .val (.int (1 : Int32)), .val (.int (1 : Int32))] [])) tt → Steps p.tables e below (s₁.setTop (entryFrame m #[(.int k)] maxLocals)) tt := by
        intro tt kk
        refine k120 tt ?_
        show Steps p.tables e below (T119.setTop (mkF m 242 #[.val (.int k), .val (.ref b1), .val (.ref r), .unset, .unset] [(.ref w25), (.ref r)])) tt
        refine Jvm.RoadKit.acmp (g := (mkF m 242 #[.val (.int k), .val (.ref b1), .val (.ref r), .unset, .unset] [(.ref w25), (.ref r)])) X119 hx rfl rfl rfl (pc0 := 242) (pc' := 259) (same := true) rfl (hb hby at_242) rfl (decide_eq_true (congrArg Value.ref (c242_121))) (by decide) (by decide) ?_
        show Steps p.tables e below (T119.setTop (mkF m 259 #[.val (.int k), .val (.ref b1), .val (.ref r), .unset, .unset] [])) tt
        refine XS.iconst X119.here hx rfl (hb hby at_259) ?_
        show Steps p.tables e below (T119.setTop (mkF m 260 #[.val (.int k), .val (.ref b1), .val (.ref r), .unset, .unset] [(.int (1 : Int32))])) tt
        refine XS.goto X119.here hx rfl (pc0 := 260) (pc' := 264) rfl (hb hby at_260) (by decide) (by decide) ?_
        show Steps p.tables e below (T119.setTop (mkF m 264 #[.val (.int k), .val (.ref b1), .val (.ref r), .unset, .unset] [(.int (1 : Int32))])) tt
        refine XS.istoreN X119.here hx rfl (hb hby at_264) rfl (l' := #[.val (.int k), .val (.ref b1), .val (.ref r), .val (.int (1 : Int32)), .unset]) rfl ?_
        show Steps p.tables e below (T119.setTop (mkF m 265 #[.val (.int k), .val (.ref b1), .val (.ref r), .val (.int (1 : Int32)), .unset] [])) tt
        refine XS.aloadN X119.here hx rfl (hb hby at_265) rfl rfl ?_
        show Steps p.tables e below (T119.setTop (mkF m 266 #[.val (.int k), .val (.ref b1), .val (.ref r), .val (.int (1 : Int32)), .unset] [(.ref r)])) tt
        refine st122.trans ?_
        show Steps p.tables e below (T122.setTop (mkF m 269 #[.val (.int k), .val (.ref b1), .val (.ref r), .val (.int (1 : Int32)), .unset] [(.int (1 : Int32))])) tt
        refine XS.istore X122.here hx rfl (hb hby at_269) rfl (l' := #[.val (.int k), .val (.ref b1), .val (.ref r), .val (.int (1 : Int32)), .val (.int (1 : Int32))]) rfl ?_
        show Steps p.tables e below (T122.setTop (mkF m 271 #[.val (.int k), .val (.ref b1), .val (.ref r), .val (.int (1 : Int32)), .val (.int (1 : Int32))] [])) tt
        refine XS.iload X122.here hx rfl (hb hby at_271) rfl ?_
        show Steps p.tables e below (T122.setTop (mkF m 273 #[.val (.int k), .val (.ref b1), .val (.ref r), .val (.int (1 : Int32)), .val (.int (1 : Int32))] [(.int (1 : Int32))])) tt
        refine XS.iloadN X122.here hx rfl (hb hby at_273) rfl ?_
        show Steps p.tables e below (T122.setTop (mkF m 274 #[.val (.int k), .val (.ref b1), .val (.ref r), .val (.int (1 : Int32)), .val (.int (1 : Int32))] [(.int (1 : Int32)), (.int (1 : Int32))])) tt
        refine XS.icmpNo X122.here hx rfl (hb hby at_274) rfl (teq (by decide : (1 : Int32) = (1 : Int32))).2 ?_
        exact kk
      obtain ⟨cq124, kq124, q124a, q124b, q124c⟩ := isOf hZ hh122 (Exa.keep Er K109)
      obtain ⟨_, _, ⟨T124, L124, ka124, na124⟩, -, X124, ⟨Lc124, hQ124, l124, y124, z124⟩, st124⟩ := X122.virtualBack hx (y := (⟨"com/example/hopguard/hopguard/core/Reason", "status", "()I"⟩ : MethodName)) (z := (⟨"com/example/hopguard/hopguard/core/Reason", "status", "()I"⟩ : MethodName)) hown (mvT hZ (hw _ (List.mem_of_getElem? (i := 75) rfl))) (mvT hZ (hw _ (List.mem_of_getElem? (i := 76) rfl))) (notFace_of_selects (args := #[]) (mvT hZ (hw _ (List.mem_of_getElem? (i := 78) rfl)))) (mvT hZ (hw _ (List.mem_of_getElem? (i := 78) rfl))) (mvT hZ (hw _ (List.mem_of_getElem? (i := 77) rfl))) (by decide) (backOf (W := 1) (own_rmS l Z a0 hw [] r z h109 n0 Z109 (Fld.keep Fr' K109 nin0)) hZ (hw _ (List.mem_of_getElem? (i := 79) rfl)) (hw _ (List.mem_of_getElem? (i := 3) rfl)) (by decide) (by decide)) q124a q124c (g := (mkF m 280 #[.val (.int k), .val (.ref b1), .val (.ref r), .val (.int (1 : Int32)), .val (.int (1 : Int32))] [(.ref r), (.int (1 : Int32))])) rfl (by rw [hml]; rfl) (Steps.refl _) (argsL := []) (rest := [(.int (1 : Int32))]) (lenOf own_pd___I rfl) rfl (by show 2 * 0 + _ ≤ _; exact Nat.le_of_eq rfl) (hb hby at_280) (fun _ _ => ⟨rfl, hh122, (by decide : 1 + 0 ≤ _), (by decide : 32 + 0 ≤ _)⟩)
      dsimp only [Pt.U, Pt.locs, Pt.cells, Pt.slots] at X124 l124 y124 z124 st124 hQ124
      subst l124 y124 z124
      obtain ⟨rfl, Nq124, hh124⟩ := hQ124
      obtain ⟨lc124, X124, N124⟩ := own_hide X124 (Fr.app N122 Nq124)
      have k125 : ∀ tt, Steps p.tables e below (T124.setTop (mkF m 302 #[.val (.int k), .val (.ref b1), .val (.ref r), .val (.int (1 : Int32)), .val (.int (1 : Int32))] [(.int (1 : Int32))])) tt → Steps p.tables e below (s₁.setTop (entryFrame m #[(.int k)] maxLocals)) tt := by
        intro tt kk
        refine k123 tt ?_
        show Steps p.tables e below (T122.setTop (mkF m 277 #[.val (.int k), .val (.ref b1), .val (.ref r), .val (.int (1 : Int32)), .val (.int (1 : Int32))] [])) tt
        refine XS.iload X122.here hx rfl (hb hby at_277) rfl ?_
        show Steps p.tables e below (T122.setTop (mkF m 279 #[.val (.int k), .val (.ref b1), .val (.ref r), .val (.int (1 : Int32)), .val (.int (1 : Int32))] [(.int (1 : Int32))])) tt
        refine XS.aloadN X122.here hx rfl (hb hby at_279) rfl rfl ?_
        show Steps p.tables e below (T122.setTop (mkF m 280 #[.val (.int k), .val (.ref b1), .val (.ref r), .val (.int (1 : Int32)), .val (.int (1 : Int32))] [(.ref r), (.int (1 : Int32))])) tt
        refine st124.trans ?_
        show Steps p.tables e below (T124.setTop (mkF m 283 #[.val (.int k), .val (.ref b1), .val (.ref r), .val (.int (1 : Int32)), .val (.int (1 : Int32))] [(.int z), (.int (1 : Int32))])) tt
        refine XS.sipush X124.here hx rfl (hb hby at_283) ?_
        show Steps p.tables e below (T124.setTop (mkF m 286 #[.val (.int k), .val (.ref b1), .val (.ref r), .val (.int (1 : Int32)), .val (.int (1 : Int32))] [(.int (503 : Int32)), (.int z), (.int (1 : Int32))])) tt
        refine XS.icmpNo X124.here hx rfl (hb hby at_286) rfl (teq (hz5 : z = (503 : Int32))).2 ?_
        show Steps p.tables e below (T124.setTop (mkF m 289 #[.val (.int k), .val (.ref b1), .val (.ref r), .val (.int (1 : Int32)), .val (.int (1 : Int32))] [(.int (1 : Int32))])) tt
        refine XS.iconst X124.here hx rfl (hb hby at_289) ?_
        show Steps p.tables e below (T124.setTop (mkF m 290 #[.val (.int k), .val (.ref b1), .val (.ref r), .val (.int (1 : Int32)), .val (.int (1 : Int32))] [(.int (1 : Int32)), (.int (1 : Int32))])) tt
        refine XS.goto X124.here hx rfl (pc0 := 290) (pc' := 294) rfl (hb hby at_290) (by decide) (by decide) ?_
        show Steps p.tables e below (T124.setTop (mkF m 294 #[.val (.int k), .val (.ref b1), .val (.ref r), .val (.int (1 : Int32)), .val (.int (1 : Int32))] [(.int (1 : Int32)), (.int (1 : Int32))])) tt
        refine XS.icmpNo X124.here hx rfl (hb hby at_294) rfl (teq (by decide : (1 : Int32) = (1 : Int32))).2 ?_
        show Steps p.tables e below (T124.setTop (mkF m 297 #[.val (.int k), .val (.ref b1), .val (.ref r), .val (.int (1 : Int32)), .val (.int (1 : Int32))] [])) tt
        refine XS.iconst X124.here hx rfl (hb hby at_297) ?_
        show Steps p.tables e below (T124.setTop (mkF m 298 #[.val (.int k), .val (.ref b1), .val (.ref r), .val (.int (1 : Int32)), .val (.int (1 : Int32))] [(.int (1 : Int32))])) tt
        refine XS.goto X124.here hx rfl (pc0 := 298) (pc' := 302) rfl (hb hby at_298) (by decide) (by decide) ?_
        exact kk
      obtain ⟨fs, hr, hrun, hended, hW, hsame⟩ := X124.leave (v := some (.int (1 : Int32))) (fun hq => by rw [Bd.returns] at hq; cases hq)
      refine ⟨_, _, k125 _ ?_, hrun, hended, _, _, rfl, ?_, ⟨_, rfl⟩, hW, hsame.mono (by decide) (by decide)⟩
      · show Steps p.tables e below (T124.setTop (mkF m 302 #[.val (.int k), .val (.ref b1), .val (.ref r), .val (.int (1 : Int32)), .val (.int (1 : Int32))] [(.int (1 : Int32))])) _
        exact retN X124 hx (t := .boolean) Bd.returns (by simp) (hb hby at_302) hr
      · show (fun (v : Option Value) (h : Heap) (L : List Loc) => v = some (.int (1 : Int32)) ∧ Fr n0 L) _ T124.heap _
        rw [hh124]
        dsimp only
        exact ⟨rfl, N124⟩
    · obtain ⟨T126, X126, e126, st126⟩ := getS2 X119 hx hZ hown (host := "") (Or.inl (hw _ (List.mem_of_getElem? (i := 56) rfl))) Via.refl e119 (own_sta_keep0 (HS.2.2.2.2.2.2.2.2.2.2.2.2.2.2.2.2.2.2.2.2.2.2.2.2.2.2.1) K109) (g := (mkF m 246 #[.val (.int k), .val (.ref b1), .val (.ref r), .unset, .unset] [(.ref r)])) rfl (hb hby at_246)
      have k127 : ∀ tt, Steps p.tables e below (T126.setTop (mkF m 249 #[.val (.int k), .val (.ref b1), .val (.ref r), .unset, .unset] [(.ref w26), (.ref r)])) tt → Steps p.tables e below (s₁.setTop (entryFrame m #[(.int k)] maxLocals)) tt := by
        intro tt kk
        refine k120 tt ?_
        show Steps p.tables e below (T119.setTop (mkF m 242 #[.val (.int k), .val (.ref b1), .val (.ref r), .unset, .unset] [(.ref w25), (.ref r)])) tt
        refine Jvm.RoadKit.acmp (g := (mkF m 242 #[.val (.int k), .val (.ref b1), .val (.ref r), .unset, .unset] [(.ref w25), (.ref r)])) X119 hx rfl rfl rfl (pc0 := 242) (pc' := 245) (same := false) rfl (hb hby at_242) rfl (decide_eq_false fun hz0 => (c242_121) (Value.ref.inj hz0)) (by decide) (by decide) ?_
        show Steps p.tables e below (T119.setTop (mkF m 245 #[.val (.int k), .val (.ref b1), .val (.ref r), .unset, .unset] [])) tt
        refine XS.aloadN X119.here hx rfl (hb hby at_245) rfl rfl ?_
        show Steps p.tables e below (T119.setTop (mkF m 246 #[.val (.int k), .val (.ref b1), .val (.ref r), .unset, .unset] [(.ref r)])) tt
        refine st126 _ ?_
        exact kk
      by_cases c249_128 : r = w26
      · have hz5 : z = (503 : Int32) := hz.mpr (Or.inr (Or.inr (Or.inl c249_128)))
        obtain ⟨cq129, kq129, q129a, q129b, q129c⟩ := isOf hZ e126 (Exa.keep Er K109)
        obtain ⟨_, _, ⟨T129, L129, ka129, na129⟩, -, X129, ⟨Lc129, hQ129, l129, y129, z129⟩, st129⟩ := X126.virtualBack hx (y := (⟨"com/example/hopguard/hopguard/core/Reason", "failsClosed", "()Z"⟩ : MethodName)) (z := (⟨"com/example/hopguard/hopguard/core/Reason", "failsClosed", "()Z"⟩ : MethodName)) hown (mvT hZ (hw _ (List.mem_of_getElem? (i := 68) rfl))) (mvT hZ (hw _ (List.mem_of_getElem? (i := 69) rfl))) (notFace_of_selects (args := #[]) (mvT hZ (hw _ (List.mem_of_getElem? (i := 71) rfl)))) (mvT hZ (hw _ (List.mem_of_getElem? (i := 71) rfl))) (mvT hZ (hw _ (List.mem_of_getElem? (i := 70) rfl))) (by decide) (backOf (W := 0) (own_rmF l Z a0 hw [] r z h109 n0 Z109 (Fld.keep Fr' K109 nin0)) hZ (hw _ (List.mem_of_getElem? (i := 72) rfl)) (hw _ (List.mem_of_getElem? (i := 3) rfl)) (by decide) (by decide)) q129a q129c (g := (mkF m 266 #[.val (.int k), .val (.ref b1), .val (.ref r), .val (.int (1 : Int32)), .unset] [(.ref r)])) rfl (by rw [hml]; rfl) (Steps.refl _) (argsL := []) (rest := []) (lenOf own_pd___Z rfl) rfl (by show 2 * 0 + _ ≤ _; exact Nat.le_of_eq rfl) (hb hby at_266) (fun _ _ => ⟨rfl, e126, (by decide : 1 + 0 ≤ _), (by decide : 32 + 0 ≤ _)⟩)
        dsimp only [Pt.U, Pt.locs, Pt.cells, Pt.slots] at X129 l129 y129 z129 st129 hQ129
        subst l129 y129 z129
        obtain ⟨hv129, Nq129, hh129⟩ := hQ129
        obtain ⟨lc129, X129, N129⟩ := own_hide X129 (Fr.app N109 Nq129)
        rw [show own_fc z = (1 : Int32) from if_pos hz5] at hv129
        subst hv129
        have k130 : ∀ tt, Steps p.tables e below (T129.setTop (mkF m 277 #[.val (.int k), .val (.ref b1), .val (.ref r), .val (.int (1 : Int32)), .val (.int (1 : Int32))] [])) tt → Steps p.tables e below (s₁.setTop (entryFrame m #[(.int k)] maxLocals)) tt := by
          intro tt kk
          refine k127 tt ?_
          show Steps p.tables e below (T126.setTop (mkF m 249 #[.val (.int k), .val (.ref b1), .val (.ref r), .unset, .unset] [(.ref w26), (.ref r)])) tt
          refine Jvm.RoadKit.acmp (g := (mkF m 249 #[.val (.int k), .val (.ref b1), .val (.ref r), .unset, .unset] [(.ref w26), (.ref r)])) X126 hx rfl rfl rfl (pc0 := 249) (pc' := 259) (same := true) rfl (hb hby at_249) rfl (decide_eq_true (congrArg Value.ref (c249_128))) (by decide) (by decide) ?_
          show Steps p.tables e below (T126.setTop (mkF m 259 #[.val (.int k), .val (.ref b1), .val (.ref r), .unset, .unset] [])) tt
          refine XS.iconst X126.here hx rfl (hb hby at_259) ?_
          show Steps p.tables e below (T126.setTop (mkF m 260 #[.val (.int k), .val (.ref b1), .val (.ref r), .unset, .unset] [(.int (1 : Int32))])) tt
          refine XS.goto X126.here hx rfl (pc0 := 260) (pc' := 264) rfl (hb hby at_260) (by decide) (by decide) ?_
          show Steps p.tables e below (T126.setTop (mkF m 264 #[.val (.int k), .val (.ref b1), .val (.ref r), .unset, .unset] [(.int (1 : Int32))])) tt
          refine XS.istoreN X126.here hx rfl (hb hby at_264) rfl (l' := #[.val (.int k), .val (.ref b1), .val (.ref r), .val (.int (1 : Int32)), .unset]) rfl ?_
          show Steps p.tables e below (T126.setTop (mkF m 265 #[.val (.int k), .val (.ref b1), .val (.ref r), .val (.int (1 : Int32)), .unset] [])) tt
          refine XS.aloadN X126.here hx rfl (hb hby at_265) rfl rfl ?_
          show Steps p.tables e below (T126.setTop (mkF m 266 #[.val (.int k), .val (.ref b1), .val (.ref r), .val (.int (1 : Int32)), .unset] [(.ref r)])) tt
          refine st129.trans ?_
          show Steps p.tables e below (T129.setTop (mkF m 269 #[.val (.int k), .val (.ref b1), .val (.ref r), .val (.int (1 : Int32)), .unset] [(.int (1 : Int32))])) tt
          refine XS.istore X129.here hx rfl (hb hby at_269) rfl (l' := #[.val (.int k), .val (.ref b1), .val (.ref r), .val (.int (1 : Int32)), .val (.int (1 : Int32))]) rfl ?_
          show Steps p.tables e below (T129.setTop (mkF m 271 #[.val (.int k), .val (.ref b1), .val (.ref r), .val (.int (1 : Int32)), .val (.int (1 : Int32))] [])) tt
          refine XS.iload X129.here hx rfl (hb hby at_271) rfl ?_
          show Steps p.tables e below (T129.setTop (mkF m 273 #[.val (.int k), .val (.ref b1), .val (.ref r), .val (.int (1 : Int32)), .val (.int (1 : Int32))] [(.int (1 : Int32))])) tt
          refine XS.iloadN X129.here hx rfl (hb hby at_273) rfl ?_
          show Steps p.tables e below (T129.setTop (mkF m 274 #[.val (.int k), .val (.ref b1), .val (.ref r), .val (.int (1 : Int32)), .val (.int (1 : Int32))] [(.int (1 : Int32)), (.int (1 : Int32))])) tt
          refine XS.icmpNo X129.here hx rfl (hb hby at_274) rfl (teq (by decide : (1 : Int32) = (1 : Int32))).2 ?_
          exact kk
        obtain ⟨cq131, kq131, q131a, q131b, q131c⟩ := isOf hZ hh129 (Exa.keep Er K109)
        obtain ⟨_, _, ⟨T131, L131, ka131, na131⟩, -, X131, ⟨Lc131, hQ131, l131, y131, z131⟩, st131⟩ := X129.virtualBack hx (y := (⟨"com/example/hopguard/hopguard/core/Reason", "status", "()I"⟩ : MethodName)) (z := (⟨"com/example/hopguard/hopguard/core/Reason", "status", "()I"⟩ : MethodName)) hown (mvT hZ (hw _ (List.mem_of_getElem? (i := 75) rfl))) (mvT hZ (hw _ (List.mem_of_getElem? (i := 76) rfl))) (notFace_of_selects (args := #[]) (mvT hZ (hw _ (List.mem_of_getElem? (i := 78) rfl)))) (mvT hZ (hw _ (List.mem_of_getElem? (i := 78) rfl))) (mvT hZ (hw _ (List.mem_of_getElem? (i := 77) rfl))) (by decide) (backOf (W := 1) (own_rmS l Z a0 hw [] r z h109 n0 Z109 (Fld.keep Fr' K109 nin0)) hZ (hw _ (List.mem_of_getElem? (i := 79) rfl)) (hw _ (List.mem_of_getElem? (i := 3) rfl)) (by decide) (by decide)) q131a q131c (g := (mkF m 280 #[.val (.int k), .val (.ref b1), .val (.ref r), .val (.int (1 : Int32)), .val (.int (1 : Int32))] [(.ref r), (.int (1 : Int32))])) rfl (by rw [hml]; rfl) (Steps.refl _) (argsL := []) (rest := [(.int (1 : Int32))]) (lenOf own_pd___I rfl) rfl (by show 2 * 0 + _ ≤ _; exact Nat.le_of_eq rfl) (hb hby at_280) (fun _ _ => ⟨rfl, hh129, (by decide : 1 + 0 ≤ _), (by decide : 32 + 0 ≤ _)⟩)
        dsimp only [Pt.U, Pt.locs, Pt.cells, Pt.slots] at X131 l131 y131 z131 st131 hQ131
        subst l131 y131 z131
        obtain ⟨rfl, Nq131, hh131⟩ := hQ131
        obtain ⟨lc131, X131, N131⟩ := own_hide X131 (Fr.app N129 Nq131)
        have k132 : ∀ tt, Steps p.tables e below (T131.setTop (mkF m 302 #[.val (.int k), .val (.ref b1), .val (.ref r), .val (.int (1 : Int32)), .val (.int (1 : Int32))] [(.int (1 : Int32))])) tt → Steps p.tables e below (s₁.setTop (entryFrame m #[(.int k)] maxLocals)) tt := by
          intro tt kk
          refine k130 tt ?_
          show Steps p.tables e below (T129.setTop (mkF m 277 #[.val (.int k), .val (.ref b1), .val (.ref r), .val (.int (1 : Int32)), .val (.int (1 : Int32))] [])) tt
          refine XS.iload X129.here hx rfl (hb hby at_277) rfl ?_
          show Steps p.tables e below (T129.setTop (mkF m 279 #[.val (.int k), .val (.ref b1), .val (.ref r), .val (.int (1 : Int32)), .val (.int (1 : Int32))] [(.int (1 : Int32))])) tt
          refine XS.aloadN X129.here hx rfl (hb hby at_279) rfl rfl ?_
          show Steps p.tables e below (T129.setTop (mkF m 280 #[.val (.int k), .val (.ref b1), .val (.ref r), .val (.int (1 : Int32)), .val (.int (1 : Int32))] [(.ref r), (.int (1 : Int32))])) tt
          refine st131.trans ?_
          show Steps p.tables e below (T131.setTop (mkF m 283 #[.val (.int k), .val (.ref b1), .val (.ref r), .val (.int (1 : Int32)), .val (.int (1 : Int32))] [(.int z), (.int (1 : Int32))])) tt
          refine XS.sipush X131.here hx rfl (hb hby at_283) ?_
          show Steps p.tables e below (T131.setTop (mkF m 286 #[.val (.int k), .val (.ref b1), .val (.ref r), .val (.int (1 : Int32)), .val (.int (1 : Int32))] [(.int (503 : Int32)), (.int z), (.int (1 : Int32))])) tt
          refine XS.icmpNo X131.here hx rfl (hb hby at_286) rfl (teq (hz5 : z = (503 : Int32))).2 ?_
          show Steps p.tables e below (T131.setTop (mkF m 289 #[.val (.int k), .val (.ref b1), .val (.ref r), .val (.int (1 : Int32)), .val (.int (1 : Int32))] [(.int (1 : Int32))])) tt
          refine XS.iconst X131.here hx rfl (hb hby at_289) ?_
          show Steps p.tables e below (T131.setTop (mkF m 290 #[.val (.int k), .val (.ref b1), .val (.ref r), .val (.int (1 : Int32)), .val (.int (1 : Int32))] [(.int (1 : Int32)), (.int (1 : Int32))])) tt
          refine XS.goto X131.here hx rfl (pc0 := 290) (pc' := 294) rfl (hb hby at_290) (by decide) (by decide) ?_
          show Steps p.tables e below (T131.setTop (mkF m 294 #[.val (.int k), .val (.ref b1), .val (.ref r), .val (.int (1 : Int32)), .val (.int (1 : Int32))] [(.int (1 : Int32)), (.int (1 : Int32))])) tt
          refine XS.icmpNo X131.here hx rfl (hb hby at_294) rfl (teq (by decide : (1 : Int32) = (1 : Int32))).2 ?_
          show Steps p.tables e below (T131.setTop (mkF m 297 #[.val (.int k), .val (.ref b1), .val (.ref r), .val (.int (1 : Int32)), .val (.int (1 : Int32))] [])) tt
          refine XS.iconst X131.here hx rfl (hb hby at_297) ?_
          show Steps p.tables e below (T131.setTop (mkF m 298 #[.val (.int k), .val (.ref b1), .val (.ref r), .val (.int (1 : Int32)), .val (.int (1 : Int32))] [(.int (1 : Int32))])) tt
          refine XS.goto X131.here hx rfl (pc0 := 298) (pc' := 302) rfl (hb hby at_298) (by decide) (by decide) ?_
          exact kk
        obtain ⟨fs, hr, hrun, hended, hW, hsame⟩ := X131.leave (v := some (.int (1 : Int32))) (fun hq => by rw [Bd.returns] at hq; cases hq)
        refine ⟨_, _, k132 _ ?_, hrun, hended, _, _, rfl, ?_, ⟨_, rfl⟩, hW, hsame.mono (by decide) (by decide)⟩
        · show Steps p.tables e below (T131.setTop (mkF m 302 #[.val (.int k), .val (.ref b1), .val (.ref r), .val (.int (1 : Int32)), .val (.int (1 : Int32))] [(.int (1 : Int32))])) _
          exact retN X131 hx (t := .boolean) Bd.returns (by simp) (hb hby at_302) hr
        · show (fun (v : Option Value) (h : Heap) (L : List Loc) => v = some (.int (1 : Int32)) ∧ Fr n0 L) _ T131.heap _
          rw [hh131]
          dsimp only
          exact ⟨rfl, N131⟩
      · obtain ⟨T133, X133, e133, st133⟩ := getS2 X126 hx hZ hown (host := "") (Or.inl (hw _ (List.mem_of_getElem? (i := 58) rfl))) Via.refl e126 (own_sta_keep0 (HS.2.2.2.2.2.2.2.2.2.2.2.2.2.2.2.2.2.2.2.2.2.2.2.2.2.2.2.1) K109) (g := (mkF m 253 #[.val (.int k), .val (.ref b1), .val (.ref r), .unset, .unset] [(.ref r)])) rfl (hb hby at_253)
        have k134 : ∀ tt, Steps p.tables e below (T133.setTop (mkF m 256 #[.val (.int k), .val (.ref b1), .val (.ref r), .unset, .unset] [(.ref w27), (.ref r)])) tt → Steps p.tables e below (s₁.setTop (entryFrame m #[(.int k)] maxLocals)) tt := by
          intro tt kk
          refine k127 tt ?_
          show Steps p.tables e below (T126.setTop (mkF m 249 #[.val (.int k), .val (.ref b1), .val (.ref r), .unset, .unset] [(.ref w26), (.ref r)])) tt
          refine Jvm.RoadKit.acmp (g := (mkF m 249 #[.val (.int k), .val (.ref b1), .val (.ref r), .unset, .unset] [(.ref w26), (.ref r)])) X126 hx rfl rfl rfl (pc0 := 249) (pc' := 252) (same := false) rfl (hb hby at_249) rfl (decide_eq_false fun hz0 => (c249_128) (Value.ref.inj hz0)) (by decide) (by decide) ?_
          show Steps p.tables e below (T126.setTop (mkF m 252 #[.val (.int k), .val (.ref b1), .val (.ref r), .unset, .unset] [])) tt
          refine XS.aloadN X126.here hx rfl (hb hby at_252) rfl rfl ?_
          show Steps p.tables e below (T126.setTop (mkF m 253 #[.val (.int k), .val (.ref b1), .val (.ref r), .unset, .unset] [(.ref r)])) tt
          refine st133 _ ?_
          exact kk
        by_cases c256_135 : r = w27
        · have hz5 : z = (503 : Int32) := hz.mpr (Or.inr (Or.inr (Or.inr (c256_135))))
          obtain ⟨cq136, kq136, q136a, q136b, q136c⟩ := isOf hZ e133 (Exa.keep Er K109)
          obtain ⟨_, _, ⟨T136, L136, ka136, na136⟩, -, X136, ⟨Lc136, hQ136, l136, y136, z136⟩, st136⟩ := X133.virtualBack hx (y := (⟨"com/example/hopguard/hopguard/core/Reason", "failsClosed", "()Z"⟩ : MethodName)) (z := (⟨"com/example/hopguard/hopguard/core/Reason", "failsClosed", "()Z"⟩ : MethodName)) hown (mvT hZ (hw _ (List.mem_of_getElem? (i := 68) rfl))) (mvT hZ (hw _ (List.mem_of_getElem? (i := 69) rfl))) (notFace_of_selects (args := #[]) (mvT hZ (hw _ (List.mem_of_getElem? (i := 71) rfl)))) (mvT hZ (hw _ (List.mem_of_getElem? (i := 71) rfl))) (mvT hZ (hw _ (List.mem_of_getElem? (i := 70) rfl))) (by decide) (backOf (W := 0) (own_rmF l Z a0 hw [] r z h109 n0 Z109 (Fld.keep Fr' K109 nin0)) hZ (hw _ (List.mem_of_getElem? (i := 72) rfl)) (hw _ (List.mem_of_getElem? (i := 3) rfl)) (by decide) (by decide)) q136a q136c (g := (mkF m 266 #[.val (.int k), .val (.ref b1), .val (.ref r), .val (.int (1 : Int32)), .unset] [(.ref r)])) rfl (by rw [hml]; rfl) (Steps.refl _) (argsL := []) (rest := []) (lenOf own_pd___Z rfl) rfl (by show 2 * 0 + _ ≤ _; exact Nat.le_of_eq rfl) (hb hby at_266) (fun _ _ => ⟨rfl, e133, (by decide : 1 + 0 ≤ _), (by decide : 32 + 0 ≤ _)⟩)
          dsimp only [Pt.U, Pt.locs, Pt.cells, Pt.slots] at X136 l136 y136 z136 st136 hQ136
          subst l136 y136 z136
          obtain ⟨hv136, Nq136, hh136⟩ := hQ136
          obtain ⟨lc136, X136, N136⟩ := own_hide X136 (Fr.app N109 Nq136)
          rw [show own_fc z = (1 : Int32) from if_pos hz5] at hv136
          subst hv136
          have k137 : ∀ tt, Steps p.tables e below (T136.setTop (mkF m 277 #[.val (.int k), .val (.ref b1), .val (.ref r), .val (.int (1 : Int32)), .val (.int (1 : Int32))] [])) tt → Steps p.tables e below (s₁.setTop (entryFrame m #[(.int k)] maxLocals)) tt := by
            intro tt kk
            refine k134 tt ?_
            show Steps p.tables e below (T133.setTop (mkF m 256 #[.val (.int k), .val (.ref b1), .val (.ref r), .unset, .unset] [(.ref w27), (.ref r)])) tt
            refine Jvm.RoadKit.acmp (g := (mkF m 256 #[.val (.int k), .val (.ref b1), .val (.ref r), .unset, .unset] [(.ref w27), (.ref r)])) X133 hx rfl rfl rfl (pc0 := 256) (pc' := 259) (same := true) rfl (hb hby at_256) rfl (decide_eq_true (congrArg Value.ref (c256_135))) (by decide) (by decide) ?_
            show Steps p.tables e below (T133.setTop (mkF m 259 #[.val (.int k), .val (.ref b1), .val (.ref r), .unset, .unset] [])) tt
            refine XS.iconst X133.here hx rfl (hb hby at_259) ?_
            show Steps p.tables e below (T133.setTop (mkF m 260 #[.val (.int k), .val (.ref b1), .val (.ref r), .unset, .unset] [(.int (1 : Int32))])) tt
            refine XS.goto X133.here hx rfl (pc0 := 260) (pc' := 264) rfl (hb hby at_260) (by decide) (by decide) ?_
            show Steps p.tables e below (T133.setTop (mkF m 264 #[.val (.int k), .val (.ref b1), .val (.ref r), .unset, .unset] [(.int (1 : Int32))])) tt
            refine XS.istoreN X133.here hx rfl (hb hby at_264) rfl (l' := #[.val (.int k), .val (.ref b1), .val (.ref r), .val (.int (1 : Int32)), .unset]) rfl ?_
            show Steps p.tables e below (T133.setTop (mkF m 265 #[.val (.int k), .val (.ref b1), .val (.ref r), .val (.int (1 : Int32)), .unset] [])) tt
            refine XS.aloadN X133.here hx rfl (hb hby at_265) rfl rfl ?_
            show Steps p.tables e below (T133.setTop (mkF m 266 #[.val (.int k), .val (.ref b1), .val (.ref r), .val (.int (1 : Int32)), .unset] [(.ref r)])) tt
            refine st136.trans ?_
            show Steps p.tables e below (T136.setTop (mkF m 269 #[.val (.int k), .val (.ref b1), .val (.ref r), .val (.int (1 : Int32)), .unset] [(.int (1 : Int32))])) tt
            refine XS.istore X136.here hx rfl (hb hby at_269) rfl (l' := #[.val (.int k), .val (.ref b1), .val (.ref r), .val (.int (1 : Int32)), .val (.int (1 : Int32))]) rfl ?_
            show Steps p.tables e below (T136.setTop (mkF m 271 #[.val (.int k), .val (.ref b1), .val (.ref r), .val (.int (1 : Int32)), .val (.int (1 : Int32))] [])) tt
            refine XS.iload X136.here hx rfl (hb hby at_271) rfl ?_
            show Steps p.tables e below (T136.setTop (mkF m 273 #[.val (.int k), .val (.ref b1), .val (.ref r), .val (.int (1 : Int32)), .val (.int (1 : Int32))] [(.int (1 : Int32))])) tt
            refine XS.iloadN X136.here hx rfl (hb hby at_273) rfl ?_
            show Steps p.tables e below (T136.setTop (mkF m 274 #[.val (.int k), .val (.ref b1), .val (.ref r), .val (.int (1 : Int32)), .val (.int (1 : Int32))] [(.int (1 : Int32)), (.int (1 : Int32))])) tt
            refine XS.icmpNo X136.here hx rfl (hb hby at_274) rfl (teq (by decide : (1 : Int32) = (1 : Int32))).2 ?_
            exact kk
          obtain ⟨cq138, kq138, q138a, q138b, q138c⟩ := isOf hZ hh136 (Exa.keep Er K109)
          obtain ⟨_, _, ⟨T138, L138, ka138, na138⟩, -, X138, ⟨Lc138, hQ138, l138, y138, z138⟩, st138⟩ := X136.virtualBack hx (y := (⟨"com/example/hopguard/hopguard/core/Reason", "status", "()I"⟩ : MethodName)) (z := (⟨"com/example/hopguard/hopguard/core/Reason", "status", "()I"⟩ : MethodName)) hown (mvT hZ (hw _ (List.mem_of_getElem? (i := 75) rfl))) (mvT hZ (hw _ (List.mem_of_getElem? (i := 76) rfl))) (notFace_of_selects (args := #[]) (mvT hZ (hw _ (List.mem_of_getElem? (i := 78) rfl)))) (mvT hZ (hw _ (List.mem_of_getElem? (i := 78) rfl))) (mvT hZ (hw _ (List.mem_of_getElem? (i := 77) rfl))) (by decide) (backOf (W := 1) (own_rmS l Z a0 hw [] r z h109 n0 Z109 (Fld.keep Fr' K109 nin0)) hZ (hw _ (List.mem_of_getElem? (i := 79) rfl)) (hw _ (List.mem_of_getElem? (i := 3) rfl)) (by decide) (by decide)) q138a q138c (g := (mkF m 280 #[.val (.int k), .val (.ref b1), .val (.ref r), .val (.int (1 : Int32)), .val (.int (1 : Int32))] [(.ref r), (.int (1 : Int32))])) rfl (by rw [hml]; rfl) (Steps.refl _) (argsL := []) (rest := [(.int (1 : Int32))]) (lenOf own_pd___I rfl) rfl (by show 2 * 0 + _ ≤ _; exact Nat.le_of_eq rfl) (hb hby at_280) (fun _ _ => ⟨rfl, hh136, (by decide : 1 + 0 ≤ _), (by decide : 32 + 0 ≤ _)⟩)
          dsimp only [Pt.U, Pt.locs, Pt.cells, Pt.slots] at X138 l138 y138 z138 st138 hQ138
          subst l138 y138 z138
          obtain ⟨rfl, Nq138, hh138⟩ := hQ138
          obtain ⟨lc138, X138, N138⟩ := own_hide X138 (Fr.app N136 Nq138)
          have k139 : ∀ tt, Steps p.tables e below (T138.setTop (mkF m 302 #[.val (.int k), .val (.ref b1), .val (.ref r), .val (.int (1 : Int32)), .val (.int (1 : Int32))] [(.int (1 : Int32))])) tt → Steps p.tables e below (s₁.setTop (entryFrame m #[(.int k)] maxLocals)) tt := by
            intro tt kk
            refine k137 tt ?_
            show Steps p.tables e below (T136.setTop (mkF m 277 #[.val (.int k), .val (.ref b1), .val (.ref r), .val (.int (1 : Int32)), .val (.int (1 : Int32))] [])) tt
            refine XS.iload X136.here hx rfl (hb hby at_277) rfl ?_
            show Steps p.tables e below (T136.setTop (mkF m 279 #[.val (.int k), .val (.ref b1), .val (.ref r), .val (.int (1 : Int32)), .val (.int (1 : Int32))] [(.int (1 : Int32))])) tt
            refine XS.aloadN X136.here hx rfl (hb hby at_279) rfl rfl ?_
            show Steps p.tables e below (T136.setTop (mkF m 280 #[.val (.int k), .val (.ref b1), .val (.ref r), .val (.int (1 : Int32)), .val (.int (1 : Int32))] [(.ref r), (.int (1 : Int32))])) tt
            refine st138.trans ?_
            show Steps p.tables e below (T138.setTop (mkF m 283 #[.val (.int k), .val (.ref b1), .val (.ref r), .val (.int (1 : Int32)), .val (.int (1 : Int32))] [(.int z), (.int (1 : Int32))])) tt
            refine XS.sipush X138.here hx rfl (hb hby at_283) ?_
            show Steps p.tables e below (T138.setTop (mkF m 286 #[.val (.int k), .val (.ref b1), .val (.ref r), .val (.int (1 : Int32)), .val (.int (1 : Int32))] [(.int (503 : Int32)), (.int z), (.int (1 : Int32))])) tt
            refine XS.icmpNo X138.here hx rfl (hb hby at_286) rfl (teq (hz5 : z = (503 : Int32))).2 ?_
            show Steps p.tables e below (T138.setTop (mkF m 289 #[.val (.int k), .val (.ref b1), .val (.ref r), .val (.int (1 : Int32)), .val (.int (1 : Int32))] [(.int (1 : Int32))])) tt
            refine XS.iconst X138.here hx rfl (hb hby at_289) ?_
            show Steps p.tables e below (T138.setTop (mkF m 290 #[.val (.int k), .val (.ref b1), .val (.ref r), .val (.int (1 : Int32)), .val (.int (1 : Int32))] [(.int (1 : Int32)), (.int (1 : Int32))])) tt
            refine XS.goto X138.here hx rfl (pc0 := 290) (pc' := 294) rfl (hb hby at_290) (by decide) (by decide) ?_
            show Steps p.tables e below (T138.setTop (mkF m 294 #[.val (.int k), .val (.ref b1), .val (.ref r), .val (.int (1 : Int32)), .val (.int (1 : Int32))] [(.int (1 : Int32)), (.int (1 : Int32))])) tt
            refine XS.icmpNo X138.here hx rfl (hb hby at_294) rfl (teq (by decide : (1 : Int32) = (1 : Int32))).2 ?_
            show Steps p.tables e below (T138.setTop (mkF m 297 #[.val (.int k), .val (.ref b1), .val (.ref r), .val (.int (1 : Int32)), .val (.int (1 : Int32))] [])) tt
            refine XS.iconst X138.here hx rfl (hb hby at_297) ?_
            show Steps p.tables e below (T138.setTop (mkF m 298 #[.val (.int k), .val (.ref b1), .val (.ref r), .val (.int (1 : Int32)), .val (.int (1 : Int32))] [(.int (1 : Int32))])) tt
            refine XS.goto X138.here hx rfl (pc0 := 298) (pc' := 302) rfl (hb hby at_298) (by decide) (by decide) ?_
            exact kk
          obtain ⟨fs, hr, hrun, hended, hW, hsame⟩ := X138.leave (v := some (.int (1 : Int32))) (fun hq => by rw [Bd.returns] at hq; cases hq)
          refine ⟨_, _, k139 _ ?_, hrun, hended, _, _, rfl, ?_, ⟨_, rfl⟩, hW, hsame.mono (by decide) (by decide)⟩
          · show Steps p.tables e below (T138.setTop (mkF m 302 #[.val (.int k), .val (.ref b1), .val (.ref r), .val (.int (1 : Int32)), .val (.int (1 : Int32))] [(.int (1 : Int32))])) _
            exact retN X138 hx (t := .boolean) Bd.returns (by simp) (hb hby at_302) hr
          · show (fun (v : Option Value) (h : Heap) (L : List Loc) => v = some (.int (1 : Int32)) ∧ Fr n0 L) _ T138.heap _
            rw [hh138]
            dsimp only
            exact ⟨rfl, N138⟩
        · have hz5 : ¬ z = (503 : Int32) := fun q => (hz.mp q).elim c235_114 fun q => q.elim c242_121 fun q => q.elim c249_128 c256_135
          obtain ⟨cq140, kq140, q140a, q140b, q140c⟩ := isOf hZ e133 (Exa.keep Er K109)
          obtain ⟨_, _, ⟨T140, L140, ka140, na140⟩, -, X140, ⟨Lc140, hQ140, l140, y140, z140⟩, st140⟩ := X133.virtualBack hx (y := (⟨"com/example/hopguard/hopguard/core/Reason", "failsClosed", "()Z"⟩ : MethodName)) (z := (⟨"com/example/hopguard/hopguard/core/Reason", "failsClosed", "()Z"⟩ : MethodName)) hown (mvT hZ (hw _ (List.mem_of_getElem? (i := 68) rfl))) (mvT hZ (hw _ (List.mem_of_getElem? (i := 69) rfl))) (notFace_of_selects (args := #[]) (mvT hZ (hw _ (List.mem_of_getElem? (i := 71) rfl)))) (mvT hZ (hw _ (List.mem_of_getElem? (i := 71) rfl))) (mvT hZ (hw _ (List.mem_of_getElem? (i := 70) rfl))) (by decide) (backOf (W := 0) (own_rmF l Z a0 hw [] r z h109 n0 Z109 (Fld.keep Fr' K109 nin0)) hZ (hw _ (List.mem_of_getElem? (i := 72) rfl)) (hw _ (List.mem_of_getElem? (i := 3) rfl)) (by decide) (by decide)) q140a q140c (g := (mkF m 266 #[.val (.int k), .val (.ref b1), .val (.ref r), .val (.int (0 : Int32)), .unset] [(.ref r)])) rfl (by rw [hml]; rfl) (Steps.refl _) (argsL := []) (rest := []) (lenOf own_pd___Z rfl) rfl (by show 2 * 0 + _ ≤ _; exact Nat.le_of_eq rfl) (hb hby at_266) (fun _ _ => ⟨rfl, e133, (by decide : 1 + 0 ≤ _), (by decide : 32 + 0 ≤ _)⟩)
          dsimp only [Pt.U, Pt.locs, Pt.cells, Pt.slots] at X140 l140 y140 z140 st140 hQ140
          subst l140 y140 z140
          obtain ⟨hv140, Nq140, hh140⟩ := hQ140
          obtain ⟨lc140, X140, N140⟩ := own_hide X140 (Fr.app N109 Nq140)
          rw [show own_fc z = (0 : Int32) from if_neg hz5] at hv140
          subst hv140
          have k141 : ∀ tt, Steps p.tables e below (T140.setTop (mkF m 279 #[.val (.int k), .val (.ref b1), .val (.ref r), .val (.int (0 : Int32)), .val (.int (0 : Int32))] [(.int (0 : Int32))])) tt → Steps p.tables e below (s₁.setTop (entryFrame m #[(.int k)] maxLocals)) tt := by
            intro tt kk
            refine k134 tt ?_
            show Steps p.tables e below (T133.setTop (mkF m 256 #[.val (.int k), .val (.ref b1), .val (.ref r), .unset, .unset] [(.ref w27), (.ref r)])) tt
            refine Jvm.RoadKit.acmp (g := (mkF m 256 #[.val (.int k), .val (.ref b1), .val (.ref r), .unset, .unset] [(.ref w27), (.ref r)])) X133 hx rfl rfl rfl (pc0 := 256) (pc' := 263) (same := false) rfl (hb hby at_256) rfl (decide_eq_false fun hz0 => (c256_135) (Value.ref.inj hz0)) (by decide) (by decide) ?_
            show Steps p.tables e below (T133.setTop (mkF m 263 #[.val (.int k), .val (.ref b1), .val (.ref r), .unset, .unset] [])) tt
            refine XS.iconst X133.here hx rfl (hb hby at_263) ?_
            show Steps p.tables e below (T133.setTop (mkF m 264 #[.val (.int k), .val (.ref b1), .val (.ref r), .unset, .unset] [(.int (0 : Int32))])) tt
            refine XS.istoreN X133.here hx rfl (hb hby at_264) rfl (l' := #[.val (.int k), .val (.ref b1), .val (.ref r), .val (.int (0 : Int32)), .unset]) rfl ?_
            show Steps p.tables e below (T133.setTop (mkF m 265 #[.val (.int k), .val (.ref b1), .val (.ref r), .val (.int (0 : Int32)), .unset] [])) tt
            refine XS.aloadN X133.here hx rfl (hb hby at_265) rfl rfl ?_
            show Steps p.tables e below (T133.setTop (mkF m 266 #[.val (.int k), .val (.ref b1), .val (.ref r), .val (.int (0 : Int32)), .unset] [(.ref r)])) tt
            refine st140.trans ?_
            show Steps p.tables e below (T140.setTop (mkF m 269 #[.val (.int k), .val (.ref b1), .val (.ref r), .val (.int (0 : Int32)), .unset] [(.int (0 : Int32))])) tt
            refine XS.istore X140.here hx rfl (hb hby at_269) rfl (l' := #[.val (.int k), .val (.ref b1), .val (.ref r), .val (.int (0 : Int32)), .val (.int (0 : Int32))]) rfl ?_
            show Steps p.tables e below (T140.setTop (mkF m 271 #[.val (.int k), .val (.ref b1), .val (.ref r), .val (.int (0 : Int32)), .val (.int (0 : Int32))] [])) tt
            refine XS.iload X140.here hx rfl (hb hby at_271) rfl ?_
            show Steps p.tables e below (T140.setTop (mkF m 273 #[.val (.int k), .val (.ref b1), .val (.ref r), .val (.int (0 : Int32)), .val (.int (0 : Int32))] [(.int (0 : Int32))])) tt
            refine XS.iloadN X140.here hx rfl (hb hby at_273) rfl ?_
            show Steps p.tables e below (T140.setTop (mkF m 274 #[.val (.int k), .val (.ref b1), .val (.ref r), .val (.int (0 : Int32)), .val (.int (0 : Int32))] [(.int (0 : Int32)), (.int (0 : Int32))])) tt
            refine XS.icmpNo X140.here hx rfl (hb hby at_274) rfl (teq (by decide : (0 : Int32) = (0 : Int32))).2 ?_
            show Steps p.tables e below (T140.setTop (mkF m 277 #[.val (.int k), .val (.ref b1), .val (.ref r), .val (.int (0 : Int32)), .val (.int (0 : Int32))] [])) tt
            refine XS.iload X140.here hx rfl (hb hby at_277) rfl ?_
            exact kk
          obtain ⟨cq142, kq142, q142a, q142b, q142c⟩ := isOf hZ hh140 (Exa.keep Er K109)
          obtain ⟨_, _, ⟨T142, L142, ka142, na142⟩, -, X142, ⟨Lc142, hQ142, l142, y142, z142⟩, st142⟩ := X140.virtualBack hx (y := (⟨"com/example/hopguard/hopguard/core/Reason", "status", "()I"⟩ : MethodName)) (z := (⟨"com/example/hopguard/hopguard/core/Reason", "status", "()I"⟩ : MethodName)) hown (mvT hZ (hw _ (List.mem_of_getElem? (i := 75) rfl))) (mvT hZ (hw _ (List.mem_of_getElem? (i := 76) rfl))) (notFace_of_selects (args := #[]) (mvT hZ (hw _ (List.mem_of_getElem? (i := 78) rfl)))) (mvT hZ (hw _ (List.mem_of_getElem? (i := 78) rfl))) (mvT hZ (hw _ (List.mem_of_getElem? (i := 77) rfl))) (by decide) (backOf (W := 1) (own_rmS l Z a0 hw [] r z h109 n0 Z109 (Fld.keep Fr' K109 nin0)) hZ (hw _ (List.mem_of_getElem? (i := 79) rfl)) (hw _ (List.mem_of_getElem? (i := 3) rfl)) (by decide) (by decide)) q142a q142c (g := (mkF m 280 #[.val (.int k), .val (.ref b1), .val (.ref r), .val (.int (0 : Int32)), .val (.int (0 : Int32))] [(.ref r), (.int (0 : Int32))])) rfl (by rw [hml]; rfl) (Steps.refl _) (argsL := []) (rest := [(.int (0 : Int32))]) (lenOf own_pd___I rfl) rfl (by show 2 * 0 + _ ≤ _; exact Nat.le_of_eq rfl) (hb hby at_280) (fun _ _ => ⟨rfl, hh140, (by decide : 1 + 0 ≤ _), (by decide : 32 + 0 ≤ _)⟩)
          dsimp only [Pt.U, Pt.locs, Pt.cells, Pt.slots] at X142 l142 y142 z142 st142 hQ142
          subst l142 y142 z142
          obtain ⟨rfl, Nq142, hh142⟩ := hQ142
          obtain ⟨lc142, X142, N142⟩ := own_hide X142 (Fr.app N140 Nq142)
          have k143 : ∀ tt, Steps p.tables e below (T142.setTop (mkF m 302 #[.val (.int k), .val (.ref b1), .val (.ref r), .val (.int (0 : Int32)), .val (.int (0 : Int32))] [(.int (1 : Int32))])) tt → Steps p.tables e below (s₁.setTop (entryFrame m #[(.int k)] maxLocals)) tt := by
            intro tt kk
            refine k141 tt ?_
            show Steps p.tables e below (T140.setTop (mkF m 279 #[.val (.int k), .val (.ref b1), .val (.ref r), .val (.int (0 : Int32)), .val (.int (0 : Int32))] [(.int (0 : Int32))])) tt
            refine XS.aloadN X140.here hx rfl (hb hby at_279) rfl rfl ?_
            show Steps p.tables e below (T140.setTop (mkF m 280 #[.val (.int k), .val (.ref b1), .val (.ref r), .val (.int (0 : Int32)), .val (.int (0 : Int32))] [(.ref r), (.int (0 : Int32))])) tt
            refine st142.trans ?_
            show Steps p.tables e below (T142.setTop (mkF m 283 #[.val (.int k), .val (.ref b1), .val (.ref r), .val (.int (0 : Int32)), .val (.int (0 : Int32))] [(.int z), (.int (0 : Int32))])) tt
            refine XS.sipush X142.here hx rfl (hb hby at_283) ?_
            show Steps p.tables e below (T142.setTop (mkF m 286 #[.val (.int k), .val (.ref b1), .val (.ref r), .val (.int (0 : Int32)), .val (.int (0 : Int32))] [(.int (503 : Int32)), (.int z), (.int (0 : Int32))])) tt
            refine XS.icmpYes X142.here hx rfl (pc0 := 286) (pc' := 293) rfl (hb hby at_286) rfl (feq (hz5 : ¬ (z = (503 : Int32)))).2 (by decide) (by decide) ?_
            show Steps p.tables e below (T142.setTop (mkF m 293 #[.val (.int k), .val (.ref b1), .val (.ref r), .val (.int (0 : Int32)), .val (.int (0 : Int32))] [(.int (0 : Int32))])) tt
            refine XS.iconst X142.here hx rfl (hb hby at_293) ?_
            show Steps p.tables e below (T142.setTop (mkF m 294 #[.val (.int k), .val (.ref b1), .val (.ref r), .val (.int (0 : Int32)), .val (.int (0 : Int32))] [(.int (0 : Int32)), (.int (0 : Int32))])) tt
            refine XS.icmpNo X142.here hx rfl (hb hby at_294) rfl (teq (by decide : (0 : Int32) = (0 : Int32))).2 ?_
            show Steps p.tables e below (T142.setTop (mkF m 297 #[.val (.int k), .val (.ref b1), .val (.ref r), .val (.int (0 : Int32)), .val (.int (0 : Int32))] [])) tt
            refine XS.iconst X142.here hx rfl (hb hby at_297) ?_
            show Steps p.tables e below (T142.setTop (mkF m 298 #[.val (.int k), .val (.ref b1), .val (.ref r), .val (.int (0 : Int32)), .val (.int (0 : Int32))] [(.int (1 : Int32))])) tt
            refine XS.goto X142.here hx rfl (pc0 := 298) (pc' := 302) rfl (hb hby at_298) (by decide) (by decide) ?_
            exact kk
          obtain ⟨fs, hr, hrun, hended, hW, hsame⟩ := X142.leave (v := some (.int (1 : Int32))) (fun hq => by rw [Bd.returns] at hq; cases hq)
          refine ⟨_, _, k143 _ ?_, hrun, hended, _, _, rfl, ?_, ⟨_, rfl⟩, hW, hsame.mono (by decide) (by decide)⟩
          · show Steps p.tables e below (T142.setTop (mkF m 302 #[.val (.int k), .val (.ref b1), .val (.ref r), .val (.int (0 : Int32)), .val (.int (0 : Int32))] [(.int (1 : Int32))])) _
            exact retN X142 hx (t := .boolean) Bd.returns (by simp) (hb hby at_302) hr
          · show (fun (v : Option Value) (h : Heap) (L : List Loc) => v = some (.int (1 : Int32)) ∧ Fr n0 L) _ T142.heap _
            rw [hh142]
            dsimp only
            exact ⟨rfl, N142⟩
set_option maxRecDepth 65536 in
set_option maxHeartbeats 40000000 in
theorem comes_1 {Post : Tables → Env → Array Value → State → Outcome → State → Prop} (hpost : ∀ tb e args s v u, (limb_1_1.after args s (.returned v) u = true ∧ limb_1_2.after args s (.returned v) u = true ∧ True) → FrameEnd s (.returned v) u (Jvm.fieldLocs frame_1_writes args s ++ Jvm.arrayLocs frame_1_arrays args s ++ Jvm.staticLocs frame_1_statics s) 16 128 → Post tb e args s (.returned v) u) :
    ArmFor flags0 classFile x code maxLocals ret World_1 tables_1 room_1 Calls_1 rest_1 Pre_1 Post := by
  intro l hfl _ _ p e ha hc hk s m args below hf hA hF happ hP
  obtain ⟨hcalls, hrest, hpre⟩ := hP
  obtain ⟨-, -, -, hnamed, -, -, -, hat⟩ := (Spec.applies_iff hf).mp happ
  obtain ⟨hg, hn⟩ := and_e (Cond.before_iff.mp (show (Jvm.Cond.and given_1 narrow_1).before args s = true from hpre))
  obtain ⟨g1, g2⟩ := and_e hg
  obtain ⟨v0, rfl⟩ : ∃ v0 : Value, args = #[v0] := by
    have hs : args.size = 1 := by simpa [Cond.value, given_1] using g1
    obtain ⟨L⟩ := args
    match L, hs with
    | [v0], _ => exact ⟨v0, rfl⟩
  have hw := fun d (hd : d ∈ tables_1) => atoms_spec (ws := Jvm.Cond.code x code maxLocals ret :: tables_1) hat d (List.mem_cons_of_mem _ hd)
  have hfit : Fit s := fun {y c} hc i hi => by
    obtain ⟨ha, rfl⟩ := Array.getElem?_eq_some_iff.mp hc
    have q := List.all_eq_true.mp ((Array.all_eq_true_iff_forall_mem.mp hF) _ (Array.getElem_mem ha)) i (List.mem_range.mpr hi)
    simpa [Array.getElem?_eq_getElem hi] using q
  obtain ⟨i0, ei0⟩ := is_v g2
  obtain rfl : v0 = (.int i0) := Option.some.inj ei0
  obtain ⟨g3, g4⟩ := and_e hn
  obtain ⟨w_ALLOWED, ev_w_ALLOWED⟩ := exa_v g3
  have E_w_ALLOWED := Exa.start ev_w_ALLOWED g3
  obtain ⟨g5, g6⟩ := and_e g4
  obtain ⟨w_UNKNOWN_PURPOSE, ev_w_UNKNOWN_PURPOSE⟩ := exa_v g5
  have E_w_UNKNOWN_PURPOSE := Exa.start ev_w_UNKNOWN_PURPOSE g5
  obtain ⟨g7, g8⟩ := and_e g6
  obtain ⟨w_UNKNOWN_ACTION, ev_w_UNKNOWN_ACTION⟩ := exa_v g7
  have E_w_UNKNOWN_ACTION := Exa.start ev_w_UNKNOWN_ACTION g7
  obtain ⟨g9, g10⟩ := and_e g8
  obtain ⟨w_HOP_NOT_ALLOWED, ev_w_HOP_NOT_ALLOWED⟩ := exa_v g9
  have E_w_HOP_NOT_ALLOWED := Exa.start ev_w_HOP_NOT_ALLOWED g9
  obtain ⟨g11, g12⟩ := and_e g10
  obtain ⟨w_SUBJECT_NOT_ALLOWED, ev_w_SUBJECT_NOT_ALLOWED⟩ := exa_v g11
  have E_w_SUBJECT_NOT_ALLOWED := Exa.start ev_w_SUBJECT_NOT_ALLOWED g11
  obtain ⟨g13, g14⟩ := and_e g12
  obtain ⟨w_TOKEN_MISSING, ev_w_TOKEN_MISSING⟩ := exa_v g13
  have E_w_TOKEN_MISSING := Exa.start ev_w_TOKEN_MISSING g13
  obtain ⟨g15, g16⟩ := and_e g14
  obtain ⟨w_TOKEN_MALFORMED, ev_w_TOKEN_MALFORMED⟩ := exa_v g15
  have E_w_TOKEN_MALFORMED := Exa.start ev_w_TOKEN_MALFORMED g15
  obtain ⟨g17, g18⟩ := and_e g16
  obtain ⟨w_TOKEN_TYPE, ev_w_TOKEN_TYPE⟩ := exa_v g17
  have E_w_TOKEN_TYPE := Exa.start ev_w_TOKEN_TYPE g17
  obtain ⟨g19, g20⟩ := and_e g18
  obtain ⟨w_TOKEN_ALGORITHM, ev_w_TOKEN_ALGORITHM⟩ := exa_v g19
  have E_w_TOKEN_ALGORITHM := Exa.start ev_w_TOKEN_ALGORITHM g19
  obtain ⟨g21, g22⟩ := and_e g20
  obtain ⟨w_TOKEN_KEY_UNKNOWN, ev_w_TOKEN_KEY_UNKNOWN⟩ := exa_v g21
  have E_w_TOKEN_KEY_UNKNOWN := Exa.start ev_w_TOKEN_KEY_UNKNOWN g21
  obtain ⟨g23, g24⟩ := and_e g22
  obtain ⟨w_TOKEN_SIGNATURE, ev_w_TOKEN_SIGNATURE⟩ := exa_v g23
  have E_w_TOKEN_SIGNATURE := Exa.start ev_w_TOKEN_SIGNATURE g23
  obtain ⟨g25, g26⟩ := and_e g24
  obtain ⟨w_TOKEN_ISSUER, ev_w_TOKEN_ISSUER⟩ := exa_v g25
  have E_w_TOKEN_ISSUER := Exa.start ev_w_TOKEN_ISSUER g25
  obtain ⟨g27, g28⟩ := and_e g26
  obtain ⟨w_TOKEN_AUDIENCE, ev_w_TOKEN_AUDIENCE⟩ := exa_v g27
  have E_w_TOKEN_AUDIENCE := Exa.start ev_w_TOKEN_AUDIENCE g27
  obtain ⟨g29, g30⟩ := and_e g28
  obtain ⟨w_TOKEN_EXPIRED, ev_w_TOKEN_EXPIRED⟩ := exa_v g29
  have E_w_TOKEN_EXPIRED := Exa.start ev_w_TOKEN_EXPIRED g29
  obtain ⟨g31, g32⟩ := and_e g30
  obtain ⟨w_TOKEN_NOT_YET_VALID, ev_w_TOKEN_NOT_YET_VALID⟩ := exa_v g31
  have E_w_TOKEN_NOT_YET_VALID := Exa.start ev_w_TOKEN_NOT_YET_VALID g31
  obtain ⟨g33, g34⟩ := and_e g32
  obtain ⟨w_TOKEN_CLAIM_MISSING, ev_w_TOKEN_CLAIM_MISSING⟩ := exa_v g33
  have E_w_TOKEN_CLAIM_MISSING := Exa.start ev_w_TOKEN_CLAIM_MISSING g33
  obtain ⟨g35, g36⟩ := and_e g34
  obtain ⟨w_KEYSET_UNAVAILABLE, ev_w_KEYSET_UNAVAILABLE⟩ := exa_v g35
  have E_w_KEYSET_UNAVAILABLE := Exa.start ev_w_KEYSET_UNAVAILABLE g35
  obtain ⟨g37, g38⟩ := and_e g36
  obtain ⟨w_ACTOR_MISSING, ev_w_ACTOR_MISSING⟩ := exa_v g37
  have E_w_ACTOR_MISSING := Exa.start ev_w_ACTOR_MISSING g37
  obtain ⟨g39, g40⟩ := and_e g38
  obtain ⟨w_SCOPE_MISSING, ev_w_SCOPE_MISSING⟩ := exa_v g39
  have E_w_SCOPE_MISSING := Exa.start ev_w_SCOPE_MISSING g39
  obtain ⟨g41, g42⟩ := and_e g40
  obtain ⟨w_NOT_FOUND, ev_w_NOT_FOUND⟩ := exa_v g41
  have E_w_NOT_FOUND := Exa.start ev_w_NOT_FOUND g41
  obtain ⟨g43, g44⟩ := and_e g42
  obtain ⟨w_PARENT_MISMATCH, ev_w_PARENT_MISMATCH⟩ := exa_v g43
  have E_w_PARENT_MISMATCH := Exa.start ev_w_PARENT_MISMATCH g43
  obtain ⟨g45, g46⟩ := and_e g44
  obtain ⟨w_TENANT_MISSING, ev_w_TENANT_MISSING⟩ := exa_v g45
  have E_w_TENANT_MISSING := Exa.start ev_w_TENANT_MISSING g45
  obtain ⟨g47, g48⟩ := and_e g46
  obtain ⟨w_TENANT_MISMATCH, ev_w_TENANT_MISMATCH⟩ := exa_v g47
  have E_w_TENANT_MISMATCH := Exa.start ev_w_TENANT_MISMATCH g47
  obtain ⟨g49, g50⟩ := and_e g48
  obtain ⟨w_OBJECT_NOT_VISIBLE, ev_w_OBJECT_NOT_VISIBLE⟩ := exa_v g49
  have E_w_OBJECT_NOT_VISIBLE := Exa.start ev_w_OBJECT_NOT_VISIBLE g49
  obtain ⟨g51, g52⟩ := and_e g50
  obtain ⟨w_ROUTE_UNKNOWN, ev_w_ROUTE_UNKNOWN⟩ := exa_v g51
  have E_w_ROUTE_UNKNOWN := Exa.start ev_w_ROUTE_UNKNOWN g51
  obtain ⟨g53, g54⟩ := and_e g52
  obtain ⟨w_DECISION_POINT_UNAVAILABLE, ev_w_DECISION_POINT_UNAVAILABLE⟩ := exa_v g53
  have E_w_DECISION_POINT_UNAVAILABLE := Exa.start ev_w_DECISION_POINT_UNAVAILABLE g53
  obtain ⟨g55, g56⟩ := and_e g54
  obtain ⟨w_DECISION_POINT_INVALID, ev_w_DECISION_POINT_INVALID⟩ := exa_v g55
  have E_w_DECISION_POINT_INVALID := Exa.start ev_w_DECISION_POINT_INVALID g55
  obtain ⟨g57, g58⟩ := and_e g56
  obtain ⟨w_OWNER_CHECK_FAILED, ev_w_OWNER_CHECK_FAILED⟩ := exa_v g57
  have E_w_OWNER_CHECK_FAILED := Exa.start ev_w_OWNER_CHECK_FAILED g57
  obtain ⟨g59, g60⟩ := and_e g58
  obtain ⟨w_GRANT_TYPE_UNSUPPORTED, ev_w_GRANT_TYPE_UNSUPPORTED⟩ := exa_v g59
  have E_w_GRANT_TYPE_UNSUPPORTED := Exa.start ev_w_GRANT_TYPE_UNSUPPORTED g59
  obtain ⟨g61, g62⟩ := and_e g60
  obtain ⟨w_EXCHANGE_REQUEST_INVALID, ev_w_EXCHANGE_REQUEST_INVALID⟩ := exa_v g61
  have E_w_EXCHANGE_REQUEST_INVALID := Exa.start ev_w_EXCHANGE_REQUEST_INVALID g61
  obtain ⟨g63, g64⟩ := and_e g62
  obtain ⟨w_ACTOR_TOKEN_NOT_OWN, ev_w_ACTOR_TOKEN_NOT_OWN⟩ := exa_v g63
  have E_w_ACTOR_TOKEN_NOT_OWN := Exa.start ev_w_ACTOR_TOKEN_NOT_OWN g63
  obtain ⟨g65, g66⟩ := and_e g64
  obtain ⟨w_PURPOSE_MISMATCH, ev_w_PURPOSE_MISMATCH⟩ := exa_v g65
  have E_w_PURPOSE_MISMATCH := Exa.start ev_w_PURPOSE_MISMATCH g65
  obtain ⟨g67, g68⟩ := and_e g66
  obtain ⟨g69, g70⟩ := and_e g68
  obtain ⟨g71, g72⟩ := and_e g70
  obtain ⟨g73, g74⟩ := and_e g72
  obtain ⟨g75, g76⟩ := and_e g74
  obtain ⟨g77, g78⟩ := and_e g76
  obtain ⟨g79, g80⟩ := and_e g78
  obtain ⟨g81, g82⟩ := and_e g80
  obtain ⟨g83, g84⟩ := and_e g82
  obtain ⟨g85, g86⟩ := and_e g84
  obtain ⟨g87, g88⟩ := and_e g86
  obtain ⟨g89, g90⟩ := and_e g88
  obtain ⟨g91, g92⟩ := and_e g90
  obtain ⟨g93, g94⟩ := and_e g92
  obtain ⟨g95, g96⟩ := and_e g94
  obtain ⟨g97, g98⟩ := and_e g96
  obtain ⟨g99, g100⟩ := and_e g98
  obtain ⟨g101, g102⟩ := and_e g100
  obtain ⟨g103, g104⟩ := and_e g102
  obtain ⟨g105, g106⟩ := and_e g104
  obtain ⟨g107, g108⟩ := and_e g106
  obtain ⟨g109, g110⟩ := and_e g108
  obtain ⟨g111, g112⟩ := and_e g110
  obtain ⟨g113, g114⟩ := and_e g112
  obtain ⟨g115, g116⟩ := and_e g114
  obtain ⟨g117, g118⟩ := and_e g116
  obtain ⟨g119, g120⟩ := and_e g118
  obtain ⟨g121, g122⟩ := and_e g120
  obtain ⟨g123, g124⟩ := and_e g122
  obtain ⟨g125, g126⟩ := and_e g124
  obtain ⟨g127, g128⟩ := and_e g126
  obtain ⟨g129, g130⟩ := and_e g128
  obtain ⟨g131, g132⟩ := and_e g130
  obtain ⟨g133, g134⟩ := and_e g132
  obtain ⟨g135, g136⟩ := and_e g134
  obtain ⟨g137, g138⟩ := and_e g136
  obtain ⟨g139, g140⟩ := and_e g138
  obtain ⟨g141, g142⟩ := and_e g140
  obtain ⟨g143, g144⟩ := and_e g142
  obtain ⟨g145, g146⟩ := and_e g144
  obtain ⟨g147, g148⟩ := and_e g146
  obtain ⟨g149, g150⟩ := and_e g148
  obtain ⟨g151, g152⟩ := and_e g150
  obtain ⟨g153, g154⟩ := and_e g152
  obtain ⟨g155, g156⟩ := and_e g154
  obtain ⟨g157, g158⟩ := and_e g156
  obtain ⟨g159, g160⟩ := and_e g158
  obtain ⟨g161, g162⟩ := and_e g160
  obtain ⟨g163, g164⟩ := and_e g162
  obtain ⟨g165, g166⟩ := and_e g164
  obtain ⟨g167, g168⟩ := and_e g166
  obtain ⟨g169, g170⟩ := and_e g168
  obtain ⟨g171, g172⟩ := and_e g170
  obtain ⟨g173, g174⟩ := and_e g172
  obtain ⟨g175, g176⟩ := and_e g174
  obtain ⟨g177, g178⟩ := and_e g176
  obtain ⟨g179, g180⟩ := and_e g178
  obtain ⟨g181, g182⟩ := and_e g180
  obtain ⟨g183, g184⟩ := and_e g182
  obtain ⟨g185, g186⟩ := and_e g184
  obtain ⟨g187, g188⟩ := and_e g186
  obtain ⟨g189, g190⟩ := and_e g188
  obtain ⟨g191, g192⟩ := and_e g190
  have S_w_ALLOWED := Sta.start ev_w_ALLOWED (Or.inr ⟨(hw _ (List.mem_of_getElem? (i := 3) rfl)), (hw _ (List.mem_of_getElem? (i := 4) rfl))⟩)
  have S_w_UNKNOWN_PURPOSE := Sta.start ev_w_UNKNOWN_PURPOSE (Or.inr ⟨(hw _ (List.mem_of_getElem? (i := 3) rfl)), (hw _ (List.mem_of_getElem? (i := 7) rfl))⟩)
  have S_w_UNKNOWN_ACTION := Sta.start ev_w_UNKNOWN_ACTION (Or.inr ⟨(hw _ (List.mem_of_getElem? (i := 3) rfl)), (hw _ (List.mem_of_getElem? (i := 9) rfl))⟩)
  have S_w_HOP_NOT_ALLOWED := Sta.start ev_w_HOP_NOT_ALLOWED (Or.inr ⟨(hw _ (List.mem_of_getElem? (i := 3) rfl)), (hw _ (List.mem_of_getElem? (i := 11) rfl))⟩)
  have S_w_SUBJECT_NOT_ALLOWED := Sta.start ev_w_SUBJECT_NOT_ALLOWED (Or.inr ⟨(hw _ (List.mem_of_getElem? (i := 3) rfl)), (hw _ (List.mem_of_getElem? (i := 13) rfl))⟩)
  have S_w_TOKEN_MISSING := Sta.start ev_w_TOKEN_MISSING (Or.inr ⟨(hw _ (List.mem_of_getElem? (i := 3) rfl)), (hw _ (List.mem_of_getElem? (i := 15) rfl))⟩)
  have S_w_TOKEN_MALFORMED := Sta.start ev_w_TOKEN_MALFORMED (Or.inr ⟨(hw _ (List.mem_of_getElem? (i := 3) rfl)), (hw _ (List.mem_of_getElem? (i := 17) rfl))⟩)
  have S_w_TOKEN_TYPE := Sta.start ev_w_TOKEN_TYPE (Or.inr ⟨(hw _ (List.mem_of_getElem? (i := 3) rfl)), (hw _ (List.mem_of_getElem? (i := 19) rfl))⟩)
  have S_w_TOKEN_ALGORITHM := Sta.start ev_w_TOKEN_ALGORITHM (Or.inr ⟨(hw _ (List.mem_of_getElem? (i := 3) rfl)), (hw _ (List.mem_of_getElem? (i := 21) rfl))⟩)
  have S_w_TOKEN_KEY_UNKNOWN := Sta.start ev_w_TOKEN_KEY_UNKNOWN (Or.inr ⟨(hw _ (List.mem_of_getElem? (i := 3) rfl)), (hw _ (List.mem_of_getElem? (i := 23) rfl))⟩)
  have S_w_TOKEN_SIGNATURE := Sta.start ev_w_TOKEN_SIGNATURE (Or.inr ⟨(hw _ (List.mem_of_getElem? (i := 3) rfl)), (hw _ (List.mem_of_getElem? (i := 25) rfl))⟩)
  have S_w_TOKEN_ISSUER := Sta.start ev_w_TOKEN_ISSUER (Or.inr ⟨(hw _ (List.mem_of_getElem? (i := 3) rfl)), (hw _ (List.mem_of_getElem? (i := 27) rfl))⟩)
  have S_w_TOKEN_AUDIENCE := Sta.start ev_w_TOKEN_AUDIENCE (Or.inr ⟨(hw _ (List.mem_of_getElem? (i := 3) rfl)), (hw _ (List.mem_of_getElem? (i := 29) rfl))⟩)
  have S_w_TOKEN_EXPIRED := Sta.start ev_w_TOKEN_EXPIRED (Or.inr ⟨(hw _ (List.mem_of_getElem? (i := 3) rfl)), (hw _ (List.mem_of_getElem? (i := 31) rfl))⟩)
  have S_w_TOKEN_NOT_YET_VALID := Sta.start ev_w_TOKEN_NOT_YET_VALID (Or.inr ⟨(hw _ (List.mem_of_getElem? (i := 3) rfl)), (hw _ (List.mem_of_getElem? (i := 33) rfl))⟩)
  have S_w_TOKEN_CLAIM_MISSING := Sta.start ev_w_TOKEN_CLAIM_MISSING (Or.inr ⟨(hw _ (List.mem_of_getElem? (i := 3) rfl)), (hw _ (List.mem_of_getElem? (i := 35) rfl))⟩)
  have S_w_KEYSET_UNAVAILABLE := Sta.start ev_w_KEYSET_UNAVAILABLE (Or.inr ⟨(hw _ (List.mem_of_getElem? (i := 3) rfl)), (hw _ (List.mem_of_getElem? (i := 37) rfl))⟩)
  have S_w_ACTOR_MISSING := Sta.start ev_w_ACTOR_MISSING (Or.inr ⟨(hw _ (List.mem_of_getElem? (i := 3) rfl)), (hw _ (List.mem_of_getElem? (i := 39) rfl))⟩)
  have S_w_SCOPE_MISSING := Sta.start ev_w_SCOPE_MISSING (Or.inr ⟨(hw _ (List.mem_of_getElem? (i := 3) rfl)), (hw _ (List.mem_of_getElem? (i := 41) rfl))⟩)
  have S_w_NOT_FOUND := Sta.start ev_w_NOT_FOUND (Or.inr ⟨(hw _ (List.mem_of_getElem? (i := 3) rfl)), (hw _ (List.mem_of_getElem? (i := 43) rfl))⟩)
  have S_w_PARENT_MISMATCH := Sta.start ev_w_PARENT_MISMATCH (Or.inr ⟨(hw _ (List.mem_of_getElem? (i := 3) rfl)), (hw _ (List.mem_of_getElem? (i := 45) rfl))⟩)
  have S_w_TENANT_MISSING := Sta.start ev_w_TENANT_MISSING (Or.inr ⟨(hw _ (List.mem_of_getElem? (i := 3) rfl)), (hw _ (List.mem_of_getElem? (i := 47) rfl))⟩)
  have S_w_TENANT_MISMATCH := Sta.start ev_w_TENANT_MISMATCH (Or.inr ⟨(hw _ (List.mem_of_getElem? (i := 3) rfl)), (hw _ (List.mem_of_getElem? (i := 49) rfl))⟩)
  have S_w_OBJECT_NOT_VISIBLE := Sta.start ev_w_OBJECT_NOT_VISIBLE (Or.inr ⟨(hw _ (List.mem_of_getElem? (i := 3) rfl)), (hw _ (List.mem_of_getElem? (i := 51) rfl))⟩)
  have S_w_ROUTE_UNKNOWN := Sta.start ev_w_ROUTE_UNKNOWN (Or.inr ⟨(hw _ (List.mem_of_getElem? (i := 3) rfl)), (hw _ (List.mem_of_getElem? (i := 53) rfl))⟩)
  have S_w_DECISION_POINT_UNAVAILABLE := Sta.start ev_w_DECISION_POINT_UNAVAILABLE (Or.inr ⟨(hw _ (List.mem_of_getElem? (i := 3) rfl)), (hw _ (List.mem_of_getElem? (i := 55) rfl))⟩)
  have S_w_DECISION_POINT_INVALID := Sta.start ev_w_DECISION_POINT_INVALID (Or.inr ⟨(hw _ (List.mem_of_getElem? (i := 3) rfl)), (hw _ (List.mem_of_getElem? (i := 57) rfl))⟩)
  have S_w_OWNER_CHECK_FAILED := Sta.start ev_w_OWNER_CHECK_FAILED (Or.inr ⟨(hw _ (List.mem_of_getElem? (i := 3) rfl)), (hw _ (List.mem_of_getElem? (i := 59) rfl))⟩)
  have S_w_GRANT_TYPE_UNSUPPORTED := Sta.start ev_w_GRANT_TYPE_UNSUPPORTED (Or.inr ⟨(hw _ (List.mem_of_getElem? (i := 3) rfl)), (hw _ (List.mem_of_getElem? (i := 61) rfl))⟩)
  have S_w_EXCHANGE_REQUEST_INVALID := Sta.start ev_w_EXCHANGE_REQUEST_INVALID (Or.inr ⟨(hw _ (List.mem_of_getElem? (i := 3) rfl)), (hw _ (List.mem_of_getElem? (i := 63) rfl))⟩)
  have S_w_ACTOR_TOKEN_NOT_OWN := Sta.start ev_w_ACTOR_TOKEN_NOT_OWN (Or.inr ⟨(hw _ (List.mem_of_getElem? (i := 3) rfl)), (hw _ (List.mem_of_getElem? (i := 65) rfl))⟩)
  have S_w_PURPOSE_MISMATCH := Sta.start ev_w_PURPOSE_MISMATCH (Or.inr ⟨(hw _ (List.mem_of_getElem? (i := 3) rfl)), (hw _ (List.mem_of_getElem? (i := 67) rfl))⟩)
  have F_w_ALLOWED_ordinal := own_fld_int ev_w_ALLOWED g67
  have F_w_KEYSET_UNAVAILABLE_ordinal := own_fld_int ev_w_KEYSET_UNAVAILABLE g69
  have F_w_DECISION_POINT_UNAVAILABLE_ordinal := own_fld_int ev_w_DECISION_POINT_UNAVAILABLE g71
  have F_w_DECISION_POINT_INVALID_ordinal := own_fld_int ev_w_DECISION_POINT_INVALID g73
  have F_w_OWNER_CHECK_FAILED_ordinal := own_fld_int ev_w_OWNER_CHECK_FAILED g75
  have F_w_ALLOWED_status := own_fld_int ev_w_ALLOWED g77
  have F_w_HOP_NOT_ALLOWED_ordinal := own_fld_int ev_w_HOP_NOT_ALLOWED g79
  have F_w_HOP_NOT_ALLOWED_status := own_fld_int ev_w_HOP_NOT_ALLOWED g81
  have F_w_TOKEN_NOT_YET_VALID_ordinal := own_fld_int ev_w_TOKEN_NOT_YET_VALID g83
  have F_w_TOKEN_NOT_YET_VALID_status := own_fld_int ev_w_TOKEN_NOT_YET_VALID g85
  have F_w_TOKEN_CLAIM_MISSING_ordinal := own_fld_int ev_w_TOKEN_CLAIM_MISSING g87
  have F_w_TOKEN_CLAIM_MISSING_status := own_fld_int ev_w_TOKEN_CLAIM_MISSING g89
  have F_w_TOKEN_SIGNATURE_ordinal := own_fld_int ev_w_TOKEN_SIGNATURE g91
  have F_w_TOKEN_SIGNATURE_status := own_fld_int ev_w_TOKEN_SIGNATURE g93
  have F_w_TOKEN_TYPE_ordinal := own_fld_int ev_w_TOKEN_TYPE g95
  have F_w_TOKEN_TYPE_status := own_fld_int ev_w_TOKEN_TYPE g97
  have F_w_UNKNOWN_ACTION_ordinal := own_fld_int ev_w_UNKNOWN_ACTION g99
  have F_w_UNKNOWN_ACTION_status := own_fld_int ev_w_UNKNOWN_ACTION g101
  have F_w_TOKEN_ISSUER_ordinal := own_fld_int ev_w_TOKEN_ISSUER g103
  have F_w_TOKEN_ISSUER_status := own_fld_int ev_w_TOKEN_ISSUER g105
  have F_w_TOKEN_ALGORITHM_ordinal := own_fld_int ev_w_TOKEN_ALGORITHM g107
  have F_w_TOKEN_ALGORITHM_status := own_fld_int ev_w_TOKEN_ALGORITHM g109
  have F_w_UNKNOWN_PURPOSE_ordinal := own_fld_int ev_w_UNKNOWN_PURPOSE g111
  have F_w_UNKNOWN_PURPOSE_status := own_fld_int ev_w_UNKNOWN_PURPOSE g113
  have F_w_OBJECT_NOT_VISIBLE_ordinal := own_fld_int ev_w_OBJECT_NOT_VISIBLE g115
  have F_w_OBJECT_NOT_VISIBLE_status := own_fld_int ev_w_OBJECT_NOT_VISIBLE g117
  have F_w_NOT_FOUND_ordinal := own_fld_int ev_w_NOT_FOUND g119
  have F_w_NOT_FOUND_status := own_fld_int ev_w_NOT_FOUND g121
  have F_w_ROUTE_UNKNOWN_ordinal := own_fld_int ev_w_ROUTE_UNKNOWN g123
  have F_w_ROUTE_UNKNOWN_status := own_fld_int ev_w_ROUTE_UNKNOWN g125
  have F_w_SCOPE_MISSING_ordinal := own_fld_int ev_w_SCOPE_MISSING g127
  have F_w_SCOPE_MISSING_status := own_fld_int ev_w_SCOPE_MISSING g129
  have F_w_ACTOR_MISSING_ordinal := own_fld_int ev_w_ACTOR_MISSING g131
  have F_w_ACTOR_MISSING_status := own_fld_int ev_w_ACTOR_MISSING g133
  have F_w_KEYSET_UNAVAILABLE_status := own_fld_int ev_w_KEYSET_UNAVAILABLE g135
  have F_w_SUBJECT_NOT_ALLOWED_ordinal := own_fld_int ev_w_SUBJECT_NOT_ALLOWED g137
  have F_w_SUBJECT_NOT_ALLOWED_status := own_fld_int ev_w_SUBJECT_NOT_ALLOWED g139
  have F_w_PURPOSE_MISMATCH_ordinal := own_fld_int ev_w_PURPOSE_MISMATCH g141
  have F_w_PURPOSE_MISMATCH_status := own_fld_int ev_w_PURPOSE_MISMATCH g143
  have F_w_ACTOR_TOKEN_NOT_OWN_ordinal := own_fld_int ev_w_ACTOR_TOKEN_NOT_OWN g145
  have F_w_ACTOR_TOKEN_NOT_OWN_status := own_fld_int ev_w_ACTOR_TOKEN_NOT_OWN g147
  have F_w_GRANT_TYPE_UNSUPPORTED_ordinal := own_fld_int ev_w_GRANT_TYPE_UNSUPPORTED g149
  have F_w_GRANT_TYPE_UNSUPPORTED_status := own_fld_int ev_w_GRANT_TYPE_UNSUPPORTED g151
  have F_w_EXCHANGE_REQUEST_INVALID_ordinal := own_fld_int ev_w_EXCHANGE_REQUEST_INVALID g153
  have F_w_EXCHANGE_REQUEST_INVALID_status := own_fld_int ev_w_EXCHANGE_REQUEST_INVALID g155
  have F_w_TOKEN_AUDIENCE_ordinal := own_fld_int ev_w_TOKEN_AUDIENCE g157
  have F_w_TOKEN_AUDIENCE_status := own_fld_int ev_w_TOKEN_AUDIENCE g159
  have F_w_TOKEN_MALFORMED_ordinal := own_fld_int ev_w_TOKEN_MALFORMED g161
  have F_w_TOKEN_MALFORMED_status := own_fld_int ev_w_TOKEN_MALFORMED g163
  have F_w_TOKEN_KEY_UNKNOWN_ordinal := own_fld_int ev_w_TOKEN_KEY_UNKNOWN g165
  have F_w_TOKEN_KEY_UNKNOWN_status := own_fld_int ev_w_TOKEN_KEY_UNKNOWN g167
  have F_w_TOKEN_EXPIRED_ordinal := own_fld_int ev_w_TOKEN_EXPIRED g169
  have F_w_TOKEN_EXPIRED_status := own_fld_int ev_w_TOKEN_EXPIRED g171
  have F_w_DECISION_POINT_UNAVAILABLE_status := own_fld_int ev_w_DECISION_POINT_UNAVAILABLE g173
  have F_w_TOKEN_MISSING_ordinal := own_fld_int ev_w_TOKEN_MISSING g175
  have F_w_TOKEN_MISSING_status := own_fld_int ev_w_TOKEN_MISSING g177
  have F_w_DECISION_POINT_INVALID_status := own_fld_int ev_w_DECISION_POINT_INVALID g179
  have F_w_OWNER_CHECK_FAILED_status := own_fld_int ev_w_OWNER_CHECK_FAILED g181
  have F_w_TENANT_MISSING_ordinal := own_fld_int ev_w_TENANT_MISSING g183
  have F_w_TENANT_MISSING_status := own_fld_int ev_w_TENANT_MISSING g185
  have F_w_PARENT_MISMATCH_ordinal := own_fld_int ev_w_PARENT_MISMATCH g187
  have F_w_PARENT_MISMATCH_status := own_fld_int ev_w_PARENT_MISMATCH g189
  have F_w_TENANT_MISMATCH_ordinal := own_fld_int ev_w_TENANT_MISMATCH g191
  have F_w_TENANT_MISMATCH_status := own_fld_int ev_w_TENANT_MISMATCH g192
  obtain ⟨n, o, h1, h2, h3, _, L, rfl, ⟨rfl, N⟩, hq⟩ := own_rm0 l s _ hw tables_1 i0 w_ALLOWED w_UNKNOWN_PURPOSE w_UNKNOWN_ACTION w_HOP_NOT_ALLOWED w_SUBJECT_NOT_ALLOWED w_TOKEN_MISSING w_TOKEN_MALFORMED w_TOKEN_TYPE w_TOKEN_ALGORITHM w_TOKEN_KEY_UNKNOWN w_TOKEN_SIGNATURE w_TOKEN_ISSUER w_TOKEN_AUDIENCE w_TOKEN_EXPIRED w_TOKEN_NOT_YET_VALID w_TOKEN_CLAIM_MISSING w_KEYSET_UNAVAILABLE w_ACTOR_MISSING w_SCOPE_MISSING w_NOT_FOUND w_PARENT_MISMATCH w_TENANT_MISSING w_TENANT_MISMATCH w_OBJECT_NOT_VISIBLE w_ROUTE_UNKNOWN w_DECISION_POINT_UNAVAILABLE w_DECISION_POINT_INVALID w_OWNER_CHECK_FAILED w_GRANT_TYPE_UNSUPPORTED w_EXCHANGE_REQUEST_INVALID w_ACTOR_TOKEN_NOT_OWN w_PURPOSE_MISMATCH s.heap s.heap.size (Nat.le_refl _) ⟨S_w_ALLOWED, S_w_UNKNOWN_PURPOSE, S_w_UNKNOWN_ACTION, S_w_HOP_NOT_ALLOWED, S_w_SUBJECT_NOT_ALLOWED, S_w_TOKEN_MISSING, S_w_TOKEN_MALFORMED, S_w_TOKEN_TYPE, S_w_TOKEN_ALGORITHM, S_w_TOKEN_KEY_UNKNOWN, S_w_TOKEN_SIGNATURE, S_w_TOKEN_ISSUER, S_w_TOKEN_AUDIENCE, S_w_TOKEN_EXPIRED, S_w_TOKEN_NOT_YET_VALID, S_w_TOKEN_CLAIM_MISSING, S_w_KEYSET_UNAVAILABLE, S_w_ACTOR_MISSING, S_w_SCOPE_MISSING, S_w_NOT_FOUND, S_w_PARENT_MISMATCH, S_w_TENANT_MISSING, S_w_TENANT_MISMATCH, S_w_OBJECT_NOT_VISIBLE, S_w_ROUTE_UNKNOWN, S_w_DECISION_POINT_UNAVAILABLE, S_w_DECISION_POINT_INVALID, S_w_OWNER_CHECK_FAILED, S_w_GRANT_TYPE_UNSUPPORTED, S_w_EXCHANGE_REQUEST_INVALID, S_w_ACTOR_TOKEN_NOT_OWN, S_w_PURPOSE_MISMATCH⟩ ⟨E_w_ALLOWED, E_w_UNKNOWN_PURPOSE, E_w_UNKNOWN_ACTION, E_w_HOP_NOT_ALLOWED, E_w_SUBJECT_NOT_ALLOWED, E_w_TOKEN_MISSING, E_w_TOKEN_MALFORMED, E_w_TOKEN_TYPE, E_w_TOKEN_ALGORITHM, E_w_TOKEN_KEY_UNKNOWN, E_w_TOKEN_SIGNATURE, E_w_TOKEN_ISSUER, E_w_TOKEN_AUDIENCE, E_w_TOKEN_EXPIRED, E_w_TOKEN_NOT_YET_VALID, E_w_TOKEN_CLAIM_MISSING, E_w_KEYSET_UNAVAILABLE, E_w_ACTOR_MISSING, E_w_SCOPE_MISSING, E_w_NOT_FOUND, E_w_PARENT_MISMATCH, E_w_TENANT_MISSING, E_w_TENANT_MISMATCH, E_w_OBJECT_NOT_VISIBLE, E_w_ROUTE_UNKNOWN, E_w_DECISION_POINT_UNAVAILABLE, E_w_DECISION_POINT_INVALID, E_w_OWNER_CHECK_FAILED, E_w_GRANT_TYPE_UNSUPPORTED, E_w_EXCHANGE_REQUEST_INVALID, E_w_ACTOR_TOKEN_NOT_OWN, E_w_PURPOSE_MISMATCH⟩ ⟨F_w_ALLOWED_status, F_w_UNKNOWN_PURPOSE_status, F_w_UNKNOWN_ACTION_status, F_w_HOP_NOT_ALLOWED_status, F_w_SUBJECT_NOT_ALLOWED_status, F_w_TOKEN_MISSING_status, F_w_TOKEN_MALFORMED_status, F_w_TOKEN_TYPE_status, F_w_TOKEN_ALGORITHM_status, F_w_TOKEN_KEY_UNKNOWN_status, F_w_TOKEN_SIGNATURE_status, F_w_TOKEN_ISSUER_status, F_w_TOKEN_AUDIENCE_status, F_w_TOKEN_EXPIRED_status, F_w_TOKEN_NOT_YET_VALID_status, F_w_TOKEN_CLAIM_MISSING_status, F_w_KEYSET_UNAVAILABLE_status, F_w_ACTOR_MISSING_status, F_w_SCOPE_MISSING_status, F_w_NOT_FOUND_status, F_w_PARENT_MISMATCH_status, F_w_TENANT_MISSING_status, F_w_TENANT_MISMATCH_status, F_w_OBJECT_NOT_VISIBLE_status, F_w_ROUTE_UNKNOWN_status, F_w_DECISION_POINT_UNAVAILABLE_status, F_w_DECISION_POINT_INVALID_status, F_w_OWNER_CHECK_FAILED_status, F_w_GRANT_TYPE_UNSUPPORTED_status, F_w_EXCHANGE_REQUEST_INVALID_status, F_w_ACTOR_TOKEN_NOT_OWN_status, F_w_PURPOSE_MISMATCH_status⟩ p e ha hc hk s m _ below hf ((Spec.applies_iff_loose hf).mp happ).1 ⟨rfl, State.Warmed39.refl s, rfl⟩ trivial
  refine ⟨n, _, h1, h2, h3, hpost _ _ _ _ _ _ ⟨Cond.after_iff.mpr rfl, Cond.after_iff.mpr (eq_i res_at (Term.int_eval (1)) rfl), trivial⟩ ⟨hq.1, hq.2.1, (hq.2.2.sift fun y hy => Or.inr (N y hy)).mono (by decide) (by decide)⟩⟩
theorem main_1_1 : Claimed_1_1 := comes_1 fun _ _ _ _ _ _ h hF => ⟨h.1, hF⟩
theorem main_1_2 : Claimed_1_2 := comes_1 fun _ _ _ _ _ _ h hF => ⟨h.2.1, hF⟩
end Jvm.Pilot.@@N@@
namespace Jvm.Pilot.@@N@@
open Jvm Jvm.ClassFile Sem Op Lib Jvm.Free Jvm.Stand Jvm.Pilot.@@N@@.Jvm.D
/-! MADE BY PROGRAM (witnessworld.py) out of the Statement's table words and the real class files: 13 classes; the members and pool entries that the words name. The judged class is class 1, her method 1. -/
namespace start1
open Jvm.ClassFile
def u (s : String) : CpInfo := .utf8 (stringToUtf16 s)
/-- a pool by its gaps: so many unusable entries, then the entry; so many at the end -/
def gap : Nat → List CpInfo → List CpInfo
  | 0, r => r
  | n + 1, r => .unusable :: gap n r
def poolList (es : List (Nat × CpInfo)) (last : Nat) : List CpInfo := es.foldr (fun e r => gap e.1 (e.2 :: r)) (gap last [])
def pool (es : List (Nat × CpInfo)) (last : Nat) : Array CpInfo := ⟨poolList es last⟩
def fileOf (pool : Array CpInfo) (this : Nat) (attrs : Array Attribute := #[]) (ms : Array MethodInfo := #[]) (fl : Nat := 33) (sup : Nat := 0) (ifs : Array Nat := #[]) (fds : Array FieldInfo := #[]) : ClassFile where
  minorVersion := 0
  majorVersion := 65
  constantPool := pool
  accessFlags := fl
  thisClass := this
  superClass := sup
  interfaces := ifs
  fields := fds
  methods := ms
  attributes := attrs
def plain (name : String) (sup : Option ClassId) : Class where
  name := name
  kind := .ordinary
  loader := none
  accessFlags := 33
  super := sup
  interfaces := #[]
  cf := none
  fields := #[]
  methods := #[]
  instanceTypes := #[]
  staticTypes := #[]
  resolved := #[]
  callSites := []
  init := .initialized
  statics := none
  mirror := none

def pool0 : Array CpInfo := pool [(5, u "<init>"), (0, u "()V"), (1, .class_ 10), (1, u "java/lang/Object")] 113

def k0m0 : Method := { name := "<init>", desc := "()V", sig := { parameters := [], returnType := none }, accessFlags := 1, code := none }
/-- java/lang/Object -/
def k0 : Class := { plain "java/lang/Object" none with
  accessFlags := 33
  interfaces := #[]
  cf := some (fileOf pool0 8 #[] #[{ accessFlags := 1, nameIndex := 5, descriptorIndex := 6, attributes := #[] }] 33 0 #[] #[])
  fields := #[]
  methods := #[k0m0]
  instanceTypes := #[]
  staticTypes := #[]
  resolved := Array.replicate 124 none
  statics := none }

def pool1 : Array CpInfo := pool [(2, .class_ 4), (1, u "java/lang/Object"), (0, u "<init>"), (0, u "()V"), (0, .class_ 8), (0, u "com/example/hopguard/hopguard/core/Reason"), (0, .fieldref 7 10), (0, .nameAndType 11 12), (0, u "ALLOWED"), (0, u "Lcom/example/hopguard/hopguard/core/Reason;"), (0, .fieldref 7 14), (0, .nameAndType 15 12), (0, u "UNKNOWN_PURPOSE"), (0, .fieldref 7 17), (0, .nameAndType 18 12), (0, u "UNKNOWN_ACTION"), (0, .fieldref 7 20), (0, .nameAndType 21 12), (0, u "HOP_NOT_ALLOWED"), (0, .fieldref 7 23), (0, .nameAndType 24 12), (0, u "SUBJECT_NOT_ALLOWED"), (0, .fieldref 7 26), (0, .nameAndType 27 12), (0, u "TOKEN_MISSING"), (0, .fieldref 7 29), (0, .nameAndType 30 12), (0, u "TOKEN_MALFORMED"), (0, .fieldref 7 32), (0, .nameAndType 33 12), (0, u "TOKEN_TYPE"), (0, .fieldref 7 35), (0, .nameAndType 36 12), (0, u "TOKEN_ALGORITHM"), (0, .fieldref 7 38), (0, .nameAndType 39 12), (0, u "TOKEN_KEY_UNKNOWN"), (0, .fieldref 7 41), (0, .nameAndType 42 12), (0, u "TOKEN_SIGNATURE"), (0, .fieldref 7 44), (0, .nameAndType 45 12), (0, u "TOKEN_ISSUER"), (0, .fieldref 7 47), (0, .nameAndType 48 12), (0, u "TOKEN_AUDIENCE"), (0, .fieldref 7 50), (0, .nameAndType 51 12), (0, u "TOKEN_EXPIRED"), (0, .fieldref 7 53), (0, .nameAndType 54 12), (0, u "TOKEN_NOT_YET_VALID"), (0, .fieldref 7 56), (0, .nameAndType 57 12), (0, u "TOKEN_CLAIM_MISSING"), (0, .fieldref 7 59), (0, .nameAndType 60 12), (0, u "KEYSET_UNAVAILABLE"), (0, .fieldref 7 62), (0, .nameAndType 63 12), (0, u "ACTOR_MISSING"), (0, .fieldref 7 65), (0, .nameAndType 66 12), (0, u "SCOPE_MISSING"), (0, .fieldref 7 68), (0, .nameAndType 69 12), (0, u "NOT_FOUND"), (0, .fieldref 7 71), (0, .nameAndType 72 12), (0, u "PARENT_MISMATCH"), (0, .fieldref 7 74), (0, .nameAndType 75 12), (0, u "TENANT_MISSING"), (0, .fieldref 7 77), (0, .nameAndType 78 12), (0, u "TENANT_MISMATCH"), (0, .fieldref 7 80), (0, .nameAndType 81 12), (0, u "OBJECT_NOT_VISIBLE"), (0, .fieldref 7 83), (0, .nameAndType 84 12), (0, u "ROUTE_UNKNOWN"), (0, .fieldref 7 86), (0, .nameAndType 87 12), (0, u "DECISION_POINT_UNAVAILABLE"), (0, .fieldref 7 89), (0, .nameAndType 90 12), (0, u "DECISION_POINT_INVALID"), (0, .fieldref 7 92), (0, .nameAndType 93 12), (0, u "OWNER_CHECK_FAILED"), (0, .fieldref 7 95), (0, .nameAndType 96 12), (0, u "GRANT_TYPE_UNSUPPORTED"), (0, .fieldref 7 98), (0, .nameAndType 99 12), (0, u "EXCHANGE_REQUEST_INVALID"), (0, .fieldref 7 101), (0, .nameAndType 102 12), (0, u "ACTOR_TOKEN_NOT_OWN"), (0, .fieldref 7 104), (0, .nameAndType 105 12), (0, u "PURPOSE_MISMATCH"), (0, .methodref 7 107), (0, .nameAndType 108 109), (0, u "failsClosed"), (0, u "()Z"), (0, .methodref 7 111), (0, .nameAndType 112 113), (0, u "status"), (0, u "()I"), (0, .class_ 115), (0, u "com/example/hopguard/hopguard/core/ReasonFailsClosedPinLaw"), (2, u "law"), (0, u "(I)Z")] 5

def k1m0 : Method := { name := "<init>", desc := "()V", sig := { parameters := [], returnType := none }, accessFlags := 2, code := none }
def k1c1 : Code := { maxStack := 4, maxLocals := 5, code := code, exceptionTable := #[], attributes := #[] }
def k1m1 : Method := { name := "law", desc := "(I)Z", sig := { parameters := [.int], returnType := some .boolean }, accessFlags := 9, code := some k1c1 }
/-- com/example/hopguard/hopguard/core/ReasonFailsClosedPinLaw -/
def k1 : Class := { plain "com/example/hopguard/hopguard/core/ReasonFailsClosedPinLaw" (some 0) with
  accessFlags := 49
  interfaces := #[]
  cf := some (fileOf pool1 114 #[] #[{ accessFlags := 2, nameIndex := 5, descriptorIndex := 6, attributes := #[] }, { accessFlags := 9, nameIndex := 118, descriptorIndex := 119, attributes := #[] }] 49 2 #[] #[])
  fields := #[]
  methods := #[k1m0, k1m1]
  instanceTypes := #[]
  staticTypes := #[]
  resolved := Array.replicate 125 none
  statics := none }

def pool2 : Array CpInfo := pool [(1, .class_ 2), (0, u "java/lang/constant/Constable"), (0, .class_ 4), (0, u "java/lang/Object")] 6

/-- java/lang/constant/Constable -/
def k2 : Class := { plain "java/lang/constant/Constable" (some 0) with
  accessFlags := 1537
  interfaces := #[]
  cf := some (fileOf pool2 1 #[] #[] 1537 3 #[] #[])
  fields := #[]
  methods := #[]
  instanceTypes := #[]
  staticTypes := #[]
  resolved := Array.replicate 11 none
  statics := none }

def pool3 : Array CpInfo := pool [(1, .class_ 2), (0, u "java/lang/Comparable"), (0, .class_ 4), (0, u "java/lang/Object")] 7

/-- java/lang/Comparable -/
def k3 : Class := { plain "java/lang/Comparable" (some 0) with
  accessFlags := 1537
  interfaces := #[]
  cf := some (fileOf pool3 1 #[] #[] 1537 3 #[] #[])
  fields := #[]
  methods := #[]
  instanceTypes := #[]
  staticTypes := #[]
  resolved := Array.replicate 12 none
  statics := none }

def pool4 : Array CpInfo := pool [(1, .class_ 2), (0, u "java/io/Serializable"), (0, .class_ 4), (0, u "java/lang/Object")] 2

/-- java/io/Serializable -/
def k4 : Class := { plain "java/io/Serializable" (some 0) with
  accessFlags := 1537
  interfaces := #[]
  cf := some (fileOf pool4 1 #[] #[] 1537 3 #[] #[])
  fields := #[]
  methods := #[]
  instanceTypes := #[]
  staticTypes := #[]
  resolved := Array.replicate 7 none
  statics := none }

def pool5 : Array CpInfo := pool [(2, .class_ 4), (1, u "java/lang/Enum"), (0, u "name"), (0, u "Ljava/lang/String;"), (2, u "ordinal"), (0, u "I"), (1, .class_ 14), (1, u "java/lang/Object"), (4, u "hash"), (86, .class_ 108), (1, u "java/lang/Enum$EnumDesc"), (2, .class_ 112), (0, u "java/lang/constant/Constable"), (0, .class_ 114), (0, u "java/lang/Comparable"), (0, .class_ 116), (0, u "java/io/Serializable")] 87

/-- java/lang/Enum -/
def k5 : Class := { plain "java/lang/Enum" (some 0) with
  accessFlags := 1057
  interfaces := #[2, 3, 4]
  cf := some (fileOf pool5 2 #[.nestMembers #[106]] #[] 1057 12 #[111, 113, 115] #[{ accessFlags := 18, nameIndex := 5, descriptorIndex := 6, attributes := #[] }, { accessFlags := 18, nameIndex := 9, descriptorIndex := 10, attributes := #[] }, { accessFlags := 2, nameIndex := 19, descriptorIndex := 10, attributes := #[] }])
  fields := #[{ name := "name", type := (.object "java/lang/String"), accessFlags := 18, slot := 0, constantValue := 0 }, { name := "ordinal", type := .int, accessFlags := 18, slot := 1, constantValue := 0 }, { name := "hash", type := .int, accessFlags := 2, slot := 2, constantValue := 0 }]
  methods := #[]
  instanceTypes := #[(.object "java/lang/String"), .int, .int]
  staticTypes := #[]
  resolved := Array.replicate 204 none
  statics := none }

def pool6 : Array CpInfo := pool [(1, .class_ 2), (0, u "com/example/hopguard/hopguard/core/Reason"), (2, u "ALLOWED"), (0, u "Lcom/example/hopguard/hopguard/core/Reason;"), (2, u "UNKNOWN_PURPOSE"), (2, u "UNKNOWN_ACTION"), (2, u "HOP_NOT_ALLOWED"), (2, u "SUBJECT_NOT_ALLOWED"), (2, u "TOKEN_MISSING"), (2, u "TOKEN_MALFORMED"), (2, u "TOKEN_TYPE"), (2, u "TOKEN_ALGORITHM"), (2, u "TOKEN_KEY_UNKNOWN"), (2, u "TOKEN_SIGNATURE"), (2, u "TOKEN_ISSUER"), (2, u "TOKEN_AUDIENCE"), (2, u "TOKEN_EXPIRED"), (2, u "TOKEN_NOT_YET_VALID"), (2, u "TOKEN_CLAIM_MISSING"), (2, u "KEYSET_UNAVAILABLE"), (2, u "ACTOR_MISSING"), (2, u "SCOPE_MISSING"), (2, u "NOT_FOUND"), (2, u "PARENT_MISMATCH"), (2, u "TENANT_MISSING"), (2, u "TENANT_MISMATCH"), (2, u "OBJECT_NOT_VISIBLE"), (2, u "ROUTE_UNKNOWN"), (2, u "DECISION_POINT_UNAVAILABLE"), (2, u "DECISION_POINT_INVALID"), (2, u "OWNER_CHECK_FAILED"), (2, u "GRANT_TYPE_UNSUPPORTED"), (2, u "EXCHANGE_REQUEST_INVALID"), (2, u "ACTOR_TOKEN_NOT_OWN"), (2, u "PURPOSE_MISMATCH"), (2, u "$VALUES"), (0, u "[Lcom/example/hopguard/hopguard/core/Reason;"), (6, .class_ 112), (1, u "java/lang/Enum"), (6, .fieldref 1 120), (0, .nameAndType 121 122), (0, u "status"), (0, u "I"), (58, u "()I"), (0, u "failsClosed"), (0, u "()Z")] 5

def k6c0 : Code := { maxStack := 1, maxLocals := 1, code := prog_7_method_5_code, exceptionTable := #[], attributes := #[] }
def k6m0 : Method := { name := "status", desc := "()I", sig := { parameters := [], returnType := some .int }, accessFlags := 1, code := some k6c0 }
def k6c1 : Code := { maxStack := 2, maxLocals := 1, code := prog_7_method_6_code, exceptionTable := #[], attributes := #[] }
def k6m1 : Method := { name := "failsClosed", desc := "()Z", sig := { parameters := [], returnType := some .boolean }, accessFlags := 1, code := some k6c1 }
/-- com/example/hopguard/hopguard/core/Reason -/
def k6 : Class := { plain "com/example/hopguard/hopguard/core/Reason" (some 5) with
  accessFlags := 16433
  interfaces := #[]
  cf := some (fileOf pool6 1 #[] #[{ accessFlags := 1, nameIndex := 121, descriptorIndex := 181, attributes := #[] }, { accessFlags := 1, nameIndex := 182, descriptorIndex := 183, attributes := #[] }] 16433 110 #[] #[{ accessFlags := 16409, nameIndex := 5, descriptorIndex := 6, attributes := #[] }, { accessFlags := 16409, nameIndex := 9, descriptorIndex := 6, attributes := #[] }, { accessFlags := 16409, nameIndex := 12, descriptorIndex := 6, attributes := #[] }, { accessFlags := 16409, nameIndex := 15, descriptorIndex := 6, attributes := #[] }, { accessFlags := 16409, nameIndex := 18, descriptorIndex := 6, attributes := #[] }, { accessFlags := 16409, nameIndex := 21, descriptorIndex := 6, attributes := #[] }, { accessFlags := 16409, nameIndex := 24, descriptorIndex := 6, attributes := #[] }, { accessFlags := 16409, nameIndex := 27, descriptorIndex := 6, attributes := #[] }, { accessFlags := 16409, nameIndex := 30, descriptorIndex := 6, attributes := #[] }, { accessFlags := 16409, nameIndex := 33, descriptorIndex := 6, attributes := #[] }, { accessFlags := 16409, nameIndex := 36, descriptorIndex := 6, attributes := #[] }, { accessFlags := 16409, nameIndex := 39, descriptorIndex := 6, attributes := #[] }, { accessFlags := 16409, nameIndex := 42, descriptorIndex := 6, attributes := #[] }, { accessFlags := 16409, nameIndex := 45, descriptorIndex := 6, attributes := #[] }, { accessFlags := 16409, nameIndex := 48, descriptorIndex := 6, attributes := #[] }, { accessFlags := 16409, nameIndex := 51, descriptorIndex := 6, attributes := #[] }, { accessFlags := 16409, nameIndex := 54, descriptorIndex := 6, attributes := #[] }, { accessFlags := 16409, nameIndex := 57, descriptorIndex := 6, attributes := #[] }, { accessFlags := 16409, nameIndex := 60, descriptorIndex := 6, attributes := #[] }, { accessFlags := 16409, nameIndex := 63, descriptorIndex := 6, attributes := #[] }, { accessFlags := 16409, nameIndex := 66, descriptorIndex := 6, attributes := #[] }, { accessFlags := 16409, nameIndex := 69, descriptorIndex := 6, attributes := #[] }, { accessFlags := 16409, nameIndex := 72, descriptorIndex := 6, attributes := #[] }, { accessFlags := 16409, nameIndex := 75, descriptorIndex := 6, attributes := #[] }, { accessFlags := 16409, nameIndex := 78, descriptorIndex := 6, attributes := #[] }, { accessFlags := 16409, nameIndex := 81, descriptorIndex := 6, attributes := #[] }, { accessFlags := 16409, nameIndex := 84, descriptorIndex := 6, attributes := #[] }, { accessFlags := 16409, nameIndex := 87, descriptorIndex := 6, attributes := #[] }, { accessFlags := 16409, nameIndex := 90, descriptorIndex := 6, attributes := #[] }, { accessFlags := 16409, nameIndex := 93, descriptorIndex := 6, attributes := #[] }, { accessFlags := 16409, nameIndex := 96, descriptorIndex := 6, attributes := #[] }, { accessFlags := 16409, nameIndex := 99, descriptorIndex := 6, attributes := #[] }, { accessFlags := 18, nameIndex := 121, descriptorIndex := 122, attributes := #[] }, { accessFlags := 4122, nameIndex := 102, descriptorIndex := 103, attributes := #[] }])
  fields := #[{ name := "ALLOWED", type := (.object "com/example/hopguard/hopguard/core/Reason"), accessFlags := 16409, slot := 0, constantValue := 0 }, { name := "UNKNOWN_PURPOSE", type := (.object "com/example/hopguard/hopguard/core/Reason"), accessFlags := 16409, slot := 1, constantValue := 0 }, { name := "UNKNOWN_ACTION", type := (.object "com/example/hopguard/hopguard/core/Reason"), accessFlags := 16409, slot := 2, constantValue := 0 }, { name := "HOP_NOT_ALLOWED", type := (.object "com/example/hopguard/hopguard/core/Reason"), accessFlags := 16409, slot := 3, constantValue := 0 }, { name := "SUBJECT_NOT_ALLOWED", type := (.object "com/example/hopguard/hopguard/core/Reason"), accessFlags := 16409, slot := 4, constantValue := 0 }, { name := "TOKEN_MISSING", type := (.object "com/example/hopguard/hopguard/core/Reason"), accessFlags := 16409, slot := 5, constantValue := 0 }, { name := "TOKEN_MALFORMED", type := (.object "com/example/hopguard/hopguard/core/Reason"), accessFlags := 16409, slot := 6, constantValue := 0 }, { name := "TOKEN_TYPE", type := (.object "com/example/hopguard/hopguard/core/Reason"), accessFlags := 16409, slot := 7, constantValue := 0 }, { name := "TOKEN_ALGORITHM", type := (.object "com/example/hopguard/hopguard/core/Reason"), accessFlags := 16409, slot := 8, constantValue := 0 }, { name := "TOKEN_KEY_UNKNOWN", type := (.object "com/example/hopguard/hopguard/core/Reason"), accessFlags := 16409, slot := 9, constantValue := 0 }, { name := "TOKEN_SIGNATURE", type := (.object "com/example/hopguard/hopguard/core/Reason"), accessFlags := 16409, slot := 10, constantValue := 0 }, { name := "TOKEN_ISSUER", type := (.object "com/example/hopguard/hopguard/core/Reason"), accessFlags := 16409, slot := 11, constantValue := 0 }, { name := "TOKEN_AUDIENCE", type := (.object "com/example/hopguard/hopguard/core/Reason"), accessFlags := 16409, slot := 12, constantValue := 0 }, { name := "TOKEN_EXPIRED", type := (.object "com/example/hopguard/hopguard/core/Reason"), accessFlags := 16409, slot := 13, constantValue := 0 }, { name := "TOKEN_NOT_YET_VALID", type := (.object "com/example/hopguard/hopguard/core/Reason"), accessFlags := 16409, slot := 14, constantValue := 0 }, { name := "TOKEN_CLAIM_MISSING", type := (.object "com/example/hopguard/hopguard/core/Reason"), accessFlags := 16409, slot := 15, constantValue := 0 }, { name := "KEYSET_UNAVAILABLE", type := (.object "com/example/hopguard/hopguard/core/Reason"), accessFlags := 16409, slot := 16, constantValue := 0 }, { name := "ACTOR_MISSING", type := (.object "com/example/hopguard/hopguard/core/Reason"), accessFlags := 16409, slot := 17, constantValue := 0 }, { name := "SCOPE_MISSING", type := (.object "com/example/hopguard/hopguard/core/Reason"), accessFlags := 16409, slot := 18, constantValue := 0 }, { name := "NOT_FOUND", type := (.object "com/example/hopguard/hopguard/core/Reason"), accessFlags := 16409, slot := 19, constantValue := 0 }, { name := "PARENT_MISMATCH", type := (.object "com/example/hopguard/hopguard/core/Reason"), accessFlags := 16409, slot := 20, constantValue := 0 }, { name := "TENANT_MISSING", type := (.object "com/example/hopguard/hopguard/core/Reason"), accessFlags := 16409, slot := 21, constantValue := 0 }, { name := "TENANT_MISMATCH", type := (.object "com/example/hopguard/hopguard/core/Reason"), accessFlags := 16409, slot := 22, constantValue := 0 }, { name := "OBJECT_NOT_VISIBLE", type := (.object "com/example/hopguard/hopguard/core/Reason"), accessFlags := 16409, slot := 23, constantValue := 0 }, { name := "ROUTE_UNKNOWN", type := (.object "com/example/hopguard/hopguard/core/Reason"), accessFlags := 16409, slot := 24, constantValue := 0 }, { name := "DECISION_POINT_UNAVAILABLE", type := (.object "com/example/hopguard/hopguard/core/Reason"), accessFlags := 16409, slot := 25, constantValue := 0 }, { name := "DECISION_POINT_INVALID", type := (.object "com/example/hopguard/hopguard/core/Reason"), accessFlags := 16409, slot := 26, constantValue := 0 }, { name := "OWNER_CHECK_FAILED", type := (.object "com/example/hopguard/hopguard/core/Reason"), accessFlags := 16409, slot := 27, constantValue := 0 }, { name := "GRANT_TYPE_UNSUPPORTED", type := (.object "com/example/hopguard/hopguard/core/Reason"), accessFlags := 16409, slot := 28, constantValue := 0 }, { name := "EXCHANGE_REQUEST_INVALID", type := (.object "com/example/hopguard/hopguard/core/Reason"), accessFlags := 16409, slot := 29, constantValue := 0 }, { name := "ACTOR_TOKEN_NOT_OWN", type := (.object "com/example/hopguard/hopguard/core/Reason"), accessFlags := 16409, slot := 30, constantValue := 0 }, { name := "PURPOSE_MISMATCH", type := (.object "com/example/hopguard/hopguard/core/Reason"), accessFlags := 16409, slot := 31, constantValue := 0 }, { name := "status", type := .int, accessFlags := 18, slot := 3, constantValue := 0 }, { name := "$VALUES", type := (.array (.object "com/example/hopguard/hopguard/core/Reason")), accessFlags := 4122, slot := 32, constantValue := 0 }]
  methods := #[k6m0, k6m1]
  instanceTypes := #[(.object "java/lang/String"), .int, .int, .int]
  staticTypes := #[(.object "com/example/hopguard/hopguard/core/Reason"), (.object "com/example/hopguard/hopguard/core/Reason"), (.object "com/example/hopguard/hopguard/core/Reason"), (.object "com/example/hopguard/hopguard/core/Reason"), (.object "com/example/hopguard/hopguard/core/Reason"), (.object "com/example/hopguard/hopguard/core/Reason"), (.object "com/example/hopguard/hopguard/core/Reason"), (.object "com/example/hopguard/hopguard/core/Reason"), (.object "com/example/hopguard/hopguard/core/Reason"), (.object "com/example/hopguard/hopguard/core/Reason"), (.object "com/example/hopguard/hopguard/core/Reason"), (.object "com/example/hopguard/hopguard/core/Reason"), (.object "com/example/hopguard/hopguard/core/Reason"), (.object "com/example/hopguard/hopguard/core/Reason"), (.object "com/example/hopguard/hopguard/core/Reason"), (.object "com/example/hopguard/hopguard/core/Reason"), (.object "com/example/hopguard/hopguard/core/Reason"), (.object "com/example/hopguard/hopguard/core/Reason"), (.object "com/example/hopguard/hopguard/core/Reason"), (.object "com/example/hopguard/hopguard/core/Reason"), (.object "com/example/hopguard/hopguard/core/Reason"), (.object "com/example/hopguard/hopguard/core/Reason"), (.object "com/example/hopguard/hopguard/core/Reason"), (.object "com/example/hopguard/hopguard/core/Reason"), (.object "com/example/hopguard/hopguard/core/Reason"), (.object "com/example/hopguard/hopguard/core/Reason"), (.object "com/example/hopguard/hopguard/core/Reason"), (.object "com/example/hopguard/hopguard/core/Reason"), (.object "com/example/hopguard/hopguard/core/Reason"), (.object "com/example/hopguard/hopguard/core/Reason"), (.object "com/example/hopguard/hopguard/core/Reason"), (.object "com/example/hopguard/hopguard/core/Reason"), (.array (.object "com/example/hopguard/hopguard/core/Reason"))]
  resolved := Array.replicate 189 none
  statics := some 0 }

def pool7 : Array CpInfo := pool [(1, u "java/lang/Cloneable"), (0, .class_ 1), (0, u "java/lang/Object"), (0, .class_ 3)] 3

/-- java/lang/Cloneable -/
def k7 : Class := { plain "java/lang/Cloneable" (some 0) with
  accessFlags := 1537
  interfaces := #[]
  cf := some (fileOf pool7 2 #[] #[] 1537 4 #[] #[])
  fields := #[]
  methods := #[]
  instanceTypes := #[]
  staticTypes := #[]
  resolved := Array.replicate 8 none
  statics := none }

/-- the primitive byte -/
def k8 : Class := { plain "byte" none with kind := .primitive 'B', accessFlags := 0x411 }
/-- [B -/
def k9 : Class := { plain "[B" (some 0) with kind := .array 8 .byte, interfaces := #[7, 4], accessFlags := 1041 }

/-- the primitive int -/
def k10 : Class := { plain "int" none with kind := .primitive 'I', accessFlags := 0x411 }
/-- [I -/
def k11 : Class := { plain "[I" (some 0) with kind := .array 10 .int, interfaces := #[7, 4], accessFlags := 1041 }

/-- [Lcom/example/hopguard/hopguard/core/Reason; -/
def k12 : Class := { plain "[Lcom/example/hopguard/hopguard/core/Reason;" (some 0) with kind := .array 6 (.object "com/example/hopguard/hopguard/core/Reason"), interfaces := #[7, 4], accessFlags := 1041 }

def heap : Heap := #[{ cls := 6, slots := #[.ref 1, .ref 2, .ref 3, .ref 4, .ref 5, .ref 6, .ref 7, .ref 8, .ref 9, .ref 10, .ref 11, .ref 12, .ref 13, .ref 14, .ref 15, .ref 16, .ref 17, .ref 18, .ref 19, .ref 20, .ref 21, .ref 22, .ref 23, .ref 24, .ref 25, .ref 26, .ref 27, .ref 28, .ref 29, .ref 30, .ref 31, .ref 32, .null], vm := .statics 6 },
  { cls := 6, slots := #[.null, .int 0, .int 0, .int 200], vm := .none },
  { cls := 6, slots := #[.null, .int 1, .int 0, .int 403], vm := .none },
  { cls := 6, slots := #[.null, .int 2, .int 0, .int 403], vm := .none },
  { cls := 6, slots := #[.null, .int 3, .int 0, .int 403], vm := .none },
  { cls := 6, slots := #[.null, .int 4, .int 0, .int 403], vm := .none },
  { cls := 6, slots := #[.null, .int 5, .int 0, .int 401], vm := .none },
  { cls := 6, slots := #[.null, .int 6, .int 0, .int 401], vm := .none },
  { cls := 6, slots := #[.null, .int 7, .int 0, .int 401], vm := .none },
  { cls := 6, slots := #[.null, .int 8, .int 0, .int 401], vm := .none },
  { cls := 6, slots := #[.null, .int 9, .int 0, .int 401], vm := .none },
  { cls := 6, slots := #[.null, .int 10, .int 0, .int 401], vm := .none },
  { cls := 6, slots := #[.null, .int 11, .int 0, .int 401], vm := .none },
  { cls := 6, slots := #[.null, .int 12, .int 0, .int 401], vm := .none },
  { cls := 6, slots := #[.null, .int 13, .int 0, .int 401], vm := .none },
  { cls := 6, slots := #[.null, .int 14, .int 0, .int 401], vm := .none },
  { cls := 6, slots := #[.null, .int 15, .int 0, .int 401], vm := .none },
  { cls := 6, slots := #[.null, .int 16, .int 0, .int 503], vm := .none },
  { cls := 6, slots := #[.null, .int 17, .int 0, .int 403], vm := .none },
  { cls := 6, slots := #[.null, .int 18, .int 0, .int 403], vm := .none },
  { cls := 6, slots := #[.null, .int 19, .int 0, .int 404], vm := .none },
  { cls := 6, slots := #[.null, .int 20, .int 0, .int 404], vm := .none },
  { cls := 6, slots := #[.null, .int 21, .int 0, .int 404], vm := .none },
  { cls := 6, slots := #[.null, .int 22, .int 0, .int 404], vm := .none },
  { cls := 6, slots := #[.null, .int 23, .int 0, .int 404], vm := .none },
  { cls := 6, slots := #[.null, .int 24, .int 0, .int 403], vm := .none },
  { cls := 6, slots := #[.null, .int 25, .int 0, .int 503], vm := .none },
  { cls := 6, slots := #[.null, .int 26, .int 0, .int 503], vm := .none },
  { cls := 6, slots := #[.null, .int 27, .int 0, .int 503], vm := .none },
  { cls := 6, slots := #[.null, .int 28, .int 0, .int 403], vm := .none },
  { cls := 6, slots := #[.null, .int 29, .int 0, .int 403], vm := .none },
  { cls := 6, slots := #[.null, .int 30, .int 0, .int 403], vm := .none },
  { cls := 6, slots := #[.null, .int 31, .int 0, .int 403], vm := .none }]
def classes : Array Class := #[k0, k1, k2, k3, k4, k5, k6, k7, k8, k9, k10, k11, k12]
def interned : List (Array UInt16 × Addr) := []
def slotsUsed : Nat := 161
def theMethod : MethodId := ⟨1, 1⟩
def args0 : Array Value := #[.int 5]
def aboutOver (below : List Frame) : State where
  vm := { classes := classes, interned := interned.toArray }
  heap := heap
  slotsUsed := slotsUsed
  threads := #[{ frames := .invoking theMethod args0 :: below }]
def below0 : List Frame := [.native { method := ⟨0, 0⟩, args := #[] }]
def about1 : State := aboutOver below0
def p0 : Program := .bare "" "" ""
def e0 : Env := launch0.env 0 0 0
theorem w_frames : about1.frames = Frame.invoking theMethod args0 :: below0 := rfl
set_option maxRecDepth 65536 in
theorem w_args : argsFit about1.vm theMethod args0 = true := by decide +kernel
set_option maxRecDepth 65536 in
theorem w_heap : heapFits about1 = true := by decide +kernel
set_option maxRecDepth 65536 in
theorem w_runnable : about1.curStatus? = some .runnable := by decide +kernel
set_option maxRecDepth 65536 in
theorem w_alone : about1.alone = true := by decide +kernel
set_option maxRecDepth 65536 in
theorem w_named : about1.methodNamed? x = some theMethod := by decide +kernel
set_option maxRecDepth 65536 in
theorem w_hears : about1.hears theMethod below0 = true := by decide +kernel
set_option maxRecDepth 65536 in
theorem w_ripe : about1.ripe theMethod args0 below0 = true := by decide +kernel
theorem w_running : about1.status = .running := rfl
set_option maxRecDepth 65536 in
theorem w_room : about1.hasRoom e0.platform room_1 = true :=
  launch0.hasRoom_least _ room_1 (by decide +kernel) (by decide +kernel) (by decide +kernel) (by decide +kernel) (by decide +kernel) (by decide +kernel)
theorem allAtoms_all (ts : List Jvm.Cond) (a : Array Jvm.Value) (st : Jvm.State) : (allAtoms ts).before a st = ts.all (fun c => c.before a st) := by
  induction ts with
  | nil => rfl
  | cons c t ih =>
    show (Jvm.Cond.and c (allAtoms t)).before a st = _
    rw [Jvm.Cond.before_and, ih, List.all_cons]
def words1 : List Jvm.Cond := Jvm.Cond.code x code maxLocals ret :: tables_1
/-- a 'code' word, met by the world's own term for the bytes: nothing is compared byte by byte -/
theorem code_word {y : MethodName} {bytes : ByteArray} {mx : Nat} {rt : Option FieldType} {a : Array Value} {s : State} {m : MethodId} {meth : Method} {c : Code} (h1 : s.methodNamed? y = some m) (h2 : s.vm.method? m = some meth) (h3 : meth.code = some c) (h4 : c.code = bytes)
    (h5 : (c.maxLocals == mx && c.exceptionTable.isEmpty && decide (c.maxStack ≤ mostOperands) && decide (meth.sig.returnType = rt) && !meth.locks && decide (parseMethodDescriptor y.desc = some meth.sig)) = true) : (Jvm.Cond.code y bytes mx rt).before a s = true := by
  simp only [Bool.and_eq_true, beq_iff_eq, Bool.not_eq_true', decide_eq_true_eq] at h5
  obtain ⟨⟨⟨⟨⟨g1, g2⟩, g3⟩, g4⟩, g5⟩, g6⟩ := h5
  simp [Cond.before, Cond.holds, Cond.value, h1, h2, h3, h4, g1, g2, g3, g4, g5, g6]
def isCode : Jvm.Cond → Bool
  | .code _ _ _ _ => true
  | _ => false
theorem all_split {L : List Jvm.Cond} {P : Jvm.Cond → Bool} (h1 : L.all (fun c => isCode c || P c) = true) (h2 : ∀ c ∈ L.filter isCode, P c = true) : L.all P = true := by
  refine List.all_eq_true.mpr fun c hc => ?_
  have h := List.all_eq_true.mp h1 c hc
  rcases Bool.eq_false_or_eq_true (isCode c) with hi | hi
  · exact h2 c (List.mem_filter.mpr ⟨hc, hi⟩)
  · simpa [hi] using h
set_option maxRecDepth 65536 in
theorem w_c0 : (Jvm.Cond.code x code maxLocals ret).before args0 about1 = true := code_word (m := ⟨1, 1⟩) (meth := k1m1) (c := k1c1) (by decide +kernel) rfl rfl rfl (by decide +kernel)
set_option maxRecDepth 65536 in
theorem w_c1 : (Jvm.Cond.code ({ cls := "com/example/hopguard/hopguard/core/Reason", name := "failsClosed", desc := "()Z" } : Jvm.MethodName) prog_7_method_6_code (1 : Nat) (Option.some Jvm.ClassFile.FieldType.boolean)).before args0 about1 = true := code_word (m := ⟨6, 1⟩) (meth := k6m1) (c := k6c1) (by decide +kernel) rfl rfl rfl (by decide +kernel)
set_option maxRecDepth 65536 in
theorem w_c2 : (Jvm.Cond.code ({ cls := "com/example/hopguard/hopguard/core/Reason", name := "status", desc := "()I" } : Jvm.MethodName) prog_7_method_5_code (1 : Nat) (Option.some Jvm.ClassFile.FieldType.int)).before args0 about1 = true := code_word (m := ⟨6, 0⟩) (meth := k6m0) (c := k6c0) (by decide +kernel) rfl rfl rfl (by decide +kernel)
def codes1 : List Jvm.Cond := [Jvm.Cond.code x code maxLocals ret, Jvm.Cond.code ({ cls := "com/example/hopguard/hopguard/core/Reason", name := "failsClosed", desc := "()Z" } : Jvm.MethodName) prog_7_method_6_code (1 : Nat) (Option.some Jvm.ClassFile.FieldType.boolean), Jvm.Cond.code ({ cls := "com/example/hopguard/hopguard/core/Reason", name := "status", desc := "()I" } : Jvm.MethodName) prog_7_method_5_code (1 : Nat) (Option.some Jvm.ClassFile.FieldType.int)]
set_option maxRecDepth 65536 in
theorem codes_eq : words1.filter isCode = codes1 := rfl
theorem w_codes : ∀ c ∈ words1.filter isCode, c.before args0 about1 = true := by
  rw [codes_eq]
  intro c hc
  simp only [codes1, List.mem_cons, List.not_mem_nil, or_false] at hc
  rcases hc with rfl | rfl | rfl
  · exact w_c0
  · exact w_c1
  · exact w_c2
set_option maxRecDepth 65536 in
theorem w_t1 : (words1.take 24).all (fun c => isCode c || c.before args0 about1) = true := by decide +kernel
set_option maxRecDepth 65536 in
theorem w_t2 : ((words1.drop 24).take 24).all (fun c => isCode c || c.before args0 about1) = true := by decide +kernel
set_option maxRecDepth 65536 in
theorem w_t3 : (((words1.drop 24).drop 24).take 24).all (fun c => isCode c || c.before args0 about1) = true := by decide +kernel
set_option maxRecDepth 65536 in
theorem w_t4 : (((words1.drop 24).drop 24).drop 24).all (fun c => isCode c || c.before args0 about1) = true := by decide +kernel
theorem w_tables : (allAtoms (Jvm.Cond.code x code maxLocals ret :: tables_1)).before args0 about1 = true := by
  rw [allAtoms_all]
  show words1.all (fun c => c.before args0 about1) = true
  refine all_split ?_ w_codes
  rw [← List.take_append_drop 24 words1, List.all_append, w_t1, ← List.take_append_drop 24 (words1.drop 24), List.all_append, w_t2, ← List.take_append_drop 24 ((words1.drop 24).drop 24), List.all_append, w_t3, w_t4]
  rfl
set_option maxRecDepth 65536 in
theorem w_case : (Jvm.Cond.and given_1 narrow_1).before args0 about1 = true := by decide +kernel
theorem w_applies : (headSpec (Jvm.Cond.code x code maxLocals ret :: tables_1) room_1).applies x e0.platform about1 = true :=
  (Spec.applies_iff w_frames).mpr ⟨w_running, w_runnable, w_alone, w_named, w_hears, w_ripe, w_room, w_tables⟩
theorem atStart : AtStart classFile x code maxLocals ret World_1 tables_1 room_1 Calls_1 rest_1 Pre_1 launch0 p0 e0 about1 theMethod args0 below0 :=
  ⟨lists_1, trivial, launch0.admits_env _ _ _, launch0.least_env, fairChoices_fair.cas, fairChoices_fair.clock, w_frames, w_args, w_heap, w_applies, trivial, trivial, w_case⟩
end start1
theorem witness_1 : WitnessClaimed_1 := ⟨start1.p0, start1.e0, start1.about1, start1.theMethod, start1.args0, start1.below0, start1.atStart⟩
end Jvm.Pilot.@@N@@
