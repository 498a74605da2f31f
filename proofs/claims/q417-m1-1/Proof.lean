import JvmDerived
import JvmDerived.Pilot.@@N@@Statement
import JvmDerived.Pilot.@@N@@Code
set_option linter.unusedVariables false
set_option linter.unusedSimpArgs false
namespace Jvm.RoadKit
open Sem ClassFile Op Lib Jvm.Stand Jvm.Free Jvm.LawKit
section New
variable {p : Program} {l : Launch} {e : Env} {R : Room} {s : State} {m : MethodId} {args : Array Value} {below : List Frame} {meth : Method} {c : Code} {T : State} {locs : List Loc} {cells slots : Nat}
theorem retI (X : Stand p l e R s m args below meth c T locs cells slots) (hx : p.tables.exec = Jvm.exec) {pc : Nat} {Ls : Array Slot} {z : Int32} {rest : List Value} (hret : meth.sig.returnType = some .int) (hd : decode c.code pc = .ok (.ireturn, 1)) {fs : List Frame}
    (hl : ∀ (f : JFrame) (acts : List Action), f.method = m → f.locked = none → f.entered = [] → (doReturn e (T.setTop f) acts (some (.int z))).1 = T.setFrames fs) : Steps p.tables e below (T.setTop (mkF m pc Ls (.int z :: rest))) (T.setFrames fs) := by
  have hm' : T.vm.method? m = some meth := X.method'
  have hn : narrow .int (.int z) = .int z := rfl
  show Steps p.tables e below (T.setTop { method := m, pc := pc, locals := Ls, stack := _ :: rest, locked := none }) _
  jvm_step X.here [X.here.top, hx, hd, hm', hret, hn]
  first | (intro acts; rw [hl _ acts rfl rfl rfl]) | rw [hl _ _ rfl rfl rfl]
  exact Steps.refl _
end New
end Jvm.RoadKit
namespace Jvm.Pilot.@@N@@
open Jvm Jvm.ClassFile Sem Op Lib Jvm.Free Jvm.Stand Jvm.LawKit Jvm.RoadKit Bundle Jvm.Pilot.@@N@@.Jvm.D
theorem own_cat {v : Value} (h : v.isRef = true) : v.category = 1 := by rcases ref_cases h with rfl | ⟨_, rfl⟩ <;> rfl
theorem own_ltL {x y : Int64} (h : x < y) : ifCond.holds .lt (lcmpW x y) = true ∧ ifCond.holds .ge (lcmpW x y) = false ∧ ifCond.holds .gt (lcmpW y x) = true ∧ ifCond.holds .le (lcmpW y x) = false :=
  ⟨(if0 _ _).trans (tlt ((lw_lt x y).mpr h)).1, (if0 _ _).trans (tlt ((lw_lt x y).mpr h)).2.1, (if0 _ _).trans (tlt ((lw_gt y x).mpr h)).2.2.1, (if0 _ _).trans (tlt ((lw_gt y x).mpr h)).2.2.2⟩
theorem own_fltL {x y : Int64} (h : ¬ x < y) : ifCond.holds .lt (lcmpW x y) = false ∧ ifCond.holds .ge (lcmpW x y) = true ∧ ifCond.holds .gt (lcmpW y x) = false ∧ ifCond.holds .le (lcmpW y x) = true :=
  ⟨(if0 _ _).trans (flt (fun q => h ((lw_lt x y).mp q))).1, (if0 _ _).trans (flt (fun q => h ((lw_lt x y).mp q))).2.1, (if0 _ _).trans (flt (fun q => h ((lw_gt y x).mp q))).2.2.1, (if0 _ _).trans (flt (fun q => h ((lw_gt y x).mp q))).2.2.2⟩
theorem own_eqL {x y : Int64} (h : x = y) : ifCond.holds .eq (lcmpW x y) = true ∧ ifCond.holds .ne (lcmpW x y) = false :=
  ⟨(if0 _ _).trans (teq ((lw_eq x y).mpr h)).1, (if0 _ _).trans (teq ((lw_eq x y).mpr h)).2⟩
theorem own_neL {x y : Int64} (h : ¬ x = y) : ifCond.holds .eq (lcmpW x y) = false ∧ ifCond.holds .ne (lcmpW x y) = true :=
  ⟨(if0 _ _).trans (feq (fun q => h ((lw_eq x y).mp q))).1, (if0 _ _).trans (feq (fun q => h ((lw_eq x y).mp q))).2⟩

theorem own_fin {c : Int32} {N : Nat} (h0 : 0 ≤ c.toInt) (h1 : c.toInt < N) (hN : N ≤ 2147483648) : ∃ n : Fin N, c = n.1.toInt32 := by
  refine ⟨⟨c.toInt.toNat, by omega⟩, ?_⟩
  apply Int32.toInt_inj.mp
  rw [len_toInt (by show c.toInt.toNat < 2 ^ 31; omega)]
  show c.toInt = ((c.toInt.toNat : Nat) : Int)
  omega
theorem own_lt {x y : Int32} (h : x < y) : x.toInt < y.toInt := Int32.lt_iff_toInt_lt.mp h
theorem own_nlt' {x y : Int32} (h : ¬ x < y) : y.toInt ≤ x.toInt := by rw [Int32.lt_iff_toInt_lt] at h; omega
theorem own_nlt {x y : Int32} {k : Int} (h : k ≤ x.toInt) (hk : y.toInt ≤ k) : ¬ x < y := by rw [Int32.lt_iff_toInt_lt]; omega
theorem own_gt {x y : Int32} {k : Int} (h : k ≤ x.toInt) (hk : y.toInt < k) : y < x := by rw [Int32.lt_iff_toInt_lt]; omega
theorem own_ne {x y : Int32} {k : Int} (h : k ≤ x.toInt) (hk : y.toInt < k) : ¬ x = y := by rintro rfl; omega
theorem own_gtn {x y : Int32} {k : Int} (h : x.toInt < k) (hk : k ≤ y.toInt) : x < y := by rw [Int32.lt_iff_toInt_lt]; omega
theorem own_nel {x y : Int32} {k : Int} (h : x.toInt < k) (hk : k ≤ y.toInt) : ¬ x = y := by rintro rfl; omega
theorem own_lt' {x y : Int32} (h : x < y) : x.toInt + 1 ≤ y.toInt := by have := own_lt h; omega
theorem own_le' {x y : Int32} (h : ¬ y < x) : x.toInt < y.toInt + 1 := by have := own_nlt' h; omega

def own_A (Z : State) (h : Heap) (a : Addr) (ty : FieldType) (n : Nat) (f : Nat → Value) : Prop := ∃ c : Cell, Arr Z h a c ty ∧ c.slots.size = n ∧ ∀ j, j < n → c.slots[j]? = some (f j)
section OwnA
variable {Z : State} {h h' : Heap} {a b : Addr} {ty : FieldType} {n sl : Nat} {f : Nat → Value} {v : Value} {ws : List Addr}
theorem own_A.lt (F : own_A Z h a ty n f) : a < h.size := by obtain ⟨c, A, -⟩ := F; exact A.lt
theorem own_A.ext (F : own_A Z h a ty n f) (E : Ext h h') : own_A Z h' a ty n f := by obtain ⟨c, A, r⟩ := F; exact ⟨c, A.ext E, r⟩
theorem own_A.other (F : own_A Z h b ty n f) (W : Wr h h' a sl v) (q : b ≠ a) : own_A Z h' b ty n f := by obtain ⟨c, A, r⟩ := F; exact ⟨c, A.other W q, r⟩
theorem own_A.keep (F : own_A Z h a ty n f) (K : Keep h h' ws) (q : a ∉ ws) : own_A Z h' a ty n f := by obtain ⟨c, A, r⟩ := F; exact ⟨c, ⟨K.2.1 a c A.1 q, A.2⟩, r⟩
theorem own_A.set (F : own_A Z h a ty n f) (W : Wr h h' a sl v) : own_A Z h' a ty n (fun i => if i = sl then v else f i) := by
  obtain ⟨c, A, S, H⟩ := F
  refine ⟨_, A.same W, (sz_set _ _ _).trans S, fun j hj => ?_⟩
  by_cases e : j = sl
  · subst e
    simp only [Cell.setSlot, if_true]
    rw [Array.getElem?_setIfInBounds_self_of_lt (by omega)]
  · simp only [Cell.setSlot, if_neg e]
    rw [Array.getElem?_setIfInBounds_ne (Ne.symm e)]
    exact H j hj
theorem own_A.eqv {g : Nat → Value} (F : own_A Z h a ty n f) (e : ∀ j, j < n → f j = g j) : own_A Z h a ty n g := by
  obtain ⟨c, A, S, H⟩ := F
  exact ⟨c, A, S, fun j hj => (e j hj) ▸ H j hj⟩
theorem own_A.setI {g : Nat → Int32} {x : Int32} (F : own_A Z h a ty n (fun i => .int (g i))) (W : Wr h h' a sl (.int x)) : own_A Z h' a ty n (fun i => .int (if i = sl then x else g i)) :=
  (F.set W).eqv fun j _ => by
    by_cases e : j = sl
    · simp only [if_pos e]
    · simp only [if_neg e]
theorem own_A.setJ {g : Nat → Int64} {x : Int64} (F : own_A Z h a ty n (fun i => .long (g i))) (W : Wr h h' a sl (.long x)) : own_A Z h' a ty n (fun i => .long (if i = sl then x else g i)) :=
  (F.set W).eqv fun j _ => by
    by_cases e : j = sl
    · simp only [if_pos e]
    · simp only [if_neg e]
theorem own_A.new {k : ClassId} {z : Int32} (A : Arr Z h a (newA k ty z) ty) : own_A Z h a ty z.toNatClampNeg (fun _ => defaultValue ty) :=
  ⟨_, A, sz_new _ _ _, fun j hj => by simp [newA, hj]⟩
end OwnA
theorem own_in {c : Cell} {n : Nat} {j : Int32} (S : c.slots.size = n) (h : 0 ≤ j.toInt ∧ j.toInt < n) : ¬ (j < 0 ∨ c.slots.size ≤ j.toNatClampNeg) := by
  rw [S, Int32.lt_iff_toInt_lt, show (0 : Int32).toInt = 0 from rfl]
  have e : j.toNatClampNeg = j.toInt.toNat := rfl
  rw [e]; omega
theorem own_ix {n : Nat} {j : Int32} (h : 0 ≤ j.toInt ∧ j.toInt < n) : j.toNatClampNeg < n := by
  have e : j.toNatClampNeg = j.toInt.toNat := rfl
  rw [e]; omega
theorem own_len {c : Cell} {n : Nat} {z : Int32} (S : c.slots.size = n) (h : n.toInt32 = z) : c.slots.size.toInt32 = z := by rw [S]; exact h
def own_O (Z : State) (h : Heap) (a : Addr) (C : String) : Prop := ∃ c : Cell, h[a]? = some c ∧ Ovr Z c.cls C
theorem own_O.ext {Z : State} {h h' : Heap} {a : Addr} {C : String} (F : own_O Z h a C) (E : Ext h h') : own_O Z h' a C := by obtain ⟨c, h1, o⟩ := F; exact ⟨c, E.2 _ _ h1, o⟩
theorem own_O.wr {Z : State} {h h' : Heap} {a b : Addr} {C : String} {sl : Nat} {v : Value} (F : own_O Z h a C) (W : Wr h h' b sl v) : own_O Z h' a C := by
  obtain ⟨c, h1, o⟩ := F
  obtain ⟨c', e1, e2, -⟩ := wr_at W h1
  exact ⟨c', e1, e2 ▸ o⟩
theorem own_sto {Z : State} {h : Heap} {a y : Addr} {cl : Cell} {ty : FieldType} {C : String} (A : Arr Z h a cl ty) (O : own_O Z h a C) (I : Ins Z h y C true) : Sto Z h a (.ref y) := by
  obtain ⟨c, h1, o⟩ := O
  cases A.1.symm.trans h1
  exact Sto.of A o I

theorem own_fld {args : Array Value} {s : State} {t : Term} {C n d : String} {k : Int32} {x : Addr} (ht : t.eval args s none [] s = some (.ref x)) (h : (Jvm.Cond.eq (.field t C n d) (.int k)).value args s none s [] = some true) : Fld s s.heap x C n d (.int k) := by
  obtain ⟨u, v, e1, e2, k1, k2⟩ := cmp_v (Or.inl h)
  cases (Term.int_eval k).symm.trans e2
  obtain ⟨z, rfl⟩ := k2
  have q := gotT (Cond.eq_ints e1 (Term.int_eval k)) h
  subst q
  exact Fld.start ((fld_at ht).symm.trans e1)

theorem own_sta_keep0 {Z : State} {h h' : Heap} {C n d : String} {v : Value} (F : Sta Z h C n d v) (K : Keep h h' []) : Sta Z h' C n d v := by
  obtain ⟨cf, i, k, f, st, cell, h1, h2, h3, h4, h5, r⟩ := F
  exact ⟨cf, i, k, f, st, cell, h1, h2, h3, h4, K.2.1 _ _ h5 nin0, r⟩
theorem own_size {args : Array Value} {s : State} {t : Term} {ty : FieldType} {n : Int32} {a : Addr} {c : Cell} (ht : t.eval args s none [] s = some (.ref a)) (A : Arr s s.heap a c ty) (h : (Jvm.Cond.eq (.length t) (.int n)).value args s none s [] = some true) : c.slots.size.toInt32 = n ∧ c.slots.size < 2 ^ 31 := by
  obtain ⟨u, v, e1, e2, k1, k2⟩ := cmp_v (Or.inl h)
  have ha := A.fin (Vm.Alike.refl _)
  by_cases hl : c.slots.size < 2 ^ 31
  · exact ⟨gotT (Cond.eq_ints (len_f ht ha hl) (Term.int_eval n)) h, hl⟩
  · simp [Term.eval, ht, ha, hl] at e1
theorem own_elem {args : Array Value} {s : State} {t u : Term} {ty : FieldType} {j : Int32} {a y : Addr} {c : Cell} (ht : t.eval args s none [] s = some (.ref a)) (A : Arr s s.heap a c ty) (hu : u.eval args s none [] s = some (.ref y)) (h : (Jvm.Cond.eq (.elem t (.int j)) u).value args s none s [] = some true) : c.slots[j.toNatClampNeg]? = some (.ref y) := by
  obtain ⟨x, z, e1, e2, k1, k2⟩ := cmp_v (Or.inl h)
  cases hu.symm.trans e2
  have q := (elem_in e1 ht (Term.int_eval j) A.1).2
  have w := gotT (eq_R e1 hu k2.2 rfl) h
  rw [← w]; exact q


def own_kt (p0 : Int32) (a b : Addr) : Value := if p0 = (1 : Int32) then .ref a else if p0 = (2 : Int32) then .ref b else .null
theorem own_kt_ref (p0 : Int32) (a b : Addr) : (own_kt p0 a b).isRef = true := by
  unfold own_kt
  split
  · rfl
  · split <;> rfl

theorem d2_0 : decode prog_10_method_1_code 0 = .ok (.getstatic 10, 3) := by decide +kernel
theorem d2_3 : decode prog_10_method_1_code 3 = .ok (.invokevirtual 14, 3) := by decide +kernel
theorem d2_6 : decode prog_10_method_1_code 6 = .ok (.checkcast 15, 3) := by decide +kernel
theorem d2_9 : decode prog_10_method_1_code 9 = .ok (.areturn, 1) := by decide +kernel
theorem pn_0 : plainName "com/example/keyclasp/keyclasp/core/KeyType" = true := by first | (simp [plainName, overriddenIn]; done) | decide +kernel
theorem ef_2 (m : MethodId)  : entryFrame m #[] 0 = mkF m 0 #[] [] := by first | (simp [entryFrame, mkF, argsToLocals, Value.category]; done) | rfl

def Q2 (Z : State)  (a_VALUES aRABIN aEC_P256 : Addr) (h0 : Heap) (n0 : Nat) (v : Option Value) (h : Heap) (L : List Loc) : Prop := ∃ (b : Addr), v = some (.ref b) ∧ Fr n0 L ∧ Keep h0 h [] ∧ h0.size ≤ b ∧ (own_A Z h b (.object "com/example/keyclasp/keyclasp/core/KeyType") 2 (fun i => if i = 0 then .ref aRABIN else .ref aEC_P256))
set_option maxRecDepth 65536 in
set_option maxHeartbeats 40000000 in
theorem rm2 (l : Launch) (Z : State) (a0 : Array Value) (hw : ∀ d ∈ tables_1, d.before a0 Z = true) (ws : List Jvm.Cond)  (a_VALUES aRABIN aEC_P256 : Addr) (h0 : Heap) (n0 : Nat) (Z0 : n0 ≤ h0.size) (S__VALUES : Sta Z h0 "com/example/keyclasp/keyclasp/core/KeyType" "$VALUES" "[Lcom/example/keyclasp/keyclasp/core/KeyType;" (.ref a_VALUES)) (A_a_VALUES : own_A Z h0 a_VALUES (.object "com/example/keyclasp/keyclasp/core/KeyType") 2 (fun i => if i = 0 then .ref aRABIN else .ref aEC_P256)) (E_a_VALUES : Exa Z h0 a_VALUES "[Lcom/example/keyclasp/keyclasp/core/KeyType;") :
    MetFree l (⟨"com/example/keyclasp/keyclasp/core/KeyType", "values", "()[Lcom/example/keyclasp/keyclasp/core/KeyType;"⟩ : MethodName) (head1 (Jvm.Cond.code (⟨"com/example/keyclasp/keyclasp/core/KeyType", "values", "()[Lcom/example/keyclasp/keyclasp/core/KeyType;"⟩ : MethodName) prog_10_method_1_code 0 (some (.array (.object "com/example/keyclasp/keyclasp/core/KeyType"))) :: ws) ({ frames := 1, cells := 1, slots := 2, locals := 14 } : Room)) (fun a U => a = #[] ∧ Z.Warmed39 U.vm ∧ U.heap = h0) (fun _ _ _ _ _ => True) (fun _ U o U' => ∃ v L, o = .returned v ∧ Q2 Z a_VALUES aRABIN aEC_P256 h0 n0 v U'.heap L ∧ FrameEnd U o U' L ({ frames := 1, cells := 1, slots := 2, locals := 14 } : Room).cells ({ frames := 1, cells := 1, slots := 2, locals := 14 } : Room).slots) := by
  refine MetFree.of_bodySF (plainFor_of_name pn_0) hisR ?_
  intro p e s m args below meth c s₁ Bd hml0 hP hK
  obtain ⟨rfl, hZ, hh⟩ := hP
  have hx := Bd.exec
  have hby := Bd.bytes
  have hml : c.maxLocals = 0 := hml0
  have hown : s.vm.findClass "com/example/keyclasp/keyclasp/core/KeyType" = some m.cls := findClass_of_methodNamed Bd.named
  have hnm := (name_of_methodNamed Bd.named Bd.method).1
  have X0 : Stand p l e ({ frames := 1, cells := 1, slots := 2, locals := 14 } : Room) s m #[] below meth c s₁ [] 0 0 := Stand.of_body Bd
  have e0 : s₁.heap = h0 := by rw [← hh, Bd.state]; rfl
  have N0 := Fr.nil n0
  have pre0 : ∀ t, Steps p.tables e below (s₁.setTop (mkF m 0 #[] [])) t → Steps p.tables e below (s₁.setTop (entryFrame m #[] 0)) t := fun t k => castTop (ef_2 m ) k
  obtain ⟨T1, X1, e1, st1⟩ := getS2 X0 hx hZ hown (host := "") (Or.inl (hw _ (List.mem_of_getElem? (i := 7) rfl))) Via.refl e0 S__VALUES (g := (mkF m 0 #[] [])) rfl (hb hby d2_0)
  have qa2 := A_a_VALUES
  obtain ⟨c2, Ar2, Sz2, H2⟩ := qa2
  obtain ⟨T3, h3, X3, e3, Ex3, Ne3, Nx3, st3⟩ := cloneA X1 hx hZ hown (hw _ (List.mem_of_getElem? (i := 9) rfl)) (hw _ (List.mem_of_getElem? (i := 10) rfl)) (hw _ (List.mem_of_getElem? (i := 14) rfl)) (hw _ (List.mem_of_getElem? (i := 12) rfl)) (hw _ (List.mem_of_getElem? (i := 13) rfl)) (hw _ (List.mem_of_getElem? (i := 15) rfl)) e1 Ar2 E_a_VALUES (fitC_of Ar2 (fun i hi v hv => by rw [Sz2] at hi; rw [H2 i hi] at hv; cases hv; exact (fun i (_ : i < 2) => show fits _ ((fun i => if i = 0 then .ref aRABIN else .ref aEC_P256) i) = true by dsimp only; split <;> rfl) i hi)) (g := (mkF m 3 #[] [(.ref a_VALUES)])) rfl (by rw [hml]; rfl) rfl (hb hby d2_3) (by decide) (W := 0) (by show 2 * 0 + _ ≤ _; exact Nat.le_of_eq rfl) (by decide) (cap := 2) (Nat.le_of_eq Sz2) (by decide) (by decide)
  obtain ⟨b3, g3⟩ : ∃ z, z = h0.size := ⟨_, rfl⟩
  rw [← g3] at Ne3 Nx3 st3
  have ne_a_VALUES_b3 : a_VALUES ≠ b3 := by rw [g3]; exact Nat.ne_of_lt (A_a_VALUES).lt
  have g_b3 : n0 ≤ b3 := Nat.le_trans (Nat.le_trans Z0 (Nat.le_refl _)) (Nat.le_of_eq g3.symm)
  have sz_b3 : h0.size ≤ b3 := Nat.le_trans (Nat.le_refl _) (Nat.le_of_eq g3.symm)
  have S__VALUES_4 : Sta Z h3 "com/example/keyclasp/keyclasp/core/KeyType" "$VALUES" "[Lcom/example/keyclasp/keyclasp/core/KeyType;" (.ref a_VALUES) := (S__VALUES).ext Ex3
  have A_a_VALUES_4 : own_A Z h3 a_VALUES (.object "com/example/keyclasp/keyclasp/core/KeyType") 2 (fun i => if i = 0 then .ref aRABIN else .ref aEC_P256) := (A_a_VALUES).ext Ex3
  have E_a_VALUES_4 : Exa Z h3 a_VALUES "[Lcom/example/keyclasp/keyclasp/core/KeyType;" := (E_a_VALUES).ext Ex3
  have SZ5 : h0.size ≤ h3.size := Nat.le_trans (Nat.le_refl _) Ex3.1
  have ZZ5 : n0 ≤ h3.size := Nat.le_trans Z0 SZ5
  have K6 : Keep h0 h3 [] := ((Keep.refl h0 [])).ext Ex3
  have A_b3_3 : own_A Z h3 b3 (.object "com/example/keyclasp/keyclasp/core/KeyType") 2 (fun i => if i = 0 then .ref aRABIN else .ref aEC_P256) := ⟨_, Ne3, Sz2, H2⟩
  obtain ⟨T7, X7, e7, st7⟩ := castY X3 hx hZ hown (hw _ (List.mem_of_getElem? (i := 19) rfl)) e3 (Ins.self Nx3) (g := (mkF m 6 #[] [(.ref b3)])) rfl rfl (hb hby d2_6)
  have pre8 : ∀ t, Steps p.tables e below (T7.setTop (mkF m 9 #[] [(.ref b3)])) t → Steps p.tables e below (s₁.setTop (entryFrame m #[] 0)) t := fun t k => pre0 t (by
    show Steps p.tables e below (s₁.setTop (mkF m 0 #[] [])) _
    refine st1 _ ?_
    show Steps p.tables e below (T1.setTop (mkF m 3 #[] [(.ref a_VALUES)])) _
    refine st3 _ ?_
    show Steps p.tables e below (T3.setTop (mkF m 6 #[] [(.ref b3)])) _
    refine st7 _ ?_
    show Steps p.tables e below (T7.setTop (mkF m 9 #[] [(.ref b3)])) _
    exact k)
  obtain ⟨fs, hr, hrun, hended, hW, hsame⟩ := X7.leave (v := some (.ref b3)) (fun h => by rw [Bd.returns] at h; cases h)
  refine ⟨_, _, pre8 _ ?_, hrun, hended, _, _, rfl, ?_, ⟨_, rfl⟩, hW, hsame.mono (by decide) (by decide)⟩
  · exact retOut X7 hx Bd.returns rfl (Or.inr (Or.inr (Or.inr (Or.inr ⟨rfl, rfl, rfl⟩)))) (hb hby d2_9) hr
  · show Q2 Z a_VALUES aRABIN aEC_P256 h0 n0 _ T7.heap _
    rw [e7]
    exact ⟨b3, rfl, N0, K6, sz_b3, A_b3_3⟩
theorem d1_0 : decode prog_10_method_4_code 0 = .ok (.invokestatic 40, 3) := by decide +kernel
theorem d1_3 : decode prog_10_method_4_code 3 = .ok (.astore_n 1, 1) := by decide +kernel
theorem d1_4 : decode prog_10_method_4_code 4 = .ok (.aload_n 1, 1) := by decide +kernel
theorem d1_5 : decode prog_10_method_4_code 5 = .ok (.arraylength, 1) := by decide +kernel
theorem d1_6 : decode prog_10_method_4_code 6 = .ok (.istore_n 2, 1) := by decide +kernel
theorem d1_7 : decode prog_10_method_4_code 7 = .ok (.iconst 0, 1) := by decide +kernel
theorem d1_8 : decode prog_10_method_4_code 8 = .ok (.istore_n 3, 1) := by decide +kernel
theorem d1_9 : decode prog_10_method_4_code 9 = .ok (.iload_n 3, 1) := by decide +kernel
theorem d1_10 : decode prog_10_method_4_code 10 = .ok (.iload_n 2, 1) := by decide +kernel
theorem d1_11 : decode prog_10_method_4_code 11 = .ok (.if_icmp .ge 26, 3) := by decide +kernel
theorem d1_14 : decode prog_10_method_4_code 14 = .ok (.aload_n 1, 1) := by decide +kernel
theorem d1_15 : decode prog_10_method_4_code 15 = .ok (.iload_n 3, 1) := by decide +kernel
theorem d1_16 : decode prog_10_method_4_code 16 = .ok (.aaload, 1) := by decide +kernel
theorem d1_17 : decode prog_10_method_4_code 17 = .ok (.astore 4, 2) := by decide +kernel
theorem d1_19 : decode prog_10_method_4_code 19 = .ok (.aload 4, 2) := by decide +kernel
theorem d1_21 : decode prog_10_method_4_code 21 = .ok (.getfield 29, 3) := by decide +kernel
theorem d1_24 : decode prog_10_method_4_code 24 = .ok (.iload_n 0, 1) := by decide +kernel
theorem d1_25 : decode prog_10_method_4_code 25 = .ok (.if_icmp .ne 6, 3) := by decide +kernel
theorem d1_28 : decode prog_10_method_4_code 28 = .ok (.aload 4, 2) := by decide +kernel
theorem d1_30 : decode prog_10_method_4_code 30 = .ok (.areturn, 1) := by decide +kernel
theorem d1_31 : decode prog_10_method_4_code 31 = .ok (.iinc 3 1, 3) := by decide +kernel
theorem d1_34 : decode prog_10_method_4_code 34 = .ok (.goto (-25), 3) := by decide +kernel
theorem d1_37 : decode prog_10_method_4_code 37 = .ok (.aconst_null, 1) := by decide +kernel
theorem d1_38 : decode prog_10_method_4_code 38 = .ok (.areturn, 1) := by decide +kernel
theorem pd_0 : parseMethodDescriptor "()[Lcom/example/keyclasp/keyclasp/core/KeyType;" = some ⟨[], some (.array (.object "com/example/keyclasp/keyclasp/core/KeyType"))⟩ := by decide +kernel
theorem ef_1 (m : MethodId) (p0 : Int32) : entryFrame m #[(.int p0)] 5 = mkF m 0 #[.val (.int p0), .unset, .unset, .unset, .unset] [] := by first | (simp [entryFrame, mkF, argsToLocals, Value.category]; done) | rfl

def Q1 (Z : State) (p0 : Int32) (a_VALUES aRABIN aEC_P256 : Addr) (h0 : Heap) (n0 : Nat) (v : Option Value) (h : Heap) (L : List Loc) : Prop := v = some (own_kt p0 aRABIN aEC_P256) ∧ Fr n0 L ∧ Keep h0 h []
set_option maxRecDepth 65536 in
set_option maxHeartbeats 40000000 in
theorem rm1 (l : Launch) (Z : State) (a0 : Array Value) (hw : ∀ d ∈ tables_1, d.before a0 Z = true) (ws : List Jvm.Cond) (p0 : Int32) (a_VALUES aRABIN aEC_P256 : Addr) (h0 : Heap) (n0 : Nat) (Z0 : n0 ≤ h0.size) (S__VALUES : Sta Z h0 "com/example/keyclasp/keyclasp/core/KeyType" "$VALUES" "[Lcom/example/keyclasp/keyclasp/core/KeyType;" (.ref a_VALUES)) (A_a_VALUES : own_A Z h0 a_VALUES (.object "com/example/keyclasp/keyclasp/core/KeyType") 2 (fun i => if i = 0 then .ref aRABIN else .ref aEC_P256)) (E_a_VALUES : Exa Z h0 a_VALUES "[Lcom/example/keyclasp/keyclasp/core/KeyType;") (F_code_aRABIN : Fld Z h0 aRABIN "com/example/keyclasp/keyclasp/core/KeyType" "code" "I" (.int (1 : Int32))) (F_code_aEC_P256 : Fld Z h0 aEC_P256 "com/example/keyclasp/keyclasp/core/KeyType" "code" "I" (.int (2 : Int32))) :
    MetFree l (⟨"com/example/keyclasp/keyclasp/core/KeyType", "ofCode", "(I)Lcom/example/keyclasp/keyclasp/core/KeyType;"⟩ : MethodName) (head1 (Jvm.Cond.code (⟨"com/example/keyclasp/keyclasp/core/KeyType", "ofCode", "(I)Lcom/example/keyclasp/keyclasp/core/KeyType;"⟩ : MethodName) prog_10_method_4_code 5 (some (.object "com/example/keyclasp/keyclasp/core/KeyType")) :: ws) ({ frames := 2, cells := 1, slots := 2, locals := 25 } : Room)) (fun a U => a = #[(.int p0)] ∧ Z.Warmed39 U.vm ∧ U.heap = h0) (fun _ _ _ _ _ => True) (fun _ U o U' => ∃ v L, o = .returned v ∧ Q1 Z p0 a_VALUES aRABIN aEC_P256 h0 n0 v U'.heap L ∧ FrameEnd U o U' L ({ frames := 2, cells := 1, slots := 2, locals := 25 } : Room).cells ({ frames := 2, cells := 1, slots := 2, locals := 25 } : Room).slots) := by
  refine MetFree.of_bodySF (plainFor_of_name pn_0) hisR ?_
  intro p e s m args below meth c s₁ Bd hml0 hP hK
  obtain ⟨rfl, hZ, hh⟩ := hP
  have hx := Bd.exec
  have hby := Bd.bytes
  have hml : c.maxLocals = 5 := hml0
  have hown : s.vm.findClass "com/example/keyclasp/keyclasp/core/KeyType" = some m.cls := findClass_of_methodNamed Bd.named
  have hnm := (name_of_methodNamed Bd.named Bd.method).1
  have X0 : Stand p l e ({ frames := 2, cells := 1, slots := 2, locals := 25 } : Room) s m #[(.int p0)] below meth c s₁ [] 0 0 := Stand.of_body Bd
  have e0 : s₁.heap = h0 := by rw [← hh, Bd.state]; rfl
  have N0 := Fr.nil n0
  have pre0 : ∀ t, Steps p.tables e below (s₁.setTop (mkF m 0 #[.val (.int p0), .unset, .unset, .unset, .unset] [])) t → Steps p.tables e below (s₁.setTop (entryFrame m #[(.int p0)] 5)) t := fun t k => castTop (ef_1 m p0) k
  obtain ⟨_, _, ⟨T1, L1, k1, n1⟩, -, X1, ⟨Lc1, hQ1, l1, y1, z1⟩, st1⟩ := Jvm.LawKit.callS X0 hx (y := (⟨"com/example/keyclasp/keyclasp/core/KeyType", "values", "()[Lcom/example/keyclasp/keyclasp/core/KeyType;"⟩ : MethodName)) hown (mvT hZ (hw _ (List.mem_of_getElem? (i := 4) rfl))) (mvT hZ (hw _ (List.mem_of_getElem? (i := 5) rfl))) (mvT hZ (hw _ (List.mem_of_getElem? (i := 2) rfl))) (mvT hZ (hw _ (List.mem_of_getElem? (i := 6) rfl))) (by decide) (backOf (W := 0) (rm2 l Z a0 hw []  a_VALUES aRABIN aEC_P256 h0 n0 Z0 S__VALUES A_a_VALUES E_a_VALUES) hZ (hw _ (List.mem_of_getElem? (i := 6) rfl)) (hw _ (List.mem_of_getElem? (i := 2) rfl)) (by decide) (by decide)) (g := (mkF m 0 #[.val (.int p0), .unset, .unset, .unset, .unset] [])) rfl (by rw [hml]; rfl) (argsL := []) (rest := []) (lenOf pd_0 rfl) rfl (by show 2 * 0 + _ ≤ _; exact Nat.le_of_eq rfl) (hb hby d1_0) (fun _ _ => ⟨rfl, e0, (by decide : 0 + 1 ≤ _), (by decide : 0 + 2 ≤ _)⟩)
  dsimp only [Pt.U, Pt.locs, Pt.cells, Pt.slots] at X1 l1 y1 z1 st1 hQ1
  subst l1 y1 z1
  obtain ⟨b_1, rfl, N1q, Kc1, sz_b_1, P1_0⟩ := hQ1
  have N1 := Fr.app N0 N1q
  have S__VALUES_2 : Sta Z T1.heap "com/example/keyclasp/keyclasp/core/KeyType" "$VALUES" "[Lcom/example/keyclasp/keyclasp/core/KeyType;" (.ref a_VALUES) := own_sta_keep0 S__VALUES Kc1
  have A_a_VALUES_2 : own_A Z T1.heap a_VALUES (.object "com/example/keyclasp/keyclasp/core/KeyType") 2 (fun i => if i = 0 then .ref aRABIN else .ref aEC_P256) := (A_a_VALUES).keep Kc1 nin0
  have E_a_VALUES_2 : Exa Z T1.heap a_VALUES "[Lcom/example/keyclasp/keyclasp/core/KeyType;" := (E_a_VALUES).keep Kc1
  have F_code_aRABIN_2 : Fld Z T1.heap aRABIN "com/example/keyclasp/keyclasp/core/KeyType" "code" "I" (.int (1 : Int32)) := (F_code_aRABIN).keep Kc1 nin0
  have F_code_aEC_P256_2 : Fld Z T1.heap aEC_P256 "com/example/keyclasp/keyclasp/core/KeyType" "code" "I" (.int (2 : Int32)) := (F_code_aEC_P256).keep Kc1 nin0
  have SZ3 : h0.size ≤ T1.heap.size := Nat.le_trans (Nat.le_refl _) Kc1.1
  have ZZ3 : n0 ≤ T1.heap.size := Nat.le_trans Z0 SZ3
  have K4 : Keep h0 T1.heap [] := ((Keep.refl h0 [])).trans Kc1 all0
  have ne_a_VALUES_b_1 : a_VALUES ≠ b_1 := Nat.ne_of_lt (Nat.lt_of_lt_of_le (A_a_VALUES).lt sz_b_1)
  have ne_aRABIN_b_1 : aRABIN ≠ b_1 := Nat.ne_of_lt (Nat.lt_of_lt_of_le (F_code_aRABIN).lt sz_b_1)
  have ne_aEC_P256_b_1 : aEC_P256 ≠ b_1 := Nat.ne_of_lt (Nat.lt_of_lt_of_le (F_code_aEC_P256).lt sz_b_1)
  have g_b_1 : n0 ≤ b_1 := Nat.le_trans (Nat.le_trans Z0 (Nat.le_refl _)) sz_b_1
  have szz_b_1 : h0.size ≤ b_1 := Nat.le_trans (Nat.le_refl _) sz_b_1
  have qa5 := P1_0
  obtain ⟨c5, Ar5, Sz5, H5⟩ := qa5
  have qa6 := P1_0
  obtain ⟨c6, Ar6, Sz6, H6⟩ := qa6
  have hi7 : 0 ≤ ((0 : Int32) : Int32).toInt ∧ ((0 : Int32) : Int32).toInt < (2 : Nat) := (by decide)
  have hl7 : c6.slots[((0 : Int32) : Int32).toNatClampNeg]? = some (.ref aRABIN) := H6 _ (own_ix hi7)
  obtain ⟨T8, X8, e8, st8⟩ := getF X1 hx hZ hown (host := "") (Or.inl (hw _ (List.mem_of_getElem? (i := 21) rfl))) Via.refl rfl F_code_aRABIN_2 (g := (mkF m 21 #[.val (.int p0), .val (.ref b_1), .val (.int (2 : Int32)), .val (.int (0 : Int32)), .val (.ref aRABIN)] [(.ref aRABIN)])) rfl rfl (hb hby d1_21)
  have pre9 : ∀ t, Steps p.tables e below (T8.setTop (mkF m 25 #[.val (.int p0), .val (.ref b_1), .val (.int (2 : Int32)), .val (.int (0 : Int32)), .val (.ref aRABIN)] [(.int p0), (.int (1 : Int32))])) t → Steps p.tables e below (s₁.setTop (entryFrame m #[(.int p0)] 5)) t := fun t k => pre0 t (by
    show Steps p.tables e below (s₁.setTop (mkF m 0 #[.val (.int p0), .unset, .unset, .unset, .unset] [])) _
    refine st1 _ ?_
    show Steps p.tables e below (T1.setTop (mkF m 3 #[.val (.int p0), .unset, .unset, .unset, .unset] [(.ref b_1)])) _
    refine XS.astoreN X1.here hx rfl (hb hby d1_3) rfl rfl (l' := #[.val (.int p0), .val (.ref b_1), .unset, .unset, .unset]) rfl ?_
    show Steps p.tables e below (T1.setTop (mkF m 4 #[.val (.int p0), .val (.ref b_1), .unset, .unset, .unset] [])) _
    refine XS.aloadN X1.here hx rfl (hb hby d1_4) rfl rfl ?_
    show Steps p.tables e below (T1.setTop (mkF m 5 #[.val (.int p0), .val (.ref b_1), .unset, .unset, .unset] [(.ref b_1)])) _
    refine X1.arraylength hx Ar5.1 (State.isArrayOf_alike hZ.alike Ar5.2.1) (g := (mkF m 5 #[.val (.int p0), .val (.ref b_1), .unset, .unset, .unset] [(.ref b_1)])) rfl rfl (hb hby d1_5) _ ?_
    rw [own_len Sz5 (z := (2 : Int32)) rfl]
    show Steps p.tables e below (T1.setTop (mkF m 6 #[.val (.int p0), .val (.ref b_1), .unset, .unset, .unset] [(.int (2 : Int32))])) _
    refine XS.istoreN X1.here hx rfl (hb hby d1_6) rfl (l' := #[.val (.int p0), .val (.ref b_1), .val (.int (2 : Int32)), .unset, .unset]) rfl ?_
    show Steps p.tables e below (T1.setTop (mkF m 7 #[.val (.int p0), .val (.ref b_1), .val (.int (2 : Int32)), .unset, .unset] [])) _
    refine XS.iconst X1.here hx rfl (hb hby d1_7) ?_
    show Steps p.tables e below (T1.setTop (mkF m 8 #[.val (.int p0), .val (.ref b_1), .val (.int (2 : Int32)), .unset, .unset] [(.int (0 : Int32))])) _
    refine XS.istoreN X1.here hx rfl (hb hby d1_8) rfl (l' := #[.val (.int p0), .val (.ref b_1), .val (.int (2 : Int32)), .val (.int (0 : Int32)), .unset]) rfl ?_
    show Steps p.tables e below (T1.setTop (mkF m 9 #[.val (.int p0), .val (.ref b_1), .val (.int (2 : Int32)), .val (.int (0 : Int32)), .unset] [])) _
    refine XS.iloadN X1.here hx rfl (hb hby d1_9) rfl ?_
    show Steps p.tables e below (T1.setTop (mkF m 10 #[.val (.int p0), .val (.ref b_1), .val (.int (2 : Int32)), .val (.int (0 : Int32)), .unset] [(.int (0 : Int32))])) _
    refine XS.iloadN X1.here hx rfl (hb hby d1_10) rfl ?_
    show Steps p.tables e below (T1.setTop (mkF m 11 #[.val (.int p0), .val (.ref b_1), .val (.int (2 : Int32)), .val (.int (0 : Int32)), .unset] [(.int (2 : Int32)), (.int (0 : Int32))])) _
    refine XS.icmpNo X1.here hx rfl (hb hby d1_11) rfl (tlt (show (0 : Int32) < (2 : Int32) by decide)).2.1 ?_
    show Steps p.tables e below (T1.setTop (mkF m 14 #[.val (.int p0), .val (.ref b_1), .val (.int (2 : Int32)), .val (.int (0 : Int32)), .unset] [])) _
    refine XS.aloadN X1.here hx rfl (hb hby d1_14) rfl rfl ?_
    show Steps p.tables e below (T1.setTop (mkF m 15 #[.val (.int p0), .val (.ref b_1), .val (.int (2 : Int32)), .val (.int (0 : Int32)), .unset] [(.ref b_1)])) _
    refine XS.iloadN X1.here hx rfl (hb hby d1_15) rfl ?_
    show Steps p.tables e below (T1.setTop (mkF m 16 #[.val (.int p0), .val (.ref b_1), .val (.int (2 : Int32)), .val (.int (0 : Int32)), .unset] [(.int (0 : Int32)), (.ref b_1)])) _
    refine X1.aaload hx (j := (0 : Int32)) (v := (.ref aRABIN)) Ar6.1 (State.isArrayOf_alike hZ.alike Ar6.2.1) rfl Ar6.2.2 (own_in Sz6 hi7) hl7 (g := (mkF m 16 #[.val (.int p0), .val (.ref b_1), .val (.int (2 : Int32)), .val (.int (0 : Int32)), .unset] [(.int (0 : Int32)), (.ref b_1)])) rfl rfl (hb hby d1_16) _ ?_
    show Steps p.tables e below (T1.setTop (mkF m 17 #[.val (.int p0), .val (.ref b_1), .val (.int (2 : Int32)), .val (.int (0 : Int32)), .unset] [(.ref aRABIN)])) _
    refine XS.astore X1.here hx rfl (hb hby d1_17) rfl rfl (l' := #[.val (.int p0), .val (.ref b_1), .val (.int (2 : Int32)), .val (.int (0 : Int32)), .val (.ref aRABIN)]) rfl ?_
    show Steps p.tables e below (T1.setTop (mkF m 19 #[.val (.int p0), .val (.ref b_1), .val (.int (2 : Int32)), .val (.int (0 : Int32)), .val (.ref aRABIN)] [])) _
    refine XS.aload X1.here hx rfl (hb hby d1_19) rfl rfl ?_
    show Steps p.tables e below (T1.setTop (mkF m 21 #[.val (.int p0), .val (.ref b_1), .val (.int (2 : Int32)), .val (.int (0 : Int32)), .val (.ref aRABIN)] [(.ref aRABIN)])) _
    refine st8 _ ?_
    show Steps p.tables e below (T8.setTop (mkF m 24 #[.val (.int p0), .val (.ref b_1), .val (.int (2 : Int32)), .val (.int (0 : Int32)), .val (.ref aRABIN)] [(.int (1 : Int32))])) _
    refine XS.iloadN X8.here hx rfl (hb hby d1_24) rfl ?_
    show Steps p.tables e below (T8.setTop (mkF m 25 #[.val (.int p0), .val (.ref b_1), .val (.int (2 : Int32)), .val (.int (0 : Int32)), .val (.ref aRABIN)] [(.int p0), (.int (1 : Int32))])) _
    exact k)
  by_cases hs10 : (1 : Int32) = p0
  · have pre11 : ∀ t, Steps p.tables e below (T8.setTop (mkF m 30 #[.val (.int p0), .val (.ref b_1), .val (.int (2 : Int32)), .val (.int (0 : Int32)), .val (.ref aRABIN)] [(.ref aRABIN)])) t → Steps p.tables e below (s₁.setTop (entryFrame m #[(.int p0)] 5)) t := fun t k => pre9 t (by
      refine XS.icmpNo X8.here hx rfl (hb hby d1_25) rfl (teq hs10).2 ?_
      show Steps p.tables e below (T8.setTop (mkF m 28 #[.val (.int p0), .val (.ref b_1), .val (.int (2 : Int32)), .val (.int (0 : Int32)), .val (.ref aRABIN)] [])) _
      refine XS.aload X8.here hx rfl (hb hby d1_28) rfl rfl ?_
      show Steps p.tables e below (T8.setTop (mkF m 30 #[.val (.int p0), .val (.ref b_1), .val (.int (2 : Int32)), .val (.int (0 : Int32)), .val (.ref aRABIN)] [(.ref aRABIN)])) _
      exact k)
    obtain ⟨fs, hr, hrun, hended, hW, hsame⟩ := X8.leave (v := some (.ref aRABIN)) (fun h => by rw [Bd.returns] at h; cases h)
    refine ⟨_, _, pre11 _ ?_, hrun, hended, _, _, rfl, ?_, ⟨_, rfl⟩, hW, hsame.mono (by decide) (by decide)⟩
    · exact retOut X8 hx Bd.returns rfl (Or.inr (Or.inr (Or.inr (Or.inr ⟨rfl, rfl, rfl⟩)))) (hb hby d1_30) hr
    · show Q1 Z p0 a_VALUES aRABIN aEC_P256 h0 n0 _ T8.heap _
      rw [e8]
      exact ⟨congrArg some (by unfold own_kt; rw [if_pos hs10.symm]), N1, K4⟩
  · have qa12 := P1_0
    obtain ⟨c12, Ar12, Sz12, H12⟩ := qa12
    have hi13 : 0 ≤ ((1 : Int32) : Int32).toInt ∧ ((1 : Int32) : Int32).toInt < (2 : Nat) := (by decide)
    have hl13 : c12.slots[((1 : Int32) : Int32).toNatClampNeg]? = some (.ref aEC_P256) := H12 _ (own_ix hi13)
    obtain ⟨T14, X14, e14, st14⟩ := getF X8 hx hZ hown (host := "") (Or.inl (hw _ (List.mem_of_getElem? (i := 21) rfl))) Via.refl e8 F_code_aEC_P256_2 (g := (mkF m 21 #[.val (.int p0), .val (.ref b_1), .val (.int (2 : Int32)), .val (.int (1 : Int32)), .val (.ref aEC_P256)] [(.ref aEC_P256)])) rfl rfl (hb hby d1_21)
    have pre15 : ∀ t, Steps p.tables e below (T14.setTop (mkF m 25 #[.val (.int p0), .val (.ref b_1), .val (.int (2 : Int32)), .val (.int (1 : Int32)), .val (.ref aEC_P256)] [(.int p0), (.int (2 : Int32))])) t → Steps p.tables e below (s₁.setTop (entryFrame m #[(.int p0)] 5)) t := fun t k => pre9 t (by
      refine XS.icmpYes X8.here hx rfl (pc0 := 25) (pc' := 31) rfl (hb hby d1_25) rfl (feq hs10).2 (by decide) (by decide) ?_
      show Steps p.tables e below (T8.setTop (mkF m 31 #[.val (.int p0), .val (.ref b_1), .val (.int (2 : Int32)), .val (.int (0 : Int32)), .val (.ref aRABIN)] [])) _
      refine XS.iinc X8.here hx rfl (hb hby d1_31) rfl (l' := #[.val (.int p0), .val (.ref b_1), .val (.int (2 : Int32)), .val (.int (1 : Int32)), .val (.ref aRABIN)]) rfl ?_
      show Steps p.tables e below (T8.setTop (mkF m 34 #[.val (.int p0), .val (.ref b_1), .val (.int (2 : Int32)), .val (.int (1 : Int32)), .val (.ref aRABIN)] [])) _
      refine XS.goto X8.here hx rfl (pc0 := 34) (pc' := 9) rfl (hb hby d1_34) (by decide) (by decide) ?_
      show Steps p.tables e below (T8.setTop (mkF m 9 #[.val (.int p0), .val (.ref b_1), .val (.int (2 : Int32)), .val (.int (1 : Int32)), .val (.ref aRABIN)] [])) _
      refine XS.iloadN X8.here hx rfl (hb hby d1_9) rfl ?_
      show Steps p.tables e below (T8.setTop (mkF m 10 #[.val (.int p0), .val (.ref b_1), .val (.int (2 : Int32)), .val (.int (1 : Int32)), .val (.ref aRABIN)] [(.int (1 : Int32))])) _
      refine XS.iloadN X8.here hx rfl (hb hby d1_10) rfl ?_
      show Steps p.tables e below (T8.setTop (mkF m 11 #[.val (.int p0), .val (.ref b_1), .val (.int (2 : Int32)), .val (.int (1 : Int32)), .val (.ref aRABIN)] [(.int (2 : Int32)), (.int (1 : Int32))])) _
      refine XS.icmpNo X8.here hx rfl (hb hby d1_11) rfl (tlt (show (1 : Int32) < (2 : Int32) by decide)).2.1 ?_
      show Steps p.tables e below (T8.setTop (mkF m 14 #[.val (.int p0), .val (.ref b_1), .val (.int (2 : Int32)), .val (.int (1 : Int32)), .val (.ref aRABIN)] [])) _
      refine XS.aloadN X8.here hx rfl (hb hby d1_14) rfl rfl ?_
      show Steps p.tables e below (T8.setTop (mkF m 15 #[.val (.int p0), .val (.ref b_1), .val (.int (2 : Int32)), .val (.int (1 : Int32)), .val (.ref aRABIN)] [(.ref b_1)])) _
      refine XS.iloadN X8.here hx rfl (hb hby d1_15) rfl ?_
      show Steps p.tables e below (T8.setTop (mkF m 16 #[.val (.int p0), .val (.ref b_1), .val (.int (2 : Int32)), .val (.int (1 : Int32)), .val (.ref aRABIN)] [(.int (1 : Int32)), (.ref b_1)])) _
      refine X8.aaload hx (j := (1 : Int32)) (v := (.ref aEC_P256)) (by rw [e8]; exact Ar12.1) (State.isArrayOf_alike hZ.alike Ar12.2.1) rfl Ar12.2.2 (own_in Sz12 hi13) hl13 (g := (mkF m 16 #[.val (.int p0), .val (.ref b_1), .val (.int (2 : Int32)), .val (.int (1 : Int32)), .val (.ref aRABIN)] [(.int (1 : Int32)), (.ref b_1)])) rfl rfl (hb hby d1_16) _ ?_
      show Steps p.tables e below (T8.setTop (mkF m 17 #[.val (.int p0), .val (.ref b_1), .val (.int (2 : Int32)), .val (.int (1 : Int32)), .val (.ref aRABIN)] [(.ref aEC_P256)])) _
      refine XS.astore X8.here hx rfl (hb hby d1_17) rfl rfl (l' := #[.val (.int p0), .val (.ref b_1), .val (.int (2 : Int32)), .val (.int (1 : Int32)), .val (.ref aEC_P256)]) rfl ?_
      show Steps p.tables e below (T8.setTop (mkF m 19 #[.val (.int p0), .val (.ref b_1), .val (.int (2 : Int32)), .val (.int (1 : Int32)), .val (.ref aEC_P256)] [])) _
      refine XS.aload X8.here hx rfl (hb hby d1_19) rfl rfl ?_
      show Steps p.tables e below (T8.setTop (mkF m 21 #[.val (.int p0), .val (.ref b_1), .val (.int (2 : Int32)), .val (.int (1 : Int32)), .val (.ref aEC_P256)] [(.ref aEC_P256)])) _
      refine st14 _ ?_
      show Steps p.tables e below (T14.setTop (mkF m 24 #[.val (.int p0), .val (.ref b_1), .val (.int (2 : Int32)), .val (.int (1 : Int32)), .val (.ref aEC_P256)] [(.int (2 : Int32))])) _
      refine XS.iloadN X14.here hx rfl (hb hby d1_24) rfl ?_
      show Steps p.tables e below (T14.setTop (mkF m 25 #[.val (.int p0), .val (.ref b_1), .val (.int (2 : Int32)), .val (.int (1 : Int32)), .val (.ref aEC_P256)] [(.int p0), (.int (2 : Int32))])) _
      exact k)
    by_cases hs16 : (2 : Int32) = p0
    · have pre17 : ∀ t, Steps p.tables e below (T14.setTop (mkF m 30 #[.val (.int p0), .val (.ref b_1), .val (.int (2 : Int32)), .val (.int (1 : Int32)), .val (.ref aEC_P256)] [(.ref aEC_P256)])) t → Steps p.tables e below (s₁.setTop (entryFrame m #[(.int p0)] 5)) t := fun t k => pre15 t (by
        refine XS.icmpNo X14.here hx rfl (hb hby d1_25) rfl (teq hs16).2 ?_
        show Steps p.tables e below (T14.setTop (mkF m 28 #[.val (.int p0), .val (.ref b_1), .val (.int (2 : Int32)), .val (.int (1 : Int32)), .val (.ref aEC_P256)] [])) _
        refine XS.aload X14.here hx rfl (hb hby d1_28) rfl rfl ?_
        show Steps p.tables e below (T14.setTop (mkF m 30 #[.val (.int p0), .val (.ref b_1), .val (.int (2 : Int32)), .val (.int (1 : Int32)), .val (.ref aEC_P256)] [(.ref aEC_P256)])) _
        exact k)
      obtain ⟨fs, hr, hrun, hended, hW, hsame⟩ := X14.leave (v := some (.ref aEC_P256)) (fun h => by rw [Bd.returns] at h; cases h)
      refine ⟨_, _, pre17 _ ?_, hrun, hended, _, _, rfl, ?_, ⟨_, rfl⟩, hW, hsame.mono (by decide) (by decide)⟩
      · exact retOut X14 hx Bd.returns rfl (Or.inr (Or.inr (Or.inr (Or.inr ⟨rfl, rfl, rfl⟩)))) (hb hby d1_30) hr
      · show Q1 Z p0 a_VALUES aRABIN aEC_P256 h0 n0 _ T14.heap _
        rw [e14]
        exact ⟨congrArg some (by unfold own_kt; rw [if_neg (fun q => hs10 q.symm), if_pos hs16.symm]), N1, K4⟩
    · have pre18 : ∀ t, Steps p.tables e below (T14.setTop (mkF m 38 #[.val (.int p0), .val (.ref b_1), .val (.int (2 : Int32)), .val (.int (2 : Int32)), .val (.ref aEC_P256)] [.null])) t → Steps p.tables e below (s₁.setTop (entryFrame m #[(.int p0)] 5)) t := fun t k => pre15 t (by
        refine XS.icmpYes X14.here hx rfl (pc0 := 25) (pc' := 31) rfl (hb hby d1_25) rfl (feq hs16).2 (by decide) (by decide) ?_
        show Steps p.tables e below (T14.setTop (mkF m 31 #[.val (.int p0), .val (.ref b_1), .val (.int (2 : Int32)), .val (.int (1 : Int32)), .val (.ref aEC_P256)] [])) _
        refine XS.iinc X14.here hx rfl (hb hby d1_31) rfl (l' := #[.val (.int p0), .val (.ref b_1), .val (.int (2 : Int32)), .val (.int (2 : Int32)), .val (.ref aEC_P256)]) rfl ?_
        show Steps p.tables e below (T14.setTop (mkF m 34 #[.val (.int p0), .val (.ref b_1), .val (.int (2 : Int32)), .val (.int (2 : Int32)), .val (.ref aEC_P256)] [])) _
        refine XS.goto X14.here hx rfl (pc0 := 34) (pc' := 9) rfl (hb hby d1_34) (by decide) (by decide) ?_
        show Steps p.tables e below (T14.setTop (mkF m 9 #[.val (.int p0), .val (.ref b_1), .val (.int (2 : Int32)), .val (.int (2 : Int32)), .val (.ref aEC_P256)] [])) _
        refine XS.iloadN X14.here hx rfl (hb hby d1_9) rfl ?_
        show Steps p.tables e below (T14.setTop (mkF m 10 #[.val (.int p0), .val (.ref b_1), .val (.int (2 : Int32)), .val (.int (2 : Int32)), .val (.ref aEC_P256)] [(.int (2 : Int32))])) _
        refine XS.iloadN X14.here hx rfl (hb hby d1_10) rfl ?_
        show Steps p.tables e below (T14.setTop (mkF m 11 #[.val (.int p0), .val (.ref b_1), .val (.int (2 : Int32)), .val (.int (2 : Int32)), .val (.ref aEC_P256)] [(.int (2 : Int32)), (.int (2 : Int32))])) _
        refine XS.icmpYes X14.here hx rfl (pc0 := 11) (pc' := 37) rfl (hb hby d1_11) rfl (flt (show ¬ ((2 : Int32) < (2 : Int32)) by decide)).2.1 (by decide) (by decide) ?_
        show Steps p.tables e below (T14.setTop (mkF m 37 #[.val (.int p0), .val (.ref b_1), .val (.int (2 : Int32)), .val (.int (2 : Int32)), .val (.ref aEC_P256)] [])) _
        refine XS.aconstNull X14.here hx rfl (hb hby d1_37) ?_
        show Steps p.tables e below (T14.setTop (mkF m 38 #[.val (.int p0), .val (.ref b_1), .val (.int (2 : Int32)), .val (.int (2 : Int32)), .val (.ref aEC_P256)] [.null])) _
        exact k)
      obtain ⟨fs, hr, hrun, hended, hW, hsame⟩ := X14.leave (v := some .null) (fun h => by rw [Bd.returns] at h; cases h)
      refine ⟨_, _, pre18 _ ?_, hrun, hended, _, _, rfl, ?_, ⟨_, rfl⟩, hW, hsame.mono (by decide) (by decide)⟩
      · exact retOut X14 hx Bd.returns rfl (Or.inr (Or.inr (Or.inr (Or.inr ⟨rfl, rfl, rfl⟩)))) (hb hby d1_38) hr
      · show Q1 Z p0 a_VALUES aRABIN aEC_P256 h0 n0 _ T14.heap _
        rw [e14]
        exact ⟨congrArg some (by unfold own_kt; rw [if_neg (fun q => hs10 q.symm), if_neg (fun q => hs16 q.symm)]), N1, K4⟩
theorem d3_0 : decode method_2_code 0 = .ok (.iload_n 0, 1) := by decide +kernel
theorem d3_1 : decode method_2_code 1 = .ok (.iconst 1, 1) := by decide +kernel
theorem d3_2 : decode method_2_code 2 = .ok (.if_icmp .ne 7, 3) := by decide +kernel
theorem d3_5 : decode method_2_code 5 = .ok (.getstatic 7, 3) := by decide +kernel
theorem d3_8 : decode method_2_code 8 = .ok (.areturn, 1) := by decide +kernel
theorem d3_9 : decode method_2_code 9 = .ok (.iload_n 0, 1) := by decide +kernel
theorem d3_10 : decode method_2_code 10 = .ok (.iconst 2, 1) := by decide +kernel
theorem d3_11 : decode method_2_code 11 = .ok (.if_icmp .ne 7, 3) := by decide +kernel
theorem d3_14 : decode method_2_code 14 = .ok (.getstatic 13, 3) := by decide +kernel
theorem d3_17 : decode method_2_code 17 = .ok (.areturn, 1) := by decide +kernel
theorem d3_18 : decode method_2_code 18 = .ok (.aconst_null, 1) := by decide +kernel
theorem d3_19 : decode method_2_code 19 = .ok (.areturn, 1) := by decide +kernel
theorem pn_1 : plainName "com/example/keyclasp/keyclasp/core/KeyTypeOfCodePinLaw" = true := by first | (simp [plainName, overriddenIn]; done) | decide +kernel
theorem ef_3 (m : MethodId) (p0 : Int32) : entryFrame m #[(.int p0)] 1 = mkF m 0 #[.val (.int p0)] [] := by first | (simp [entryFrame, mkF, argsToLocals, Value.category]; done) | rfl

def Q3 (Z : State) (p0 : Int32) (aRABIN aEC_P256 : Addr) (h0 : Heap) (n0 : Nat) (v : Option Value) (h : Heap) (L : List Loc) : Prop := v = some (own_kt p0 aRABIN aEC_P256) ∧ Fr n0 L ∧ h = h0
set_option maxRecDepth 65536 in
set_option maxHeartbeats 40000000 in
theorem rm3 (l : Launch) (Z : State) (a0 : Array Value) (hw : ∀ d ∈ tables_1, d.before a0 Z = true) (ws : List Jvm.Cond) (p0 : Int32) (aRABIN aEC_P256 : Addr) (h0 : Heap) (n0 : Nat) (Z0 : n0 ≤ h0.size) (S_RABIN : Sta Z h0 "com/example/keyclasp/keyclasp/core/KeyType" "RABIN" "Lcom/example/keyclasp/keyclasp/core/KeyType;" (.ref aRABIN)) (S_EC_P256 : Sta Z h0 "com/example/keyclasp/keyclasp/core/KeyType" "EC_P256" "Lcom/example/keyclasp/keyclasp/core/KeyType;" (.ref aEC_P256)) :
    MetFree l (⟨"com/example/keyclasp/keyclasp/core/KeyTypeOfCodePinLaw", "expected", "(I)Lcom/example/keyclasp/keyclasp/core/KeyType;"⟩ : MethodName) (head1 (Jvm.Cond.code (⟨"com/example/keyclasp/keyclasp/core/KeyTypeOfCodePinLaw", "expected", "(I)Lcom/example/keyclasp/keyclasp/core/KeyType;"⟩ : MethodName) method_2_code 1 (some (.object "com/example/keyclasp/keyclasp/core/KeyType")) :: ws) ({ frames := 0, cells := 0, slots := 0, locals := 0 } : Room)) (fun a U => a = #[(.int p0)] ∧ Z.Warmed39 U.vm ∧ U.heap = h0) (fun _ _ _ _ _ => True) (fun _ U o U' => ∃ v L, o = .returned v ∧ Q3 Z p0 aRABIN aEC_P256 h0 n0 v U'.heap L ∧ FrameEnd U o U' L ({ frames := 0, cells := 0, slots := 0, locals := 0 } : Room).cells ({ frames := 0, cells := 0, slots := 0, locals := 0 } : Room).slots) := by
  refine MetFree.of_bodySF (plainFor_of_name pn_1) hisR ?_
  intro p e s m args below meth c s₁ Bd hml0 hP hK
  obtain ⟨rfl, hZ, hh⟩ := hP
  have hx := Bd.exec
  have hby := Bd.bytes
  have hml : c.maxLocals = 1 := hml0
  have hown : s.vm.findClass "com/example/keyclasp/keyclasp/core/KeyTypeOfCodePinLaw" = some m.cls := findClass_of_methodNamed Bd.named
  have hnm := (name_of_methodNamed Bd.named Bd.method).1
  have X0 : Stand p l e ({ frames := 0, cells := 0, slots := 0, locals := 0 } : Room) s m #[(.int p0)] below meth c s₁ [] 0 0 := Stand.of_body Bd
  have e0 : s₁.heap = h0 := by rw [← hh, Bd.state]; rfl
  have N0 := Fr.nil n0
  have pre0 : ∀ t, Steps p.tables e below (s₁.setTop (mkF m 0 #[.val (.int p0)] [])) t → Steps p.tables e below (s₁.setTop (entryFrame m #[(.int p0)] 1)) t := fun t k => castTop (ef_3 m p0) k
  have pre1 : ∀ t, Steps p.tables e below (s₁.setTop (mkF m 2 #[.val (.int p0)] [(.int (1 : Int32)), (.int p0)])) t → Steps p.tables e below (s₁.setTop (entryFrame m #[(.int p0)] 1)) t := fun t k => pre0 t (by
    show Steps p.tables e below (s₁.setTop (mkF m 0 #[.val (.int p0)] [])) _
    refine XS.iloadN X0.here hx rfl (hb hby d3_0) rfl ?_
    show Steps p.tables e below (s₁.setTop (mkF m 1 #[.val (.int p0)] [(.int p0)])) _
    refine XS.iconst X0.here hx rfl (hb hby d3_1) ?_
    show Steps p.tables e below (s₁.setTop (mkF m 2 #[.val (.int p0)] [(.int (1 : Int32)), (.int p0)])) _
    exact k)
  by_cases hs2 : p0 = (1 : Int32)
  · obtain ⟨T3, X3, e3, st3⟩ := getS2 X0 hx hZ hown (host := "") (Or.inl (hw _ (List.mem_of_getElem? (i := 28) rfl))) Via.refl e0 S_RABIN (g := (mkF m 5 #[.val (.int p0)] [])) rfl (hb hby d3_5)
    have pre4 : ∀ t, Steps p.tables e below (T3.setTop (mkF m 8 #[.val (.int p0)] [(.ref aRABIN)])) t → Steps p.tables e below (s₁.setTop (entryFrame m #[(.int p0)] 1)) t := fun t k => pre1 t (by
      refine XS.icmpNo X0.here hx rfl (hb hby d3_2) rfl (teq hs2).2 ?_
      show Steps p.tables e below (s₁.setTop (mkF m 5 #[.val (.int p0)] [])) _
      refine st3 _ ?_
      show Steps p.tables e below (T3.setTop (mkF m 8 #[.val (.int p0)] [(.ref aRABIN)])) _
      exact k)
    obtain ⟨fs, hr, hrun, hended, hW, hsame⟩ := X3.leave (v := some (.ref aRABIN)) (fun h => by rw [Bd.returns] at h; cases h)
    refine ⟨_, _, pre4 _ ?_, hrun, hended, _, _, rfl, ?_, ⟨_, rfl⟩, hW, hsame.mono (by decide) (by decide)⟩
    · exact retOut X3 hx Bd.returns rfl (Or.inr (Or.inr (Or.inr (Or.inr ⟨rfl, rfl, rfl⟩)))) (hb hby d3_8) hr
    · show Q3 Z p0 aRABIN aEC_P256 h0 n0 _ T3.heap _
      rw [e3]
      exact ⟨congrArg some (by unfold own_kt; rw [if_pos hs2]), N0, rfl⟩
  · have pre5 : ∀ t, Steps p.tables e below (s₁.setTop (mkF m 11 #[.val (.int p0)] [(.int (2 : Int32)), (.int p0)])) t → Steps p.tables e below (s₁.setTop (entryFrame m #[(.int p0)] 1)) t := fun t k => pre1 t (by
      refine XS.icmpYes X0.here hx rfl (pc0 := 2) (pc' := 9) rfl (hb hby d3_2) rfl (feq hs2).2 (by decide) (by decide) ?_
      show Steps p.tables e below (s₁.setTop (mkF m 9 #[.val (.int p0)] [])) _
      refine XS.iloadN X0.here hx rfl (hb hby d3_9) rfl ?_
      show Steps p.tables e below (s₁.setTop (mkF m 10 #[.val (.int p0)] [(.int p0)])) _
      refine XS.iconst X0.here hx rfl (hb hby d3_10) ?_
      show Steps p.tables e below (s₁.setTop (mkF m 11 #[.val (.int p0)] [(.int (2 : Int32)), (.int p0)])) _
      exact k)
    by_cases hs6 : p0 = (2 : Int32)
    · obtain ⟨T7, X7, e7, st7⟩ := getS2 X0 hx hZ hown (host := "") (Or.inl (hw _ (List.mem_of_getElem? (i := 27) rfl))) Via.refl e0 S_EC_P256 (g := (mkF m 14 #[.val (.int p0)] [])) rfl (hb hby d3_14)
      have pre8 : ∀ t, Steps p.tables e below (T7.setTop (mkF m 17 #[.val (.int p0)] [(.ref aEC_P256)])) t → Steps p.tables e below (s₁.setTop (entryFrame m #[(.int p0)] 1)) t := fun t k => pre5 t (by
        refine XS.icmpNo X0.here hx rfl (hb hby d3_11) rfl (teq hs6).2 ?_
        show Steps p.tables e below (s₁.setTop (mkF m 14 #[.val (.int p0)] [])) _
        refine st7 _ ?_
        show Steps p.tables e below (T7.setTop (mkF m 17 #[.val (.int p0)] [(.ref aEC_P256)])) _
        exact k)
      obtain ⟨fs, hr, hrun, hended, hW, hsame⟩ := X7.leave (v := some (.ref aEC_P256)) (fun h => by rw [Bd.returns] at h; cases h)
      refine ⟨_, _, pre8 _ ?_, hrun, hended, _, _, rfl, ?_, ⟨_, rfl⟩, hW, hsame.mono (by decide) (by decide)⟩
      · exact retOut X7 hx Bd.returns rfl (Or.inr (Or.inr (Or.inr (Or.inr ⟨rfl, rfl, rfl⟩)))) (hb hby d3_17) hr
      · show Q3 Z p0 aRABIN aEC_P256 h0 n0 _ T7.heap _
        rw [e7]
        exact ⟨congrArg some (by unfold own_kt; rw [if_neg hs2, if_pos hs6]), N0, rfl⟩
    · have pre9 : ∀ t, Steps p.tables e below (s₁.setTop (mkF m 19 #[.val (.int p0)] [.null])) t → Steps p.tables e below (s₁.setTop (entryFrame m #[(.int p0)] 1)) t := fun t k => pre5 t (by
        refine XS.icmpYes X0.here hx rfl (pc0 := 11) (pc' := 18) rfl (hb hby d3_11) rfl (feq hs6).2 (by decide) (by decide) ?_
        show Steps p.tables e below (s₁.setTop (mkF m 18 #[.val (.int p0)] [])) _
        refine XS.aconstNull X0.here hx rfl (hb hby d3_18) ?_
        show Steps p.tables e below (s₁.setTop (mkF m 19 #[.val (.int p0)] [.null])) _
        exact k)
      obtain ⟨fs, hr, hrun, hended, hW, hsame⟩ := X0.leave (v := some .null) (fun h => by rw [Bd.returns] at h; cases h)
      refine ⟨_, _, pre9 _ ?_, hrun, hended, _, _, rfl, ?_, ⟨_, rfl⟩, hW, hsame.mono (by decide) (by decide)⟩
      · exact retOut X0 hx Bd.returns rfl (Or.inr (Or.inr (Or.inr (Or.inr ⟨rfl, rfl, rfl⟩)))) (hb hby d3_19) hr
      · show Q3 Z p0 aRABIN aEC_P256 h0 n0 _ s₁.heap _
        rw [e0]
        exact ⟨congrArg some (by unfold own_kt; rw [if_neg hs2, if_neg hs6]), N0, rfl⟩
theorem pd_1 : parseMethodDescriptor "(I)Lcom/example/keyclasp/keyclasp/core/KeyType;" = some ⟨[.int], some (.object "com/example/keyclasp/keyclasp/core/KeyType")⟩ := by decide +kernel
theorem ef_0 (m : MethodId) (p0 : Int32) (p1 : Int32) : entryFrame m #[(.int p0), (.int p1)] maxLocals = mkF m 0 #[.val (.int p0), .val (.int p1), .unset, .unset] [] := by first | (simp [entryFrame, mkF, argsToLocals, Value.category, maxLocals]; done) | rfl
def f0_15 (p0 : Int32) (p1 : Int32) : Int32 := (if (p1 &&& (1 : Int32)) = (0 : Int32) then ((p1 >>> ((1 : Int32) &&& 31)) &&& (3 : Int32)) else p0)

def Q0 (Z : State) (p0 : Int32) (p1 : Int32) (a_VALUES : Addr) (aRABIN : Addr) (aEC_P256 : Addr) (h0 : Heap) (n0 : Nat) (v : Option Value) (h : Heap) (L : List Loc) : Prop := v = some (.int 1) ∧ Fr n0 L
set_option maxRecDepth 65536 in
set_option maxHeartbeats 40000000 in
theorem rm0 (l : Launch) (Z : State) (a0 : Array Value) (hw : ∀ d ∈ tables_1, d.before a0 Z = true) (ws : List Jvm.Cond) (p0 : Int32) (p1 : Int32) (a_VALUES : Addr) (aRABIN : Addr) (aEC_P256 : Addr) (h0 : Heap) (n0 : Nat) (Z0 : n0 ≤ h0.size) (S__VALUES : Sta Z h0 "com/example/keyclasp/keyclasp/core/KeyType" "$VALUES" "[Lcom/example/keyclasp/keyclasp/core/KeyType;" (.ref a_VALUES)) (E_a_VALUES : Exa Z h0 a_VALUES "[Lcom/example/keyclasp/keyclasp/core/KeyType;") (S_RABIN : Sta Z h0 "com/example/keyclasp/keyclasp/core/KeyType" "RABIN" "Lcom/example/keyclasp/keyclasp/core/KeyType;" (.ref aRABIN)) (E_aRABIN : Exa Z h0 aRABIN "com/example/keyclasp/keyclasp/core/KeyType") (S_EC_P256 : Sta Z h0 "com/example/keyclasp/keyclasp/core/KeyType" "EC_P256" "Lcom/example/keyclasp/keyclasp/core/KeyType;" (.ref aEC_P256)) (E_aEC_P256 : Exa Z h0 aEC_P256 "com/example/keyclasp/keyclasp/core/KeyType") (F_code_aRABIN : Fld Z h0 aRABIN "com/example/keyclasp/keyclasp/core/KeyType" "code" "I" (.int (1 : Int32))) (F_code_aEC_P256 : Fld Z h0 aEC_P256 "com/example/keyclasp/keyclasp/core/KeyType" "code" "I" (.int (2 : Int32))) (A_a_VALUES : own_A Z h0 a_VALUES (.object "com/example/keyclasp/keyclasp/core/KeyType") 2 (fun i => if i = 0 then .ref aRABIN else .ref aEC_P256)) :
    MetFree l x (head1 (Jvm.Cond.code x code maxLocals ret :: ws) room_1) (fun a U => a = #[(.int p0), (.int p1)] ∧ Z.Warmed39 U.vm ∧ U.heap = h0) (fun _ _ _ _ _ => True) (fun _ U o U' => ∃ v L, o = .returned v ∧ Q0 Z p0 p1 a_VALUES aRABIN aEC_P256 h0 n0 v U'.heap L ∧ FrameEnd U o U' L room_1.cells room_1.slots) := by
  refine MetFree.of_bodySF (plainFor_of_name pn_1) hisR ?_
  intro p e s m args below meth c s₁ Bd hml0 hP hK
  obtain ⟨rfl, hZ, hh⟩ := hP
  have hx := Bd.exec
  have hby := Bd.bytes
  have hml : c.maxLocals = 4 := hml0
  have hown : s.vm.findClass "com/example/keyclasp/keyclasp/core/KeyTypeOfCodePinLaw" = some m.cls := findClass_of_methodNamed Bd.named
  have hnm := (name_of_methodNamed Bd.named Bd.method).1
  have X0 : Stand p l e room_1 s m #[(.int p0), (.int p1)] below meth c s₁ [] 0 0 := Stand.of_body Bd
  have e0 : s₁.heap = h0 := by rw [← hh, Bd.state]; rfl
  have N0 := Fr.nil n0
  have pre0 : ∀ t, Steps p.tables e below (s₁.setTop (mkF m 0 #[.val (.int p0), .val (.int p1), .unset, .unset] [])) t → Steps p.tables e below (s₁.setTop (entryFrame m #[(.int p0), (.int p1)] maxLocals)) t := fun t k => castTop (ef_0 m p0 p1) k
  have pre1 : ∀ t, Steps p.tables e below (s₁.setTop (mkF m 3 #[.val (.int p0), .val (.int p1), .unset, .unset] [(.int (p1 &&& (1 : Int32)))])) t → Steps p.tables e below (s₁.setTop (entryFrame m #[(.int p0), (.int p1)] maxLocals)) t := fun t k => pre0 t (by
    show Steps p.tables e below (s₁.setTop (mkF m 0 #[.val (.int p0), .val (.int p1), .unset, .unset] [])) _
    refine XS.iloadN X0.here hx rfl (hb hby at_0) rfl ?_
    show Steps p.tables e below (s₁.setTop (mkF m 1 #[.val (.int p0), .val (.int p1), .unset, .unset] [(.int p1)])) _
    refine XS.iconst X0.here hx rfl (hb hby at_1) ?_
    show Steps p.tables e below (s₁.setTop (mkF m 2 #[.val (.int p0), .val (.int p1), .unset, .unset] [(.int (1 : Int32)), (.int p1)])) _
    refine XS.iand X0.here hx rfl (hb hby at_2) rfl ?_
    show Steps p.tables e below (s₁.setTop (mkF m 3 #[.val (.int p0), .val (.int p1), .unset, .unset] [(.int (p1 &&& (1 : Int32)))])) _
    exact k)
  have pre3 : ∀ t, Steps p.tables e below (s₁.setTop (mkF m 15 #[.val (.int p0), .val (.int p1), .unset, .unset] [(.int (f0_15 p0 p1))])) t → Steps p.tables e below (s₁.setTop (entryFrame m #[(.int p0), (.int p1)] maxLocals)) t := fun t k => pre1 t (by
    by_cases hf2 : (p1 &&& (1 : Int32)) = (0 : Int32)
    · refine XS.ifYes X0.here hx rfl (pc0 := 3) (pc' := 10) rfl (hb hby at_3) rfl ((if0 _ _).trans (teq hf2).1) (by decide) (by decide) ?_
      show Steps p.tables e below (s₁.setTop (mkF m 10 #[.val (.int p0), .val (.int p1), .unset, .unset] [])) _
      refine XS.iloadN X0.here hx rfl (hb hby at_10) rfl ?_
      show Steps p.tables e below (s₁.setTop (mkF m 11 #[.val (.int p0), .val (.int p1), .unset, .unset] [(.int p1)])) _
      refine XS.iconst X0.here hx rfl (hb hby at_11) ?_
      show Steps p.tables e below (s₁.setTop (mkF m 12 #[.val (.int p0), .val (.int p1), .unset, .unset] [(.int (1 : Int32)), (.int p1)])) _
      refine XS.ishr X0.here hx rfl (hb hby at_12) rfl ?_
      show Steps p.tables e below (s₁.setTop (mkF m 13 #[.val (.int p0), .val (.int p1), .unset, .unset] [(.int (p1 >>> ((1 : Int32) &&& 31)))])) _
      refine XS.iconst X0.here hx rfl (hb hby at_13) ?_
      show Steps p.tables e below (s₁.setTop (mkF m 14 #[.val (.int p0), .val (.int p1), .unset, .unset] [(.int (3 : Int32)), (.int (p1 >>> ((1 : Int32) &&& 31)))])) _
      refine XS.iand X0.here hx rfl (hb hby at_14) rfl ?_
      show Steps p.tables e below (s₁.setTop (mkF m 15 #[.val (.int p0), .val (.int p1), .unset, .unset] [(.int ((p1 >>> ((1 : Int32) &&& 31)) &&& (3 : Int32)))])) _
      rw [show (f0_15 p0 p1) = (((p1 >>> ((1 : Int32) &&& 31)) &&& (3 : Int32)) : Int32) from by simp only [f0_15, if_pos hf2]] at k
      exact k
    · refine XS.ifNo X0.here hx rfl (hb hby at_3) rfl ((if0 _ _).trans (feq hf2).1) ?_
      show Steps p.tables e below (s₁.setTop (mkF m 6 #[.val (.int p0), .val (.int p1), .unset, .unset] [])) _
      refine XS.iloadN X0.here hx rfl (hb hby at_6) rfl ?_
      show Steps p.tables e below (s₁.setTop (mkF m 7 #[.val (.int p0), .val (.int p1), .unset, .unset] [(.int p0)])) _
      refine XS.goto X0.here hx rfl (pc0 := 7) (pc' := 15) rfl (hb hby at_7) (by decide) (by decide) ?_
      show Steps p.tables e below (s₁.setTop (mkF m 15 #[.val (.int p0), .val (.int p1), .unset, .unset] [(.int p0)])) _
      rw [show (f0_15 p0 p1) = (p0 : Int32) from by simp only [f0_15, if_neg hf2]] at k
      exact k)
  obtain ⟨_, _, ⟨T4, L4, k4, n4⟩, -, X4, ⟨Lc4, hQ4, l4, y4, z4⟩, st4⟩ := Jvm.LawKit.callS X0 hx (y := (⟨"com/example/keyclasp/keyclasp/core/KeyType", "ofCode", "(I)Lcom/example/keyclasp/keyclasp/core/KeyType;"⟩ : MethodName)) hown (mvT hZ (hw _ (List.mem_of_getElem? (i := 0) rfl))) (mvT hZ (hw _ (List.mem_of_getElem? (i := 1) rfl))) (mvT hZ (hw _ (List.mem_of_getElem? (i := 2) rfl))) (mvT hZ (hw _ (List.mem_of_getElem? (i := 3) rfl))) (by decide) (backOf (W := 0) (rm1 l Z a0 hw [] (f0_15 p0 p1) a_VALUES aRABIN aEC_P256 h0 n0 Z0 S__VALUES A_a_VALUES E_a_VALUES F_code_aRABIN F_code_aEC_P256) hZ (hw _ (List.mem_of_getElem? (i := 3) rfl)) (hw _ (List.mem_of_getElem? (i := 2) rfl)) (by decide) (by decide)) (g := (mkF m 17 #[.val (.int p0), .val (.int p1), .val (.int (f0_15 p0 p1)), .unset] [(.int (f0_15 p0 p1))])) rfl (by rw [hml]; rfl) (argsL := [(.int (f0_15 p0 p1))]) (rest := []) (lenOf pd_1 rfl) rfl (by show 2 * 0 + _ ≤ _; exact Nat.le_of_eq rfl) (hb hby at_17) (fun _ _ => ⟨rfl, e0, (by decide : 0 + 1 ≤ _), (by decide : 0 + 2 ≤ _)⟩)
  dsimp only [Pt.U, Pt.locs, Pt.cells, Pt.slots] at X4 l4 y4 z4 st4 hQ4
  subst l4 y4 z4
  obtain ⟨rfl, N4q, Kc4⟩ := hQ4
  have N4 := Fr.app N0 N4q
  have S__VALUES_5 : Sta Z T4.heap "com/example/keyclasp/keyclasp/core/KeyType" "$VALUES" "[Lcom/example/keyclasp/keyclasp/core/KeyType;" (.ref a_VALUES) := own_sta_keep0 S__VALUES Kc4
  have E_a_VALUES_5 : Exa Z T4.heap a_VALUES "[Lcom/example/keyclasp/keyclasp/core/KeyType;" := (E_a_VALUES).keep Kc4
  have S_RABIN_5 : Sta Z T4.heap "com/example/keyclasp/keyclasp/core/KeyType" "RABIN" "Lcom/example/keyclasp/keyclasp/core/KeyType;" (.ref aRABIN) := own_sta_keep0 S_RABIN Kc4
  have E_aRABIN_5 : Exa Z T4.heap aRABIN "com/example/keyclasp/keyclasp/core/KeyType" := (E_aRABIN).keep Kc4
  have S_EC_P256_5 : Sta Z T4.heap "com/example/keyclasp/keyclasp/core/KeyType" "EC_P256" "Lcom/example/keyclasp/keyclasp/core/KeyType;" (.ref aEC_P256) := own_sta_keep0 S_EC_P256 Kc4
  have E_aEC_P256_5 : Exa Z T4.heap aEC_P256 "com/example/keyclasp/keyclasp/core/KeyType" := (E_aEC_P256).keep Kc4
  have F_code_aRABIN_5 : Fld Z T4.heap aRABIN "com/example/keyclasp/keyclasp/core/KeyType" "code" "I" (.int (1 : Int32)) := (F_code_aRABIN).keep Kc4 nin0
  have F_code_aEC_P256_5 : Fld Z T4.heap aEC_P256 "com/example/keyclasp/keyclasp/core/KeyType" "code" "I" (.int (2 : Int32)) := (F_code_aEC_P256).keep Kc4 nin0
  have A_a_VALUES_5 : own_A Z T4.heap a_VALUES (.object "com/example/keyclasp/keyclasp/core/KeyType") 2 (fun i => if i = 0 then .ref aRABIN else .ref aEC_P256) := (A_a_VALUES).keep Kc4 nin0
  have SZ6 : h0.size ≤ T4.heap.size := Nat.le_trans (Nat.le_refl _) Kc4.1
  have ZZ6 : n0 ≤ T4.heap.size := Nat.le_trans Z0 SZ6
  have K7 : Keep h0 T4.heap [] := ((Keep.refl h0 [])).trans Kc4 all0
  obtain ⟨_, _, ⟨T8, L8, k8, n8⟩, -, X8, ⟨Lc8, hQ8, l8, y8, z8⟩, st8⟩ := Jvm.LawKit.callS X4 hx (y := (⟨"com/example/keyclasp/keyclasp/core/KeyTypeOfCodePinLaw", "expected", "(I)Lcom/example/keyclasp/keyclasp/core/KeyType;"⟩ : MethodName)) hown (mvT hZ (hw _ (List.mem_of_getElem? (i := 23) rfl))) (mvT hZ (hw _ (List.mem_of_getElem? (i := 24) rfl))) (mvT hZ (hw _ (List.mem_of_getElem? (i := 25) rfl))) (mvT hZ (hw _ (List.mem_of_getElem? (i := 26) rfl))) (by decide) (backOf (W := 1) (rm3 l Z a0 hw [] (f0_15 p0 p1) aRABIN aEC_P256 T4.heap n0 ZZ6 S_RABIN_5 S_EC_P256_5) hZ (hw _ (List.mem_of_getElem? (i := 26) rfl)) (hw _ (List.mem_of_getElem? (i := 25) rfl)) (by decide) (by decide)) (g := (mkF m 23 #[.val (.int p0), .val (.int p1), .val (.int (f0_15 p0 p1)), .val (own_kt (f0_15 p0 p1) aRABIN aEC_P256)] [(.int (f0_15 p0 p1)), (own_kt (f0_15 p0 p1) aRABIN aEC_P256)])) rfl (by rw [hml]; rfl) (argsL := [(.int (f0_15 p0 p1))]) (rest := [(own_kt (f0_15 p0 p1) aRABIN aEC_P256)]) (lenOf pd_1 rfl) rfl (by show 2 * 0 + (Value.category (own_kt (f0_15 p0 p1) aRABIN aEC_P256) + 0) ≤ _; rw [own_cat (own_kt_ref _ _ _)]; exact Nat.le_of_eq rfl) (hb hby at_23) (fun _ _ => ⟨rfl, rfl, (by decide : 1 + 0 ≤ _), (by decide : 2 + 0 ≤ _)⟩)
  dsimp only [Pt.U, Pt.locs, Pt.cells, Pt.slots] at X8 l8 y8 z8 st8 hQ8
  subst l8 y8 z8
  obtain ⟨rfl, N8q, hh8⟩ := hQ8
  have N8 := Fr.app N4 N8q
  have pre9 : ∀ t, Steps p.tables e below (T8.setTop (mkF m 34 #[.val (.int p0), .val (.int p1), .val (.int (f0_15 p0 p1)), .val (own_kt (f0_15 p0 p1) aRABIN aEC_P256)] [(.int (1 : Int32))])) t → Steps p.tables e below (s₁.setTop (entryFrame m #[(.int p0), (.int p1)] maxLocals)) t := fun t k => pre3 t (by
    refine XS.istoreN X0.here hx rfl (hb hby at_15) rfl (l' := #[.val (.int p0), .val (.int p1), .val (.int (f0_15 p0 p1)), .unset]) rfl ?_
    show Steps p.tables e below (s₁.setTop (mkF m 16 #[.val (.int p0), .val (.int p1), .val (.int (f0_15 p0 p1)), .unset] [])) _
    refine XS.iloadN X0.here hx rfl (hb hby at_16) rfl ?_
    show Steps p.tables e below (s₁.setTop (mkF m 17 #[.val (.int p0), .val (.int p1), .val (.int (f0_15 p0 p1)), .unset] [(.int (f0_15 p0 p1))])) _
    refine st4 _ ?_
    show Steps p.tables e below (T4.setTop (mkF m 20 #[.val (.int p0), .val (.int p1), .val (.int (f0_15 p0 p1)), .unset] [(own_kt (f0_15 p0 p1) aRABIN aEC_P256)])) _
    refine XS.astoreN X4.here hx rfl (hb hby at_20) rfl (own_kt_ref _ _ _) (l' := #[.val (.int p0), .val (.int p1), .val (.int (f0_15 p0 p1)), .val (own_kt (f0_15 p0 p1) aRABIN aEC_P256)]) (by rcases (ref_cases (own_kt_ref _ _ _)) with h | ⟨_, h⟩ <;> (rw [h]; rfl)) ?_
    show Steps p.tables e below (T4.setTop (mkF m 21 #[.val (.int p0), .val (.int p1), .val (.int (f0_15 p0 p1)), .val (own_kt (f0_15 p0 p1) aRABIN aEC_P256)] [])) _
    refine XS.aloadN X4.here hx rfl (hb hby at_21) rfl (own_kt_ref _ _ _) ?_
    show Steps p.tables e below (T4.setTop (mkF m 22 #[.val (.int p0), .val (.int p1), .val (.int (f0_15 p0 p1)), .val (own_kt (f0_15 p0 p1) aRABIN aEC_P256)] [(own_kt (f0_15 p0 p1) aRABIN aEC_P256)])) _
    refine XS.iloadN X4.here hx rfl (hb hby at_22) rfl ?_
    show Steps p.tables e below (T4.setTop (mkF m 23 #[.val (.int p0), .val (.int p1), .val (.int (f0_15 p0 p1)), .val (own_kt (f0_15 p0 p1) aRABIN aEC_P256)] [(.int (f0_15 p0 p1)), (own_kt (f0_15 p0 p1) aRABIN aEC_P256)])) _
    refine st8 _ ?_
    show Steps p.tables e below (T8.setTop (mkF m 26 #[.val (.int p0), .val (.int p1), .val (.int (f0_15 p0 p1)), .val (own_kt (f0_15 p0 p1) aRABIN aEC_P256)] [(own_kt (f0_15 p0 p1) aRABIN aEC_P256), (own_kt (f0_15 p0 p1) aRABIN aEC_P256)])) _
    refine Jvm.RoadKit.acmp (g := (mkF m 26 #[.val (.int p0), .val (.int p1), .val (.int (f0_15 p0 p1)), .val (own_kt (f0_15 p0 p1) aRABIN aEC_P256)] [(own_kt (f0_15 p0 p1) aRABIN aEC_P256), (own_kt (f0_15 p0 p1) aRABIN aEC_P256)])) X8 hx rfl (own_kt_ref _ _ _) (own_kt_ref _ _ _) (pc0 := 26) (pc' := 29) (same := true) rfl (hb hby at_26) rfl (decide_eq_true rfl) (by decide) (by decide) ?_
    show Steps p.tables e below (T8.setTop (mkF m 29 #[.val (.int p0), .val (.int p1), .val (.int (f0_15 p0 p1)), .val (own_kt (f0_15 p0 p1) aRABIN aEC_P256)] [])) _
    refine XS.iconst X8.here hx rfl (hb hby at_29) ?_
    show Steps p.tables e below (T8.setTop (mkF m 30 #[.val (.int p0), .val (.int p1), .val (.int (f0_15 p0 p1)), .val (own_kt (f0_15 p0 p1) aRABIN aEC_P256)] [(.int (1 : Int32))])) _
    refine XS.goto X8.here hx rfl (pc0 := 30) (pc' := 34) rfl (hb hby at_30) (by decide) (by decide) ?_
    show Steps p.tables e below (T8.setTop (mkF m 34 #[.val (.int p0), .val (.int p1), .val (.int (f0_15 p0 p1)), .val (own_kt (f0_15 p0 p1) aRABIN aEC_P256)] [(.int (1 : Int32))])) _
    exact k)
  obtain ⟨fs, hr, hrun, hended, hW, hsame⟩ := X8.leave (v := some (.int (1 : Int32))) (fun h => by rw [Bd.returns] at h; cases h)
  refine ⟨_, _, pre9 _ ?_, hrun, hended, _, _, rfl, ?_, ⟨_, rfl⟩, hW, hsame.mono (by decide) (by decide)⟩
  · exact retN X8 hx (t := .boolean) Bd.returns (by simp) (hb hby at_34) hr
  · show Q0 Z p0 p1 a_VALUES aRABIN aEC_P256 h0 n0 _ T8.heap _
    rw [hh8]
    exact ⟨rfl, N8⟩
set_option maxRecDepth 65536 in
set_option maxHeartbeats 40000000 in
theorem comes_1 {Post : Tables → Env → Array Value → State → Outcome → State → Prop} (hpost : ∀ tb e args s v u, (limb_1_1.after args s (.returned v) u = true ∧ limb_1_2.after args s (.returned v) u = true ∧ True) → FrameEnd s (.returned v) u (Jvm.fieldLocs frame_1_writes args s ++ Jvm.arrayLocs frame_1_arrays args s ++ Jvm.staticLocs frame_1_statics s) 16 128 → Post tb e args s (.returned v) u) :
    ArmFor flags0 classFile x code maxLocals ret World_1 tables_1 room_1 Calls_1 rest_1 Pre_1 Post := by
  intro l hfl _ _ p e ha hc hk s m args below hf hA hF happ hP
  obtain ⟨hcalls, hrest, hpre⟩ := hP
  obtain ⟨-, -, -, hnamed, -, -, -, hat⟩ := (Spec.applies_iff hf).mp happ
  obtain ⟨hg, hn⟩ := and_e (Cond.before_iff.mp (show (Jvm.Cond.and given_1 narrow_1).before args s = true from hpre))
  obtain ⟨h1, g0⟩ := and_e hg
  obtain ⟨u0, g1⟩ := and_e g0
  obtain ⟨w0, w1, rfl⟩ : ∃ w0 w1 : Value, args = #[w0, w1] := by
    have hs : args.size = 2 := by simpa [Cond.value, given_1] using h1
    obtain ⟨L⟩ := args
    match L, hs with
    | [w0, w1], _ => exact ⟨w0, w1, rfl⟩
  have hw := fun d (hd : d ∈ tables_1) => atoms_spec (ws := Jvm.Cond.code x code maxLocals ret :: tables_1) hat d (List.mem_cons_of_mem _ hd)
  have hfit : Fit s := fun {y c} hc i hi => by
    obtain ⟨ha, rfl⟩ := Array.getElem?_eq_some_iff.mp hc
    have q := List.all_eq_true.mp ((Array.all_eq_true_iff_forall_mem.mp hF) _ (Array.getElem_mem ha)) i (List.mem_range.mpr hi)
    simpa [Array.getElem?_eq_getElem hi] using q
  obtain ⟨i0, e0⟩ := is_v u0
  obtain rfl : w0 = (.int i0) := Option.some.inj e0
  obtain ⟨i1, e1⟩ := is_v g1
  obtain rfl : w1 = (.int i1) := Option.some.inj e1
  obtain ⟨nc0, nr0⟩ := and_e hn
  obtain ⟨nc1, nr1⟩ := and_e nr0
  obtain ⟨nc2, nr2⟩ := and_e nr1
  obtain ⟨nc3, nr3⟩ := and_e nr2
  obtain ⟨nc4, nr4⟩ := and_e nr3
  obtain ⟨nc5, nr5⟩ := and_e nr4
  obtain ⟨nc6, nr6⟩ := and_e nr5
  obtain ⟨nc7, nr7⟩ := and_e nr6
  obtain ⟨a_VALUES, ev_a_VALUES⟩ := exa_v nc1
  have S_a_VALUES : Sta s s.heap "com/example/keyclasp/keyclasp/core/KeyType" "$VALUES" "[Lcom/example/keyclasp/keyclasp/core/KeyType;" (.ref a_VALUES) := Sta.start ev_a_VALUES (Or.inl (hw _ (List.mem_of_getElem? (i := 18) rfl)))
  have E_a_VALUES : Exa s s.heap a_VALUES "[Lcom/example/keyclasp/keyclasp/core/KeyType;" := Exa.start ev_a_VALUES nc1
  obtain ⟨aRABIN, ev_aRABIN⟩ := exa_v nc3
  have S_aRABIN : Sta s s.heap "com/example/keyclasp/keyclasp/core/KeyType" "RABIN" "Lcom/example/keyclasp/keyclasp/core/KeyType;" (.ref aRABIN) := Sta.start ev_aRABIN (Or.inr ⟨(hw _ (List.mem_of_getElem? (i := 2) rfl)), (hw _ (List.mem_of_getElem? (i := 16) rfl))⟩)
  have E_aRABIN : Exa s s.heap aRABIN "com/example/keyclasp/keyclasp/core/KeyType" := Exa.start ev_aRABIN nc3
  obtain ⟨aEC_P256, ev_aEC_P256⟩ := exa_v nc5
  have S_aEC_P256 : Sta s s.heap "com/example/keyclasp/keyclasp/core/KeyType" "EC_P256" "Lcom/example/keyclasp/keyclasp/core/KeyType;" (.ref aEC_P256) := Sta.start ev_aEC_P256 (Or.inr ⟨(hw _ (List.mem_of_getElem? (i := 2) rfl)), (hw _ (List.mem_of_getElem? (i := 17) rfl))⟩)
  have E_aEC_P256 : Exa s s.heap aEC_P256 "com/example/keyclasp/keyclasp/core/KeyType" := Exa.start ev_aEC_P256 nc5
  have F_code_aRABIN : Fld s s.heap aRABIN "com/example/keyclasp/keyclasp/core/KeyType" "code" "I" (.int (1 : Int32)) := own_fld ev_aRABIN nc7
  have F_code_aEC_P256 : Fld s s.heap aEC_P256 "com/example/keyclasp/keyclasp/core/KeyType" "code" "I" (.int (2 : Int32)) := own_fld ev_aEC_P256 nr7
  obtain ⟨cV, ArV⟩ := Arr.start ev_a_VALUES nc0
  obtain ⟨szV, ltV⟩ := own_size ev_a_VALUES ArV nc2
  have e0V := own_elem ev_a_VALUES ArV ev_aRABIN nc4
  have e1V := own_elem ev_a_VALUES ArV ev_aEC_P256 nc6
  have nV : cV.slots.size = 2 := by
    have q := len_toInt ltV
    rw [szV] at q
    have q2 : (2 : Int32).toInt = 2 := by decide
    omega
  have A_a_VALUES : own_A s s.heap a_VALUES (.object "com/example/keyclasp/keyclasp/core/KeyType") 2 (fun i => if i = 0 then .ref aRABIN else .ref aEC_P256) := ⟨cV, ArV, nV, fun j hj => by
    rcases (show j = 0 ∨ j = 1 by omega) with rfl | rfl
    · exact e0V
    · exact e1V⟩
  obtain ⟨n, o, h1, h2, h3, _, L, rfl, ⟨rfl, N⟩, hq⟩ := rm0 l s _ hw tables_1 i0 i1 a_VALUES aRABIN aEC_P256 s.heap s.heap.size (Nat.le_refl _) S_a_VALUES E_a_VALUES S_aRABIN E_aRABIN S_aEC_P256 E_aEC_P256 F_code_aRABIN F_code_aEC_P256 A_a_VALUES p e ha hc hk s m _ below hf ((Spec.applies_iff_loose hf).mp happ).1 ⟨rfl, State.Warmed39.refl s, rfl⟩ trivial
  refine ⟨n, _, h1, h2, h3, hpost _ _ _ _ _ _ ⟨Cond.after_iff.mpr rfl, Cond.after_iff.mpr (eq_i res_at (Term.int_eval (1)) rfl), trivial⟩ ⟨hq.1, hq.2.1, (hq.2.2.sift fun y hy => Or.inr (N y hy)).mono (by decide) (by decide)⟩⟩
theorem main_1_1 : Claimed_1_1 := comes_1 fun _ _ _ _ _ _ h hF => ⟨h.1, hF⟩
theorem main_1_2 : Claimed_1_2 := comes_1 fun _ _ _ _ _ _ h hF => ⟨h.2.1, hF⟩
end Jvm.Pilot.@@N@@
namespace Jvm.Pilot.@@N@@
open Jvm Jvm.ClassFile Sem Op Lib Jvm.Free Jvm.Stand Jvm.Pilot.@@N@@.Jvm.D
/-! MADE BY PROGRAM (witnessworld.py) out of the Statement's table words and the real class files: 13 classes; the members and pool entries that the words name. The judged class is class 1, her method 2. -/
namespace start1
open Jvm.ClassFile
def u (s : String) : CpInfo := .utf8 (stringToUtf16 s)
/-- a pool by its gaps: so many unusable entries, then the entry; so many at the end -/
def gap : Nat → List CpInfo → List CpInfo
  | 0, r => r
  | n + 1, r => .unusable :: gap n r
def poolList (es : List (Nat × CpInfo)) (last : Nat) : List CpInfo := es.foldr (fun e r => gap e.1 (e.2 :: r)) (gap last [])
def pool (es : List (Nat × CpInfo)) (last : Nat) : Array CpInfo := ⟨poolList es last⟩
def fileOf (pool : Array CpInfo) (this : Nat) (attrs : Array Attribute := #[]) (ms : Array MethodInfo := #[]) (fl : Nat := 33) (sup : Nat := 0) (ifs : Array Nat := #[]) (fds : Array FieldInfo := #[]) : ClassFile where
  minorVersion := 0
  majorVersion := 65
  constantPool := pool
  accessFlags := fl
  thisClass := this
  superClass := sup
  interfaces := ifs
  fields := fds
  methods := ms
  attributes := attrs
def plain (name : String) (sup : Option ClassId) : Class where
  name := name
  kind := .ordinary
  loader := none
  accessFlags := 33
  super := sup
  interfaces := #[]
  cf := none
  fields := #[]
  methods := #[]
  instanceTypes := #[]
  staticTypes := #[]
  resolved := #[]
  callSites := []
  init := .initialized
  statics := none
  mirror := none

def pool0 : Array CpInfo := pool [(5, u "<init>"), (0, u "()V"), (1, .class_ 10), (1, u "java/lang/Object"), (85, u "clone"), (0, u "()Ljava/lang/Object;")] 26

def k0m0 : Method := { name := "<init>", desc := "()V", sig := { parameters := [], returnType := none }, accessFlags := 1, code := none }
def k0m1 : Method := { name := "clone", desc := "()Ljava/lang/Object;", sig := { parameters := [], returnType := some (.object "java/lang/Object") }, accessFlags := 260, code := none }
/-- java/lang/Object -/
def k0 : Class := { plain "java/lang/Object" none with
  accessFlags := 33
  interfaces := #[]
  cf := some (fileOf pool0 8 #[] #[{ accessFlags := 1, nameIndex := 5, descriptorIndex := 6, attributes := #[] }, { accessFlags := 260, nameIndex := 96, descriptorIndex := 97, attributes := #[] }] 33 0 #[] #[])
  fields := #[]
  methods := #[k0m0, k0m1]
  instanceTypes := #[]
  staticTypes := #[]
  resolved := Array.replicate 124 none
  statics := none }

def pool1 : Array CpInfo := pool [(2, .class_ 4), (1, u "java/lang/Object"), (0, u "<init>"), (0, u "()V"), (0, .fieldref 8 9), (0, .class_ 10), (0, .nameAndType 11 12), (0, u "com/example/keyclasp/keyclasp/core/KeyType"), (0, u "RABIN"), (0, u "Lcom/example/keyclasp/keyclasp/core/KeyType;"), (0, .fieldref 8 14), (0, .nameAndType 15 12), (0, u "EC_P256"), (0, .methodref 8 17), (0, .nameAndType 18 19), (0, u "ofCode"), (0, u "(I)Lcom/example/keyclasp/keyclasp/core/KeyType;"), (0, .methodref 21 22), (0, .class_ 23), (0, .nameAndType 24 19), (0, u "com/example/keyclasp/keyclasp/core/KeyTypeOfCodePinLaw"), (0, u "expected"), (3, u "law"), (0, u "(II)Z")] 2

def k1m0 : Method := { name := "<init>", desc := "()V", sig := { parameters := [], returnType := none }, accessFlags := 1, code := none }
def k1c1 : Code := { maxStack := 2, maxLocals := 1, code := method_2_code, exceptionTable := #[], attributes := #[] }
def k1m1 : Method := { name := "expected", desc := "(I)Lcom/example/keyclasp/keyclasp/core/KeyType;", sig := { parameters := [.int], returnType := some (.object "com/example/keyclasp/keyclasp/core/KeyType") }, accessFlags := 10, code := some k1c1 }
def k1c2 : Code := { maxStack := 2, maxLocals := 4, code := code, exceptionTable := #[], attributes := #[] }
def k1m2 : Method := { name := "law", desc := "(II)Z", sig := { parameters := [.int, .int], returnType := some .boolean }, accessFlags := 9, code := some k1c2 }
/-- com/example/keyclasp/keyclasp/core/KeyTypeOfCodePinLaw -/
def k1 : Class := { plain "com/example/keyclasp/keyclasp/core/KeyTypeOfCodePinLaw" (some 0) with
  accessFlags := 49
  interfaces := #[]
  cf := some (fileOf pool1 21 #[] #[{ accessFlags := 1, nameIndex := 5, descriptorIndex := 6, attributes := #[] }, { accessFlags := 10, nameIndex := 24, descriptorIndex := 19, attributes := #[] }, { accessFlags := 9, nameIndex := 28, descriptorIndex := 29, attributes := #[] }] 49 2 #[] #[])
  fields := #[]
  methods := #[k1m0, k1m1, k1m2]
  instanceTypes := #[]
  staticTypes := #[]
  resolved := Array.replicate 32 none
  statics := none }

def pool2 : Array CpInfo := pool [(1, .class_ 2), (0, u "java/lang/constant/Constable"), (0, .class_ 4), (0, u "java/lang/Object")] 6

/-- java/lang/constant/Constable -/
def k2 : Class := { plain "java/lang/constant/Constable" (some 0) with
  accessFlags := 1537
  interfaces := #[]
  cf := some (fileOf pool2 1 #[] #[] 1537 3 #[] #[])
  fields := #[]
  methods := #[]
  instanceTypes := #[]
  staticTypes := #[]
  resolved := Array.replicate 11 none
  statics := none }

def pool3 : Array CpInfo := pool [(1, .class_ 2), (0, u "java/lang/Comparable"), (0, .class_ 4), (0, u "java/lang/Object")] 7

/-- java/lang/Comparable -/
def k3 : Class := { plain "java/lang/Comparable" (some 0) with
  accessFlags := 1537
  interfaces := #[]
  cf := some (fileOf pool3 1 #[] #[] 1537 3 #[] #[])
  fields := #[]
  methods := #[]
  instanceTypes := #[]
  staticTypes := #[]
  resolved := Array.replicate 12 none
  statics := none }

def pool4 : Array CpInfo := pool [(1, .class_ 2), (0, u "java/io/Serializable"), (0, .class_ 4), (0, u "java/lang/Object")] 2

/-- java/io/Serializable -/
def k4 : Class := { plain "java/io/Serializable" (some 0) with
  accessFlags := 1537
  interfaces := #[]
  cf := some (fileOf pool4 1 #[] #[] 1537 3 #[] #[])
  fields := #[]
  methods := #[]
  instanceTypes := #[]
  staticTypes := #[]
  resolved := Array.replicate 7 none
  statics := none }

def pool5 : Array CpInfo := pool [(2, .class_ 4), (1, u "java/lang/Enum"), (0, u "name"), (0, u "Ljava/lang/String;"), (2, u "ordinal"), (0, u "I"), (1, .class_ 14), (1, u "java/lang/Object"), (4, u "hash"), (86, .class_ 108), (1, u "java/lang/Enum$EnumDesc"), (2, .class_ 112), (0, u "java/lang/constant/Constable"), (0, .class_ 114), (0, u "java/lang/Comparable"), (0, .class_ 116), (0, u "java/io/Serializable")] 87

/-- java/lang/Enum -/
def k5 : Class := { plain "java/lang/Enum" (some 0) with
  accessFlags := 1057
  interfaces := #[2, 3, 4]
  cf := some (fileOf pool5 2 #[.nestMembers #[106]] #[] 1057 12 #[111, 113, 115] #[{ accessFlags := 18, nameIndex := 5, descriptorIndex := 6, attributes := #[] }, { accessFlags := 18, nameIndex := 9, descriptorIndex := 10, attributes := #[] }, { accessFlags := 2, nameIndex := 19, descriptorIndex := 10, attributes := #[] }])
  fields := #[{ name := "name", type := (.object "java/lang/String"), accessFlags := 18, slot := 0, constantValue := 0 }, { name := "ordinal", type := .int, accessFlags := 18, slot := 1, constantValue := 0 }, { name := "hash", type := .int, accessFlags := 2, slot := 2, constantValue := 0 }]
  methods := #[]
  instanceTypes := #[(.object "java/lang/String"), .int, .int]
  staticTypes := #[]
  resolved := Array.replicate 204 none
  statics := none }

def pool6 : Array CpInfo := pool [(1, .class_ 2), (0, u "com/example/keyclasp/keyclasp/core/KeyType"), (2, u "RABIN"), (0, u "Lcom/example/keyclasp/keyclasp/core/KeyType;"), (2, u "EC_P256"), (0, .fieldref 1 11), (0, .nameAndType 12 13), (0, u "$VALUES"), (0, u "[Lcom/example/keyclasp/keyclasp/core/KeyType;"), (0, .methodref 15 16), (0, .class_ 13), (0, .nameAndType 17 18), (0, u "clone"), (0, u "()Ljava/lang/Object;"), (1, .class_ 22), (1, u "java/lang/Enum"), (6, .fieldref 1 30), (0, .nameAndType 31 32), (0, u "code"), (0, u "I"), (2, u "label"), (0, u "Ljava/lang/String;"), (2, u "bytesName"), (0, .methodref 1 41), (0, .nameAndType 42 43), (0, u "values"), (0, u "()[Lcom/example/keyclasp/keyclasp/core/KeyType;"), (22, u "ofCode"), (0, u "(I)Lcom/example/keyclasp/keyclasp/core/KeyType;")] 8

def k6c0 : Code := { maxStack := 1, maxLocals := 0, code := prog_10_method_1_code, exceptionTable := #[], attributes := #[] }
def k6m0 : Method := { name := "values", desc := "()[Lcom/example/keyclasp/keyclasp/core/KeyType;", sig := { parameters := [], returnType := some (.array (.object "com/example/keyclasp/keyclasp/core/KeyType")) }, accessFlags := 9, code := some k6c0 }
def k6c1 : Code := { maxStack := 2, maxLocals := 5, code := prog_10_method_4_code, exceptionTable := #[], attributes := #[] }
def k6m1 : Method := { name := "ofCode", desc := "(I)Lcom/example/keyclasp/keyclasp/core/KeyType;", sig := { parameters := [.int], returnType := some (.object "com/example/keyclasp/keyclasp/core/KeyType") }, accessFlags := 8, code := some k6c1 }
/-- com/example/keyclasp/keyclasp/core/KeyType -/
def k6 : Class := { plain "com/example/keyclasp/keyclasp/core/KeyType" (some 5) with
  accessFlags := 16433
  interfaces := #[]
  cf := some (fileOf pool6 1 #[] #[{ accessFlags := 9, nameIndex := 42, descriptorIndex := 43, attributes := #[] }, { accessFlags := 8, nameIndex := 66, descriptorIndex := 67, attributes := #[] }] 16433 20 #[] #[{ accessFlags := 16409, nameIndex := 5, descriptorIndex := 6, attributes := #[] }, { accessFlags := 16409, nameIndex := 9, descriptorIndex := 6, attributes := #[] }, { accessFlags := 18, nameIndex := 31, descriptorIndex := 32, attributes := #[] }, { accessFlags := 18, nameIndex := 35, descriptorIndex := 36, attributes := #[] }, { accessFlags := 18, nameIndex := 39, descriptorIndex := 36, attributes := #[] }, { accessFlags := 4122, nameIndex := 12, descriptorIndex := 13, attributes := #[] }])
  fields := #[{ name := "RABIN", type := (.object "com/example/keyclasp/keyclasp/core/KeyType"), accessFlags := 16409, slot := 0, constantValue := 0 }, { name := "EC_P256", type := (.object "com/example/keyclasp/keyclasp/core/KeyType"), accessFlags := 16409, slot := 1, constantValue := 0 }, { name := "code", type := .int, accessFlags := 18, slot := 3, constantValue := 0 }, { name := "label", type := (.object "java/lang/String"), accessFlags := 18, slot := 4, constantValue := 0 }, { name := "bytesName", type := (.object "java/lang/String"), accessFlags := 18, slot := 5, constantValue := 0 }, { name := "$VALUES", type := (.array (.object "com/example/keyclasp/keyclasp/core/KeyType")), accessFlags := 4122, slot := 2, constantValue := 0 }]
  methods := #[k6m0, k6m1]
  instanceTypes := #[(.object "java/lang/String"), .int, .int, .int, (.object "java/lang/String"), (.object "java/lang/String")]
  staticTypes := #[(.object "com/example/keyclasp/keyclasp/core/KeyType"), (.object "com/example/keyclasp/keyclasp/core/KeyType"), (.array (.object "com/example/keyclasp/keyclasp/core/KeyType"))]
  resolved := Array.replicate 76 none
  statics := some 0 }

def pool7 : Array CpInfo := pool [(1, .class_ 2), (0, u "java/lang/Cloneable"), (0, .class_ 4), (0, u "java/lang/Object")] 2

/-- java/lang/Cloneable -/
def k7 : Class := { plain "java/lang/Cloneable" (some 0) with
  accessFlags := 1537
  interfaces := #[]
  cf := some (fileOf pool7 1 #[] #[] 1537 3 #[] #[])
  fields := #[]
  methods := #[]
  instanceTypes := #[]
  staticTypes := #[]
  resolved := Array.replicate 7 none
  statics := none }

/-- the primitive byte -/
def k8 : Class := { plain "byte" none with kind := .primitive 'B', accessFlags := 0x411 }
/-- [B -/
def k9 : Class := { plain "[B" (some 0) with kind := .array 8 .byte, interfaces := #[7, 4], accessFlags := 1041 }

/-- the primitive int -/
def k10 : Class := { plain "int" none with kind := .primitive 'I', accessFlags := 0x411 }
/-- [I -/
def k11 : Class := { plain "[I" (some 0) with kind := .array 10 .int, interfaces := #[7, 4], accessFlags := 1041 }

/-- [Lcom/example/keyclasp/keyclasp/core/KeyType; -/
def k12 : Class := { plain "[Lcom/example/keyclasp/keyclasp/core/KeyType;" (some 0) with kind := .array 6 (.object "com/example/keyclasp/keyclasp/core/KeyType"), interfaces := #[7, 4], accessFlags := 1041 }

def heap : Heap := #[{ cls := 6, slots := #[.ref 2, .ref 3, .ref 1], vm := .statics 6 },
  { cls := 12, slots := #[.ref 2, .ref 3], vm := .none },
  { cls := 6, slots := #[.null, .int 0, .int 0, .int 1, .null, .null], vm := .none },
  { cls := 6, slots := #[.null, .int 1, .int 0, .int 2, .null, .null], vm := .none }]
def classes : Array Class := #[k0, k1, k2, k3, k4, k5, k6, k7, k8, k9, k10, k11, k12]
def interned : List (Array UInt16 × Addr) := []
def slotsUsed : Nat := 17
def theMethod : MethodId := ⟨1, 2⟩
def args0 : Array Value := #[.int 5, .int 7]
def aboutOver (below : List Frame) : State where
  vm := { classes := classes, interned := interned.toArray }
  heap := heap
  slotsUsed := slotsUsed
  threads := #[{ frames := .invoking theMethod args0 :: below }]
def below0 : List Frame := [.native { method := ⟨0, 0⟩, args := #[] }]
def about1 : State := aboutOver below0
def p0 : Program := .bare "" "" ""
def e0 : Env := launch0.env 0 0 0
theorem w_frames : about1.frames = Frame.invoking theMethod args0 :: below0 := rfl
set_option maxRecDepth 65536 in
theorem w_args : argsFit about1.vm theMethod args0 = true := by decide +kernel
set_option maxRecDepth 65536 in
theorem w_heap : heapFits about1 = true := by decide +kernel
set_option maxRecDepth 65536 in
theorem w_runnable : about1.curStatus? = some .runnable := by decide +kernel
set_option maxRecDepth 65536 in
theorem w_alone : about1.alone = true := by decide +kernel
set_option maxRecDepth 65536 in
theorem w_named : about1.methodNamed? x = some theMethod := by decide +kernel
set_option maxRecDepth 65536 in
theorem w_hears : about1.hears theMethod below0 = true := by decide +kernel
set_option maxRecDepth 65536 in
theorem w_ripe : about1.ripe theMethod args0 below0 = true := by decide +kernel
theorem w_running : about1.status = .running := rfl
set_option maxRecDepth 65536 in
theorem w_room : about1.hasRoom e0.platform room_1 = true :=
  launch0.hasRoom_least _ room_1 (by decide +kernel) (by decide +kernel) (by decide +kernel) (by decide +kernel) (by decide +kernel) (by decide +kernel)
theorem allAtoms_all (ts : List Jvm.Cond) (a : Array Jvm.Value) (st : Jvm.State) : (allAtoms ts).before a st = ts.all (fun c => c.before a st) := by
  induction ts with
  | nil => rfl
  | cons c t ih =>
    show (Jvm.Cond.and c (allAtoms t)).before a st = _
    rw [Jvm.Cond.before_and, ih, List.all_cons]
def words1 : List Jvm.Cond := Jvm.Cond.code x code maxLocals ret :: tables_1
/-- a 'code' word, met by the world's own term for the bytes: nothing is compared byte by byte -/
theorem code_word {y : MethodName} {bytes : ByteArray} {mx : Nat} {rt : Option FieldType} {a : Array Value} {s : State} {m : MethodId} {meth : Method} {c : Code} (h1 : s.methodNamed? y = some m) (h2 : s.vm.method? m = some meth) (h3 : meth.code = some c) (h4 : c.code = bytes)
    (h5 : (c.maxLocals == mx && c.exceptionTable.isEmpty && decide (c.maxStack ≤ mostOperands) && decide (meth.sig.returnType = rt) && !meth.locks && decide (parseMethodDescriptor y.desc = some meth.sig)) = true) : (Jvm.Cond.code y bytes mx rt).before a s = true := by
  simp only [Bool.and_eq_true, beq_iff_eq, Bool.not_eq_true', decide_eq_true_eq] at h5
  obtain ⟨⟨⟨⟨⟨g1, g2⟩, g3⟩, g4⟩, g5⟩, g6⟩ := h5
  simp [Cond.before, Cond.holds, Cond.value, h1, h2, h3, h4, g1, g2, g3, g4, g5, g6]
def isCode : Jvm.Cond → Bool
  | .code _ _ _ _ => true
  | _ => false
theorem all_split {L : List Jvm.Cond} {P : Jvm.Cond → Bool} (h1 : L.all (fun c => isCode c || P c) = true) (h2 : ∀ c ∈ L.filter isCode, P c = true) : L.all P = true := by
  refine List.all_eq_true.mpr fun c hc => ?_
  have h := List.all_eq_true.mp h1 c hc
  rcases Bool.eq_false_or_eq_true (isCode c) with hi | hi
  · exact h2 c (List.mem_filter.mpr ⟨hc, hi⟩)
  · simpa [hi] using h
set_option maxRecDepth 65536 in
theorem w_c0 : (Jvm.Cond.code x code maxLocals ret).before args0 about1 = true := code_word (m := ⟨1, 2⟩) (meth := k1m2) (c := k1c2) (by decide +kernel) rfl rfl rfl (by decide +kernel)
set_option maxRecDepth 65536 in
theorem w_c1 : (Jvm.Cond.code ({ cls := "com/example/keyclasp/keyclasp/core/KeyType", name := "ofCode", desc := "(I)Lcom/example/keyclasp/keyclasp/core/KeyType;" } : Jvm.MethodName) prog_10_method_4_code (5 : Nat) (Option.some (Jvm.ClassFile.FieldType.object "com/example/keyclasp/keyclasp/core/KeyType"))).before args0 about1 = true := code_word (m := ⟨6, 1⟩) (meth := k6m1) (c := k6c1) (by decide +kernel) rfl rfl rfl (by decide +kernel)
set_option maxRecDepth 65536 in
theorem w_c2 : (Jvm.Cond.code ({ cls := "com/example/keyclasp/keyclasp/core/KeyType", name := "values", desc := "()[Lcom/example/keyclasp/keyclasp/core/KeyType;" } : Jvm.MethodName) prog_10_method_1_code (0 : Nat) (Option.some (Jvm.ClassFile.FieldType.array (Jvm.ClassFile.FieldType.object "com/example/keyclasp/keyclasp/core/KeyType")))).before args0 about1 = true := code_word (m := ⟨6, 0⟩) (meth := k6m0) (c := k6c0) (by decide +kernel) rfl rfl rfl (by decide +kernel)
set_option maxRecDepth 65536 in
theorem w_c3 : (Jvm.Cond.code ({ cls := "com/example/keyclasp/keyclasp/core/KeyTypeOfCodePinLaw", name := "expected", desc := "(I)Lcom/example/keyclasp/keyclasp/core/KeyType;" } : Jvm.MethodName) method_2_code (1 : Nat) (Option.some (Jvm.ClassFile.FieldType.object "com/example/keyclasp/keyclasp/core/KeyType"))).before args0 about1 = true := code_word (m := ⟨1, 1⟩) (meth := k1m1) (c := k1c1) (by decide +kernel) rfl rfl rfl (by decide +kernel)
def codes1 : List Jvm.Cond := [Jvm.Cond.code x code maxLocals ret, Jvm.Cond.code ({ cls := "com/example/keyclasp/keyclasp/core/KeyType", name := "ofCode", desc := "(I)Lcom/example/keyclasp/keyclasp/core/KeyType;" } : Jvm.MethodName) prog_10_method_4_code (5 : Nat) (Option.some (Jvm.ClassFile.FieldType.object "com/example/keyclasp/keyclasp/core/KeyType")), Jvm.Cond.code ({ cls := "com/example/keyclasp/keyclasp/core/KeyType", name := "values", desc := "()[Lcom/example/keyclasp/keyclasp/core/KeyType;" } : Jvm.MethodName) prog_10_method_1_code (0 : Nat) (Option.some (Jvm.ClassFile.FieldType.array (Jvm.ClassFile.FieldType.object "com/example/keyclasp/keyclasp/core/KeyType"))), Jvm.Cond.code ({ cls := "com/example/keyclasp/keyclasp/core/KeyTypeOfCodePinLaw", name := "expected", desc := "(I)Lcom/example/keyclasp/keyclasp/core/KeyType;" } : Jvm.MethodName) method_2_code (1 : Nat) (Option.some (Jvm.ClassFile.FieldType.object "com/example/keyclasp/keyclasp/core/KeyType"))]
set_option maxRecDepth 65536 in
theorem codes_eq : words1.filter isCode = codes1 := rfl
theorem w_codes : ∀ c ∈ words1.filter isCode, c.before args0 about1 = true := by
  rw [codes_eq]
  intro c hc
  simp only [codes1, List.mem_cons, List.not_mem_nil, or_false] at hc
  rcases hc with rfl | rfl | rfl | rfl
  · exact w_c0
  · exact w_c1
  · exact w_c2
  · exact w_c3
set_option maxRecDepth 65536 in
theorem w_t1 : (words1.take 24).all (fun c => isCode c || c.before args0 about1) = true := by decide +kernel
set_option maxRecDepth 65536 in
theorem w_t2 : (words1.drop 24).all (fun c => isCode c || c.before args0 about1) = true := by decide +kernel
theorem w_tables : (allAtoms (Jvm.Cond.code x code maxLocals ret :: tables_1)).before args0 about1 = true := by
  rw [allAtoms_all]
  show words1.all (fun c => c.before args0 about1) = true
  refine all_split ?_ w_codes
  rw [← List.take_append_drop 24 words1, List.all_append, w_t1, w_t2]
  rfl
set_option maxRecDepth 65536 in
theorem w_case : (Jvm.Cond.and given_1 narrow_1).before args0 about1 = true := by decide +kernel
theorem w_applies : (headSpec (Jvm.Cond.code x code maxLocals ret :: tables_1) room_1).applies x e0.platform about1 = true :=
  (Spec.applies_iff w_frames).mpr ⟨w_running, w_runnable, w_alone, w_named, w_hears, w_ripe, w_room, w_tables⟩
theorem atStart : AtStart classFile x code maxLocals ret World_1 tables_1 room_1 Calls_1 rest_1 Pre_1 launch0 p0 e0 about1 theMethod args0 below0 :=
  ⟨lists_1, trivial, launch0.admits_env _ _ _, launch0.least_env, fairChoices_fair.cas, fairChoices_fair.clock, w_frames, w_args, w_heap, w_applies, trivial, trivial, w_case⟩
end start1
theorem witness_1 : WitnessClaimed_1 := ⟨start1.p0, start1.e0, start1.about1, start1.theMethod, start1.args0, start1.below0, start1.atStart⟩
end Jvm.Pilot.@@N@@
