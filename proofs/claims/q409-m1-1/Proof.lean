import JvmDerived
import JvmDerived.Pilot.@@N@@Statement
import JvmDerived.Pilot.@@N@@Code
set_option linter.unusedVariables false
set_option linter.unusedSimpArgs false
namespace Jvm.RoadKit
open Sem ClassFile Op Lib Jvm.Stand Jvm.Free Jvm.LawKit
section New
variable {p : Program} {l : Launch} {e : Env} {R : Room} {s : State} {m : MethodId} {args : Array Value} {below : List Frame} {meth : Method} {c : Code} {T : State} {locs : List Loc} {cells slots : Nat}
theorem retI (X : Stand p l e R s m args below meth c T locs cells slots) (hx : p.tables.exec = Jvm.exec) {pc : Nat} {Ls : Array Slot} {z : Int32} {rest : List Value} (hret : meth.sig.returnType = some .int) (hd : decode c.code pc = .ok (.ireturn, 1)) {fs : List Frame}
    (hl : ∀ (f : JFrame) (acts : List Action), f.method = m → f.locked = none → f.entered = [] → (doReturn e (T.setTop f) acts (some (.int z))).1 = T.setFrames fs) : Steps p.tables e below (T.setTop (mkF m pc Ls (.int z :: rest))) (T.setFrames fs) := by
  have hm' : T.vm.method? m = some meth := X.method'
  have hn : narrow .int (.int z) = .int z := rfl
  show Steps p.tables e below (T.setTop { method := m, pc := pc, locals := Ls, stack := _ :: rest, locked := none }) _
  jvm_step X.here [X.here.top, hx, hd, hm', hret, hn]
  first | (intro acts; rw [hl _ acts rfl rfl rfl]) | rw [hl _ _ rfl rfl rfl]
  exact Steps.refl _
end New
end Jvm.RoadKit
namespace Jvm.Pilot.@@N@@
open Jvm Jvm.ClassFile Sem Op Lib Jvm.Free Jvm.Stand Jvm.LawKit Jvm.RoadKit Bundle Jvm.Pilot.@@N@@.Jvm.D
theorem own_selp {s : State} {args : Array Value} {y : MethodName} {n : Nat} (wi : (Jvm.Cond.instantiable y.cls n).before args s = true) (hp : s.PrivateAt y) (hi : (Jvm.Cond.instanceMethod y).before args s = true) (hy : y.cls ≠ "java/lang/invoke/MethodHandle" ∧ y.cls ≠ "java/lang/invoke/VarHandle") : (Jvm.Cond.selects y.cls y y).before args s = true := by
  obtain ⟨c, k, h1, h2, h3, h4, -⟩ := Cond.instantiable_spec wi
  exact selects_self_of_private h1 h2 (Bool.or_eq_false_iff.mp h4).1 hp hi hy
theorem own_cat {v : Value} (h : v.isRef = true) : v.category = 1 := by rcases ref_cases h with rfl | ⟨_, rfl⟩ <;> rfl
theorem own_ltL {x y : Int64} (h : x < y) : ifCond.holds .lt (lcmpW x y) = true ∧ ifCond.holds .ge (lcmpW x y) = false ∧ ifCond.holds .gt (lcmpW y x) = true ∧ ifCond.holds .le (lcmpW y x) = false :=
  ⟨(if0 _ _).trans (tlt ((lw_lt x y).mpr h)).1, (if0 _ _).trans (tlt ((lw_lt x y).mpr h)).2.1, (if0 _ _).trans (tlt ((lw_gt y x).mpr h)).2.2.1, (if0 _ _).trans (tlt ((lw_gt y x).mpr h)).2.2.2⟩
theorem own_fltL {x y : Int64} (h : ¬ x < y) : ifCond.holds .lt (lcmpW x y) = false ∧ ifCond.holds .ge (lcmpW x y) = true ∧ ifCond.holds .gt (lcmpW y x) = false ∧ ifCond.holds .le (lcmpW y x) = true :=
  ⟨(if0 _ _).trans (flt (fun q => h ((lw_lt x y).mp q))).1, (if0 _ _).trans (flt (fun q => h ((lw_lt x y).mp q))).2.1, (if0 _ _).trans (flt (fun q => h ((lw_gt y x).mp q))).2.2.1, (if0 _ _).trans (flt (fun q => h ((lw_gt y x).mp q))).2.2.2⟩
theorem own_eqL {x y : Int64} (h : x = y) : ifCond.holds .eq (lcmpW x y) = true ∧ ifCond.holds .ne (lcmpW x y) = false :=
  ⟨(if0 _ _).trans (teq ((lw_eq x y).mpr h)).1, (if0 _ _).trans (teq ((lw_eq x y).mpr h)).2⟩
theorem own_neL {x y : Int64} (h : ¬ x = y) : ifCond.holds .eq (lcmpW x y) = false ∧ ifCond.holds .ne (lcmpW x y) = true :=
  ⟨(if0 _ _).trans (feq (fun q => h ((lw_eq x y).mp q))).1, (if0 _ _).trans (feq (fun q => h ((lw_eq x y).mp q))).2⟩

theorem own_fin {c : Int32} {N : Nat} (h0 : 0 ≤ c.toInt) (h1 : c.toInt < N) (hN : N ≤ 2147483648) : ∃ n : Fin N, c = n.1.toInt32 := by
  refine ⟨⟨c.toInt.toNat, by omega⟩, ?_⟩
  apply Int32.toInt_inj.mp
  rw [len_toInt (by show c.toInt.toNat < 2 ^ 31; omega)]
  show c.toInt = ((c.toInt.toNat : Nat) : Int)
  omega
theorem own_lt {x y : Int32} (h : x < y) : x.toInt < y.toInt := Int32.lt_iff_toInt_lt.mp h
theorem own_nlt' {x y : Int32} (h : ¬ x < y) : y.toInt ≤ x.toInt := by rw [Int32.lt_iff_toInt_lt] at h; omega
theorem own_nlt {x y : Int32} {k : Int} (h : k ≤ x.toInt) (hk : y.toInt ≤ k) : ¬ x < y := by rw [Int32.lt_iff_toInt_lt]; omega
theorem own_gt {x y : Int32} {k : Int} (h : k ≤ x.toInt) (hk : y.toInt < k) : y < x := by rw [Int32.lt_iff_toInt_lt]; omega
theorem own_ne {x y : Int32} {k : Int} (h : k ≤ x.toInt) (hk : y.toInt < k) : ¬ x = y := by rintro rfl; omega
theorem own_gtn {x y : Int32} {k : Int} (h : x.toInt < k) (hk : k ≤ y.toInt) : x < y := by rw [Int32.lt_iff_toInt_lt]; omega
theorem own_nel {x y : Int32} {k : Int} (h : x.toInt < k) (hk : k ≤ y.toInt) : ¬ x = y := by rintro rfl; omega
theorem own_lt' {x y : Int32} (h : x < y) : x.toInt + 1 ≤ y.toInt := by have := own_lt h; omega
theorem own_le' {x y : Int32} (h : ¬ y < x) : x.toInt < y.toInt + 1 := by have := own_nlt' h; omega

def own_A (Z : State) (h : Heap) (a : Addr) (ty : FieldType) (n : Nat) (f : Nat → Value) : Prop := ∃ c : Cell, Arr Z h a c ty ∧ c.slots.size = n ∧ ∀ j, j < n → c.slots[j]? = some (f j)
section OwnA
variable {Z : State} {h h' : Heap} {a b : Addr} {ty : FieldType} {n sl : Nat} {f : Nat → Value} {v : Value} {ws : List Addr}
theorem own_A.lt (F : own_A Z h a ty n f) : a < h.size := by obtain ⟨c, A, -⟩ := F; exact A.lt
theorem own_A.ext (F : own_A Z h a ty n f) (E : Ext h h') : own_A Z h' a ty n f := by obtain ⟨c, A, r⟩ := F; exact ⟨c, A.ext E, r⟩
theorem own_A.other (F : own_A Z h b ty n f) (W : Wr h h' a sl v) (q : b ≠ a) : own_A Z h' b ty n f := by obtain ⟨c, A, r⟩ := F; exact ⟨c, A.other W q, r⟩
theorem own_A.keep (F : own_A Z h a ty n f) (K : Keep h h' ws) (q : a ∉ ws) : own_A Z h' a ty n f := by obtain ⟨c, A, r⟩ := F; exact ⟨c, ⟨K.2.1 a c A.1 q, A.2⟩, r⟩
theorem own_A.set (F : own_A Z h a ty n f) (W : Wr h h' a sl v) : own_A Z h' a ty n (fun i => if i = sl then v else f i) := by
  obtain ⟨c, A, S, H⟩ := F
  refine ⟨_, A.same W, (sz_set _ _ _).trans S, fun j hj => ?_⟩
  by_cases e : j = sl
  · subst e
    simp only [Cell.setSlot, if_true]
    rw [Array.getElem?_setIfInBounds_self_of_lt (by omega)]
  · simp only [Cell.setSlot, if_neg e]
    rw [Array.getElem?_setIfInBounds_ne (Ne.symm e)]
    exact H j hj
theorem own_A.eqv {g : Nat → Value} (F : own_A Z h a ty n f) (e : ∀ j, j < n → f j = g j) : own_A Z h a ty n g := by
  obtain ⟨c, A, S, H⟩ := F
  exact ⟨c, A, S, fun j hj => (e j hj) ▸ H j hj⟩
theorem own_A.setI {g : Nat → Int32} {x : Int32} (F : own_A Z h a ty n (fun i => .int (g i))) (W : Wr h h' a sl (.int x)) : own_A Z h' a ty n (fun i => .int (if i = sl then x else g i)) :=
  (F.set W).eqv fun j _ => by
    by_cases e : j = sl
    · simp only [if_pos e]
    · simp only [if_neg e]
theorem own_A.setJ {g : Nat → Int64} {x : Int64} (F : own_A Z h a ty n (fun i => .long (g i))) (W : Wr h h' a sl (.long x)) : own_A Z h' a ty n (fun i => .long (if i = sl then x else g i)) :=
  (F.set W).eqv fun j _ => by
    by_cases e : j = sl
    · simp only [if_pos e]
    · simp only [if_neg e]
theorem own_A.new {k : ClassId} {z : Int32} (A : Arr Z h a (newA k ty z) ty) : own_A Z h a ty z.toNatClampNeg (fun _ => defaultValue ty) :=
  ⟨_, A, sz_new _ _ _, fun j hj => by simp [newA, hj]⟩
end OwnA
theorem own_in {c : Cell} {n : Nat} {j : Int32} (S : c.slots.size = n) (h : 0 ≤ j.toInt ∧ j.toInt < n) : ¬ (j < 0 ∨ c.slots.size ≤ j.toNatClampNeg) := by
  rw [S, Int32.lt_iff_toInt_lt, show (0 : Int32).toInt = 0 from rfl]
  have e : j.toNatClampNeg = j.toInt.toNat := rfl
  rw [e]; omega
theorem own_ix {n : Nat} {j : Int32} (h : 0 ≤ j.toInt ∧ j.toInt < n) : j.toNatClampNeg < n := by
  have e : j.toNatClampNeg = j.toInt.toNat := rfl
  rw [e]; omega
theorem own_len {c : Cell} {n : Nat} {z : Int32} (S : c.slots.size = n) (h : n.toInt32 = z) : c.slots.size.toInt32 = z := by rw [S]; exact h
def own_O (Z : State) (h : Heap) (a : Addr) (C : String) : Prop := ∃ c : Cell, h[a]? = some c ∧ Ovr Z c.cls C
theorem own_O.ext {Z : State} {h h' : Heap} {a : Addr} {C : String} (F : own_O Z h a C) (E : Ext h h') : own_O Z h' a C := by obtain ⟨c, h1, o⟩ := F; exact ⟨c, E.2 _ _ h1, o⟩
theorem own_O.wr {Z : State} {h h' : Heap} {a b : Addr} {C : String} {sl : Nat} {v : Value} (F : own_O Z h a C) (W : Wr h h' b sl v) : own_O Z h' a C := by
  obtain ⟨c, h1, o⟩ := F
  obtain ⟨c', e1, e2, -⟩ := wr_at W h1
  exact ⟨c', e1, e2 ▸ o⟩
theorem own_sto {Z : State} {h : Heap} {a y : Addr} {cl : Cell} {ty : FieldType} {C : String} (A : Arr Z h a cl ty) (O : own_O Z h a C) (I : Ins Z h y C true) : Sto Z h a (.ref y) := by
  obtain ⟨c, h1, o⟩ := O
  cases A.1.symm.trans h1
  exact Sto.of A o I


theorem own_tn {n : Nat} (h : n < 2147483648) : (n.toInt32).toNatClampNeg = n := by
  simp only [Int32.toNatClampNeg, len_toInt (show n < 2 ^ 31 from h)]; rfl
theorem own_ti {n : Nat} (h : n < 2147483648) : (n.toInt32).toInt = n := len_toInt (show n < 2 ^ 31 from h)
theorem own_ltn {a b : Nat} (ha : a < 2147483648) (hb : b < 2147483648) : a.toInt32 < b.toInt32 ↔ a < b := by
  rw [Int32.lt_iff_toInt_lt, own_ti ha, own_ti hb]; omega
theorem own_bd {n m : Nat} (h : n < m) (hm : m < 2147483648) : 0 ≤ (n.toInt32).toInt ∧ (n.toInt32).toInt < (m : Nat) := by
  rw [own_ti (by omega)]; omega
theorem own_inc (n : Nat) : n.toInt32 + (1 : Int32) = (n + 1).toInt32 := (Int32.ofNat_add n 1).symm
theorem own_dec (n : Nat) : (n + 1).toInt32 - (1 : Int32) = n.toInt32 := by rw [← own_inc, Int32.add_sub_cancel]

def own_u (f : Nat → Nat) (k v : Nat) : Nat → Nat := fun j => if j = k then v else f j
theorem own_u_same (f : Nat → Nat) (k v : Nat) : own_u f k v k = v := by simp [own_u]
theorem own_u_ne {f : Nat → Nat} {k v j : Nat} (h : j ≠ k) : own_u f k v j = f j := by simp [own_u, h]
def own_pl (k : Nat) : Int32 := k.toInt32 - 1
theorem own_pl_succ (k : Nat) : own_pl (k + 1) = k.toInt32 := own_dec k
theorem own_pl_neg {k : Nat} (h : k < 2147483648) : own_pl k < 0 ↔ k = 0 := by
  cases k with
  | zero => exact ⟨fun _ => rfl, fun _ => by decide⟩
  | succ k =>
    rw [own_pl_succ, Int32.lt_iff_toInt_lt, own_ti (by omega), show (0 : Int32).toInt = 0 from rfl]
    omega
/-- n items stand in it; pl is one more than an item's place, or 0 -/
def own_IV (c n : Nat) (it pl : Nat → Nat) : Prop := n ≤ c ∧ (∀ j, j < c → it j < c) ∧ (∀ j, j < n → pl (it j) = j + 1) ∧ ∀ x, x < c → pl x = 0 ∨ ∃ j, j < n ∧ pl x = j + 1 ∧ it j = x
/-- the place i is a hole for x; p0: who was held -/
def own_HO (c n i x : Nat) (it pl p0 : Nat → Nat) : Prop := i < n ∧ x < c ∧ own_IV c n (own_u it i x) (own_u pl x (i + 1)) ∧ ∀ y, y < c → (own_u pl x (i + 1) y = 0 ↔ p0 y = 0)
section OwnIx
variable {c n i a x : Nat} {it pl p0 : Nat → Nat}
theorem own_HO0 (h : own_IV c n it pl) (hi : i < n) : own_HO c n i (it i) it pl pl := by
  obtain ⟨h1, h2, h3, h4⟩ := h
  have e1 : own_u it i (it i) = it := funext fun j => by unfold own_u; split <;> simp_all
  have e2 : own_u pl (it i) (i + 1) = pl := funext fun j => by
    unfold own_u
    split
    · rename_i q; rw [q, h3 i hi]
    · rfl
  refine ⟨hi, h2 i (by omega), ?_, ?_⟩
  · rw [e1, e2]; exact ⟨h1, h2, h3, h4⟩
  · rw [e2]; exact fun y _ => Iff.rfl
theorem own_HO_it (H : own_HO c n i x it pl p0) (ha : a < n) (hne : a ≠ i) : it a < c := by
  have q := H.2.2.1.2.1 a (by have := H.2.2.1.1; omega)
  rwa [own_u_ne hne] at q
theorem own_HO_mv (H : own_HO c n i x it pl p0) (ha : a < n) (hne : a ≠ i) : own_HO c n a x (own_u it i (it a)) (own_u pl (it a) (i + 1)) p0 := by
  have hac := own_HO_it H ha hne
  obtain ⟨hi, hx, ⟨h1, h2, h3, h4⟩, h5⟩ := H
  have ea : own_u pl x (i + 1) (it a) = a + 1 := by have q := h3 a ha; rwa [own_u_ne hne] at q
  have hax : it a ≠ x := fun q => by rw [q, own_u_same] at ea; omega
  have hpa : pl (it a) = a + 1 := by rwa [own_u_ne hax] at ea
  refine ⟨ha, hx, ⟨h1, fun j hj => ?_, fun j hj => ?_, fun y hy => ?_⟩, fun y hy => ?_⟩
  · by_cases q1 : j = a
    · rw [q1, own_u_same]; exact hx
    · rw [own_u_ne q1]
      by_cases q2 : j = i
      · rw [q2, own_u_same]; exact hac
      · rw [own_u_ne q2]
        have q := h2 j hj
        rwa [own_u_ne q2] at q
  · by_cases q1 : j = a
    · rw [q1, own_u_same, own_u_same]
    · rw [own_u_ne q1]
      by_cases q2 : j = i
      · rw [q2, own_u_same, own_u_ne hax, own_u_same]
      · rw [own_u_ne q2]
        have q := h3 j hj
        rw [own_u_ne q2] at q
        have n1 : it j ≠ x := fun r => by rw [r, own_u_same] at q; omega
        have n2 : it j ≠ it a := fun r => by rw [r, ea] at q; omega
        rw [own_u_ne n1, own_u_ne n2]
        rwa [own_u_ne n1] at q
  · by_cases q1 : y = x
    · exact Or.inr ⟨a, ha, by rw [q1, own_u_same], by rw [own_u_same, q1]⟩
    · by_cases q2 : y = it a
      · exact Or.inr ⟨i, hi, by rw [q2, own_u_ne hax, own_u_same], by rw [own_u_ne (Ne.symm hne), own_u_same, q2]⟩
      · rw [own_u_ne q1, own_u_ne q2]
        have q := h4 y hy
        rw [own_u_ne q1] at q
        rcases q with q | ⟨j, j1, j2, j3⟩
        · exact Or.inl q
        · refine Or.inr ⟨j, j1, j2, ?_⟩
          have n1 : j ≠ i := fun r => by rw [r, own_u_same] at j3; exact q1 j3.symm
          rw [own_u_ne n1] at j3
          have n2 : j ≠ a := fun r => q2 (by rw [← j3, r])
          rw [own_u_ne n2, own_u_ne n1]
          exact j3
  · have q := h5 y hy
    by_cases q1 : y = x
    · rw [q1, own_u_same] at q ⊢
      exact ⟨fun r => by omega, fun r => absurd (q.mpr r) (by omega)⟩
    · rw [own_u_ne q1] at q ⊢
      by_cases q2 : y = it a
      · rw [q2, own_u_same]
        rw [q2, hpa] at q
        exact ⟨fun r => by omega, fun r => absurd (q.mpr r) (by omega)⟩
      · rw [own_u_ne q2]; exact q
theorem own_IV_put (h : own_IV c n it pl) (hx : x < c) (h0 : pl x = 0) (hn : n < c) : own_IV c (n + 1) (own_u it n x) (own_u pl x (n + 1)) := by
  obtain ⟨h1, h2, h3, h4⟩ := h
  refine ⟨hn, fun j hj => ?_, fun j hj => ?_, fun y hy => ?_⟩
  · by_cases q : j = n
    · rw [q, own_u_same]; exact hx
    · rw [own_u_ne q]; exact h2 j hj
  · by_cases q : j = n
    · rw [q, own_u_same, own_u_same]
    · rw [own_u_ne q]
      have r := h3 j (by omega)
      rw [own_u_ne (fun z => by rw [z, h0] at r; omega)]
      exact r
  · by_cases q : y = x
    · exact Or.inr ⟨n, by omega, by rw [q, own_u_same], by rw [own_u_same, q]⟩
    · rw [own_u_ne q]
      rcases h4 y hy with r | ⟨j, j1, j2, j3⟩
      · exact Or.inl r
      · exact Or.inr ⟨j, by omega, j2, by rw [own_u_ne (by omega)]; exact j3⟩
theorem own_held_put (hv : a ≠ 0) : ∀ y, y < c → (own_u pl x a y = 0 ↔ y ≠ x ∧ pl y = 0) := fun y _ => by
  by_cases q : y = x
  · rw [q, own_u_same]; exact ⟨fun r => absurd r hv, fun r => absurd rfl r.1⟩
  · rw [own_u_ne q]; exact ⟨fun r => ⟨q, r⟩, fun r => r.2⟩
theorem own_IV_held (h : own_IV c n it pl) (hx : x < c) (h0 : pl x ≠ 0) : ∃ j, j < n ∧ pl x = j + 1 ∧ it j = x := (h.2.2.2 x hx).resolve_left h0
theorem own_IV_rml (h : own_IV c n it pl) (hx : x < c) (hj : pl x = i + 1) (hn : i + 1 = n) (e : it i = x) : own_IV c (n - 1) it (own_u pl x 0) := by
  obtain ⟨h1, h2, h3, h4⟩ := h
  refine ⟨by omega, h2, fun j hj' => ?_, fun y hy => ?_⟩
  · have r := h3 j (by omega)
    rw [own_u_ne (fun z => by rw [z, hj] at r; omega)]
    exact r
  · by_cases q : y = x
    · exact Or.inl (by rw [q, own_u_same])
    · rw [own_u_ne q]
      rcases h4 y hy with r | ⟨j, j1, j2, j3⟩
      · exact Or.inl r
      · exact Or.inr ⟨j, by have : j ≠ i := (fun z => q (by rw [← j3, z, e])); omega, j2, j3⟩
theorem own_held_rm : ∀ y, y < c → (own_u pl x 0 y = 0 ↔ y = x ∨ pl y = 0) := fun y _ => by
  by_cases q : y = x
  · rw [q, own_u_same]; exact ⟨fun _ => Or.inl rfl, fun _ => rfl⟩
  · rw [own_u_ne q]; exact ⟨fun r => Or.inr r, fun r => r.resolve_left q⟩
theorem own_IV_rm (h : own_IV c n it pl) (hx : x < c) (hj : pl x = i + 1) (hn : i + 1 < n) (e : it i = x) : it (n - 1) < c ∧ own_IV c (n - 1) (own_u it i (it (n - 1))) (own_u (own_u pl x 0) (it (n - 1)) (i + 1)) ∧ ∀ y, y < c → (own_u (own_u pl x 0) (it (n - 1)) (i + 1) y = 0 ↔ y = x ∨ pl y = 0) := by
  obtain ⟨h1, h2, h3, h4⟩ := h
  have hl := h3 (n - 1) (by omega)
  have hlx : it (n - 1) ≠ x := fun q => by rw [q, hj] at hl; omega
  refine ⟨h2 _ (by omega), ⟨by omega, fun j hj' => ?_, fun j hj' => ?_, fun y hy => ?_⟩, fun y hy => ?_⟩
  · by_cases q : j = i
    · rw [q, own_u_same]; exact h2 _ (by omega)
    · rw [own_u_ne q]; exact h2 j hj'
  · by_cases q : j = i
    · rw [q, own_u_same, own_u_same]
    · rw [own_u_ne q]
      have r := h3 j (by omega)
      rw [own_u_ne (fun z => by rw [z, hl] at r; omega), own_u_ne (fun z => by rw [z, hj] at r; omega)]
      exact r
  · by_cases q : y = it (n - 1)
    · exact Or.inr ⟨i, by omega, by rw [q, own_u_same], by rw [own_u_same, q]⟩
    · rw [own_u_ne q]
      by_cases q2 : y = x
      · exact Or.inl (by rw [q2, own_u_same])
      · rw [own_u_ne q2]
        rcases h4 y hy with r | ⟨j, j1, j2, j3⟩
        · exact Or.inl r
        · have n1 : j ≠ i := fun z => q2 (by rw [← j3, z, e])
          have n2 : j ≠ n - 1 := fun z => q (by rw [← j3, z])
          exact Or.inr ⟨j, by omega, j2, by rw [own_u_ne n1]; exact j3⟩
  · by_cases q : y = it (n - 1)
    · rw [q, own_u_same, hl]
      exact ⟨fun r => by omega, fun r => r.elim (fun z => absurd z hlx) (fun z => by omega)⟩
    · rw [own_u_ne q]
      exact own_held_rm y hy
theorem own_IV_n0 (h : own_IV c n it pl) (hc : 0 < c) : n = 0 ↔ ∀ y, y < c → pl y = 0 := by
  obtain ⟨h1, h2, h3, h4⟩ := h
  constructor
  · intro q y hy
    rcases h4 y hy with r | ⟨j, j1, -⟩
    · exact r
    · omega
  · intro q
    rcases Nat.eq_zero_or_pos n with r | r
    · exact r
    · have z := h3 0 r
      rw [q _ (h2 0 hc)] at z
      omega
theorem own_IV_new (hp : ∀ y, y < c → pl y = 0) (hi : ∀ j, j < c → it j < c) : own_IV c 0 it pl := ⟨Nat.zero_le _, hi, fun j hj => absurd hj (Nat.not_lt_zero _), fun y hy => Or.inl (hp y hy)⟩
end OwnIx
theorem own_pig3 : ∀ a b c x : Fin 3, a ≠ b → a ≠ c → b ≠ c → x = a ∨ x = b ∨ x = c := by decide +kernel
theorem own_pig4 : ∀ a b c d x : Fin 4, a ≠ b → a ≠ c → a ≠ d → b ≠ c → b ≠ d → c ≠ d → x = a ∨ x = b ∨ x = c ∨ x = d := by decide +kernel
theorem own_room3 {n x : Nat} {it pl : Nat → Nat} (h : own_IV 3 n it pl) (hx : x < 3) (h0 : pl x = 0) : n < 3 := by
  obtain ⟨h1, h2, h3, -⟩ := h
  refine Classical.byContradiction fun q => ?_
  have e : n = 3 := by omega
  subst e
  have d : ∀ i j, i < 3 → j < 3 → i ≠ j → it i ≠ it j := fun i j a b r z => r (by have p1 := h3 i a; have p2 := h3 j b; rw [z] at p1; omega)
  have v : ∀ j, j < 3 → it j ≠ x := fun j hj z => by have p1 := h3 j hj; rw [z, h0] at p1; omega
  have k := own_pig3 ⟨it 0, h2 0 (by omega)⟩ ⟨it 1, h2 1 (by omega)⟩ ⟨it 2, h2 2 (by omega)⟩ ⟨x, hx⟩ (fun z => d 0 1 (by omega) (by omega) (by omega) (congrArg Fin.val z)) (fun z => d 0 2 (by omega) (by omega) (by omega) (congrArg Fin.val z)) (fun z => d 1 2 (by omega) (by omega) (by omega) (congrArg Fin.val z))
  rcases k with k | k | k
  · exact v 0 (by omega) (congrArg Fin.val k).symm
  · exact v 1 (by omega) (congrArg Fin.val k).symm
  · exact v 2 (by omega) (congrArg Fin.val k).symm
theorem own_room4 {n x : Nat} {it pl : Nat → Nat} (h : own_IV 4 n it pl) (hx : x < 4) (h0 : pl x = 0) : n < 4 := by
  obtain ⟨h1, h2, h3, -⟩ := h
  refine Classical.byContradiction fun q => ?_
  have e : n = 4 := by omega
  subst e
  have d : ∀ i j, i < 4 → j < 4 → i ≠ j → it i ≠ it j := fun i j a b r z => r (by have p1 := h3 i a; have p2 := h3 j b; rw [z] at p1; omega)
  have v : ∀ j, j < 4 → it j ≠ x := fun j hj z => by have p1 := h3 j hj; rw [z, h0] at p1; omega
  have k := own_pig4 ⟨it 0, h2 0 (by omega)⟩ ⟨it 1, h2 1 (by omega)⟩ ⟨it 2, h2 2 (by omega)⟩ ⟨it 3, h2 3 (by omega)⟩ ⟨x, hx⟩ (fun z => d 0 1 (by omega) (by omega) (by omega) (congrArg Fin.val z)) (fun z => d 0 2 (by omega) (by omega) (by omega) (congrArg Fin.val z)) (fun z => d 0 3 (by omega) (by omega) (by omega) (congrArg Fin.val z)) (fun z => d 1 2 (by omega) (by omega) (by omega) (congrArg Fin.val z)) (fun z => d 1 3 (by omega) (by omega) (by omega) (congrArg Fin.val z)) (fun z => d 2 3 (by omega) (by omega) (by omega) (congrArg Fin.val z))
  rcases k with k | k | k | k
  · exact v 0 (by omega) (congrArg Fin.val k).symm
  · exact v 1 (by omega) (congrArg Fin.val k).symm
  · exact v 2 (by omega) (congrArg Fin.val k).symm
  · exact v 3 (by omega) (congrArg Fin.val k).symm
section OwnIy
variable {Z : State} {h : Heap} {b : Addr} {c i x : Nat} {it pl : Nat → Nat}
theorem own_setit (F : own_A Z h b .int c (fun kk => (.int (if kk = ((i.toInt32) : Int32).toNatClampNeg then (x.toInt32) else ((it kk).toInt32))))) (hi : i < 2147483648) : own_A Z h b .int c (fun kk => (.int ((own_u it i x kk).toInt32))) :=
  F.eqv fun j _ => by
    rw [own_tn hi]; unfold own_u
    by_cases q : j = i
    · simp only [if_pos q]
    · simp only [if_neg q]
theorem own_setpl (F : own_A Z h b .int c (fun kk => (.int (if kk = ((x.toInt32) : Int32).toNatClampNeg then (i.toInt32) else (own_pl (pl kk)))))) (hx : x < 2147483648) : own_A Z h b .int c (fun kk => (.int (own_pl (own_u pl x (i + 1) kk)))) :=
  F.eqv fun j _ => by
    rw [own_tn hx]; unfold own_u
    by_cases q : j = x
    · simp only [if_pos q, own_pl_succ]
    · simp only [if_neg q]
theorem own_setno (F : own_A Z h b .int c (fun kk => (.int (if kk = ((x.toInt32) : Int32).toNatClampNeg then (-1 : Int32) else (own_pl (pl kk)))))) (hx : x < 2147483648) : own_A Z h b .int c (fun kk => (.int (own_pl (own_u pl x 0 kk)))) :=
  F.eqv fun j _ => by
    rw [own_tn hx]; unfold own_u
    by_cases q : j = x
    · simp only [if_pos q]; rfl
    · simp only [if_neg q]
end OwnIy
theorem own_par8 : ∀ i : Fin 8, 0 < i.1 → ((i.1.toInt32 - (1 : Int32)) / (2 : Int32)) = ((i.1 - 1) / 2).toInt32 := by decide +kernel
theorem own_two8 : ∀ i : Fin 8, (((2 : Int32) * i.1.toInt32) + (1 : Int32)) = (2 * i.1 + 1).toInt32 := by decide +kernel
def own_bfr (a b : Int64) (x y : Int32) : Int32 := if a < b then 1 else if a = b then (if x < y then 1 else 0) else 0


def own_uk (f : Nat → Int64) (k : Nat) (v : Int64) : Nat → Int64 := fun j => if j = k then v else f j
def own_z : Nat → Nat := fun _ => 0
def own_zk : Nat → Int64 := fun _ => 0
theorem own_setk {Z : State} {h : Heap} {b : Addr} {c i : Nat} {ky : Nat → Int64} {v : Int64} (F : own_A Z h b .long c (fun kk => (.long (if kk = ((i.toInt32) : Int32).toNatClampNeg then v else (ky kk))))) (hi : i < 2147483648) : own_A Z h b .long c (fun kk => (.long (own_uk ky i v kk))) :=
  F.eqv fun j _ => by
    rw [own_tn hi]; unfold own_uk
    by_cases q : j = i
    · simp only [if_pos q]
    · simp only [if_neg q]
theorem own_dec1 {n : Nat} (h : 0 < n) : n.toInt32 - (1 : Int32) = (n - 1).toInt32 := by
  cases n with
  | zero => omega
  | succ n => exact own_dec n
theorem own_held_old {c x : Nat} {pl : Nat → Nat} (h : pl x ≠ 0) : ∀ y, y < c → (pl y = 0 ↔ y ≠ x ∧ pl y = 0) := fun y _ => ⟨fun q => ⟨fun z => h (z ▸ q), q⟩, fun q => q.2⟩
theorem own_held_non {c x : Nat} {pl : Nat → Nat} (h : pl x = 0) : ∀ y, y < c → (pl y = 0 ↔ y = x ∨ pl y = 0) := fun y _ => ⟨fun q => Or.inr q, fun q => q.elim (fun z => z ▸ h) id⟩
theorem own_ne0 {n : Nat} (h : 0 < n) (hn : n < 2147483648) : ¬ n.toInt32 = (0 : Int32) := fun q => by
  have h2 := own_ti hn
  rw [q] at h2
  have q2 : (0 : Int32).toInt = 0 := by decide
  omega

theorem d3_0 : decode jdk_65_method_103_code 0 = .ok (.iconst 0, 1) := by decide +kernel
theorem d3_1 : decode jdk_65_method_103_code 1 = .ok (.istore_n 2, 1) := by decide +kernel
theorem d3_2 : decode jdk_65_method_103_code 2 = .ok (.aload_n 0, 1) := by decide +kernel
theorem d3_3 : decode jdk_65_method_103_code 3 = .ok (.arraylength, 1) := by decide +kernel
theorem d3_4 : decode jdk_65_method_103_code 4 = .ok (.istore_n 3, 1) := by decide +kernel
theorem d3_5 : decode jdk_65_method_103_code 5 = .ok (.iload_n 2, 1) := by decide +kernel
theorem d3_6 : decode jdk_65_method_103_code 6 = .ok (.iload_n 3, 1) := by decide +kernel
theorem d3_7 : decode jdk_65_method_103_code 7 = .ok (.if_icmp .ge 13, 3) := by decide +kernel
theorem d3_10 : decode jdk_65_method_103_code 10 = .ok (.aload_n 0, 1) := by decide +kernel
theorem d3_11 : decode jdk_65_method_103_code 11 = .ok (.iload_n 2, 1) := by decide +kernel
theorem d3_12 : decode jdk_65_method_103_code 12 = .ok (.iload_n 1, 1) := by decide +kernel
theorem d3_13 : decode jdk_65_method_103_code 13 = .ok (.iastore, 1) := by decide +kernel
theorem d3_14 : decode jdk_65_method_103_code 14 = .ok (.iinc 2 1, 3) := by decide +kernel
theorem d3_17 : decode jdk_65_method_103_code 17 = .ok (.goto (-12), 3) := by decide +kernel
theorem d3_20 : decode jdk_65_method_103_code 20 = .ok (.return_, 1) := by decide +kernel
theorem pn_0 : plainName "java/util/Arrays" = true := by first | (simp [plainName, overriddenIn]; done) | decide +kernel
theorem ef_3 (m : MethodId) (o0 : Addr) (p1 : Int32) : entryFrame m #[(.ref o0), (.int p1)] 4 = mkF m 0 #[.val (.ref o0), .val (.int p1), .unset, .unset] [] := by first | (simp [entryFrame, mkF, argsToLocals, Value.category]; done) | rfl

def Q3 (Z : State) (o0 : Addr) (p1 : Int32) (f0 : Nat → Int32) (h0 : Heap) (n0 : Nat) (v : Option Value) (h : Heap) (L : List Loc) : Prop := v = none ∧ Fr n0 L ∧ Keep h0 h [o0] ∧ (own_A Z h o0 .int 4 (fun kk => (.int p1)))
set_option maxRecDepth 65536 in
set_option maxHeartbeats 40000000 in
theorem rm3 (l : Launch) (Z : State) (a0 : Array Value) (hw : ∀ d ∈ tables_1, d.before a0 Z = true) (ws : List Jvm.Cond) (o0 : Addr) (p1 : Int32) (f0 : Nat → Int32) (h0 : Heap) (n0 : Nat) (Z0 : n0 ≤ h0.size) (A_o0 : own_A Z h0 o0 .int 4 (fun kk => (.int (f0 kk)))) (g_o0 : n0 ≤ o0) :
    MetFree l (⟨"java/util/Arrays", "fill", "([II)V"⟩ : MethodName) (head1 (Jvm.Cond.code (⟨"java/util/Arrays", "fill", "([II)V"⟩ : MethodName) jdk_65_method_103_code 4 none :: ws) ({ frames := 0, cells := 0, slots := 0, locals := 0 } : Room)) (fun a U => a = #[(.ref o0), (.int p1)] ∧ Z.Warmed39 U.vm ∧ U.heap = h0) (fun _ _ _ _ _ => True) (fun _ U o U' => ∃ v L, o = .returned v ∧ Q3 Z o0 p1 f0 h0 n0 v U'.heap L ∧ FrameEnd U o U' L ({ frames := 0, cells := 0, slots := 0, locals := 0 } : Room).cells ({ frames := 0, cells := 0, slots := 0, locals := 0 } : Room).slots) := by
  refine MetFree.of_bodySF (plainFor_of_name pn_0) hisR ?_
  intro p e s m args below meth c s₁ Bd hml0 hP hK
  obtain ⟨rfl, hZ, hh⟩ := hP
  have hx := Bd.exec
  have hby := Bd.bytes
  have hml : c.maxLocals = 4 := hml0
  have hown : s.vm.findClass "java/util/Arrays" = some m.cls := findClass_of_methodNamed Bd.named
  have hnm := (name_of_methodNamed Bd.named Bd.method).1
  have X0 : Stand p l e ({ frames := 0, cells := 0, slots := 0, locals := 0 } : Room) s m #[(.ref o0), (.int p1)] below meth c s₁ [] 0 0 := Stand.of_body Bd
  have e0 : s₁.heap = h0 := by rw [← hh, Bd.state]; rfl
  have N0 := Fr.nil n0
  have pre0 : ∀ t, Steps p.tables e below (s₁.setTop (mkF m 0 #[.val (.ref o0), .val (.int p1), .unset, .unset] [])) t → Steps p.tables e below (s₁.setTop (entryFrame m #[(.ref o0), (.int p1)] 4)) t := fun t k => castTop (ef_3 m o0 p1) k
  have qa1 := A_o0
  obtain ⟨c1, Ar1, Sz1, H1⟩ := qa1
  have qa2 := A_o0
  obtain ⟨c2, Ar2, Sz2, H2⟩ := qa2
  have hi3 : 0 ≤ ((0 : Int32) : Int32).toInt ∧ ((0 : Int32) : Int32).toInt < (4 : Nat) := (by decide)
  obtain ⟨T3, h3, X3, e3, W3, st3⟩ := stI X0 hx hZ e0 Ar2 (j := (0 : Int32)) (own_in Sz2 hi3) (g := (mkF m 13 #[.val (.ref o0), .val (.int p1), .val (.int (0 : Int32)), .val (.int (4 : Int32))] [(.int p1), (.int (0 : Int32)), (.ref o0)])) rfl rfl (hb hby d3_13)
  have N3 := Fr.snoc X3 N0 g_o0
  have A_o0_w3 : own_A Z h3 o0 .int 4 (fun kk => (.int (if kk = ((0 : Int32) : Int32).toNatClampNeg then p1 else (f0 kk)))) := own_A.setI A_o0 W3
  have SZ5 : h0.size ≤ h3.size := by rw [W3.size]; exact (Nat.le_refl _)
  have ZZ5 : n0 ≤ h3.size := Nat.le_trans Z0 SZ5
  have K6 : Keep h0 h3 [o0] := ((Keep.refl h0 [o0])).wr W3 (Or.inl (List.mem_of_getElem? (i := 0) rfl))
  have qa7 := A_o0_w3
  obtain ⟨c7, Ar7, Sz7, H7⟩ := qa7
  have hi8 : 0 ≤ ((1 : Int32) : Int32).toInt ∧ ((1 : Int32) : Int32).toInt < (4 : Nat) := (by decide)
  obtain ⟨T8, h8, X8, e8, W8, st8⟩ := stI X3 hx hZ e3 Ar7 (j := (1 : Int32)) (own_in Sz7 hi8) (g := (mkF m 13 #[.val (.ref o0), .val (.int p1), .val (.int (1 : Int32)), .val (.int (4 : Int32))] [(.int p1), (.int (1 : Int32)), (.ref o0)])) rfl rfl (hb hby d3_13)
  have N8 := Fr.snoc X8 N3 g_o0
  have A_o0_w8 : own_A Z h8 o0 .int 4 (fun kk => (.int (if kk = ((1 : Int32) : Int32).toNatClampNeg then p1 else (if kk = ((0 : Int32) : Int32).toNatClampNeg then p1 else (f0 kk))))) := own_A.setI A_o0_w3 W8
  have SZ10 : h0.size ≤ h8.size := by rw [W8.size]; exact SZ5
  have ZZ10 : n0 ≤ h8.size := Nat.le_trans Z0 SZ10
  have K11 : Keep h0 h8 [o0] := (K6).wr W8 (Or.inl (List.mem_of_getElem? (i := 0) rfl))
  have qa12 := A_o0_w8
  obtain ⟨c12, Ar12, Sz12, H12⟩ := qa12
  have hi13 : 0 ≤ ((2 : Int32) : Int32).toInt ∧ ((2 : Int32) : Int32).toInt < (4 : Nat) := (by decide)
  obtain ⟨T13, h13, X13, e13, W13, st13⟩ := stI X8 hx hZ e8 Ar12 (j := (2 : Int32)) (own_in Sz12 hi13) (g := (mkF m 13 #[.val (.ref o0), .val (.int p1), .val (.int (2 : Int32)), .val (.int (4 : Int32))] [(.int p1), (.int (2 : Int32)), (.ref o0)])) rfl rfl (hb hby d3_13)
  have N13 := Fr.snoc X13 N8 g_o0
  have A_o0_w13 : own_A Z h13 o0 .int 4 (fun kk => (.int (if kk = ((2 : Int32) : Int32).toNatClampNeg then p1 else (if kk = ((1 : Int32) : Int32).toNatClampNeg then p1 else (if kk = ((0 : Int32) : Int32).toNatClampNeg then p1 else (f0 kk)))))) := own_A.setI A_o0_w8 W13
  have SZ15 : h0.size ≤ h13.size := by rw [W13.size]; exact SZ10
  have ZZ15 : n0 ≤ h13.size := Nat.le_trans Z0 SZ15
  have K16 : Keep h0 h13 [o0] := (K11).wr W13 (Or.inl (List.mem_of_getElem? (i := 0) rfl))
  have qa17 := A_o0_w13
  obtain ⟨c17, Ar17, Sz17, H17⟩ := qa17
  have hi18 : 0 ≤ ((3 : Int32) : Int32).toInt ∧ ((3 : Int32) : Int32).toInt < (4 : Nat) := (by decide)
  obtain ⟨T18, h18, X18, e18, W18, st18⟩ := stI X13 hx hZ e13 Ar17 (j := (3 : Int32)) (own_in Sz17 hi18) (g := (mkF m 13 #[.val (.ref o0), .val (.int p1), .val (.int (3 : Int32)), .val (.int (4 : Int32))] [(.int p1), (.int (3 : Int32)), (.ref o0)])) rfl rfl (hb hby d3_13)
  have N18 := Fr.snoc X18 N13 g_o0
  have A_o0_w18 : own_A Z h18 o0 .int 4 (fun kk => (.int (if kk = ((3 : Int32) : Int32).toNatClampNeg then p1 else (if kk = ((2 : Int32) : Int32).toNatClampNeg then p1 else (if kk = ((1 : Int32) : Int32).toNatClampNeg then p1 else (if kk = ((0 : Int32) : Int32).toNatClampNeg then p1 else (f0 kk))))))) := own_A.setI A_o0_w13 W18
  have SZ20 : h0.size ≤ h18.size := by rw [W18.size]; exact SZ15
  have ZZ20 : n0 ≤ h18.size := Nat.le_trans Z0 SZ20
  have K21 : Keep h0 h18 [o0] := (K16).wr W18 (Or.inl (List.mem_of_getElem? (i := 0) rfl))
  have pre22 : ∀ t, Steps p.tables e below (T18.setTop (mkF m 20 #[.val (.ref o0), .val (.int p1), .val (.int (4 : Int32)), .val (.int (4 : Int32))] [])) t → Steps p.tables e below (s₁.setTop (entryFrame m #[(.ref o0), (.int p1)] 4)) t := fun t k => pre0 t (by
    show Steps p.tables e below (s₁.setTop (mkF m 0 #[.val (.ref o0), .val (.int p1), .unset, .unset] [])) _
    refine XS.iconst X0.here hx rfl (hb hby d3_0) ?_
    show Steps p.tables e below (s₁.setTop (mkF m 1 #[.val (.ref o0), .val (.int p1), .unset, .unset] [(.int (0 : Int32))])) _
    refine XS.istoreN X0.here hx rfl (hb hby d3_1) rfl (l' := #[.val (.ref o0), .val (.int p1), .val (.int (0 : Int32)), .unset]) rfl ?_
    show Steps p.tables e below (s₁.setTop (mkF m 2 #[.val (.ref o0), .val (.int p1), .val (.int (0 : Int32)), .unset] [])) _
    refine XS.aloadN X0.here hx rfl (hb hby d3_2) rfl rfl ?_
    show Steps p.tables e below (s₁.setTop (mkF m 3 #[.val (.ref o0), .val (.int p1), .val (.int (0 : Int32)), .unset] [(.ref o0)])) _
    refine X0.arraylength hx (by rw [e0]; exact Ar1.1) (State.isArrayOf_alike hZ.alike Ar1.2.1) (g := (mkF m 3 #[.val (.ref o0), .val (.int p1), .val (.int (0 : Int32)), .unset] [(.ref o0)])) rfl rfl (hb hby d3_3) _ ?_
    rw [own_len Sz1 (z := (4 : Int32)) rfl]
    show Steps p.tables e below (s₁.setTop (mkF m 4 #[.val (.ref o0), .val (.int p1), .val (.int (0 : Int32)), .unset] [(.int (4 : Int32))])) _
    refine XS.istoreN X0.here hx rfl (hb hby d3_4) rfl (l' := #[.val (.ref o0), .val (.int p1), .val (.int (0 : Int32)), .val (.int (4 : Int32))]) rfl ?_
    show Steps p.tables e below (s₁.setTop (mkF m 5 #[.val (.ref o0), .val (.int p1), .val (.int (0 : Int32)), .val (.int (4 : Int32))] [])) _
    refine XS.iloadN X0.here hx rfl (hb hby d3_5) rfl ?_
    show Steps p.tables e below (s₁.setTop (mkF m 6 #[.val (.ref o0), .val (.int p1), .val (.int (0 : Int32)), .val (.int (4 : Int32))] [(.int (0 : Int32))])) _
    refine XS.iloadN X0.here hx rfl (hb hby d3_6) rfl ?_
    show Steps p.tables e below (s₁.setTop (mkF m 7 #[.val (.ref o0), .val (.int p1), .val (.int (0 : Int32)), .val (.int (4 : Int32))] [(.int (4 : Int32)), (.int (0 : Int32))])) _
    refine XS.icmpNo X0.here hx rfl (hb hby d3_7) rfl (tlt (show (0 : Int32) < (4 : Int32) by decide)).2.1 ?_
    show Steps p.tables e below (s₁.setTop (mkF m 10 #[.val (.ref o0), .val (.int p1), .val (.int (0 : Int32)), .val (.int (4 : Int32))] [])) _
    refine XS.aloadN X0.here hx rfl (hb hby d3_10) rfl rfl ?_
    show Steps p.tables e below (s₁.setTop (mkF m 11 #[.val (.ref o0), .val (.int p1), .val (.int (0 : Int32)), .val (.int (4 : Int32))] [(.ref o0)])) _
    refine XS.iloadN X0.here hx rfl (hb hby d3_11) rfl ?_
    show Steps p.tables e below (s₁.setTop (mkF m 12 #[.val (.ref o0), .val (.int p1), .val (.int (0 : Int32)), .val (.int (4 : Int32))] [(.int (0 : Int32)), (.ref o0)])) _
    refine XS.iloadN X0.here hx rfl (hb hby d3_12) rfl ?_
    show Steps p.tables e below (s₁.setTop (mkF m 13 #[.val (.ref o0), .val (.int p1), .val (.int (0 : Int32)), .val (.int (4 : Int32))] [(.int p1), (.int (0 : Int32)), (.ref o0)])) _
    refine st3 _ ?_
    show Steps p.tables e below (T3.setTop (mkF m 14 #[.val (.ref o0), .val (.int p1), .val (.int (0 : Int32)), .val (.int (4 : Int32))] [])) _
    refine XS.iinc X3.here hx rfl (hb hby d3_14) rfl (l' := #[.val (.ref o0), .val (.int p1), .val (.int (1 : Int32)), .val (.int (4 : Int32))]) rfl ?_
    show Steps p.tables e below (T3.setTop (mkF m 17 #[.val (.ref o0), .val (.int p1), .val (.int (1 : Int32)), .val (.int (4 : Int32))] [])) _
    refine XS.goto X3.here hx rfl (pc0 := 17) (pc' := 5) rfl (hb hby d3_17) (by decide) (by decide) ?_
    show Steps p.tables e below (T3.setTop (mkF m 5 #[.val (.ref o0), .val (.int p1), .val (.int (1 : Int32)), .val (.int (4 : Int32))] [])) _
    refine XS.iloadN X3.here hx rfl (hb hby d3_5) rfl ?_
    show Steps p.tables e below (T3.setTop (mkF m 6 #[.val (.ref o0), .val (.int p1), .val (.int (1 : Int32)), .val (.int (4 : Int32))] [(.int (1 : Int32))])) _
    refine XS.iloadN X3.here hx rfl (hb hby d3_6) rfl ?_
    show Steps p.tables e below (T3.setTop (mkF m 7 #[.val (.ref o0), .val (.int p1), .val (.int (1 : Int32)), .val (.int (4 : Int32))] [(.int (4 : Int32)), (.int (1 : Int32))])) _
    refine XS.icmpNo X3.here hx rfl (hb hby d3_7) rfl (tlt (show (1 : Int32) < (4 : Int32) by decide)).2.1 ?_
    show Steps p.tables e below (T3.setTop (mkF m 10 #[.val (.ref o0), .val (.int p1), .val (.int (1 : Int32)), .val (.int (4 : Int32))] [])) _
    refine XS.aloadN X3.here hx rfl (hb hby d3_10) rfl rfl ?_
    show Steps p.tables e below (T3.setTop (mkF m 11 #[.val (.ref o0), .val (.int p1), .val (.int (1 : Int32)), .val (.int (4 : Int32))] [(.ref o0)])) _
    refine XS.iloadN X3.here hx rfl (hb hby d3_11) rfl ?_
    show Steps p.tables e below (T3.setTop (mkF m 12 #[.val (.ref o0), .val (.int p1), .val (.int (1 : Int32)), .val (.int (4 : Int32))] [(.int (1 : Int32)), (.ref o0)])) _
    refine XS.iloadN X3.here hx rfl (hb hby d3_12) rfl ?_
    show Steps p.tables e below (T3.setTop (mkF m 13 #[.val (.ref o0), .val (.int p1), .val (.int (1 : Int32)), .val (.int (4 : Int32))] [(.int p1), (.int (1 : Int32)), (.ref o0)])) _
    refine st8 _ ?_
    show Steps p.tables e below (T8.setTop (mkF m 14 #[.val (.ref o0), .val (.int p1), .val (.int (1 : Int32)), .val (.int (4 : Int32))] [])) _
    refine XS.iinc X8.here hx rfl (hb hby d3_14) rfl (l' := #[.val (.ref o0), .val (.int p1), .val (.int (2 : Int32)), .val (.int (4 : Int32))]) rfl ?_
    show Steps p.tables e below (T8.setTop (mkF m 17 #[.val (.ref o0), .val (.int p1), .val (.int (2 : Int32)), .val (.int (4 : Int32))] [])) _
    refine XS.goto X8.here hx rfl (pc0 := 17) (pc' := 5) rfl (hb hby d3_17) (by decide) (by decide) ?_
    show Steps p.tables e below (T8.setTop (mkF m 5 #[.val (.ref o0), .val (.int p1), .val (.int (2 : Int32)), .val (.int (4 : Int32))] [])) _
    refine XS.iloadN X8.here hx rfl (hb hby d3_5) rfl ?_
    show Steps p.tables e below (T8.setTop (mkF m 6 #[.val (.ref o0), .val (.int p1), .val (.int (2 : Int32)), .val (.int (4 : Int32))] [(.int (2 : Int32))])) _
    refine XS.iloadN X8.here hx rfl (hb hby d3_6) rfl ?_
    show Steps p.tables e below (T8.setTop (mkF m 7 #[.val (.ref o0), .val (.int p1), .val (.int (2 : Int32)), .val (.int (4 : Int32))] [(.int (4 : Int32)), (.int (2 : Int32))])) _
    refine XS.icmpNo X8.here hx rfl (hb hby d3_7) rfl (tlt (show (2 : Int32) < (4 : Int32) by decide)).2.1 ?_
    show Steps p.tables e below (T8.setTop (mkF m 10 #[.val (.ref o0), .val (.int p1), .val (.int (2 : Int32)), .val (.int (4 : Int32))] [])) _
    refine XS.aloadN X8.here hx rfl (hb hby d3_10) rfl rfl ?_
    show Steps p.tables e below (T8.setTop (mkF m 11 #[.val (.ref o0), .val (.int p1), .val (.int (2 : Int32)), .val (.int (4 : Int32))] [(.ref o0)])) _
    refine XS.iloadN X8.here hx rfl (hb hby d3_11) rfl ?_
    show Steps p.tables e below (T8.setTop (mkF m 12 #[.val (.ref o0), .val (.int p1), .val (.int (2 : Int32)), .val (.int (4 : Int32))] [(.int (2 : Int32)), (.ref o0)])) _
    refine XS.iloadN X8.here hx rfl (hb hby d3_12) rfl ?_
    show Steps p.tables e below (T8.setTop (mkF m 13 #[.val (.ref o0), .val (.int p1), .val (.int (2 : Int32)), .val (.int (4 : Int32))] [(.int p1), (.int (2 : Int32)), (.ref o0)])) _
    refine st13 _ ?_
    show Steps p.tables e below (T13.setTop (mkF m 14 #[.val (.ref o0), .val (.int p1), .val (.int (2 : Int32)), .val (.int (4 : Int32))] [])) _
    refine XS.iinc X13.here hx rfl (hb hby d3_14) rfl (l' := #[.val (.ref o0), .val (.int p1), .val (.int (3 : Int32)), .val (.int (4 : Int32))]) rfl ?_
    show Steps p.tables e below (T13.setTop (mkF m 17 #[.val (.ref o0), .val (.int p1), .val (.int (3 : Int32)), .val (.int (4 : Int32))] [])) _
    refine XS.goto X13.here hx rfl (pc0 := 17) (pc' := 5) rfl (hb hby d3_17) (by decide) (by decide) ?_
    show Steps p.tables e below (T13.setTop (mkF m 5 #[.val (.ref o0), .val (.int p1), .val (.int (3 : Int32)), .val (.int (4 : Int32))] [])) _
    refine XS.iloadN X13.here hx rfl (hb hby d3_5) rfl ?_
    show Steps p.tables e below (T13.setTop (mkF m 6 #[.val (.ref o0), .val (.int p1), .val (.int (3 : Int32)), .val (.int (4 : Int32))] [(.int (3 : Int32))])) _
    refine XS.iloadN X13.here hx rfl (hb hby d3_6) rfl ?_
    show Steps p.tables e below (T13.setTop (mkF m 7 #[.val (.ref o0), .val (.int p1), .val (.int (3 : Int32)), .val (.int (4 : Int32))] [(.int (4 : Int32)), (.int (3 : Int32))])) _
    refine XS.icmpNo X13.here hx rfl (hb hby d3_7) rfl (tlt (show (3 : Int32) < (4 : Int32) by decide)).2.1 ?_
    show Steps p.tables e below (T13.setTop (mkF m 10 #[.val (.ref o0), .val (.int p1), .val (.int (3 : Int32)), .val (.int (4 : Int32))] [])) _
    refine XS.aloadN X13.here hx rfl (hb hby d3_10) rfl rfl ?_
    show Steps p.tables e below (T13.setTop (mkF m 11 #[.val (.ref o0), .val (.int p1), .val (.int (3 : Int32)), .val (.int (4 : Int32))] [(.ref o0)])) _
    refine XS.iloadN X13.here hx rfl (hb hby d3_11) rfl ?_
    show Steps p.tables e below (T13.setTop (mkF m 12 #[.val (.ref o0), .val (.int p1), .val (.int (3 : Int32)), .val (.int (4 : Int32))] [(.int (3 : Int32)), (.ref o0)])) _
    refine XS.iloadN X13.here hx rfl (hb hby d3_12) rfl ?_
    show Steps p.tables e below (T13.setTop (mkF m 13 #[.val (.ref o0), .val (.int p1), .val (.int (3 : Int32)), .val (.int (4 : Int32))] [(.int p1), (.int (3 : Int32)), (.ref o0)])) _
    refine st18 _ ?_
    show Steps p.tables e below (T18.setTop (mkF m 14 #[.val (.ref o0), .val (.int p1), .val (.int (3 : Int32)), .val (.int (4 : Int32))] [])) _
    refine XS.iinc X18.here hx rfl (hb hby d3_14) rfl (l' := #[.val (.ref o0), .val (.int p1), .val (.int (4 : Int32)), .val (.int (4 : Int32))]) rfl ?_
    show Steps p.tables e below (T18.setTop (mkF m 17 #[.val (.ref o0), .val (.int p1), .val (.int (4 : Int32)), .val (.int (4 : Int32))] [])) _
    refine XS.goto X18.here hx rfl (pc0 := 17) (pc' := 5) rfl (hb hby d3_17) (by decide) (by decide) ?_
    show Steps p.tables e below (T18.setTop (mkF m 5 #[.val (.ref o0), .val (.int p1), .val (.int (4 : Int32)), .val (.int (4 : Int32))] [])) _
    refine XS.iloadN X18.here hx rfl (hb hby d3_5) rfl ?_
    show Steps p.tables e below (T18.setTop (mkF m 6 #[.val (.ref o0), .val (.int p1), .val (.int (4 : Int32)), .val (.int (4 : Int32))] [(.int (4 : Int32))])) _
    refine XS.iloadN X18.here hx rfl (hb hby d3_6) rfl ?_
    show Steps p.tables e below (T18.setTop (mkF m 7 #[.val (.ref o0), .val (.int p1), .val (.int (4 : Int32)), .val (.int (4 : Int32))] [(.int (4 : Int32)), (.int (4 : Int32))])) _
    refine XS.icmpYes X18.here hx rfl (pc0 := 7) (pc' := 20) rfl (hb hby d3_7) rfl (flt (show ¬ ((4 : Int32) < (4 : Int32)) by decide)).2.1 (by decide) (by decide) ?_
    show Steps p.tables e below (T18.setTop (mkF m 20 #[.val (.ref o0), .val (.int p1), .val (.int (4 : Int32)), .val (.int (4 : Int32))] [])) _
    exact k)
  obtain ⟨fs, hr, hrun, hended, hW, hsame⟩ := X18.leave (v := none) (fun _ => rfl)
  refine ⟨_, _, pre22 _ ?_, hrun, hended, _, _, rfl, ?_, ⟨_, rfl⟩, hW, hsame.mono (by decide) (by decide)⟩
  · exact X18.returnOut hx Bd.returns (hb hby d3_20) hr
  · show Q3 Z o0 p1 f0 h0 n0 _ T18.heap _
    rw [e18]
    exact ⟨rfl, N18, K21, (own_A.eqv A_o0_w18 (fun j hj => by
          rcases (show j = 0 ∨ j = 1 ∨ j = 2 ∨ j = 3 by omega) with q | q | q | q <;> subst q <;> rfl))⟩
theorem d1_0 : decode prog_55_method_1_code 0 = .ok (.aload_n 0, 1) := by decide +kernel
theorem d1_1 : decode prog_55_method_1_code 1 = .ok (.invokespecial 1, 3) := by decide +kernel
theorem d1_4 : decode prog_55_method_1_code 4 = .ok (.aload_n 0, 1) := by decide +kernel
theorem d1_5 : decode prog_55_method_1_code 5 = .ok (.iload_n 1, 1) := by decide +kernel
theorem d1_6 : decode prog_55_method_1_code 6 = .ok (.newarray .int, 2) := by decide +kernel
theorem d1_8 : decode prog_55_method_1_code 8 = .ok (.putfield 7, 3) := by decide +kernel
theorem d1_11 : decode prog_55_method_1_code 11 = .ok (.aload_n 0, 1) := by decide +kernel
theorem d1_12 : decode prog_55_method_1_code 12 = .ok (.iload_n 1, 1) := by decide +kernel
theorem d1_13 : decode prog_55_method_1_code 13 = .ok (.newarray .long, 2) := by decide +kernel
theorem d1_15 : decode prog_55_method_1_code 15 = .ok (.putfield 13, 3) := by decide +kernel
theorem d1_18 : decode prog_55_method_1_code 18 = .ok (.aload_n 0, 1) := by decide +kernel
theorem d1_19 : decode prog_55_method_1_code 19 = .ok (.iload_n 1, 1) := by decide +kernel
theorem d1_20 : decode prog_55_method_1_code 20 = .ok (.newarray .int, 2) := by decide +kernel
theorem d1_22 : decode prog_55_method_1_code 22 = .ok (.putfield 17, 3) := by decide +kernel
theorem d1_25 : decode prog_55_method_1_code 25 = .ok (.aload_n 0, 1) := by decide +kernel
theorem d1_26 : decode prog_55_method_1_code 26 = .ok (.getfield 17, 3) := by decide +kernel
theorem d1_29 : decode prog_55_method_1_code 29 = .ok (.iconst (-1), 1) := by decide +kernel
theorem d1_30 : decode prog_55_method_1_code 30 = .ok (.invokestatic 20, 3) := by decide +kernel
theorem d1_33 : decode prog_55_method_1_code 33 = .ok (.return_, 1) := by decide +kernel
theorem pn_1 : plainName "com/example/lean_layers/leanlayers/phase/layering/IndexedHeap" = true := by first | (simp [plainName, overriddenIn]; done) | decide +kernel
theorem pd_0 : parseMethodDescriptor "([II)V" = some ⟨[(.array .int), .int], none⟩ := by decide +kernel
theorem ef_1 (m : MethodId) (o0 : Addr) (p1 : Int32) : entryFrame m #[(.ref o0), (.int p1)] 2 = mkF m 0 #[.val (.ref o0), .val (.int p1)] [] := by first | (simp [entryFrame, mkF, argsToLocals, Value.category]; done) | rfl

def Q1 (Z : State) (o0 : Addr) (p1 : Int32) (h0 : Heap) (n0 : Nat) (v : Option Value) (h : Heap) (L : List Loc) : Prop := ∃ (ti : Addr) (tk : Addr) (tp : Addr), v = none ∧ Fr n0 L ∧ Keep h0 h [o0] ∧ h0.size ≤ ti ∧ h0.size ≤ tk ∧ h0.size ≤ tp ∧ ti ≠ tk ∧ ti ≠ tp ∧ tk ≠ tp ∧ (Fld Z h o0 "com/example/lean_layers/leanlayers/phase/layering/IndexedHeap" "items" "[I" (.ref ti)) ∧ (Fld Z h o0 "com/example/lean_layers/leanlayers/phase/layering/IndexedHeap" "keys" "[J" (.ref tk)) ∧ (Fld Z h o0 "com/example/lean_layers/leanlayers/phase/layering/IndexedHeap" "place" "[I" (.ref tp)) ∧ (Fld Z h o0 "com/example/lean_layers/leanlayers/phase/layering/IndexedHeap" "size" "I" (.int ((0 : Nat).toInt32))) ∧ (own_A Z h ti .int 4 (fun kk => (.int ((own_z kk).toInt32)))) ∧ (own_A Z h tk .long 4 (fun kk => (.long (own_zk kk)))) ∧ (own_A Z h tp .int 4 (fun kk => (.int (own_pl (own_z kk)))))
set_option maxRecDepth 65536 in
set_option maxHeartbeats 40000000 in
theorem rm1 (l : Launch) (Z : State) (a0 : Array Value) (hw : ∀ d ∈ tables_1, d.before a0 Z = true) (ws : List Jvm.Cond) (o0 : Addr) (p1 : Int32) (h0 : Heap) (n0 : Nat) (Z0 : n0 ≤ h0.size) (F_items_o0 : Fld Z h0 o0 "com/example/lean_layers/leanlayers/phase/layering/IndexedHeap" "items" "[I" .null) (F_keys_o0 : Fld Z h0 o0 "com/example/lean_layers/leanlayers/phase/layering/IndexedHeap" "keys" "[J" .null) (F_place_o0 : Fld Z h0 o0 "com/example/lean_layers/leanlayers/phase/layering/IndexedHeap" "place" "[I" .null) (E_o0 : Exa Z h0 o0 "com/example/lean_layers/leanlayers/phase/layering/IndexedHeap") (F_size_o0 : Fld Z h0 o0 "com/example/lean_layers/leanlayers/phase/layering/IndexedHeap" "size" "I" (.int (0 : Int32))) (g_o0 : n0 ≤ o0) (hp1 : p1 = (4 : Int32)) :
    MetFree l (⟨"com/example/lean_layers/leanlayers/phase/layering/IndexedHeap", "<init>", "(I)V"⟩ : MethodName) (head1 (Jvm.Cond.code (⟨"com/example/lean_layers/leanlayers/phase/layering/IndexedHeap", "<init>", "(I)V"⟩ : MethodName) prog_55_method_1_code 2 none :: ws) ({ frames := 1, cells := 3, slots := 12, locals := 15 } : Room)) (fun a U => a = #[(.ref o0), (.int p1)] ∧ Z.Warmed39 U.vm ∧ U.heap = h0) (fun _ _ _ _ _ => True) (fun _ U o U' => ∃ v L, o = .returned v ∧ Q1 Z o0 p1 h0 n0 v U'.heap L ∧ FrameEnd U o U' L ({ frames := 1, cells := 3, slots := 12, locals := 15 } : Room).cells ({ frames := 1, cells := 3, slots := 12, locals := 15 } : Room).slots) := by
  refine MetFree.of_bodySF (plainFor_of_name pn_1) hisR ?_
  intro p e s m args below meth c s₁ Bd hml0 hP hK
  obtain ⟨rfl, hZ, hh⟩ := hP
  have hx := Bd.exec
  have hby := Bd.bytes
  have hml : c.maxLocals = 2 := hml0
  have hown : s.vm.findClass "com/example/lean_layers/leanlayers/phase/layering/IndexedHeap" = some m.cls := findClass_of_methodNamed Bd.named
  have hnm := (name_of_methodNamed Bd.named Bd.method).1
  have X0 : Stand p l e ({ frames := 1, cells := 3, slots := 12, locals := 15 } : Room) s m #[(.ref o0), (.int p1)] below meth c s₁ [] 0 0 := Stand.of_body Bd
  have e0 : s₁.heap = h0 := by rw [← hh, Bd.state]; rfl
  have N0 := Fr.nil n0
  have pre0 : ∀ t, Steps p.tables e below (s₁.setTop (mkF m 0 #[.val (.ref o0), .val (.int p1)] [])) t → Steps p.tables e below (s₁.setTop (entryFrame m #[(.ref o0), (.int p1)] 2)) t := fun t k => castTop (ef_1 m o0 p1) k
  have pre1 : ∀ t, Steps p.tables e below (s₁.setTop (mkF m 0 #[.val (.ref o0), .val (.int p1)] [])) t → Steps p.tables e below (s₁.setTop (entryFrame m #[(.ref o0), (.int p1)] 2)) t := fun t k => pre0 t (by
    show Steps p.tables e below (s₁.setTop (mkF m 0 #[.val (.ref o0), .val (.int p1)] [])) _
    exact k)
  have hre2 : p1 = (4 : Int32) := hp1
  have pre2 : ∀ t, Steps p.tables e below (s₁.setTop (mkF m 0 #[.val (.ref o0), .val (.int (4 : Int32))] [])) t → Steps p.tables e below (s₁.setTop (entryFrame m #[(.ref o0), (.int p1)] 2)) t := fun t k => pre1 t (by rw [hre2]; exact k)
  obtain ⟨T3, X3, e3, st3⟩ := initO X0 hx hZ hown (hw _ (List.mem_of_getElem? (i := 6) rfl)) (hw _ (List.mem_of_getElem? (i := 7) rfl)) (hw _ (List.mem_of_getElem? (i := 8) rfl)) e0 (g := (mkF m 1 #[.val (.ref o0), .val (.int (4 : Int32))] [(.ref o0)])) rfl (by rw [hml]; rfl) rfl (hb hby d1_1) (by decide) (W := 0) (by show 2 * 0 + _ ≤ _; exact Nat.le_of_eq rfl) (by decide)
  obtain ⟨T4, h4, k4, X4, e4, Ex4, Ne4, st4⟩ := newP X3 hx hZ (hw _ (List.mem_of_getElem? (i := 9) rfl)) e3 (g := (mkF m 6 #[.val (.ref o0), .val (.int (4 : Int32))] [(.int (4 : Int32)), (.ref o0)])) rfl (hb hby d1_6) rfl (by decide) (cap := 4) (by decide) (by decide) (by decide) (by decide)
  obtain ⟨b4, g4⟩ : ∃ z, z = h0.size := ⟨_, rfl⟩
  rw [← g4] at Ne4 st4
  have ne_o0_b4 : o0 ≠ b4 := by rw [g4]; exact Nat.ne_of_lt (F_items_o0).lt
  have g_b4 : n0 ≤ b4 := Nat.le_trans (Nat.le_trans Z0 (Nat.le_refl _)) (Nat.le_of_eq g4.symm)
  have sz_b4 : h0.size ≤ b4 := Nat.le_trans (Nat.le_refl _) (Nat.le_of_eq g4.symm)
  have F_items_o0_5 : Fld Z h4 o0 "com/example/lean_layers/leanlayers/phase/layering/IndexedHeap" "items" "[I" .null := (F_items_o0).ext Ex4
  have F_keys_o0_5 : Fld Z h4 o0 "com/example/lean_layers/leanlayers/phase/layering/IndexedHeap" "keys" "[J" .null := (F_keys_o0).ext Ex4
  have F_place_o0_5 : Fld Z h4 o0 "com/example/lean_layers/leanlayers/phase/layering/IndexedHeap" "place" "[I" .null := (F_place_o0).ext Ex4
  have E_o0_5 : Exa Z h4 o0 "com/example/lean_layers/leanlayers/phase/layering/IndexedHeap" := (E_o0).ext Ex4
  have F_size_o0_5 : Fld Z h4 o0 "com/example/lean_layers/leanlayers/phase/layering/IndexedHeap" "size" "I" (.int (0 : Int32)) := (F_size_o0).ext Ex4
  have SZ6 : h0.size ≤ h4.size := Nat.le_trans (Nat.le_refl _) Ex4.1
  have ZZ6 : n0 ≤ h4.size := Nat.le_trans Z0 SZ6
  have K7 : Keep h0 h4 [o0] := ((Keep.refl h0 [o0])).ext Ex4
  have A_b4_4 : own_A Z h4 b4 .int 4 (fun kk => (.int (0 : Int32))) := own_A.new Ne4
  obtain ⟨T8, h8, X8, e8, W8, st8⟩ := putF X4 hx hZ hown (host := "") (Or.inl (hw _ (List.mem_of_getElem? (i := 10) rfl))) Via.refl e4 F_items_o0_5 E_o0_5 (Or.inr ⟨(hw _ (List.mem_of_getElem? (i := 11) rfl)), rfl, hnm⟩) (hw _ (List.mem_of_getElem? (i := 1) rfl)) (ty := (.array .int)) (by decide) rfl rfl (g := (mkF m 8 #[.val (.ref o0), .val (.int (4 : Int32))] [(.ref b4), (.ref o0)])) rfl rfl (hb hby d1_8)
  have N8 := Fr.snoc X8 N0 g_o0
  have F_items_o0_w8 : Fld Z h8 o0 "com/example/lean_layers/leanlayers/phase/layering/IndexedHeap" "items" "[I" (.ref b4) := (F_items_o0_5).same W8
  have F_keys_o0_9 : Fld Z h8 o0 "com/example/lean_layers/leanlayers/phase/layering/IndexedHeap" "keys" "[J" .null := (F_keys_o0_5).other W8 (Or.inr (slot_ne (Or.inr (hw _ (List.mem_of_getElem? (i := 14) rfl))) (Or.inr (hw _ (List.mem_of_getElem? (i := 11) rfl))) (by decide) (t := (.array .long)) (t' := (.array .int)) (by decide) (by decide)))
  have F_place_o0_9 : Fld Z h8 o0 "com/example/lean_layers/leanlayers/phase/layering/IndexedHeap" "place" "[I" .null := (F_place_o0_5).other W8 (Or.inr (slot_ne (Or.inr (hw _ (List.mem_of_getElem? (i := 16) rfl))) (Or.inr (hw _ (List.mem_of_getElem? (i := 11) rfl))) (by decide) (t := (.array .int)) (t' := (.array .int)) (by decide) (by decide)))
  have E_o0_9 : Exa Z h8 o0 "com/example/lean_layers/leanlayers/phase/layering/IndexedHeap" := (E_o0_5).wr W8
  have F_size_o0_9 : Fld Z h8 o0 "com/example/lean_layers/leanlayers/phase/layering/IndexedHeap" "size" "I" (.int (0 : Int32)) := (F_size_o0_5).other W8 (Or.inr (slot_ne (Or.inl (hw _ (List.mem_of_getElem? (i := 27) rfl))) (Or.inr (hw _ (List.mem_of_getElem? (i := 11) rfl))) (by decide) (t := .int) (t' := (.array .int)) (by decide) (by decide)))
  have A_b4_9 : own_A Z h8 b4 .int 4 (fun kk => (.int (0 : Int32))) := (A_b4_4).other W8 (Ne.symm ne_o0_b4)
  have SZ10 : h0.size ≤ h8.size := by rw [W8.size]; exact SZ6
  have ZZ10 : n0 ≤ h8.size := Nat.le_trans Z0 SZ10
  have K11 : Keep h0 h8 [o0] := (K7).wr W8 (Or.inl (List.mem_of_getElem? (i := 0) rfl))
  obtain ⟨T12, h12, k12, X12, e12, Ex12, Ne12, st12⟩ := newP X8 hx hZ (hw _ (List.mem_of_getElem? (i := 12) rfl)) e8 (g := (mkF m 13 #[.val (.ref o0), .val (.int (4 : Int32))] [(.int (4 : Int32)), (.ref o0)])) rfl (hb hby d1_13) rfl (by decide) (cap := 4) (by decide) (by decide) (by decide) (by decide)
  obtain ⟨b12, g12⟩ : ∃ z, z = h8.size := ⟨_, rfl⟩
  rw [← g12] at Ne12 st12
  have ne_o0_b12 : o0 ≠ b12 := by rw [g12]; exact Nat.ne_of_lt (F_keys_o0_9).lt
  have ne_b4_b12 : b4 ≠ b12 := by rw [g12]; exact Nat.ne_of_lt (A_b4_9).lt
  have g_b12 : n0 ≤ b12 := Nat.le_trans (Nat.le_trans Z0 SZ10) (Nat.le_of_eq g12.symm)
  have sz_b12 : h0.size ≤ b12 := Nat.le_trans SZ10 (Nat.le_of_eq g12.symm)
  have F_keys_o0_13 : Fld Z h12 o0 "com/example/lean_layers/leanlayers/phase/layering/IndexedHeap" "keys" "[J" .null := (F_keys_o0_9).ext Ex12
  have F_place_o0_13 : Fld Z h12 o0 "com/example/lean_layers/leanlayers/phase/layering/IndexedHeap" "place" "[I" .null := (F_place_o0_9).ext Ex12
  have E_o0_13 : Exa Z h12 o0 "com/example/lean_layers/leanlayers/phase/layering/IndexedHeap" := (E_o0_9).ext Ex12
  have F_size_o0_13 : Fld Z h12 o0 "com/example/lean_layers/leanlayers/phase/layering/IndexedHeap" "size" "I" (.int (0 : Int32)) := (F_size_o0_9).ext Ex12
  have A_b4_13 : own_A Z h12 b4 .int 4 (fun kk => (.int (0 : Int32))) := (A_b4_9).ext Ex12
  have F_items_o0_13 : Fld Z h12 o0 "com/example/lean_layers/leanlayers/phase/layering/IndexedHeap" "items" "[I" (.ref b4) := (F_items_o0_w8).ext Ex12
  have SZ14 : h0.size ≤ h12.size := Nat.le_trans SZ10 Ex12.1
  have ZZ14 : n0 ≤ h12.size := Nat.le_trans Z0 SZ14
  have K15 : Keep h0 h12 [o0] := (K11).ext Ex12
  have A_b12_12 : own_A Z h12 b12 .long 4 (fun kk => (.long (0 : Int64))) := own_A.new Ne12
  obtain ⟨T16, h16, X16, e16, W16, st16⟩ := putF X12 hx hZ hown (host := "") (Or.inl (hw _ (List.mem_of_getElem? (i := 13) rfl))) Via.refl e12 F_keys_o0_13 E_o0_13 (Or.inr ⟨(hw _ (List.mem_of_getElem? (i := 14) rfl)), rfl, hnm⟩) (hw _ (List.mem_of_getElem? (i := 1) rfl)) (ty := (.array .long)) (by decide) rfl rfl (g := (mkF m 15 #[.val (.ref o0), .val (.int (4 : Int32))] [(.ref b12), (.ref o0)])) rfl rfl (hb hby d1_15)
  have N16 := Fr.snoc X16 N8 g_o0
  have F_keys_o0_w16 : Fld Z h16 o0 "com/example/lean_layers/leanlayers/phase/layering/IndexedHeap" "keys" "[J" (.ref b12) := (F_keys_o0_13).same W16
  have F_place_o0_17 : Fld Z h16 o0 "com/example/lean_layers/leanlayers/phase/layering/IndexedHeap" "place" "[I" .null := (F_place_o0_13).other W16 (Or.inr (slot_ne (Or.inr (hw _ (List.mem_of_getElem? (i := 16) rfl))) (Or.inr (hw _ (List.mem_of_getElem? (i := 14) rfl))) (by decide) (t := (.array .int)) (t' := (.array .long)) (by decide) (by decide)))
  have E_o0_17 : Exa Z h16 o0 "com/example/lean_layers/leanlayers/phase/layering/IndexedHeap" := (E_o0_13).wr W16
  have F_size_o0_17 : Fld Z h16 o0 "com/example/lean_layers/leanlayers/phase/layering/IndexedHeap" "size" "I" (.int (0 : Int32)) := (F_size_o0_13).other W16 (Or.inr (slot_ne (Or.inl (hw _ (List.mem_of_getElem? (i := 27) rfl))) (Or.inr (hw _ (List.mem_of_getElem? (i := 14) rfl))) (by decide) (t := .int) (t' := (.array .long)) (by decide) (by decide)))
  have A_b4_17 : own_A Z h16 b4 .int 4 (fun kk => (.int (0 : Int32))) := (A_b4_13).other W16 (Ne.symm ne_o0_b4)
  have F_items_o0_17 : Fld Z h16 o0 "com/example/lean_layers/leanlayers/phase/layering/IndexedHeap" "items" "[I" (.ref b4) := (F_items_o0_13).other W16 (Or.inr (slot_ne (Or.inr (hw _ (List.mem_of_getElem? (i := 11) rfl))) (Or.inr (hw _ (List.mem_of_getElem? (i := 14) rfl))) (by decide) (t := (.array .int)) (t' := (.array .long)) (by decide) (by decide)))
  have A_b12_17 : own_A Z h16 b12 .long 4 (fun kk => (.long (0 : Int64))) := (A_b12_12).other W16 (Ne.symm ne_o0_b12)
  have SZ18 : h0.size ≤ h16.size := by rw [W16.size]; exact SZ14
  have ZZ18 : n0 ≤ h16.size := Nat.le_trans Z0 SZ18
  have K19 : Keep h0 h16 [o0] := (K15).wr W16 (Or.inl (List.mem_of_getElem? (i := 0) rfl))
  obtain ⟨T20, h20, k20, X20, e20, Ex20, Ne20, st20⟩ := newP X16 hx hZ (hw _ (List.mem_of_getElem? (i := 9) rfl)) e16 (g := (mkF m 20 #[.val (.ref o0), .val (.int (4 : Int32))] [(.int (4 : Int32)), (.ref o0)])) rfl (hb hby d1_20) rfl (by decide) (cap := 4) (by decide) (by decide) (by decide) (by decide)
  obtain ⟨b20, g20⟩ : ∃ z, z = h16.size := ⟨_, rfl⟩
  rw [← g20] at Ne20 st20
  have ne_o0_b20 : o0 ≠ b20 := by rw [g20]; exact Nat.ne_of_lt (F_place_o0_17).lt
  have ne_b4_b20 : b4 ≠ b20 := by rw [g20]; exact Nat.ne_of_lt (A_b4_17).lt
  have ne_b12_b20 : b12 ≠ b20 := by rw [g20]; exact Nat.ne_of_lt (A_b12_17).lt
  have g_b20 : n0 ≤ b20 := Nat.le_trans (Nat.le_trans Z0 SZ18) (Nat.le_of_eq g20.symm)
  have sz_b20 : h0.size ≤ b20 := Nat.le_trans SZ18 (Nat.le_of_eq g20.symm)
  have F_place_o0_21 : Fld Z h20 o0 "com/example/lean_layers/leanlayers/phase/layering/IndexedHeap" "place" "[I" .null := (F_place_o0_17).ext Ex20
  have E_o0_21 : Exa Z h20 o0 "com/example/lean_layers/leanlayers/phase/layering/IndexedHeap" := (E_o0_17).ext Ex20
  have F_size_o0_21 : Fld Z h20 o0 "com/example/lean_layers/leanlayers/phase/layering/IndexedHeap" "size" "I" (.int (0 : Int32)) := (F_size_o0_17).ext Ex20
  have A_b4_21 : own_A Z h20 b4 .int 4 (fun kk => (.int (0 : Int32))) := (A_b4_17).ext Ex20
  have F_items_o0_21 : Fld Z h20 o0 "com/example/lean_layers/leanlayers/phase/layering/IndexedHeap" "items" "[I" (.ref b4) := (F_items_o0_17).ext Ex20
  have A_b12_21 : own_A Z h20 b12 .long 4 (fun kk => (.long (0 : Int64))) := (A_b12_17).ext Ex20
  have F_keys_o0_21 : Fld Z h20 o0 "com/example/lean_layers/leanlayers/phase/layering/IndexedHeap" "keys" "[J" (.ref b12) := (F_keys_o0_w16).ext Ex20
  have SZ22 : h0.size ≤ h20.size := Nat.le_trans SZ18 Ex20.1
  have ZZ22 : n0 ≤ h20.size := Nat.le_trans Z0 SZ22
  have K23 : Keep h0 h20 [o0] := (K19).ext Ex20
  have A_b20_20 : own_A Z h20 b20 .int 4 (fun kk => (.int (0 : Int32))) := own_A.new Ne20
  obtain ⟨T24, h24, X24, e24, W24, st24⟩ := putF X20 hx hZ hown (host := "") (Or.inl (hw _ (List.mem_of_getElem? (i := 15) rfl))) Via.refl e20 F_place_o0_21 E_o0_21 (Or.inr ⟨(hw _ (List.mem_of_getElem? (i := 16) rfl)), rfl, hnm⟩) (hw _ (List.mem_of_getElem? (i := 1) rfl)) (ty := (.array .int)) (by decide) rfl rfl (g := (mkF m 22 #[.val (.ref o0), .val (.int (4 : Int32))] [(.ref b20), (.ref o0)])) rfl rfl (hb hby d1_22)
  have N24 := Fr.snoc X24 N16 g_o0
  have F_place_o0_w24 : Fld Z h24 o0 "com/example/lean_layers/leanlayers/phase/layering/IndexedHeap" "place" "[I" (.ref b20) := (F_place_o0_21).same W24
  have E_o0_25 : Exa Z h24 o0 "com/example/lean_layers/leanlayers/phase/layering/IndexedHeap" := (E_o0_21).wr W24
  have F_size_o0_25 : Fld Z h24 o0 "com/example/lean_layers/leanlayers/phase/layering/IndexedHeap" "size" "I" (.int (0 : Int32)) := (F_size_o0_21).other W24 (Or.inr (slot_ne (Or.inl (hw _ (List.mem_of_getElem? (i := 27) rfl))) (Or.inr (hw _ (List.mem_of_getElem? (i := 16) rfl))) (by decide) (t := .int) (t' := (.array .int)) (by decide) (by decide)))
  have A_b4_25 : own_A Z h24 b4 .int 4 (fun kk => (.int (0 : Int32))) := (A_b4_21).other W24 (Ne.symm ne_o0_b4)
  have F_items_o0_25 : Fld Z h24 o0 "com/example/lean_layers/leanlayers/phase/layering/IndexedHeap" "items" "[I" (.ref b4) := (F_items_o0_21).other W24 (Or.inr (slot_ne (Or.inr (hw _ (List.mem_of_getElem? (i := 11) rfl))) (Or.inr (hw _ (List.mem_of_getElem? (i := 16) rfl))) (by decide) (t := (.array .int)) (t' := (.array .int)) (by decide) (by decide)))
  have A_b12_25 : own_A Z h24 b12 .long 4 (fun kk => (.long (0 : Int64))) := (A_b12_21).other W24 (Ne.symm ne_o0_b12)
  have F_keys_o0_25 : Fld Z h24 o0 "com/example/lean_layers/leanlayers/phase/layering/IndexedHeap" "keys" "[J" (.ref b12) := (F_keys_o0_21).other W24 (Or.inr (slot_ne (Or.inr (hw _ (List.mem_of_getElem? (i := 14) rfl))) (Or.inr (hw _ (List.mem_of_getElem? (i := 16) rfl))) (by decide) (t := (.array .long)) (t' := (.array .int)) (by decide) (by decide)))
  have A_b20_25 : own_A Z h24 b20 .int 4 (fun kk => (.int (0 : Int32))) := (A_b20_20).other W24 (Ne.symm ne_o0_b20)
  have SZ26 : h0.size ≤ h24.size := by rw [W24.size]; exact SZ22
  have ZZ26 : n0 ≤ h24.size := Nat.le_trans Z0 SZ26
  have K27 : Keep h0 h24 [o0] := (K23).wr W24 (Or.inl (List.mem_of_getElem? (i := 0) rfl))
  obtain ⟨T28, X28, e28, st28⟩ := getF X24 hx hZ hown (host := "") (Or.inl (hw _ (List.mem_of_getElem? (i := 15) rfl))) Via.refl e24 F_place_o0_w24 (g := (mkF m 26 #[.val (.ref o0), .val (.int (4 : Int32))] [(.ref o0)])) rfl rfl (hb hby d1_26)
  obtain ⟨_, _, ⟨T29, L29, k29, n29⟩, -, X29, ⟨Lc29, hQ29, l29, y29, z29⟩, st29⟩ := Jvm.LawKit.callS X28 hx (y := (⟨"java/util/Arrays", "fill", "([II)V"⟩ : MethodName)) hown (mvT hZ (hw _ (List.mem_of_getElem? (i := 17) rfl))) (mvT hZ (hw _ (List.mem_of_getElem? (i := 18) rfl))) (mvT hZ (hw _ (List.mem_of_getElem? (i := 19) rfl))) (mvT hZ (hw _ (List.mem_of_getElem? (i := 20) rfl))) (by decide) (backOf (W := 0) (rm3 l Z a0 hw [] b20 (-1 : Int32) (fun kk => (0 : Int32)) h24 n0 ZZ26 A_b20_25 g_b20) hZ (hw _ (List.mem_of_getElem? (i := 20) rfl)) (hw _ (List.mem_of_getElem? (i := 19) rfl)) (by decide) (by decide)) (g := (mkF m 30 #[.val (.ref o0), .val (.int (4 : Int32))] [(.int (-1 : Int32)), (.ref b20)])) rfl (by rw [hml]; rfl) (argsL := [(.ref b20), (.int (-1 : Int32))]) (rest := []) (lenOf pd_0 rfl) rfl (by show 2 * 0 + _ ≤ _; exact Nat.le_of_eq rfl) (hb hby d1_30) (fun _ _ => ⟨rfl, e28, (by decide : 3 + 0 ≤ _), (by decide : 12 + 0 ≤ _)⟩)
  dsimp only [Pt.U, Pt.locs, Pt.cells, Pt.slots] at X29 l29 y29 z29 st29 hQ29
  subst y29 z29
  obtain ⟨rfl, N29q, Kc29, P29_0⟩ := hQ29
  have N29 := Fr.app N24 N29q
  rw [← l29] at N29
  have E_o0_30 : Exa Z T29.heap o0 "com/example/lean_layers/leanlayers/phase/layering/IndexedHeap" := (E_o0_25).keep Kc29
  have F_size_o0_30 : Fld Z T29.heap o0 "com/example/lean_layers/leanlayers/phase/layering/IndexedHeap" "size" "I" (.int (0 : Int32)) := (F_size_o0_25).keep Kc29 (ninS ne_o0_b20 nin0)
  have A_b4_30 : own_A Z T29.heap b4 .int 4 (fun kk => (.int (0 : Int32))) := (A_b4_25).keep Kc29 (ninS ne_b4_b20 nin0)
  have F_items_o0_30 : Fld Z T29.heap o0 "com/example/lean_layers/leanlayers/phase/layering/IndexedHeap" "items" "[I" (.ref b4) := (F_items_o0_25).keep Kc29 (ninS ne_o0_b20 nin0)
  have A_b12_30 : own_A Z T29.heap b12 .long 4 (fun kk => (.long (0 : Int64))) := (A_b12_25).keep Kc29 (ninS ne_b12_b20 nin0)
  have F_keys_o0_30 : Fld Z T29.heap o0 "com/example/lean_layers/leanlayers/phase/layering/IndexedHeap" "keys" "[J" (.ref b12) := (F_keys_o0_25).keep Kc29 (ninS ne_o0_b20 nin0)
  have F_place_o0_30 : Fld Z T29.heap o0 "com/example/lean_layers/leanlayers/phase/layering/IndexedHeap" "place" "[I" (.ref b20) := (F_place_o0_w24).keep Kc29 (ninS ne_o0_b20 nin0)
  have SZ31 : h0.size ≤ T29.heap.size := Nat.le_trans SZ26 Kc29.1
  have ZZ31 : n0 ≤ T29.heap.size := Nat.le_trans Z0 SZ31
  have K32 : Keep h0 T29.heap [o0] := (K27).trans Kc29 (allS (Or.inr sz_b20) all0)
  have pre33 : ∀ t, Steps p.tables e below (T29.setTop (mkF m 33 #[.val (.ref o0), .val (.int (4 : Int32))] [])) t → Steps p.tables e below (s₁.setTop (entryFrame m #[(.ref o0), (.int p1)] 2)) t := fun t k => pre2 t (by
    show Steps p.tables e below (s₁.setTop (mkF m 0 #[.val (.ref o0), .val (.int (4 : Int32))] [])) _
    refine XS.aloadN X0.here hx rfl (hb hby d1_0) rfl rfl ?_
    show Steps p.tables e below (s₁.setTop (mkF m 1 #[.val (.ref o0), .val (.int (4 : Int32))] [(.ref o0)])) _
    refine st3 _ ?_
    show Steps p.tables e below (T3.setTop (mkF m 4 #[.val (.ref o0), .val (.int (4 : Int32))] [])) _
    refine XS.aloadN X3.here hx rfl (hb hby d1_4) rfl rfl ?_
    show Steps p.tables e below (T3.setTop (mkF m 5 #[.val (.ref o0), .val (.int (4 : Int32))] [(.ref o0)])) _
    refine XS.iloadN X3.here hx rfl (hb hby d1_5) rfl ?_
    show Steps p.tables e below (T3.setTop (mkF m 6 #[.val (.ref o0), .val (.int (4 : Int32))] [(.int (4 : Int32)), (.ref o0)])) _
    refine st4 _ ?_
    show Steps p.tables e below (T4.setTop (mkF m 8 #[.val (.ref o0), .val (.int (4 : Int32))] [(.ref b4), (.ref o0)])) _
    refine st8 _ ?_
    show Steps p.tables e below (T8.setTop (mkF m 11 #[.val (.ref o0), .val (.int (4 : Int32))] [])) _
    refine XS.aloadN X8.here hx rfl (hb hby d1_11) rfl rfl ?_
    show Steps p.tables e below (T8.setTop (mkF m 12 #[.val (.ref o0), .val (.int (4 : Int32))] [(.ref o0)])) _
    refine XS.iloadN X8.here hx rfl (hb hby d1_12) rfl ?_
    show Steps p.tables e below (T8.setTop (mkF m 13 #[.val (.ref o0), .val (.int (4 : Int32))] [(.int (4 : Int32)), (.ref o0)])) _
    refine st12 _ ?_
    show Steps p.tables e below (T12.setTop (mkF m 15 #[.val (.ref o0), .val (.int (4 : Int32))] [(.ref b12), (.ref o0)])) _
    refine st16 _ ?_
    show Steps p.tables e below (T16.setTop (mkF m 18 #[.val (.ref o0), .val (.int (4 : Int32))] [])) _
    refine XS.aloadN X16.here hx rfl (hb hby d1_18) rfl rfl ?_
    show Steps p.tables e below (T16.setTop (mkF m 19 #[.val (.ref o0), .val (.int (4 : Int32))] [(.ref o0)])) _
    refine XS.iloadN X16.here hx rfl (hb hby d1_19) rfl ?_
    show Steps p.tables e below (T16.setTop (mkF m 20 #[.val (.ref o0), .val (.int (4 : Int32))] [(.int (4 : Int32)), (.ref o0)])) _
    refine st20 _ ?_
    show Steps p.tables e below (T20.setTop (mkF m 22 #[.val (.ref o0), .val (.int (4 : Int32))] [(.ref b20), (.ref o0)])) _
    refine st24 _ ?_
    show Steps p.tables e below (T24.setTop (mkF m 25 #[.val (.ref o0), .val (.int (4 : Int32))] [])) _
    refine XS.aloadN X24.here hx rfl (hb hby d1_25) rfl rfl ?_
    show Steps p.tables e below (T24.setTop (mkF m 26 #[.val (.ref o0), .val (.int (4 : Int32))] [(.ref o0)])) _
    refine st28 _ ?_
    show Steps p.tables e below (T28.setTop (mkF m 29 #[.val (.ref o0), .val (.int (4 : Int32))] [(.ref b20)])) _
    refine XS.iconst X28.here hx rfl (hb hby d1_29) ?_
    show Steps p.tables e below (T28.setTop (mkF m 30 #[.val (.ref o0), .val (.int (4 : Int32))] [(.int (-1 : Int32)), (.ref b20)])) _
    refine st29 _ ?_
    show Steps p.tables e below (T29.setTop (mkF m 33 #[.val (.ref o0), .val (.int (4 : Int32))] [])) _
    exact k)
  obtain ⟨fs, hr, hrun, hended, hW, hsame⟩ := X29.leave (v := none) (fun _ => rfl)
  refine ⟨_, _, pre33 _ ?_, hrun, hended, _, _, rfl, ?_, ⟨_, rfl⟩, hW, hsame.mono (by decide) (by decide)⟩
  · exact X29.returnOut hx Bd.returns (hb hby d1_33) hr
  · show Q1 Z o0 p1 h0 n0 _ T29.heap _
    skip
    exact ⟨b4, b12, b20, rfl, N29, K32, sz_b4, sz_b12, sz_b20, ne_b4_b12, ne_b4_b20, ne_b12_b20, F_items_o0_30, F_keys_o0_30, F_place_o0_30, F_size_o0_30, (own_A.eqv A_b4_30 (fun j _ => rfl)), (own_A.eqv A_b12_30 (fun j _ => rfl)), (own_A.eqv P29_0 (fun j _ => rfl))⟩
theorem d5_0 : decode prog_55_method_2_code 0 = .ok (.aload_n 0, 1) := by decide +kernel
theorem d5_1 : decode prog_55_method_2_code 1 = .ok (.getfield 26, 3) := by decide +kernel
theorem d5_4 : decode prog_55_method_2_code 4 = .ok (.ifCond .ne 7, 3) := by decide +kernel
theorem d5_7 : decode prog_55_method_2_code 7 = .ok (.iconst 1, 1) := by decide +kernel
theorem d5_8 : decode prog_55_method_2_code 8 = .ok (.goto 4, 3) := by decide +kernel
theorem d5_11 : decode prog_55_method_2_code 11 = .ok (.iconst 0, 1) := by decide +kernel
theorem d5_12 : decode prog_55_method_2_code 12 = .ok (.ireturn, 1) := by decide +kernel
theorem ef_5 (m : MethodId) (o0 : Addr) : entryFrame m #[(.ref o0)] 1 = mkF m 0 #[.val (.ref o0)] [] := by first | (simp [entryFrame, mkF, argsToLocals, Value.category]; done) | rfl
def f5_12 (w : Int32) : Int32 := (if w = (0 : Int32) then (1 : Int32) else (0 : Int32))

def Q5 (Z : State) (o0 : Addr) (w : Int32) (h0 : Heap) (n0 : Nat) (v : Option Value) (h : Heap) (L : List Loc) : Prop := v = some (.int ((f5_12 w) &&& 1)) ∧ Fr n0 L ∧ h = h0
set_option maxRecDepth 65536 in
set_option maxHeartbeats 40000000 in
theorem rm5 (l : Launch) (Z : State) (a0 : Array Value) (hw : ∀ d ∈ tables_1, d.before a0 Z = true) (ws : List Jvm.Cond) (o0 : Addr) (w : Int32) (h0 : Heap) (n0 : Nat) (Z0 : n0 ≤ h0.size) (F_size_o0 : Fld Z h0 o0 "com/example/lean_layers/leanlayers/phase/layering/IndexedHeap" "size" "I" (.int w)) :
    MetFree l (⟨"com/example/lean_layers/leanlayers/phase/layering/IndexedHeap", "isEmpty", "()Z"⟩ : MethodName) (head1 (Jvm.Cond.code (⟨"com/example/lean_layers/leanlayers/phase/layering/IndexedHeap", "isEmpty", "()Z"⟩ : MethodName) prog_55_method_2_code 1 (some .boolean) :: ws) ({ frames := 0, cells := 0, slots := 0, locals := 0 } : Room)) (fun a U => a = #[(.ref o0)] ∧ Z.Warmed39 U.vm ∧ U.heap = h0) (fun _ _ _ _ _ => True) (fun _ U o U' => ∃ v L, o = .returned v ∧ Q5 Z o0 w h0 n0 v U'.heap L ∧ FrameEnd U o U' L ({ frames := 0, cells := 0, slots := 0, locals := 0 } : Room).cells ({ frames := 0, cells := 0, slots := 0, locals := 0 } : Room).slots) := by
  refine MetFree.of_bodySF (plainFor_of_name pn_1) hisR ?_
  intro p e s m args below meth c s₁ Bd hml0 hP hK
  obtain ⟨rfl, hZ, hh⟩ := hP
  have hx := Bd.exec
  have hby := Bd.bytes
  have hml : c.maxLocals = 1 := hml0
  have hown : s.vm.findClass "com/example/lean_layers/leanlayers/phase/layering/IndexedHeap" = some m.cls := findClass_of_methodNamed Bd.named
  have hnm := (name_of_methodNamed Bd.named Bd.method).1
  have X0 : Stand p l e ({ frames := 0, cells := 0, slots := 0, locals := 0 } : Room) s m #[(.ref o0)] below meth c s₁ [] 0 0 := Stand.of_body Bd
  have e0 : s₁.heap = h0 := by rw [← hh, Bd.state]; rfl
  have N0 := Fr.nil n0
  have pre0 : ∀ t, Steps p.tables e below (s₁.setTop (mkF m 0 #[.val (.ref o0)] [])) t → Steps p.tables e below (s₁.setTop (entryFrame m #[(.ref o0)] 1)) t := fun t k => castTop (ef_5 m o0) k
  obtain ⟨T1, X1, e1, st1⟩ := getF X0 hx hZ hown (host := "") (Or.inl (hw _ (List.mem_of_getElem? (i := 26) rfl))) Via.refl e0 F_size_o0 (g := (mkF m 1 #[.val (.ref o0)] [(.ref o0)])) rfl rfl (hb hby d5_1)
  have pre2 : ∀ t, Steps p.tables e below (T1.setTop (mkF m 4 #[.val (.ref o0)] [(.int w)])) t → Steps p.tables e below (s₁.setTop (entryFrame m #[(.ref o0)] 1)) t := fun t k => pre0 t (by
    show Steps p.tables e below (s₁.setTop (mkF m 0 #[.val (.ref o0)] [])) _
    refine XS.aloadN X0.here hx rfl (hb hby d5_0) rfl rfl ?_
    show Steps p.tables e below (s₁.setTop (mkF m 1 #[.val (.ref o0)] [(.ref o0)])) _
    refine st1 _ ?_
    show Steps p.tables e below (T1.setTop (mkF m 4 #[.val (.ref o0)] [(.int w)])) _
    exact k)
  have pre4 : ∀ t, Steps p.tables e below (T1.setTop (mkF m 12 #[.val (.ref o0)] [(.int (f5_12 w))])) t → Steps p.tables e below (s₁.setTop (entryFrame m #[(.ref o0)] 1)) t := fun t k => pre2 t (by
    by_cases hf3 : w = (0 : Int32)
    · refine XS.ifNo X1.here hx rfl (hb hby d5_4) rfl ((if0 _ _).trans (teq hf3).2) ?_
      show Steps p.tables e below (T1.setTop (mkF m 7 #[.val (.ref o0)] [])) _
      refine XS.iconst X1.here hx rfl (hb hby d5_7) ?_
      show Steps p.tables e below (T1.setTop (mkF m 8 #[.val (.ref o0)] [(.int (1 : Int32))])) _
      refine XS.goto X1.here hx rfl (pc0 := 8) (pc' := 12) rfl (hb hby d5_8) (by decide) (by decide) ?_
      show Steps p.tables e below (T1.setTop (mkF m 12 #[.val (.ref o0)] [(.int (1 : Int32))])) _
      rw [show (f5_12 w) = ((1 : Int32) : Int32) from by simp only [f5_12, if_pos hf3]] at k
      exact k
    · refine XS.ifYes X1.here hx rfl (pc0 := 4) (pc' := 11) rfl (hb hby d5_4) rfl ((if0 _ _).trans (feq hf3).2) (by decide) (by decide) ?_
      show Steps p.tables e below (T1.setTop (mkF m 11 #[.val (.ref o0)] [])) _
      refine XS.iconst X1.here hx rfl (hb hby d5_11) ?_
      show Steps p.tables e below (T1.setTop (mkF m 12 #[.val (.ref o0)] [(.int (0 : Int32))])) _
      rw [show (f5_12 w) = ((0 : Int32) : Int32) from by simp only [f5_12, if_neg hf3]] at k
      exact k)
  obtain ⟨fs, hr, hrun, hended, hW, hsame⟩ := X1.leave (v := some (.int ((f5_12 w) &&& 1))) (fun h => by rw [Bd.returns] at h; cases h)
  refine ⟨_, _, pre4 _ ?_, hrun, hended, _, _, rfl, ?_, ⟨_, rfl⟩, hW, hsame.mono (by decide) (by decide)⟩
  · exact retN X1 hx (t := .boolean) Bd.returns (by simp) (hb hby d5_12) hr
  · show Q5 Z o0 w h0 n0 _ T1.heap _
    rw [e1]
    exact ⟨rfl, N0, rfl⟩
theorem own_ie0 {n : Nat} (h : n = 0) : ((f5_12 (n.toInt32)) &&& 1) = (1 : Int32) := by subst h; decide
theorem own_ie1 {n : Nat} (h : 0 < n) (hn : n < 2147483648) : ((f5_12 (n.toInt32)) &&& 1) = (0 : Int32) := by
  have q := own_ne0 h hn
  unfold f5_12
  rw [if_neg q]; decide
theorem d13_0 : decode prog_55_method_10_code 0 = .ok (.aload_n 0, 1) := by decide +kernel
theorem d13_1 : decode prog_55_method_10_code 1 = .ok (.getfield 13, 3) := by decide +kernel
theorem d13_4 : decode prog_55_method_10_code 4 = .ok (.iload_n 1, 1) := by decide +kernel
theorem d13_5 : decode prog_55_method_10_code 5 = .ok (.laload, 1) := by decide +kernel
theorem d13_6 : decode prog_55_method_10_code 6 = .ok (.aload_n 0, 1) := by decide +kernel
theorem d13_7 : decode prog_55_method_10_code 7 = .ok (.getfield 13, 3) := by decide +kernel
theorem d13_10 : decode prog_55_method_10_code 10 = .ok (.iload_n 2, 1) := by decide +kernel
theorem d13_11 : decode prog_55_method_10_code 11 = .ok (.laload, 1) := by decide +kernel
theorem d13_12 : decode prog_55_method_10_code 12 = .ok (.lcmp, 1) := by decide +kernel
theorem d13_13 : decode prog_55_method_10_code 13 = .ok (.ifCond .lt 24, 3) := by decide +kernel
theorem d13_16 : decode prog_55_method_10_code 16 = .ok (.aload_n 0, 1) := by decide +kernel
theorem d13_17 : decode prog_55_method_10_code 17 = .ok (.getfield 13, 3) := by decide +kernel
theorem d13_20 : decode prog_55_method_10_code 20 = .ok (.iload_n 1, 1) := by decide +kernel
theorem d13_21 : decode prog_55_method_10_code 21 = .ok (.laload, 1) := by decide +kernel
theorem d13_22 : decode prog_55_method_10_code 22 = .ok (.aload_n 0, 1) := by decide +kernel
theorem d13_23 : decode prog_55_method_10_code 23 = .ok (.getfield 13, 3) := by decide +kernel
theorem d13_26 : decode prog_55_method_10_code 26 = .ok (.iload_n 2, 1) := by decide +kernel
theorem d13_27 : decode prog_55_method_10_code 27 = .ok (.laload, 1) := by decide +kernel
theorem d13_28 : decode prog_55_method_10_code 28 = .ok (.lcmp, 1) := by decide +kernel
theorem d13_29 : decode prog_55_method_10_code 29 = .ok (.ifCond .ne 12, 3) := by decide +kernel
theorem d13_32 : decode prog_55_method_10_code 32 = .ok (.iload_n 1, 1) := by decide +kernel
theorem d13_33 : decode prog_55_method_10_code 33 = .ok (.iload_n 2, 1) := by decide +kernel
theorem d13_34 : decode prog_55_method_10_code 34 = .ok (.if_icmp .ge 7, 3) := by decide +kernel
theorem d13_37 : decode prog_55_method_10_code 37 = .ok (.iconst 1, 1) := by decide +kernel
theorem d13_38 : decode prog_55_method_10_code 38 = .ok (.goto 4, 3) := by decide +kernel
theorem d13_41 : decode prog_55_method_10_code 41 = .ok (.iconst 0, 1) := by decide +kernel
theorem d13_42 : decode prog_55_method_10_code 42 = .ok (.ireturn, 1) := by decide +kernel
theorem ef_13 (m : MethodId) (o0 : Addr) (p1 : Int32) (p2 : Int32) : entryFrame m #[(.ref o0), (.int p1), (.int p2)] 3 = mkF m 0 #[.val (.ref o0), .val (.int p1), .val (.int p2)] [] := by first | (simp [entryFrame, mkF, argsToLocals, Value.category]; done) | rfl

def Q13 (Z : State) (o0 : Addr) (p1 : Int32) (p2 : Int32) (tk : Addr) (ky : Nat → Int64) (xi yi : Nat) (h0 : Heap) (n0 : Nat) (v : Option Value) (h : Heap) (L : List Loc) : Prop := v = some (.int (own_bfr (ky xi) (ky yi) (xi.toInt32) (yi.toInt32))) ∧ Fr n0 L ∧ h = h0
set_option maxRecDepth 65536 in
set_option maxHeartbeats 40000000 in
theorem rm13 (l : Launch) (Z : State) (a0 : Array Value) (hw : ∀ d ∈ tables_1, d.before a0 Z = true) (ws : List Jvm.Cond) (o0 : Addr) (p1 : Int32) (p2 : Int32) (tk : Addr) (ky : Nat → Int64) (xi yi : Nat) (h0 : Heap) (n0 : Nat) (Z0 : n0 ≤ h0.size) (F_keys_o0 : Fld Z h0 o0 "com/example/lean_layers/leanlayers/phase/layering/IndexedHeap" "keys" "[J" (.ref tk)) (A_tk : own_A Z h0 tk .long 4 (fun kk => (.long (ky kk)))) (hp1 : p1 = (xi.toInt32)) (hp2 : p2 = (yi.toInt32)) (hxc : xi < 4) (hyc : yi < 4) :
    MetFree l (⟨"com/example/lean_layers/leanlayers/phase/layering/IndexedHeap", "before", "(II)Z"⟩ : MethodName) (head1 (Jvm.Cond.code (⟨"com/example/lean_layers/leanlayers/phase/layering/IndexedHeap", "before", "(II)Z"⟩ : MethodName) prog_55_method_10_code 3 (some .boolean) :: ws) ({ frames := 0, cells := 0, slots := 0, locals := 0 } : Room)) (fun a U => a = #[(.ref o0), (.int p1), (.int p2)] ∧ Z.Warmed39 U.vm ∧ U.heap = h0) (fun _ _ _ _ _ => True) (fun _ U o U' => ∃ v L, o = .returned v ∧ Q13 Z o0 p1 p2 tk ky xi yi h0 n0 v U'.heap L ∧ FrameEnd U o U' L ({ frames := 0, cells := 0, slots := 0, locals := 0 } : Room).cells ({ frames := 0, cells := 0, slots := 0, locals := 0 } : Room).slots) := by
  refine MetFree.of_bodySF (plainFor_of_name pn_1) hisR ?_
  intro p e s m args below meth c s₁ Bd hml0 hP hK
  obtain ⟨rfl, hZ, hh⟩ := hP
  have hx := Bd.exec
  have hby := Bd.bytes
  have hml : c.maxLocals = 3 := hml0
  have hown : s.vm.findClass "com/example/lean_layers/leanlayers/phase/layering/IndexedHeap" = some m.cls := findClass_of_methodNamed Bd.named
  have hnm := (name_of_methodNamed Bd.named Bd.method).1
  have X0 : Stand p l e ({ frames := 0, cells := 0, slots := 0, locals := 0 } : Room) s m #[(.ref o0), (.int p1), (.int p2)] below meth c s₁ [] 0 0 := Stand.of_body Bd
  have e0 : s₁.heap = h0 := by rw [← hh, Bd.state]; rfl
  have N0 := Fr.nil n0
  have pre0 : ∀ t, Steps p.tables e below (s₁.setTop (mkF m 0 #[.val (.ref o0), .val (.int p1), .val (.int p2)] [])) t → Steps p.tables e below (s₁.setTop (entryFrame m #[(.ref o0), (.int p1), (.int p2)] 3)) t := fun t k => castTop (ef_13 m o0 p1 p2) k
  have pre1 : ∀ t, Steps p.tables e below (s₁.setTop (mkF m 0 #[.val (.ref o0), .val (.int p1), .val (.int p2)] [])) t → Steps p.tables e below (s₁.setTop (entryFrame m #[(.ref o0), (.int p1), (.int p2)] 3)) t := fun t k => pre0 t (by
    show Steps p.tables e below (s₁.setTop (mkF m 0 #[.val (.ref o0), .val (.int p1), .val (.int p2)] [])) _
    exact k)
  have hre2 : p1 = (xi.toInt32) := hp1
  have pre2 : ∀ t, Steps p.tables e below (s₁.setTop (mkF m 0 #[.val (.ref o0), .val (.int (xi.toInt32)), .val (.int p2)] [])) t → Steps p.tables e below (s₁.setTop (entryFrame m #[(.ref o0), (.int p1), (.int p2)] 3)) t := fun t k => pre1 t (by rw [hre2]; exact k)
  have pre3 : ∀ t, Steps p.tables e below (s₁.setTop (mkF m 0 #[.val (.ref o0), .val (.int (xi.toInt32)), .val (.int p2)] [])) t → Steps p.tables e below (s₁.setTop (entryFrame m #[(.ref o0), (.int p1), (.int p2)] 3)) t := fun t k => pre2 t (by
    show Steps p.tables e below (s₁.setTop (mkF m 0 #[.val (.ref o0), .val (.int (xi.toInt32)), .val (.int p2)] [])) _
    exact k)
  have hre4 : p2 = (yi.toInt32) := hp2
  have pre4 : ∀ t, Steps p.tables e below (s₁.setTop (mkF m 0 #[.val (.ref o0), .val (.int (xi.toInt32)), .val (.int (yi.toInt32))] [])) t → Steps p.tables e below (s₁.setTop (entryFrame m #[(.ref o0), (.int p1), (.int p2)] 3)) t := fun t k => pre3 t (by rw [hre4]; exact k)
  obtain ⟨T5, X5, e5, st5⟩ := getF X0 hx hZ hown (host := "") (Or.inl (hw _ (List.mem_of_getElem? (i := 13) rfl))) Via.refl e0 F_keys_o0 (g := (mkF m 1 #[.val (.ref o0), .val (.int (xi.toInt32)), .val (.int (yi.toInt32))] [(.ref o0)])) rfl rfl (hb hby d13_1)
  have qa6 := A_tk
  obtain ⟨c6, Ar6, Sz6, H6⟩ := qa6
  have hi7 : 0 ≤ ((xi.toInt32) : Int32).toInt ∧ ((xi.toInt32) : Int32).toInt < (4 : Nat) := (own_bd (show xi < 4 by omega) (by decide))
  have hl7 : c6.slots[((xi.toInt32) : Int32).toNatClampNeg]? = some (.long (ky xi)) := by rw [show (ky xi) = ((ky ((xi.toInt32) : Int32).toNatClampNeg)) from by rw [own_tn (show xi < 2147483648 by omega)]]; exact H6 _ (own_ix hi7)
  obtain ⟨T8, X8, e8, st8⟩ := getF X5 hx hZ hown (host := "") (Or.inl (hw _ (List.mem_of_getElem? (i := 13) rfl))) Via.refl e5 F_keys_o0 (g := (mkF m 7 #[.val (.ref o0), .val (.int (xi.toInt32)), .val (.int (yi.toInt32))] [(.ref o0), (.long (ky xi))])) rfl rfl (hb hby d13_7)
  have qa9 := A_tk
  obtain ⟨c9, Ar9, Sz9, H9⟩ := qa9
  have hi10 : 0 ≤ ((yi.toInt32) : Int32).toInt ∧ ((yi.toInt32) : Int32).toInt < (4 : Nat) := (own_bd (show yi < 4 by omega) (by decide))
  have hl10 : c9.slots[((yi.toInt32) : Int32).toNatClampNeg]? = some (.long (ky yi)) := by rw [show (ky yi) = ((ky ((yi.toInt32) : Int32).toNatClampNeg)) from by rw [own_tn (show yi < 2147483648 by omega)]]; exact H9 _ (own_ix hi10)
  have pre11 : ∀ t, Steps p.tables e below (T8.setTop (mkF m 13 #[.val (.ref o0), .val (.int (xi.toInt32)), .val (.int (yi.toInt32))] [(.int (lcmpW (ky xi) (ky yi)))])) t → Steps p.tables e below (s₁.setTop (entryFrame m #[(.ref o0), (.int p1), (.int p2)] 3)) t := fun t k => pre4 t (by
    show Steps p.tables e below (s₁.setTop (mkF m 0 #[.val (.ref o0), .val (.int (xi.toInt32)), .val (.int (yi.toInt32))] [])) _
    refine XS.aloadN X0.here hx rfl (hb hby d13_0) rfl rfl ?_
    show Steps p.tables e below (s₁.setTop (mkF m 1 #[.val (.ref o0), .val (.int (xi.toInt32)), .val (.int (yi.toInt32))] [(.ref o0)])) _
    refine st5 _ ?_
    show Steps p.tables e below (T5.setTop (mkF m 4 #[.val (.ref o0), .val (.int (xi.toInt32)), .val (.int (yi.toInt32))] [(.ref tk)])) _
    refine XS.iloadN X5.here hx rfl (hb hby d13_4) rfl ?_
    show Steps p.tables e below (T5.setTop (mkF m 5 #[.val (.ref o0), .val (.int (xi.toInt32)), .val (.int (yi.toInt32))] [(.int (xi.toInt32)), (.ref tk)])) _
    refine X5.laload hx (j := (xi.toInt32)) (v := (.long (ky xi))) (by rw [e5]; exact Ar6.1) (State.isArrayOf_alike hZ.alike Ar6.2.1) Ar6.2.2 (own_in Sz6 hi7) hl7 (g := (mkF m 5 #[.val (.ref o0), .val (.int (xi.toInt32)), .val (.int (yi.toInt32))] [(.int (xi.toInt32)), (.ref tk)])) rfl rfl (hb hby d13_5) _ ?_
    show Steps p.tables e below (T5.setTop (mkF m 6 #[.val (.ref o0), .val (.int (xi.toInt32)), .val (.int (yi.toInt32))] [(.long (ky xi))])) _
    refine XS.aloadN X5.here hx rfl (hb hby d13_6) rfl rfl ?_
    show Steps p.tables e below (T5.setTop (mkF m 7 #[.val (.ref o0), .val (.int (xi.toInt32)), .val (.int (yi.toInt32))] [(.ref o0), (.long (ky xi))])) _
    refine st8 _ ?_
    show Steps p.tables e below (T8.setTop (mkF m 10 #[.val (.ref o0), .val (.int (xi.toInt32)), .val (.int (yi.toInt32))] [(.ref tk), (.long (ky xi))])) _
    refine XS.iloadN X8.here hx rfl (hb hby d13_10) rfl ?_
    show Steps p.tables e below (T8.setTop (mkF m 11 #[.val (.ref o0), .val (.int (xi.toInt32)), .val (.int (yi.toInt32))] [(.int (yi.toInt32)), (.ref tk), (.long (ky xi))])) _
    refine X8.laload hx (j := (yi.toInt32)) (v := (.long (ky yi))) (by rw [e8]; exact Ar9.1) (State.isArrayOf_alike hZ.alike Ar9.2.1) Ar9.2.2 (own_in Sz9 hi10) hl10 (g := (mkF m 11 #[.val (.ref o0), .val (.int (xi.toInt32)), .val (.int (yi.toInt32))] [(.int (yi.toInt32)), (.ref tk), (.long (ky xi))])) rfl rfl (hb hby d13_11) _ ?_
    show Steps p.tables e below (T8.setTop (mkF m 12 #[.val (.ref o0), .val (.int (xi.toInt32)), .val (.int (yi.toInt32))] [(.long (ky yi)), (.long (ky xi))])) _
    refine XS.lcmp X8.here hx rfl (hb hby d13_12) rfl ?_
    show Steps p.tables e below (T8.setTop (mkF m 13 #[.val (.ref o0), .val (.int (xi.toInt32)), .val (.int (yi.toInt32))] [(.int (lcmpW (ky xi) (ky yi)))])) _
    exact k)
  by_cases hs12 : (ky xi) < (ky yi)
  · have pre13 : ∀ t, Steps p.tables e below (T8.setTop (mkF m 42 #[.val (.ref o0), .val (.int (xi.toInt32)), .val (.int (yi.toInt32))] [(.int (1 : Int32))])) t → Steps p.tables e below (s₁.setTop (entryFrame m #[(.ref o0), (.int p1), (.int p2)] 3)) t := fun t k => pre11 t (by
      refine XS.ifYes X8.here hx rfl (pc0 := 13) (pc' := 37) rfl (hb hby d13_13) rfl (own_ltL hs12).1 (by decide) (by decide) ?_
      show Steps p.tables e below (T8.setTop (mkF m 37 #[.val (.ref o0), .val (.int (xi.toInt32)), .val (.int (yi.toInt32))] [])) _
      refine XS.iconst X8.here hx rfl (hb hby d13_37) ?_
      show Steps p.tables e below (T8.setTop (mkF m 38 #[.val (.ref o0), .val (.int (xi.toInt32)), .val (.int (yi.toInt32))] [(.int (1 : Int32))])) _
      refine XS.goto X8.here hx rfl (pc0 := 38) (pc' := 42) rfl (hb hby d13_38) (by decide) (by decide) ?_
      show Steps p.tables e below (T8.setTop (mkF m 42 #[.val (.ref o0), .val (.int (xi.toInt32)), .val (.int (yi.toInt32))] [(.int (1 : Int32))])) _
      exact k)
    obtain ⟨fs, hr, hrun, hended, hW, hsame⟩ := X8.leave (v := some (.int (1 : Int32))) (fun h => by rw [Bd.returns] at h; cases h)
    refine ⟨_, _, pre13 _ ?_, hrun, hended, _, _, rfl, ?_, ⟨_, rfl⟩, hW, hsame.mono (by decide) (by decide)⟩
    · exact retN X8 hx (t := .boolean) Bd.returns (by simp) (hb hby d13_42) hr
    · show Q13 Z o0 p1 p2 tk ky xi yi h0 n0 _ T8.heap _
      rw [e8]
      exact ⟨(by simp only [own_bfr, if_pos hs12, ↓reduceIte]), N0, rfl⟩
  · obtain ⟨T14, X14, e14, st14⟩ := getF X8 hx hZ hown (host := "") (Or.inl (hw _ (List.mem_of_getElem? (i := 13) rfl))) Via.refl e8 F_keys_o0 (g := (mkF m 17 #[.val (.ref o0), .val (.int (xi.toInt32)), .val (.int (yi.toInt32))] [(.ref o0)])) rfl rfl (hb hby d13_17)
    have qa15 := A_tk
    obtain ⟨c15, Ar15, Sz15, H15⟩ := qa15
    have hi16 : 0 ≤ ((xi.toInt32) : Int32).toInt ∧ ((xi.toInt32) : Int32).toInt < (4 : Nat) := (own_bd (show xi < 4 by omega) (by decide))
    have hl16 : c15.slots[((xi.toInt32) : Int32).toNatClampNeg]? = some (.long (ky xi)) := by rw [show (ky xi) = ((ky ((xi.toInt32) : Int32).toNatClampNeg)) from by rw [own_tn (show xi < 2147483648 by omega)]]; exact H15 _ (own_ix hi16)
    obtain ⟨T17, X17, e17, st17⟩ := getF X14 hx hZ hown (host := "") (Or.inl (hw _ (List.mem_of_getElem? (i := 13) rfl))) Via.refl e14 F_keys_o0 (g := (mkF m 23 #[.val (.ref o0), .val (.int (xi.toInt32)), .val (.int (yi.toInt32))] [(.ref o0), (.long (ky xi))])) rfl rfl (hb hby d13_23)
    have qa18 := A_tk
    obtain ⟨c18, Ar18, Sz18, H18⟩ := qa18
    have hi19 : 0 ≤ ((yi.toInt32) : Int32).toInt ∧ ((yi.toInt32) : Int32).toInt < (4 : Nat) := (own_bd (show yi < 4 by omega) (by decide))
    have hl19 : c18.slots[((yi.toInt32) : Int32).toNatClampNeg]? = some (.long (ky yi)) := by rw [show (ky yi) = ((ky ((yi.toInt32) : Int32).toNatClampNeg)) from by rw [own_tn (show yi < 2147483648 by omega)]]; exact H18 _ (own_ix hi19)
    have pre20 : ∀ t, Steps p.tables e below (T17.setTop (mkF m 29 #[.val (.ref o0), .val (.int (xi.toInt32)), .val (.int (yi.toInt32))] [(.int (lcmpW (ky xi) (ky yi)))])) t → Steps p.tables e below (s₁.setTop (entryFrame m #[(.ref o0), (.int p1), (.int p2)] 3)) t := fun t k => pre11 t (by
      refine XS.ifNo X8.here hx rfl (hb hby d13_13) rfl (own_fltL hs12).1 ?_
      show Steps p.tables e below (T8.setTop (mkF m 16 #[.val (.ref o0), .val (.int (xi.toInt32)), .val (.int (yi.toInt32))] [])) _
      refine XS.aloadN X8.here hx rfl (hb hby d13_16) rfl rfl ?_
      show Steps p.tables e below (T8.setTop (mkF m 17 #[.val (.ref o0), .val (.int (xi.toInt32)), .val (.int (yi.toInt32))] [(.ref o0)])) _
      refine st14 _ ?_
      show Steps p.tables e below (T14.setTop (mkF m 20 #[.val (.ref o0), .val (.int (xi.toInt32)), .val (.int (yi.toInt32))] [(.ref tk)])) _
      refine XS.iloadN X14.here hx rfl (hb hby d13_20) rfl ?_
      show Steps p.tables e below (T14.setTop (mkF m 21 #[.val (.ref o0), .val (.int (xi.toInt32)), .val (.int (yi.toInt32))] [(.int (xi.toInt32)), (.ref tk)])) _
      refine X14.laload hx (j := (xi.toInt32)) (v := (.long (ky xi))) (by rw [e14]; exact Ar15.1) (State.isArrayOf_alike hZ.alike Ar15.2.1) Ar15.2.2 (own_in Sz15 hi16) hl16 (g := (mkF m 21 #[.val (.ref o0), .val (.int (xi.toInt32)), .val (.int (yi.toInt32))] [(.int (xi.toInt32)), (.ref tk)])) rfl rfl (hb hby d13_21) _ ?_
      show Steps p.tables e below (T14.setTop (mkF m 22 #[.val (.ref o0), .val (.int (xi.toInt32)), .val (.int (yi.toInt32))] [(.long (ky xi))])) _
      refine XS.aloadN X14.here hx rfl (hb hby d13_22) rfl rfl ?_
      show Steps p.tables e below (T14.setTop (mkF m 23 #[.val (.ref o0), .val (.int (xi.toInt32)), .val (.int (yi.toInt32))] [(.ref o0), (.long (ky xi))])) _
      refine st17 _ ?_
      show Steps p.tables e below (T17.setTop (mkF m 26 #[.val (.ref o0), .val (.int (xi.toInt32)), .val (.int (yi.toInt32))] [(.ref tk), (.long (ky xi))])) _
      refine XS.iloadN X17.here hx rfl (hb hby d13_26) rfl ?_
      show Steps p.tables e below (T17.setTop (mkF m 27 #[.val (.ref o0), .val (.int (xi.toInt32)), .val (.int (yi.toInt32))] [(.int (yi.toInt32)), (.ref tk), (.long (ky xi))])) _
      refine X17.laload hx (j := (yi.toInt32)) (v := (.long (ky yi))) (by rw [e17]; exact Ar18.1) (State.isArrayOf_alike hZ.alike Ar18.2.1) Ar18.2.2 (own_in Sz18 hi19) hl19 (g := (mkF m 27 #[.val (.ref o0), .val (.int (xi.toInt32)), .val (.int (yi.toInt32))] [(.int (yi.toInt32)), (.ref tk), (.long (ky xi))])) rfl rfl (hb hby d13_27) _ ?_
      show Steps p.tables e below (T17.setTop (mkF m 28 #[.val (.ref o0), .val (.int (xi.toInt32)), .val (.int (yi.toInt32))] [(.long (ky yi)), (.long (ky xi))])) _
      refine XS.lcmp X17.here hx rfl (hb hby d13_28) rfl ?_
      show Steps p.tables e below (T17.setTop (mkF m 29 #[.val (.ref o0), .val (.int (xi.toInt32)), .val (.int (yi.toInt32))] [(.int (lcmpW (ky xi) (ky yi)))])) _
      exact k)
    by_cases hs21 : (ky xi) = (ky yi)
    · have pre22 : ∀ t, Steps p.tables e below (T17.setTop (mkF m 34 #[.val (.ref o0), .val (.int (xi.toInt32)), .val (.int (yi.toInt32))] [(.int (yi.toInt32)), (.int (xi.toInt32))])) t → Steps p.tables e below (s₁.setTop (entryFrame m #[(.ref o0), (.int p1), (.int p2)] 3)) t := fun t k => pre20 t (by
        refine XS.ifNo X17.here hx rfl (hb hby d13_29) rfl (own_eqL hs21).2 ?_
        show Steps p.tables e below (T17.setTop (mkF m 32 #[.val (.ref o0), .val (.int (xi.toInt32)), .val (.int (yi.toInt32))] [])) _
        refine XS.iloadN X17.here hx rfl (hb hby d13_32) rfl ?_
        show Steps p.tables e below (T17.setTop (mkF m 33 #[.val (.ref o0), .val (.int (xi.toInt32)), .val (.int (yi.toInt32))] [(.int (xi.toInt32))])) _
        refine XS.iloadN X17.here hx rfl (hb hby d13_33) rfl ?_
        show Steps p.tables e below (T17.setTop (mkF m 34 #[.val (.ref o0), .val (.int (xi.toInt32)), .val (.int (yi.toInt32))] [(.int (yi.toInt32)), (.int (xi.toInt32))])) _
        exact k)
      by_cases hs23 : (xi.toInt32) < (yi.toInt32)
      · have pre24 : ∀ t, Steps p.tables e below (T17.setTop (mkF m 42 #[.val (.ref o0), .val (.int (xi.toInt32)), .val (.int (yi.toInt32))] [(.int (1 : Int32))])) t → Steps p.tables e below (s₁.setTop (entryFrame m #[(.ref o0), (.int p1), (.int p2)] 3)) t := fun t k => pre22 t (by
          refine XS.icmpNo X17.here hx rfl (hb hby d13_34) rfl (tlt hs23).2.1 ?_
          show Steps p.tables e below (T17.setTop (mkF m 37 #[.val (.ref o0), .val (.int (xi.toInt32)), .val (.int (yi.toInt32))] [])) _
          refine XS.iconst X17.here hx rfl (hb hby d13_37) ?_
          show Steps p.tables e below (T17.setTop (mkF m 38 #[.val (.ref o0), .val (.int (xi.toInt32)), .val (.int (yi.toInt32))] [(.int (1 : Int32))])) _
          refine XS.goto X17.here hx rfl (pc0 := 38) (pc' := 42) rfl (hb hby d13_38) (by decide) (by decide) ?_
          show Steps p.tables e below (T17.setTop (mkF m 42 #[.val (.ref o0), .val (.int (xi.toInt32)), .val (.int (yi.toInt32))] [(.int (1 : Int32))])) _
          exact k)
        obtain ⟨fs, hr, hrun, hended, hW, hsame⟩ := X17.leave (v := some (.int (1 : Int32))) (fun h => by rw [Bd.returns] at h; cases h)
        refine ⟨_, _, pre24 _ ?_, hrun, hended, _, _, rfl, ?_, ⟨_, rfl⟩, hW, hsame.mono (by decide) (by decide)⟩
        · exact retN X17 hx (t := .boolean) Bd.returns (by simp) (hb hby d13_42) hr
        · show Q13 Z o0 p1 p2 tk ky xi yi h0 n0 _ T17.heap _
          rw [e17]
          exact ⟨(by simp only [own_bfr, if_neg hs12, if_pos hs21, if_pos hs23, ↓reduceIte]), N0, rfl⟩
      · have pre25 : ∀ t, Steps p.tables e below (T17.setTop (mkF m 42 #[.val (.ref o0), .val (.int (xi.toInt32)), .val (.int (yi.toInt32))] [(.int (0 : Int32))])) t → Steps p.tables e below (s₁.setTop (entryFrame m #[(.ref o0), (.int p1), (.int p2)] 3)) t := fun t k => pre22 t (by
          refine XS.icmpYes X17.here hx rfl (pc0 := 34) (pc' := 41) rfl (hb hby d13_34) rfl (flt hs23).2.1 (by decide) (by decide) ?_
          show Steps p.tables e below (T17.setTop (mkF m 41 #[.val (.ref o0), .val (.int (xi.toInt32)), .val (.int (yi.toInt32))] [])) _
          refine XS.iconst X17.here hx rfl (hb hby d13_41) ?_
          show Steps p.tables e below (T17.setTop (mkF m 42 #[.val (.ref o0), .val (.int (xi.toInt32)), .val (.int (yi.toInt32))] [(.int (0 : Int32))])) _
          exact k)
        obtain ⟨fs, hr, hrun, hended, hW, hsame⟩ := X17.leave (v := some (.int (0 : Int32))) (fun h => by rw [Bd.returns] at h; cases h)
        refine ⟨_, _, pre25 _ ?_, hrun, hended, _, _, rfl, ?_, ⟨_, rfl⟩, hW, hsame.mono (by decide) (by decide)⟩
        · exact retN X17 hx (t := .boolean) Bd.returns (by simp) (hb hby d13_42) hr
        · show Q13 Z o0 p1 p2 tk ky xi yi h0 n0 _ T17.heap _
          rw [e17]
          exact ⟨(by simp only [own_bfr, if_neg hs12, if_pos hs21, if_neg hs23, ↓reduceIte]), N0, rfl⟩
    · have pre26 : ∀ t, Steps p.tables e below (T17.setTop (mkF m 42 #[.val (.ref o0), .val (.int (xi.toInt32)), .val (.int (yi.toInt32))] [(.int (0 : Int32))])) t → Steps p.tables e below (s₁.setTop (entryFrame m #[(.ref o0), (.int p1), (.int p2)] 3)) t := fun t k => pre20 t (by
        refine XS.ifYes X17.here hx rfl (pc0 := 29) (pc' := 41) rfl (hb hby d13_29) rfl (own_neL hs21).2 (by decide) (by decide) ?_
        show Steps p.tables e below (T17.setTop (mkF m 41 #[.val (.ref o0), .val (.int (xi.toInt32)), .val (.int (yi.toInt32))] [])) _
        refine XS.iconst X17.here hx rfl (hb hby d13_41) ?_
        show Steps p.tables e below (T17.setTop (mkF m 42 #[.val (.ref o0), .val (.int (xi.toInt32)), .val (.int (yi.toInt32))] [(.int (0 : Int32))])) _
        exact k)
      obtain ⟨fs, hr, hrun, hended, hW, hsame⟩ := X17.leave (v := some (.int (0 : Int32))) (fun h => by rw [Bd.returns] at h; cases h)
      refine ⟨_, _, pre26 _ ?_, hrun, hended, _, _, rfl, ?_, ⟨_, rfl⟩, hW, hsame.mono (by decide) (by decide)⟩
      · exact retN X17 hx (t := .boolean) Bd.returns (by simp) (hb hby d13_42) hr
      · show Q13 Z o0 p1 p2 tk ky xi yi h0 n0 _ T17.heap _
        rw [e17]
        exact ⟨(by simp only [own_bfr, if_neg hs12, if_neg hs21, ↓reduceIte]), N0, rfl⟩
theorem d8_0 : decode prog_55_method_11_code 0 = .ok (.aload_n 0, 1) := by decide +kernel
theorem d8_1 : decode prog_55_method_11_code 1 = .ok (.getfield 7, 3) := by decide +kernel
theorem d8_4 : decode prog_55_method_11_code 4 = .ok (.iload_n 1, 1) := by decide +kernel
theorem d8_5 : decode prog_55_method_11_code 5 = .ok (.iload_n 2, 1) := by decide +kernel
theorem d8_6 : decode prog_55_method_11_code 6 = .ok (.iastore, 1) := by decide +kernel
theorem d8_7 : decode prog_55_method_11_code 7 = .ok (.aload_n 0, 1) := by decide +kernel
theorem d8_8 : decode prog_55_method_11_code 8 = .ok (.getfield 17, 3) := by decide +kernel
theorem d8_11 : decode prog_55_method_11_code 11 = .ok (.iload_n 2, 1) := by decide +kernel
theorem d8_12 : decode prog_55_method_11_code 12 = .ok (.iload_n 1, 1) := by decide +kernel
theorem d8_13 : decode prog_55_method_11_code 13 = .ok (.iastore, 1) := by decide +kernel
theorem d8_14 : decode prog_55_method_11_code 14 = .ok (.return_, 1) := by decide +kernel
theorem ef_8 (m : MethodId) (o0 : Addr) (p1 : Int32) (p2 : Int32) : entryFrame m #[(.ref o0), (.int p1), (.int p2)] 3 = mkF m 0 #[.val (.ref o0), .val (.int p1), .val (.int p2)] [] := by first | (simp [entryFrame, mkF, argsToLocals, Value.category]; done) | rfl

def Q8 (Z : State) (o0 : Addr) (p1 : Int32) (p2 : Int32) (ti tp : Addr) (it pl : Nat → Nat) (ii xi : Nat) (h0 : Heap) (n0 : Nat) (v : Option Value) (h : Heap) (L : List Loc) : Prop := v = none ∧ Fr n0 L ∧ Keep h0 h [ti, tp] ∧ (own_A Z h ti .int 4 (fun kk => (.int (((own_u it ii xi) kk).toInt32)))) ∧ (own_A Z h tp .int 4 (fun kk => (.int (own_pl ((own_u pl xi (ii + 1)) kk)))))
set_option maxRecDepth 65536 in
set_option maxHeartbeats 40000000 in
theorem rm8 (l : Launch) (Z : State) (a0 : Array Value) (hw : ∀ d ∈ tables_1, d.before a0 Z = true) (ws : List Jvm.Cond) (o0 : Addr) (p1 : Int32) (p2 : Int32) (ti tp : Addr) (it pl : Nat → Nat) (ii xi : Nat) (h0 : Heap) (n0 : Nat) (Z0 : n0 ≤ h0.size) (F_items_o0 : Fld Z h0 o0 "com/example/lean_layers/leanlayers/phase/layering/IndexedHeap" "items" "[I" (.ref ti)) (F_place_o0 : Fld Z h0 o0 "com/example/lean_layers/leanlayers/phase/layering/IndexedHeap" "place" "[I" (.ref tp)) (E_o0 : Exa Z h0 o0 "com/example/lean_layers/leanlayers/phase/layering/IndexedHeap") (A_ti : own_A Z h0 ti .int 4 (fun kk => (.int ((it kk).toInt32)))) (A_tp : own_A Z h0 tp .int 4 (fun kk => (.int (own_pl (pl kk))))) (g_ti : n0 ≤ ti) (g_tp : n0 ≤ tp) (ne_o0_ti : o0 ≠ ti) (ne_o0_tp : o0 ≠ tp) (ne_ti_tp : ti ≠ tp) (hp1 : p1 = (ii.toInt32)) (hp2 : p2 = (xi.toInt32)) (hic : ii < 4) (hxc : xi < 4) :
    MetFree l (⟨"com/example/lean_layers/leanlayers/phase/layering/IndexedHeap", "setAt", "(II)V"⟩ : MethodName) (head1 (Jvm.Cond.code (⟨"com/example/lean_layers/leanlayers/phase/layering/IndexedHeap", "setAt", "(II)V"⟩ : MethodName) prog_55_method_11_code 3 none :: ws) ({ frames := 0, cells := 0, slots := 0, locals := 0 } : Room)) (fun a U => a = #[(.ref o0), (.int p1), (.int p2)] ∧ Z.Warmed39 U.vm ∧ U.heap = h0) (fun _ _ _ _ _ => True) (fun _ U o U' => ∃ v L, o = .returned v ∧ Q8 Z o0 p1 p2 ti tp it pl ii xi h0 n0 v U'.heap L ∧ FrameEnd U o U' L ({ frames := 0, cells := 0, slots := 0, locals := 0 } : Room).cells ({ frames := 0, cells := 0, slots := 0, locals := 0 } : Room).slots) := by
  refine MetFree.of_bodySF (plainFor_of_name pn_1) hisR ?_
  intro p e s m args below meth c s₁ Bd hml0 hP hK
  obtain ⟨rfl, hZ, hh⟩ := hP
  have hx := Bd.exec
  have hby := Bd.bytes
  have hml : c.maxLocals = 3 := hml0
  have hown : s.vm.findClass "com/example/lean_layers/leanlayers/phase/layering/IndexedHeap" = some m.cls := findClass_of_methodNamed Bd.named
  have hnm := (name_of_methodNamed Bd.named Bd.method).1
  have X0 : Stand p l e ({ frames := 0, cells := 0, slots := 0, locals := 0 } : Room) s m #[(.ref o0), (.int p1), (.int p2)] below meth c s₁ [] 0 0 := Stand.of_body Bd
  have e0 : s₁.heap = h0 := by rw [← hh, Bd.state]; rfl
  have N0 := Fr.nil n0
  have pre0 : ∀ t, Steps p.tables e below (s₁.setTop (mkF m 0 #[.val (.ref o0), .val (.int p1), .val (.int p2)] [])) t → Steps p.tables e below (s₁.setTop (entryFrame m #[(.ref o0), (.int p1), (.int p2)] 3)) t := fun t k => castTop (ef_8 m o0 p1 p2) k
  have pre1 : ∀ t, Steps p.tables e below (s₁.setTop (mkF m 0 #[.val (.ref o0), .val (.int p1), .val (.int p2)] [])) t → Steps p.tables e below (s₁.setTop (entryFrame m #[(.ref o0), (.int p1), (.int p2)] 3)) t := fun t k => pre0 t (by
    show Steps p.tables e below (s₁.setTop (mkF m 0 #[.val (.ref o0), .val (.int p1), .val (.int p2)] [])) _
    exact k)
  have hre2 : p1 = (ii.toInt32) := hp1
  have pre2 : ∀ t, Steps p.tables e below (s₁.setTop (mkF m 0 #[.val (.ref o0), .val (.int (ii.toInt32)), .val (.int p2)] [])) t → Steps p.tables e below (s₁.setTop (entryFrame m #[(.ref o0), (.int p1), (.int p2)] 3)) t := fun t k => pre1 t (by rw [hre2]; exact k)
  have pre3 : ∀ t, Steps p.tables e below (s₁.setTop (mkF m 0 #[.val (.ref o0), .val (.int (ii.toInt32)), .val (.int p2)] [])) t → Steps p.tables e below (s₁.setTop (entryFrame m #[(.ref o0), (.int p1), (.int p2)] 3)) t := fun t k => pre2 t (by
    show Steps p.tables e below (s₁.setTop (mkF m 0 #[.val (.ref o0), .val (.int (ii.toInt32)), .val (.int p2)] [])) _
    exact k)
  have hre4 : p2 = (xi.toInt32) := hp2
  have pre4 : ∀ t, Steps p.tables e below (s₁.setTop (mkF m 0 #[.val (.ref o0), .val (.int (ii.toInt32)), .val (.int (xi.toInt32))] [])) t → Steps p.tables e below (s₁.setTop (entryFrame m #[(.ref o0), (.int p1), (.int p2)] 3)) t := fun t k => pre3 t (by rw [hre4]; exact k)
  obtain ⟨T5, X5, e5, st5⟩ := getF X0 hx hZ hown (host := "") (Or.inl (hw _ (List.mem_of_getElem? (i := 10) rfl))) Via.refl e0 F_items_o0 (g := (mkF m 1 #[.val (.ref o0), .val (.int (ii.toInt32)), .val (.int (xi.toInt32))] [(.ref o0)])) rfl rfl (hb hby d8_1)
  have qa6 := A_ti
  obtain ⟨c6, Ar6, Sz6, H6⟩ := qa6
  have hi7 : 0 ≤ ((ii.toInt32) : Int32).toInt ∧ ((ii.toInt32) : Int32).toInt < (4 : Nat) := (own_bd (show ii < 4 by omega) (by decide))
  obtain ⟨T7, h7, X7, e7, W7, st7⟩ := stI X5 hx hZ e5 Ar6 (j := (ii.toInt32)) (own_in Sz6 hi7) (g := (mkF m 6 #[.val (.ref o0), .val (.int (ii.toInt32)), .val (.int (xi.toInt32))] [(.int (xi.toInt32)), (.int (ii.toInt32)), (.ref ti)])) rfl rfl (hb hby d8_6)
  have N7 := Fr.snoc X7 N0 g_ti
  have A_ti_w7 : own_A Z h7 ti .int 4 (fun kk => (.int (if kk = ((ii.toInt32) : Int32).toNatClampNeg then (xi.toInt32) else ((it kk).toInt32)))) := own_A.setI A_ti W7
  have A_ti_w7u : own_A Z h7 ti .int 4 (fun kk => (.int (((own_u it ii xi) kk).toInt32))) := own_setit A_ti_w7 (show ii < 2147483648 by omega)
  have F_items_o0_8 : Fld Z h7 o0 "com/example/lean_layers/leanlayers/phase/layering/IndexedHeap" "items" "[I" (.ref ti) := (F_items_o0).other W7 (Or.inl ne_o0_ti)
  have F_place_o0_8 : Fld Z h7 o0 "com/example/lean_layers/leanlayers/phase/layering/IndexedHeap" "place" "[I" (.ref tp) := (F_place_o0).other W7 (Or.inl ne_o0_ti)
  have E_o0_8 : Exa Z h7 o0 "com/example/lean_layers/leanlayers/phase/layering/IndexedHeap" := (E_o0).wr W7
  have A_tp_8 : own_A Z h7 tp .int 4 (fun kk => (.int (own_pl (pl kk)))) := (A_tp).other W7 (Ne.symm ne_ti_tp)
  have SZ9 : h0.size ≤ h7.size := by rw [W7.size]; exact (Nat.le_refl _)
  have ZZ9 : n0 ≤ h7.size := Nat.le_trans Z0 SZ9
  have K10 : Keep h0 h7 [ti, tp] := ((Keep.refl h0 [ti, tp])).wr W7 (Or.inl (List.mem_of_getElem? (i := 0) rfl))
  obtain ⟨T11, X11, e11, st11⟩ := getF X7 hx hZ hown (host := "") (Or.inl (hw _ (List.mem_of_getElem? (i := 15) rfl))) Via.refl e7 F_place_o0_8 (g := (mkF m 8 #[.val (.ref o0), .val (.int (ii.toInt32)), .val (.int (xi.toInt32))] [(.ref o0)])) rfl rfl (hb hby d8_8)
  have qa12 := A_tp_8
  obtain ⟨c12, Ar12, Sz12, H12⟩ := qa12
  have hi13 : 0 ≤ ((xi.toInt32) : Int32).toInt ∧ ((xi.toInt32) : Int32).toInt < (4 : Nat) := (own_bd (show xi < 4 by omega) (by decide))
  obtain ⟨T13, h13, X13, e13, W13, st13⟩ := stI X11 hx hZ e11 Ar12 (j := (xi.toInt32)) (own_in Sz12 hi13) (g := (mkF m 13 #[.val (.ref o0), .val (.int (ii.toInt32)), .val (.int (xi.toInt32))] [(.int (ii.toInt32)), (.int (xi.toInt32)), (.ref tp)])) rfl rfl (hb hby d8_13)
  have N13 := Fr.snoc X13 N7 g_tp
  have A_tp_w13 : own_A Z h13 tp .int 4 (fun kk => (.int (if kk = ((xi.toInt32) : Int32).toNatClampNeg then (ii.toInt32) else (own_pl (pl kk))))) := own_A.setI A_tp_8 W13
  have A_tp_w13u : own_A Z h13 tp .int 4 (fun kk => (.int (own_pl ((own_u pl xi (ii + 1)) kk)))) := own_setpl A_tp_w13 (show xi < 2147483648 by omega)
  have F_items_o0_14 : Fld Z h13 o0 "com/example/lean_layers/leanlayers/phase/layering/IndexedHeap" "items" "[I" (.ref ti) := (F_items_o0_8).other W13 (Or.inl ne_o0_tp)
  have F_place_o0_14 : Fld Z h13 o0 "com/example/lean_layers/leanlayers/phase/layering/IndexedHeap" "place" "[I" (.ref tp) := (F_place_o0_8).other W13 (Or.inl ne_o0_tp)
  have E_o0_14 : Exa Z h13 o0 "com/example/lean_layers/leanlayers/phase/layering/IndexedHeap" := (E_o0_8).wr W13
  have A_ti_14 : own_A Z h13 ti .int 4 (fun kk => (.int (((own_u it ii xi) kk).toInt32))) := (A_ti_w7u).other W13 ne_ti_tp
  have SZ15 : h0.size ≤ h13.size := by rw [W13.size]; exact SZ9
  have ZZ15 : n0 ≤ h13.size := Nat.le_trans Z0 SZ15
  have K16 : Keep h0 h13 [ti, tp] := (K10).wr W13 (Or.inl (List.mem_of_getElem? (i := 1) rfl))
  have pre17 : ∀ t, Steps p.tables e below (T13.setTop (mkF m 14 #[.val (.ref o0), .val (.int (ii.toInt32)), .val (.int (xi.toInt32))] [])) t → Steps p.tables e below (s₁.setTop (entryFrame m #[(.ref o0), (.int p1), (.int p2)] 3)) t := fun t k => pre4 t (by
    show Steps p.tables e below (s₁.setTop (mkF m 0 #[.val (.ref o0), .val (.int (ii.toInt32)), .val (.int (xi.toInt32))] [])) _
    refine XS.aloadN X0.here hx rfl (hb hby d8_0) rfl rfl ?_
    show Steps p.tables e below (s₁.setTop (mkF m 1 #[.val (.ref o0), .val (.int (ii.toInt32)), .val (.int (xi.toInt32))] [(.ref o0)])) _
    refine st5 _ ?_
    show Steps p.tables e below (T5.setTop (mkF m 4 #[.val (.ref o0), .val (.int (ii.toInt32)), .val (.int (xi.toInt32))] [(.ref ti)])) _
    refine XS.iloadN X5.here hx rfl (hb hby d8_4) rfl ?_
    show Steps p.tables e below (T5.setTop (mkF m 5 #[.val (.ref o0), .val (.int (ii.toInt32)), .val (.int (xi.toInt32))] [(.int (ii.toInt32)), (.ref ti)])) _
    refine XS.iloadN X5.here hx rfl (hb hby d8_5) rfl ?_
    show Steps p.tables e below (T5.setTop (mkF m 6 #[.val (.ref o0), .val (.int (ii.toInt32)), .val (.int (xi.toInt32))] [(.int (xi.toInt32)), (.int (ii.toInt32)), (.ref ti)])) _
    refine st7 _ ?_
    show Steps p.tables e below (T7.setTop (mkF m 7 #[.val (.ref o0), .val (.int (ii.toInt32)), .val (.int (xi.toInt32))] [])) _
    refine XS.aloadN X7.here hx rfl (hb hby d8_7) rfl rfl ?_
    show Steps p.tables e below (T7.setTop (mkF m 8 #[.val (.ref o0), .val (.int (ii.toInt32)), .val (.int (xi.toInt32))] [(.ref o0)])) _
    refine st11 _ ?_
    show Steps p.tables e below (T11.setTop (mkF m 11 #[.val (.ref o0), .val (.int (ii.toInt32)), .val (.int (xi.toInt32))] [(.ref tp)])) _
    refine XS.iloadN X11.here hx rfl (hb hby d8_11) rfl ?_
    show Steps p.tables e below (T11.setTop (mkF m 12 #[.val (.ref o0), .val (.int (ii.toInt32)), .val (.int (xi.toInt32))] [(.int (xi.toInt32)), (.ref tp)])) _
    refine XS.iloadN X11.here hx rfl (hb hby d8_12) rfl ?_
    show Steps p.tables e below (T11.setTop (mkF m 13 #[.val (.ref o0), .val (.int (ii.toInt32)), .val (.int (xi.toInt32))] [(.int (ii.toInt32)), (.int (xi.toInt32)), (.ref tp)])) _
    refine st13 _ ?_
    show Steps p.tables e below (T13.setTop (mkF m 14 #[.val (.ref o0), .val (.int (ii.toInt32)), .val (.int (xi.toInt32))] [])) _
    exact k)
  obtain ⟨fs, hr, hrun, hended, hW, hsame⟩ := X13.leave (v := none) (fun _ => rfl)
  refine ⟨_, _, pre17 _ ?_, hrun, hended, _, _, rfl, ?_, ⟨_, rfl⟩, hW, hsame.mono (by decide) (by decide)⟩
  · exact X13.returnOut hx Bd.returns (hb hby d8_14) hr
  · show Q8 Z o0 p1 p2 ti tp it pl ii xi h0 n0 _ T13.heap _
    rw [e13]
    exact ⟨rfl, N13, K16, A_ti_14, A_tp_w13u⟩
theorem d7_7 : decode prog_55_method_8_code 7 = .ok (.iload_n 1, 1) := by decide +kernel
theorem d7_8 : decode prog_55_method_8_code 8 = .ok (.ifCond .le 43, 3) := by decide +kernel
theorem d7_11 : decode prog_55_method_8_code 11 = .ok (.aload_n 0, 1) := by decide +kernel
theorem d7_12 : decode prog_55_method_8_code 12 = .ok (.iload_n 2, 1) := by decide +kernel
theorem d7_13 : decode prog_55_method_8_code 13 = .ok (.aload_n 0, 1) := by decide +kernel
theorem d7_14 : decode prog_55_method_8_code 14 = .ok (.getfield 7, 3) := by decide +kernel
theorem d7_17 : decode prog_55_method_8_code 17 = .ok (.iload_n 1, 1) := by decide +kernel
theorem d7_18 : decode prog_55_method_8_code 18 = .ok (.iconst 1, 1) := by decide +kernel
theorem d7_19 : decode prog_55_method_8_code 19 = .ok (.isub, 1) := by decide +kernel
theorem d7_20 : decode prog_55_method_8_code 20 = .ok (.iconst 2, 1) := by decide +kernel
theorem d7_21 : decode prog_55_method_8_code 21 = .ok (.idiv, 1) := by decide +kernel
theorem d7_22 : decode prog_55_method_8_code 22 = .ok (.iaload, 1) := by decide +kernel
theorem d7_23 : decode prog_55_method_8_code 23 = .ok (.invokevirtual 48, 3) := by decide +kernel
theorem d7_26 : decode prog_55_method_8_code 26 = .ok (.ifCond .eq 25, 3) := by decide +kernel
theorem d7_29 : decode prog_55_method_8_code 29 = .ok (.iload_n 1, 1) := by decide +kernel
theorem d7_30 : decode prog_55_method_8_code 30 = .ok (.iconst 1, 1) := by decide +kernel
theorem d7_31 : decode prog_55_method_8_code 31 = .ok (.isub, 1) := by decide +kernel
theorem d7_32 : decode prog_55_method_8_code 32 = .ok (.iconst 2, 1) := by decide +kernel
theorem d7_33 : decode prog_55_method_8_code 33 = .ok (.idiv, 1) := by decide +kernel
theorem d7_34 : decode prog_55_method_8_code 34 = .ok (.istore_n 3, 1) := by decide +kernel
theorem d7_35 : decode prog_55_method_8_code 35 = .ok (.aload_n 0, 1) := by decide +kernel
theorem d7_36 : decode prog_55_method_8_code 36 = .ok (.iload_n 1, 1) := by decide +kernel
theorem d7_37 : decode prog_55_method_8_code 37 = .ok (.aload_n 0, 1) := by decide +kernel
theorem d7_38 : decode prog_55_method_8_code 38 = .ok (.getfield 7, 3) := by decide +kernel
theorem d7_41 : decode prog_55_method_8_code 41 = .ok (.iload_n 3, 1) := by decide +kernel
theorem d7_42 : decode prog_55_method_8_code 42 = .ok (.iaload, 1) := by decide +kernel
theorem d7_43 : decode prog_55_method_8_code 43 = .ok (.invokevirtual 52, 3) := by decide +kernel
theorem d7_46 : decode prog_55_method_8_code 46 = .ok (.iload_n 3, 1) := by decide +kernel
theorem d7_47 : decode prog_55_method_8_code 47 = .ok (.istore_n 1, 1) := by decide +kernel
theorem d7_48 : decode prog_55_method_8_code 48 = .ok (.goto (-41), 3) := by decide +kernel
theorem pd_1 : parseMethodDescriptor "(II)Z" = some ⟨[.int, .int], some .boolean⟩ := by decide +kernel
theorem pd_2 : parseMethodDescriptor "(II)V" = some ⟨[.int, .int], none⟩ := by decide +kernel
set_option maxRecDepth 65536 in
set_option maxHeartbeats 40000000 in
theorem loop_up {p : Program} {l : Launch} {e : Env} {s : State} {m : MethodId} {args : Array Value} {below : List Frame} {meth : Method} {c : Code} {Z : State} {a0 : Array Value} (o0 ti tk tp : Addr) (ky : Nat → Int64) (xi n : Nat) (p0 : Nat → Nat) (n0 : Nat) (g_ti : n0 ≤ ti) (g_tp : n0 ≤ tp) (ne_o0_ti : o0 ≠ ti) (ne_o0_tk : o0 ≠ tk) (ne_o0_tp : o0 ≠ tp) (ne_ti_tk : ti ≠ tk) (ne_ti_tp : ti ≠ tp) (ne_tk_tp : tk ≠ tp) (hx : p.tables.exec = Jvm.exec) (hZ : Z.Warmed39 s.vm) (hw : ∀ d ∈ tables_1, d.before a0 Z = true) (hby : c.code = prog_55_method_8_code) (hml : c.maxLocals = 4) (hown : s.vm.findClass "com/example/lean_layers/leanlayers/phase/layering/IndexedHeap" = some m.cls) :
    ∀ (i : Nat) (it pl : Nat → Nat) (s3 : Slot) (T0 : State) (h0 : Heap) (locs : List Loc), One s3 → own_HO 4 n i xi it pl p0 → Stand p l e ({ frames := 2, cells := 0, slots := 0, locals := 40 } : Room) s m args below meth c T0 locs 0 0 → T0.heap = h0 → Fr n0 locs → n0 ≤ h0.size → Fld Z h0 o0 "com/example/lean_layers/leanlayers/phase/layering/IndexedHeap" "items" "[I" (.ref ti) → Fld Z h0 o0 "com/example/lean_layers/leanlayers/phase/layering/IndexedHeap" "keys" "[J" (.ref tk) → Fld Z h0 o0 "com/example/lean_layers/leanlayers/phase/layering/IndexedHeap" "place" "[I" (.ref tp) → Exa Z h0 o0 "com/example/lean_layers/leanlayers/phase/layering/IndexedHeap" → Fld Z h0 o0 "com/example/lean_layers/leanlayers/phase/layering/IndexedHeap" "size" "I" (.int (n.toInt32)) → own_A Z h0 ti .int 4 (fun kk => (.int ((it kk).toInt32))) → own_A Z h0 tk .long 4 (fun kk => (.long (ky kk))) → own_A Z h0 tp .int 4 (fun kk => (.int (own_pl (pl kk)))) →
      ∃ (T1 : State) (h1 : Heap) (locs1 : List Loc) (i1 : Nat) (f1 g1 : Nat → Nat) (k1 : Int32) (s1 : Slot), Stand p l e ({ frames := 2, cells := 0, slots := 0, locals := 40 } : Room) s m args below meth c T1 locs1 0 0 ∧ T1.heap = h1 ∧ Fr n0 locs1 ∧ Keep h0 h1 [ti, tp] ∧ own_A Z h1 ti .int 4 (fun kk => (.int ((f1 kk).toInt32))) ∧ own_A Z h1 tp .int 4 (fun kk => (.int (own_pl (g1 kk)))) ∧ own_HO 4 n i1 xi f1 g1 p0 ∧ ∀ t, Steps p.tables e below (T1.setTop (mkF m 51 #[.val (.ref o0), .val (.int (i1.toInt32)), .val (.int (xi.toInt32)), s1] [])) t → Steps p.tables e below (T0.setTop (mkF m 7 #[.val (.ref o0), .val (.int (i.toInt32)), .val (.int (xi.toInt32)), s3] [])) t := by
  intro i
  induction i using Nat.strongRecOn with
  | ind i ih =>
    intro it pl s3 T0 h0 locs hs3 hH X0 e0 N0 Z0 F_items_o0 F_keys_o0 F_place_o0 E_o0 F_size_o0 A_ti A_tk A_tp
    have hnc : n ≤ 4 := hH.2.2.1.1
    have hin : i < n := hH.1
    have hxc : xi < 4 := hH.2.1
    have pre0 : ∀ t, Steps p.tables e below (T0.setTop (mkF m 7 #[.val (.ref o0), .val (.int (i.toInt32)), .val (.int (xi.toInt32)), s3] [])) t → Steps p.tables e below (T0.setTop (mkF m 7 #[.val (.ref o0), .val (.int (i.toInt32)), .val (.int (xi.toInt32)), s3] [])) t := fun t k => k
    have pre1 : ∀ t, Steps p.tables e below (T0.setTop (mkF m 8 #[.val (.ref o0), .val (.int (i.toInt32)), .val (.int (xi.toInt32)), s3] [(.int (i.toInt32))])) t → Steps p.tables e below (T0.setTop (mkF m 7 #[.val (.ref o0), .val (.int (i.toInt32)), .val (.int (xi.toInt32)), s3] [])) t := fun t k => pre0 t (by
      show Steps p.tables e below (T0.setTop (mkF m 7 #[.val (.ref o0), .val (.int (i.toInt32)), .val (.int (xi.toInt32)), s3] [])) _
      refine XS.iloadN X0.here hx rfl (hb hby d7_7) rfl ?_
      show Steps p.tables e below (T0.setTop (mkF m 8 #[.val (.ref o0), .val (.int (i.toInt32)), .val (.int (xi.toInt32)), s3] [(.int (i.toInt32))])) _
      exact k)
    by_cases hs2 : (0 : Int32) < (i.toInt32)
    · obtain ⟨T3, X3, e3, st3⟩ := getF X0 hx hZ hown (host := "") (Or.inl (hw _ (List.mem_of_getElem? (i := 10) rfl))) Via.refl e0 F_items_o0 (g := (mkF m 14 #[.val (.ref o0), .val (.int (i.toInt32)), .val (.int (xi.toInt32)), s3] [(.ref o0), (.int (xi.toInt32)), (.ref o0)])) rfl rfl (hb hby d7_14)
      have hpos : 0 < i := (own_ltn (a := 0) (b := i) (by decide) (by omega)).mp hs2
      have hac : it ((i - 1) / 2) < 4 := own_HO_it hH (by omega) (by omega)
      have pre4 : ∀ t, Steps p.tables e below (T3.setTop (mkF m 22 #[.val (.ref o0), .val (.int (i.toInt32)), .val (.int (xi.toInt32)), s3] [(.int (((i.toInt32) - (1 : Int32)) / (2 : Int32))), (.ref ti), (.int (xi.toInt32)), (.ref o0)])) t → Steps p.tables e below (T0.setTop (mkF m 7 #[.val (.ref o0), .val (.int (i.toInt32)), .val (.int (xi.toInt32)), s3] [])) t := fun t k => pre1 t (by
        refine XS.ifNo X0.here hx rfl (hb hby d7_8) rfl ((if0 _ _).trans (tlt hs2).2.2.2) ?_
        show Steps p.tables e below (T0.setTop (mkF m 11 #[.val (.ref o0), .val (.int (i.toInt32)), .val (.int (xi.toInt32)), s3] [])) _
        refine XS.aloadN X0.here hx rfl (hb hby d7_11) rfl rfl ?_
        show Steps p.tables e below (T0.setTop (mkF m 12 #[.val (.ref o0), .val (.int (i.toInt32)), .val (.int (xi.toInt32)), s3] [(.ref o0)])) _
        refine XS.iloadN X0.here hx rfl (hb hby d7_12) rfl ?_
        show Steps p.tables e below (T0.setTop (mkF m 13 #[.val (.ref o0), .val (.int (i.toInt32)), .val (.int (xi.toInt32)), s3] [(.int (xi.toInt32)), (.ref o0)])) _
        refine XS.aloadN X0.here hx rfl (hb hby d7_13) rfl rfl ?_
        show Steps p.tables e below (T0.setTop (mkF m 14 #[.val (.ref o0), .val (.int (i.toInt32)), .val (.int (xi.toInt32)), s3] [(.ref o0), (.int (xi.toInt32)), (.ref o0)])) _
        refine st3 _ ?_
        show Steps p.tables e below (T3.setTop (mkF m 17 #[.val (.ref o0), .val (.int (i.toInt32)), .val (.int (xi.toInt32)), s3] [(.ref ti), (.int (xi.toInt32)), (.ref o0)])) _
        refine XS.iloadN X3.here hx rfl (hb hby d7_17) rfl ?_
        show Steps p.tables e below (T3.setTop (mkF m 18 #[.val (.ref o0), .val (.int (i.toInt32)), .val (.int (xi.toInt32)), s3] [(.int (i.toInt32)), (.ref ti), (.int (xi.toInt32)), (.ref o0)])) _
        refine XS.iconst X3.here hx rfl (hb hby d7_18) ?_
        show Steps p.tables e below (T3.setTop (mkF m 19 #[.val (.ref o0), .val (.int (i.toInt32)), .val (.int (xi.toInt32)), s3] [(.int (1 : Int32)), (.int (i.toInt32)), (.ref ti), (.int (xi.toInt32)), (.ref o0)])) _
        refine XS.isub X3.here hx rfl (hb hby d7_19) rfl ?_
        show Steps p.tables e below (T3.setTop (mkF m 20 #[.val (.ref o0), .val (.int (i.toInt32)), .val (.int (xi.toInt32)), s3] [(.int ((i.toInt32) - (1 : Int32))), (.ref ti), (.int (xi.toInt32)), (.ref o0)])) _
        refine XS.iconst X3.here hx rfl (hb hby d7_20) ?_
        show Steps p.tables e below (T3.setTop (mkF m 21 #[.val (.ref o0), .val (.int (i.toInt32)), .val (.int (xi.toInt32)), s3] [(.int (2 : Int32)), (.int ((i.toInt32) - (1 : Int32))), (.ref ti), (.int (xi.toInt32)), (.ref o0)])) _
        refine XS.idiv X3.here hx rfl (hb hby d7_21) rfl (by decide) ?_
        show Steps p.tables e below (T3.setTop (mkF m 22 #[.val (.ref o0), .val (.int (i.toInt32)), .val (.int (xi.toInt32)), s3] [(.int (((i.toInt32) - (1 : Int32)) / (2 : Int32))), (.ref ti), (.int (xi.toInt32)), (.ref o0)])) _
        exact k)
      have hre5 : (((i.toInt32) - (1 : Int32)) / (2 : Int32)) = (((i - 1) / 2).toInt32) := own_par8 ⟨i, by omega⟩ hpos
      have pre5 : ∀ t, Steps p.tables e below (T3.setTop (mkF m 22 #[.val (.ref o0), .val (.int (i.toInt32)), .val (.int (xi.toInt32)), s3] [(.int (((i - 1) / 2).toInt32)), (.ref ti), (.int (xi.toInt32)), (.ref o0)])) t → Steps p.tables e below (T0.setTop (mkF m 7 #[.val (.ref o0), .val (.int (i.toInt32)), .val (.int (xi.toInt32)), s3] [])) t := fun t k => pre4 t (by rw [hre5]; exact k)
      have qa6 := A_ti
      obtain ⟨c6, Ar6, Sz6, H6⟩ := qa6
      have hi7 : 0 ≤ ((((i - 1) / 2).toInt32) : Int32).toInt ∧ ((((i - 1) / 2).toInt32) : Int32).toInt < (4 : Nat) := (own_bd (show ((i - 1) / 2) < 4 by omega) (by decide))
      have hl7 : c6.slots[((((i - 1) / 2).toInt32) : Int32).toNatClampNeg]? = some (.int ((it ((i - 1) / 2)).toInt32)) := by rw [show ((it ((i - 1) / 2)).toInt32) = (((it ((((i - 1) / 2).toInt32) : Int32).toNatClampNeg).toInt32)) from by rw [own_tn (show ((i - 1) / 2) < 2147483648 by omega)]]; exact H6 _ (own_ix hi7)
      obtain ⟨cq8, q8, q8'⟩ := (E_o0).cell
      obtain ⟨_, _, ⟨T8, L8, k8, n8⟩, -, X8, ⟨Lc8, hQ8, l8, y8, z8⟩, st8⟩ := X3.privateBack hx (y := (⟨"com/example/lean_layers/leanlayers/phase/layering/IndexedHeap", "before", "(II)Z"⟩ : MethodName)) hown (mvT hZ (hw _ (List.mem_of_getElem? (i := 66) rfl))) (mvT hZ (hw _ (List.mem_of_getElem? (i := 67) rfl))) (own_selp (y := (⟨"com/example/lean_layers/leanlayers/phase/layering/IndexedHeap", "before", "(II)Z"⟩ : MethodName)) (mvT hZ (hw _ (List.mem_of_getElem? (i := 1) rfl))) (Cond.privateMethod_at (mvP hZ (hw _ (List.mem_of_getElem? (i := 68) rfl)) (args := #[]))) (mvT hZ (hw _ (List.mem_of_getElem? (i := 67) rfl))) (by decide)) (Cond.privateMethod_at (mvP hZ (hw _ (List.mem_of_getElem? (i := 68) rfl)) (args := #[]))) (mvT hZ (hw _ (List.mem_of_getElem? (i := 69) rfl))) (by decide) (backOf (W := 0) (rm13 l Z a0 hw [] o0 (xi.toInt32) ((it ((i - 1) / 2)).toInt32) tk ky xi (it ((i - 1) / 2)) h0 n0 Z0 F_keys_o0 A_tk rfl rfl hxc hac) hZ (hw _ (List.mem_of_getElem? (i := 69) rfl)) (hw _ (List.mem_of_getElem? (i := 2) rfl)) (by decide) (by decide)) (g := (mkF m 23 #[.val (.ref o0), .val (.int (i.toInt32)), .val (.int (xi.toInt32)), s3] [(.int ((it ((i - 1) / 2)).toInt32)), (.int (xi.toInt32)), (.ref o0)])) rfl (by rw [hml]; rfl) (Steps.refl _) (a := o0) (by rw [e3]; exact q8) q8' (argsL := [(.int (xi.toInt32)), (.int ((it ((i - 1) / 2)).toInt32))]) (rest := []) (lenOf pd_1 rfl) rfl (by show 2 * 0 + _ ≤ _; exact Nat.le_of_eq rfl) (hb hby d7_23) (fun _ _ => ⟨rfl, e3, (by decide : 0 + 0 ≤ _), (by decide : 0 + 0 ≤ _)⟩)
      dsimp only [Pt.U, Pt.locs, Pt.cells, Pt.slots] at X8 l8 y8 z8 st8 hQ8
      subst y8 z8
      obtain ⟨rfl, N8q, hh8⟩ := hQ8
      have N8 := Fr.app N0 N8q
      rw [← l8] at N8
      have pre9 : ∀ t, Steps p.tables e below (T8.setTop (mkF m 26 #[.val (.ref o0), .val (.int (i.toInt32)), .val (.int (xi.toInt32)), s3] [(.int (own_bfr (ky xi) (ky (it ((i - 1) / 2))) (xi.toInt32) ((it ((i - 1) / 2)).toInt32)))])) t → Steps p.tables e below (T0.setTop (mkF m 7 #[.val (.ref o0), .val (.int (i.toInt32)), .val (.int (xi.toInt32)), s3] [])) t := fun t k => pre5 t (by
        show Steps p.tables e below (T3.setTop (mkF m 22 #[.val (.ref o0), .val (.int (i.toInt32)), .val (.int (xi.toInt32)), s3] [(.int (((i - 1) / 2).toInt32)), (.ref ti), (.int (xi.toInt32)), (.ref o0)])) _
        refine X3.iaload hx (j := (((i - 1) / 2).toInt32)) (v := (.int ((it ((i - 1) / 2)).toInt32))) (by rw [e3]; exact Ar6.1) (State.isArrayOf_alike hZ.alike Ar6.2.1) Ar6.2.2 (own_in Sz6 hi7) hl7 (g := (mkF m 22 #[.val (.ref o0), .val (.int (i.toInt32)), .val (.int (xi.toInt32)), s3] [(.int (((i - 1) / 2).toInt32)), (.ref ti), (.int (xi.toInt32)), (.ref o0)])) rfl rfl (hb hby d7_22) _ ?_
        show Steps p.tables e below (T3.setTop (mkF m 23 #[.val (.ref o0), .val (.int (i.toInt32)), .val (.int (xi.toInt32)), s3] [(.int ((it ((i - 1) / 2)).toInt32)), (.int (xi.toInt32)), (.ref o0)])) _
        refine st8.trans ?_
        show Steps p.tables e below (T8.setTop (mkF m 26 #[.val (.ref o0), .val (.int (i.toInt32)), .val (.int (xi.toInt32)), s3] [(.int (own_bfr (ky xi) (ky (it ((i - 1) / 2))) (xi.toInt32) ((it ((i - 1) / 2)).toInt32)))])) _
        exact k)
      by_cases hs10 : (own_bfr (ky xi) (ky (it ((i - 1) / 2))) (xi.toInt32) ((it ((i - 1) / 2)).toInt32)) = (0 : Int32)
      · have pre11 : ∀ t, Steps p.tables e below (T8.setTop (mkF m 51 #[.val (.ref o0), .val (.int (i.toInt32)), .val (.int (xi.toInt32)), s3] [])) t → Steps p.tables e below (T0.setTop (mkF m 7 #[.val (.ref o0), .val (.int (i.toInt32)), .val (.int (xi.toInt32)), s3] [])) t := fun t k => pre9 t (by
          refine XS.ifYes X8.here hx rfl (pc0 := 26) (pc' := 51) rfl (hb hby d7_26) rfl ((if0 _ _).trans (teq hs10).1) (by decide) (by decide) ?_
          show Steps p.tables e below (T8.setTop (mkF m 51 #[.val (.ref o0), .val (.int (i.toInt32)), .val (.int (xi.toInt32)), s3] [])) _
          exact k)
        exact ⟨_, _, _, i, it, pl, (0 : Int32), _, X8, hh8, N8, (Keep.refl h0 [ti, tp]), A_ti, A_tp, hH, pre11⟩
      · have pre12 : ∀ t, Steps p.tables e below (T8.setTop (mkF m 35 #[.val (.ref o0), .val (.int (i.toInt32)), .val (.int (xi.toInt32)), .val (.int (((i.toInt32) - (1 : Int32)) / (2 : Int32)))] [])) t → Steps p.tables e below (T0.setTop (mkF m 7 #[.val (.ref o0), .val (.int (i.toInt32)), .val (.int (xi.toInt32)), s3] [])) t := fun t k => pre9 t (by
          refine XS.ifNo X8.here hx rfl (hb hby d7_26) rfl ((if0 _ _).trans (feq hs10).1) ?_
          show Steps p.tables e below (T8.setTop (mkF m 29 #[.val (.ref o0), .val (.int (i.toInt32)), .val (.int (xi.toInt32)), s3] [])) _
          refine XS.iloadN X8.here hx rfl (hb hby d7_29) rfl ?_
          show Steps p.tables e below (T8.setTop (mkF m 30 #[.val (.ref o0), .val (.int (i.toInt32)), .val (.int (xi.toInt32)), s3] [(.int (i.toInt32))])) _
          refine XS.iconst X8.here hx rfl (hb hby d7_30) ?_
          show Steps p.tables e below (T8.setTop (mkF m 31 #[.val (.ref o0), .val (.int (i.toInt32)), .val (.int (xi.toInt32)), s3] [(.int (1 : Int32)), (.int (i.toInt32))])) _
          refine XS.isub X8.here hx rfl (hb hby d7_31) rfl ?_
          show Steps p.tables e below (T8.setTop (mkF m 32 #[.val (.ref o0), .val (.int (i.toInt32)), .val (.int (xi.toInt32)), s3] [(.int ((i.toInt32) - (1 : Int32)))])) _
          refine XS.iconst X8.here hx rfl (hb hby d7_32) ?_
          show Steps p.tables e below (T8.setTop (mkF m 33 #[.val (.ref o0), .val (.int (i.toInt32)), .val (.int (xi.toInt32)), s3] [(.int (2 : Int32)), (.int ((i.toInt32) - (1 : Int32)))])) _
          refine XS.idiv X8.here hx rfl (hb hby d7_33) rfl (by decide) ?_
          show Steps p.tables e below (T8.setTop (mkF m 34 #[.val (.ref o0), .val (.int (i.toInt32)), .val (.int (xi.toInt32)), s3] [(.int (((i.toInt32) - (1 : Int32)) / (2 : Int32)))])) _
          refine XS.istoreN X8.here hx rfl (hb hby d7_34) rfl (l' := #[.val (.ref o0), .val (.int (i.toInt32)), .val (.int (xi.toInt32)), .val (.int (((i.toInt32) - (1 : Int32)) / (2 : Int32)))]) (XS.store1 rfl hs3 rfl) ?_
          show Steps p.tables e below (T8.setTop (mkF m 35 #[.val (.ref o0), .val (.int (i.toInt32)), .val (.int (xi.toInt32)), .val (.int (((i.toInt32) - (1 : Int32)) / (2 : Int32)))] [])) _
          exact k)
        have hre13 : (((i.toInt32) - (1 : Int32)) / (2 : Int32)) = (((i - 1) / 2).toInt32) := own_par8 ⟨i, by omega⟩ hpos
        have pre13 : ∀ t, Steps p.tables e below (T8.setTop (mkF m 35 #[.val (.ref o0), .val (.int (i.toInt32)), .val (.int (xi.toInt32)), .val (.int (((i - 1) / 2).toInt32))] [])) t → Steps p.tables e below (T0.setTop (mkF m 7 #[.val (.ref o0), .val (.int (i.toInt32)), .val (.int (xi.toInt32)), s3] [])) t := fun t k => pre12 t (by rw [hre13]; exact k)
        obtain ⟨T14, X14, e14, st14⟩ := getF X8 hx hZ hown (host := "") (Or.inl (hw _ (List.mem_of_getElem? (i := 10) rfl))) Via.refl hh8 F_items_o0 (g := (mkF m 38 #[.val (.ref o0), .val (.int (i.toInt32)), .val (.int (xi.toInt32)), .val (.int (((i - 1) / 2).toInt32))] [(.ref o0), (.int (i.toInt32)), (.ref o0)])) rfl rfl (hb hby d7_38)
        have qa15 := A_ti
        obtain ⟨c15, Ar15, Sz15, H15⟩ := qa15
        have hi16 : 0 ≤ ((((i - 1) / 2).toInt32) : Int32).toInt ∧ ((((i - 1) / 2).toInt32) : Int32).toInt < (4 : Nat) := (own_bd (show ((i - 1) / 2) < 4 by omega) (by decide))
        have hl16 : c15.slots[((((i - 1) / 2).toInt32) : Int32).toNatClampNeg]? = some (.int ((it ((i - 1) / 2)).toInt32)) := by rw [show ((it ((i - 1) / 2)).toInt32) = (((it ((((i - 1) / 2).toInt32) : Int32).toNatClampNeg).toInt32)) from by rw [own_tn (show ((i - 1) / 2) < 2147483648 by omega)]]; exact H15 _ (own_ix hi16)
        obtain ⟨cq17, q17, q17'⟩ := (E_o0).cell
        obtain ⟨_, _, ⟨T17, L17, k17, n17⟩, -, X17, ⟨Lc17, hQ17, l17, y17, z17⟩, st17⟩ := X14.privateBack hx (y := (⟨"com/example/lean_layers/leanlayers/phase/layering/IndexedHeap", "setAt", "(II)V"⟩ : MethodName)) hown (mvT hZ (hw _ (List.mem_of_getElem? (i := 42) rfl))) (mvT hZ (hw _ (List.mem_of_getElem? (i := 43) rfl))) (own_selp (y := (⟨"com/example/lean_layers/leanlayers/phase/layering/IndexedHeap", "setAt", "(II)V"⟩ : MethodName)) (mvT hZ (hw _ (List.mem_of_getElem? (i := 1) rfl))) (Cond.privateMethod_at (mvP hZ (hw _ (List.mem_of_getElem? (i := 44) rfl)) (args := #[]))) (mvT hZ (hw _ (List.mem_of_getElem? (i := 43) rfl))) (by decide)) (Cond.privateMethod_at (mvP hZ (hw _ (List.mem_of_getElem? (i := 44) rfl)) (args := #[]))) (mvT hZ (hw _ (List.mem_of_getElem? (i := 45) rfl))) (by decide) (backOf (W := 0) (rm8 l Z a0 hw [] o0 (i.toInt32) ((it ((i - 1) / 2)).toInt32) ti tp it pl i (it ((i - 1) / 2)) h0 n0 Z0 F_items_o0 F_place_o0 E_o0 A_ti A_tp g_ti g_tp ne_o0_ti ne_o0_tp ne_ti_tp rfl rfl (by omega) hac) hZ (hw _ (List.mem_of_getElem? (i := 45) rfl)) (hw _ (List.mem_of_getElem? (i := 2) rfl)) (by decide) (by decide)) (g := (mkF m 43 #[.val (.ref o0), .val (.int (i.toInt32)), .val (.int (xi.toInt32)), .val (.int (((i - 1) / 2).toInt32))] [(.int ((it ((i - 1) / 2)).toInt32)), (.int (i.toInt32)), (.ref o0)])) rfl (by rw [hml]; rfl) (Steps.refl _) (a := o0) (by rw [e14]; exact q17) q17' (argsL := [(.int (i.toInt32)), (.int ((it ((i - 1) / 2)).toInt32))]) (rest := []) (lenOf pd_2 rfl) rfl (by show 2 * 0 + _ ≤ _; exact Nat.le_of_eq rfl) (hb hby d7_43) (fun _ _ => ⟨rfl, e14, (by decide : 0 + 0 ≤ _), (by decide : 0 + 0 ≤ _)⟩)
        dsimp only [Pt.U, Pt.locs, Pt.cells, Pt.slots] at X17 l17 y17 z17 st17 hQ17
        subst y17 z17
        obtain ⟨rfl, N17q, Kc17, P17_0, P17_1⟩ := hQ17
        have N17 := Fr.app N8 N17q
        rw [← l17] at N17
        have F_items_o0_18 : Fld Z T17.heap o0 "com/example/lean_layers/leanlayers/phase/layering/IndexedHeap" "items" "[I" (.ref ti) := (F_items_o0).keep Kc17 (ninS ne_o0_ti (ninS ne_o0_tp nin0))
        have F_keys_o0_18 : Fld Z T17.heap o0 "com/example/lean_layers/leanlayers/phase/layering/IndexedHeap" "keys" "[J" (.ref tk) := (F_keys_o0).keep Kc17 (ninS ne_o0_ti (ninS ne_o0_tp nin0))
        have F_place_o0_18 : Fld Z T17.heap o0 "com/example/lean_layers/leanlayers/phase/layering/IndexedHeap" "place" "[I" (.ref tp) := (F_place_o0).keep Kc17 (ninS ne_o0_ti (ninS ne_o0_tp nin0))
        have E_o0_18 : Exa Z T17.heap o0 "com/example/lean_layers/leanlayers/phase/layering/IndexedHeap" := (E_o0).keep Kc17
        have F_size_o0_18 : Fld Z T17.heap o0 "com/example/lean_layers/leanlayers/phase/layering/IndexedHeap" "size" "I" (.int (n.toInt32)) := (F_size_o0).keep Kc17 (ninS ne_o0_ti (ninS ne_o0_tp nin0))
        have A_tk_18 : own_A Z T17.heap tk .long 4 (fun kk => (.long (ky kk))) := (A_tk).keep Kc17 (ninS (Ne.symm ne_ti_tk) (ninS ne_tk_tp nin0))
        have SZ19 : h0.size ≤ T17.heap.size := Nat.le_trans (Nat.le_refl _) Kc17.1
        have ZZ19 : n0 ≤ T17.heap.size := Nat.le_trans Z0 SZ19
        have K20 : Keep h0 T17.heap [ti, tp] := ((Keep.refl h0 [ti, tp])).trans Kc17 (allS (Or.inl (List.mem_of_getElem? (i := 0) rfl)) (allS (Or.inl (List.mem_of_getElem? (i := 1) rfl)) all0))
        have pre21 : ∀ t, Steps p.tables e below (T17.setTop (mkF m 7 #[.val (.ref o0), .val (.int (((i - 1) / 2).toInt32)), .val (.int (xi.toInt32)), .val (.int (((i - 1) / 2).toInt32))] [])) t → Steps p.tables e below (T0.setTop (mkF m 7 #[.val (.ref o0), .val (.int (i.toInt32)), .val (.int (xi.toInt32)), s3] [])) t := fun t k => pre13 t (by
          show Steps p.tables e below (T8.setTop (mkF m 35 #[.val (.ref o0), .val (.int (i.toInt32)), .val (.int (xi.toInt32)), .val (.int (((i - 1) / 2).toInt32))] [])) _
          refine XS.aloadN X8.here hx rfl (hb hby d7_35) rfl rfl ?_
          show Steps p.tables e below (T8.setTop (mkF m 36 #[.val (.ref o0), .val (.int (i.toInt32)), .val (.int (xi.toInt32)), .val (.int (((i - 1) / 2).toInt32))] [(.ref o0)])) _
          refine XS.iloadN X8.here hx rfl (hb hby d7_36) rfl ?_
          show Steps p.tables e below (T8.setTop (mkF m 37 #[.val (.ref o0), .val (.int (i.toInt32)), .val (.int (xi.toInt32)), .val (.int (((i - 1) / 2).toInt32))] [(.int (i.toInt32)), (.ref o0)])) _
          refine XS.aloadN X8.here hx rfl (hb hby d7_37) rfl rfl ?_
          show Steps p.tables e below (T8.setTop (mkF m 38 #[.val (.ref o0), .val (.int (i.toInt32)), .val (.int (xi.toInt32)), .val (.int (((i - 1) / 2).toInt32))] [(.ref o0), (.int (i.toInt32)), (.ref o0)])) _
          refine st14 _ ?_
          show Steps p.tables e below (T14.setTop (mkF m 41 #[.val (.ref o0), .val (.int (i.toInt32)), .val (.int (xi.toInt32)), .val (.int (((i - 1) / 2).toInt32))] [(.ref ti), (.int (i.toInt32)), (.ref o0)])) _
          refine XS.iloadN X14.here hx rfl (hb hby d7_41) rfl ?_
          show Steps p.tables e below (T14.setTop (mkF m 42 #[.val (.ref o0), .val (.int (i.toInt32)), .val (.int (xi.toInt32)), .val (.int (((i - 1) / 2).toInt32))] [(.int (((i - 1) / 2).toInt32)), (.ref ti), (.int (i.toInt32)), (.ref o0)])) _
          refine X14.iaload hx (j := (((i - 1) / 2).toInt32)) (v := (.int ((it ((i - 1) / 2)).toInt32))) (by rw [e14]; exact Ar15.1) (State.isArrayOf_alike hZ.alike Ar15.2.1) Ar15.2.2 (own_in Sz15 hi16) hl16 (g := (mkF m 42 #[.val (.ref o0), .val (.int (i.toInt32)), .val (.int (xi.toInt32)), .val (.int (((i - 1) / 2).toInt32))] [(.int (((i - 1) / 2).toInt32)), (.ref ti), (.int (i.toInt32)), (.ref o0)])) rfl rfl (hb hby d7_42) _ ?_
          show Steps p.tables e below (T14.setTop (mkF m 43 #[.val (.ref o0), .val (.int (i.toInt32)), .val (.int (xi.toInt32)), .val (.int (((i - 1) / 2).toInt32))] [(.int ((it ((i - 1) / 2)).toInt32)), (.int (i.toInt32)), (.ref o0)])) _
          refine st17.trans ?_
          show Steps p.tables e below (T17.setTop (mkF m 46 #[.val (.ref o0), .val (.int (i.toInt32)), .val (.int (xi.toInt32)), .val (.int (((i - 1) / 2).toInt32))] [])) _
          refine XS.iloadN X17.here hx rfl (hb hby d7_46) rfl ?_
          show Steps p.tables e below (T17.setTop (mkF m 47 #[.val (.ref o0), .val (.int (i.toInt32)), .val (.int (xi.toInt32)), .val (.int (((i - 1) / 2).toInt32))] [(.int (((i - 1) / 2).toInt32))])) _
          refine XS.istoreN X17.here hx rfl (hb hby d7_47) rfl (l' := #[.val (.ref o0), .val (.int (((i - 1) / 2).toInt32)), .val (.int (xi.toInt32)), .val (.int (((i - 1) / 2).toInt32))]) rfl ?_
          show Steps p.tables e below (T17.setTop (mkF m 48 #[.val (.ref o0), .val (.int (((i - 1) / 2).toInt32)), .val (.int (xi.toInt32)), .val (.int (((i - 1) / 2).toInt32))] [])) _
          refine XS.goto X17.here hx rfl (pc0 := 48) (pc' := 7) rfl (hb hby d7_48) (by decide) (by decide) ?_
          show Steps p.tables e below (T17.setTop (mkF m 7 #[.val (.ref o0), .val (.int (((i - 1) / 2).toInt32)), .val (.int (xi.toInt32)), .val (.int (((i - 1) / 2).toInt32))] [])) _
          exact k)
        obtain ⟨T1, h1, locs1, i1, f1, g1, k1, s1, Y1, Y2, Y3, Y4, Y5, Y6, Y7, Y8⟩ := ih ((i - 1) / 2) (by omega) (own_u it i (it ((i - 1) / 2))) (own_u pl (it ((i - 1) / 2)) (i + 1)) (.val (.int (((i - 1) / 2).toInt32))) _ _ _ (One.val rfl) (own_HO_mv hH (a := ((i - 1) / 2)) (by omega) (by omega)) X17 rfl N17 ZZ19 F_items_o0_18 F_keys_o0_18 F_place_o0_18 E_o0_18 F_size_o0_18 P17_0 A_tk_18 P17_1
        exact ⟨T1, h1, locs1, i1, f1, g1, k1, s1, Y1, Y2, Y3, K20.trans Y4 (fun x hx => Or.inl hx), Y5, Y6, Y7, fun t k => pre21 t (Y8 t k)⟩
    · have pre22 : ∀ t, Steps p.tables e below (T0.setTop (mkF m 51 #[.val (.ref o0), .val (.int (i.toInt32)), .val (.int (xi.toInt32)), s3] [])) t → Steps p.tables e below (T0.setTop (mkF m 7 #[.val (.ref o0), .val (.int (i.toInt32)), .val (.int (xi.toInt32)), s3] [])) t := fun t k => pre1 t (by
        refine XS.ifYes X0.here hx rfl (pc0 := 8) (pc' := 51) rfl (hb hby d7_8) rfl ((if0 _ _).trans (flt hs2).2.2.2) (by decide) (by decide) ?_
        show Steps p.tables e below (T0.setTop (mkF m 51 #[.val (.ref o0), .val (.int (i.toInt32)), .val (.int (xi.toInt32)), s3] [])) _
        exact k)
      exact ⟨_, _, _, i, it, pl, (0 : Int32), _, X0, e0, N0, (Keep.refl h0 [ti, tp]), A_ti, A_tp, hH, pre22⟩
theorem d9_9 : decode prog_55_method_9_code 9 = .ok (.iload_n 3, 1) := by decide +kernel
theorem d9_10 : decode prog_55_method_9_code 10 = .ok (.ifCond .eq 94, 3) := by decide +kernel
theorem d9_13 : decode prog_55_method_9_code 13 = .ok (.iconst 2, 1) := by decide +kernel
theorem d9_14 : decode prog_55_method_9_code 14 = .ok (.iload_n 1, 1) := by decide +kernel
theorem d9_15 : decode prog_55_method_9_code 15 = .ok (.imul, 1) := by decide +kernel
theorem d9_16 : decode prog_55_method_9_code 16 = .ok (.iconst 1, 1) := by decide +kernel
theorem d9_17 : decode prog_55_method_9_code 17 = .ok (.iadd, 1) := by decide +kernel
theorem d9_18 : decode prog_55_method_9_code 18 = .ok (.aload_n 0, 1) := by decide +kernel
theorem d9_19 : decode prog_55_method_9_code 19 = .ok (.getfield 26, 3) := by decide +kernel
theorem d9_22 : decode prog_55_method_9_code 22 = .ok (.if_icmp .ge 82, 3) := by decide +kernel
theorem d9_25 : decode prog_55_method_9_code 25 = .ok (.iconst 2, 1) := by decide +kernel
theorem d9_26 : decode prog_55_method_9_code 26 = .ok (.iload_n 1, 1) := by decide +kernel
theorem d9_27 : decode prog_55_method_9_code 27 = .ok (.imul, 1) := by decide +kernel
theorem d9_28 : decode prog_55_method_9_code 28 = .ok (.iconst 1, 1) := by decide +kernel
theorem d9_29 : decode prog_55_method_9_code 29 = .ok (.iadd, 1) := by decide +kernel
theorem d9_30 : decode prog_55_method_9_code 30 = .ok (.istore 4, 2) := by decide +kernel
theorem d9_32 : decode prog_55_method_9_code 32 = .ok (.iload 4, 2) := by decide +kernel
theorem d9_34 : decode prog_55_method_9_code 34 = .ok (.iconst 1, 1) := by decide +kernel
theorem d9_35 : decode prog_55_method_9_code 35 = .ok (.iadd, 1) := by decide +kernel
theorem d9_36 : decode prog_55_method_9_code 36 = .ok (.aload_n 0, 1) := by decide +kernel
theorem d9_37 : decode prog_55_method_9_code 37 = .ok (.getfield 26, 3) := by decide +kernel
theorem d9_40 : decode prog_55_method_9_code 40 = .ok (.if_icmp .ge 29, 3) := by decide +kernel
theorem d9_43 : decode prog_55_method_9_code 43 = .ok (.aload_n 0, 1) := by decide +kernel
theorem d9_44 : decode prog_55_method_9_code 44 = .ok (.aload_n 0, 1) := by decide +kernel
theorem d9_45 : decode prog_55_method_9_code 45 = .ok (.getfield 7, 3) := by decide +kernel
theorem d9_48 : decode prog_55_method_9_code 48 = .ok (.iload 4, 2) := by decide +kernel
theorem d9_50 : decode prog_55_method_9_code 50 = .ok (.iconst 1, 1) := by decide +kernel
theorem d9_51 : decode prog_55_method_9_code 51 = .ok (.iadd, 1) := by decide +kernel
theorem d9_52 : decode prog_55_method_9_code 52 = .ok (.iaload, 1) := by decide +kernel
theorem d9_53 : decode prog_55_method_9_code 53 = .ok (.aload_n 0, 1) := by decide +kernel
theorem d9_54 : decode prog_55_method_9_code 54 = .ok (.getfield 7, 3) := by decide +kernel
theorem d9_57 : decode prog_55_method_9_code 57 = .ok (.iload 4, 2) := by decide +kernel
theorem d9_59 : decode prog_55_method_9_code 59 = .ok (.iaload, 1) := by decide +kernel
theorem d9_60 : decode prog_55_method_9_code 60 = .ok (.invokevirtual 48, 3) := by decide +kernel
theorem d9_63 : decode prog_55_method_9_code 63 = .ok (.ifCond .eq 6, 3) := by decide +kernel
theorem d9_66 : decode prog_55_method_9_code 66 = .ok (.iinc 4 1, 3) := by decide +kernel
theorem d9_69 : decode prog_55_method_9_code 69 = .ok (.aload_n 0, 1) := by decide +kernel
theorem d9_70 : decode prog_55_method_9_code 70 = .ok (.aload_n 0, 1) := by decide +kernel
theorem d9_71 : decode prog_55_method_9_code 71 = .ok (.getfield 7, 3) := by decide +kernel
theorem d9_74 : decode prog_55_method_9_code 74 = .ok (.iload 4, 2) := by decide +kernel
theorem d9_76 : decode prog_55_method_9_code 76 = .ok (.iaload, 1) := by decide +kernel
theorem d9_77 : decode prog_55_method_9_code 77 = .ok (.iload_n 2, 1) := by decide +kernel
theorem d9_78 : decode prog_55_method_9_code 78 = .ok (.invokevirtual 48, 3) := by decide +kernel
theorem d9_81 : decode prog_55_method_9_code 81 = .ok (.istore_n 3, 1) := by decide +kernel
theorem d9_82 : decode prog_55_method_9_code 82 = .ok (.iload_n 3, 1) := by decide +kernel
theorem d9_83 : decode prog_55_method_9_code 83 = .ok (.ifCond .eq 18, 3) := by decide +kernel
theorem d9_86 : decode prog_55_method_9_code 86 = .ok (.aload_n 0, 1) := by decide +kernel
theorem d9_87 : decode prog_55_method_9_code 87 = .ok (.iload_n 1, 1) := by decide +kernel
theorem d9_88 : decode prog_55_method_9_code 88 = .ok (.aload_n 0, 1) := by decide +kernel
theorem d9_89 : decode prog_55_method_9_code 89 = .ok (.getfield 7, 3) := by decide +kernel
theorem d9_92 : decode prog_55_method_9_code 92 = .ok (.iload 4, 2) := by decide +kernel
theorem d9_94 : decode prog_55_method_9_code 94 = .ok (.iaload, 1) := by decide +kernel
theorem d9_95 : decode prog_55_method_9_code 95 = .ok (.invokevirtual 52, 3) := by decide +kernel
theorem d9_98 : decode prog_55_method_9_code 98 = .ok (.iload 4, 2) := by decide +kernel
theorem d9_100 : decode prog_55_method_9_code 100 = .ok (.istore_n 1, 1) := by decide +kernel
theorem d9_101 : decode prog_55_method_9_code 101 = .ok (.goto (-92), 3) := by decide +kernel
set_option maxRecDepth 65536 in
set_option maxHeartbeats 40000000 in
theorem loop_dn {p : Program} {l : Launch} {e : Env} {s : State} {m : MethodId} {args : Array Value} {below : List Frame} {meth : Method} {c : Code} {Z : State} {a0 : Array Value} (o0 ti tk tp : Addr) (ky : Nat → Int64) (xi n : Nat) (p0 : Nat → Nat) (n0 : Nat) (g_ti : n0 ≤ ti) (g_tp : n0 ≤ tp) (ne_o0_ti : o0 ≠ ti) (ne_o0_tk : o0 ≠ tk) (ne_o0_tp : o0 ≠ tp) (ne_ti_tk : ti ≠ tk) (ne_ti_tp : ti ≠ tp) (ne_tk_tp : tk ≠ tp) (hx : p.tables.exec = Jvm.exec) (hZ : Z.Warmed39 s.vm) (hw : ∀ d ∈ tables_1, d.before a0 Z = true) (hby : c.code = prog_55_method_9_code) (hml : c.maxLocals = 5) (hown : s.vm.findClass "com/example/lean_layers/leanlayers/phase/layering/IndexedHeap" = some m.cls) :
    ∀ (d i : Nat) (it pl : Nat → Nat) (sk : Int32) (s4 : Slot) (T0 : State) (h0 : Heap) (locs : List Loc), n - i = d → One s4 → own_HO 4 n i xi it pl p0 → Stand p l e ({ frames := 2, cells := 0, slots := 0, locals := 40 } : Room) s m args below meth c T0 locs 0 0 → T0.heap = h0 → Fr n0 locs → n0 ≤ h0.size → Fld Z h0 o0 "com/example/lean_layers/leanlayers/phase/layering/IndexedHeap" "items" "[I" (.ref ti) → Fld Z h0 o0 "com/example/lean_layers/leanlayers/phase/layering/IndexedHeap" "keys" "[J" (.ref tk) → Fld Z h0 o0 "com/example/lean_layers/leanlayers/phase/layering/IndexedHeap" "place" "[I" (.ref tp) → Exa Z h0 o0 "com/example/lean_layers/leanlayers/phase/layering/IndexedHeap" → Fld Z h0 o0 "com/example/lean_layers/leanlayers/phase/layering/IndexedHeap" "size" "I" (.int (n.toInt32)) → own_A Z h0 ti .int 4 (fun kk => (.int ((it kk).toInt32))) → own_A Z h0 tk .long 4 (fun kk => (.long (ky kk))) → own_A Z h0 tp .int 4 (fun kk => (.int (own_pl (pl kk)))) →
      ∃ (T1 : State) (h1 : Heap) (locs1 : List Loc) (i1 : Nat) (f1 g1 : Nat → Nat) (k1 : Int32) (s1 : Slot), Stand p l e ({ frames := 2, cells := 0, slots := 0, locals := 40 } : Room) s m args below meth c T1 locs1 0 0 ∧ T1.heap = h1 ∧ Fr n0 locs1 ∧ Keep h0 h1 [ti, tp] ∧ own_A Z h1 ti .int 4 (fun kk => (.int ((f1 kk).toInt32))) ∧ own_A Z h1 tp .int 4 (fun kk => (.int (own_pl (g1 kk)))) ∧ own_HO 4 n i1 xi f1 g1 p0 ∧ ∀ t, Steps p.tables e below (T1.setTop (mkF m 104 #[.val (.ref o0), .val (.int (i1.toInt32)), .val (.int (xi.toInt32)), .val (.int k1), s1] [])) t → Steps p.tables e below (T0.setTop (mkF m 9 #[.val (.ref o0), .val (.int (i.toInt32)), .val (.int (xi.toInt32)), .val (.int sk), s4] [])) t := by
  intro d
  induction d using Nat.strongRecOn with
  | ind d ih =>
    intro i it pl sk s4 T0 h0 locs hd hs4 hH X0 e0 N0 Z0 F_items_o0 F_keys_o0 F_place_o0 E_o0 F_size_o0 A_ti A_tk A_tp
    have hnc : n ≤ 4 := hH.2.2.1.1
    have hin : i < n := hH.1
    have hxc : xi < 4 := hH.2.1
    have pre0 : ∀ t, Steps p.tables e below (T0.setTop (mkF m 9 #[.val (.ref o0), .val (.int (i.toInt32)), .val (.int (xi.toInt32)), .val (.int sk), s4] [])) t → Steps p.tables e below (T0.setTop (mkF m 9 #[.val (.ref o0), .val (.int (i.toInt32)), .val (.int (xi.toInt32)), .val (.int sk), s4] [])) t := fun t k => k
    have pre1 : ∀ t, Steps p.tables e below (T0.setTop (mkF m 10 #[.val (.ref o0), .val (.int (i.toInt32)), .val (.int (xi.toInt32)), .val (.int sk), s4] [(.int sk)])) t → Steps p.tables e below (T0.setTop (mkF m 9 #[.val (.ref o0), .val (.int (i.toInt32)), .val (.int (xi.toInt32)), .val (.int sk), s4] [])) t := fun t k => pre0 t (by
      show Steps p.tables e below (T0.setTop (mkF m 9 #[.val (.ref o0), .val (.int (i.toInt32)), .val (.int (xi.toInt32)), .val (.int sk), s4] [])) _
      refine XS.iloadN X0.here hx rfl (hb hby d9_9) rfl ?_
      show Steps p.tables e below (T0.setTop (mkF m 10 #[.val (.ref o0), .val (.int (i.toInt32)), .val (.int (xi.toInt32)), .val (.int sk), s4] [(.int sk)])) _
      exact k)
    by_cases hs2 : sk = (0 : Int32)
    · have pre3 : ∀ t, Steps p.tables e below (T0.setTop (mkF m 104 #[.val (.ref o0), .val (.int (i.toInt32)), .val (.int (xi.toInt32)), .val (.int sk), s4] [])) t → Steps p.tables e below (T0.setTop (mkF m 9 #[.val (.ref o0), .val (.int (i.toInt32)), .val (.int (xi.toInt32)), .val (.int sk), s4] [])) t := fun t k => pre1 t (by
        refine XS.ifYes X0.here hx rfl (pc0 := 10) (pc' := 104) rfl (hb hby d9_10) rfl ((if0 _ _).trans (teq hs2).1) (by decide) (by decide) ?_
        show Steps p.tables e below (T0.setTop (mkF m 104 #[.val (.ref o0), .val (.int (i.toInt32)), .val (.int (xi.toInt32)), .val (.int sk), s4] [])) _
        exact k)
      exact ⟨_, _, _, i, it, pl, sk, _, X0, e0, N0, (Keep.refl h0 [ti, tp]), A_ti, A_tp, hH, pre3⟩
    · have pre4 : ∀ t, Steps p.tables e below (T0.setTop (mkF m 18 #[.val (.ref o0), .val (.int (i.toInt32)), .val (.int (xi.toInt32)), .val (.int sk), s4] [(.int (((2 : Int32) * (i.toInt32)) + (1 : Int32)))])) t → Steps p.tables e below (T0.setTop (mkF m 9 #[.val (.ref o0), .val (.int (i.toInt32)), .val (.int (xi.toInt32)), .val (.int sk), s4] [])) t := fun t k => pre1 t (by
        refine XS.ifNo X0.here hx rfl (hb hby d9_10) rfl ((if0 _ _).trans (feq hs2).1) ?_
        show Steps p.tables e below (T0.setTop (mkF m 13 #[.val (.ref o0), .val (.int (i.toInt32)), .val (.int (xi.toInt32)), .val (.int sk), s4] [])) _
        refine XS.iconst X0.here hx rfl (hb hby d9_13) ?_
        show Steps p.tables e below (T0.setTop (mkF m 14 #[.val (.ref o0), .val (.int (i.toInt32)), .val (.int (xi.toInt32)), .val (.int sk), s4] [(.int (2 : Int32))])) _
        refine XS.iloadN X0.here hx rfl (hb hby d9_14) rfl ?_
        show Steps p.tables e below (T0.setTop (mkF m 15 #[.val (.ref o0), .val (.int (i.toInt32)), .val (.int (xi.toInt32)), .val (.int sk), s4] [(.int (i.toInt32)), (.int (2 : Int32))])) _
        refine XS.imul X0.here hx rfl (hb hby d9_15) rfl ?_
        show Steps p.tables e below (T0.setTop (mkF m 16 #[.val (.ref o0), .val (.int (i.toInt32)), .val (.int (xi.toInt32)), .val (.int sk), s4] [(.int ((2 : Int32) * (i.toInt32)))])) _
        refine XS.iconst X0.here hx rfl (hb hby d9_16) ?_
        show Steps p.tables e below (T0.setTop (mkF m 17 #[.val (.ref o0), .val (.int (i.toInt32)), .val (.int (xi.toInt32)), .val (.int sk), s4] [(.int (1 : Int32)), (.int ((2 : Int32) * (i.toInt32)))])) _
        refine XS.iadd X0.here hx rfl (hb hby d9_17) rfl ?_
        show Steps p.tables e below (T0.setTop (mkF m 18 #[.val (.ref o0), .val (.int (i.toInt32)), .val (.int (xi.toInt32)), .val (.int sk), s4] [(.int (((2 : Int32) * (i.toInt32)) + (1 : Int32)))])) _
        exact k)
      have hre5 : (((2 : Int32) * (i.toInt32)) + (1 : Int32)) = ((2 * i + 1).toInt32) := own_two8 ⟨i, by omega⟩
      have pre5 : ∀ t, Steps p.tables e below (T0.setTop (mkF m 18 #[.val (.ref o0), .val (.int (i.toInt32)), .val (.int (xi.toInt32)), .val (.int sk), s4] [(.int ((2 * i + 1).toInt32))])) t → Steps p.tables e below (T0.setTop (mkF m 9 #[.val (.ref o0), .val (.int (i.toInt32)), .val (.int (xi.toInt32)), .val (.int sk), s4] [])) t := fun t k => pre4 t (by rw [hre5]; exact k)
      obtain ⟨T6, X6, e6, st6⟩ := getF X0 hx hZ hown (host := "") (Or.inl (hw _ (List.mem_of_getElem? (i := 26) rfl))) Via.refl e0 F_size_o0 (g := (mkF m 19 #[.val (.ref o0), .val (.int (i.toInt32)), .val (.int (xi.toInt32)), .val (.int sk), s4] [(.ref o0), (.int ((2 * i + 1).toInt32))])) rfl rfl (hb hby d9_19)
      have pre7 : ∀ t, Steps p.tables e below (T6.setTop (mkF m 22 #[.val (.ref o0), .val (.int (i.toInt32)), .val (.int (xi.toInt32)), .val (.int sk), s4] [(.int (n.toInt32)), (.int ((2 * i + 1).toInt32))])) t → Steps p.tables e below (T0.setTop (mkF m 9 #[.val (.ref o0), .val (.int (i.toInt32)), .val (.int (xi.toInt32)), .val (.int sk), s4] [])) t := fun t k => pre5 t (by
        show Steps p.tables e below (T0.setTop (mkF m 18 #[.val (.ref o0), .val (.int (i.toInt32)), .val (.int (xi.toInt32)), .val (.int sk), s4] [(.int ((2 * i + 1).toInt32))])) _
        refine XS.aloadN X0.here hx rfl (hb hby d9_18) rfl rfl ?_
        show Steps p.tables e below (T0.setTop (mkF m 19 #[.val (.ref o0), .val (.int (i.toInt32)), .val (.int (xi.toInt32)), .val (.int sk), s4] [(.ref o0), (.int ((2 * i + 1).toInt32))])) _
        refine st6 _ ?_
        show Steps p.tables e below (T6.setTop (mkF m 22 #[.val (.ref o0), .val (.int (i.toInt32)), .val (.int (xi.toInt32)), .val (.int sk), s4] [(.int (n.toInt32)), (.int ((2 * i + 1).toInt32))])) _
        exact k)
      by_cases hs8 : ((2 * i + 1).toInt32) < (n.toInt32)
      · have hlt : (2 * i + 1) < n := (own_ltn (by omega) (by omega)).mp hs8
        have pre9 : ∀ t, Steps p.tables e below (T6.setTop (mkF m 32 #[.val (.ref o0), .val (.int (i.toInt32)), .val (.int (xi.toInt32)), .val (.int sk), .val (.int (((2 : Int32) * (i.toInt32)) + (1 : Int32)))] [])) t → Steps p.tables e below (T0.setTop (mkF m 9 #[.val (.ref o0), .val (.int (i.toInt32)), .val (.int (xi.toInt32)), .val (.int sk), s4] [])) t := fun t k => pre7 t (by
          refine XS.icmpNo X6.here hx rfl (hb hby d9_22) rfl (tlt hs8).2.1 ?_
          show Steps p.tables e below (T6.setTop (mkF m 25 #[.val (.ref o0), .val (.int (i.toInt32)), .val (.int (xi.toInt32)), .val (.int sk), s4] [])) _
          refine XS.iconst X6.here hx rfl (hb hby d9_25) ?_
          show Steps p.tables e below (T6.setTop (mkF m 26 #[.val (.ref o0), .val (.int (i.toInt32)), .val (.int (xi.toInt32)), .val (.int sk), s4] [(.int (2 : Int32))])) _
          refine XS.iloadN X6.here hx rfl (hb hby d9_26) rfl ?_
          show Steps p.tables e below (T6.setTop (mkF m 27 #[.val (.ref o0), .val (.int (i.toInt32)), .val (.int (xi.toInt32)), .val (.int sk), s4] [(.int (i.toInt32)), (.int (2 : Int32))])) _
          refine XS.imul X6.here hx rfl (hb hby d9_27) rfl ?_
          show Steps p.tables e below (T6.setTop (mkF m 28 #[.val (.ref o0), .val (.int (i.toInt32)), .val (.int (xi.toInt32)), .val (.int sk), s4] [(.int ((2 : Int32) * (i.toInt32)))])) _
          refine XS.iconst X6.here hx rfl (hb hby d9_28) ?_
          show Steps p.tables e below (T6.setTop (mkF m 29 #[.val (.ref o0), .val (.int (i.toInt32)), .val (.int (xi.toInt32)), .val (.int sk), s4] [(.int (1 : Int32)), (.int ((2 : Int32) * (i.toInt32)))])) _
          refine XS.iadd X6.here hx rfl (hb hby d9_29) rfl ?_
          show Steps p.tables e below (T6.setTop (mkF m 30 #[.val (.ref o0), .val (.int (i.toInt32)), .val (.int (xi.toInt32)), .val (.int sk), s4] [(.int (((2 : Int32) * (i.toInt32)) + (1 : Int32)))])) _
          refine XS.istore X6.here hx rfl (hb hby d9_30) rfl (l' := #[.val (.ref o0), .val (.int (i.toInt32)), .val (.int (xi.toInt32)), .val (.int sk), .val (.int (((2 : Int32) * (i.toInt32)) + (1 : Int32)))]) (XS.store1 rfl hs4 rfl) ?_
          show Steps p.tables e below (T6.setTop (mkF m 32 #[.val (.ref o0), .val (.int (i.toInt32)), .val (.int (xi.toInt32)), .val (.int sk), .val (.int (((2 : Int32) * (i.toInt32)) + (1 : Int32)))] [])) _
          exact k)
        have hre10 : (((2 : Int32) * (i.toInt32)) + (1 : Int32)) = ((2 * i + 1).toInt32) := own_two8 ⟨i, by omega⟩
        have pre10 : ∀ t, Steps p.tables e below (T6.setTop (mkF m 32 #[.val (.ref o0), .val (.int (i.toInt32)), .val (.int (xi.toInt32)), .val (.int sk), .val (.int ((2 * i + 1).toInt32))] [])) t → Steps p.tables e below (T0.setTop (mkF m 9 #[.val (.ref o0), .val (.int (i.toInt32)), .val (.int (xi.toInt32)), .val (.int sk), s4] [])) t := fun t k => pre9 t (by rw [hre10]; exact k)
        have pre11 : ∀ t, Steps p.tables e below (T6.setTop (mkF m 36 #[.val (.ref o0), .val (.int (i.toInt32)), .val (.int (xi.toInt32)), .val (.int sk), .val (.int ((2 * i + 1).toInt32))] [(.int (((2 * i + 1).toInt32) + (1 : Int32)))])) t → Steps p.tables e below (T0.setTop (mkF m 9 #[.val (.ref o0), .val (.int (i.toInt32)), .val (.int (xi.toInt32)), .val (.int sk), s4] [])) t := fun t k => pre10 t (by
          show Steps p.tables e below (T6.setTop (mkF m 32 #[.val (.ref o0), .val (.int (i.toInt32)), .val (.int (xi.toInt32)), .val (.int sk), .val (.int ((2 * i + 1).toInt32))] [])) _
          refine XS.iload X6.here hx rfl (hb hby d9_32) rfl ?_
          show Steps p.tables e below (T6.setTop (mkF m 34 #[.val (.ref o0), .val (.int (i.toInt32)), .val (.int (xi.toInt32)), .val (.int sk), .val (.int ((2 * i + 1).toInt32))] [(.int ((2 * i + 1).toInt32))])) _
          refine XS.iconst X6.here hx rfl (hb hby d9_34) ?_
          show Steps p.tables e below (T6.setTop (mkF m 35 #[.val (.ref o0), .val (.int (i.toInt32)), .val (.int (xi.toInt32)), .val (.int sk), .val (.int ((2 * i + 1).toInt32))] [(.int (1 : Int32)), (.int ((2 * i + 1).toInt32))])) _
          refine XS.iadd X6.here hx rfl (hb hby d9_35) rfl ?_
          show Steps p.tables e below (T6.setTop (mkF m 36 #[.val (.ref o0), .val (.int (i.toInt32)), .val (.int (xi.toInt32)), .val (.int sk), .val (.int ((2 * i + 1).toInt32))] [(.int (((2 * i + 1).toInt32) + (1 : Int32)))])) _
          exact k)
        have hre12 : (((2 * i + 1).toInt32) + (1 : Int32)) = ((2 * i + 2).toInt32) := own_inc (2 * i + 1)
        have pre12 : ∀ t, Steps p.tables e below (T6.setTop (mkF m 36 #[.val (.ref o0), .val (.int (i.toInt32)), .val (.int (xi.toInt32)), .val (.int sk), .val (.int ((2 * i + 1).toInt32))] [(.int ((2 * i + 2).toInt32))])) t → Steps p.tables e below (T0.setTop (mkF m 9 #[.val (.ref o0), .val (.int (i.toInt32)), .val (.int (xi.toInt32)), .val (.int sk), s4] [])) t := fun t k => pre11 t (by rw [hre12]; exact k)
        obtain ⟨T13, X13, e13, st13⟩ := getF X6 hx hZ hown (host := "") (Or.inl (hw _ (List.mem_of_getElem? (i := 26) rfl))) Via.refl e6 F_size_o0 (g := (mkF m 37 #[.val (.ref o0), .val (.int (i.toInt32)), .val (.int (xi.toInt32)), .val (.int sk), .val (.int ((2 * i + 1).toInt32))] [(.ref o0), (.int ((2 * i + 2).toInt32))])) rfl rfl (hb hby d9_37)
        have pre14 : ∀ t, Steps p.tables e below (T13.setTop (mkF m 40 #[.val (.ref o0), .val (.int (i.toInt32)), .val (.int (xi.toInt32)), .val (.int sk), .val (.int ((2 * i + 1).toInt32))] [(.int (n.toInt32)), (.int ((2 * i + 2).toInt32))])) t → Steps p.tables e below (T0.setTop (mkF m 9 #[.val (.ref o0), .val (.int (i.toInt32)), .val (.int (xi.toInt32)), .val (.int sk), s4] [])) t := fun t k => pre12 t (by
          show Steps p.tables e below (T6.setTop (mkF m 36 #[.val (.ref o0), .val (.int (i.toInt32)), .val (.int (xi.toInt32)), .val (.int sk), .val (.int ((2 * i + 1).toInt32))] [(.int ((2 * i + 2).toInt32))])) _
          refine XS.aloadN X6.here hx rfl (hb hby d9_36) rfl rfl ?_
          show Steps p.tables e below (T6.setTop (mkF m 37 #[.val (.ref o0), .val (.int (i.toInt32)), .val (.int (xi.toInt32)), .val (.int sk), .val (.int ((2 * i + 1).toInt32))] [(.ref o0), (.int ((2 * i + 2).toInt32))])) _
          refine st13 _ ?_
          show Steps p.tables e below (T13.setTop (mkF m 40 #[.val (.ref o0), .val (.int (i.toInt32)), .val (.int (xi.toInt32)), .val (.int sk), .val (.int ((2 * i + 1).toInt32))] [(.int (n.toInt32)), (.int ((2 * i + 2).toInt32))])) _
          exact k)
        by_cases hs15 : ((2 * i + 2).toInt32) < (n.toInt32)
        · have hlt2 : (2 * i + 2) < n := (own_ltn (by omega) (by omega)).mp hs15
          have hac2 : it (2 * i + 2) < 4 := own_HO_it hH hlt2 (by omega)
          have hac1 : it (2 * i + 1) < 4 := own_HO_it hH hlt (by omega)
          obtain ⟨T16, X16, e16, st16⟩ := getF X13 hx hZ hown (host := "") (Or.inl (hw _ (List.mem_of_getElem? (i := 10) rfl))) Via.refl e13 F_items_o0 (g := (mkF m 45 #[.val (.ref o0), .val (.int (i.toInt32)), .val (.int (xi.toInt32)), .val (.int sk), .val (.int ((2 * i + 1).toInt32))] [(.ref o0), (.ref o0)])) rfl rfl (hb hby d9_45)
          have pre17 : ∀ t, Steps p.tables e below (T16.setTop (mkF m 52 #[.val (.ref o0), .val (.int (i.toInt32)), .val (.int (xi.toInt32)), .val (.int sk), .val (.int ((2 * i + 1).toInt32))] [(.int (((2 * i + 1).toInt32) + (1 : Int32))), (.ref ti), (.ref o0)])) t → Steps p.tables e below (T0.setTop (mkF m 9 #[.val (.ref o0), .val (.int (i.toInt32)), .val (.int (xi.toInt32)), .val (.int sk), s4] [])) t := fun t k => pre14 t (by
            refine XS.icmpNo X13.here hx rfl (hb hby d9_40) rfl (tlt hs15).2.1 ?_
            show Steps p.tables e below (T13.setTop (mkF m 43 #[.val (.ref o0), .val (.int (i.toInt32)), .val (.int (xi.toInt32)), .val (.int sk), .val (.int ((2 * i + 1).toInt32))] [])) _
            refine XS.aloadN X13.here hx rfl (hb hby d9_43) rfl rfl ?_
            show Steps p.tables e below (T13.setTop (mkF m 44 #[.val (.ref o0), .val (.int (i.toInt32)), .val (.int (xi.toInt32)), .val (.int sk), .val (.int ((2 * i + 1).toInt32))] [(.ref o0)])) _
            refine XS.aloadN X13.here hx rfl (hb hby d9_44) rfl rfl ?_
            show Steps p.tables e below (T13.setTop (mkF m 45 #[.val (.ref o0), .val (.int (i.toInt32)), .val (.int (xi.toInt32)), .val (.int sk), .val (.int ((2 * i + 1).toInt32))] [(.ref o0), (.ref o0)])) _
            refine st16 _ ?_
            show Steps p.tables e below (T16.setTop (mkF m 48 #[.val (.ref o0), .val (.int (i.toInt32)), .val (.int (xi.toInt32)), .val (.int sk), .val (.int ((2 * i + 1).toInt32))] [(.ref ti), (.ref o0)])) _
            refine XS.iload X16.here hx rfl (hb hby d9_48) rfl ?_
            show Steps p.tables e below (T16.setTop (mkF m 50 #[.val (.ref o0), .val (.int (i.toInt32)), .val (.int (xi.toInt32)), .val (.int sk), .val (.int ((2 * i + 1).toInt32))] [(.int ((2 * i + 1).toInt32)), (.ref ti), (.ref o0)])) _
            refine XS.iconst X16.here hx rfl (hb hby d9_50) ?_
            show Steps p.tables e below (T16.setTop (mkF m 51 #[.val (.ref o0), .val (.int (i.toInt32)), .val (.int (xi.toInt32)), .val (.int sk), .val (.int ((2 * i + 1).toInt32))] [(.int (1 : Int32)), (.int ((2 * i + 1).toInt32)), (.ref ti), (.ref o0)])) _
            refine XS.iadd X16.here hx rfl (hb hby d9_51) rfl ?_
            show Steps p.tables e below (T16.setTop (mkF m 52 #[.val (.ref o0), .val (.int (i.toInt32)), .val (.int (xi.toInt32)), .val (.int sk), .val (.int ((2 * i + 1).toInt32))] [(.int (((2 * i + 1).toInt32) + (1 : Int32))), (.ref ti), (.ref o0)])) _
            exact k)
          have hre18 : (((2 * i + 1).toInt32) + (1 : Int32)) = ((2 * i + 2).toInt32) := own_inc (2 * i + 1)
          have pre18 : ∀ t, Steps p.tables e below (T16.setTop (mkF m 52 #[.val (.ref o0), .val (.int (i.toInt32)), .val (.int (xi.toInt32)), .val (.int sk), .val (.int ((2 * i + 1).toInt32))] [(.int ((2 * i + 2).toInt32)), (.ref ti), (.ref o0)])) t → Steps p.tables e below (T0.setTop (mkF m 9 #[.val (.ref o0), .val (.int (i.toInt32)), .val (.int (xi.toInt32)), .val (.int sk), s4] [])) t := fun t k => pre17 t (by rw [hre18]; exact k)
          have qa19 := A_ti
          obtain ⟨c19, Ar19, Sz19, H19⟩ := qa19
          have hi20 : 0 ≤ (((2 * i + 2).toInt32) : Int32).toInt ∧ (((2 * i + 2).toInt32) : Int32).toInt < (4 : Nat) := (own_bd (show (2 * i + 2) < 4 by omega) (by decide))
          have hl20 : c19.slots[(((2 * i + 2).toInt32) : Int32).toNatClampNeg]? = some (.int ((it (2 * i + 2)).toInt32)) := by rw [show ((it (2 * i + 2)).toInt32) = (((it (((2 * i + 2).toInt32) : Int32).toNatClampNeg).toInt32)) from by rw [own_tn (show (2 * i + 2) < 2147483648 by omega)]]; exact H19 _ (own_ix hi20)
          obtain ⟨T21, X21, e21, st21⟩ := getF X16 hx hZ hown (host := "") (Or.inl (hw _ (List.mem_of_getElem? (i := 10) rfl))) Via.refl e16 F_items_o0 (g := (mkF m 54 #[.val (.ref o0), .val (.int (i.toInt32)), .val (.int (xi.toInt32)), .val (.int sk), .val (.int ((2 * i + 1).toInt32))] [(.ref o0), (.int ((it (2 * i + 2)).toInt32)), (.ref o0)])) rfl rfl (hb hby d9_54)
          have qa22 := A_ti
          obtain ⟨c22, Ar22, Sz22, H22⟩ := qa22
          have hi23 : 0 ≤ (((2 * i + 1).toInt32) : Int32).toInt ∧ (((2 * i + 1).toInt32) : Int32).toInt < (4 : Nat) := (own_bd (show (2 * i + 1) < 4 by omega) (by decide))
          have hl23 : c22.slots[(((2 * i + 1).toInt32) : Int32).toNatClampNeg]? = some (.int ((it (2 * i + 1)).toInt32)) := by rw [show ((it (2 * i + 1)).toInt32) = (((it (((2 * i + 1).toInt32) : Int32).toNatClampNeg).toInt32)) from by rw [own_tn (show (2 * i + 1) < 2147483648 by omega)]]; exact H22 _ (own_ix hi23)
          obtain ⟨cq24, q24, q24'⟩ := (E_o0).cell
          obtain ⟨_, _, ⟨T24, L24, k24, n24⟩, -, X24, ⟨Lc24, hQ24, l24, y24, z24⟩, st24⟩ := X21.privateBack hx (y := (⟨"com/example/lean_layers/leanlayers/phase/layering/IndexedHeap", "before", "(II)Z"⟩ : MethodName)) hown (mvT hZ (hw _ (List.mem_of_getElem? (i := 66) rfl))) (mvT hZ (hw _ (List.mem_of_getElem? (i := 67) rfl))) (own_selp (y := (⟨"com/example/lean_layers/leanlayers/phase/layering/IndexedHeap", "before", "(II)Z"⟩ : MethodName)) (mvT hZ (hw _ (List.mem_of_getElem? (i := 1) rfl))) (Cond.privateMethod_at (mvP hZ (hw _ (List.mem_of_getElem? (i := 68) rfl)) (args := #[]))) (mvT hZ (hw _ (List.mem_of_getElem? (i := 67) rfl))) (by decide)) (Cond.privateMethod_at (mvP hZ (hw _ (List.mem_of_getElem? (i := 68) rfl)) (args := #[]))) (mvT hZ (hw _ (List.mem_of_getElem? (i := 69) rfl))) (by decide) (backOf (W := 0) (rm13 l Z a0 hw [] o0 ((it (2 * i + 2)).toInt32) ((it (2 * i + 1)).toInt32) tk ky (it (2 * i + 2)) (it (2 * i + 1)) h0 n0 Z0 F_keys_o0 A_tk rfl rfl hac2 hac1) hZ (hw _ (List.mem_of_getElem? (i := 69) rfl)) (hw _ (List.mem_of_getElem? (i := 2) rfl)) (by decide) (by decide)) (g := (mkF m 60 #[.val (.ref o0), .val (.int (i.toInt32)), .val (.int (xi.toInt32)), .val (.int sk), .val (.int ((2 * i + 1).toInt32))] [(.int ((it (2 * i + 1)).toInt32)), (.int ((it (2 * i + 2)).toInt32)), (.ref o0)])) rfl (by rw [hml]; rfl) (Steps.refl _) (a := o0) (by rw [e21]; exact q24) q24' (argsL := [(.int ((it (2 * i + 2)).toInt32)), (.int ((it (2 * i + 1)).toInt32))]) (rest := []) (lenOf pd_1 rfl) rfl (by show 2 * 0 + _ ≤ _; exact Nat.le_of_eq rfl) (hb hby d9_60) (fun _ _ => ⟨rfl, e21, (by decide : 0 + 0 ≤ _), (by decide : 0 + 0 ≤ _)⟩)
          dsimp only [Pt.U, Pt.locs, Pt.cells, Pt.slots] at X24 l24 y24 z24 st24 hQ24
          subst y24 z24
          obtain ⟨rfl, N24q, hh24⟩ := hQ24
          have N24 := Fr.app N0 N24q
          rw [← l24] at N24
          have pre25 : ∀ t, Steps p.tables e below (T24.setTop (mkF m 63 #[.val (.ref o0), .val (.int (i.toInt32)), .val (.int (xi.toInt32)), .val (.int sk), .val (.int ((2 * i + 1).toInt32))] [(.int (own_bfr (ky (it (2 * i + 2))) (ky (it (2 * i + 1))) ((it (2 * i + 2)).toInt32) ((it (2 * i + 1)).toInt32)))])) t → Steps p.tables e below (T0.setTop (mkF m 9 #[.val (.ref o0), .val (.int (i.toInt32)), .val (.int (xi.toInt32)), .val (.int sk), s4] [])) t := fun t k => pre18 t (by
            show Steps p.tables e below (T16.setTop (mkF m 52 #[.val (.ref o0), .val (.int (i.toInt32)), .val (.int (xi.toInt32)), .val (.int sk), .val (.int ((2 * i + 1).toInt32))] [(.int ((2 * i + 2).toInt32)), (.ref ti), (.ref o0)])) _
            refine X16.iaload hx (j := ((2 * i + 2).toInt32)) (v := (.int ((it (2 * i + 2)).toInt32))) (by rw [e16]; exact Ar19.1) (State.isArrayOf_alike hZ.alike Ar19.2.1) Ar19.2.2 (own_in Sz19 hi20) hl20 (g := (mkF m 52 #[.val (.ref o0), .val (.int (i.toInt32)), .val (.int (xi.toInt32)), .val (.int sk), .val (.int ((2 * i + 1).toInt32))] [(.int ((2 * i + 2).toInt32)), (.ref ti), (.ref o0)])) rfl rfl (hb hby d9_52) _ ?_
            show Steps p.tables e below (T16.setTop (mkF m 53 #[.val (.ref o0), .val (.int (i.toInt32)), .val (.int (xi.toInt32)), .val (.int sk), .val (.int ((2 * i + 1).toInt32))] [(.int ((it (2 * i + 2)).toInt32)), (.ref o0)])) _
            refine XS.aloadN X16.here hx rfl (hb hby d9_53) rfl rfl ?_
            show Steps p.tables e below (T16.setTop (mkF m 54 #[.val (.ref o0), .val (.int (i.toInt32)), .val (.int (xi.toInt32)), .val (.int sk), .val (.int ((2 * i + 1).toInt32))] [(.ref o0), (.int ((it (2 * i + 2)).toInt32)), (.ref o0)])) _
            refine st21 _ ?_
            show Steps p.tables e below (T21.setTop (mkF m 57 #[.val (.ref o0), .val (.int (i.toInt32)), .val (.int (xi.toInt32)), .val (.int sk), .val (.int ((2 * i + 1).toInt32))] [(.ref ti), (.int ((it (2 * i + 2)).toInt32)), (.ref o0)])) _
            refine XS.iload X21.here hx rfl (hb hby d9_57) rfl ?_
            show Steps p.tables e below (T21.setTop (mkF m 59 #[.val (.ref o0), .val (.int (i.toInt32)), .val (.int (xi.toInt32)), .val (.int sk), .val (.int ((2 * i + 1).toInt32))] [(.int ((2 * i + 1).toInt32)), (.ref ti), (.int ((it (2 * i + 2)).toInt32)), (.ref o0)])) _
            refine X21.iaload hx (j := ((2 * i + 1).toInt32)) (v := (.int ((it (2 * i + 1)).toInt32))) (by rw [e21]; exact Ar22.1) (State.isArrayOf_alike hZ.alike Ar22.2.1) Ar22.2.2 (own_in Sz22 hi23) hl23 (g := (mkF m 59 #[.val (.ref o0), .val (.int (i.toInt32)), .val (.int (xi.toInt32)), .val (.int sk), .val (.int ((2 * i + 1).toInt32))] [(.int ((2 * i + 1).toInt32)), (.ref ti), (.int ((it (2 * i + 2)).toInt32)), (.ref o0)])) rfl rfl (hb hby d9_59) _ ?_
            show Steps p.tables e below (T21.setTop (mkF m 60 #[.val (.ref o0), .val (.int (i.toInt32)), .val (.int (xi.toInt32)), .val (.int sk), .val (.int ((2 * i + 1).toInt32))] [(.int ((it (2 * i + 1)).toInt32)), (.int ((it (2 * i + 2)).toInt32)), (.ref o0)])) _
            refine st24.trans ?_
            show Steps p.tables e below (T24.setTop (mkF m 63 #[.val (.ref o0), .val (.int (i.toInt32)), .val (.int (xi.toInt32)), .val (.int sk), .val (.int ((2 * i + 1).toInt32))] [(.int (own_bfr (ky (it (2 * i + 2))) (ky (it (2 * i + 1))) ((it (2 * i + 2)).toInt32) ((it (2 * i + 1)).toInt32)))])) _
            exact k)
          by_cases hs26 : (own_bfr (ky (it (2 * i + 2))) (ky (it (2 * i + 1))) ((it (2 * i + 2)).toInt32) ((it (2 * i + 1)).toInt32)) = (0 : Int32)
          · have hcn : (2 * i + 1) < n := by omega
            have hac : it (2 * i + 1) < 4 := own_HO_it hH hcn (by omega)
            obtain ⟨T27, X27, e27, st27⟩ := getF X24 hx hZ hown (host := "") (Or.inl (hw _ (List.mem_of_getElem? (i := 10) rfl))) Via.refl hh24 F_items_o0 (g := (mkF m 71 #[.val (.ref o0), .val (.int (i.toInt32)), .val (.int (xi.toInt32)), .val (.int sk), .val (.int ((2 * i + 1).toInt32))] [(.ref o0), (.ref o0)])) rfl rfl (hb hby d9_71)
            have qa28 := A_ti
            obtain ⟨c28, Ar28, Sz28, H28⟩ := qa28
            have hi29 : 0 ≤ (((2 * i + 1).toInt32) : Int32).toInt ∧ (((2 * i + 1).toInt32) : Int32).toInt < (4 : Nat) := (own_bd (show (2 * i + 1) < 4 by omega) (by decide))
            have hl29 : c28.slots[(((2 * i + 1).toInt32) : Int32).toNatClampNeg]? = some (.int ((it (2 * i + 1)).toInt32)) := by rw [show ((it (2 * i + 1)).toInt32) = (((it (((2 * i + 1).toInt32) : Int32).toNatClampNeg).toInt32)) from by rw [own_tn (show (2 * i + 1) < 2147483648 by omega)]]; exact H28 _ (own_ix hi29)
            obtain ⟨cq30, q30, q30'⟩ := (E_o0).cell
            obtain ⟨_, _, ⟨T30, L30, k30, n30⟩, -, X30, ⟨Lc30, hQ30, l30, y30, z30⟩, st30⟩ := X27.privateBack hx (y := (⟨"com/example/lean_layers/leanlayers/phase/layering/IndexedHeap", "before", "(II)Z"⟩ : MethodName)) hown (mvT hZ (hw _ (List.mem_of_getElem? (i := 66) rfl))) (mvT hZ (hw _ (List.mem_of_getElem? (i := 67) rfl))) (own_selp (y := (⟨"com/example/lean_layers/leanlayers/phase/layering/IndexedHeap", "before", "(II)Z"⟩ : MethodName)) (mvT hZ (hw _ (List.mem_of_getElem? (i := 1) rfl))) (Cond.privateMethod_at (mvP hZ (hw _ (List.mem_of_getElem? (i := 68) rfl)) (args := #[]))) (mvT hZ (hw _ (List.mem_of_getElem? (i := 67) rfl))) (by decide)) (Cond.privateMethod_at (mvP hZ (hw _ (List.mem_of_getElem? (i := 68) rfl)) (args := #[]))) (mvT hZ (hw _ (List.mem_of_getElem? (i := 69) rfl))) (by decide) (backOf (W := 0) (rm13 l Z a0 hw [] o0 ((it (2 * i + 1)).toInt32) (xi.toInt32) tk ky (it (2 * i + 1)) xi h0 n0 Z0 F_keys_o0 A_tk rfl rfl hac hxc) hZ (hw _ (List.mem_of_getElem? (i := 69) rfl)) (hw _ (List.mem_of_getElem? (i := 2) rfl)) (by decide) (by decide)) (g := (mkF m 78 #[.val (.ref o0), .val (.int (i.toInt32)), .val (.int (xi.toInt32)), .val (.int sk), .val (.int ((2 * i + 1).toInt32))] [(.int (xi.toInt32)), (.int ((it (2 * i + 1)).toInt32)), (.ref o0)])) rfl (by rw [hml]; rfl) (Steps.refl _) (a := o0) (by rw [e27]; exact q30) q30' (argsL := [(.int ((it (2 * i + 1)).toInt32)), (.int (xi.toInt32))]) (rest := []) (lenOf pd_1 rfl) rfl (by show 2 * 0 + _ ≤ _; exact Nat.le_of_eq rfl) (hb hby d9_78) (fun _ _ => ⟨rfl, e27, (by decide : 0 + 0 ≤ _), (by decide : 0 + 0 ≤ _)⟩)
            dsimp only [Pt.U, Pt.locs, Pt.cells, Pt.slots] at X30 l30 y30 z30 st30 hQ30
            subst y30 z30
            obtain ⟨rfl, N30q, hh30⟩ := hQ30
            have N30 := Fr.app N24 N30q
            rw [← l30] at N30
            have pre31 : ∀ t, Steps p.tables e below (T30.setTop (mkF m 83 #[.val (.ref o0), .val (.int (i.toInt32)), .val (.int (xi.toInt32)), .val (.int (own_bfr (ky (it (2 * i + 1))) (ky xi) ((it (2 * i + 1)).toInt32) (xi.toInt32))), .val (.int ((2 * i + 1).toInt32))] [(.int (own_bfr (ky (it (2 * i + 1))) (ky xi) ((it (2 * i + 1)).toInt32) (xi.toInt32)))])) t → Steps p.tables e below (T0.setTop (mkF m 9 #[.val (.ref o0), .val (.int (i.toInt32)), .val (.int (xi.toInt32)), .val (.int sk), s4] [])) t := fun t k => pre25 t (by
              refine XS.ifYes X24.here hx rfl (pc0 := 63) (pc' := 69) rfl (hb hby d9_63) rfl ((if0 _ _).trans (teq hs26).1) (by decide) (by decide) ?_
              show Steps p.tables e below (T24.setTop (mkF m 69 #[.val (.ref o0), .val (.int (i.toInt32)), .val (.int (xi.toInt32)), .val (.int sk), .val (.int ((2 * i + 1).toInt32))] [])) _
              refine XS.aloadN X24.here hx rfl (hb hby d9_69) rfl rfl ?_
              show Steps p.tables e below (T24.setTop (mkF m 70 #[.val (.ref o0), .val (.int (i.toInt32)), .val (.int (xi.toInt32)), .val (.int sk), .val (.int ((2 * i + 1).toInt32))] [(.ref o0)])) _
              refine XS.aloadN X24.here hx rfl (hb hby d9_70) rfl rfl ?_
              show Steps p.tables e below (T24.setTop (mkF m 71 #[.val (.ref o0), .val (.int (i.toInt32)), .val (.int (xi.toInt32)), .val (.int sk), .val (.int ((2 * i + 1).toInt32))] [(.ref o0), (.ref o0)])) _
              refine st27 _ ?_
              show Steps p.tables e below (T27.setTop (mkF m 74 #[.val (.ref o0), .val (.int (i.toInt32)), .val (.int (xi.toInt32)), .val (.int sk), .val (.int ((2 * i + 1).toInt32))] [(.ref ti), (.ref o0)])) _
              refine XS.iload X27.here hx rfl (hb hby d9_74) rfl ?_
              show Steps p.tables e below (T27.setTop (mkF m 76 #[.val (.ref o0), .val (.int (i.toInt32)), .val (.int (xi.toInt32)), .val (.int sk), .val (.int ((2 * i + 1).toInt32))] [(.int ((2 * i + 1).toInt32)), (.ref ti), (.ref o0)])) _
              refine X27.iaload hx (j := ((2 * i + 1).toInt32)) (v := (.int ((it (2 * i + 1)).toInt32))) (by rw [e27]; exact Ar28.1) (State.isArrayOf_alike hZ.alike Ar28.2.1) Ar28.2.2 (own_in Sz28 hi29) hl29 (g := (mkF m 76 #[.val (.ref o0), .val (.int (i.toInt32)), .val (.int (xi.toInt32)), .val (.int sk), .val (.int ((2 * i + 1).toInt32))] [(.int ((2 * i + 1).toInt32)), (.ref ti), (.ref o0)])) rfl rfl (hb hby d9_76) _ ?_
              show Steps p.tables e below (T27.setTop (mkF m 77 #[.val (.ref o0), .val (.int (i.toInt32)), .val (.int (xi.toInt32)), .val (.int sk), .val (.int ((2 * i + 1).toInt32))] [(.int ((it (2 * i + 1)).toInt32)), (.ref o0)])) _
              refine XS.iloadN X27.here hx rfl (hb hby d9_77) rfl ?_
              show Steps p.tables e below (T27.setTop (mkF m 78 #[.val (.ref o0), .val (.int (i.toInt32)), .val (.int (xi.toInt32)), .val (.int sk), .val (.int ((2 * i + 1).toInt32))] [(.int (xi.toInt32)), (.int ((it (2 * i + 1)).toInt32)), (.ref o0)])) _
              refine st30.trans ?_
              show Steps p.tables e below (T30.setTop (mkF m 81 #[.val (.ref o0), .val (.int (i.toInt32)), .val (.int (xi.toInt32)), .val (.int sk), .val (.int ((2 * i + 1).toInt32))] [(.int (own_bfr (ky (it (2 * i + 1))) (ky xi) ((it (2 * i + 1)).toInt32) (xi.toInt32)))])) _
              refine XS.istoreN X30.here hx rfl (hb hby d9_81) rfl (l' := #[.val (.ref o0), .val (.int (i.toInt32)), .val (.int (xi.toInt32)), .val (.int (own_bfr (ky (it (2 * i + 1))) (ky xi) ((it (2 * i + 1)).toInt32) (xi.toInt32))), .val (.int ((2 * i + 1).toInt32))]) rfl ?_
              show Steps p.tables e below (T30.setTop (mkF m 82 #[.val (.ref o0), .val (.int (i.toInt32)), .val (.int (xi.toInt32)), .val (.int (own_bfr (ky (it (2 * i + 1))) (ky xi) ((it (2 * i + 1)).toInt32) (xi.toInt32))), .val (.int ((2 * i + 1).toInt32))] [])) _
              refine XS.iloadN X30.here hx rfl (hb hby d9_82) rfl ?_
              show Steps p.tables e below (T30.setTop (mkF m 83 #[.val (.ref o0), .val (.int (i.toInt32)), .val (.int (xi.toInt32)), .val (.int (own_bfr (ky (it (2 * i + 1))) (ky xi) ((it (2 * i + 1)).toInt32) (xi.toInt32))), .val (.int ((2 * i + 1).toInt32))] [(.int (own_bfr (ky (it (2 * i + 1))) (ky xi) ((it (2 * i + 1)).toInt32) (xi.toInt32)))])) _
              exact k)
            by_cases hs32 : (own_bfr (ky (it (2 * i + 1))) (ky xi) ((it (2 * i + 1)).toInt32) (xi.toInt32)) = (0 : Int32)
            · have pre33 : ∀ t, Steps p.tables e below (T30.setTop (mkF m 104 #[.val (.ref o0), .val (.int (i.toInt32)), .val (.int (xi.toInt32)), .val (.int (own_bfr (ky (it (2 * i + 1))) (ky xi) ((it (2 * i + 1)).toInt32) (xi.toInt32))), .val (.int ((2 * i + 1).toInt32))] [])) t → Steps p.tables e below (T0.setTop (mkF m 9 #[.val (.ref o0), .val (.int (i.toInt32)), .val (.int (xi.toInt32)), .val (.int sk), s4] [])) t := fun t k => pre31 t (by
                refine XS.ifYes X30.here hx rfl (pc0 := 83) (pc' := 101) rfl (hb hby d9_83) rfl ((if0 _ _).trans (teq hs32).1) (by decide) (by decide) ?_
                show Steps p.tables e below (T30.setTop (mkF m 101 #[.val (.ref o0), .val (.int (i.toInt32)), .val (.int (xi.toInt32)), .val (.int (own_bfr (ky (it (2 * i + 1))) (ky xi) ((it (2 * i + 1)).toInt32) (xi.toInt32))), .val (.int ((2 * i + 1).toInt32))] [])) _
                refine XS.goto X30.here hx rfl (pc0 := 101) (pc' := 9) rfl (hb hby d9_101) (by decide) (by decide) ?_
                show Steps p.tables e below (T30.setTop (mkF m 9 #[.val (.ref o0), .val (.int (i.toInt32)), .val (.int (xi.toInt32)), .val (.int (own_bfr (ky (it (2 * i + 1))) (ky xi) ((it (2 * i + 1)).toInt32) (xi.toInt32))), .val (.int ((2 * i + 1).toInt32))] [])) _
                refine XS.iloadN X30.here hx rfl (hb hby d9_9) rfl ?_
                show Steps p.tables e below (T30.setTop (mkF m 10 #[.val (.ref o0), .val (.int (i.toInt32)), .val (.int (xi.toInt32)), .val (.int (own_bfr (ky (it (2 * i + 1))) (ky xi) ((it (2 * i + 1)).toInt32) (xi.toInt32))), .val (.int ((2 * i + 1).toInt32))] [(.int (own_bfr (ky (it (2 * i + 1))) (ky xi) ((it (2 * i + 1)).toInt32) (xi.toInt32)))])) _
                refine XS.ifYes X30.here hx rfl (pc0 := 10) (pc' := 104) rfl (hb hby d9_10) rfl ((if0 _ _).trans (teq hs32).1) (by decide) (by decide) ?_
                show Steps p.tables e below (T30.setTop (mkF m 104 #[.val (.ref o0), .val (.int (i.toInt32)), .val (.int (xi.toInt32)), .val (.int (own_bfr (ky (it (2 * i + 1))) (ky xi) ((it (2 * i + 1)).toInt32) (xi.toInt32))), .val (.int ((2 * i + 1).toInt32))] [])) _
                exact k)
              exact ⟨_, _, _, i, it, pl, (own_bfr (ky (it (2 * i + 1))) (ky xi) ((it (2 * i + 1)).toInt32) (xi.toInt32)), _, X30, hh30, N30, (Keep.refl h0 [ti, tp]), A_ti, A_tp, hH, pre33⟩
            · obtain ⟨T34, X34, e34, st34⟩ := getF X30 hx hZ hown (host := "") (Or.inl (hw _ (List.mem_of_getElem? (i := 10) rfl))) Via.refl hh30 F_items_o0 (g := (mkF m 89 #[.val (.ref o0), .val (.int (i.toInt32)), .val (.int (xi.toInt32)), .val (.int (own_bfr (ky (it (2 * i + 1))) (ky xi) ((it (2 * i + 1)).toInt32) (xi.toInt32))), .val (.int ((2 * i + 1).toInt32))] [(.ref o0), (.int (i.toInt32)), (.ref o0)])) rfl rfl (hb hby d9_89)
              have qa35 := A_ti
              obtain ⟨c35, Ar35, Sz35, H35⟩ := qa35
              have hi36 : 0 ≤ (((2 * i + 1).toInt32) : Int32).toInt ∧ (((2 * i + 1).toInt32) : Int32).toInt < (4 : Nat) := (own_bd (show (2 * i + 1) < 4 by omega) (by decide))
              have hl36 : c35.slots[(((2 * i + 1).toInt32) : Int32).toNatClampNeg]? = some (.int ((it (2 * i + 1)).toInt32)) := by rw [show ((it (2 * i + 1)).toInt32) = (((it (((2 * i + 1).toInt32) : Int32).toNatClampNeg).toInt32)) from by rw [own_tn (show (2 * i + 1) < 2147483648 by omega)]]; exact H35 _ (own_ix hi36)
              obtain ⟨cq37, q37, q37'⟩ := (E_o0).cell
              obtain ⟨_, _, ⟨T37, L37, k37, n37⟩, -, X37, ⟨Lc37, hQ37, l37, y37, z37⟩, st37⟩ := X34.privateBack hx (y := (⟨"com/example/lean_layers/leanlayers/phase/layering/IndexedHeap", "setAt", "(II)V"⟩ : MethodName)) hown (mvT hZ (hw _ (List.mem_of_getElem? (i := 42) rfl))) (mvT hZ (hw _ (List.mem_of_getElem? (i := 43) rfl))) (own_selp (y := (⟨"com/example/lean_layers/leanlayers/phase/layering/IndexedHeap", "setAt", "(II)V"⟩ : MethodName)) (mvT hZ (hw _ (List.mem_of_getElem? (i := 1) rfl))) (Cond.privateMethod_at (mvP hZ (hw _ (List.mem_of_getElem? (i := 44) rfl)) (args := #[]))) (mvT hZ (hw _ (List.mem_of_getElem? (i := 43) rfl))) (by decide)) (Cond.privateMethod_at (mvP hZ (hw _ (List.mem_of_getElem? (i := 44) rfl)) (args := #[]))) (mvT hZ (hw _ (List.mem_of_getElem? (i := 45) rfl))) (by decide) (backOf (W := 0) (rm8 l Z a0 hw [] o0 (i.toInt32) ((it (2 * i + 1)).toInt32) ti tp it pl i (it (2 * i + 1)) h0 n0 Z0 F_items_o0 F_place_o0 E_o0 A_ti A_tp g_ti g_tp ne_o0_ti ne_o0_tp ne_ti_tp rfl rfl (by omega) hac) hZ (hw _ (List.mem_of_getElem? (i := 45) rfl)) (hw _ (List.mem_of_getElem? (i := 2) rfl)) (by decide) (by decide)) (g := (mkF m 95 #[.val (.ref o0), .val (.int (i.toInt32)), .val (.int (xi.toInt32)), .val (.int (own_bfr (ky (it (2 * i + 1))) (ky xi) ((it (2 * i + 1)).toInt32) (xi.toInt32))), .val (.int ((2 * i + 1).toInt32))] [(.int ((it (2 * i + 1)).toInt32)), (.int (i.toInt32)), (.ref o0)])) rfl (by rw [hml]; rfl) (Steps.refl _) (a := o0) (by rw [e34]; exact q37) q37' (argsL := [(.int (i.toInt32)), (.int ((it (2 * i + 1)).toInt32))]) (rest := []) (lenOf pd_2 rfl) rfl (by show 2 * 0 + _ ≤ _; exact Nat.le_of_eq rfl) (hb hby d9_95) (fun _ _ => ⟨rfl, e34, (by decide : 0 + 0 ≤ _), (by decide : 0 + 0 ≤ _)⟩)
              dsimp only [Pt.U, Pt.locs, Pt.cells, Pt.slots] at X37 l37 y37 z37 st37 hQ37
              subst y37 z37
              obtain ⟨rfl, N37q, Kc37, P37_0, P37_1⟩ := hQ37
              have N37 := Fr.app N30 N37q
              rw [← l37] at N37
              have F_items_o0_38 : Fld Z T37.heap o0 "com/example/lean_layers/leanlayers/phase/layering/IndexedHeap" "items" "[I" (.ref ti) := (F_items_o0).keep Kc37 (ninS ne_o0_ti (ninS ne_o0_tp nin0))
              have F_keys_o0_38 : Fld Z T37.heap o0 "com/example/lean_layers/leanlayers/phase/layering/IndexedHeap" "keys" "[J" (.ref tk) := (F_keys_o0).keep Kc37 (ninS ne_o0_ti (ninS ne_o0_tp nin0))
              have F_place_o0_38 : Fld Z T37.heap o0 "com/example/lean_layers/leanlayers/phase/layering/IndexedHeap" "place" "[I" (.ref tp) := (F_place_o0).keep Kc37 (ninS ne_o0_ti (ninS ne_o0_tp nin0))
              have E_o0_38 : Exa Z T37.heap o0 "com/example/lean_layers/leanlayers/phase/layering/IndexedHeap" := (E_o0).keep Kc37
              have F_size_o0_38 : Fld Z T37.heap o0 "com/example/lean_layers/leanlayers/phase/layering/IndexedHeap" "size" "I" (.int (n.toInt32)) := (F_size_o0).keep Kc37 (ninS ne_o0_ti (ninS ne_o0_tp nin0))
              have A_tk_38 : own_A Z T37.heap tk .long 4 (fun kk => (.long (ky kk))) := (A_tk).keep Kc37 (ninS (Ne.symm ne_ti_tk) (ninS ne_tk_tp nin0))
              have SZ39 : h0.size ≤ T37.heap.size := Nat.le_trans (Nat.le_refl _) Kc37.1
              have ZZ39 : n0 ≤ T37.heap.size := Nat.le_trans Z0 SZ39
              have K40 : Keep h0 T37.heap [ti, tp] := ((Keep.refl h0 [ti, tp])).trans Kc37 (allS (Or.inl (List.mem_of_getElem? (i := 0) rfl)) (allS (Or.inl (List.mem_of_getElem? (i := 1) rfl)) all0))
              have pre41 : ∀ t, Steps p.tables e below (T37.setTop (mkF m 9 #[.val (.ref o0), .val (.int ((2 * i + 1).toInt32)), .val (.int (xi.toInt32)), .val (.int (own_bfr (ky (it (2 * i + 1))) (ky xi) ((it (2 * i + 1)).toInt32) (xi.toInt32))), .val (.int ((2 * i + 1).toInt32))] [])) t → Steps p.tables e below (T0.setTop (mkF m 9 #[.val (.ref o0), .val (.int (i.toInt32)), .val (.int (xi.toInt32)), .val (.int sk), s4] [])) t := fun t k => pre31 t (by
                refine XS.ifNo X30.here hx rfl (hb hby d9_83) rfl ((if0 _ _).trans (feq hs32).1) ?_
                show Steps p.tables e below (T30.setTop (mkF m 86 #[.val (.ref o0), .val (.int (i.toInt32)), .val (.int (xi.toInt32)), .val (.int (own_bfr (ky (it (2 * i + 1))) (ky xi) ((it (2 * i + 1)).toInt32) (xi.toInt32))), .val (.int ((2 * i + 1).toInt32))] [])) _
                refine XS.aloadN X30.here hx rfl (hb hby d9_86) rfl rfl ?_
                show Steps p.tables e below (T30.setTop (mkF m 87 #[.val (.ref o0), .val (.int (i.toInt32)), .val (.int (xi.toInt32)), .val (.int (own_bfr (ky (it (2 * i + 1))) (ky xi) ((it (2 * i + 1)).toInt32) (xi.toInt32))), .val (.int ((2 * i + 1).toInt32))] [(.ref o0)])) _
                refine XS.iloadN X30.here hx rfl (hb hby d9_87) rfl ?_
                show Steps p.tables e below (T30.setTop (mkF m 88 #[.val (.ref o0), .val (.int (i.toInt32)), .val (.int (xi.toInt32)), .val (.int (own_bfr (ky (it (2 * i + 1))) (ky xi) ((it (2 * i + 1)).toInt32) (xi.toInt32))), .val (.int ((2 * i + 1).toInt32))] [(.int (i.toInt32)), (.ref o0)])) _
                refine XS.aloadN X30.here hx rfl (hb hby d9_88) rfl rfl ?_
                show Steps p.tables e below (T30.setTop (mkF m 89 #[.val (.ref o0), .val (.int (i.toInt32)), .val (.int (xi.toInt32)), .val (.int (own_bfr (ky (it (2 * i + 1))) (ky xi) ((it (2 * i + 1)).toInt32) (xi.toInt32))), .val (.int ((2 * i + 1).toInt32))] [(.ref o0), (.int (i.toInt32)), (.ref o0)])) _
                refine st34 _ ?_
                show Steps p.tables e below (T34.setTop (mkF m 92 #[.val (.ref o0), .val (.int (i.toInt32)), .val (.int (xi.toInt32)), .val (.int (own_bfr (ky (it (2 * i + 1))) (ky xi) ((it (2 * i + 1)).toInt32) (xi.toInt32))), .val (.int ((2 * i + 1).toInt32))] [(.ref ti), (.int (i.toInt32)), (.ref o0)])) _
                refine XS.iload X34.here hx rfl (hb hby d9_92) rfl ?_
                show Steps p.tables e below (T34.setTop (mkF m 94 #[.val (.ref o0), .val (.int (i.toInt32)), .val (.int (xi.toInt32)), .val (.int (own_bfr (ky (it (2 * i + 1))) (ky xi) ((it (2 * i + 1)).toInt32) (xi.toInt32))), .val (.int ((2 * i + 1).toInt32))] [(.int ((2 * i + 1).toInt32)), (.ref ti), (.int (i.toInt32)), (.ref o0)])) _
                refine X34.iaload hx (j := ((2 * i + 1).toInt32)) (v := (.int ((it (2 * i + 1)).toInt32))) (by rw [e34]; exact Ar35.1) (State.isArrayOf_alike hZ.alike Ar35.2.1) Ar35.2.2 (own_in Sz35 hi36) hl36 (g := (mkF m 94 #[.val (.ref o0), .val (.int (i.toInt32)), .val (.int (xi.toInt32)), .val (.int (own_bfr (ky (it (2 * i + 1))) (ky xi) ((it (2 * i + 1)).toInt32) (xi.toInt32))), .val (.int ((2 * i + 1).toInt32))] [(.int ((2 * i + 1).toInt32)), (.ref ti), (.int (i.toInt32)), (.ref o0)])) rfl rfl (hb hby d9_94) _ ?_
                show Steps p.tables e below (T34.setTop (mkF m 95 #[.val (.ref o0), .val (.int (i.toInt32)), .val (.int (xi.toInt32)), .val (.int (own_bfr (ky (it (2 * i + 1))) (ky xi) ((it (2 * i + 1)).toInt32) (xi.toInt32))), .val (.int ((2 * i + 1).toInt32))] [(.int ((it (2 * i + 1)).toInt32)), (.int (i.toInt32)), (.ref o0)])) _
                refine st37.trans ?_
                show Steps p.tables e below (T37.setTop (mkF m 98 #[.val (.ref o0), .val (.int (i.toInt32)), .val (.int (xi.toInt32)), .val (.int (own_bfr (ky (it (2 * i + 1))) (ky xi) ((it (2 * i + 1)).toInt32) (xi.toInt32))), .val (.int ((2 * i + 1).toInt32))] [])) _
                refine XS.iload X37.here hx rfl (hb hby d9_98) rfl ?_
                show Steps p.tables e below (T37.setTop (mkF m 100 #[.val (.ref o0), .val (.int (i.toInt32)), .val (.int (xi.toInt32)), .val (.int (own_bfr (ky (it (2 * i + 1))) (ky xi) ((it (2 * i + 1)).toInt32) (xi.toInt32))), .val (.int ((2 * i + 1).toInt32))] [(.int ((2 * i + 1).toInt32))])) _
                refine XS.istoreN X37.here hx rfl (hb hby d9_100) rfl (l' := #[.val (.ref o0), .val (.int ((2 * i + 1).toInt32)), .val (.int (xi.toInt32)), .val (.int (own_bfr (ky (it (2 * i + 1))) (ky xi) ((it (2 * i + 1)).toInt32) (xi.toInt32))), .val (.int ((2 * i + 1).toInt32))]) rfl ?_
                show Steps p.tables e below (T37.setTop (mkF m 101 #[.val (.ref o0), .val (.int ((2 * i + 1).toInt32)), .val (.int (xi.toInt32)), .val (.int (own_bfr (ky (it (2 * i + 1))) (ky xi) ((it (2 * i + 1)).toInt32) (xi.toInt32))), .val (.int ((2 * i + 1).toInt32))] [])) _
                refine XS.goto X37.here hx rfl (pc0 := 101) (pc' := 9) rfl (hb hby d9_101) (by decide) (by decide) ?_
                show Steps p.tables e below (T37.setTop (mkF m 9 #[.val (.ref o0), .val (.int ((2 * i + 1).toInt32)), .val (.int (xi.toInt32)), .val (.int (own_bfr (ky (it (2 * i + 1))) (ky xi) ((it (2 * i + 1)).toInt32) (xi.toInt32))), .val (.int ((2 * i + 1).toInt32))] [])) _
                exact k)
              obtain ⟨T1, h1, locs1, i1, f1, g1, k1, s1, Y1, Y2, Y3, Y4, Y5, Y6, Y7, Y8⟩ := ih (n - (2 * i + 1)) (by omega) (2 * i + 1) (own_u it i (it (2 * i + 1))) (own_u pl (it (2 * i + 1)) (i + 1)) (own_bfr (ky (it (2 * i + 1))) (ky xi) ((it (2 * i + 1)).toInt32) (xi.toInt32)) (.val (.int ((2 * i + 1).toInt32))) _ _ _ rfl (One.val rfl) (own_HO_mv hH (a := (2 * i + 1)) (by omega) (by omega)) X37 rfl N37 ZZ39 F_items_o0_38 F_keys_o0_38 F_place_o0_38 E_o0_38 F_size_o0_38 P37_0 A_tk_38 P37_1
              exact ⟨T1, h1, locs1, i1, f1, g1, k1, s1, Y1, Y2, Y3, K40.trans Y4 (fun x hx => Or.inl hx), Y5, Y6, Y7, fun t k => pre41 t (Y8 t k)⟩
          · have pre42 : ∀ t, Steps p.tables e below (T24.setTop (mkF m 69 #[.val (.ref o0), .val (.int (i.toInt32)), .val (.int (xi.toInt32)), .val (.int sk), .val (.int (((2 * i + 1).toInt32) + (1 : Int32)))] [])) t → Steps p.tables e below (T0.setTop (mkF m 9 #[.val (.ref o0), .val (.int (i.toInt32)), .val (.int (xi.toInt32)), .val (.int sk), s4] [])) t := fun t k => pre25 t (by
              refine XS.ifNo X24.here hx rfl (hb hby d9_63) rfl ((if0 _ _).trans (feq hs26).1) ?_
              show Steps p.tables e below (T24.setTop (mkF m 66 #[.val (.ref o0), .val (.int (i.toInt32)), .val (.int (xi.toInt32)), .val (.int sk), .val (.int ((2 * i + 1).toInt32))] [])) _
              refine XS.iinc X24.here hx rfl (hb hby d9_66) rfl (l' := #[.val (.ref o0), .val (.int (i.toInt32)), .val (.int (xi.toInt32)), .val (.int sk), .val (.int (((2 * i + 1).toInt32) + (1 : Int32)))]) rfl ?_
              show Steps p.tables e below (T24.setTop (mkF m 69 #[.val (.ref o0), .val (.int (i.toInt32)), .val (.int (xi.toInt32)), .val (.int sk), .val (.int (((2 * i + 1).toInt32) + (1 : Int32)))] [])) _
              exact k)
            have hre43 : (((2 * i + 1).toInt32) + (1 : Int32)) = ((2 * i + 2).toInt32) := own_inc (2 * i + 1)
            have pre43 : ∀ t, Steps p.tables e below (T24.setTop (mkF m 69 #[.val (.ref o0), .val (.int (i.toInt32)), .val (.int (xi.toInt32)), .val (.int sk), .val (.int ((2 * i + 2).toInt32))] [])) t → Steps p.tables e below (T0.setTop (mkF m 9 #[.val (.ref o0), .val (.int (i.toInt32)), .val (.int (xi.toInt32)), .val (.int sk), s4] [])) t := fun t k => pre42 t (by rw [hre43]; exact k)
            have hcn : (2 * i + 2) < n := by omega
            have hac : it (2 * i + 2) < 4 := own_HO_it hH hcn (by omega)
            obtain ⟨T44, X44, e44, st44⟩ := getF X24 hx hZ hown (host := "") (Or.inl (hw _ (List.mem_of_getElem? (i := 10) rfl))) Via.refl hh24 F_items_o0 (g := (mkF m 71 #[.val (.ref o0), .val (.int (i.toInt32)), .val (.int (xi.toInt32)), .val (.int sk), .val (.int ((2 * i + 2).toInt32))] [(.ref o0), (.ref o0)])) rfl rfl (hb hby d9_71)
            have qa45 := A_ti
            obtain ⟨c45, Ar45, Sz45, H45⟩ := qa45
            have hi46 : 0 ≤ (((2 * i + 2).toInt32) : Int32).toInt ∧ (((2 * i + 2).toInt32) : Int32).toInt < (4 : Nat) := (own_bd (show (2 * i + 2) < 4 by omega) (by decide))
            have hl46 : c45.slots[(((2 * i + 2).toInt32) : Int32).toNatClampNeg]? = some (.int ((it (2 * i + 2)).toInt32)) := by rw [show ((it (2 * i + 2)).toInt32) = (((it (((2 * i + 2).toInt32) : Int32).toNatClampNeg).toInt32)) from by rw [own_tn (show (2 * i + 2) < 2147483648 by omega)]]; exact H45 _ (own_ix hi46)
            obtain ⟨cq47, q47, q47'⟩ := (E_o0).cell
            obtain ⟨_, _, ⟨T47, L47, k47, n47⟩, -, X47, ⟨Lc47, hQ47, l47, y47, z47⟩, st47⟩ := X44.privateBack hx (y := (⟨"com/example/lean_layers/leanlayers/phase/layering/IndexedHeap", "before", "(II)Z"⟩ : MethodName)) hown (mvT hZ (hw _ (List.mem_of_getElem? (i := 66) rfl))) (mvT hZ (hw _ (List.mem_of_getElem? (i := 67) rfl))) (own_selp (y := (⟨"com/example/lean_layers/leanlayers/phase/layering/IndexedHeap", "before", "(II)Z"⟩ : MethodName)) (mvT hZ (hw _ (List.mem_of_getElem? (i := 1) rfl))) (Cond.privateMethod_at (mvP hZ (hw _ (List.mem_of_getElem? (i := 68) rfl)) (args := #[]))) (mvT hZ (hw _ (List.mem_of_getElem? (i := 67) rfl))) (by decide)) (Cond.privateMethod_at (mvP hZ (hw _ (List.mem_of_getElem? (i := 68) rfl)) (args := #[]))) (mvT hZ (hw _ (List.mem_of_getElem? (i := 69) rfl))) (by decide) (backOf (W := 0) (rm13 l Z a0 hw [] o0 ((it (2 * i + 2)).toInt32) (xi.toInt32) tk ky (it (2 * i + 2)) xi h0 n0 Z0 F_keys_o0 A_tk rfl rfl hac hxc) hZ (hw _ (List.mem_of_getElem? (i := 69) rfl)) (hw _ (List.mem_of_getElem? (i := 2) rfl)) (by decide) (by decide)) (g := (mkF m 78 #[.val (.ref o0), .val (.int (i.toInt32)), .val (.int (xi.toInt32)), .val (.int sk), .val (.int ((2 * i + 2).toInt32))] [(.int (xi.toInt32)), (.int ((it (2 * i + 2)).toInt32)), (.ref o0)])) rfl (by rw [hml]; rfl) (Steps.refl _) (a := o0) (by rw [e44]; exact q47) q47' (argsL := [(.int ((it (2 * i + 2)).toInt32)), (.int (xi.toInt32))]) (rest := []) (lenOf pd_1 rfl) rfl (by show 2 * 0 + _ ≤ _; exact Nat.le_of_eq rfl) (hb hby d9_78) (fun _ _ => ⟨rfl, e44, (by decide : 0 + 0 ≤ _), (by decide : 0 + 0 ≤ _)⟩)
            dsimp only [Pt.U, Pt.locs, Pt.cells, Pt.slots] at X47 l47 y47 z47 st47 hQ47
            subst y47 z47
            obtain ⟨rfl, N47q, hh47⟩ := hQ47
            have N47 := Fr.app N24 N47q
            rw [← l47] at N47
            have pre48 : ∀ t, Steps p.tables e below (T47.setTop (mkF m 83 #[.val (.ref o0), .val (.int (i.toInt32)), .val (.int (xi.toInt32)), .val (.int (own_bfr (ky (it (2 * i + 2))) (ky xi) ((it (2 * i + 2)).toInt32) (xi.toInt32))), .val (.int ((2 * i + 2).toInt32))] [(.int (own_bfr (ky (it (2 * i + 2))) (ky xi) ((it (2 * i + 2)).toInt32) (xi.toInt32)))])) t → Steps p.tables e below (T0.setTop (mkF m 9 #[.val (.ref o0), .val (.int (i.toInt32)), .val (.int (xi.toInt32)), .val (.int sk), s4] [])) t := fun t k => pre43 t (by
              show Steps p.tables e below (T24.setTop (mkF m 69 #[.val (.ref o0), .val (.int (i.toInt32)), .val (.int (xi.toInt32)), .val (.int sk), .val (.int ((2 * i + 2).toInt32))] [])) _
              refine XS.aloadN X24.here hx rfl (hb hby d9_69) rfl rfl ?_
              show Steps p.tables e below (T24.setTop (mkF m 70 #[.val (.ref o0), .val (.int (i.toInt32)), .val (.int (xi.toInt32)), .val (.int sk), .val (.int ((2 * i + 2).toInt32))] [(.ref o0)])) _
              refine XS.aloadN X24.here hx rfl (hb hby d9_70) rfl rfl ?_
              show Steps p.tables e below (T24.setTop (mkF m 71 #[.val (.ref o0), .val (.int (i.toInt32)), .val (.int (xi.toInt32)), .val (.int sk), .val (.int ((2 * i + 2).toInt32))] [(.ref o0), (.ref o0)])) _
              refine st44 _ ?_
              show Steps p.tables e below (T44.setTop (mkF m 74 #[.val (.ref o0), .val (.int (i.toInt32)), .val (.int (xi.toInt32)), .val (.int sk), .val (.int ((2 * i + 2).toInt32))] [(.ref ti), (.ref o0)])) _
              refine XS.iload X44.here hx rfl (hb hby d9_74) rfl ?_
              show Steps p.tables e below (T44.setTop (mkF m 76 #[.val (.ref o0), .val (.int (i.toInt32)), .val (.int (xi.toInt32)), .val (.int sk), .val (.int ((2 * i + 2).toInt32))] [(.int ((2 * i + 2).toInt32)), (.ref ti), (.ref o0)])) _
              refine X44.iaload hx (j := ((2 * i + 2).toInt32)) (v := (.int ((it (2 * i + 2)).toInt32))) (by rw [e44]; exact Ar45.1) (State.isArrayOf_alike hZ.alike Ar45.2.1) Ar45.2.2 (own_in Sz45 hi46) hl46 (g := (mkF m 76 #[.val (.ref o0), .val (.int (i.toInt32)), .val (.int (xi.toInt32)), .val (.int sk), .val (.int ((2 * i + 2).toInt32))] [(.int ((2 * i + 2).toInt32)), (.ref ti), (.ref o0)])) rfl rfl (hb hby d9_76) _ ?_
              show Steps p.tables e below (T44.setTop (mkF m 77 #[.val (.ref o0), .val (.int (i.toInt32)), .val (.int (xi.toInt32)), .val (.int sk), .val (.int ((2 * i + 2).toInt32))] [(.int ((it (2 * i + 2)).toInt32)), (.ref o0)])) _
              refine XS.iloadN X44.here hx rfl (hb hby d9_77) rfl ?_
              show Steps p.tables e below (T44.setTop (mkF m 78 #[.val (.ref o0), .val (.int (i.toInt32)), .val (.int (xi.toInt32)), .val (.int sk), .val (.int ((2 * i + 2).toInt32))] [(.int (xi.toInt32)), (.int ((it (2 * i + 2)).toInt32)), (.ref o0)])) _
              refine st47.trans ?_
              show Steps p.tables e below (T47.setTop (mkF m 81 #[.val (.ref o0), .val (.int (i.toInt32)), .val (.int (xi.toInt32)), .val (.int sk), .val (.int ((2 * i + 2).toInt32))] [(.int (own_bfr (ky (it (2 * i + 2))) (ky xi) ((it (2 * i + 2)).toInt32) (xi.toInt32)))])) _
              refine XS.istoreN X47.here hx rfl (hb hby d9_81) rfl (l' := #[.val (.ref o0), .val (.int (i.toInt32)), .val (.int (xi.toInt32)), .val (.int (own_bfr (ky (it (2 * i + 2))) (ky xi) ((it (2 * i + 2)).toInt32) (xi.toInt32))), .val (.int ((2 * i + 2).toInt32))]) rfl ?_
              show Steps p.tables e below (T47.setTop (mkF m 82 #[.val (.ref o0), .val (.int (i.toInt32)), .val (.int (xi.toInt32)), .val (.int (own_bfr (ky (it (2 * i + 2))) (ky xi) ((it (2 * i + 2)).toInt32) (xi.toInt32))), .val (.int ((2 * i + 2).toInt32))] [])) _
              refine XS.iloadN X47.here hx rfl (hb hby d9_82) rfl ?_
              show Steps p.tables e below (T47.setTop (mkF m 83 #[.val (.ref o0), .val (.int (i.toInt32)), .val (.int (xi.toInt32)), .val (.int (own_bfr (ky (it (2 * i + 2))) (ky xi) ((it (2 * i + 2)).toInt32) (xi.toInt32))), .val (.int ((2 * i + 2).toInt32))] [(.int (own_bfr (ky (it (2 * i + 2))) (ky xi) ((it (2 * i + 2)).toInt32) (xi.toInt32)))])) _
              exact k)
            by_cases hs49 : (own_bfr (ky (it (2 * i + 2))) (ky xi) ((it (2 * i + 2)).toInt32) (xi.toInt32)) = (0 : Int32)
            · have pre50 : ∀ t, Steps p.tables e below (T47.setTop (mkF m 104 #[.val (.ref o0), .val (.int (i.toInt32)), .val (.int (xi.toInt32)), .val (.int (own_bfr (ky (it (2 * i + 2))) (ky xi) ((it (2 * i + 2)).toInt32) (xi.toInt32))), .val (.int ((2 * i + 2).toInt32))] [])) t → Steps p.tables e below (T0.setTop (mkF m 9 #[.val (.ref o0), .val (.int (i.toInt32)), .val (.int (xi.toInt32)), .val (.int sk), s4] [])) t := fun t k => pre48 t (by
                refine XS.ifYes X47.here hx rfl (pc0 := 83) (pc' := 101) rfl (hb hby d9_83) rfl ((if0 _ _).trans (teq hs49).1) (by decide) (by decide) ?_
                show Steps p.tables e below (T47.setTop (mkF m 101 #[.val (.ref o0), .val (.int (i.toInt32)), .val (.int (xi.toInt32)), .val (.int (own_bfr (ky (it (2 * i + 2))) (ky xi) ((it (2 * i + 2)).toInt32) (xi.toInt32))), .val (.int ((2 * i + 2).toInt32))] [])) _
                refine XS.goto X47.here hx rfl (pc0 := 101) (pc' := 9) rfl (hb hby d9_101) (by decide) (by decide) ?_
                show Steps p.tables e below (T47.setTop (mkF m 9 #[.val (.ref o0), .val (.int (i.toInt32)), .val (.int (xi.toInt32)), .val (.int (own_bfr (ky (it (2 * i + 2))) (ky xi) ((it (2 * i + 2)).toInt32) (xi.toInt32))), .val (.int ((2 * i + 2).toInt32))] [])) _
                refine XS.iloadN X47.here hx rfl (hb hby d9_9) rfl ?_
                show Steps p.tables e below (T47.setTop (mkF m 10 #[.val (.ref o0), .val (.int (i.toInt32)), .val (.int (xi.toInt32)), .val (.int (own_bfr (ky (it (2 * i + 2))) (ky xi) ((it (2 * i + 2)).toInt32) (xi.toInt32))), .val (.int ((2 * i + 2).toInt32))] [(.int (own_bfr (ky (it (2 * i + 2))) (ky xi) ((it (2 * i + 2)).toInt32) (xi.toInt32)))])) _
                refine XS.ifYes X47.here hx rfl (pc0 := 10) (pc' := 104) rfl (hb hby d9_10) rfl ((if0 _ _).trans (teq hs49).1) (by decide) (by decide) ?_
                show Steps p.tables e below (T47.setTop (mkF m 104 #[.val (.ref o0), .val (.int (i.toInt32)), .val (.int (xi.toInt32)), .val (.int (own_bfr (ky (it (2 * i + 2))) (ky xi) ((it (2 * i + 2)).toInt32) (xi.toInt32))), .val (.int ((2 * i + 2).toInt32))] [])) _
                exact k)
              exact ⟨_, _, _, i, it, pl, (own_bfr (ky (it (2 * i + 2))) (ky xi) ((it (2 * i + 2)).toInt32) (xi.toInt32)), _, X47, hh47, N47, (Keep.refl h0 [ti, tp]), A_ti, A_tp, hH, pre50⟩
            · obtain ⟨T51, X51, e51, st51⟩ := getF X47 hx hZ hown (host := "") (Or.inl (hw _ (List.mem_of_getElem? (i := 10) rfl))) Via.refl hh47 F_items_o0 (g := (mkF m 89 #[.val (.ref o0), .val (.int (i.toInt32)), .val (.int (xi.toInt32)), .val (.int (own_bfr (ky (it (2 * i + 2))) (ky xi) ((it (2 * i + 2)).toInt32) (xi.toInt32))), .val (.int ((2 * i + 2).toInt32))] [(.ref o0), (.int (i.toInt32)), (.ref o0)])) rfl rfl (hb hby d9_89)
              have qa52 := A_ti
              obtain ⟨c52, Ar52, Sz52, H52⟩ := qa52
              have hi53 : 0 ≤ (((2 * i + 2).toInt32) : Int32).toInt ∧ (((2 * i + 2).toInt32) : Int32).toInt < (4 : Nat) := (own_bd (show (2 * i + 2) < 4 by omega) (by decide))
              have hl53 : c52.slots[(((2 * i + 2).toInt32) : Int32).toNatClampNeg]? = some (.int ((it (2 * i + 2)).toInt32)) := by rw [show ((it (2 * i + 2)).toInt32) = (((it (((2 * i + 2).toInt32) : Int32).toNatClampNeg).toInt32)) from by rw [own_tn (show (2 * i + 2) < 2147483648 by omega)]]; exact H52 _ (own_ix hi53)
              obtain ⟨cq54, q54, q54'⟩ := (E_o0).cell
              obtain ⟨_, _, ⟨T54, L54, k54, n54⟩, -, X54, ⟨Lc54, hQ54, l54, y54, z54⟩, st54⟩ := X51.privateBack hx (y := (⟨"com/example/lean_layers/leanlayers/phase/layering/IndexedHeap", "setAt", "(II)V"⟩ : MethodName)) hown (mvT hZ (hw _ (List.mem_of_getElem? (i := 42) rfl))) (mvT hZ (hw _ (List.mem_of_getElem? (i := 43) rfl))) (own_selp (y := (⟨"com/example/lean_layers/leanlayers/phase/layering/IndexedHeap", "setAt", "(II)V"⟩ : MethodName)) (mvT hZ (hw _ (List.mem_of_getElem? (i := 1) rfl))) (Cond.privateMethod_at (mvP hZ (hw _ (List.mem_of_getElem? (i := 44) rfl)) (args := #[]))) (mvT hZ (hw _ (List.mem_of_getElem? (i := 43) rfl))) (by decide)) (Cond.privateMethod_at (mvP hZ (hw _ (List.mem_of_getElem? (i := 44) rfl)) (args := #[]))) (mvT hZ (hw _ (List.mem_of_getElem? (i := 45) rfl))) (by decide) (backOf (W := 0) (rm8 l Z a0 hw [] o0 (i.toInt32) ((it (2 * i + 2)).toInt32) ti tp it pl i (it (2 * i + 2)) h0 n0 Z0 F_items_o0 F_place_o0 E_o0 A_ti A_tp g_ti g_tp ne_o0_ti ne_o0_tp ne_ti_tp rfl rfl (by omega) hac) hZ (hw _ (List.mem_of_getElem? (i := 45) rfl)) (hw _ (List.mem_of_getElem? (i := 2) rfl)) (by decide) (by decide)) (g := (mkF m 95 #[.val (.ref o0), .val (.int (i.toInt32)), .val (.int (xi.toInt32)), .val (.int (own_bfr (ky (it (2 * i + 2))) (ky xi) ((it (2 * i + 2)).toInt32) (xi.toInt32))), .val (.int ((2 * i + 2).toInt32))] [(.int ((it (2 * i + 2)).toInt32)), (.int (i.toInt32)), (.ref o0)])) rfl (by rw [hml]; rfl) (Steps.refl _) (a := o0) (by rw [e51]; exact q54) q54' (argsL := [(.int (i.toInt32)), (.int ((it (2 * i + 2)).toInt32))]) (rest := []) (lenOf pd_2 rfl) rfl (by show 2 * 0 + _ ≤ _; exact Nat.le_of_eq rfl) (hb hby d9_95) (fun _ _ => ⟨rfl, e51, (by decide : 0 + 0 ≤ _), (by decide : 0 + 0 ≤ _)⟩)
              dsimp only [Pt.U, Pt.locs, Pt.cells, Pt.slots] at X54 l54 y54 z54 st54 hQ54
              subst y54 z54
              obtain ⟨rfl, N54q, Kc54, P54_0, P54_1⟩ := hQ54
              have N54 := Fr.app N47 N54q
              rw [← l54] at N54
              have F_items_o0_55 : Fld Z T54.heap o0 "com/example/lean_layers/leanlayers/phase/layering/IndexedHeap" "items" "[I" (.ref ti) := (F_items_o0).keep Kc54 (ninS ne_o0_ti (ninS ne_o0_tp nin0))
              have F_keys_o0_55 : Fld Z T54.heap o0 "com/example/lean_layers/leanlayers/phase/layering/IndexedHeap" "keys" "[J" (.ref tk) := (F_keys_o0).keep Kc54 (ninS ne_o0_ti (ninS ne_o0_tp nin0))
              have F_place_o0_55 : Fld Z T54.heap o0 "com/example/lean_layers/leanlayers/phase/layering/IndexedHeap" "place" "[I" (.ref tp) := (F_place_o0).keep Kc54 (ninS ne_o0_ti (ninS ne_o0_tp nin0))
              have E_o0_55 : Exa Z T54.heap o0 "com/example/lean_layers/leanlayers/phase/layering/IndexedHeap" := (E_o0).keep Kc54
              have F_size_o0_55 : Fld Z T54.heap o0 "com/example/lean_layers/leanlayers/phase/layering/IndexedHeap" "size" "I" (.int (n.toInt32)) := (F_size_o0).keep Kc54 (ninS ne_o0_ti (ninS ne_o0_tp nin0))
              have A_tk_55 : own_A Z T54.heap tk .long 4 (fun kk => (.long (ky kk))) := (A_tk).keep Kc54 (ninS (Ne.symm ne_ti_tk) (ninS ne_tk_tp nin0))
              have SZ56 : h0.size ≤ T54.heap.size := Nat.le_trans (Nat.le_refl _) Kc54.1
              have ZZ56 : n0 ≤ T54.heap.size := Nat.le_trans Z0 SZ56
              have K57 : Keep h0 T54.heap [ti, tp] := ((Keep.refl h0 [ti, tp])).trans Kc54 (allS (Or.inl (List.mem_of_getElem? (i := 0) rfl)) (allS (Or.inl (List.mem_of_getElem? (i := 1) rfl)) all0))
              have pre58 : ∀ t, Steps p.tables e below (T54.setTop (mkF m 9 #[.val (.ref o0), .val (.int ((2 * i + 2).toInt32)), .val (.int (xi.toInt32)), .val (.int (own_bfr (ky (it (2 * i + 2))) (ky xi) ((it (2 * i + 2)).toInt32) (xi.toInt32))), .val (.int ((2 * i + 2).toInt32))] [])) t → Steps p.tables e below (T0.setTop (mkF m 9 #[.val (.ref o0), .val (.int (i.toInt32)), .val (.int (xi.toInt32)), .val (.int sk), s4] [])) t := fun t k => pre48 t (by
                refine XS.ifNo X47.here hx rfl (hb hby d9_83) rfl ((if0 _ _).trans (feq hs49).1) ?_
                show Steps p.tables e below (T47.setTop (mkF m 86 #[.val (.ref o0), .val (.int (i.toInt32)), .val (.int (xi.toInt32)), .val (.int (own_bfr (ky (it (2 * i + 2))) (ky xi) ((it (2 * i + 2)).toInt32) (xi.toInt32))), .val (.int ((2 * i + 2).toInt32))] [])) _
                refine XS.aloadN X47.here hx rfl (hb hby d9_86) rfl rfl ?_
                show Steps p.tables e below (T47.setTop (mkF m 87 #[.val (.ref o0), .val (.int (i.toInt32)), .val (.int (xi.toInt32)), .val (.int (own_bfr (ky (it (2 * i + 2))) (ky xi) ((it (2 * i + 2)).toInt32) (xi.toInt32))), .val (.int ((2 * i + 2).toInt32))] [(.ref o0)])) _
                refine XS.iloadN X47.here hx rfl (hb hby d9_87) rfl ?_
                show Steps p.tables e below (T47.setTop (mkF m 88 #[.val (.ref o0), .val (.int (i.toInt32)), .val (.int (xi.toInt32)), .val (.int (own_bfr (ky (it (2 * i + 2))) (ky xi) ((it (2 * i + 2)).toInt32) (xi.toInt32))), .val (.int ((2 * i + 2).toInt32))] [(.int (i.toInt32)), (.ref o0)])) _
                refine XS.aloadN X47.here hx rfl (hb hby d9_88) rfl rfl ?_
                show Steps p.tables e below (T47.setTop (mkF m 89 #[.val (.ref o0), .val (.int (i.toInt32)), .val (.int (xi.toInt32)), .val (.int (own_bfr (ky (it (2 * i + 2))) (ky xi) ((it (2 * i + 2)).toInt32) (xi.toInt32))), .val (.int ((2 * i + 2).toInt32))] [(.ref o0), (.int (i.toInt32)), (.ref o0)])) _
                refine st51 _ ?_
                show Steps p.tables e below (T51.setTop (mkF m 92 #[.val (.ref o0), .val (.int (i.toInt32)), .val (.int (xi.toInt32)), .val (.int (own_bfr (ky (it (2 * i + 2))) (ky xi) ((it (2 * i + 2)).toInt32) (xi.toInt32))), .val (.int ((2 * i + 2).toInt32))] [(.ref ti), (.int (i.toInt32)), (.ref o0)])) _
                refine XS.iload X51.here hx rfl (hb hby d9_92) rfl ?_
                show Steps p.tables e below (T51.setTop (mkF m 94 #[.val (.ref o0), .val (.int (i.toInt32)), .val (.int (xi.toInt32)), .val (.int (own_bfr (ky (it (2 * i + 2))) (ky xi) ((it (2 * i + 2)).toInt32) (xi.toInt32))), .val (.int ((2 * i + 2).toInt32))] [(.int ((2 * i + 2).toInt32)), (.ref ti), (.int (i.toInt32)), (.ref o0)])) _
                refine X51.iaload hx (j := ((2 * i + 2).toInt32)) (v := (.int ((it (2 * i + 2)).toInt32))) (by rw [e51]; exact Ar52.1) (State.isArrayOf_alike hZ.alike Ar52.2.1) Ar52.2.2 (own_in Sz52 hi53) hl53 (g := (mkF m 94 #[.val (.ref o0), .val (.int (i.toInt32)), .val (.int (xi.toInt32)), .val (.int (own_bfr (ky (it (2 * i + 2))) (ky xi) ((it (2 * i + 2)).toInt32) (xi.toInt32))), .val (.int ((2 * i + 2).toInt32))] [(.int ((2 * i + 2).toInt32)), (.ref ti), (.int (i.toInt32)), (.ref o0)])) rfl rfl (hb hby d9_94) _ ?_
                show Steps p.tables e below (T51.setTop (mkF m 95 #[.val (.ref o0), .val (.int (i.toInt32)), .val (.int (xi.toInt32)), .val (.int (own_bfr (ky (it (2 * i + 2))) (ky xi) ((it (2 * i + 2)).toInt32) (xi.toInt32))), .val (.int ((2 * i + 2).toInt32))] [(.int ((it (2 * i + 2)).toInt32)), (.int (i.toInt32)), (.ref o0)])) _
                refine st54.trans ?_
                show Steps p.tables e below (T54.setTop (mkF m 98 #[.val (.ref o0), .val (.int (i.toInt32)), .val (.int (xi.toInt32)), .val (.int (own_bfr (ky (it (2 * i + 2))) (ky xi) ((it (2 * i + 2)).toInt32) (xi.toInt32))), .val (.int ((2 * i + 2).toInt32))] [])) _
                refine XS.iload X54.here hx rfl (hb hby d9_98) rfl ?_
                show Steps p.tables e below (T54.setTop (mkF m 100 #[.val (.ref o0), .val (.int (i.toInt32)), .val (.int (xi.toInt32)), .val (.int (own_bfr (ky (it (2 * i + 2))) (ky xi) ((it (2 * i + 2)).toInt32) (xi.toInt32))), .val (.int ((2 * i + 2).toInt32))] [(.int ((2 * i + 2).toInt32))])) _
                refine XS.istoreN X54.here hx rfl (hb hby d9_100) rfl (l' := #[.val (.ref o0), .val (.int ((2 * i + 2).toInt32)), .val (.int (xi.toInt32)), .val (.int (own_bfr (ky (it (2 * i + 2))) (ky xi) ((it (2 * i + 2)).toInt32) (xi.toInt32))), .val (.int ((2 * i + 2).toInt32))]) rfl ?_
                show Steps p.tables e below (T54.setTop (mkF m 101 #[.val (.ref o0), .val (.int ((2 * i + 2).toInt32)), .val (.int (xi.toInt32)), .val (.int (own_bfr (ky (it (2 * i + 2))) (ky xi) ((it (2 * i + 2)).toInt32) (xi.toInt32))), .val (.int ((2 * i + 2).toInt32))] [])) _
                refine XS.goto X54.here hx rfl (pc0 := 101) (pc' := 9) rfl (hb hby d9_101) (by decide) (by decide) ?_
                show Steps p.tables e below (T54.setTop (mkF m 9 #[.val (.ref o0), .val (.int ((2 * i + 2).toInt32)), .val (.int (xi.toInt32)), .val (.int (own_bfr (ky (it (2 * i + 2))) (ky xi) ((it (2 * i + 2)).toInt32) (xi.toInt32))), .val (.int ((2 * i + 2).toInt32))] [])) _
                exact k)
              obtain ⟨T1, h1, locs1, i1, f1, g1, k1, s1, Y1, Y2, Y3, Y4, Y5, Y6, Y7, Y8⟩ := ih (n - (2 * i + 2)) (by omega) (2 * i + 2) (own_u it i (it (2 * i + 2))) (own_u pl (it (2 * i + 2)) (i + 1)) (own_bfr (ky (it (2 * i + 2))) (ky xi) ((it (2 * i + 2)).toInt32) (xi.toInt32)) (.val (.int ((2 * i + 2).toInt32))) _ _ _ rfl (One.val rfl) (own_HO_mv hH (a := (2 * i + 2)) (by omega) (by omega)) X54 rfl N54 ZZ56 F_items_o0_55 F_keys_o0_55 F_place_o0_55 E_o0_55 F_size_o0_55 P54_0 A_tk_55 P54_1
              exact ⟨T1, h1, locs1, i1, f1, g1, k1, s1, Y1, Y2, Y3, K57.trans Y4 (fun x hx => Or.inl hx), Y5, Y6, Y7, fun t k => pre58 t (Y8 t k)⟩
        · have hcn : (2 * i + 1) < n := by omega
          have hac : it (2 * i + 1) < 4 := own_HO_it hH hcn (by omega)
          obtain ⟨T59, X59, e59, st59⟩ := getF X13 hx hZ hown (host := "") (Or.inl (hw _ (List.mem_of_getElem? (i := 10) rfl))) Via.refl e13 F_items_o0 (g := (mkF m 71 #[.val (.ref o0), .val (.int (i.toInt32)), .val (.int (xi.toInt32)), .val (.int sk), .val (.int ((2 * i + 1).toInt32))] [(.ref o0), (.ref o0)])) rfl rfl (hb hby d9_71)
          have qa60 := A_ti
          obtain ⟨c60, Ar60, Sz60, H60⟩ := qa60
          have hi61 : 0 ≤ (((2 * i + 1).toInt32) : Int32).toInt ∧ (((2 * i + 1).toInt32) : Int32).toInt < (4 : Nat) := (own_bd (show (2 * i + 1) < 4 by omega) (by decide))
          have hl61 : c60.slots[(((2 * i + 1).toInt32) : Int32).toNatClampNeg]? = some (.int ((it (2 * i + 1)).toInt32)) := by rw [show ((it (2 * i + 1)).toInt32) = (((it (((2 * i + 1).toInt32) : Int32).toNatClampNeg).toInt32)) from by rw [own_tn (show (2 * i + 1) < 2147483648 by omega)]]; exact H60 _ (own_ix hi61)
          obtain ⟨cq62, q62, q62'⟩ := (E_o0).cell
          obtain ⟨_, _, ⟨T62, L62, k62, n62⟩, -, X62, ⟨Lc62, hQ62, l62, y62, z62⟩, st62⟩ := X59.privateBack hx (y := (⟨"com/example/lean_layers/leanlayers/phase/layering/IndexedHeap", "before", "(II)Z"⟩ : MethodName)) hown (mvT hZ (hw _ (List.mem_of_getElem? (i := 66) rfl))) (mvT hZ (hw _ (List.mem_of_getElem? (i := 67) rfl))) (own_selp (y := (⟨"com/example/lean_layers/leanlayers/phase/layering/IndexedHeap", "before", "(II)Z"⟩ : MethodName)) (mvT hZ (hw _ (List.mem_of_getElem? (i := 1) rfl))) (Cond.privateMethod_at (mvP hZ (hw _ (List.mem_of_getElem? (i := 68) rfl)) (args := #[]))) (mvT hZ (hw _ (List.mem_of_getElem? (i := 67) rfl))) (by decide)) (Cond.privateMethod_at (mvP hZ (hw _ (List.mem_of_getElem? (i := 68) rfl)) (args := #[]))) (mvT hZ (hw _ (List.mem_of_getElem? (i := 69) rfl))) (by decide) (backOf (W := 0) (rm13 l Z a0 hw [] o0 ((it (2 * i + 1)).toInt32) (xi.toInt32) tk ky (it (2 * i + 1)) xi h0 n0 Z0 F_keys_o0 A_tk rfl rfl hac hxc) hZ (hw _ (List.mem_of_getElem? (i := 69) rfl)) (hw _ (List.mem_of_getElem? (i := 2) rfl)) (by decide) (by decide)) (g := (mkF m 78 #[.val (.ref o0), .val (.int (i.toInt32)), .val (.int (xi.toInt32)), .val (.int sk), .val (.int ((2 * i + 1).toInt32))] [(.int (xi.toInt32)), (.int ((it (2 * i + 1)).toInt32)), (.ref o0)])) rfl (by rw [hml]; rfl) (Steps.refl _) (a := o0) (by rw [e59]; exact q62) q62' (argsL := [(.int ((it (2 * i + 1)).toInt32)), (.int (xi.toInt32))]) (rest := []) (lenOf pd_1 rfl) rfl (by show 2 * 0 + _ ≤ _; exact Nat.le_of_eq rfl) (hb hby d9_78) (fun _ _ => ⟨rfl, e59, (by decide : 0 + 0 ≤ _), (by decide : 0 + 0 ≤ _)⟩)
          dsimp only [Pt.U, Pt.locs, Pt.cells, Pt.slots] at X62 l62 y62 z62 st62 hQ62
          subst y62 z62
          obtain ⟨rfl, N62q, hh62⟩ := hQ62
          have N62 := Fr.app N0 N62q
          rw [← l62] at N62
          have pre63 : ∀ t, Steps p.tables e below (T62.setTop (mkF m 83 #[.val (.ref o0), .val (.int (i.toInt32)), .val (.int (xi.toInt32)), .val (.int (own_bfr (ky (it (2 * i + 1))) (ky xi) ((it (2 * i + 1)).toInt32) (xi.toInt32))), .val (.int ((2 * i + 1).toInt32))] [(.int (own_bfr (ky (it (2 * i + 1))) (ky xi) ((it (2 * i + 1)).toInt32) (xi.toInt32)))])) t → Steps p.tables e below (T0.setTop (mkF m 9 #[.val (.ref o0), .val (.int (i.toInt32)), .val (.int (xi.toInt32)), .val (.int sk), s4] [])) t := fun t k => pre14 t (by
            refine XS.icmpYes X13.here hx rfl (pc0 := 40) (pc' := 69) rfl (hb hby d9_40) rfl (flt hs15).2.1 (by decide) (by decide) ?_
            show Steps p.tables e below (T13.setTop (mkF m 69 #[.val (.ref o0), .val (.int (i.toInt32)), .val (.int (xi.toInt32)), .val (.int sk), .val (.int ((2 * i + 1).toInt32))] [])) _
            refine XS.aloadN X13.here hx rfl (hb hby d9_69) rfl rfl ?_
            show Steps p.tables e below (T13.setTop (mkF m 70 #[.val (.ref o0), .val (.int (i.toInt32)), .val (.int (xi.toInt32)), .val (.int sk), .val (.int ((2 * i + 1).toInt32))] [(.ref o0)])) _
            refine XS.aloadN X13.here hx rfl (hb hby d9_70) rfl rfl ?_
            show Steps p.tables e below (T13.setTop (mkF m 71 #[.val (.ref o0), .val (.int (i.toInt32)), .val (.int (xi.toInt32)), .val (.int sk), .val (.int ((2 * i + 1).toInt32))] [(.ref o0), (.ref o0)])) _
            refine st59 _ ?_
            show Steps p.tables e below (T59.setTop (mkF m 74 #[.val (.ref o0), .val (.int (i.toInt32)), .val (.int (xi.toInt32)), .val (.int sk), .val (.int ((2 * i + 1).toInt32))] [(.ref ti), (.ref o0)])) _
            refine XS.iload X59.here hx rfl (hb hby d9_74) rfl ?_
            show Steps p.tables e below (T59.setTop (mkF m 76 #[.val (.ref o0), .val (.int (i.toInt32)), .val (.int (xi.toInt32)), .val (.int sk), .val (.int ((2 * i + 1).toInt32))] [(.int ((2 * i + 1).toInt32)), (.ref ti), (.ref o0)])) _
            refine X59.iaload hx (j := ((2 * i + 1).toInt32)) (v := (.int ((it (2 * i + 1)).toInt32))) (by rw [e59]; exact Ar60.1) (State.isArrayOf_alike hZ.alike Ar60.2.1) Ar60.2.2 (own_in Sz60 hi61) hl61 (g := (mkF m 76 #[.val (.ref o0), .val (.int (i.toInt32)), .val (.int (xi.toInt32)), .val (.int sk), .val (.int ((2 * i + 1).toInt32))] [(.int ((2 * i + 1).toInt32)), (.ref ti), (.ref o0)])) rfl rfl (hb hby d9_76) _ ?_
            show Steps p.tables e below (T59.setTop (mkF m 77 #[.val (.ref o0), .val (.int (i.toInt32)), .val (.int (xi.toInt32)), .val (.int sk), .val (.int ((2 * i + 1).toInt32))] [(.int ((it (2 * i + 1)).toInt32)), (.ref o0)])) _
            refine XS.iloadN X59.here hx rfl (hb hby d9_77) rfl ?_
            show Steps p.tables e below (T59.setTop (mkF m 78 #[.val (.ref o0), .val (.int (i.toInt32)), .val (.int (xi.toInt32)), .val (.int sk), .val (.int ((2 * i + 1).toInt32))] [(.int (xi.toInt32)), (.int ((it (2 * i + 1)).toInt32)), (.ref o0)])) _
            refine st62.trans ?_
            show Steps p.tables e below (T62.setTop (mkF m 81 #[.val (.ref o0), .val (.int (i.toInt32)), .val (.int (xi.toInt32)), .val (.int sk), .val (.int ((2 * i + 1).toInt32))] [(.int (own_bfr (ky (it (2 * i + 1))) (ky xi) ((it (2 * i + 1)).toInt32) (xi.toInt32)))])) _
            refine XS.istoreN X62.here hx rfl (hb hby d9_81) rfl (l' := #[.val (.ref o0), .val (.int (i.toInt32)), .val (.int (xi.toInt32)), .val (.int (own_bfr (ky (it (2 * i + 1))) (ky xi) ((it (2 * i + 1)).toInt32) (xi.toInt32))), .val (.int ((2 * i + 1).toInt32))]) rfl ?_
            show Steps p.tables e below (T62.setTop (mkF m 82 #[.val (.ref o0), .val (.int (i.toInt32)), .val (.int (xi.toInt32)), .val (.int (own_bfr (ky (it (2 * i + 1))) (ky xi) ((it (2 * i + 1)).toInt32) (xi.toInt32))), .val (.int ((2 * i + 1).toInt32))] [])) _
            refine XS.iloadN X62.here hx rfl (hb hby d9_82) rfl ?_
            show Steps p.tables e below (T62.setTop (mkF m 83 #[.val (.ref o0), .val (.int (i.toInt32)), .val (.int (xi.toInt32)), .val (.int (own_bfr (ky (it (2 * i + 1))) (ky xi) ((it (2 * i + 1)).toInt32) (xi.toInt32))), .val (.int ((2 * i + 1).toInt32))] [(.int (own_bfr (ky (it (2 * i + 1))) (ky xi) ((it (2 * i + 1)).toInt32) (xi.toInt32)))])) _
            exact k)
          by_cases hs64 : (own_bfr (ky (it (2 * i + 1))) (ky xi) ((it (2 * i + 1)).toInt32) (xi.toInt32)) = (0 : Int32)
          · have pre65 : ∀ t, Steps p.tables e below (T62.setTop (mkF m 104 #[.val (.ref o0), .val (.int (i.toInt32)), .val (.int (xi.toInt32)), .val (.int (own_bfr (ky (it (2 * i + 1))) (ky xi) ((it (2 * i + 1)).toInt32) (xi.toInt32))), .val (.int ((2 * i + 1).toInt32))] [])) t → Steps p.tables e below (T0.setTop (mkF m 9 #[.val (.ref o0), .val (.int (i.toInt32)), .val (.int (xi.toInt32)), .val (.int sk), s4] [])) t := fun t k => pre63 t (by
              refine XS.ifYes X62.here hx rfl (pc0 := 83) (pc' := 101) rfl (hb hby d9_83) rfl ((if0 _ _).trans (teq hs64).1) (by decide) (by decide) ?_
              show Steps p.tables e below (T62.setTop (mkF m 101 #[.val (.ref o0), .val (.int (i.toInt32)), .val (.int (xi.toInt32)), .val (.int (own_bfr (ky (it (2 * i + 1))) (ky xi) ((it (2 * i + 1)).toInt32) (xi.toInt32))), .val (.int ((2 * i + 1).toInt32))] [])) _
              refine XS.goto X62.here hx rfl (pc0 := 101) (pc' := 9) rfl (hb hby d9_101) (by decide) (by decide) ?_
              show Steps p.tables e below (T62.setTop (mkF m 9 #[.val (.ref o0), .val (.int (i.toInt32)), .val (.int (xi.toInt32)), .val (.int (own_bfr (ky (it (2 * i + 1))) (ky xi) ((it (2 * i + 1)).toInt32) (xi.toInt32))), .val (.int ((2 * i + 1).toInt32))] [])) _
              refine XS.iloadN X62.here hx rfl (hb hby d9_9) rfl ?_
              show Steps p.tables e below (T62.setTop (mkF m 10 #[.val (.ref o0), .val (.int (i.toInt32)), .val (.int (xi.toInt32)), .val (.int (own_bfr (ky (it (2 * i + 1))) (ky xi) ((it (2 * i + 1)).toInt32) (xi.toInt32))), .val (.int ((2 * i + 1).toInt32))] [(.int (own_bfr (ky (it (2 * i + 1))) (ky xi) ((it (2 * i + 1)).toInt32) (xi.toInt32)))])) _
              refine XS.ifYes X62.here hx rfl (pc0 := 10) (pc' := 104) rfl (hb hby d9_10) rfl ((if0 _ _).trans (teq hs64).1) (by decide) (by decide) ?_
              show Steps p.tables e below (T62.setTop (mkF m 104 #[.val (.ref o0), .val (.int (i.toInt32)), .val (.int (xi.toInt32)), .val (.int (own_bfr (ky (it (2 * i + 1))) (ky xi) ((it (2 * i + 1)).toInt32) (xi.toInt32))), .val (.int ((2 * i + 1).toInt32))] [])) _
              exact k)
            exact ⟨_, _, _, i, it, pl, (own_bfr (ky (it (2 * i + 1))) (ky xi) ((it (2 * i + 1)).toInt32) (xi.toInt32)), _, X62, hh62, N62, (Keep.refl h0 [ti, tp]), A_ti, A_tp, hH, pre65⟩
          · obtain ⟨T66, X66, e66, st66⟩ := getF X62 hx hZ hown (host := "") (Or.inl (hw _ (List.mem_of_getElem? (i := 10) rfl))) Via.refl hh62 F_items_o0 (g := (mkF m 89 #[.val (.ref o0), .val (.int (i.toInt32)), .val (.int (xi.toInt32)), .val (.int (own_bfr (ky (it (2 * i + 1))) (ky xi) ((it (2 * i + 1)).toInt32) (xi.toInt32))), .val (.int ((2 * i + 1).toInt32))] [(.ref o0), (.int (i.toInt32)), (.ref o0)])) rfl rfl (hb hby d9_89)
            have qa67 := A_ti
            obtain ⟨c67, Ar67, Sz67, H67⟩ := qa67
            have hi68 : 0 ≤ (((2 * i + 1).toInt32) : Int32).toInt ∧ (((2 * i + 1).toInt32) : Int32).toInt < (4 : Nat) := (own_bd (show (2 * i + 1) < 4 by omega) (by decide))
            have hl68 : c67.slots[(((2 * i + 1).toInt32) : Int32).toNatClampNeg]? = some (.int ((it (2 * i + 1)).toInt32)) := by rw [show ((it (2 * i + 1)).toInt32) = (((it (((2 * i + 1).toInt32) : Int32).toNatClampNeg).toInt32)) from by rw [own_tn (show (2 * i + 1) < 2147483648 by omega)]]; exact H67 _ (own_ix hi68)
            obtain ⟨cq69, q69, q69'⟩ := (E_o0).cell
            obtain ⟨_, _, ⟨T69, L69, k69, n69⟩, -, X69, ⟨Lc69, hQ69, l69, y69, z69⟩, st69⟩ := X66.privateBack hx (y := (⟨"com/example/lean_layers/leanlayers/phase/layering/IndexedHeap", "setAt", "(II)V"⟩ : MethodName)) hown (mvT hZ (hw _ (List.mem_of_getElem? (i := 42) rfl))) (mvT hZ (hw _ (List.mem_of_getElem? (i := 43) rfl))) (own_selp (y := (⟨"com/example/lean_layers/leanlayers/phase/layering/IndexedHeap", "setAt", "(II)V"⟩ : MethodName)) (mvT hZ (hw _ (List.mem_of_getElem? (i := 1) rfl))) (Cond.privateMethod_at (mvP hZ (hw _ (List.mem_of_getElem? (i := 44) rfl)) (args := #[]))) (mvT hZ (hw _ (List.mem_of_getElem? (i := 43) rfl))) (by decide)) (Cond.privateMethod_at (mvP hZ (hw _ (List.mem_of_getElem? (i := 44) rfl)) (args := #[]))) (mvT hZ (hw _ (List.mem_of_getElem? (i := 45) rfl))) (by decide) (backOf (W := 0) (rm8 l Z a0 hw [] o0 (i.toInt32) ((it (2 * i + 1)).toInt32) ti tp it pl i (it (2 * i + 1)) h0 n0 Z0 F_items_o0 F_place_o0 E_o0 A_ti A_tp g_ti g_tp ne_o0_ti ne_o0_tp ne_ti_tp rfl rfl (by omega) hac) hZ (hw _ (List.mem_of_getElem? (i := 45) rfl)) (hw _ (List.mem_of_getElem? (i := 2) rfl)) (by decide) (by decide)) (g := (mkF m 95 #[.val (.ref o0), .val (.int (i.toInt32)), .val (.int (xi.toInt32)), .val (.int (own_bfr (ky (it (2 * i + 1))) (ky xi) ((it (2 * i + 1)).toInt32) (xi.toInt32))), .val (.int ((2 * i + 1).toInt32))] [(.int ((it (2 * i + 1)).toInt32)), (.int (i.toInt32)), (.ref o0)])) rfl (by rw [hml]; rfl) (Steps.refl _) (a := o0) (by rw [e66]; exact q69) q69' (argsL := [(.int (i.toInt32)), (.int ((it (2 * i + 1)).toInt32))]) (rest := []) (lenOf pd_2 rfl) rfl (by show 2 * 0 + _ ≤ _; exact Nat.le_of_eq rfl) (hb hby d9_95) (fun _ _ => ⟨rfl, e66, (by decide : 0 + 0 ≤ _), (by decide : 0 + 0 ≤ _)⟩)
            dsimp only [Pt.U, Pt.locs, Pt.cells, Pt.slots] at X69 l69 y69 z69 st69 hQ69
            subst y69 z69
            obtain ⟨rfl, N69q, Kc69, P69_0, P69_1⟩ := hQ69
            have N69 := Fr.app N62 N69q
            rw [← l69] at N69
            have F_items_o0_70 : Fld Z T69.heap o0 "com/example/lean_layers/leanlayers/phase/layering/IndexedHeap" "items" "[I" (.ref ti) := (F_items_o0).keep Kc69 (ninS ne_o0_ti (ninS ne_o0_tp nin0))
            have F_keys_o0_70 : Fld Z T69.heap o0 "com/example/lean_layers/leanlayers/phase/layering/IndexedHeap" "keys" "[J" (.ref tk) := (F_keys_o0).keep Kc69 (ninS ne_o0_ti (ninS ne_o0_tp nin0))
            have F_place_o0_70 : Fld Z T69.heap o0 "com/example/lean_layers/leanlayers/phase/layering/IndexedHeap" "place" "[I" (.ref tp) := (F_place_o0).keep Kc69 (ninS ne_o0_ti (ninS ne_o0_tp nin0))
            have E_o0_70 : Exa Z T69.heap o0 "com/example/lean_layers/leanlayers/phase/layering/IndexedHeap" := (E_o0).keep Kc69
            have F_size_o0_70 : Fld Z T69.heap o0 "com/example/lean_layers/leanlayers/phase/layering/IndexedHeap" "size" "I" (.int (n.toInt32)) := (F_size_o0).keep Kc69 (ninS ne_o0_ti (ninS ne_o0_tp nin0))
            have A_tk_70 : own_A Z T69.heap tk .long 4 (fun kk => (.long (ky kk))) := (A_tk).keep Kc69 (ninS (Ne.symm ne_ti_tk) (ninS ne_tk_tp nin0))
            have SZ71 : h0.size ≤ T69.heap.size := Nat.le_trans (Nat.le_refl _) Kc69.1
            have ZZ71 : n0 ≤ T69.heap.size := Nat.le_trans Z0 SZ71
            have K72 : Keep h0 T69.heap [ti, tp] := ((Keep.refl h0 [ti, tp])).trans Kc69 (allS (Or.inl (List.mem_of_getElem? (i := 0) rfl)) (allS (Or.inl (List.mem_of_getElem? (i := 1) rfl)) all0))
            have pre73 : ∀ t, Steps p.tables e below (T69.setTop (mkF m 9 #[.val (.ref o0), .val (.int ((2 * i + 1).toInt32)), .val (.int (xi.toInt32)), .val (.int (own_bfr (ky (it (2 * i + 1))) (ky xi) ((it (2 * i + 1)).toInt32) (xi.toInt32))), .val (.int ((2 * i + 1).toInt32))] [])) t → Steps p.tables e below (T0.setTop (mkF m 9 #[.val (.ref o0), .val (.int (i.toInt32)), .val (.int (xi.toInt32)), .val (.int sk), s4] [])) t := fun t k => pre63 t (by
              refine XS.ifNo X62.here hx rfl (hb hby d9_83) rfl ((if0 _ _).trans (feq hs64).1) ?_
              show Steps p.tables e below (T62.setTop (mkF m 86 #[.val (.ref o0), .val (.int (i.toInt32)), .val (.int (xi.toInt32)), .val (.int (own_bfr (ky (it (2 * i + 1))) (ky xi) ((it (2 * i + 1)).toInt32) (xi.toInt32))), .val (.int ((2 * i + 1).toInt32))] [])) _
              refine XS.aloadN X62.here hx rfl (hb hby d9_86) rfl rfl ?_
              show Steps p.tables e below (T62.setTop (mkF m 87 #[.val (.ref o0), .val (.int (i.toInt32)), .val (.int (xi.toInt32)), .val (.int (own_bfr (ky (it (2 * i + 1))) (ky xi) ((it (2 * i + 1)).toInt32) (xi.toInt32))), .val (.int ((2 * i + 1).toInt32))] [(.ref o0)])) _
              refine XS.iloadN X62.here hx rfl (hb hby d9_87) rfl ?_
              show Steps p.tables e below (T62.setTop (mkF m 88 #[.val (.ref o0), .val (.int (i.toInt32)), .val (.int (xi.toInt32)), .val (.int (own_bfr (ky (it (2 * i + 1))) (ky xi) ((it (2 * i + 1)).toInt32) (xi.toInt32))), .val (.int ((2 * i + 1).toInt32))] [(.int (i.toInt32)), (.ref o0)])) _
              refine XS.aloadN X62.here hx rfl (hb hby d9_88) rfl rfl ?_
              show Steps p.tables e below (T62.setTop (mkF m 89 #[.val (.ref o0), .val (.int (i.toInt32)), .val (.int (xi.toInt32)), .val (.int (own_bfr (ky (it (2 * i + 1))) (ky xi) ((it (2 * i + 1)).toInt32) (xi.toInt32))), .val (.int ((2 * i + 1).toInt32))] [(.ref o0), (.int (i.toInt32)), (.ref o0)])) _
              refine st66 _ ?_
              show Steps p.tables e below (T66.setTop (mkF m 92 #[.val (.ref o0), .val (.int (i.toInt32)), .val (.int (xi.toInt32)), .val (.int (own_bfr (ky (it (2 * i + 1))) (ky xi) ((it (2 * i + 1)).toInt32) (xi.toInt32))), .val (.int ((2 * i + 1).toInt32))] [(.ref ti), (.int (i.toInt32)), (.ref o0)])) _
              refine XS.iload X66.here hx rfl (hb hby d9_92) rfl ?_
              show Steps p.tables e below (T66.setTop (mkF m 94 #[.val (.ref o0), .val (.int (i.toInt32)), .val (.int (xi.toInt32)), .val (.int (own_bfr (ky (it (2 * i + 1))) (ky xi) ((it (2 * i + 1)).toInt32) (xi.toInt32))), .val (.int ((2 * i + 1).toInt32))] [(.int ((2 * i + 1).toInt32)), (.ref ti), (.int (i.toInt32)), (.ref o0)])) _
              refine X66.iaload hx (j := ((2 * i + 1).toInt32)) (v := (.int ((it (2 * i + 1)).toInt32))) (by rw [e66]; exact Ar67.1) (State.isArrayOf_alike hZ.alike Ar67.2.1) Ar67.2.2 (own_in Sz67 hi68) hl68 (g := (mkF m 94 #[.val (.ref o0), .val (.int (i.toInt32)), .val (.int (xi.toInt32)), .val (.int (own_bfr (ky (it (2 * i + 1))) (ky xi) ((it (2 * i + 1)).toInt32) (xi.toInt32))), .val (.int ((2 * i + 1).toInt32))] [(.int ((2 * i + 1).toInt32)), (.ref ti), (.int (i.toInt32)), (.ref o0)])) rfl rfl (hb hby d9_94) _ ?_
              show Steps p.tables e below (T66.setTop (mkF m 95 #[.val (.ref o0), .val (.int (i.toInt32)), .val (.int (xi.toInt32)), .val (.int (own_bfr (ky (it (2 * i + 1))) (ky xi) ((it (2 * i + 1)).toInt32) (xi.toInt32))), .val (.int ((2 * i + 1).toInt32))] [(.int ((it (2 * i + 1)).toInt32)), (.int (i.toInt32)), (.ref o0)])) _
              refine st69.trans ?_
              show Steps p.tables e below (T69.setTop (mkF m 98 #[.val (.ref o0), .val (.int (i.toInt32)), .val (.int (xi.toInt32)), .val (.int (own_bfr (ky (it (2 * i + 1))) (ky xi) ((it (2 * i + 1)).toInt32) (xi.toInt32))), .val (.int ((2 * i + 1).toInt32))] [])) _
              refine XS.iload X69.here hx rfl (hb hby d9_98) rfl ?_
              show Steps p.tables e below (T69.setTop (mkF m 100 #[.val (.ref o0), .val (.int (i.toInt32)), .val (.int (xi.toInt32)), .val (.int (own_bfr (ky (it (2 * i + 1))) (ky xi) ((it (2 * i + 1)).toInt32) (xi.toInt32))), .val (.int ((2 * i + 1).toInt32))] [(.int ((2 * i + 1).toInt32))])) _
              refine XS.istoreN X69.here hx rfl (hb hby d9_100) rfl (l' := #[.val (.ref o0), .val (.int ((2 * i + 1).toInt32)), .val (.int (xi.toInt32)), .val (.int (own_bfr (ky (it (2 * i + 1))) (ky xi) ((it (2 * i + 1)).toInt32) (xi.toInt32))), .val (.int ((2 * i + 1).toInt32))]) rfl ?_
              show Steps p.tables e below (T69.setTop (mkF m 101 #[.val (.ref o0), .val (.int ((2 * i + 1).toInt32)), .val (.int (xi.toInt32)), .val (.int (own_bfr (ky (it (2 * i + 1))) (ky xi) ((it (2 * i + 1)).toInt32) (xi.toInt32))), .val (.int ((2 * i + 1).toInt32))] [])) _
              refine XS.goto X69.here hx rfl (pc0 := 101) (pc' := 9) rfl (hb hby d9_101) (by decide) (by decide) ?_
              show Steps p.tables e below (T69.setTop (mkF m 9 #[.val (.ref o0), .val (.int ((2 * i + 1).toInt32)), .val (.int (xi.toInt32)), .val (.int (own_bfr (ky (it (2 * i + 1))) (ky xi) ((it (2 * i + 1)).toInt32) (xi.toInt32))), .val (.int ((2 * i + 1).toInt32))] [])) _
              exact k)
            obtain ⟨T1, h1, locs1, i1, f1, g1, k1, s1, Y1, Y2, Y3, Y4, Y5, Y6, Y7, Y8⟩ := ih (n - (2 * i + 1)) (by omega) (2 * i + 1) (own_u it i (it (2 * i + 1))) (own_u pl (it (2 * i + 1)) (i + 1)) (own_bfr (ky (it (2 * i + 1))) (ky xi) ((it (2 * i + 1)).toInt32) (xi.toInt32)) (.val (.int ((2 * i + 1).toInt32))) _ _ _ rfl (One.val rfl) (own_HO_mv hH (a := (2 * i + 1)) (by omega) (by omega)) X69 rfl N69 ZZ71 F_items_o0_70 F_keys_o0_70 F_place_o0_70 E_o0_70 F_size_o0_70 P69_0 A_tk_70 P69_1
            exact ⟨T1, h1, locs1, i1, f1, g1, k1, s1, Y1, Y2, Y3, K72.trans Y4 (fun x hx => Or.inl hx), Y5, Y6, Y7, fun t k => pre73 t (Y8 t k)⟩
      · have pre74 : ∀ t, Steps p.tables e below (T6.setTop (mkF m 104 #[.val (.ref o0), .val (.int (i.toInt32)), .val (.int (xi.toInt32)), .val (.int sk), s4] [])) t → Steps p.tables e below (T0.setTop (mkF m 9 #[.val (.ref o0), .val (.int (i.toInt32)), .val (.int (xi.toInt32)), .val (.int sk), s4] [])) t := fun t k => pre7 t (by
          refine XS.icmpYes X6.here hx rfl (pc0 := 22) (pc' := 104) rfl (hb hby d9_22) rfl (flt hs8).2.1 (by decide) (by decide) ?_
          show Steps p.tables e below (T6.setTop (mkF m 104 #[.val (.ref o0), .val (.int (i.toInt32)), .val (.int (xi.toInt32)), .val (.int sk), s4] [])) _
          exact k)
        exact ⟨_, _, _, i, it, pl, sk, _, X6, e6, N0, (Keep.refl h0 [ti, tp]), A_ti, A_tp, hH, pre74⟩
theorem d7_0 : decode prog_55_method_8_code 0 = .ok (.aload_n 0, 1) := by decide +kernel
theorem d7_1 : decode prog_55_method_8_code 1 = .ok (.getfield 7, 3) := by decide +kernel
theorem d7_4 : decode prog_55_method_8_code 4 = .ok (.iload_n 1, 1) := by decide +kernel
theorem d7_5 : decode prog_55_method_8_code 5 = .ok (.iaload, 1) := by decide +kernel
theorem d7_6 : decode prog_55_method_8_code 6 = .ok (.istore_n 2, 1) := by decide +kernel
theorem d7_51 : decode prog_55_method_8_code 51 = .ok (.aload_n 0, 1) := by decide +kernel
theorem d7_52 : decode prog_55_method_8_code 52 = .ok (.iload_n 1, 1) := by decide +kernel
theorem d7_53 : decode prog_55_method_8_code 53 = .ok (.iload_n 2, 1) := by decide +kernel
theorem d7_54 : decode prog_55_method_8_code 54 = .ok (.invokevirtual 52, 3) := by decide +kernel
theorem d7_57 : decode prog_55_method_8_code 57 = .ok (.return_, 1) := by decide +kernel
theorem ef_7 (m : MethodId) (o0 : Addr) (p1 : Int32) : entryFrame m #[(.ref o0), (.int p1)] 4 = mkF m 0 #[.val (.ref o0), .val (.int p1), .unset, .unset] [] := by first | (simp [entryFrame, mkF, argsToLocals, Value.category]; done) | rfl

def Q7 (Z : State) (o0 : Addr) (p1 : Int32) (ti tk tp : Addr) (ky : Nat → Int64) (it pl : Nat → Nat) (n i : Nat) (h0 : Heap) (n0 : Nat) (v : Option Value) (h : Heap) (L : List Loc) : Prop := ∃ (it2 : Nat → Nat) (pl2 : Nat → Nat), v = none ∧ Fr n0 L ∧ Keep h0 h [ti, tp] ∧ (own_A Z h ti .int 4 (fun kk => (.int ((it2 kk).toInt32)))) ∧ (own_A Z h tp .int 4 (fun kk => (.int (own_pl (pl2 kk))))) ∧ (own_IV 4 n it2 pl2) ∧ (∀ y, y < 4 → (pl2 y = 0 ↔ pl y = 0))
set_option maxRecDepth 65536 in
set_option maxHeartbeats 40000000 in
theorem rm7 (l : Launch) (Z : State) (a0 : Array Value) (hw : ∀ d ∈ tables_1, d.before a0 Z = true) (ws : List Jvm.Cond) (o0 : Addr) (p1 : Int32) (ti tk tp : Addr) (ky : Nat → Int64) (it pl : Nat → Nat) (n i : Nat) (h0 : Heap) (n0 : Nat) (Z0 : n0 ≤ h0.size) (F_items_o0 : Fld Z h0 o0 "com/example/lean_layers/leanlayers/phase/layering/IndexedHeap" "items" "[I" (.ref ti)) (F_keys_o0 : Fld Z h0 o0 "com/example/lean_layers/leanlayers/phase/layering/IndexedHeap" "keys" "[J" (.ref tk)) (F_place_o0 : Fld Z h0 o0 "com/example/lean_layers/leanlayers/phase/layering/IndexedHeap" "place" "[I" (.ref tp)) (E_o0 : Exa Z h0 o0 "com/example/lean_layers/leanlayers/phase/layering/IndexedHeap") (F_size_o0 : Fld Z h0 o0 "com/example/lean_layers/leanlayers/phase/layering/IndexedHeap" "size" "I" (.int (n.toInt32))) (A_ti : own_A Z h0 ti .int 4 (fun kk => (.int ((it kk).toInt32)))) (A_tk : own_A Z h0 tk .long 4 (fun kk => (.long (ky kk)))) (A_tp : own_A Z h0 tp .int 4 (fun kk => (.int (own_pl (pl kk))))) (g_ti : n0 ≤ ti) (g_tp : n0 ≤ tp) (ne_o0_ti : o0 ≠ ti) (ne_o0_tk : o0 ≠ tk) (ne_o0_tp : o0 ≠ tp) (ne_ti_tk : ti ≠ tk) (ne_ti_tp : ti ≠ tp) (ne_tk_tp : tk ≠ tp) (hp1 : p1 = (i.toInt32)) (hin : i < n) (hIV : own_IV 4 n it pl) :
    MetFree l (⟨"com/example/lean_layers/leanlayers/phase/layering/IndexedHeap", "siftUp", "(I)V"⟩ : MethodName) (head1 (Jvm.Cond.code (⟨"com/example/lean_layers/leanlayers/phase/layering/IndexedHeap", "siftUp", "(I)V"⟩ : MethodName) prog_55_method_8_code 4 none :: ws) ({ frames := 2, cells := 0, slots := 0, locals := 40 } : Room)) (fun a U => a = #[(.ref o0), (.int p1)] ∧ Z.Warmed39 U.vm ∧ U.heap = h0) (fun _ _ _ _ _ => True) (fun _ U o U' => ∃ v L, o = .returned v ∧ Q7 Z o0 p1 ti tk tp ky it pl n i h0 n0 v U'.heap L ∧ FrameEnd U o U' L ({ frames := 2, cells := 0, slots := 0, locals := 40 } : Room).cells ({ frames := 2, cells := 0, slots := 0, locals := 40 } : Room).slots) := by
  refine MetFree.of_bodySF (plainFor_of_name pn_1) hisR ?_
  intro p e s m args below meth c s₁ Bd hml0 hP hK
  obtain ⟨rfl, hZ, hh⟩ := hP
  have hx := Bd.exec
  have hby := Bd.bytes
  have hml : c.maxLocals = 4 := hml0
  have hown : s.vm.findClass "com/example/lean_layers/leanlayers/phase/layering/IndexedHeap" = some m.cls := findClass_of_methodNamed Bd.named
  have hnm := (name_of_methodNamed Bd.named Bd.method).1
  have X0 : Stand p l e ({ frames := 2, cells := 0, slots := 0, locals := 40 } : Room) s m #[(.ref o0), (.int p1)] below meth c s₁ [] 0 0 := Stand.of_body Bd
  have e0 : s₁.heap = h0 := by rw [← hh, Bd.state]; rfl
  have N0 := Fr.nil n0
  have pre0 : ∀ t, Steps p.tables e below (s₁.setTop (mkF m 0 #[.val (.ref o0), .val (.int p1), .unset, .unset] [])) t → Steps p.tables e below (s₁.setTop (entryFrame m #[(.ref o0), (.int p1)] 4)) t := fun t k => castTop (ef_7 m o0 p1) k
  have hnc : n ≤ 4 := hIV.1
  have pre1 : ∀ t, Steps p.tables e below (s₁.setTop (mkF m 0 #[.val (.ref o0), .val (.int p1), .unset, .unset] [])) t → Steps p.tables e below (s₁.setTop (entryFrame m #[(.ref o0), (.int p1)] 4)) t := fun t k => pre0 t (by
    show Steps p.tables e below (s₁.setTop (mkF m 0 #[.val (.ref o0), .val (.int p1), .unset, .unset] [])) _
    exact k)
  have hre2 : p1 = (i.toInt32) := hp1
  have pre2 : ∀ t, Steps p.tables e below (s₁.setTop (mkF m 0 #[.val (.ref o0), .val (.int (i.toInt32)), .unset, .unset] [])) t → Steps p.tables e below (s₁.setTop (entryFrame m #[(.ref o0), (.int p1)] 4)) t := fun t k => pre1 t (by rw [hre2]; exact k)
  obtain ⟨T3, X3, e3, st3⟩ := getF X0 hx hZ hown (host := "") (Or.inl (hw _ (List.mem_of_getElem? (i := 10) rfl))) Via.refl e0 F_items_o0 (g := (mkF m 1 #[.val (.ref o0), .val (.int (i.toInt32)), .unset, .unset] [(.ref o0)])) rfl rfl (hb hby d7_1)
  have qa4 := A_ti
  obtain ⟨c4, Ar4, Sz4, H4⟩ := qa4
  have hi5 : 0 ≤ ((i.toInt32) : Int32).toInt ∧ ((i.toInt32) : Int32).toInt < (4 : Nat) := (own_bd (show i < 4 by omega) (by decide))
  have hl5 : c4.slots[((i.toInt32) : Int32).toNatClampNeg]? = some (.int ((it i).toInt32)) := by rw [show ((it i).toInt32) = (((it ((i.toInt32) : Int32).toNatClampNeg).toInt32)) from by rw [own_tn (show i < 2147483648 by omega)]]; exact H4 _ (own_ix hi5)
  obtain ⟨T6, h6, L6, i6, f6, g6, k6, s6, X6, e6, N6, Kc6, Pa6, Pb6, hH6, st6⟩ := loop_up o0 ti tk tp ky (it i) n pl n0 g_ti g_tp ne_o0_ti ne_o0_tk ne_o0_tp ne_ti_tk ne_ti_tp ne_tk_tp hx hZ hw hby hml hown i it pl .unset _ _ _ One.u (own_HO0 hIV hin) X3 e3 N0 Z0 F_items_o0 F_keys_o0 F_place_o0 E_o0 F_size_o0 A_ti A_tk A_tp
  have F_items_o0_7 : Fld Z h6 o0 "com/example/lean_layers/leanlayers/phase/layering/IndexedHeap" "items" "[I" (.ref ti) := (F_items_o0).keep Kc6 (ninS ne_o0_ti (ninS ne_o0_tp nin0))
  have F_keys_o0_7 : Fld Z h6 o0 "com/example/lean_layers/leanlayers/phase/layering/IndexedHeap" "keys" "[J" (.ref tk) := (F_keys_o0).keep Kc6 (ninS ne_o0_ti (ninS ne_o0_tp nin0))
  have F_place_o0_7 : Fld Z h6 o0 "com/example/lean_layers/leanlayers/phase/layering/IndexedHeap" "place" "[I" (.ref tp) := (F_place_o0).keep Kc6 (ninS ne_o0_ti (ninS ne_o0_tp nin0))
  have E_o0_7 : Exa Z h6 o0 "com/example/lean_layers/leanlayers/phase/layering/IndexedHeap" := (E_o0).keep Kc6
  have F_size_o0_7 : Fld Z h6 o0 "com/example/lean_layers/leanlayers/phase/layering/IndexedHeap" "size" "I" (.int (n.toInt32)) := (F_size_o0).keep Kc6 (ninS ne_o0_ti (ninS ne_o0_tp nin0))
  have A_tk_7 : own_A Z h6 tk .long 4 (fun kk => (.long (ky kk))) := (A_tk).keep Kc6 (ninS (Ne.symm ne_ti_tk) (ninS ne_tk_tp nin0))
  have SZ8 : h0.size ≤ h6.size := Nat.le_trans (Nat.le_refl _) Kc6.1
  have ZZ8 : n0 ≤ h6.size := Nat.le_trans Z0 SZ8
  have K9 : Keep h0 h6 [ti, tp] := ((Keep.refl h0 [ti, tp])).trans Kc6 (allS (Or.inl (List.mem_of_getElem? (i := 0) rfl)) (allS (Or.inl (List.mem_of_getElem? (i := 1) rfl)) all0))
  have hic6 : i6 < 4 := Nat.lt_of_lt_of_le hH6.1 hH6.2.2.1.1
  obtain ⟨cq10, q10, q10'⟩ := (E_o0_7).cell
  obtain ⟨_, _, ⟨T10, L10, k10, n10⟩, -, X10, ⟨Lc10, hQ10, l10, y10, z10⟩, st10⟩ := X6.privateBack hx (y := (⟨"com/example/lean_layers/leanlayers/phase/layering/IndexedHeap", "setAt", "(II)V"⟩ : MethodName)) hown (mvT hZ (hw _ (List.mem_of_getElem? (i := 42) rfl))) (mvT hZ (hw _ (List.mem_of_getElem? (i := 43) rfl))) (own_selp (y := (⟨"com/example/lean_layers/leanlayers/phase/layering/IndexedHeap", "setAt", "(II)V"⟩ : MethodName)) (mvT hZ (hw _ (List.mem_of_getElem? (i := 1) rfl))) (Cond.privateMethod_at (mvP hZ (hw _ (List.mem_of_getElem? (i := 44) rfl)) (args := #[]))) (mvT hZ (hw _ (List.mem_of_getElem? (i := 43) rfl))) (by decide)) (Cond.privateMethod_at (mvP hZ (hw _ (List.mem_of_getElem? (i := 44) rfl)) (args := #[]))) (mvT hZ (hw _ (List.mem_of_getElem? (i := 45) rfl))) (by decide) (backOf (W := 0) (rm8 l Z a0 hw [] o0 (i6.toInt32) ((it i).toInt32) ti tp f6 g6 i6 (it i) h6 n0 ZZ8 F_items_o0_7 F_place_o0_7 E_o0_7 Pa6 Pb6 g_ti g_tp ne_o0_ti ne_o0_tp ne_ti_tp rfl rfl hic6 hH6.2.1) hZ (hw _ (List.mem_of_getElem? (i := 45) rfl)) (hw _ (List.mem_of_getElem? (i := 2) rfl)) (by decide) (by decide)) (g := (mkF m 54 #[.val (.ref o0), .val (.int (i6.toInt32)), .val (.int ((it i).toInt32)), s6] [(.int ((it i).toInt32)), (.int (i6.toInt32)), (.ref o0)])) rfl (by rw [hml]; rfl) (Steps.refl _) (a := o0) (by rw [e6]; exact q10) q10' (argsL := [(.int (i6.toInt32)), (.int ((it i).toInt32))]) (rest := []) (lenOf pd_2 rfl) rfl (by show 2 * 0 + _ ≤ _; exact Nat.le_of_eq rfl) (hb hby d7_54) (fun _ _ => ⟨rfl, e6, (by decide : 0 + 0 ≤ _), (by decide : 0 + 0 ≤ _)⟩)
  dsimp only [Pt.U, Pt.locs, Pt.cells, Pt.slots] at X10 l10 y10 z10 st10 hQ10
  subst y10 z10
  obtain ⟨rfl, N10q, Kc10, P10_0, P10_1⟩ := hQ10
  have N10 := Fr.app N6 N10q
  rw [← l10] at N10
  have F_items_o0_11 : Fld Z T10.heap o0 "com/example/lean_layers/leanlayers/phase/layering/IndexedHeap" "items" "[I" (.ref ti) := (F_items_o0_7).keep Kc10 (ninS ne_o0_ti (ninS ne_o0_tp nin0))
  have F_keys_o0_11 : Fld Z T10.heap o0 "com/example/lean_layers/leanlayers/phase/layering/IndexedHeap" "keys" "[J" (.ref tk) := (F_keys_o0_7).keep Kc10 (ninS ne_o0_ti (ninS ne_o0_tp nin0))
  have F_place_o0_11 : Fld Z T10.heap o0 "com/example/lean_layers/leanlayers/phase/layering/IndexedHeap" "place" "[I" (.ref tp) := (F_place_o0_7).keep Kc10 (ninS ne_o0_ti (ninS ne_o0_tp nin0))
  have E_o0_11 : Exa Z T10.heap o0 "com/example/lean_layers/leanlayers/phase/layering/IndexedHeap" := (E_o0_7).keep Kc10
  have F_size_o0_11 : Fld Z T10.heap o0 "com/example/lean_layers/leanlayers/phase/layering/IndexedHeap" "size" "I" (.int (n.toInt32)) := (F_size_o0_7).keep Kc10 (ninS ne_o0_ti (ninS ne_o0_tp nin0))
  have A_tk_11 : own_A Z T10.heap tk .long 4 (fun kk => (.long (ky kk))) := (A_tk_7).keep Kc10 (ninS (Ne.symm ne_ti_tk) (ninS ne_tk_tp nin0))
  have SZ12 : h0.size ≤ T10.heap.size := Nat.le_trans SZ8 Kc10.1
  have ZZ12 : n0 ≤ T10.heap.size := Nat.le_trans Z0 SZ12
  have K13 : Keep h0 T10.heap [ti, tp] := (K9).trans Kc10 (allS (Or.inl (List.mem_of_getElem? (i := 0) rfl)) (allS (Or.inl (List.mem_of_getElem? (i := 1) rfl)) all0))
  have pre14 : ∀ t, Steps p.tables e below (T10.setTop (mkF m 57 #[.val (.ref o0), .val (.int (i6.toInt32)), .val (.int ((it i).toInt32)), s6] [])) t → Steps p.tables e below (s₁.setTop (entryFrame m #[(.ref o0), (.int p1)] 4)) t := fun t k => pre2 t (by
    show Steps p.tables e below (s₁.setTop (mkF m 0 #[.val (.ref o0), .val (.int (i.toInt32)), .unset, .unset] [])) _
    refine XS.aloadN X0.here hx rfl (hb hby d7_0) rfl rfl ?_
    show Steps p.tables e below (s₁.setTop (mkF m 1 #[.val (.ref o0), .val (.int (i.toInt32)), .unset, .unset] [(.ref o0)])) _
    refine st3 _ ?_
    show Steps p.tables e below (T3.setTop (mkF m 4 #[.val (.ref o0), .val (.int (i.toInt32)), .unset, .unset] [(.ref ti)])) _
    refine XS.iloadN X3.here hx rfl (hb hby d7_4) rfl ?_
    show Steps p.tables e below (T3.setTop (mkF m 5 #[.val (.ref o0), .val (.int (i.toInt32)), .unset, .unset] [(.int (i.toInt32)), (.ref ti)])) _
    refine X3.iaload hx (j := (i.toInt32)) (v := (.int ((it i).toInt32))) (by rw [e3]; exact Ar4.1) (State.isArrayOf_alike hZ.alike Ar4.2.1) Ar4.2.2 (own_in Sz4 hi5) hl5 (g := (mkF m 5 #[.val (.ref o0), .val (.int (i.toInt32)), .unset, .unset] [(.int (i.toInt32)), (.ref ti)])) rfl rfl (hb hby d7_5) _ ?_
    show Steps p.tables e below (T3.setTop (mkF m 6 #[.val (.ref o0), .val (.int (i.toInt32)), .unset, .unset] [(.int ((it i).toInt32))])) _
    refine XS.istoreN X3.here hx rfl (hb hby d7_6) rfl (l' := #[.val (.ref o0), .val (.int (i.toInt32)), .val (.int ((it i).toInt32)), .unset]) rfl ?_
    show Steps p.tables e below (T3.setTop (mkF m 7 #[.val (.ref o0), .val (.int (i.toInt32)), .val (.int ((it i).toInt32)), .unset] [])) _
    refine st6 _ ?_
    show Steps p.tables e below (T6.setTop (mkF m 51 #[.val (.ref o0), .val (.int (i6.toInt32)), .val (.int ((it i).toInt32)), s6] [])) _
    refine XS.aloadN X6.here hx rfl (hb hby d7_51) rfl rfl ?_
    show Steps p.tables e below (T6.setTop (mkF m 52 #[.val (.ref o0), .val (.int (i6.toInt32)), .val (.int ((it i).toInt32)), s6] [(.ref o0)])) _
    refine XS.iloadN X6.here hx rfl (hb hby d7_52) rfl ?_
    show Steps p.tables e below (T6.setTop (mkF m 53 #[.val (.ref o0), .val (.int (i6.toInt32)), .val (.int ((it i).toInt32)), s6] [(.int (i6.toInt32)), (.ref o0)])) _
    refine XS.iloadN X6.here hx rfl (hb hby d7_53) rfl ?_
    show Steps p.tables e below (T6.setTop (mkF m 54 #[.val (.ref o0), .val (.int (i6.toInt32)), .val (.int ((it i).toInt32)), s6] [(.int ((it i).toInt32)), (.int (i6.toInt32)), (.ref o0)])) _
    refine st10.trans ?_
    show Steps p.tables e below (T10.setTop (mkF m 57 #[.val (.ref o0), .val (.int (i6.toInt32)), .val (.int ((it i).toInt32)), s6] [])) _
    exact k)
  obtain ⟨fs, hr, hrun, hended, hW, hsame⟩ := X10.leave (v := none) (fun _ => rfl)
  refine ⟨_, _, pre14 _ ?_, hrun, hended, _, _, rfl, ?_, ⟨_, rfl⟩, hW, hsame.mono (by decide) (by decide)⟩
  · exact X10.returnOut hx Bd.returns (hb hby d7_57) hr
  · show Q7 Z o0 p1 ti tk tp ky it pl n i h0 n0 _ T10.heap _
    skip
    exact ⟨(own_u f6 i6 (it i)), (own_u g6 (it i) (i6 + 1)), rfl, N10, K13, P10_0, P10_1, hH6.2.2.1, hH6.2.2.2⟩
theorem d9_0 : decode prog_55_method_9_code 0 = .ok (.aload_n 0, 1) := by decide +kernel
theorem d9_1 : decode prog_55_method_9_code 1 = .ok (.getfield 7, 3) := by decide +kernel
theorem d9_4 : decode prog_55_method_9_code 4 = .ok (.iload_n 1, 1) := by decide +kernel
theorem d9_5 : decode prog_55_method_9_code 5 = .ok (.iaload, 1) := by decide +kernel
theorem d9_6 : decode prog_55_method_9_code 6 = .ok (.istore_n 2, 1) := by decide +kernel
theorem d9_7 : decode prog_55_method_9_code 7 = .ok (.iconst 1, 1) := by decide +kernel
theorem d9_8 : decode prog_55_method_9_code 8 = .ok (.istore_n 3, 1) := by decide +kernel
theorem d9_104 : decode prog_55_method_9_code 104 = .ok (.aload_n 0, 1) := by decide +kernel
theorem d9_105 : decode prog_55_method_9_code 105 = .ok (.iload_n 1, 1) := by decide +kernel
theorem d9_106 : decode prog_55_method_9_code 106 = .ok (.iload_n 2, 1) := by decide +kernel
theorem d9_107 : decode prog_55_method_9_code 107 = .ok (.invokevirtual 52, 3) := by decide +kernel
theorem d9_110 : decode prog_55_method_9_code 110 = .ok (.return_, 1) := by decide +kernel
theorem ef_9 (m : MethodId) (o0 : Addr) (p1 : Int32) : entryFrame m #[(.ref o0), (.int p1)] 5 = mkF m 0 #[.val (.ref o0), .val (.int p1), .unset, .unset, .unset] [] := by first | (simp [entryFrame, mkF, argsToLocals, Value.category]; done) | rfl

def Q9 (Z : State) (o0 : Addr) (p1 : Int32) (ti tk tp : Addr) (ky : Nat → Int64) (it pl : Nat → Nat) (n i : Nat) (h0 : Heap) (n0 : Nat) (v : Option Value) (h : Heap) (L : List Loc) : Prop := ∃ (it2 : Nat → Nat) (pl2 : Nat → Nat), v = none ∧ Fr n0 L ∧ Keep h0 h [ti, tp] ∧ (own_A Z h ti .int 4 (fun kk => (.int ((it2 kk).toInt32)))) ∧ (own_A Z h tp .int 4 (fun kk => (.int (own_pl (pl2 kk))))) ∧ (own_IV 4 n it2 pl2) ∧ (∀ y, y < 4 → (pl2 y = 0 ↔ pl y = 0))
set_option maxRecDepth 65536 in
set_option maxHeartbeats 40000000 in
theorem rm9 (l : Launch) (Z : State) (a0 : Array Value) (hw : ∀ d ∈ tables_1, d.before a0 Z = true) (ws : List Jvm.Cond) (o0 : Addr) (p1 : Int32) (ti tk tp : Addr) (ky : Nat → Int64) (it pl : Nat → Nat) (n i : Nat) (h0 : Heap) (n0 : Nat) (Z0 : n0 ≤ h0.size) (F_items_o0 : Fld Z h0 o0 "com/example/lean_layers/leanlayers/phase/layering/IndexedHeap" "items" "[I" (.ref ti)) (F_keys_o0 : Fld Z h0 o0 "com/example/lean_layers/leanlayers/phase/layering/IndexedHeap" "keys" "[J" (.ref tk)) (F_place_o0 : Fld Z h0 o0 "com/example/lean_layers/leanlayers/phase/layering/IndexedHeap" "place" "[I" (.ref tp)) (E_o0 : Exa Z h0 o0 "com/example/lean_layers/leanlayers/phase/layering/IndexedHeap") (F_size_o0 : Fld Z h0 o0 "com/example/lean_layers/leanlayers/phase/layering/IndexedHeap" "size" "I" (.int (n.toInt32))) (A_ti : own_A Z h0 ti .int 4 (fun kk => (.int ((it kk).toInt32)))) (A_tk : own_A Z h0 tk .long 4 (fun kk => (.long (ky kk)))) (A_tp : own_A Z h0 tp .int 4 (fun kk => (.int (own_pl (pl kk))))) (g_ti : n0 ≤ ti) (g_tp : n0 ≤ tp) (ne_o0_ti : o0 ≠ ti) (ne_o0_tk : o0 ≠ tk) (ne_o0_tp : o0 ≠ tp) (ne_ti_tk : ti ≠ tk) (ne_ti_tp : ti ≠ tp) (ne_tk_tp : tk ≠ tp) (hp1 : p1 = (i.toInt32)) (hin : i < n) (hIV : own_IV 4 n it pl) :
    MetFree l (⟨"com/example/lean_layers/leanlayers/phase/layering/IndexedHeap", "siftDown", "(I)V"⟩ : MethodName) (head1 (Jvm.Cond.code (⟨"com/example/lean_layers/leanlayers/phase/layering/IndexedHeap", "siftDown", "(I)V"⟩ : MethodName) prog_55_method_9_code 5 none :: ws) ({ frames := 2, cells := 0, slots := 0, locals := 40 } : Room)) (fun a U => a = #[(.ref o0), (.int p1)] ∧ Z.Warmed39 U.vm ∧ U.heap = h0) (fun _ _ _ _ _ => True) (fun _ U o U' => ∃ v L, o = .returned v ∧ Q9 Z o0 p1 ti tk tp ky it pl n i h0 n0 v U'.heap L ∧ FrameEnd U o U' L ({ frames := 2, cells := 0, slots := 0, locals := 40 } : Room).cells ({ frames := 2, cells := 0, slots := 0, locals := 40 } : Room).slots) := by
  refine MetFree.of_bodySF (plainFor_of_name pn_1) hisR ?_
  intro p e s m args below meth c s₁ Bd hml0 hP hK
  obtain ⟨rfl, hZ, hh⟩ := hP
  have hx := Bd.exec
  have hby := Bd.bytes
  have hml : c.maxLocals = 5 := hml0
  have hown : s.vm.findClass "com/example/lean_layers/leanlayers/phase/layering/IndexedHeap" = some m.cls := findClass_of_methodNamed Bd.named
  have hnm := (name_of_methodNamed Bd.named Bd.method).1
  have X0 : Stand p l e ({ frames := 2, cells := 0, slots := 0, locals := 40 } : Room) s m #[(.ref o0), (.int p1)] below meth c s₁ [] 0 0 := Stand.of_body Bd
  have e0 : s₁.heap = h0 := by rw [← hh, Bd.state]; rfl
  have N0 := Fr.nil n0
  have pre0 : ∀ t, Steps p.tables e below (s₁.setTop (mkF m 0 #[.val (.ref o0), .val (.int p1), .unset, .unset, .unset] [])) t → Steps p.tables e below (s₁.setTop (entryFrame m #[(.ref o0), (.int p1)] 5)) t := fun t k => castTop (ef_9 m o0 p1) k
  have hnc : n ≤ 4 := hIV.1
  have pre1 : ∀ t, Steps p.tables e below (s₁.setTop (mkF m 0 #[.val (.ref o0), .val (.int p1), .unset, .unset, .unset] [])) t → Steps p.tables e below (s₁.setTop (entryFrame m #[(.ref o0), (.int p1)] 5)) t := fun t k => pre0 t (by
    show Steps p.tables e below (s₁.setTop (mkF m 0 #[.val (.ref o0), .val (.int p1), .unset, .unset, .unset] [])) _
    exact k)
  have hre2 : p1 = (i.toInt32) := hp1
  have pre2 : ∀ t, Steps p.tables e below (s₁.setTop (mkF m 0 #[.val (.ref o0), .val (.int (i.toInt32)), .unset, .unset, .unset] [])) t → Steps p.tables e below (s₁.setTop (entryFrame m #[(.ref o0), (.int p1)] 5)) t := fun t k => pre1 t (by rw [hre2]; exact k)
  obtain ⟨T3, X3, e3, st3⟩ := getF X0 hx hZ hown (host := "") (Or.inl (hw _ (List.mem_of_getElem? (i := 10) rfl))) Via.refl e0 F_items_o0 (g := (mkF m 1 #[.val (.ref o0), .val (.int (i.toInt32)), .unset, .unset, .unset] [(.ref o0)])) rfl rfl (hb hby d9_1)
  have qa4 := A_ti
  obtain ⟨c4, Ar4, Sz4, H4⟩ := qa4
  have hi5 : 0 ≤ ((i.toInt32) : Int32).toInt ∧ ((i.toInt32) : Int32).toInt < (4 : Nat) := (own_bd (show i < 4 by omega) (by decide))
  have hl5 : c4.slots[((i.toInt32) : Int32).toNatClampNeg]? = some (.int ((it i).toInt32)) := by rw [show ((it i).toInt32) = (((it ((i.toInt32) : Int32).toNatClampNeg).toInt32)) from by rw [own_tn (show i < 2147483648 by omega)]]; exact H4 _ (own_ix hi5)
  obtain ⟨T6, h6, L6, i6, f6, g6, k6, s6, X6, e6, N6, Kc6, Pa6, Pb6, hH6, st6⟩ := loop_dn o0 ti tk tp ky (it i) n pl n0 g_ti g_tp ne_o0_ti ne_o0_tk ne_o0_tp ne_ti_tk ne_ti_tp ne_tk_tp hx hZ hw hby hml hown _ i it pl (1 : Int32) .unset _ _ _ rfl One.u (own_HO0 hIV hin) X3 e3 N0 Z0 F_items_o0 F_keys_o0 F_place_o0 E_o0 F_size_o0 A_ti A_tk A_tp
  have F_items_o0_7 : Fld Z h6 o0 "com/example/lean_layers/leanlayers/phase/layering/IndexedHeap" "items" "[I" (.ref ti) := (F_items_o0).keep Kc6 (ninS ne_o0_ti (ninS ne_o0_tp nin0))
  have F_keys_o0_7 : Fld Z h6 o0 "com/example/lean_layers/leanlayers/phase/layering/IndexedHeap" "keys" "[J" (.ref tk) := (F_keys_o0).keep Kc6 (ninS ne_o0_ti (ninS ne_o0_tp nin0))
  have F_place_o0_7 : Fld Z h6 o0 "com/example/lean_layers/leanlayers/phase/layering/IndexedHeap" "place" "[I" (.ref tp) := (F_place_o0).keep Kc6 (ninS ne_o0_ti (ninS ne_o0_tp nin0))
  have E_o0_7 : Exa Z h6 o0 "com/example/lean_layers/leanlayers/phase/layering/IndexedHeap" := (E_o0).keep Kc6
  have F_size_o0_7 : Fld Z h6 o0 "com/example/lean_layers/leanlayers/phase/layering/IndexedHeap" "size" "I" (.int (n.toInt32)) := (F_size_o0).keep Kc6 (ninS ne_o0_ti (ninS ne_o0_tp nin0))
  have A_tk_7 : own_A Z h6 tk .long 4 (fun kk => (.long (ky kk))) := (A_tk).keep Kc6 (ninS (Ne.symm ne_ti_tk) (ninS ne_tk_tp nin0))
  have SZ8 : h0.size ≤ h6.size := Nat.le_trans (Nat.le_refl _) Kc6.1
  have ZZ8 : n0 ≤ h6.size := Nat.le_trans Z0 SZ8
  have K9 : Keep h0 h6 [ti, tp] := ((Keep.refl h0 [ti, tp])).trans Kc6 (allS (Or.inl (List.mem_of_getElem? (i := 0) rfl)) (allS (Or.inl (List.mem_of_getElem? (i := 1) rfl)) all0))
  have hic6 : i6 < 4 := Nat.lt_of_lt_of_le hH6.1 hH6.2.2.1.1
  obtain ⟨cq10, q10, q10'⟩ := (E_o0_7).cell
  obtain ⟨_, _, ⟨T10, L10, k10, n10⟩, -, X10, ⟨Lc10, hQ10, l10, y10, z10⟩, st10⟩ := X6.privateBack hx (y := (⟨"com/example/lean_layers/leanlayers/phase/layering/IndexedHeap", "setAt", "(II)V"⟩ : MethodName)) hown (mvT hZ (hw _ (List.mem_of_getElem? (i := 42) rfl))) (mvT hZ (hw _ (List.mem_of_getElem? (i := 43) rfl))) (own_selp (y := (⟨"com/example/lean_layers/leanlayers/phase/layering/IndexedHeap", "setAt", "(II)V"⟩ : MethodName)) (mvT hZ (hw _ (List.mem_of_getElem? (i := 1) rfl))) (Cond.privateMethod_at (mvP hZ (hw _ (List.mem_of_getElem? (i := 44) rfl)) (args := #[]))) (mvT hZ (hw _ (List.mem_of_getElem? (i := 43) rfl))) (by decide)) (Cond.privateMethod_at (mvP hZ (hw _ (List.mem_of_getElem? (i := 44) rfl)) (args := #[]))) (mvT hZ (hw _ (List.mem_of_getElem? (i := 45) rfl))) (by decide) (backOf (W := 0) (rm8 l Z a0 hw [] o0 (i6.toInt32) ((it i).toInt32) ti tp f6 g6 i6 (it i) h6 n0 ZZ8 F_items_o0_7 F_place_o0_7 E_o0_7 Pa6 Pb6 g_ti g_tp ne_o0_ti ne_o0_tp ne_ti_tp rfl rfl hic6 hH6.2.1) hZ (hw _ (List.mem_of_getElem? (i := 45) rfl)) (hw _ (List.mem_of_getElem? (i := 2) rfl)) (by decide) (by decide)) (g := (mkF m 107 #[.val (.ref o0), .val (.int (i6.toInt32)), .val (.int ((it i).toInt32)), .val (.int k6), s6] [(.int ((it i).toInt32)), (.int (i6.toInt32)), (.ref o0)])) rfl (by rw [hml]; rfl) (Steps.refl _) (a := o0) (by rw [e6]; exact q10) q10' (argsL := [(.int (i6.toInt32)), (.int ((it i).toInt32))]) (rest := []) (lenOf pd_2 rfl) rfl (by show 2 * 0 + _ ≤ _; exact Nat.le_of_eq rfl) (hb hby d9_107) (fun _ _ => ⟨rfl, e6, (by decide : 0 + 0 ≤ _), (by decide : 0 + 0 ≤ _)⟩)
  dsimp only [Pt.U, Pt.locs, Pt.cells, Pt.slots] at X10 l10 y10 z10 st10 hQ10
  subst y10 z10
  obtain ⟨rfl, N10q, Kc10, P10_0, P10_1⟩ := hQ10
  have N10 := Fr.app N6 N10q
  rw [← l10] at N10
  have F_items_o0_11 : Fld Z T10.heap o0 "com/example/lean_layers/leanlayers/phase/layering/IndexedHeap" "items" "[I" (.ref ti) := (F_items_o0_7).keep Kc10 (ninS ne_o0_ti (ninS ne_o0_tp nin0))
  have F_keys_o0_11 : Fld Z T10.heap o0 "com/example/lean_layers/leanlayers/phase/layering/IndexedHeap" "keys" "[J" (.ref tk) := (F_keys_o0_7).keep Kc10 (ninS ne_o0_ti (ninS ne_o0_tp nin0))
  have F_place_o0_11 : Fld Z T10.heap o0 "com/example/lean_layers/leanlayers/phase/layering/IndexedHeap" "place" "[I" (.ref tp) := (F_place_o0_7).keep Kc10 (ninS ne_o0_ti (ninS ne_o0_tp nin0))
  have E_o0_11 : Exa Z T10.heap o0 "com/example/lean_layers/leanlayers/phase/layering/IndexedHeap" := (E_o0_7).keep Kc10
  have F_size_o0_11 : Fld Z T10.heap o0 "com/example/lean_layers/leanlayers/phase/layering/IndexedHeap" "size" "I" (.int (n.toInt32)) := (F_size_o0_7).keep Kc10 (ninS ne_o0_ti (ninS ne_o0_tp nin0))
  have A_tk_11 : own_A Z T10.heap tk .long 4 (fun kk => (.long (ky kk))) := (A_tk_7).keep Kc10 (ninS (Ne.symm ne_ti_tk) (ninS ne_tk_tp nin0))
  have SZ12 : h0.size ≤ T10.heap.size := Nat.le_trans SZ8 Kc10.1
  have ZZ12 : n0 ≤ T10.heap.size := Nat.le_trans Z0 SZ12
  have K13 : Keep h0 T10.heap [ti, tp] := (K9).trans Kc10 (allS (Or.inl (List.mem_of_getElem? (i := 0) rfl)) (allS (Or.inl (List.mem_of_getElem? (i := 1) rfl)) all0))
  have pre14 : ∀ t, Steps p.tables e below (T10.setTop (mkF m 110 #[.val (.ref o0), .val (.int (i6.toInt32)), .val (.int ((it i).toInt32)), .val (.int k6), s6] [])) t → Steps p.tables e below (s₁.setTop (entryFrame m #[(.ref o0), (.int p1)] 5)) t := fun t k => pre2 t (by
    show Steps p.tables e below (s₁.setTop (mkF m 0 #[.val (.ref o0), .val (.int (i.toInt32)), .unset, .unset, .unset] [])) _
    refine XS.aloadN X0.here hx rfl (hb hby d9_0) rfl rfl ?_
    show Steps p.tables e below (s₁.setTop (mkF m 1 #[.val (.ref o0), .val (.int (i.toInt32)), .unset, .unset, .unset] [(.ref o0)])) _
    refine st3 _ ?_
    show Steps p.tables e below (T3.setTop (mkF m 4 #[.val (.ref o0), .val (.int (i.toInt32)), .unset, .unset, .unset] [(.ref ti)])) _
    refine XS.iloadN X3.here hx rfl (hb hby d9_4) rfl ?_
    show Steps p.tables e below (T3.setTop (mkF m 5 #[.val (.ref o0), .val (.int (i.toInt32)), .unset, .unset, .unset] [(.int (i.toInt32)), (.ref ti)])) _
    refine X3.iaload hx (j := (i.toInt32)) (v := (.int ((it i).toInt32))) (by rw [e3]; exact Ar4.1) (State.isArrayOf_alike hZ.alike Ar4.2.1) Ar4.2.2 (own_in Sz4 hi5) hl5 (g := (mkF m 5 #[.val (.ref o0), .val (.int (i.toInt32)), .unset, .unset, .unset] [(.int (i.toInt32)), (.ref ti)])) rfl rfl (hb hby d9_5) _ ?_
    show Steps p.tables e below (T3.setTop (mkF m 6 #[.val (.ref o0), .val (.int (i.toInt32)), .unset, .unset, .unset] [(.int ((it i).toInt32))])) _
    refine XS.istoreN X3.here hx rfl (hb hby d9_6) rfl (l' := #[.val (.ref o0), .val (.int (i.toInt32)), .val (.int ((it i).toInt32)), .unset, .unset]) rfl ?_
    show Steps p.tables e below (T3.setTop (mkF m 7 #[.val (.ref o0), .val (.int (i.toInt32)), .val (.int ((it i).toInt32)), .unset, .unset] [])) _
    refine XS.iconst X3.here hx rfl (hb hby d9_7) ?_
    show Steps p.tables e below (T3.setTop (mkF m 8 #[.val (.ref o0), .val (.int (i.toInt32)), .val (.int ((it i).toInt32)), .unset, .unset] [(.int (1 : Int32))])) _
    refine XS.istoreN X3.here hx rfl (hb hby d9_8) rfl (l' := #[.val (.ref o0), .val (.int (i.toInt32)), .val (.int ((it i).toInt32)), .val (.int (1 : Int32)), .unset]) rfl ?_
    show Steps p.tables e below (T3.setTop (mkF m 9 #[.val (.ref o0), .val (.int (i.toInt32)), .val (.int ((it i).toInt32)), .val (.int (1 : Int32)), .unset] [])) _
    refine st6 _ ?_
    show Steps p.tables e below (T6.setTop (mkF m 104 #[.val (.ref o0), .val (.int (i6.toInt32)), .val (.int ((it i).toInt32)), .val (.int k6), s6] [])) _
    refine XS.aloadN X6.here hx rfl (hb hby d9_104) rfl rfl ?_
    show Steps p.tables e below (T6.setTop (mkF m 105 #[.val (.ref o0), .val (.int (i6.toInt32)), .val (.int ((it i).toInt32)), .val (.int k6), s6] [(.ref o0)])) _
    refine XS.iloadN X6.here hx rfl (hb hby d9_105) rfl ?_
    show Steps p.tables e below (T6.setTop (mkF m 106 #[.val (.ref o0), .val (.int (i6.toInt32)), .val (.int ((it i).toInt32)), .val (.int k6), s6] [(.int (i6.toInt32)), (.ref o0)])) _
    refine XS.iloadN X6.here hx rfl (hb hby d9_106) rfl ?_
    show Steps p.tables e below (T6.setTop (mkF m 107 #[.val (.ref o0), .val (.int (i6.toInt32)), .val (.int ((it i).toInt32)), .val (.int k6), s6] [(.int ((it i).toInt32)), (.int (i6.toInt32)), (.ref o0)])) _
    refine st10.trans ?_
    show Steps p.tables e below (T10.setTop (mkF m 110 #[.val (.ref o0), .val (.int (i6.toInt32)), .val (.int ((it i).toInt32)), .val (.int k6), s6] [])) _
    exact k)
  obtain ⟨fs, hr, hrun, hended, hW, hsame⟩ := X10.leave (v := none) (fun _ => rfl)
  refine ⟨_, _, pre14 _ ?_, hrun, hended, _, _, rfl, ?_, ⟨_, rfl⟩, hW, hsame.mono (by decide) (by decide)⟩
  · exact X10.returnOut hx Bd.returns (hb hby d9_110) hr
  · show Q9 Z o0 p1 ti tk tp ky it pl n i h0 n0 _ T10.heap _
    skip
    exact ⟨(own_u f6 i6 (it i)), (own_u g6 (it i) (i6 + 1)), rfl, N10, K13, P10_0, P10_1, hH6.2.2.1, hH6.2.2.2⟩
theorem d6_0 : decode prog_55_method_5_code 0 = .ok (.aload_n 0, 1) := by decide +kernel
theorem d6_1 : decode prog_55_method_5_code 1 = .ok (.getfield 17, 3) := by decide +kernel
theorem d6_4 : decode prog_55_method_5_code 4 = .ok (.iload_n 1, 1) := by decide +kernel
theorem d6_5 : decode prog_55_method_5_code 5 = .ok (.iaload, 1) := by decide +kernel
theorem d6_6 : decode prog_55_method_5_code 6 = .ok (.ifCond .ge 33, 3) := by decide +kernel
theorem d6_9 : decode prog_55_method_5_code 9 = .ok (.aload_n 0, 1) := by decide +kernel
theorem d6_10 : decode prog_55_method_5_code 10 = .ok (.getfield 17, 3) := by decide +kernel
theorem d6_13 : decode prog_55_method_5_code 13 = .ok (.iload_n 1, 1) := by decide +kernel
theorem d6_14 : decode prog_55_method_5_code 14 = .ok (.aload_n 0, 1) := by decide +kernel
theorem d6_15 : decode prog_55_method_5_code 15 = .ok (.getfield 26, 3) := by decide +kernel
theorem d6_18 : decode prog_55_method_5_code 18 = .ok (.iastore, 1) := by decide +kernel
theorem d6_19 : decode prog_55_method_5_code 19 = .ok (.aload_n 0, 1) := by decide +kernel
theorem d6_20 : decode prog_55_method_5_code 20 = .ok (.getfield 7, 3) := by decide +kernel
theorem d6_23 : decode prog_55_method_5_code 23 = .ok (.aload_n 0, 1) := by decide +kernel
theorem d6_24 : decode prog_55_method_5_code 24 = .ok (.getfield 26, 3) := by decide +kernel
theorem d6_27 : decode prog_55_method_5_code 27 = .ok (.iload_n 1, 1) := by decide +kernel
theorem d6_28 : decode prog_55_method_5_code 28 = .ok (.iastore, 1) := by decide +kernel
theorem d6_29 : decode prog_55_method_5_code 29 = .ok (.aload_n 0, 1) := by decide +kernel
theorem d6_30 : decode prog_55_method_5_code 30 = .ok (.dup, 1) := by decide +kernel
theorem d6_31 : decode prog_55_method_5_code 31 = .ok (.getfield 26, 3) := by decide +kernel
theorem d6_34 : decode prog_55_method_5_code 34 = .ok (.iconst 1, 1) := by decide +kernel
theorem d6_35 : decode prog_55_method_5_code 35 = .ok (.iadd, 1) := by decide +kernel
theorem d6_36 : decode prog_55_method_5_code 36 = .ok (.putfield 26, 3) := by decide +kernel
theorem d6_39 : decode prog_55_method_5_code 39 = .ok (.aload_n 0, 1) := by decide +kernel
theorem d6_40 : decode prog_55_method_5_code 40 = .ok (.getfield 13, 3) := by decide +kernel
theorem d6_43 : decode prog_55_method_5_code 43 = .ok (.iload_n 1, 1) := by decide +kernel
theorem d6_44 : decode prog_55_method_5_code 44 = .ok (.lload_n 2, 1) := by decide +kernel
theorem d6_45 : decode prog_55_method_5_code 45 = .ok (.lastore, 1) := by decide +kernel
theorem d6_46 : decode prog_55_method_5_code 46 = .ok (.aload_n 0, 1) := by decide +kernel
theorem d6_47 : decode prog_55_method_5_code 47 = .ok (.aload_n 0, 1) := by decide +kernel
theorem d6_48 : decode prog_55_method_5_code 48 = .ok (.getfield 17, 3) := by decide +kernel
theorem d6_51 : decode prog_55_method_5_code 51 = .ok (.iload_n 1, 1) := by decide +kernel
theorem d6_52 : decode prog_55_method_5_code 52 = .ok (.iaload, 1) := by decide +kernel
theorem d6_53 : decode prog_55_method_5_code 53 = .ok (.invokevirtual 41, 3) := by decide +kernel
theorem d6_56 : decode prog_55_method_5_code 56 = .ok (.aload_n 0, 1) := by decide +kernel
theorem d6_57 : decode prog_55_method_5_code 57 = .ok (.aload_n 0, 1) := by decide +kernel
theorem d6_58 : decode prog_55_method_5_code 58 = .ok (.getfield 17, 3) := by decide +kernel
theorem d6_61 : decode prog_55_method_5_code 61 = .ok (.iload_n 1, 1) := by decide +kernel
theorem d6_62 : decode prog_55_method_5_code 62 = .ok (.iaload, 1) := by decide +kernel
theorem d6_63 : decode prog_55_method_5_code 63 = .ok (.invokevirtual 45, 3) := by decide +kernel
theorem d6_66 : decode prog_55_method_5_code 66 = .ok (.return_, 1) := by decide +kernel
theorem pd_3 : parseMethodDescriptor "(I)V" = some ⟨[.int], none⟩ := by decide +kernel
theorem ef_6 (m : MethodId) (o0 : Addr) (p1 : Int32) (q2 : Int64) : entryFrame m #[(.ref o0), (.int p1), (.long q2)] 4 = mkF m 0 #[.val (.ref o0), .val (.int p1), .val (.long q2), .second] [] := by first | (simp [entryFrame, mkF, argsToLocals, Value.category]; done) | rfl

def Q6 (Z : State) (o0 : Addr) (p1 : Int32) (q2 : Int64) (ti tk tp : Addr) (ky : Nat → Int64) (it pl : Nat → Nat) (n xi : Nat) (h0 : Heap) (n0 : Nat) (v : Option Value) (h : Heap) (L : List Loc) : Prop := ∃ (n2 : Nat) (it2 : Nat → Nat) (pl2 : Nat → Nat), v = none ∧ Fr n0 L ∧ Keep h0 h [ti, tk, tp, o0] ∧ (Fld Z h o0 "com/example/lean_layers/leanlayers/phase/layering/IndexedHeap" "size" "I" (.int (n2.toInt32))) ∧ (Fld Z h o0 "com/example/lean_layers/leanlayers/phase/layering/IndexedHeap" "items" "[I" (.ref ti)) ∧ (Fld Z h o0 "com/example/lean_layers/leanlayers/phase/layering/IndexedHeap" "keys" "[J" (.ref tk)) ∧ (Fld Z h o0 "com/example/lean_layers/leanlayers/phase/layering/IndexedHeap" "place" "[I" (.ref tp)) ∧ (own_A Z h ti .int 4 (fun kk => (.int ((it2 kk).toInt32)))) ∧ (own_A Z h tk .long 4 (fun kk => (.long ((own_uk ky xi q2) kk)))) ∧ (own_A Z h tp .int 4 (fun kk => (.int (own_pl (pl2 kk))))) ∧ (own_IV 4 n2 it2 pl2) ∧ (∀ y, y < 4 → (pl2 y = 0 ↔ y ≠ xi ∧ pl y = 0))
set_option maxRecDepth 65536 in
set_option maxHeartbeats 40000000 in
theorem rm6 (l : Launch) (Z : State) (a0 : Array Value) (hw : ∀ d ∈ tables_1, d.before a0 Z = true) (ws : List Jvm.Cond) (o0 : Addr) (p1 : Int32) (q2 : Int64) (ti tk tp : Addr) (ky : Nat → Int64) (it pl : Nat → Nat) (n xi : Nat) (h0 : Heap) (n0 : Nat) (Z0 : n0 ≤ h0.size) (F_items_o0 : Fld Z h0 o0 "com/example/lean_layers/leanlayers/phase/layering/IndexedHeap" "items" "[I" (.ref ti)) (F_keys_o0 : Fld Z h0 o0 "com/example/lean_layers/leanlayers/phase/layering/IndexedHeap" "keys" "[J" (.ref tk)) (F_place_o0 : Fld Z h0 o0 "com/example/lean_layers/leanlayers/phase/layering/IndexedHeap" "place" "[I" (.ref tp)) (E_o0 : Exa Z h0 o0 "com/example/lean_layers/leanlayers/phase/layering/IndexedHeap") (F_size_o0 : Fld Z h0 o0 "com/example/lean_layers/leanlayers/phase/layering/IndexedHeap" "size" "I" (.int (n.toInt32))) (A_ti : own_A Z h0 ti .int 4 (fun kk => (.int ((it kk).toInt32)))) (A_tk : own_A Z h0 tk .long 4 (fun kk => (.long (ky kk)))) (A_tp : own_A Z h0 tp .int 4 (fun kk => (.int (own_pl (pl kk))))) (g_ti : n0 ≤ ti) (g_tk : n0 ≤ tk) (g_tp : n0 ≤ tp) (g_o0 : n0 ≤ o0) (ne_o0_ti : o0 ≠ ti) (ne_o0_tk : o0 ≠ tk) (ne_o0_tp : o0 ≠ tp) (ne_ti_tk : ti ≠ tk) (ne_ti_tp : ti ≠ tp) (ne_tk_tp : tk ≠ tp) (hp1 : p1 = (xi.toInt32)) (hxc : xi < 4) (hIV : own_IV 4 n it pl) :
    MetFree l (⟨"com/example/lean_layers/leanlayers/phase/layering/IndexedHeap", "put", "(IJ)V"⟩ : MethodName) (head1 (Jvm.Cond.code (⟨"com/example/lean_layers/leanlayers/phase/layering/IndexedHeap", "put", "(IJ)V"⟩ : MethodName) prog_55_method_5_code 4 none :: ws) ({ frames := 3, cells := 0, slots := 0, locals := 56 } : Room)) (fun a U => a = #[(.ref o0), (.int p1), (.long q2)] ∧ Z.Warmed39 U.vm ∧ U.heap = h0) (fun _ _ _ _ _ => True) (fun _ U o U' => ∃ v L, o = .returned v ∧ Q6 Z o0 p1 q2 ti tk tp ky it pl n xi h0 n0 v U'.heap L ∧ FrameEnd U o U' L ({ frames := 3, cells := 0, slots := 0, locals := 56 } : Room).cells ({ frames := 3, cells := 0, slots := 0, locals := 56 } : Room).slots) := by
  refine MetFree.of_bodySF (plainFor_of_name pn_1) hisR ?_
  intro p e s m args below meth c s₁ Bd hml0 hP hK
  obtain ⟨rfl, hZ, hh⟩ := hP
  have hx := Bd.exec
  have hby := Bd.bytes
  have hml : c.maxLocals = 4 := hml0
  have hown : s.vm.findClass "com/example/lean_layers/leanlayers/phase/layering/IndexedHeap" = some m.cls := findClass_of_methodNamed Bd.named
  have hnm := (name_of_methodNamed Bd.named Bd.method).1
  have X0 : Stand p l e ({ frames := 3, cells := 0, slots := 0, locals := 56 } : Room) s m #[(.ref o0), (.int p1), (.long q2)] below meth c s₁ [] 0 0 := Stand.of_body Bd
  have e0 : s₁.heap = h0 := by rw [← hh, Bd.state]; rfl
  have N0 := Fr.nil n0
  have pre0 : ∀ t, Steps p.tables e below (s₁.setTop (mkF m 0 #[.val (.ref o0), .val (.int p1), .val (.long q2), .second] [])) t → Steps p.tables e below (s₁.setTop (entryFrame m #[(.ref o0), (.int p1), (.long q2)] 4)) t := fun t k => castTop (ef_6 m o0 p1 q2) k
  have hnc : n ≤ 4 := hIV.1
  have pre1 : ∀ t, Steps p.tables e below (s₁.setTop (mkF m 0 #[.val (.ref o0), .val (.int p1), .val (.long q2), .second] [])) t → Steps p.tables e below (s₁.setTop (entryFrame m #[(.ref o0), (.int p1), (.long q2)] 4)) t := fun t k => pre0 t (by
    show Steps p.tables e below (s₁.setTop (mkF m 0 #[.val (.ref o0), .val (.int p1), .val (.long q2), .second] [])) _
    exact k)
  have hre2 : p1 = (xi.toInt32) := hp1
  have pre2 : ∀ t, Steps p.tables e below (s₁.setTop (mkF m 0 #[.val (.ref o0), .val (.int (xi.toInt32)), .val (.long q2), .second] [])) t → Steps p.tables e below (s₁.setTop (entryFrame m #[(.ref o0), (.int p1), (.long q2)] 4)) t := fun t k => pre1 t (by rw [hre2]; exact k)
  have hplb : pl xi ≤ 4 := by
    rcases hIV.2.2.2 xi hxc with q | ⟨j, j1, j2, -⟩ <;> omega
  obtain ⟨T3, X3, e3, st3⟩ := getF X0 hx hZ hown (host := "") (Or.inl (hw _ (List.mem_of_getElem? (i := 15) rfl))) Via.refl e0 F_place_o0 (g := (mkF m 1 #[.val (.ref o0), .val (.int (xi.toInt32)), .val (.long q2), .second] [(.ref o0)])) rfl rfl (hb hby d6_1)
  have qa4 := A_tp
  obtain ⟨c4, Ar4, Sz4, H4⟩ := qa4
  have hi5 : 0 ≤ ((xi.toInt32) : Int32).toInt ∧ ((xi.toInt32) : Int32).toInt < (4 : Nat) := (own_bd (show xi < 4 by omega) (by decide))
  have hl5 : c4.slots[((xi.toInt32) : Int32).toNatClampNeg]? = some (.int (own_pl (pl xi))) := by rw [show (own_pl (pl xi)) = ((own_pl (pl ((xi.toInt32) : Int32).toNatClampNeg))) from by rw [own_tn (show xi < 2147483648 by omega)]]; exact H4 _ (own_ix hi5)
  have pre6 : ∀ t, Steps p.tables e below (T3.setTop (mkF m 6 #[.val (.ref o0), .val (.int (xi.toInt32)), .val (.long q2), .second] [(.int (own_pl (pl xi)))])) t → Steps p.tables e below (s₁.setTop (entryFrame m #[(.ref o0), (.int p1), (.long q2)] 4)) t := fun t k => pre2 t (by
    show Steps p.tables e below (s₁.setTop (mkF m 0 #[.val (.ref o0), .val (.int (xi.toInt32)), .val (.long q2), .second] [])) _
    refine XS.aloadN X0.here hx rfl (hb hby d6_0) rfl rfl ?_
    show Steps p.tables e below (s₁.setTop (mkF m 1 #[.val (.ref o0), .val (.int (xi.toInt32)), .val (.long q2), .second] [(.ref o0)])) _
    refine st3 _ ?_
    show Steps p.tables e below (T3.setTop (mkF m 4 #[.val (.ref o0), .val (.int (xi.toInt32)), .val (.long q2), .second] [(.ref tp)])) _
    refine XS.iloadN X3.here hx rfl (hb hby d6_4) rfl ?_
    show Steps p.tables e below (T3.setTop (mkF m 5 #[.val (.ref o0), .val (.int (xi.toInt32)), .val (.long q2), .second] [(.int (xi.toInt32)), (.ref tp)])) _
    refine X3.iaload hx (j := (xi.toInt32)) (v := (.int (own_pl (pl xi)))) (by rw [e3]; exact Ar4.1) (State.isArrayOf_alike hZ.alike Ar4.2.1) Ar4.2.2 (own_in Sz4 hi5) hl5 (g := (mkF m 5 #[.val (.ref o0), .val (.int (xi.toInt32)), .val (.long q2), .second] [(.int (xi.toInt32)), (.ref tp)])) rfl rfl (hb hby d6_5) _ ?_
    show Steps p.tables e below (T3.setTop (mkF m 6 #[.val (.ref o0), .val (.int (xi.toInt32)), .val (.long q2), .second] [(.int (own_pl (pl xi)))])) _
    exact k)
  by_cases hs7 : (own_pl (pl xi)) < (0 : Int32)
  · have hz : pl xi = 0 := (own_pl_neg (by omega)).mp hs7
    have hnn : n < 4 := own_room4 hIV hxc hz
    obtain ⟨T8, X8, e8, st8⟩ := getF X3 hx hZ hown (host := "") (Or.inl (hw _ (List.mem_of_getElem? (i := 15) rfl))) Via.refl e3 F_place_o0 (g := (mkF m 10 #[.val (.ref o0), .val (.int (xi.toInt32)), .val (.long q2), .second] [(.ref o0)])) rfl rfl (hb hby d6_10)
    obtain ⟨T9, X9, e9, st9⟩ := getF X8 hx hZ hown (host := "") (Or.inl (hw _ (List.mem_of_getElem? (i := 26) rfl))) Via.refl e8 F_size_o0 (g := (mkF m 15 #[.val (.ref o0), .val (.int (xi.toInt32)), .val (.long q2), .second] [(.ref o0), (.int (xi.toInt32)), (.ref tp)])) rfl rfl (hb hby d6_15)
    have qa10 := A_tp
    obtain ⟨c10, Ar10, Sz10, H10⟩ := qa10
    have hi11 : 0 ≤ ((xi.toInt32) : Int32).toInt ∧ ((xi.toInt32) : Int32).toInt < (4 : Nat) := (own_bd (show xi < 4 by omega) (by decide))
    obtain ⟨T11, h11, X11, e11, W11, st11⟩ := stI X9 hx hZ e9 Ar10 (j := (xi.toInt32)) (own_in Sz10 hi11) (g := (mkF m 18 #[.val (.ref o0), .val (.int (xi.toInt32)), .val (.long q2), .second] [(.int (n.toInt32)), (.int (xi.toInt32)), (.ref tp)])) rfl rfl (hb hby d6_18)
    have N11 := Fr.snoc X11 N0 g_tp
    have A_tp_w11 : own_A Z h11 tp .int 4 (fun kk => (.int (if kk = ((xi.toInt32) : Int32).toNatClampNeg then (n.toInt32) else (own_pl (pl kk))))) := own_A.setI A_tp W11
    have A_tp_w11u : own_A Z h11 tp .int 4 (fun kk => (.int (own_pl ((own_u pl xi (n + 1)) kk)))) := own_setpl A_tp_w11 (show xi < 2147483648 by omega)
    have F_items_o0_12 : Fld Z h11 o0 "com/example/lean_layers/leanlayers/phase/layering/IndexedHeap" "items" "[I" (.ref ti) := (F_items_o0).other W11 (Or.inl ne_o0_tp)
    have F_keys_o0_12 : Fld Z h11 o0 "com/example/lean_layers/leanlayers/phase/layering/IndexedHeap" "keys" "[J" (.ref tk) := (F_keys_o0).other W11 (Or.inl ne_o0_tp)
    have F_place_o0_12 : Fld Z h11 o0 "com/example/lean_layers/leanlayers/phase/layering/IndexedHeap" "place" "[I" (.ref tp) := (F_place_o0).other W11 (Or.inl ne_o0_tp)
    have E_o0_12 : Exa Z h11 o0 "com/example/lean_layers/leanlayers/phase/layering/IndexedHeap" := (E_o0).wr W11
    have F_size_o0_12 : Fld Z h11 o0 "com/example/lean_layers/leanlayers/phase/layering/IndexedHeap" "size" "I" (.int (n.toInt32)) := (F_size_o0).other W11 (Or.inl ne_o0_tp)
    have A_ti_12 : own_A Z h11 ti .int 4 (fun kk => (.int ((it kk).toInt32))) := (A_ti).other W11 ne_ti_tp
    have A_tk_12 : own_A Z h11 tk .long 4 (fun kk => (.long (ky kk))) := (A_tk).other W11 ne_tk_tp
    have SZ13 : h0.size ≤ h11.size := by rw [W11.size]; exact (Nat.le_refl _)
    have ZZ13 : n0 ≤ h11.size := Nat.le_trans Z0 SZ13
    have K14 : Keep h0 h11 [ti, tk, tp, o0] := ((Keep.refl h0 [ti, tk, tp, o0])).wr W11 (Or.inl (List.mem_of_getElem? (i := 2) rfl))
    obtain ⟨T15, X15, e15, st15⟩ := getF X11 hx hZ hown (host := "") (Or.inl (hw _ (List.mem_of_getElem? (i := 10) rfl))) Via.refl e11 F_items_o0_12 (g := (mkF m 20 #[.val (.ref o0), .val (.int (xi.toInt32)), .val (.long q2), .second] [(.ref o0)])) rfl rfl (hb hby d6_20)
    obtain ⟨T16, X16, e16, st16⟩ := getF X15 hx hZ hown (host := "") (Or.inl (hw _ (List.mem_of_getElem? (i := 26) rfl))) Via.refl e15 F_size_o0_12 (g := (mkF m 24 #[.val (.ref o0), .val (.int (xi.toInt32)), .val (.long q2), .second] [(.ref o0), (.ref ti)])) rfl rfl (hb hby d6_24)
    have qa17 := A_ti_12
    obtain ⟨c17, Ar17, Sz17, H17⟩ := qa17
    have hi18 : 0 ≤ ((n.toInt32) : Int32).toInt ∧ ((n.toInt32) : Int32).toInt < (4 : Nat) := (own_bd (show n < 4 by omega) (by decide))
    obtain ⟨T18, h18, X18, e18, W18, st18⟩ := stI X16 hx hZ e16 Ar17 (j := (n.toInt32)) (own_in Sz17 hi18) (g := (mkF m 28 #[.val (.ref o0), .val (.int (xi.toInt32)), .val (.long q2), .second] [(.int (xi.toInt32)), (.int (n.toInt32)), (.ref ti)])) rfl rfl (hb hby d6_28)
    have N18 := Fr.snoc X18 N11 g_ti
    have A_ti_w18 : own_A Z h18 ti .int 4 (fun kk => (.int (if kk = ((n.toInt32) : Int32).toNatClampNeg then (xi.toInt32) else ((it kk).toInt32)))) := own_A.setI A_ti_12 W18
    have A_ti_w18u : own_A Z h18 ti .int 4 (fun kk => (.int (((own_u it n xi) kk).toInt32))) := own_setit A_ti_w18 (show n < 2147483648 by omega)
    have F_items_o0_19 : Fld Z h18 o0 "com/example/lean_layers/leanlayers/phase/layering/IndexedHeap" "items" "[I" (.ref ti) := (F_items_o0_12).other W18 (Or.inl ne_o0_ti)
    have F_keys_o0_19 : Fld Z h18 o0 "com/example/lean_layers/leanlayers/phase/layering/IndexedHeap" "keys" "[J" (.ref tk) := (F_keys_o0_12).other W18 (Or.inl ne_o0_ti)
    have F_place_o0_19 : Fld Z h18 o0 "com/example/lean_layers/leanlayers/phase/layering/IndexedHeap" "place" "[I" (.ref tp) := (F_place_o0_12).other W18 (Or.inl ne_o0_ti)
    have E_o0_19 : Exa Z h18 o0 "com/example/lean_layers/leanlayers/phase/layering/IndexedHeap" := (E_o0_12).wr W18
    have F_size_o0_19 : Fld Z h18 o0 "com/example/lean_layers/leanlayers/phase/layering/IndexedHeap" "size" "I" (.int (n.toInt32)) := (F_size_o0_12).other W18 (Or.inl ne_o0_ti)
    have A_tk_19 : own_A Z h18 tk .long 4 (fun kk => (.long (ky kk))) := (A_tk_12).other W18 (Ne.symm ne_ti_tk)
    have A_tp_19 : own_A Z h18 tp .int 4 (fun kk => (.int (own_pl ((own_u pl xi (n + 1)) kk)))) := (A_tp_w11u).other W18 (Ne.symm ne_ti_tp)
    have SZ20 : h0.size ≤ h18.size := by rw [W18.size]; exact SZ13
    have ZZ20 : n0 ≤ h18.size := Nat.le_trans Z0 SZ20
    have K21 : Keep h0 h18 [ti, tk, tp, o0] := (K14).wr W18 (Or.inl (List.mem_of_getElem? (i := 0) rfl))
    obtain ⟨T22, X22, e22, st22⟩ := getF X18 hx hZ hown (host := "") (Or.inl (hw _ (List.mem_of_getElem? (i := 26) rfl))) Via.refl e18 F_size_o0_19 (g := (mkF m 31 #[.val (.ref o0), .val (.int (xi.toInt32)), .val (.long q2), .second] [(.ref o0), (.ref o0)])) rfl rfl (hb hby d6_31)
    obtain ⟨T23, h23, X23, e23, W23, st23⟩ := putF X22 hx hZ hown (host := "") (Or.inl (hw _ (List.mem_of_getElem? (i := 26) rfl))) Via.refl e22 F_size_o0_19 E_o0_19 (Or.inl (hw _ (List.mem_of_getElem? (i := 27) rfl))) (hw _ (List.mem_of_getElem? (i := 1) rfl)) (ty := .int) (by decide) rfl rfl (g := (mkF m 36 #[.val (.ref o0), .val (.int (xi.toInt32)), .val (.long q2), .second] [(.int ((n.toInt32) + (1 : Int32))), (.ref o0)])) rfl rfl (hb hby d6_36)
    have N23 := Fr.snoc X23 N18 g_o0
    have F_size_o0_w23 : Fld Z h23 o0 "com/example/lean_layers/leanlayers/phase/layering/IndexedHeap" "size" "I" (.int ((n.toInt32) + (1 : Int32))) := (F_size_o0_19).same W23
    have F_items_o0_24 : Fld Z h23 o0 "com/example/lean_layers/leanlayers/phase/layering/IndexedHeap" "items" "[I" (.ref ti) := (F_items_o0_19).other W23 (Or.inr (slot_ne (Or.inr (hw _ (List.mem_of_getElem? (i := 11) rfl))) (Or.inl (hw _ (List.mem_of_getElem? (i := 27) rfl))) (by decide) (t := (.array .int)) (t' := .int) (by decide) (by decide)))
    have F_keys_o0_24 : Fld Z h23 o0 "com/example/lean_layers/leanlayers/phase/layering/IndexedHeap" "keys" "[J" (.ref tk) := (F_keys_o0_19).other W23 (Or.inr (slot_ne (Or.inr (hw _ (List.mem_of_getElem? (i := 14) rfl))) (Or.inl (hw _ (List.mem_of_getElem? (i := 27) rfl))) (by decide) (t := (.array .long)) (t' := .int) (by decide) (by decide)))
    have F_place_o0_24 : Fld Z h23 o0 "com/example/lean_layers/leanlayers/phase/layering/IndexedHeap" "place" "[I" (.ref tp) := (F_place_o0_19).other W23 (Or.inr (slot_ne (Or.inr (hw _ (List.mem_of_getElem? (i := 16) rfl))) (Or.inl (hw _ (List.mem_of_getElem? (i := 27) rfl))) (by decide) (t := (.array .int)) (t' := .int) (by decide) (by decide)))
    have E_o0_24 : Exa Z h23 o0 "com/example/lean_layers/leanlayers/phase/layering/IndexedHeap" := (E_o0_19).wr W23
    have A_tk_24 : own_A Z h23 tk .long 4 (fun kk => (.long (ky kk))) := (A_tk_19).other W23 (Ne.symm ne_o0_tk)
    have A_tp_24 : own_A Z h23 tp .int 4 (fun kk => (.int (own_pl ((own_u pl xi (n + 1)) kk)))) := (A_tp_19).other W23 (Ne.symm ne_o0_tp)
    have A_ti_24 : own_A Z h23 ti .int 4 (fun kk => (.int (((own_u it n xi) kk).toInt32))) := (A_ti_w18u).other W23 (Ne.symm ne_o0_ti)
    have SZ25 : h0.size ≤ h23.size := by rw [W23.size]; exact SZ20
    have ZZ25 : n0 ≤ h23.size := Nat.le_trans Z0 SZ25
    have K26 : Keep h0 h23 [ti, tk, tp, o0] := (K21).wr W23 (Or.inl (List.mem_of_getElem? (i := 3) rfl))
    have Fz27 : Fld Z h23 o0 "com/example/lean_layers/leanlayers/phase/layering/IndexedHeap" "size" "I" (.int ((n + 1).toInt32)) := own_inc n ▸ F_size_o0_w23
    have hh39 : (own_u pl xi (n + 1)) xi ≠ 0 := by rw [own_u_same]; exact Nat.succ_ne_zero n
    obtain ⟨T28, X28, e28, st28⟩ := getF X23 hx hZ hown (host := "") (Or.inl (hw _ (List.mem_of_getElem? (i := 13) rfl))) Via.refl e23 F_keys_o0_24 (g := (mkF m 40 #[.val (.ref o0), .val (.int (xi.toInt32)), .val (.long q2), .second] [(.ref o0)])) rfl rfl (hb hby d6_40)
    have qa29 := A_tk_24
    obtain ⟨c29, Ar29, Sz29, H29⟩ := qa29
    have hi30 : 0 ≤ ((xi.toInt32) : Int32).toInt ∧ ((xi.toInt32) : Int32).toInt < (4 : Nat) := (own_bd (show xi < 4 by omega) (by decide))
    obtain ⟨T30, h30, X30, e30, W30, st30⟩ := stJ X28 hx hZ e28 Ar29 (j := (xi.toInt32)) (own_in Sz29 hi30) (g := (mkF m 45 #[.val (.ref o0), .val (.int (xi.toInt32)), .val (.long q2), .second] [(.long q2), (.int (xi.toInt32)), (.ref tk)])) rfl rfl (hb hby d6_45)
    have N30 := Fr.snoc X30 N23 g_tk
    have A_tk_w30 : own_A Z h30 tk .long 4 (fun kk => (.long (if kk = ((xi.toInt32) : Int32).toNatClampNeg then q2 else (ky kk)))) := own_A.setJ A_tk_24 W30
    have A_tk_w30u : own_A Z h30 tk .long 4 (fun kk => (.long ((own_uk ky xi q2) kk))) := own_setk A_tk_w30 (show xi < 2147483648 by omega)
    have F_items_o0_31 : Fld Z h30 o0 "com/example/lean_layers/leanlayers/phase/layering/IndexedHeap" "items" "[I" (.ref ti) := (F_items_o0_24).other W30 (Or.inl ne_o0_tk)
    have F_keys_o0_31 : Fld Z h30 o0 "com/example/lean_layers/leanlayers/phase/layering/IndexedHeap" "keys" "[J" (.ref tk) := (F_keys_o0_24).other W30 (Or.inl ne_o0_tk)
    have F_place_o0_31 : Fld Z h30 o0 "com/example/lean_layers/leanlayers/phase/layering/IndexedHeap" "place" "[I" (.ref tp) := (F_place_o0_24).other W30 (Or.inl ne_o0_tk)
    have E_o0_31 : Exa Z h30 o0 "com/example/lean_layers/leanlayers/phase/layering/IndexedHeap" := (E_o0_24).wr W30
    have A_tp_31 : own_A Z h30 tp .int 4 (fun kk => (.int (own_pl ((own_u pl xi (n + 1)) kk)))) := (A_tp_24).other W30 (Ne.symm ne_tk_tp)
    have A_ti_31 : own_A Z h30 ti .int 4 (fun kk => (.int (((own_u it n xi) kk).toInt32))) := (A_ti_24).other W30 ne_ti_tk
    have F_size_o0_31 : Fld Z h30 o0 "com/example/lean_layers/leanlayers/phase/layering/IndexedHeap" "size" "I" (.int ((n + 1).toInt32)) := (Fz27).other W30 (Or.inl ne_o0_tk)
    have SZ32 : h0.size ≤ h30.size := by rw [W30.size]; exact SZ25
    have ZZ32 : n0 ≤ h30.size := Nat.le_trans Z0 SZ32
    have K33 : Keep h0 h30 [ti, tk, tp, o0] := (K26).wr W30 (Or.inl (List.mem_of_getElem? (i := 1) rfl))
    obtain ⟨T34, X34, e34, st34⟩ := getF X30 hx hZ hown (host := "") (Or.inl (hw _ (List.mem_of_getElem? (i := 15) rfl))) Via.refl e30 F_place_o0_31 (g := (mkF m 48 #[.val (.ref o0), .val (.int (xi.toInt32)), .val (.long q2), .second] [(.ref o0), (.ref o0)])) rfl rfl (hb hby d6_48)
    have qa35 := A_tp_31
    obtain ⟨c35, Ar35, Sz35, H35⟩ := qa35
    have hi36 : 0 ≤ ((xi.toInt32) : Int32).toInt ∧ ((xi.toInt32) : Int32).toInt < (4 : Nat) := (own_bd (show xi < 4 by omega) (by decide))
    obtain ⟨j37, hj37, hpj37, hij37⟩ := own_IV_held (own_IV_put hIV hxc hz hnn) hxc hh39
    have hl36 : c35.slots[((xi.toInt32) : Int32).toNatClampNeg]? = some (.int (j37.toInt32)) := by rw [show (j37.toInt32) = ((own_pl ((own_u pl xi (n + 1)) ((xi.toInt32) : Int32).toNatClampNeg))) from by rw [own_tn (show xi < 2147483648 by omega), hpj37, own_pl_succ]]; exact H35 _ (own_ix hi36)
    obtain ⟨cq38, q38, q38'⟩ := (E_o0_31).cell
    obtain ⟨_, _, ⟨T38, L38, k38, n38⟩, -, X38, ⟨Lc38, hQ38, l38, y38, z38⟩, st38⟩ := X34.privateBack hx (y := (⟨"com/example/lean_layers/leanlayers/phase/layering/IndexedHeap", "siftUp", "(I)V"⟩ : MethodName)) hown (mvT hZ (hw _ (List.mem_of_getElem? (i := 38) rfl))) (mvT hZ (hw _ (List.mem_of_getElem? (i := 39) rfl))) (own_selp (y := (⟨"com/example/lean_layers/leanlayers/phase/layering/IndexedHeap", "siftUp", "(I)V"⟩ : MethodName)) (mvT hZ (hw _ (List.mem_of_getElem? (i := 1) rfl))) (Cond.privateMethod_at (mvP hZ (hw _ (List.mem_of_getElem? (i := 40) rfl)) (args := #[]))) (mvT hZ (hw _ (List.mem_of_getElem? (i := 39) rfl))) (by decide)) (Cond.privateMethod_at (mvP hZ (hw _ (List.mem_of_getElem? (i := 40) rfl)) (args := #[]))) (mvT hZ (hw _ (List.mem_of_getElem? (i := 41) rfl))) (by decide) (backOf (W := 0) (rm7 l Z a0 hw [] o0 (j37.toInt32) ti tk tp (own_uk ky xi q2) (own_u it n xi) (own_u pl xi (n + 1)) (n + 1) j37 h30 n0 ZZ32 F_items_o0_31 F_keys_o0_31 F_place_o0_31 E_o0_31 F_size_o0_31 A_ti_31 A_tk_w30u A_tp_31 g_ti g_tp ne_o0_ti ne_o0_tk ne_o0_tp ne_ti_tk ne_ti_tp ne_tk_tp rfl hj37 (own_IV_put hIV hxc hz hnn)) hZ (hw _ (List.mem_of_getElem? (i := 41) rfl)) (hw _ (List.mem_of_getElem? (i := 2) rfl)) (by decide) (by decide)) (g := (mkF m 53 #[.val (.ref o0), .val (.int (xi.toInt32)), .val (.long q2), .second] [(.int (j37.toInt32)), (.ref o0)])) rfl (by rw [hml]; rfl) (Steps.refl _) (a := o0) (by rw [e34]; exact q38) q38' (argsL := [(.int (j37.toInt32))]) (rest := []) (lenOf pd_3 rfl) rfl (by show 2 * 0 + _ ≤ _; exact Nat.le_of_eq rfl) (hb hby d6_53) (fun _ _ => ⟨rfl, e34, (by decide : 0 + 0 ≤ _), (by decide : 0 + 0 ≤ _)⟩)
    dsimp only [Pt.U, Pt.locs, Pt.cells, Pt.slots] at X38 l38 y38 z38 st38 hQ38
    subst y38 z38
    obtain ⟨it2_38, pl2_38, rfl, N38q, Kc38, P38_0, P38_1, P38_2, P38_3⟩ := hQ38
    have N38 := Fr.app N30 N38q
    rw [← l38] at N38
    have F_items_o0_39 : Fld Z T38.heap o0 "com/example/lean_layers/leanlayers/phase/layering/IndexedHeap" "items" "[I" (.ref ti) := (F_items_o0_31).keep Kc38 (ninS ne_o0_ti (ninS ne_o0_tp nin0))
    have F_keys_o0_39 : Fld Z T38.heap o0 "com/example/lean_layers/leanlayers/phase/layering/IndexedHeap" "keys" "[J" (.ref tk) := (F_keys_o0_31).keep Kc38 (ninS ne_o0_ti (ninS ne_o0_tp nin0))
    have F_place_o0_39 : Fld Z T38.heap o0 "com/example/lean_layers/leanlayers/phase/layering/IndexedHeap" "place" "[I" (.ref tp) := (F_place_o0_31).keep Kc38 (ninS ne_o0_ti (ninS ne_o0_tp nin0))
    have E_o0_39 : Exa Z T38.heap o0 "com/example/lean_layers/leanlayers/phase/layering/IndexedHeap" := (E_o0_31).keep Kc38
    have F_size_o0_39 : Fld Z T38.heap o0 "com/example/lean_layers/leanlayers/phase/layering/IndexedHeap" "size" "I" (.int ((n + 1).toInt32)) := (F_size_o0_31).keep Kc38 (ninS ne_o0_ti (ninS ne_o0_tp nin0))
    have A_tk_39 : own_A Z T38.heap tk .long 4 (fun kk => (.long ((own_uk ky xi q2) kk))) := (A_tk_w30u).keep Kc38 (ninS (Ne.symm ne_ti_tk) (ninS ne_tk_tp nin0))
    have SZ40 : h0.size ≤ T38.heap.size := Nat.le_trans SZ32 Kc38.1
    have ZZ40 : n0 ≤ T38.heap.size := Nat.le_trans Z0 SZ40
    have K41 : Keep h0 T38.heap [ti, tk, tp, o0] := (K33).trans Kc38 (allS (Or.inl (List.mem_of_getElem? (i := 0) rfl)) (allS (Or.inl (List.mem_of_getElem? (i := 2) rfl)) all0))
    obtain ⟨T42, X42, e42, st42⟩ := getF X38 hx hZ hown (host := "") (Or.inl (hw _ (List.mem_of_getElem? (i := 15) rfl))) Via.refl rfl F_place_o0_39 (g := (mkF m 58 #[.val (.ref o0), .val (.int (xi.toInt32)), .val (.long q2), .second] [(.ref o0), (.ref o0)])) rfl rfl (hb hby d6_58)
    have qa43 := P38_1
    obtain ⟨c43, Ar43, Sz43, H43⟩ := qa43
    have hi44 : 0 ≤ ((xi.toInt32) : Int32).toInt ∧ ((xi.toInt32) : Int32).toInt < (4 : Nat) := (own_bd (show xi < 4 by omega) (by decide))
    obtain ⟨j45, hj45, hpj45, hij45⟩ := own_IV_held P38_2 hxc (fun z => hh39 ((P38_3 xi hxc).mp z))
    have hl44 : c43.slots[((xi.toInt32) : Int32).toNatClampNeg]? = some (.int (j45.toInt32)) := by rw [show (j45.toInt32) = ((own_pl (pl2_38 ((xi.toInt32) : Int32).toNatClampNeg))) from by rw [own_tn (show xi < 2147483648 by omega), hpj45, own_pl_succ]]; exact H43 _ (own_ix hi44)
    obtain ⟨cq46, q46, q46'⟩ := (E_o0_39).cell
    obtain ⟨_, _, ⟨T46, L46, k46, n46⟩, -, X46, ⟨Lc46, hQ46, l46, y46, z46⟩, st46⟩ := X42.privateBack hx (y := (⟨"com/example/lean_layers/leanlayers/phase/layering/IndexedHeap", "siftDown", "(I)V"⟩ : MethodName)) hown (mvT hZ (hw _ (List.mem_of_getElem? (i := 46) rfl))) (mvT hZ (hw _ (List.mem_of_getElem? (i := 47) rfl))) (own_selp (y := (⟨"com/example/lean_layers/leanlayers/phase/layering/IndexedHeap", "siftDown", "(I)V"⟩ : MethodName)) (mvT hZ (hw _ (List.mem_of_getElem? (i := 1) rfl))) (Cond.privateMethod_at (mvP hZ (hw _ (List.mem_of_getElem? (i := 48) rfl)) (args := #[]))) (mvT hZ (hw _ (List.mem_of_getElem? (i := 47) rfl))) (by decide)) (Cond.privateMethod_at (mvP hZ (hw _ (List.mem_of_getElem? (i := 48) rfl)) (args := #[]))) (mvT hZ (hw _ (List.mem_of_getElem? (i := 49) rfl))) (by decide) (backOf (W := 0) (rm9 l Z a0 hw [] o0 (j45.toInt32) ti tk tp (own_uk ky xi q2) it2_38 pl2_38 (n + 1) j45 T38.heap n0 ZZ40 F_items_o0_39 F_keys_o0_39 F_place_o0_39 E_o0_39 F_size_o0_39 P38_0 A_tk_39 P38_1 g_ti g_tp ne_o0_ti ne_o0_tk ne_o0_tp ne_ti_tk ne_ti_tp ne_tk_tp rfl hj45 P38_2) hZ (hw _ (List.mem_of_getElem? (i := 49) rfl)) (hw _ (List.mem_of_getElem? (i := 2) rfl)) (by decide) (by decide)) (g := (mkF m 63 #[.val (.ref o0), .val (.int (xi.toInt32)), .val (.long q2), .second] [(.int (j45.toInt32)), (.ref o0)])) rfl (by rw [hml]; rfl) (Steps.refl _) (a := o0) (by rw [e42]; exact q46) q46' (argsL := [(.int (j45.toInt32))]) (rest := []) (lenOf pd_3 rfl) rfl (by show 2 * 0 + _ ≤ _; exact Nat.le_of_eq rfl) (hb hby d6_63) (fun _ _ => ⟨rfl, e42, (by decide : 0 + 0 ≤ _), (by decide : 0 + 0 ≤ _)⟩)
    dsimp only [Pt.U, Pt.locs, Pt.cells, Pt.slots] at X46 l46 y46 z46 st46 hQ46
    subst y46 z46
    obtain ⟨it2_46, pl2_46, rfl, N46q, Kc46, P46_0, P46_1, P46_2, P46_3⟩ := hQ46
    have N46 := Fr.app N38 N46q
    rw [← l46] at N46
    have F_items_o0_47 : Fld Z T46.heap o0 "com/example/lean_layers/leanlayers/phase/layering/IndexedHeap" "items" "[I" (.ref ti) := (F_items_o0_39).keep Kc46 (ninS ne_o0_ti (ninS ne_o0_tp nin0))
    have F_keys_o0_47 : Fld Z T46.heap o0 "com/example/lean_layers/leanlayers/phase/layering/IndexedHeap" "keys" "[J" (.ref tk) := (F_keys_o0_39).keep Kc46 (ninS ne_o0_ti (ninS ne_o0_tp nin0))
    have F_place_o0_47 : Fld Z T46.heap o0 "com/example/lean_layers/leanlayers/phase/layering/IndexedHeap" "place" "[I" (.ref tp) := (F_place_o0_39).keep Kc46 (ninS ne_o0_ti (ninS ne_o0_tp nin0))
    have E_o0_47 : Exa Z T46.heap o0 "com/example/lean_layers/leanlayers/phase/layering/IndexedHeap" := (E_o0_39).keep Kc46
    have F_size_o0_47 : Fld Z T46.heap o0 "com/example/lean_layers/leanlayers/phase/layering/IndexedHeap" "size" "I" (.int ((n + 1).toInt32)) := (F_size_o0_39).keep Kc46 (ninS ne_o0_ti (ninS ne_o0_tp nin0))
    have A_tk_47 : own_A Z T46.heap tk .long 4 (fun kk => (.long ((own_uk ky xi q2) kk))) := (A_tk_39).keep Kc46 (ninS (Ne.symm ne_ti_tk) (ninS ne_tk_tp nin0))
    have SZ48 : h0.size ≤ T46.heap.size := Nat.le_trans SZ40 Kc46.1
    have ZZ48 : n0 ≤ T46.heap.size := Nat.le_trans Z0 SZ48
    have K49 : Keep h0 T46.heap [ti, tk, tp, o0] := (K41).trans Kc46 (allS (Or.inl (List.mem_of_getElem? (i := 0) rfl)) (allS (Or.inl (List.mem_of_getElem? (i := 2) rfl)) all0))
    have pre50 : ∀ t, Steps p.tables e below (T46.setTop (mkF m 66 #[.val (.ref o0), .val (.int (xi.toInt32)), .val (.long q2), .second] [])) t → Steps p.tables e below (s₁.setTop (entryFrame m #[(.ref o0), (.int p1), (.long q2)] 4)) t := fun t k => pre6 t (by
      refine XS.ifNo X3.here hx rfl (hb hby d6_6) rfl ((if0 _ _).trans (tlt hs7).2.1) ?_
      show Steps p.tables e below (T3.setTop (mkF m 9 #[.val (.ref o0), .val (.int (xi.toInt32)), .val (.long q2), .second] [])) _
      refine XS.aloadN X3.here hx rfl (hb hby d6_9) rfl rfl ?_
      show Steps p.tables e below (T3.setTop (mkF m 10 #[.val (.ref o0), .val (.int (xi.toInt32)), .val (.long q2), .second] [(.ref o0)])) _
      refine st8 _ ?_
      show Steps p.tables e below (T8.setTop (mkF m 13 #[.val (.ref o0), .val (.int (xi.toInt32)), .val (.long q2), .second] [(.ref tp)])) _
      refine XS.iloadN X8.here hx rfl (hb hby d6_13) rfl ?_
      show Steps p.tables e below (T8.setTop (mkF m 14 #[.val (.ref o0), .val (.int (xi.toInt32)), .val (.long q2), .second] [(.int (xi.toInt32)), (.ref tp)])) _
      refine XS.aloadN X8.here hx rfl (hb hby d6_14) rfl rfl ?_
      show Steps p.tables e below (T8.setTop (mkF m 15 #[.val (.ref o0), .val (.int (xi.toInt32)), .val (.long q2), .second] [(.ref o0), (.int (xi.toInt32)), (.ref tp)])) _
      refine st9 _ ?_
      show Steps p.tables e below (T9.setTop (mkF m 18 #[.val (.ref o0), .val (.int (xi.toInt32)), .val (.long q2), .second] [(.int (n.toInt32)), (.int (xi.toInt32)), (.ref tp)])) _
      refine st11 _ ?_
      show Steps p.tables e below (T11.setTop (mkF m 19 #[.val (.ref o0), .val (.int (xi.toInt32)), .val (.long q2), .second] [])) _
      refine XS.aloadN X11.here hx rfl (hb hby d6_19) rfl rfl ?_
      show Steps p.tables e below (T11.setTop (mkF m 20 #[.val (.ref o0), .val (.int (xi.toInt32)), .val (.long q2), .second] [(.ref o0)])) _
      refine st15 _ ?_
      show Steps p.tables e below (T15.setTop (mkF m 23 #[.val (.ref o0), .val (.int (xi.toInt32)), .val (.long q2), .second] [(.ref ti)])) _
      refine XS.aloadN X15.here hx rfl (hb hby d6_23) rfl rfl ?_
      show Steps p.tables e below (T15.setTop (mkF m 24 #[.val (.ref o0), .val (.int (xi.toInt32)), .val (.long q2), .second] [(.ref o0), (.ref ti)])) _
      refine st16 _ ?_
      show Steps p.tables e below (T16.setTop (mkF m 27 #[.val (.ref o0), .val (.int (xi.toInt32)), .val (.long q2), .second] [(.int (n.toInt32)), (.ref ti)])) _
      refine XS.iloadN X16.here hx rfl (hb hby d6_27) rfl ?_
      show Steps p.tables e below (T16.setTop (mkF m 28 #[.val (.ref o0), .val (.int (xi.toInt32)), .val (.long q2), .second] [(.int (xi.toInt32)), (.int (n.toInt32)), (.ref ti)])) _
      refine st18 _ ?_
      show Steps p.tables e below (T18.setTop (mkF m 29 #[.val (.ref o0), .val (.int (xi.toInt32)), .val (.long q2), .second] [])) _
      refine XS.aloadN X18.here hx rfl (hb hby d6_29) rfl rfl ?_
      show Steps p.tables e below (T18.setTop (mkF m 30 #[.val (.ref o0), .val (.int (xi.toInt32)), .val (.long q2), .second] [(.ref o0)])) _
      refine XS.dup X18.here hx rfl (hb hby d6_30) rfl rfl ?_
      show Steps p.tables e below (T18.setTop (mkF m 31 #[.val (.ref o0), .val (.int (xi.toInt32)), .val (.long q2), .second] [(.ref o0), (.ref o0)])) _
      refine st22 _ ?_
      show Steps p.tables e below (T22.setTop (mkF m 34 #[.val (.ref o0), .val (.int (xi.toInt32)), .val (.long q2), .second] [(.int (n.toInt32)), (.ref o0)])) _
      refine XS.iconst X22.here hx rfl (hb hby d6_34) ?_
      show Steps p.tables e below (T22.setTop (mkF m 35 #[.val (.ref o0), .val (.int (xi.toInt32)), .val (.long q2), .second] [(.int (1 : Int32)), (.int (n.toInt32)), (.ref o0)])) _
      refine XS.iadd X22.here hx rfl (hb hby d6_35) rfl ?_
      show Steps p.tables e below (T22.setTop (mkF m 36 #[.val (.ref o0), .val (.int (xi.toInt32)), .val (.long q2), .second] [(.int ((n.toInt32) + (1 : Int32))), (.ref o0)])) _
      refine st23 _ ?_
      show Steps p.tables e below (T23.setTop (mkF m 39 #[.val (.ref o0), .val (.int (xi.toInt32)), .val (.long q2), .second] [])) _
      refine XS.aloadN X23.here hx rfl (hb hby d6_39) rfl rfl ?_
      show Steps p.tables e below (T23.setTop (mkF m 40 #[.val (.ref o0), .val (.int (xi.toInt32)), .val (.long q2), .second] [(.ref o0)])) _
      refine st28 _ ?_
      show Steps p.tables e below (T28.setTop (mkF m 43 #[.val (.ref o0), .val (.int (xi.toInt32)), .val (.long q2), .second] [(.ref tk)])) _
      refine XS.iloadN X28.here hx rfl (hb hby d6_43) rfl ?_
      show Steps p.tables e below (T28.setTop (mkF m 44 #[.val (.ref o0), .val (.int (xi.toInt32)), .val (.long q2), .second] [(.int (xi.toInt32)), (.ref tk)])) _
      refine XS.lloadN X28.here hx rfl (hb hby d6_44) rfl ?_
      show Steps p.tables e below (T28.setTop (mkF m 45 #[.val (.ref o0), .val (.int (xi.toInt32)), .val (.long q2), .second] [(.long q2), (.int (xi.toInt32)), (.ref tk)])) _
      refine st30 _ ?_
      show Steps p.tables e below (T30.setTop (mkF m 46 #[.val (.ref o0), .val (.int (xi.toInt32)), .val (.long q2), .second] [])) _
      refine XS.aloadN X30.here hx rfl (hb hby d6_46) rfl rfl ?_
      show Steps p.tables e below (T30.setTop (mkF m 47 #[.val (.ref o0), .val (.int (xi.toInt32)), .val (.long q2), .second] [(.ref o0)])) _
      refine XS.aloadN X30.here hx rfl (hb hby d6_47) rfl rfl ?_
      show Steps p.tables e below (T30.setTop (mkF m 48 #[.val (.ref o0), .val (.int (xi.toInt32)), .val (.long q2), .second] [(.ref o0), (.ref o0)])) _
      refine st34 _ ?_
      show Steps p.tables e below (T34.setTop (mkF m 51 #[.val (.ref o0), .val (.int (xi.toInt32)), .val (.long q2), .second] [(.ref tp), (.ref o0)])) _
      refine XS.iloadN X34.here hx rfl (hb hby d6_51) rfl ?_
      show Steps p.tables e below (T34.setTop (mkF m 52 #[.val (.ref o0), .val (.int (xi.toInt32)), .val (.long q2), .second] [(.int (xi.toInt32)), (.ref tp), (.ref o0)])) _
      refine X34.iaload hx (j := (xi.toInt32)) (v := (.int (j37.toInt32))) (by rw [e34]; exact Ar35.1) (State.isArrayOf_alike hZ.alike Ar35.2.1) Ar35.2.2 (own_in Sz35 hi36) hl36 (g := (mkF m 52 #[.val (.ref o0), .val (.int (xi.toInt32)), .val (.long q2), .second] [(.int (xi.toInt32)), (.ref tp), (.ref o0)])) rfl rfl (hb hby d6_52) _ ?_
      show Steps p.tables e below (T34.setTop (mkF m 53 #[.val (.ref o0), .val (.int (xi.toInt32)), .val (.long q2), .second] [(.int (j37.toInt32)), (.ref o0)])) _
      refine st38.trans ?_
      show Steps p.tables e below (T38.setTop (mkF m 56 #[.val (.ref o0), .val (.int (xi.toInt32)), .val (.long q2), .second] [])) _
      refine XS.aloadN X38.here hx rfl (hb hby d6_56) rfl rfl ?_
      show Steps p.tables e below (T38.setTop (mkF m 57 #[.val (.ref o0), .val (.int (xi.toInt32)), .val (.long q2), .second] [(.ref o0)])) _
      refine XS.aloadN X38.here hx rfl (hb hby d6_57) rfl rfl ?_
      show Steps p.tables e below (T38.setTop (mkF m 58 #[.val (.ref o0), .val (.int (xi.toInt32)), .val (.long q2), .second] [(.ref o0), (.ref o0)])) _
      refine st42 _ ?_
      show Steps p.tables e below (T42.setTop (mkF m 61 #[.val (.ref o0), .val (.int (xi.toInt32)), .val (.long q2), .second] [(.ref tp), (.ref o0)])) _
      refine XS.iloadN X42.here hx rfl (hb hby d6_61) rfl ?_
      show Steps p.tables e below (T42.setTop (mkF m 62 #[.val (.ref o0), .val (.int (xi.toInt32)), .val (.long q2), .second] [(.int (xi.toInt32)), (.ref tp), (.ref o0)])) _
      refine X42.iaload hx (j := (xi.toInt32)) (v := (.int (j45.toInt32))) (by rw [e42]; exact Ar43.1) (State.isArrayOf_alike hZ.alike Ar43.2.1) Ar43.2.2 (own_in Sz43 hi44) hl44 (g := (mkF m 62 #[.val (.ref o0), .val (.int (xi.toInt32)), .val (.long q2), .second] [(.int (xi.toInt32)), (.ref tp), (.ref o0)])) rfl rfl (hb hby d6_62) _ ?_
      show Steps p.tables e below (T42.setTop (mkF m 63 #[.val (.ref o0), .val (.int (xi.toInt32)), .val (.long q2), .second] [(.int (j45.toInt32)), (.ref o0)])) _
      refine st46.trans ?_
      show Steps p.tables e below (T46.setTop (mkF m 66 #[.val (.ref o0), .val (.int (xi.toInt32)), .val (.long q2), .second] [])) _
      exact k)
    obtain ⟨fs, hr, hrun, hended, hW, hsame⟩ := X46.leave (v := none) (fun _ => rfl)
    refine ⟨_, _, pre50 _ ?_, hrun, hended, _, _, rfl, ?_, ⟨_, rfl⟩, hW, hsame.mono (by decide) (by decide)⟩
    · exact X46.returnOut hx Bd.returns (hb hby d6_66) hr
    · show Q6 Z o0 p1 q2 ti tk tp ky it pl n xi h0 n0 _ T46.heap _
      skip
      exact ⟨(n + 1), it2_46, pl2_46, rfl, N46, K49, F_size_o0_47, F_items_o0_47, F_keys_o0_47, F_place_o0_47, P46_0, A_tk_47, P46_1, P46_2, (fun y hy => ((P46_3 y hy).trans ((P38_3 y hy).trans ((own_held_put (Nat.succ_ne_zero n)) y hy))))⟩
  · have hz : pl xi ≠ 0 := fun q => hs7 ((own_pl_neg (by omega)).mpr q)
    obtain ⟨T51, X51, e51, st51⟩ := getF X3 hx hZ hown (host := "") (Or.inl (hw _ (List.mem_of_getElem? (i := 13) rfl))) Via.refl e3 F_keys_o0 (g := (mkF m 40 #[.val (.ref o0), .val (.int (xi.toInt32)), .val (.long q2), .second] [(.ref o0)])) rfl rfl (hb hby d6_40)
    have qa52 := A_tk
    obtain ⟨c52, Ar52, Sz52, H52⟩ := qa52
    have hi53 : 0 ≤ ((xi.toInt32) : Int32).toInt ∧ ((xi.toInt32) : Int32).toInt < (4 : Nat) := (own_bd (show xi < 4 by omega) (by decide))
    obtain ⟨T53, h53, X53, e53, W53, st53⟩ := stJ X51 hx hZ e51 Ar52 (j := (xi.toInt32)) (own_in Sz52 hi53) (g := (mkF m 45 #[.val (.ref o0), .val (.int (xi.toInt32)), .val (.long q2), .second] [(.long q2), (.int (xi.toInt32)), (.ref tk)])) rfl rfl (hb hby d6_45)
    have N53 := Fr.snoc X53 N0 g_tk
    have A_tk_w53 : own_A Z h53 tk .long 4 (fun kk => (.long (if kk = ((xi.toInt32) : Int32).toNatClampNeg then q2 else (ky kk)))) := own_A.setJ A_tk W53
    have A_tk_w53u : own_A Z h53 tk .long 4 (fun kk => (.long ((own_uk ky xi q2) kk))) := own_setk A_tk_w53 (show xi < 2147483648 by omega)
    have F_items_o0_54 : Fld Z h53 o0 "com/example/lean_layers/leanlayers/phase/layering/IndexedHeap" "items" "[I" (.ref ti) := (F_items_o0).other W53 (Or.inl ne_o0_tk)
    have F_keys_o0_54 : Fld Z h53 o0 "com/example/lean_layers/leanlayers/phase/layering/IndexedHeap" "keys" "[J" (.ref tk) := (F_keys_o0).other W53 (Or.inl ne_o0_tk)
    have F_place_o0_54 : Fld Z h53 o0 "com/example/lean_layers/leanlayers/phase/layering/IndexedHeap" "place" "[I" (.ref tp) := (F_place_o0).other W53 (Or.inl ne_o0_tk)
    have E_o0_54 : Exa Z h53 o0 "com/example/lean_layers/leanlayers/phase/layering/IndexedHeap" := (E_o0).wr W53
    have F_size_o0_54 : Fld Z h53 o0 "com/example/lean_layers/leanlayers/phase/layering/IndexedHeap" "size" "I" (.int (n.toInt32)) := (F_size_o0).other W53 (Or.inl ne_o0_tk)
    have A_ti_54 : own_A Z h53 ti .int 4 (fun kk => (.int ((it kk).toInt32))) := (A_ti).other W53 ne_ti_tk
    have A_tp_54 : own_A Z h53 tp .int 4 (fun kk => (.int (own_pl (pl kk)))) := (A_tp).other W53 (Ne.symm ne_tk_tp)
    have SZ55 : h0.size ≤ h53.size := by rw [W53.size]; exact (Nat.le_refl _)
    have ZZ55 : n0 ≤ h53.size := Nat.le_trans Z0 SZ55
    have K56 : Keep h0 h53 [ti, tk, tp, o0] := ((Keep.refl h0 [ti, tk, tp, o0])).wr W53 (Or.inl (List.mem_of_getElem? (i := 1) rfl))
    obtain ⟨T57, X57, e57, st57⟩ := getF X53 hx hZ hown (host := "") (Or.inl (hw _ (List.mem_of_getElem? (i := 15) rfl))) Via.refl e53 F_place_o0_54 (g := (mkF m 48 #[.val (.ref o0), .val (.int (xi.toInt32)), .val (.long q2), .second] [(.ref o0), (.ref o0)])) rfl rfl (hb hby d6_48)
    have qa58 := A_tp_54
    obtain ⟨c58, Ar58, Sz58, H58⟩ := qa58
    have hi59 : 0 ≤ ((xi.toInt32) : Int32).toInt ∧ ((xi.toInt32) : Int32).toInt < (4 : Nat) := (own_bd (show xi < 4 by omega) (by decide))
    obtain ⟨j60, hj60, hpj60, hij60⟩ := own_IV_held hIV hxc hz
    have hl59 : c58.slots[((xi.toInt32) : Int32).toNatClampNeg]? = some (.int (j60.toInt32)) := by rw [show (j60.toInt32) = ((own_pl (pl ((xi.toInt32) : Int32).toNatClampNeg))) from by rw [own_tn (show xi < 2147483648 by omega), hpj60, own_pl_succ]]; exact H58 _ (own_ix hi59)
    obtain ⟨cq61, q61, q61'⟩ := (E_o0_54).cell
    obtain ⟨_, _, ⟨T61, L61, k61, n61⟩, -, X61, ⟨Lc61, hQ61, l61, y61, z61⟩, st61⟩ := X57.privateBack hx (y := (⟨"com/example/lean_layers/leanlayers/phase/layering/IndexedHeap", "siftUp", "(I)V"⟩ : MethodName)) hown (mvT hZ (hw _ (List.mem_of_getElem? (i := 38) rfl))) (mvT hZ (hw _ (List.mem_of_getElem? (i := 39) rfl))) (own_selp (y := (⟨"com/example/lean_layers/leanlayers/phase/layering/IndexedHeap", "siftUp", "(I)V"⟩ : MethodName)) (mvT hZ (hw _ (List.mem_of_getElem? (i := 1) rfl))) (Cond.privateMethod_at (mvP hZ (hw _ (List.mem_of_getElem? (i := 40) rfl)) (args := #[]))) (mvT hZ (hw _ (List.mem_of_getElem? (i := 39) rfl))) (by decide)) (Cond.privateMethod_at (mvP hZ (hw _ (List.mem_of_getElem? (i := 40) rfl)) (args := #[]))) (mvT hZ (hw _ (List.mem_of_getElem? (i := 41) rfl))) (by decide) (backOf (W := 0) (rm7 l Z a0 hw [] o0 (j60.toInt32) ti tk tp (own_uk ky xi q2) it pl n j60 h53 n0 ZZ55 F_items_o0_54 F_keys_o0_54 F_place_o0_54 E_o0_54 F_size_o0_54 A_ti_54 A_tk_w53u A_tp_54 g_ti g_tp ne_o0_ti ne_o0_tk ne_o0_tp ne_ti_tk ne_ti_tp ne_tk_tp rfl hj60 hIV) hZ (hw _ (List.mem_of_getElem? (i := 41) rfl)) (hw _ (List.mem_of_getElem? (i := 2) rfl)) (by decide) (by decide)) (g := (mkF m 53 #[.val (.ref o0), .val (.int (xi.toInt32)), .val (.long q2), .second] [(.int (j60.toInt32)), (.ref o0)])) rfl (by rw [hml]; rfl) (Steps.refl _) (a := o0) (by rw [e57]; exact q61) q61' (argsL := [(.int (j60.toInt32))]) (rest := []) (lenOf pd_3 rfl) rfl (by show 2 * 0 + _ ≤ _; exact Nat.le_of_eq rfl) (hb hby d6_53) (fun _ _ => ⟨rfl, e57, (by decide : 0 + 0 ≤ _), (by decide : 0 + 0 ≤ _)⟩)
    dsimp only [Pt.U, Pt.locs, Pt.cells, Pt.slots] at X61 l61 y61 z61 st61 hQ61
    subst y61 z61
    obtain ⟨it2_61, pl2_61, rfl, N61q, Kc61, P61_0, P61_1, P61_2, P61_3⟩ := hQ61
    have N61 := Fr.app N53 N61q
    rw [← l61] at N61
    have F_items_o0_62 : Fld Z T61.heap o0 "com/example/lean_layers/leanlayers/phase/layering/IndexedHeap" "items" "[I" (.ref ti) := (F_items_o0_54).keep Kc61 (ninS ne_o0_ti (ninS ne_o0_tp nin0))
    have F_keys_o0_62 : Fld Z T61.heap o0 "com/example/lean_layers/leanlayers/phase/layering/IndexedHeap" "keys" "[J" (.ref tk) := (F_keys_o0_54).keep Kc61 (ninS ne_o0_ti (ninS ne_o0_tp nin0))
    have F_place_o0_62 : Fld Z T61.heap o0 "com/example/lean_layers/leanlayers/phase/layering/IndexedHeap" "place" "[I" (.ref tp) := (F_place_o0_54).keep Kc61 (ninS ne_o0_ti (ninS ne_o0_tp nin0))
    have E_o0_62 : Exa Z T61.heap o0 "com/example/lean_layers/leanlayers/phase/layering/IndexedHeap" := (E_o0_54).keep Kc61
    have F_size_o0_62 : Fld Z T61.heap o0 "com/example/lean_layers/leanlayers/phase/layering/IndexedHeap" "size" "I" (.int (n.toInt32)) := (F_size_o0_54).keep Kc61 (ninS ne_o0_ti (ninS ne_o0_tp nin0))
    have A_tk_62 : own_A Z T61.heap tk .long 4 (fun kk => (.long ((own_uk ky xi q2) kk))) := (A_tk_w53u).keep Kc61 (ninS (Ne.symm ne_ti_tk) (ninS ne_tk_tp nin0))
    have SZ63 : h0.size ≤ T61.heap.size := Nat.le_trans SZ55 Kc61.1
    have ZZ63 : n0 ≤ T61.heap.size := Nat.le_trans Z0 SZ63
    have K64 : Keep h0 T61.heap [ti, tk, tp, o0] := (K56).trans Kc61 (allS (Or.inl (List.mem_of_getElem? (i := 0) rfl)) (allS (Or.inl (List.mem_of_getElem? (i := 2) rfl)) all0))
    obtain ⟨T65, X65, e65, st65⟩ := getF X61 hx hZ hown (host := "") (Or.inl (hw _ (List.mem_of_getElem? (i := 15) rfl))) Via.refl rfl F_place_o0_62 (g := (mkF m 58 #[.val (.ref o0), .val (.int (xi.toInt32)), .val (.long q2), .second] [(.ref o0), (.ref o0)])) rfl rfl (hb hby d6_58)
    have qa66 := P61_1
    obtain ⟨c66, Ar66, Sz66, H66⟩ := qa66
    have hi67 : 0 ≤ ((xi.toInt32) : Int32).toInt ∧ ((xi.toInt32) : Int32).toInt < (4 : Nat) := (own_bd (show xi < 4 by omega) (by decide))
    obtain ⟨j68, hj68, hpj68, hij68⟩ := own_IV_held P61_2 hxc (fun z => hz ((P61_3 xi hxc).mp z))
    have hl67 : c66.slots[((xi.toInt32) : Int32).toNatClampNeg]? = some (.int (j68.toInt32)) := by rw [show (j68.toInt32) = ((own_pl (pl2_61 ((xi.toInt32) : Int32).toNatClampNeg))) from by rw [own_tn (show xi < 2147483648 by omega), hpj68, own_pl_succ]]; exact H66 _ (own_ix hi67)
    obtain ⟨cq69, q69, q69'⟩ := (E_o0_62).cell
    obtain ⟨_, _, ⟨T69, L69, k69, n69⟩, -, X69, ⟨Lc69, hQ69, l69, y69, z69⟩, st69⟩ := X65.privateBack hx (y := (⟨"com/example/lean_layers/leanlayers/phase/layering/IndexedHeap", "siftDown", "(I)V"⟩ : MethodName)) hown (mvT hZ (hw _ (List.mem_of_getElem? (i := 46) rfl))) (mvT hZ (hw _ (List.mem_of_getElem? (i := 47) rfl))) (own_selp (y := (⟨"com/example/lean_layers/leanlayers/phase/layering/IndexedHeap", "siftDown", "(I)V"⟩ : MethodName)) (mvT hZ (hw _ (List.mem_of_getElem? (i := 1) rfl))) (Cond.privateMethod_at (mvP hZ (hw _ (List.mem_of_getElem? (i := 48) rfl)) (args := #[]))) (mvT hZ (hw _ (List.mem_of_getElem? (i := 47) rfl))) (by decide)) (Cond.privateMethod_at (mvP hZ (hw _ (List.mem_of_getElem? (i := 48) rfl)) (args := #[]))) (mvT hZ (hw _ (List.mem_of_getElem? (i := 49) rfl))) (by decide) (backOf (W := 0) (rm9 l Z a0 hw [] o0 (j68.toInt32) ti tk tp (own_uk ky xi q2) it2_61 pl2_61 n j68 T61.heap n0 ZZ63 F_items_o0_62 F_keys_o0_62 F_place_o0_62 E_o0_62 F_size_o0_62 P61_0 A_tk_62 P61_1 g_ti g_tp ne_o0_ti ne_o0_tk ne_o0_tp ne_ti_tk ne_ti_tp ne_tk_tp rfl hj68 P61_2) hZ (hw _ (List.mem_of_getElem? (i := 49) rfl)) (hw _ (List.mem_of_getElem? (i := 2) rfl)) (by decide) (by decide)) (g := (mkF m 63 #[.val (.ref o0), .val (.int (xi.toInt32)), .val (.long q2), .second] [(.int (j68.toInt32)), (.ref o0)])) rfl (by rw [hml]; rfl) (Steps.refl _) (a := o0) (by rw [e65]; exact q69) q69' (argsL := [(.int (j68.toInt32))]) (rest := []) (lenOf pd_3 rfl) rfl (by show 2 * 0 + _ ≤ _; exact Nat.le_of_eq rfl) (hb hby d6_63) (fun _ _ => ⟨rfl, e65, (by decide : 0 + 0 ≤ _), (by decide : 0 + 0 ≤ _)⟩)
    dsimp only [Pt.U, Pt.locs, Pt.cells, Pt.slots] at X69 l69 y69 z69 st69 hQ69
    subst y69 z69
    obtain ⟨it2_69, pl2_69, rfl, N69q, Kc69, P69_0, P69_1, P69_2, P69_3⟩ := hQ69
    have N69 := Fr.app N61 N69q
    rw [← l69] at N69
    have F_items_o0_70 : Fld Z T69.heap o0 "com/example/lean_layers/leanlayers/phase/layering/IndexedHeap" "items" "[I" (.ref ti) := (F_items_o0_62).keep Kc69 (ninS ne_o0_ti (ninS ne_o0_tp nin0))
    have F_keys_o0_70 : Fld Z T69.heap o0 "com/example/lean_layers/leanlayers/phase/layering/IndexedHeap" "keys" "[J" (.ref tk) := (F_keys_o0_62).keep Kc69 (ninS ne_o0_ti (ninS ne_o0_tp nin0))
    have F_place_o0_70 : Fld Z T69.heap o0 "com/example/lean_layers/leanlayers/phase/layering/IndexedHeap" "place" "[I" (.ref tp) := (F_place_o0_62).keep Kc69 (ninS ne_o0_ti (ninS ne_o0_tp nin0))
    have E_o0_70 : Exa Z T69.heap o0 "com/example/lean_layers/leanlayers/phase/layering/IndexedHeap" := (E_o0_62).keep Kc69
    have F_size_o0_70 : Fld Z T69.heap o0 "com/example/lean_layers/leanlayers/phase/layering/IndexedHeap" "size" "I" (.int (n.toInt32)) := (F_size_o0_62).keep Kc69 (ninS ne_o0_ti (ninS ne_o0_tp nin0))
    have A_tk_70 : own_A Z T69.heap tk .long 4 (fun kk => (.long ((own_uk ky xi q2) kk))) := (A_tk_62).keep Kc69 (ninS (Ne.symm ne_ti_tk) (ninS ne_tk_tp nin0))
    have SZ71 : h0.size ≤ T69.heap.size := Nat.le_trans SZ63 Kc69.1
    have ZZ71 : n0 ≤ T69.heap.size := Nat.le_trans Z0 SZ71
    have K72 : Keep h0 T69.heap [ti, tk, tp, o0] := (K64).trans Kc69 (allS (Or.inl (List.mem_of_getElem? (i := 0) rfl)) (allS (Or.inl (List.mem_of_getElem? (i := 2) rfl)) all0))
    have pre73 : ∀ t, Steps p.tables e below (T69.setTop (mkF m 66 #[.val (.ref o0), .val (.int (xi.toInt32)), .val (.long q2), .second] [])) t → Steps p.tables e below (s₁.setTop (entryFrame m #[(.ref o0), (.int p1), (.long q2)] 4)) t := fun t k => pre6 t (by
      refine XS.ifYes X3.here hx rfl (pc0 := 6) (pc' := 39) rfl (hb hby d6_6) rfl ((if0 _ _).trans (flt hs7).2.1) (by decide) (by decide) ?_
      show Steps p.tables e below (T3.setTop (mkF m 39 #[.val (.ref o0), .val (.int (xi.toInt32)), .val (.long q2), .second] [])) _
      refine XS.aloadN X3.here hx rfl (hb hby d6_39) rfl rfl ?_
      show Steps p.tables e below (T3.setTop (mkF m 40 #[.val (.ref o0), .val (.int (xi.toInt32)), .val (.long q2), .second] [(.ref o0)])) _
      refine st51 _ ?_
      show Steps p.tables e below (T51.setTop (mkF m 43 #[.val (.ref o0), .val (.int (xi.toInt32)), .val (.long q2), .second] [(.ref tk)])) _
      refine XS.iloadN X51.here hx rfl (hb hby d6_43) rfl ?_
      show Steps p.tables e below (T51.setTop (mkF m 44 #[.val (.ref o0), .val (.int (xi.toInt32)), .val (.long q2), .second] [(.int (xi.toInt32)), (.ref tk)])) _
      refine XS.lloadN X51.here hx rfl (hb hby d6_44) rfl ?_
      show Steps p.tables e below (T51.setTop (mkF m 45 #[.val (.ref o0), .val (.int (xi.toInt32)), .val (.long q2), .second] [(.long q2), (.int (xi.toInt32)), (.ref tk)])) _
      refine st53 _ ?_
      show Steps p.tables e below (T53.setTop (mkF m 46 #[.val (.ref o0), .val (.int (xi.toInt32)), .val (.long q2), .second] [])) _
      refine XS.aloadN X53.here hx rfl (hb hby d6_46) rfl rfl ?_
      show Steps p.tables e below (T53.setTop (mkF m 47 #[.val (.ref o0), .val (.int (xi.toInt32)), .val (.long q2), .second] [(.ref o0)])) _
      refine XS.aloadN X53.here hx rfl (hb hby d6_47) rfl rfl ?_
      show Steps p.tables e below (T53.setTop (mkF m 48 #[.val (.ref o0), .val (.int (xi.toInt32)), .val (.long q2), .second] [(.ref o0), (.ref o0)])) _
      refine st57 _ ?_
      show Steps p.tables e below (T57.setTop (mkF m 51 #[.val (.ref o0), .val (.int (xi.toInt32)), .val (.long q2), .second] [(.ref tp), (.ref o0)])) _
      refine XS.iloadN X57.here hx rfl (hb hby d6_51) rfl ?_
      show Steps p.tables e below (T57.setTop (mkF m 52 #[.val (.ref o0), .val (.int (xi.toInt32)), .val (.long q2), .second] [(.int (xi.toInt32)), (.ref tp), (.ref o0)])) _
      refine X57.iaload hx (j := (xi.toInt32)) (v := (.int (j60.toInt32))) (by rw [e57]; exact Ar58.1) (State.isArrayOf_alike hZ.alike Ar58.2.1) Ar58.2.2 (own_in Sz58 hi59) hl59 (g := (mkF m 52 #[.val (.ref o0), .val (.int (xi.toInt32)), .val (.long q2), .second] [(.int (xi.toInt32)), (.ref tp), (.ref o0)])) rfl rfl (hb hby d6_52) _ ?_
      show Steps p.tables e below (T57.setTop (mkF m 53 #[.val (.ref o0), .val (.int (xi.toInt32)), .val (.long q2), .second] [(.int (j60.toInt32)), (.ref o0)])) _
      refine st61.trans ?_
      show Steps p.tables e below (T61.setTop (mkF m 56 #[.val (.ref o0), .val (.int (xi.toInt32)), .val (.long q2), .second] [])) _
      refine XS.aloadN X61.here hx rfl (hb hby d6_56) rfl rfl ?_
      show Steps p.tables e below (T61.setTop (mkF m 57 #[.val (.ref o0), .val (.int (xi.toInt32)), .val (.long q2), .second] [(.ref o0)])) _
      refine XS.aloadN X61.here hx rfl (hb hby d6_57) rfl rfl ?_
      show Steps p.tables e below (T61.setTop (mkF m 58 #[.val (.ref o0), .val (.int (xi.toInt32)), .val (.long q2), .second] [(.ref o0), (.ref o0)])) _
      refine st65 _ ?_
      show Steps p.tables e below (T65.setTop (mkF m 61 #[.val (.ref o0), .val (.int (xi.toInt32)), .val (.long q2), .second] [(.ref tp), (.ref o0)])) _
      refine XS.iloadN X65.here hx rfl (hb hby d6_61) rfl ?_
      show Steps p.tables e below (T65.setTop (mkF m 62 #[.val (.ref o0), .val (.int (xi.toInt32)), .val (.long q2), .second] [(.int (xi.toInt32)), (.ref tp), (.ref o0)])) _
      refine X65.iaload hx (j := (xi.toInt32)) (v := (.int (j68.toInt32))) (by rw [e65]; exact Ar66.1) (State.isArrayOf_alike hZ.alike Ar66.2.1) Ar66.2.2 (own_in Sz66 hi67) hl67 (g := (mkF m 62 #[.val (.ref o0), .val (.int (xi.toInt32)), .val (.long q2), .second] [(.int (xi.toInt32)), (.ref tp), (.ref o0)])) rfl rfl (hb hby d6_62) _ ?_
      show Steps p.tables e below (T65.setTop (mkF m 63 #[.val (.ref o0), .val (.int (xi.toInt32)), .val (.long q2), .second] [(.int (j68.toInt32)), (.ref o0)])) _
      refine st69.trans ?_
      show Steps p.tables e below (T69.setTop (mkF m 66 #[.val (.ref o0), .val (.int (xi.toInt32)), .val (.long q2), .second] [])) _
      exact k)
    obtain ⟨fs, hr, hrun, hended, hW, hsame⟩ := X69.leave (v := none) (fun _ => rfl)
    refine ⟨_, _, pre73 _ ?_, hrun, hended, _, _, rfl, ?_, ⟨_, rfl⟩, hW, hsame.mono (by decide) (by decide)⟩
    · exact X69.returnOut hx Bd.returns (hb hby d6_66) hr
    · show Q6 Z o0 p1 q2 ti tk tp ky it pl n xi h0 n0 _ T69.heap _
      skip
      exact ⟨n, it2_69, pl2_69, rfl, N69, K72, F_size_o0_70, F_items_o0_70, F_keys_o0_70, F_place_o0_70, P69_0, A_tk_70, P69_1, P69_2, (fun y hy => ((P69_3 y hy).trans ((P61_3 y hy).trans ((own_held_old hz) y hy))))⟩
theorem d12_0 : decode prog_55_method_6_code 0 = .ok (.aload_n 0, 1) := by decide +kernel
theorem d12_1 : decode prog_55_method_6_code 1 = .ok (.getfield 17, 3) := by decide +kernel
theorem d12_4 : decode prog_55_method_6_code 4 = .ok (.iload_n 1, 1) := by decide +kernel
theorem d12_5 : decode prog_55_method_6_code 5 = .ok (.iaload, 1) := by decide +kernel
theorem d12_6 : decode prog_55_method_6_code 6 = .ok (.istore_n 2, 1) := by decide +kernel
theorem d12_7 : decode prog_55_method_6_code 7 = .ok (.iload_n 2, 1) := by decide +kernel
theorem d12_8 : decode prog_55_method_6_code 8 = .ok (.ifCond .ge 4, 3) := by decide +kernel
theorem d12_11 : decode prog_55_method_6_code 11 = .ok (.return_, 1) := by decide +kernel
theorem d12_12 : decode prog_55_method_6_code 12 = .ok (.aload_n 0, 1) := by decide +kernel
theorem d12_13 : decode prog_55_method_6_code 13 = .ok (.dup, 1) := by decide +kernel
theorem d12_14 : decode prog_55_method_6_code 14 = .ok (.getfield 26, 3) := by decide +kernel
theorem d12_17 : decode prog_55_method_6_code 17 = .ok (.iconst 1, 1) := by decide +kernel
theorem d12_18 : decode prog_55_method_6_code 18 = .ok (.isub, 1) := by decide +kernel
theorem d12_19 : decode prog_55_method_6_code 19 = .ok (.putfield 26, 3) := by decide +kernel
theorem d12_22 : decode prog_55_method_6_code 22 = .ok (.aload_n 0, 1) := by decide +kernel
theorem d12_23 : decode prog_55_method_6_code 23 = .ok (.getfield 17, 3) := by decide +kernel
theorem d12_26 : decode prog_55_method_6_code 26 = .ok (.iload_n 1, 1) := by decide +kernel
theorem d12_27 : decode prog_55_method_6_code 27 = .ok (.iconst (-1), 1) := by decide +kernel
theorem d12_28 : decode prog_55_method_6_code 28 = .ok (.iastore, 1) := by decide +kernel
theorem d12_29 : decode prog_55_method_6_code 29 = .ok (.iload_n 2, 1) := by decide +kernel
theorem d12_30 : decode prog_55_method_6_code 30 = .ok (.aload_n 0, 1) := by decide +kernel
theorem d12_31 : decode prog_55_method_6_code 31 = .ok (.getfield 26, 3) := by decide +kernel
theorem d12_34 : decode prog_55_method_6_code 34 = .ok (.if_icmp .ge 42, 3) := by decide +kernel
theorem d12_37 : decode prog_55_method_6_code 37 = .ok (.aload_n 0, 1) := by decide +kernel
theorem d12_38 : decode prog_55_method_6_code 38 = .ok (.getfield 7, 3) := by decide +kernel
theorem d12_41 : decode prog_55_method_6_code 41 = .ok (.aload_n 0, 1) := by decide +kernel
theorem d12_42 : decode prog_55_method_6_code 42 = .ok (.getfield 26, 3) := by decide +kernel
theorem d12_45 : decode prog_55_method_6_code 45 = .ok (.iaload, 1) := by decide +kernel
theorem d12_46 : decode prog_55_method_6_code 46 = .ok (.istore_n 3, 1) := by decide +kernel
theorem d12_47 : decode prog_55_method_6_code 47 = .ok (.aload_n 0, 1) := by decide +kernel
theorem d12_48 : decode prog_55_method_6_code 48 = .ok (.getfield 7, 3) := by decide +kernel
theorem d12_51 : decode prog_55_method_6_code 51 = .ok (.iload_n 2, 1) := by decide +kernel
theorem d12_52 : decode prog_55_method_6_code 52 = .ok (.iload_n 3, 1) := by decide +kernel
theorem d12_53 : decode prog_55_method_6_code 53 = .ok (.iastore, 1) := by decide +kernel
theorem d12_54 : decode prog_55_method_6_code 54 = .ok (.aload_n 0, 1) := by decide +kernel
theorem d12_55 : decode prog_55_method_6_code 55 = .ok (.getfield 17, 3) := by decide +kernel
theorem d12_58 : decode prog_55_method_6_code 58 = .ok (.iload_n 3, 1) := by decide +kernel
theorem d12_59 : decode prog_55_method_6_code 59 = .ok (.iload_n 2, 1) := by decide +kernel
theorem d12_60 : decode prog_55_method_6_code 60 = .ok (.iastore, 1) := by decide +kernel
theorem d12_61 : decode prog_55_method_6_code 61 = .ok (.aload_n 0, 1) := by decide +kernel
theorem d12_62 : decode prog_55_method_6_code 62 = .ok (.iload_n 2, 1) := by decide +kernel
theorem d12_63 : decode prog_55_method_6_code 63 = .ok (.invokevirtual 41, 3) := by decide +kernel
theorem d12_66 : decode prog_55_method_6_code 66 = .ok (.aload_n 0, 1) := by decide +kernel
theorem d12_67 : decode prog_55_method_6_code 67 = .ok (.aload_n 0, 1) := by decide +kernel
theorem d12_68 : decode prog_55_method_6_code 68 = .ok (.getfield 17, 3) := by decide +kernel
theorem d12_71 : decode prog_55_method_6_code 71 = .ok (.iload_n 3, 1) := by decide +kernel
theorem d12_72 : decode prog_55_method_6_code 72 = .ok (.iaload, 1) := by decide +kernel
theorem d12_73 : decode prog_55_method_6_code 73 = .ok (.invokevirtual 45, 3) := by decide +kernel
theorem d12_76 : decode prog_55_method_6_code 76 = .ok (.return_, 1) := by decide +kernel
theorem ef_12 (m : MethodId) (o0 : Addr) (p1 : Int32) : entryFrame m #[(.ref o0), (.int p1)] 4 = mkF m 0 #[.val (.ref o0), .val (.int p1), .unset, .unset] [] := by first | (simp [entryFrame, mkF, argsToLocals, Value.category]; done) | rfl

def Q12 (Z : State) (o0 : Addr) (p1 : Int32) (ti tk tp : Addr) (ky : Nat → Int64) (it pl : Nat → Nat) (n xi : Nat) (h0 : Heap) (n0 : Nat) (v : Option Value) (h : Heap) (L : List Loc) : Prop := ∃ (n2 : Nat) (it2 : Nat → Nat) (pl2 : Nat → Nat), v = none ∧ Fr n0 L ∧ Keep h0 h [ti, tp, o0] ∧ (Fld Z h o0 "com/example/lean_layers/leanlayers/phase/layering/IndexedHeap" "size" "I" (.int (n2.toInt32))) ∧ (Fld Z h o0 "com/example/lean_layers/leanlayers/phase/layering/IndexedHeap" "items" "[I" (.ref ti)) ∧ (Fld Z h o0 "com/example/lean_layers/leanlayers/phase/layering/IndexedHeap" "keys" "[J" (.ref tk)) ∧ (Fld Z h o0 "com/example/lean_layers/leanlayers/phase/layering/IndexedHeap" "place" "[I" (.ref tp)) ∧ (own_A Z h ti .int 4 (fun kk => (.int ((it2 kk).toInt32)))) ∧ (own_A Z h tp .int 4 (fun kk => (.int (own_pl (pl2 kk))))) ∧ (own_IV 4 n2 it2 pl2) ∧ (∀ y, y < 4 → (pl2 y = 0 ↔ y = xi ∨ pl y = 0))
set_option maxRecDepth 65536 in
set_option maxHeartbeats 40000000 in
theorem rm12 (l : Launch) (Z : State) (a0 : Array Value) (hw : ∀ d ∈ tables_1, d.before a0 Z = true) (ws : List Jvm.Cond) (o0 : Addr) (p1 : Int32) (ti tk tp : Addr) (ky : Nat → Int64) (it pl : Nat → Nat) (n xi : Nat) (h0 : Heap) (n0 : Nat) (Z0 : n0 ≤ h0.size) (F_items_o0 : Fld Z h0 o0 "com/example/lean_layers/leanlayers/phase/layering/IndexedHeap" "items" "[I" (.ref ti)) (F_keys_o0 : Fld Z h0 o0 "com/example/lean_layers/leanlayers/phase/layering/IndexedHeap" "keys" "[J" (.ref tk)) (F_place_o0 : Fld Z h0 o0 "com/example/lean_layers/leanlayers/phase/layering/IndexedHeap" "place" "[I" (.ref tp)) (E_o0 : Exa Z h0 o0 "com/example/lean_layers/leanlayers/phase/layering/IndexedHeap") (F_size_o0 : Fld Z h0 o0 "com/example/lean_layers/leanlayers/phase/layering/IndexedHeap" "size" "I" (.int (n.toInt32))) (A_ti : own_A Z h0 ti .int 4 (fun kk => (.int ((it kk).toInt32)))) (A_tk : own_A Z h0 tk .long 4 (fun kk => (.long (ky kk)))) (A_tp : own_A Z h0 tp .int 4 (fun kk => (.int (own_pl (pl kk))))) (g_ti : n0 ≤ ti) (g_tp : n0 ≤ tp) (g_o0 : n0 ≤ o0) (ne_o0_ti : o0 ≠ ti) (ne_o0_tk : o0 ≠ tk) (ne_o0_tp : o0 ≠ tp) (ne_ti_tk : ti ≠ tk) (ne_ti_tp : ti ≠ tp) (ne_tk_tp : tk ≠ tp) (hp1 : p1 = (xi.toInt32)) (hxc : xi < 4) (hIV : own_IV 4 n it pl) :
    MetFree l (⟨"com/example/lean_layers/leanlayers/phase/layering/IndexedHeap", "remove", "(I)V"⟩ : MethodName) (head1 (Jvm.Cond.code (⟨"com/example/lean_layers/leanlayers/phase/layering/IndexedHeap", "remove", "(I)V"⟩ : MethodName) prog_55_method_6_code 4 none :: ws) ({ frames := 3, cells := 0, slots := 0, locals := 56 } : Room)) (fun a U => a = #[(.ref o0), (.int p1)] ∧ Z.Warmed39 U.vm ∧ U.heap = h0) (fun _ _ _ _ _ => True) (fun _ U o U' => ∃ v L, o = .returned v ∧ Q12 Z o0 p1 ti tk tp ky it pl n xi h0 n0 v U'.heap L ∧ FrameEnd U o U' L ({ frames := 3, cells := 0, slots := 0, locals := 56 } : Room).cells ({ frames := 3, cells := 0, slots := 0, locals := 56 } : Room).slots) := by
  refine MetFree.of_bodySF (plainFor_of_name pn_1) hisR ?_
  intro p e s m args below meth c s₁ Bd hml0 hP hK
  obtain ⟨rfl, hZ, hh⟩ := hP
  have hx := Bd.exec
  have hby := Bd.bytes
  have hml : c.maxLocals = 4 := hml0
  have hown : s.vm.findClass "com/example/lean_layers/leanlayers/phase/layering/IndexedHeap" = some m.cls := findClass_of_methodNamed Bd.named
  have hnm := (name_of_methodNamed Bd.named Bd.method).1
  have X0 : Stand p l e ({ frames := 3, cells := 0, slots := 0, locals := 56 } : Room) s m #[(.ref o0), (.int p1)] below meth c s₁ [] 0 0 := Stand.of_body Bd
  have e0 : s₁.heap = h0 := by rw [← hh, Bd.state]; rfl
  have N0 := Fr.nil n0
  have pre0 : ∀ t, Steps p.tables e below (s₁.setTop (mkF m 0 #[.val (.ref o0), .val (.int p1), .unset, .unset] [])) t → Steps p.tables e below (s₁.setTop (entryFrame m #[(.ref o0), (.int p1)] 4)) t := fun t k => castTop (ef_12 m o0 p1) k
  have hnc : n ≤ 4 := hIV.1
  have pre1 : ∀ t, Steps p.tables e below (s₁.setTop (mkF m 0 #[.val (.ref o0), .val (.int p1), .unset, .unset] [])) t → Steps p.tables e below (s₁.setTop (entryFrame m #[(.ref o0), (.int p1)] 4)) t := fun t k => pre0 t (by
    show Steps p.tables e below (s₁.setTop (mkF m 0 #[.val (.ref o0), .val (.int p1), .unset, .unset] [])) _
    exact k)
  have hre2 : p1 = (xi.toInt32) := hp1
  have pre2 : ∀ t, Steps p.tables e below (s₁.setTop (mkF m 0 #[.val (.ref o0), .val (.int (xi.toInt32)), .unset, .unset] [])) t → Steps p.tables e below (s₁.setTop (entryFrame m #[(.ref o0), (.int p1)] 4)) t := fun t k => pre1 t (by rw [hre2]; exact k)
  have hplb : pl xi ≤ 4 := by
    rcases hIV.2.2.2 xi hxc with q | ⟨j, j1, j2, -⟩ <;> omega
  obtain ⟨T3, X3, e3, st3⟩ := getF X0 hx hZ hown (host := "") (Or.inl (hw _ (List.mem_of_getElem? (i := 15) rfl))) Via.refl e0 F_place_o0 (g := (mkF m 1 #[.val (.ref o0), .val (.int (xi.toInt32)), .unset, .unset] [(.ref o0)])) rfl rfl (hb hby d12_1)
  have qa4 := A_tp
  obtain ⟨c4, Ar4, Sz4, H4⟩ := qa4
  have hi5 : 0 ≤ ((xi.toInt32) : Int32).toInt ∧ ((xi.toInt32) : Int32).toInt < (4 : Nat) := (own_bd (show xi < 4 by omega) (by decide))
  have hl5 : c4.slots[((xi.toInt32) : Int32).toNatClampNeg]? = some (.int (own_pl (pl xi))) := by rw [show (own_pl (pl xi)) = ((own_pl (pl ((xi.toInt32) : Int32).toNatClampNeg))) from by rw [own_tn (show xi < 2147483648 by omega)]]; exact H4 _ (own_ix hi5)
  have pre6 : ∀ t, Steps p.tables e below (T3.setTop (mkF m 8 #[.val (.ref o0), .val (.int (xi.toInt32)), .val (.int (own_pl (pl xi))), .unset] [(.int (own_pl (pl xi)))])) t → Steps p.tables e below (s₁.setTop (entryFrame m #[(.ref o0), (.int p1)] 4)) t := fun t k => pre2 t (by
    show Steps p.tables e below (s₁.setTop (mkF m 0 #[.val (.ref o0), .val (.int (xi.toInt32)), .unset, .unset] [])) _
    refine XS.aloadN X0.here hx rfl (hb hby d12_0) rfl rfl ?_
    show Steps p.tables e below (s₁.setTop (mkF m 1 #[.val (.ref o0), .val (.int (xi.toInt32)), .unset, .unset] [(.ref o0)])) _
    refine st3 _ ?_
    show Steps p.tables e below (T3.setTop (mkF m 4 #[.val (.ref o0), .val (.int (xi.toInt32)), .unset, .unset] [(.ref tp)])) _
    refine XS.iloadN X3.here hx rfl (hb hby d12_4) rfl ?_
    show Steps p.tables e below (T3.setTop (mkF m 5 #[.val (.ref o0), .val (.int (xi.toInt32)), .unset, .unset] [(.int (xi.toInt32)), (.ref tp)])) _
    refine X3.iaload hx (j := (xi.toInt32)) (v := (.int (own_pl (pl xi)))) (by rw [e3]; exact Ar4.1) (State.isArrayOf_alike hZ.alike Ar4.2.1) Ar4.2.2 (own_in Sz4 hi5) hl5 (g := (mkF m 5 #[.val (.ref o0), .val (.int (xi.toInt32)), .unset, .unset] [(.int (xi.toInt32)), (.ref tp)])) rfl rfl (hb hby d12_5) _ ?_
    show Steps p.tables e below (T3.setTop (mkF m 6 #[.val (.ref o0), .val (.int (xi.toInt32)), .unset, .unset] [(.int (own_pl (pl xi)))])) _
    refine XS.istoreN X3.here hx rfl (hb hby d12_6) rfl (l' := #[.val (.ref o0), .val (.int (xi.toInt32)), .val (.int (own_pl (pl xi))), .unset]) rfl ?_
    show Steps p.tables e below (T3.setTop (mkF m 7 #[.val (.ref o0), .val (.int (xi.toInt32)), .val (.int (own_pl (pl xi))), .unset] [])) _
    refine XS.iloadN X3.here hx rfl (hb hby d12_7) rfl ?_
    show Steps p.tables e below (T3.setTop (mkF m 8 #[.val (.ref o0), .val (.int (xi.toInt32)), .val (.int (own_pl (pl xi))), .unset] [(.int (own_pl (pl xi)))])) _
    exact k)
  by_cases hs7 : (own_pl (pl xi)) < (0 : Int32)
  · have hz : pl xi = 0 := (own_pl_neg (by omega)).mp hs7
    have pre8 : ∀ t, Steps p.tables e below (T3.setTop (mkF m 11 #[.val (.ref o0), .val (.int (xi.toInt32)), .val (.int (own_pl (pl xi))), .unset] [])) t → Steps p.tables e below (s₁.setTop (entryFrame m #[(.ref o0), (.int p1)] 4)) t := fun t k => pre6 t (by
      refine XS.ifNo X3.here hx rfl (hb hby d12_8) rfl ((if0 _ _).trans (tlt hs7).2.1) ?_
      show Steps p.tables e below (T3.setTop (mkF m 11 #[.val (.ref o0), .val (.int (xi.toInt32)), .val (.int (own_pl (pl xi))), .unset] [])) _
      exact k)
    obtain ⟨fs, hr, hrun, hended, hW, hsame⟩ := X3.leave (v := none) (fun _ => rfl)
    refine ⟨_, _, pre8 _ ?_, hrun, hended, _, _, rfl, ?_, ⟨_, rfl⟩, hW, hsame.mono (by decide) (by decide)⟩
    · exact X3.returnOut hx Bd.returns (hb hby d12_11) hr
    · show Q12 Z o0 p1 ti tk tp ky it pl n xi h0 n0 _ T3.heap _
      rw [e3]
      exact ⟨n, it, pl, rfl, N0, (Keep.refl h0 [ti, tp, o0]), F_size_o0, F_items_o0, F_keys_o0, F_place_o0, A_ti, A_tp, hIV, (own_held_non hz)⟩
  · have hz : pl xi ≠ 0 := fun q => hs7 ((own_pl_neg (by omega)).mpr q)
    obtain ⟨j, hjn, hpj, hij⟩ := own_IV_held hIV hxc hz
    have pre9 : ∀ t, Steps p.tables e below (T3.setTop (mkF m 12 #[.val (.ref o0), .val (.int (xi.toInt32)), .val (.int (own_pl (pl xi))), .unset] [])) t → Steps p.tables e below (s₁.setTop (entryFrame m #[(.ref o0), (.int p1)] 4)) t := fun t k => pre6 t (by
      refine XS.ifYes X3.here hx rfl (pc0 := 8) (pc' := 12) rfl (hb hby d12_8) rfl ((if0 _ _).trans (flt hs7).2.1) (by decide) (by decide) ?_
      show Steps p.tables e below (T3.setTop (mkF m 12 #[.val (.ref o0), .val (.int (xi.toInt32)), .val (.int (own_pl (pl xi))), .unset] [])) _
      exact k)
    have hre10 : (own_pl (pl xi)) = (j.toInt32) := by rw [hpj, own_pl_succ]
    have pre10 : ∀ t, Steps p.tables e below (T3.setTop (mkF m 12 #[.val (.ref o0), .val (.int (xi.toInt32)), .val (.int (j.toInt32)), .unset] [])) t → Steps p.tables e below (s₁.setTop (entryFrame m #[(.ref o0), (.int p1)] 4)) t := fun t k => pre9 t (by rw [hre10]; exact k)
    obtain ⟨T11, X11, e11, st11⟩ := getF X3 hx hZ hown (host := "") (Or.inl (hw _ (List.mem_of_getElem? (i := 26) rfl))) Via.refl e3 F_size_o0 (g := (mkF m 14 #[.val (.ref o0), .val (.int (xi.toInt32)), .val (.int (j.toInt32)), .unset] [(.ref o0), (.ref o0)])) rfl rfl (hb hby d12_14)
    obtain ⟨T12, h12, X12, e12, W12, st12⟩ := putF X11 hx hZ hown (host := "") (Or.inl (hw _ (List.mem_of_getElem? (i := 26) rfl))) Via.refl e11 F_size_o0 E_o0 (Or.inl (hw _ (List.mem_of_getElem? (i := 27) rfl))) (hw _ (List.mem_of_getElem? (i := 1) rfl)) (ty := .int) (by decide) rfl rfl (g := (mkF m 19 #[.val (.ref o0), .val (.int (xi.toInt32)), .val (.int (j.toInt32)), .unset] [(.int ((n.toInt32) - (1 : Int32))), (.ref o0)])) rfl rfl (hb hby d12_19)
    have N12 := Fr.snoc X12 N0 g_o0
    have F_size_o0_w12 : Fld Z h12 o0 "com/example/lean_layers/leanlayers/phase/layering/IndexedHeap" "size" "I" (.int ((n.toInt32) - (1 : Int32))) := (F_size_o0).same W12
    have F_items_o0_13 : Fld Z h12 o0 "com/example/lean_layers/leanlayers/phase/layering/IndexedHeap" "items" "[I" (.ref ti) := (F_items_o0).other W12 (Or.inr (slot_ne (Or.inr (hw _ (List.mem_of_getElem? (i := 11) rfl))) (Or.inl (hw _ (List.mem_of_getElem? (i := 27) rfl))) (by decide) (t := (.array .int)) (t' := .int) (by decide) (by decide)))
    have F_keys_o0_13 : Fld Z h12 o0 "com/example/lean_layers/leanlayers/phase/layering/IndexedHeap" "keys" "[J" (.ref tk) := (F_keys_o0).other W12 (Or.inr (slot_ne (Or.inr (hw _ (List.mem_of_getElem? (i := 14) rfl))) (Or.inl (hw _ (List.mem_of_getElem? (i := 27) rfl))) (by decide) (t := (.array .long)) (t' := .int) (by decide) (by decide)))
    have F_place_o0_13 : Fld Z h12 o0 "com/example/lean_layers/leanlayers/phase/layering/IndexedHeap" "place" "[I" (.ref tp) := (F_place_o0).other W12 (Or.inr (slot_ne (Or.inr (hw _ (List.mem_of_getElem? (i := 16) rfl))) (Or.inl (hw _ (List.mem_of_getElem? (i := 27) rfl))) (by decide) (t := (.array .int)) (t' := .int) (by decide) (by decide)))
    have E_o0_13 : Exa Z h12 o0 "com/example/lean_layers/leanlayers/phase/layering/IndexedHeap" := (E_o0).wr W12
    have A_ti_13 : own_A Z h12 ti .int 4 (fun kk => (.int ((it kk).toInt32))) := (A_ti).other W12 (Ne.symm ne_o0_ti)
    have A_tk_13 : own_A Z h12 tk .long 4 (fun kk => (.long (ky kk))) := (A_tk).other W12 (Ne.symm ne_o0_tk)
    have A_tp_13 : own_A Z h12 tp .int 4 (fun kk => (.int (own_pl (pl kk)))) := (A_tp).other W12 (Ne.symm ne_o0_tp)
    have SZ14 : h0.size ≤ h12.size := by rw [W12.size]; exact (Nat.le_refl _)
    have ZZ14 : n0 ≤ h12.size := Nat.le_trans Z0 SZ14
    have K15 : Keep h0 h12 [ti, tp, o0] := ((Keep.refl h0 [ti, tp, o0])).wr W12 (Or.inl (List.mem_of_getElem? (i := 2) rfl))
    have Fz16 : Fld Z h12 o0 "com/example/lean_layers/leanlayers/phase/layering/IndexedHeap" "size" "I" (.int ((n - 1).toInt32)) := own_dec1 (show 0 < n by omega) ▸ F_size_o0_w12
    obtain ⟨T17, X17, e17, st17⟩ := getF X12 hx hZ hown (host := "") (Or.inl (hw _ (List.mem_of_getElem? (i := 15) rfl))) Via.refl e12 F_place_o0_13 (g := (mkF m 23 #[.val (.ref o0), .val (.int (xi.toInt32)), .val (.int (j.toInt32)), .unset] [(.ref o0)])) rfl rfl (hb hby d12_23)
    have qa18 := A_tp_13
    obtain ⟨c18, Ar18, Sz18, H18⟩ := qa18
    have hi19 : 0 ≤ ((xi.toInt32) : Int32).toInt ∧ ((xi.toInt32) : Int32).toInt < (4 : Nat) := (own_bd (show xi < 4 by omega) (by decide))
    obtain ⟨T19, h19, X19, e19, W19, st19⟩ := stI X17 hx hZ e17 Ar18 (j := (xi.toInt32)) (own_in Sz18 hi19) (g := (mkF m 28 #[.val (.ref o0), .val (.int (xi.toInt32)), .val (.int (j.toInt32)), .unset] [(.int (-1 : Int32)), (.int (xi.toInt32)), (.ref tp)])) rfl rfl (hb hby d12_28)
    have N19 := Fr.snoc X19 N12 g_tp
    have A_tp_w19 : own_A Z h19 tp .int 4 (fun kk => (.int (if kk = ((xi.toInt32) : Int32).toNatClampNeg then (-1 : Int32) else (own_pl (pl kk))))) := own_A.setI A_tp_13 W19
    have A_tp_w19u : own_A Z h19 tp .int 4 (fun kk => (.int (own_pl ((own_u pl xi 0) kk)))) := own_setno A_tp_w19 (show xi < 2147483648 by omega)
    have F_items_o0_20 : Fld Z h19 o0 "com/example/lean_layers/leanlayers/phase/layering/IndexedHeap" "items" "[I" (.ref ti) := (F_items_o0_13).other W19 (Or.inl ne_o0_tp)
    have F_keys_o0_20 : Fld Z h19 o0 "com/example/lean_layers/leanlayers/phase/layering/IndexedHeap" "keys" "[J" (.ref tk) := (F_keys_o0_13).other W19 (Or.inl ne_o0_tp)
    have F_place_o0_20 : Fld Z h19 o0 "com/example/lean_layers/leanlayers/phase/layering/IndexedHeap" "place" "[I" (.ref tp) := (F_place_o0_13).other W19 (Or.inl ne_o0_tp)
    have E_o0_20 : Exa Z h19 o0 "com/example/lean_layers/leanlayers/phase/layering/IndexedHeap" := (E_o0_13).wr W19
    have A_ti_20 : own_A Z h19 ti .int 4 (fun kk => (.int ((it kk).toInt32))) := (A_ti_13).other W19 ne_ti_tp
    have A_tk_20 : own_A Z h19 tk .long 4 (fun kk => (.long (ky kk))) := (A_tk_13).other W19 ne_tk_tp
    have F_size_o0_20 : Fld Z h19 o0 "com/example/lean_layers/leanlayers/phase/layering/IndexedHeap" "size" "I" (.int ((n - 1).toInt32)) := (Fz16).other W19 (Or.inl ne_o0_tp)
    have SZ21 : h0.size ≤ h19.size := by rw [W19.size]; exact SZ14
    have ZZ21 : n0 ≤ h19.size := Nat.le_trans Z0 SZ21
    have K22 : Keep h0 h19 [ti, tp, o0] := (K15).wr W19 (Or.inl (List.mem_of_getElem? (i := 1) rfl))
    obtain ⟨T23, X23, e23, st23⟩ := getF X19 hx hZ hown (host := "") (Or.inl (hw _ (List.mem_of_getElem? (i := 26) rfl))) Via.refl e19 F_size_o0_20 (g := (mkF m 31 #[.val (.ref o0), .val (.int (xi.toInt32)), .val (.int (j.toInt32)), .unset] [(.ref o0), (.int (j.toInt32))])) rfl rfl (hb hby d12_31)
    have pre24 : ∀ t, Steps p.tables e below (T23.setTop (mkF m 34 #[.val (.ref o0), .val (.int (xi.toInt32)), .val (.int (j.toInt32)), .unset] [(.int ((n - 1).toInt32)), (.int (j.toInt32))])) t → Steps p.tables e below (s₁.setTop (entryFrame m #[(.ref o0), (.int p1)] 4)) t := fun t k => pre10 t (by
      show Steps p.tables e below (T3.setTop (mkF m 12 #[.val (.ref o0), .val (.int (xi.toInt32)), .val (.int (j.toInt32)), .unset] [])) _
      refine XS.aloadN X3.here hx rfl (hb hby d12_12) rfl rfl ?_
      show Steps p.tables e below (T3.setTop (mkF m 13 #[.val (.ref o0), .val (.int (xi.toInt32)), .val (.int (j.toInt32)), .unset] [(.ref o0)])) _
      refine XS.dup X3.here hx rfl (hb hby d12_13) rfl rfl ?_
      show Steps p.tables e below (T3.setTop (mkF m 14 #[.val (.ref o0), .val (.int (xi.toInt32)), .val (.int (j.toInt32)), .unset] [(.ref o0), (.ref o0)])) _
      refine st11 _ ?_
      show Steps p.tables e below (T11.setTop (mkF m 17 #[.val (.ref o0), .val (.int (xi.toInt32)), .val (.int (j.toInt32)), .unset] [(.int (n.toInt32)), (.ref o0)])) _
      refine XS.iconst X11.here hx rfl (hb hby d12_17) ?_
      show Steps p.tables e below (T11.setTop (mkF m 18 #[.val (.ref o0), .val (.int (xi.toInt32)), .val (.int (j.toInt32)), .unset] [(.int (1 : Int32)), (.int (n.toInt32)), (.ref o0)])) _
      refine XS.isub X11.here hx rfl (hb hby d12_18) rfl ?_
      show Steps p.tables e below (T11.setTop (mkF m 19 #[.val (.ref o0), .val (.int (xi.toInt32)), .val (.int (j.toInt32)), .unset] [(.int ((n.toInt32) - (1 : Int32))), (.ref o0)])) _
      refine st12 _ ?_
      show Steps p.tables e below (T12.setTop (mkF m 22 #[.val (.ref o0), .val (.int (xi.toInt32)), .val (.int (j.toInt32)), .unset] [])) _
      refine XS.aloadN X12.here hx rfl (hb hby d12_22) rfl rfl ?_
      show Steps p.tables e below (T12.setTop (mkF m 23 #[.val (.ref o0), .val (.int (xi.toInt32)), .val (.int (j.toInt32)), .unset] [(.ref o0)])) _
      refine st17 _ ?_
      show Steps p.tables e below (T17.setTop (mkF m 26 #[.val (.ref o0), .val (.int (xi.toInt32)), .val (.int (j.toInt32)), .unset] [(.ref tp)])) _
      refine XS.iloadN X17.here hx rfl (hb hby d12_26) rfl ?_
      show Steps p.tables e below (T17.setTop (mkF m 27 #[.val (.ref o0), .val (.int (xi.toInt32)), .val (.int (j.toInt32)), .unset] [(.int (xi.toInt32)), (.ref tp)])) _
      refine XS.iconst X17.here hx rfl (hb hby d12_27) ?_
      show Steps p.tables e below (T17.setTop (mkF m 28 #[.val (.ref o0), .val (.int (xi.toInt32)), .val (.int (j.toInt32)), .unset] [(.int (-1 : Int32)), (.int (xi.toInt32)), (.ref tp)])) _
      refine st19 _ ?_
      show Steps p.tables e below (T19.setTop (mkF m 29 #[.val (.ref o0), .val (.int (xi.toInt32)), .val (.int (j.toInt32)), .unset] [])) _
      refine XS.iloadN X19.here hx rfl (hb hby d12_29) rfl ?_
      show Steps p.tables e below (T19.setTop (mkF m 30 #[.val (.ref o0), .val (.int (xi.toInt32)), .val (.int (j.toInt32)), .unset] [(.int (j.toInt32))])) _
      refine XS.aloadN X19.here hx rfl (hb hby d12_30) rfl rfl ?_
      show Steps p.tables e below (T19.setTop (mkF m 31 #[.val (.ref o0), .val (.int (xi.toInt32)), .val (.int (j.toInt32)), .unset] [(.ref o0), (.int (j.toInt32))])) _
      refine st23 _ ?_
      show Steps p.tables e below (T23.setTop (mkF m 34 #[.val (.ref o0), .val (.int (xi.toInt32)), .val (.int (j.toInt32)), .unset] [(.int ((n - 1).toInt32)), (.int (j.toInt32))])) _
      exact k)
    by_cases hs25 : (j.toInt32) < ((n - 1).toInt32)
    · have hlt : j < n - 1 := (own_ltn (by omega) (by omega)).mp hs25
      obtain ⟨hlc, hIV1, hHD⟩ := own_IV_rm hIV hxc hpj (show j + 1 < n by omega) hij
      obtain ⟨T26, X26, e26, st26⟩ := getF X23 hx hZ hown (host := "") (Or.inl (hw _ (List.mem_of_getElem? (i := 10) rfl))) Via.refl e23 F_items_o0_20 (g := (mkF m 38 #[.val (.ref o0), .val (.int (xi.toInt32)), .val (.int (j.toInt32)), .unset] [(.ref o0)])) rfl rfl (hb hby d12_38)
      obtain ⟨T27, X27, e27, st27⟩ := getF X26 hx hZ hown (host := "") (Or.inl (hw _ (List.mem_of_getElem? (i := 26) rfl))) Via.refl e26 F_size_o0_20 (g := (mkF m 42 #[.val (.ref o0), .val (.int (xi.toInt32)), .val (.int (j.toInt32)), .unset] [(.ref o0), (.ref ti)])) rfl rfl (hb hby d12_42)
      have qa28 := A_ti_20
      obtain ⟨c28, Ar28, Sz28, H28⟩ := qa28
      have hi29 : 0 ≤ (((n - 1).toInt32) : Int32).toInt ∧ (((n - 1).toInt32) : Int32).toInt < (4 : Nat) := (own_bd (show (n - 1) < 4 by omega) (by decide))
      have hl29 : c28.slots[(((n - 1).toInt32) : Int32).toNatClampNeg]? = some (.int ((it (n - 1)).toInt32)) := by rw [show ((it (n - 1)).toInt32) = (((it (((n - 1).toInt32) : Int32).toNatClampNeg).toInt32)) from by rw [own_tn (show (n - 1) < 2147483648 by omega)]]; exact H28 _ (own_ix hi29)
      obtain ⟨T30, X30, e30, st30⟩ := getF X27 hx hZ hown (host := "") (Or.inl (hw _ (List.mem_of_getElem? (i := 10) rfl))) Via.refl e27 F_items_o0_20 (g := (mkF m 48 #[.val (.ref o0), .val (.int (xi.toInt32)), .val (.int (j.toInt32)), .val (.int ((it (n - 1)).toInt32))] [(.ref o0)])) rfl rfl (hb hby d12_48)
      have qa31 := A_ti_20
      obtain ⟨c31, Ar31, Sz31, H31⟩ := qa31
      have hi32 : 0 ≤ ((j.toInt32) : Int32).toInt ∧ ((j.toInt32) : Int32).toInt < (4 : Nat) := (own_bd (show j < 4 by omega) (by decide))
      obtain ⟨T32, h32, X32, e32, W32, st32⟩ := stI X30 hx hZ e30 Ar31 (j := (j.toInt32)) (own_in Sz31 hi32) (g := (mkF m 53 #[.val (.ref o0), .val (.int (xi.toInt32)), .val (.int (j.toInt32)), .val (.int ((it (n - 1)).toInt32))] [(.int ((it (n - 1)).toInt32)), (.int (j.toInt32)), (.ref ti)])) rfl rfl (hb hby d12_53)
      have N32 := Fr.snoc X32 N19 g_ti
      have A_ti_w32 : own_A Z h32 ti .int 4 (fun kk => (.int (if kk = ((j.toInt32) : Int32).toNatClampNeg then ((it (n - 1)).toInt32) else ((it kk).toInt32)))) := own_A.setI A_ti_20 W32
      have A_ti_w32u : own_A Z h32 ti .int 4 (fun kk => (.int (((own_u it j (it (n - 1))) kk).toInt32))) := own_setit A_ti_w32 (show j < 2147483648 by omega)
      have F_items_o0_33 : Fld Z h32 o0 "com/example/lean_layers/leanlayers/phase/layering/IndexedHeap" "items" "[I" (.ref ti) := (F_items_o0_20).other W32 (Or.inl ne_o0_ti)
      have F_keys_o0_33 : Fld Z h32 o0 "com/example/lean_layers/leanlayers/phase/layering/IndexedHeap" "keys" "[J" (.ref tk) := (F_keys_o0_20).other W32 (Or.inl ne_o0_ti)
      have F_place_o0_33 : Fld Z h32 o0 "com/example/lean_layers/leanlayers/phase/layering/IndexedHeap" "place" "[I" (.ref tp) := (F_place_o0_20).other W32 (Or.inl ne_o0_ti)
      have E_o0_33 : Exa Z h32 o0 "com/example/lean_layers/leanlayers/phase/layering/IndexedHeap" := (E_o0_20).wr W32
      have A_tk_33 : own_A Z h32 tk .long 4 (fun kk => (.long (ky kk))) := (A_tk_20).other W32 (Ne.symm ne_ti_tk)
      have F_size_o0_33 : Fld Z h32 o0 "com/example/lean_layers/leanlayers/phase/layering/IndexedHeap" "size" "I" (.int ((n - 1).toInt32)) := (F_size_o0_20).other W32 (Or.inl ne_o0_ti)
      have A_tp_33 : own_A Z h32 tp .int 4 (fun kk => (.int (own_pl ((own_u pl xi 0) kk)))) := (A_tp_w19u).other W32 (Ne.symm ne_ti_tp)
      have SZ34 : h0.size ≤ h32.size := by rw [W32.size]; exact SZ21
      have ZZ34 : n0 ≤ h32.size := Nat.le_trans Z0 SZ34
      have K35 : Keep h0 h32 [ti, tp, o0] := (K22).wr W32 (Or.inl (List.mem_of_getElem? (i := 0) rfl))
      obtain ⟨T36, X36, e36, st36⟩ := getF X32 hx hZ hown (host := "") (Or.inl (hw _ (List.mem_of_getElem? (i := 15) rfl))) Via.refl e32 F_place_o0_33 (g := (mkF m 55 #[.val (.ref o0), .val (.int (xi.toInt32)), .val (.int (j.toInt32)), .val (.int ((it (n - 1)).toInt32))] [(.ref o0)])) rfl rfl (hb hby d12_55)
      have qa37 := A_tp_33
      obtain ⟨c37, Ar37, Sz37, H37⟩ := qa37
      have hi38 : 0 ≤ (((it (n - 1)).toInt32) : Int32).toInt ∧ (((it (n - 1)).toInt32) : Int32).toInt < (4 : Nat) := (own_bd (show (it (n - 1)) < 4 by omega) (by decide))
      obtain ⟨T38, h38, X38, e38, W38, st38⟩ := stI X36 hx hZ e36 Ar37 (j := ((it (n - 1)).toInt32)) (own_in Sz37 hi38) (g := (mkF m 60 #[.val (.ref o0), .val (.int (xi.toInt32)), .val (.int (j.toInt32)), .val (.int ((it (n - 1)).toInt32))] [(.int (j.toInt32)), (.int ((it (n - 1)).toInt32)), (.ref tp)])) rfl rfl (hb hby d12_60)
      have N38 := Fr.snoc X38 N32 g_tp
      have A_tp_w38 : own_A Z h38 tp .int 4 (fun kk => (.int (if kk = (((it (n - 1)).toInt32) : Int32).toNatClampNeg then (j.toInt32) else (own_pl ((own_u pl xi 0) kk))))) := own_A.setI A_tp_33 W38
      have A_tp_w38u : own_A Z h38 tp .int 4 (fun kk => (.int (own_pl ((own_u (own_u pl xi 0) (it (n - 1)) (j + 1)) kk)))) := own_setpl A_tp_w38 (show (it (n - 1)) < 2147483648 by omega)
      have F_items_o0_39 : Fld Z h38 o0 "com/example/lean_layers/leanlayers/phase/layering/IndexedHeap" "items" "[I" (.ref ti) := (F_items_o0_33).other W38 (Or.inl ne_o0_tp)
      have F_keys_o0_39 : Fld Z h38 o0 "com/example/lean_layers/leanlayers/phase/layering/IndexedHeap" "keys" "[J" (.ref tk) := (F_keys_o0_33).other W38 (Or.inl ne_o0_tp)
      have F_place_o0_39 : Fld Z h38 o0 "com/example/lean_layers/leanlayers/phase/layering/IndexedHeap" "place" "[I" (.ref tp) := (F_place_o0_33).other W38 (Or.inl ne_o0_tp)
      have E_o0_39 : Exa Z h38 o0 "com/example/lean_layers/leanlayers/phase/layering/IndexedHeap" := (E_o0_33).wr W38
      have A_tk_39 : own_A Z h38 tk .long 4 (fun kk => (.long (ky kk))) := (A_tk_33).other W38 ne_tk_tp
      have F_size_o0_39 : Fld Z h38 o0 "com/example/lean_layers/leanlayers/phase/layering/IndexedHeap" "size" "I" (.int ((n - 1).toInt32)) := (F_size_o0_33).other W38 (Or.inl ne_o0_tp)
      have A_ti_39 : own_A Z h38 ti .int 4 (fun kk => (.int (((own_u it j (it (n - 1))) kk).toInt32))) := (A_ti_w32u).other W38 ne_ti_tp
      have SZ40 : h0.size ≤ h38.size := by rw [W38.size]; exact SZ34
      have ZZ40 : n0 ≤ h38.size := Nat.le_trans Z0 SZ40
      have K41 : Keep h0 h38 [ti, tp, o0] := (K35).wr W38 (Or.inl (List.mem_of_getElem? (i := 1) rfl))
      have hh63 : (own_u (own_u pl xi 0) (it (n - 1)) (j + 1)) (it (n - 1)) ≠ 0 := by rw [own_u_same]; exact Nat.succ_ne_zero j
      obtain ⟨cq42, q42, q42'⟩ := (E_o0_39).cell
      obtain ⟨_, _, ⟨T42, L42, k42, n42⟩, -, X42, ⟨Lc42, hQ42, l42, y42, z42⟩, st42⟩ := X38.privateBack hx (y := (⟨"com/example/lean_layers/leanlayers/phase/layering/IndexedHeap", "siftUp", "(I)V"⟩ : MethodName)) hown (mvT hZ (hw _ (List.mem_of_getElem? (i := 38) rfl))) (mvT hZ (hw _ (List.mem_of_getElem? (i := 39) rfl))) (own_selp (y := (⟨"com/example/lean_layers/leanlayers/phase/layering/IndexedHeap", "siftUp", "(I)V"⟩ : MethodName)) (mvT hZ (hw _ (List.mem_of_getElem? (i := 1) rfl))) (Cond.privateMethod_at (mvP hZ (hw _ (List.mem_of_getElem? (i := 40) rfl)) (args := #[]))) (mvT hZ (hw _ (List.mem_of_getElem? (i := 39) rfl))) (by decide)) (Cond.privateMethod_at (mvP hZ (hw _ (List.mem_of_getElem? (i := 40) rfl)) (args := #[]))) (mvT hZ (hw _ (List.mem_of_getElem? (i := 41) rfl))) (by decide) (backOf (W := 0) (rm7 l Z a0 hw [] o0 (j.toInt32) ti tk tp ky (own_u it j (it (n - 1))) (own_u (own_u pl xi 0) (it (n - 1)) (j + 1)) (n - 1) j h38 n0 ZZ40 F_items_o0_39 F_keys_o0_39 F_place_o0_39 E_o0_39 F_size_o0_39 A_ti_39 A_tk_39 A_tp_w38u g_ti g_tp ne_o0_ti ne_o0_tk ne_o0_tp ne_ti_tk ne_ti_tp ne_tk_tp rfl hlt hIV1) hZ (hw _ (List.mem_of_getElem? (i := 41) rfl)) (hw _ (List.mem_of_getElem? (i := 2) rfl)) (by decide) (by decide)) (g := (mkF m 63 #[.val (.ref o0), .val (.int (xi.toInt32)), .val (.int (j.toInt32)), .val (.int ((it (n - 1)).toInt32))] [(.int (j.toInt32)), (.ref o0)])) rfl (by rw [hml]; rfl) (Steps.refl _) (a := o0) (by rw [e38]; exact q42) q42' (argsL := [(.int (j.toInt32))]) (rest := []) (lenOf pd_3 rfl) rfl (by show 2 * 0 + _ ≤ _; exact Nat.le_of_eq rfl) (hb hby d12_63) (fun _ _ => ⟨rfl, e38, (by decide : 0 + 0 ≤ _), (by decide : 0 + 0 ≤ _)⟩)
      dsimp only [Pt.U, Pt.locs, Pt.cells, Pt.slots] at X42 l42 y42 z42 st42 hQ42
      subst y42 z42
      obtain ⟨it2_42, pl2_42, rfl, N42q, Kc42, P42_0, P42_1, P42_2, P42_3⟩ := hQ42
      have N42 := Fr.app N38 N42q
      rw [← l42] at N42
      have F_items_o0_43 : Fld Z T42.heap o0 "com/example/lean_layers/leanlayers/phase/layering/IndexedHeap" "items" "[I" (.ref ti) := (F_items_o0_39).keep Kc42 (ninS ne_o0_ti (ninS ne_o0_tp nin0))
      have F_keys_o0_43 : Fld Z T42.heap o0 "com/example/lean_layers/leanlayers/phase/layering/IndexedHeap" "keys" "[J" (.ref tk) := (F_keys_o0_39).keep Kc42 (ninS ne_o0_ti (ninS ne_o0_tp nin0))
      have F_place_o0_43 : Fld Z T42.heap o0 "com/example/lean_layers/leanlayers/phase/layering/IndexedHeap" "place" "[I" (.ref tp) := (F_place_o0_39).keep Kc42 (ninS ne_o0_ti (ninS ne_o0_tp nin0))
      have E_o0_43 : Exa Z T42.heap o0 "com/example/lean_layers/leanlayers/phase/layering/IndexedHeap" := (E_o0_39).keep Kc42
      have A_tk_43 : own_A Z T42.heap tk .long 4 (fun kk => (.long (ky kk))) := (A_tk_39).keep Kc42 (ninS (Ne.symm ne_ti_tk) (ninS ne_tk_tp nin0))
      have F_size_o0_43 : Fld Z T42.heap o0 "com/example/lean_layers/leanlayers/phase/layering/IndexedHeap" "size" "I" (.int ((n - 1).toInt32)) := (F_size_o0_39).keep Kc42 (ninS ne_o0_ti (ninS ne_o0_tp nin0))
      have SZ44 : h0.size ≤ T42.heap.size := Nat.le_trans SZ40 Kc42.1
      have ZZ44 : n0 ≤ T42.heap.size := Nat.le_trans Z0 SZ44
      have K45 : Keep h0 T42.heap [ti, tp, o0] := (K41).trans Kc42 (allS (Or.inl (List.mem_of_getElem? (i := 0) rfl)) (allS (Or.inl (List.mem_of_getElem? (i := 1) rfl)) all0))
      obtain ⟨T46, X46, e46, st46⟩ := getF X42 hx hZ hown (host := "") (Or.inl (hw _ (List.mem_of_getElem? (i := 15) rfl))) Via.refl rfl F_place_o0_43 (g := (mkF m 68 #[.val (.ref o0), .val (.int (xi.toInt32)), .val (.int (j.toInt32)), .val (.int ((it (n - 1)).toInt32))] [(.ref o0), (.ref o0)])) rfl rfl (hb hby d12_68)
      have qa47 := P42_1
      obtain ⟨c47, Ar47, Sz47, H47⟩ := qa47
      have hi48 : 0 ≤ (((it (n - 1)).toInt32) : Int32).toInt ∧ (((it (n - 1)).toInt32) : Int32).toInt < (4 : Nat) := (own_bd (show (it (n - 1)) < 4 by omega) (by decide))
      obtain ⟨j49, hj49, hpj49, hij49⟩ := own_IV_held P42_2 hlc (fun z => hh63 ((P42_3 (it (n - 1)) hlc).mp z))
      have hl48 : c47.slots[(((it (n - 1)).toInt32) : Int32).toNatClampNeg]? = some (.int (j49.toInt32)) := by rw [show (j49.toInt32) = ((own_pl (pl2_42 (((it (n - 1)).toInt32) : Int32).toNatClampNeg))) from by rw [own_tn (show (it (n - 1)) < 2147483648 by omega), hpj49, own_pl_succ]]; exact H47 _ (own_ix hi48)
      obtain ⟨cq50, q50, q50'⟩ := (E_o0_43).cell
      obtain ⟨_, _, ⟨T50, L50, k50, n50⟩, -, X50, ⟨Lc50, hQ50, l50, y50, z50⟩, st50⟩ := X46.privateBack hx (y := (⟨"com/example/lean_layers/leanlayers/phase/layering/IndexedHeap", "siftDown", "(I)V"⟩ : MethodName)) hown (mvT hZ (hw _ (List.mem_of_getElem? (i := 46) rfl))) (mvT hZ (hw _ (List.mem_of_getElem? (i := 47) rfl))) (own_selp (y := (⟨"com/example/lean_layers/leanlayers/phase/layering/IndexedHeap", "siftDown", "(I)V"⟩ : MethodName)) (mvT hZ (hw _ (List.mem_of_getElem? (i := 1) rfl))) (Cond.privateMethod_at (mvP hZ (hw _ (List.mem_of_getElem? (i := 48) rfl)) (args := #[]))) (mvT hZ (hw _ (List.mem_of_getElem? (i := 47) rfl))) (by decide)) (Cond.privateMethod_at (mvP hZ (hw _ (List.mem_of_getElem? (i := 48) rfl)) (args := #[]))) (mvT hZ (hw _ (List.mem_of_getElem? (i := 49) rfl))) (by decide) (backOf (W := 0) (rm9 l Z a0 hw [] o0 (j49.toInt32) ti tk tp ky it2_42 pl2_42 (n - 1) j49 T42.heap n0 ZZ44 F_items_o0_43 F_keys_o0_43 F_place_o0_43 E_o0_43 F_size_o0_43 P42_0 A_tk_43 P42_1 g_ti g_tp ne_o0_ti ne_o0_tk ne_o0_tp ne_ti_tk ne_ti_tp ne_tk_tp rfl hj49 P42_2) hZ (hw _ (List.mem_of_getElem? (i := 49) rfl)) (hw _ (List.mem_of_getElem? (i := 2) rfl)) (by decide) (by decide)) (g := (mkF m 73 #[.val (.ref o0), .val (.int (xi.toInt32)), .val (.int (j.toInt32)), .val (.int ((it (n - 1)).toInt32))] [(.int (j49.toInt32)), (.ref o0)])) rfl (by rw [hml]; rfl) (Steps.refl _) (a := o0) (by rw [e46]; exact q50) q50' (argsL := [(.int (j49.toInt32))]) (rest := []) (lenOf pd_3 rfl) rfl (by show 2 * 0 + _ ≤ _; exact Nat.le_of_eq rfl) (hb hby d12_73) (fun _ _ => ⟨rfl, e46, (by decide : 0 + 0 ≤ _), (by decide : 0 + 0 ≤ _)⟩)
      dsimp only [Pt.U, Pt.locs, Pt.cells, Pt.slots] at X50 l50 y50 z50 st50 hQ50
      subst y50 z50
      obtain ⟨it2_50, pl2_50, rfl, N50q, Kc50, P50_0, P50_1, P50_2, P50_3⟩ := hQ50
      have N50 := Fr.app N42 N50q
      rw [← l50] at N50
      have F_items_o0_51 : Fld Z T50.heap o0 "com/example/lean_layers/leanlayers/phase/layering/IndexedHeap" "items" "[I" (.ref ti) := (F_items_o0_43).keep Kc50 (ninS ne_o0_ti (ninS ne_o0_tp nin0))
      have F_keys_o0_51 : Fld Z T50.heap o0 "com/example/lean_layers/leanlayers/phase/layering/IndexedHeap" "keys" "[J" (.ref tk) := (F_keys_o0_43).keep Kc50 (ninS ne_o0_ti (ninS ne_o0_tp nin0))
      have F_place_o0_51 : Fld Z T50.heap o0 "com/example/lean_layers/leanlayers/phase/layering/IndexedHeap" "place" "[I" (.ref tp) := (F_place_o0_43).keep Kc50 (ninS ne_o0_ti (ninS ne_o0_tp nin0))
      have E_o0_51 : Exa Z T50.heap o0 "com/example/lean_layers/leanlayers/phase/layering/IndexedHeap" := (E_o0_43).keep Kc50
      have A_tk_51 : own_A Z T50.heap tk .long 4 (fun kk => (.long (ky kk))) := (A_tk_43).keep Kc50 (ninS (Ne.symm ne_ti_tk) (ninS ne_tk_tp nin0))
      have F_size_o0_51 : Fld Z T50.heap o0 "com/example/lean_layers/leanlayers/phase/layering/IndexedHeap" "size" "I" (.int ((n - 1).toInt32)) := (F_size_o0_43).keep Kc50 (ninS ne_o0_ti (ninS ne_o0_tp nin0))
      have SZ52 : h0.size ≤ T50.heap.size := Nat.le_trans SZ44 Kc50.1
      have ZZ52 : n0 ≤ T50.heap.size := Nat.le_trans Z0 SZ52
      have K53 : Keep h0 T50.heap [ti, tp, o0] := (K45).trans Kc50 (allS (Or.inl (List.mem_of_getElem? (i := 0) rfl)) (allS (Or.inl (List.mem_of_getElem? (i := 1) rfl)) all0))
      have pre54 : ∀ t, Steps p.tables e below (T50.setTop (mkF m 76 #[.val (.ref o0), .val (.int (xi.toInt32)), .val (.int (j.toInt32)), .val (.int ((it (n - 1)).toInt32))] [])) t → Steps p.tables e below (s₁.setTop (entryFrame m #[(.ref o0), (.int p1)] 4)) t := fun t k => pre24 t (by
        refine XS.icmpNo X23.here hx rfl (hb hby d12_34) rfl (tlt hs25).2.1 ?_
        show Steps p.tables e below (T23.setTop (mkF m 37 #[.val (.ref o0), .val (.int (xi.toInt32)), .val (.int (j.toInt32)), .unset] [])) _
        refine XS.aloadN X23.here hx rfl (hb hby d12_37) rfl rfl ?_
        show Steps p.tables e below (T23.setTop (mkF m 38 #[.val (.ref o0), .val (.int (xi.toInt32)), .val (.int (j.toInt32)), .unset] [(.ref o0)])) _
        refine st26 _ ?_
        show Steps p.tables e below (T26.setTop (mkF m 41 #[.val (.ref o0), .val (.int (xi.toInt32)), .val (.int (j.toInt32)), .unset] [(.ref ti)])) _
        refine XS.aloadN X26.here hx rfl (hb hby d12_41) rfl rfl ?_
        show Steps p.tables e below (T26.setTop (mkF m 42 #[.val (.ref o0), .val (.int (xi.toInt32)), .val (.int (j.toInt32)), .unset] [(.ref o0), (.ref ti)])) _
        refine st27 _ ?_
        show Steps p.tables e below (T27.setTop (mkF m 45 #[.val (.ref o0), .val (.int (xi.toInt32)), .val (.int (j.toInt32)), .unset] [(.int ((n - 1).toInt32)), (.ref ti)])) _
        refine X27.iaload hx (j := ((n - 1).toInt32)) (v := (.int ((it (n - 1)).toInt32))) (by rw [e27]; exact Ar28.1) (State.isArrayOf_alike hZ.alike Ar28.2.1) Ar28.2.2 (own_in Sz28 hi29) hl29 (g := (mkF m 45 #[.val (.ref o0), .val (.int (xi.toInt32)), .val (.int (j.toInt32)), .unset] [(.int ((n - 1).toInt32)), (.ref ti)])) rfl rfl (hb hby d12_45) _ ?_
        show Steps p.tables e below (T27.setTop (mkF m 46 #[.val (.ref o0), .val (.int (xi.toInt32)), .val (.int (j.toInt32)), .unset] [(.int ((it (n - 1)).toInt32))])) _
        refine XS.istoreN X27.here hx rfl (hb hby d12_46) rfl (l' := #[.val (.ref o0), .val (.int (xi.toInt32)), .val (.int (j.toInt32)), .val (.int ((it (n - 1)).toInt32))]) rfl ?_
        show Steps p.tables e below (T27.setTop (mkF m 47 #[.val (.ref o0), .val (.int (xi.toInt32)), .val (.int (j.toInt32)), .val (.int ((it (n - 1)).toInt32))] [])) _
        refine XS.aloadN X27.here hx rfl (hb hby d12_47) rfl rfl ?_
        show Steps p.tables e below (T27.setTop (mkF m 48 #[.val (.ref o0), .val (.int (xi.toInt32)), .val (.int (j.toInt32)), .val (.int ((it (n - 1)).toInt32))] [(.ref o0)])) _
        refine st30 _ ?_
        show Steps p.tables e below (T30.setTop (mkF m 51 #[.val (.ref o0), .val (.int (xi.toInt32)), .val (.int (j.toInt32)), .val (.int ((it (n - 1)).toInt32))] [(.ref ti)])) _
        refine XS.iloadN X30.here hx rfl (hb hby d12_51) rfl ?_
        show Steps p.tables e below (T30.setTop (mkF m 52 #[.val (.ref o0), .val (.int (xi.toInt32)), .val (.int (j.toInt32)), .val (.int ((it (n - 1)).toInt32))] [(.int (j.toInt32)), (.ref ti)])) _
        refine XS.iloadN X30.here hx rfl (hb hby d12_52) rfl ?_
        show Steps p.tables e below (T30.setTop (mkF m 53 #[.val (.ref o0), .val (.int (xi.toInt32)), .val (.int (j.toInt32)), .val (.int ((it (n - 1)).toInt32))] [(.int ((it (n - 1)).toInt32)), (.int (j.toInt32)), (.ref ti)])) _
        refine st32 _ ?_
        show Steps p.tables e below (T32.setTop (mkF m 54 #[.val (.ref o0), .val (.int (xi.toInt32)), .val (.int (j.toInt32)), .val (.int ((it (n - 1)).toInt32))] [])) _
        refine XS.aloadN X32.here hx rfl (hb hby d12_54) rfl rfl ?_
        show Steps p.tables e below (T32.setTop (mkF m 55 #[.val (.ref o0), .val (.int (xi.toInt32)), .val (.int (j.toInt32)), .val (.int ((it (n - 1)).toInt32))] [(.ref o0)])) _
        refine st36 _ ?_
        show Steps p.tables e below (T36.setTop (mkF m 58 #[.val (.ref o0), .val (.int (xi.toInt32)), .val (.int (j.toInt32)), .val (.int ((it (n - 1)).toInt32))] [(.ref tp)])) _
        refine XS.iloadN X36.here hx rfl (hb hby d12_58) rfl ?_
        show Steps p.tables e below (T36.setTop (mkF m 59 #[.val (.ref o0), .val (.int (xi.toInt32)), .val (.int (j.toInt32)), .val (.int ((it (n - 1)).toInt32))] [(.int ((it (n - 1)).toInt32)), (.ref tp)])) _
        refine XS.iloadN X36.here hx rfl (hb hby d12_59) rfl ?_
        show Steps p.tables e below (T36.setTop (mkF m 60 #[.val (.ref o0), .val (.int (xi.toInt32)), .val (.int (j.toInt32)), .val (.int ((it (n - 1)).toInt32))] [(.int (j.toInt32)), (.int ((it (n - 1)).toInt32)), (.ref tp)])) _
        refine st38 _ ?_
        show Steps p.tables e below (T38.setTop (mkF m 61 #[.val (.ref o0), .val (.int (xi.toInt32)), .val (.int (j.toInt32)), .val (.int ((it (n - 1)).toInt32))] [])) _
        refine XS.aloadN X38.here hx rfl (hb hby d12_61) rfl rfl ?_
        show Steps p.tables e below (T38.setTop (mkF m 62 #[.val (.ref o0), .val (.int (xi.toInt32)), .val (.int (j.toInt32)), .val (.int ((it (n - 1)).toInt32))] [(.ref o0)])) _
        refine XS.iloadN X38.here hx rfl (hb hby d12_62) rfl ?_
        show Steps p.tables e below (T38.setTop (mkF m 63 #[.val (.ref o0), .val (.int (xi.toInt32)), .val (.int (j.toInt32)), .val (.int ((it (n - 1)).toInt32))] [(.int (j.toInt32)), (.ref o0)])) _
        refine st42.trans ?_
        show Steps p.tables e below (T42.setTop (mkF m 66 #[.val (.ref o0), .val (.int (xi.toInt32)), .val (.int (j.toInt32)), .val (.int ((it (n - 1)).toInt32))] [])) _
        refine XS.aloadN X42.here hx rfl (hb hby d12_66) rfl rfl ?_
        show Steps p.tables e below (T42.setTop (mkF m 67 #[.val (.ref o0), .val (.int (xi.toInt32)), .val (.int (j.toInt32)), .val (.int ((it (n - 1)).toInt32))] [(.ref o0)])) _
        refine XS.aloadN X42.here hx rfl (hb hby d12_67) rfl rfl ?_
        show Steps p.tables e below (T42.setTop (mkF m 68 #[.val (.ref o0), .val (.int (xi.toInt32)), .val (.int (j.toInt32)), .val (.int ((it (n - 1)).toInt32))] [(.ref o0), (.ref o0)])) _
        refine st46 _ ?_
        show Steps p.tables e below (T46.setTop (mkF m 71 #[.val (.ref o0), .val (.int (xi.toInt32)), .val (.int (j.toInt32)), .val (.int ((it (n - 1)).toInt32))] [(.ref tp), (.ref o0)])) _
        refine XS.iloadN X46.here hx rfl (hb hby d12_71) rfl ?_
        show Steps p.tables e below (T46.setTop (mkF m 72 #[.val (.ref o0), .val (.int (xi.toInt32)), .val (.int (j.toInt32)), .val (.int ((it (n - 1)).toInt32))] [(.int ((it (n - 1)).toInt32)), (.ref tp), (.ref o0)])) _
        refine X46.iaload hx (j := ((it (n - 1)).toInt32)) (v := (.int (j49.toInt32))) (by rw [e46]; exact Ar47.1) (State.isArrayOf_alike hZ.alike Ar47.2.1) Ar47.2.2 (own_in Sz47 hi48) hl48 (g := (mkF m 72 #[.val (.ref o0), .val (.int (xi.toInt32)), .val (.int (j.toInt32)), .val (.int ((it (n - 1)).toInt32))] [(.int ((it (n - 1)).toInt32)), (.ref tp), (.ref o0)])) rfl rfl (hb hby d12_72) _ ?_
        show Steps p.tables e below (T46.setTop (mkF m 73 #[.val (.ref o0), .val (.int (xi.toInt32)), .val (.int (j.toInt32)), .val (.int ((it (n - 1)).toInt32))] [(.int (j49.toInt32)), (.ref o0)])) _
        refine st50.trans ?_
        show Steps p.tables e below (T50.setTop (mkF m 76 #[.val (.ref o0), .val (.int (xi.toInt32)), .val (.int (j.toInt32)), .val (.int ((it (n - 1)).toInt32))] [])) _
        exact k)
      obtain ⟨fs, hr, hrun, hended, hW, hsame⟩ := X50.leave (v := none) (fun _ => rfl)
      refine ⟨_, _, pre54 _ ?_, hrun, hended, _, _, rfl, ?_, ⟨_, rfl⟩, hW, hsame.mono (by decide) (by decide)⟩
      · exact X50.returnOut hx Bd.returns (hb hby d12_76) hr
      · show Q12 Z o0 p1 ti tk tp ky it pl n xi h0 n0 _ T50.heap _
        skip
        exact ⟨(n - 1), it2_50, pl2_50, rfl, N50, K53, F_size_o0_51, F_items_o0_51, F_keys_o0_51, F_place_o0_51, P50_0, P50_1, P50_2, (fun y hy => ((P50_3 y hy).trans ((P42_3 y hy).trans (hHD y hy))))⟩
    · have hnl : ¬ j < n - 1 := fun q => hs25 ((own_ltn (by omega) (by omega)).mpr q)
      have pre55 : ∀ t, Steps p.tables e below (T23.setTop (mkF m 76 #[.val (.ref o0), .val (.int (xi.toInt32)), .val (.int (j.toInt32)), .unset] [])) t → Steps p.tables e below (s₁.setTop (entryFrame m #[(.ref o0), (.int p1)] 4)) t := fun t k => pre24 t (by
        refine XS.icmpYes X23.here hx rfl (pc0 := 34) (pc' := 76) rfl (hb hby d12_34) rfl (flt hs25).2.1 (by decide) (by decide) ?_
        show Steps p.tables e below (T23.setTop (mkF m 76 #[.val (.ref o0), .val (.int (xi.toInt32)), .val (.int (j.toInt32)), .unset] [])) _
        exact k)
      obtain ⟨fs, hr, hrun, hended, hW, hsame⟩ := X23.leave (v := none) (fun _ => rfl)
      refine ⟨_, _, pre55 _ ?_, hrun, hended, _, _, rfl, ?_, ⟨_, rfl⟩, hW, hsame.mono (by decide) (by decide)⟩
      · exact X23.returnOut hx Bd.returns (hb hby d12_76) hr
      · show Q12 Z o0 p1 ti tk tp ky it pl n xi h0 n0 _ T23.heap _
        rw [e23]
        exact ⟨(n - 1), it, (own_u pl xi 0), rfl, N19, K22, F_size_o0_20, F_items_o0_20, F_keys_o0_20, F_place_o0_20, A_ti_20, A_tp_w19u, (own_IV_rml hIV hxc hpj (show j + 1 = n by omega) hij), own_held_rm⟩

theorem own_it4 (y : Int32) : ∃ k : Nat, k < 4 ∧ (y &&& (3 : Int32)) = k.toInt32 := by
  have e1 : (y &&& (3 : Int32)).toInt = y.toInt % (2 ^ 2 : Nat) := c_mask y 3 2 (by decide) (by decide)
  obtain ⟨n, h⟩ := own_fin (c := y &&& (3 : Int32)) (N := 4) (by omega) (by omega) (by decide)
  exact ⟨n.1, n.2, h⟩
theorem own_cl {n k : Nat} {it pl : Nat → Nat} (h : ∀ y, y < 4 → pl y = 0 ∨ ∃ j, k ≤ j ∧ j < n ∧ it j = y) : ∀ y, y < 4 → own_u pl (it k) 0 y = 0 ∨ ∃ j, k + 1 ≤ j ∧ j < n ∧ it j = y := fun y hy => by
  by_cases q : y = it k
  · exact Or.inl (by rw [q, own_u_same])
  · rw [own_u_ne q]
    rcases h y hy with r | ⟨j, j1, j2, j3⟩
    · exact Or.inl r
    · have : j ≠ k := fun z => q (by rw [← j3, z])
      exact Or.inr ⟨j, by omega, j2, j3⟩
theorem own_cl0 {n : Nat} {it pl : Nat → Nat} (h : own_IV 4 n it pl) : ∀ y, y < 4 → pl y = 0 ∨ ∃ j, 0 ≤ j ∧ j < n ∧ it j = y := fun y hy => by
  rcases h.2.2.2 y hy with r | ⟨j, j1, -, j3⟩
  · exact Or.inl r
  · exact Or.inr ⟨j, Nat.zero_le _, j1, j3⟩
theorem own_cl1 {n k : Nat} {it pl : Nat → Nat} (h : ∀ y, y < 4 → pl y = 0 ∨ ∃ j, k ≤ j ∧ j < n ∧ it j = y) (hk : n ≤ k) : ∀ y, y < 4 → pl y = 0 := fun y hy => by
  rcases h y hy with r | ⟨j, j1, j2, -⟩
  · exact r
  · omega

theorem d4_2 : decode prog_55_method_7_code 2 = .ok (.iload_n 1, 1) := by decide +kernel
theorem d4_3 : decode prog_55_method_7_code 3 = .ok (.aload_n 0, 1) := by decide +kernel
theorem d4_4 : decode prog_55_method_7_code 4 = .ok (.getfield 26, 3) := by decide +kernel
theorem d4_7 : decode prog_55_method_7_code 7 = .ok (.if_icmp .ge 21, 3) := by decide +kernel
theorem d4_10 : decode prog_55_method_7_code 10 = .ok (.aload_n 0, 1) := by decide +kernel
theorem d4_11 : decode prog_55_method_7_code 11 = .ok (.getfield 17, 3) := by decide +kernel
theorem d4_14 : decode prog_55_method_7_code 14 = .ok (.aload_n 0, 1) := by decide +kernel
theorem d4_15 : decode prog_55_method_7_code 15 = .ok (.getfield 7, 3) := by decide +kernel
theorem d4_18 : decode prog_55_method_7_code 18 = .ok (.iload_n 1, 1) := by decide +kernel
theorem d4_19 : decode prog_55_method_7_code 19 = .ok (.iaload, 1) := by decide +kernel
theorem d4_20 : decode prog_55_method_7_code 20 = .ok (.iconst (-1), 1) := by decide +kernel
theorem d4_21 : decode prog_55_method_7_code 21 = .ok (.iastore, 1) := by decide +kernel
theorem d4_22 : decode prog_55_method_7_code 22 = .ok (.iinc 1 1, 3) := by decide +kernel
theorem d4_25 : decode prog_55_method_7_code 25 = .ok (.goto (-23), 3) := by decide +kernel
set_option maxRecDepth 65536 in
set_option maxHeartbeats 40000000 in
theorem loop_cl {p : Program} {l : Launch} {e : Env} {s : State} {m : MethodId} {args : Array Value} {below : List Frame} {meth : Method} {c : Code} {Z : State} {a0 : Array Value} (o0 ti tp : Addr) (it : Nat → Nat) (n : Nat) (hn4 : n ≤ 4) (hI4 : ∀ j, j < 4 → it j < 4) (n0 : Nat) (g_tp : n0 ≤ tp) (ne_o0_ti : o0 ≠ ti) (ne_o0_tp : o0 ≠ tp) (ne_ti_tp : ti ≠ tp) (hx : p.tables.exec = Jvm.exec) (hZ : Z.Warmed39 s.vm) (hw : ∀ d ∈ tables_1, d.before a0 Z = true) (hby : c.code = prog_55_method_7_code) (hml : c.maxLocals = 2) (hown : s.vm.findClass "com/example/lean_layers/leanlayers/phase/layering/IndexedHeap" = some m.cls) :
    ∀ (d i : Nat) (pl : Nat → Nat) (T0 : State) (h0 : Heap) (locs : List Loc), n - i = d → i ≤ n → (∀ y, y < 4 → pl y = 0 ∨ ∃ j, i ≤ j ∧ j < n ∧ it j = y) → Stand p l e ({ frames := 0, cells := 0, slots := 0, locals := 40 } : Room) s m args below meth c T0 locs 0 0 → T0.heap = h0 → Fr n0 locs → n0 ≤ h0.size → Fld Z h0 o0 "com/example/lean_layers/leanlayers/phase/layering/IndexedHeap" "items" "[I" (.ref ti) → Fld Z h0 o0 "com/example/lean_layers/leanlayers/phase/layering/IndexedHeap" "place" "[I" (.ref tp) → Exa Z h0 o0 "com/example/lean_layers/leanlayers/phase/layering/IndexedHeap" → Fld Z h0 o0 "com/example/lean_layers/leanlayers/phase/layering/IndexedHeap" "size" "I" (.int (n.toInt32)) → own_A Z h0 ti .int 4 (fun kk => (.int ((it kk).toInt32))) → own_A Z h0 tp .int 4 (fun kk => (.int (own_pl (pl kk)))) →
      ∃ (T1 : State) (h1 : Heap) (locs1 : List Loc) (i1 : Nat) (g1 : Nat → Nat), Stand p l e ({ frames := 0, cells := 0, slots := 0, locals := 40 } : Room) s m args below meth c T1 locs1 0 0 ∧ T1.heap = h1 ∧ Fr n0 locs1 ∧ Keep h0 h1 [tp] ∧ own_A Z h1 tp .int 4 (fun kk => (.int (own_pl (g1 kk)))) ∧ (∀ y, y < 4 → g1 y = 0) ∧ ∀ t, Steps p.tables e below (T1.setTop (mkF m 28 #[.val (.ref o0), .val (.int (i1.toInt32))] [])) t → Steps p.tables e below (T0.setTop (mkF m 2 #[.val (.ref o0), .val (.int (i.toInt32))] [])) t := by
  intro d
  induction d using Nat.strongRecOn with
  | ind d ih =>
    intro i pl T0 h0 locs hd hin hC X0 e0 N0 Z0 F_items_o0 F_place_o0 E_o0 F_size_o0 A_ti A_tp
    have pre0 : ∀ t, Steps p.tables e below (T0.setTop (mkF m 2 #[.val (.ref o0), .val (.int (i.toInt32))] [])) t → Steps p.tables e below (T0.setTop (mkF m 2 #[.val (.ref o0), .val (.int (i.toInt32))] [])) t := fun t k => k
    obtain ⟨T1, X1, e1, st1⟩ := getF X0 hx hZ hown (host := "") (Or.inl (hw _ (List.mem_of_getElem? (i := 26) rfl))) Via.refl e0 F_size_o0 (g := (mkF m 4 #[.val (.ref o0), .val (.int (i.toInt32))] [(.ref o0), (.int (i.toInt32))])) rfl rfl (hb hby d4_4)
    have pre2 : ∀ t, Steps p.tables e below (T1.setTop (mkF m 7 #[.val (.ref o0), .val (.int (i.toInt32))] [(.int (n.toInt32)), (.int (i.toInt32))])) t → Steps p.tables e below (T0.setTop (mkF m 2 #[.val (.ref o0), .val (.int (i.toInt32))] [])) t := fun t k => pre0 t (by
      show Steps p.tables e below (T0.setTop (mkF m 2 #[.val (.ref o0), .val (.int (i.toInt32))] [])) _
      refine XS.iloadN X0.here hx rfl (hb hby d4_2) rfl ?_
      show Steps p.tables e below (T0.setTop (mkF m 3 #[.val (.ref o0), .val (.int (i.toInt32))] [(.int (i.toInt32))])) _
      refine XS.aloadN X0.here hx rfl (hb hby d4_3) rfl rfl ?_
      show Steps p.tables e below (T0.setTop (mkF m 4 #[.val (.ref o0), .val (.int (i.toInt32))] [(.ref o0), (.int (i.toInt32))])) _
      refine st1 _ ?_
      show Steps p.tables e below (T1.setTop (mkF m 7 #[.val (.ref o0), .val (.int (i.toInt32))] [(.int (n.toInt32)), (.int (i.toInt32))])) _
      exact k)
    by_cases hs3 : (i.toInt32) < (n.toInt32)
    · have hlt : i < n := (own_ltn (a := i) (b := n) (by omega) (by omega)).mp hs3
      have hik : it i < 4 := hI4 i (by omega)
      obtain ⟨T4, X4, e4, st4⟩ := getF X1 hx hZ hown (host := "") (Or.inl (hw _ (List.mem_of_getElem? (i := 15) rfl))) Via.refl e1 F_place_o0 (g := (mkF m 11 #[.val (.ref o0), .val (.int (i.toInt32))] [(.ref o0)])) rfl rfl (hb hby d4_11)
      obtain ⟨T5, X5, e5, st5⟩ := getF X4 hx hZ hown (host := "") (Or.inl (hw _ (List.mem_of_getElem? (i := 10) rfl))) Via.refl e4 F_items_o0 (g := (mkF m 15 #[.val (.ref o0), .val (.int (i.toInt32))] [(.ref o0), (.ref tp)])) rfl rfl (hb hby d4_15)
      have qa6 := A_ti
      obtain ⟨c6, Ar6, Sz6, H6⟩ := qa6
      have hi7 : 0 ≤ ((i.toInt32) : Int32).toInt ∧ ((i.toInt32) : Int32).toInt < (4 : Nat) := (own_bd (show i < 4 by omega) (by decide))
      have hl7 : c6.slots[((i.toInt32) : Int32).toNatClampNeg]? = some (.int ((it i).toInt32)) := by rw [show ((it i).toInt32) = (((it ((i.toInt32) : Int32).toNatClampNeg).toInt32)) from by rw [own_tn (show i < 2147483648 by omega)]]; exact H6 _ (own_ix hi7)
      have qa8 := A_tp
      obtain ⟨c8, Ar8, Sz8, H8⟩ := qa8
      have hi9 : 0 ≤ (((it i).toInt32) : Int32).toInt ∧ (((it i).toInt32) : Int32).toInt < (4 : Nat) := (own_bd (show it i < 4 by omega) (by decide))
      obtain ⟨T9, h9, X9, e9, W9, st9⟩ := stI X5 hx hZ e5 Ar8 (j := ((it i).toInt32)) (own_in Sz8 hi9) (g := (mkF m 21 #[.val (.ref o0), .val (.int (i.toInt32))] [(.int (-1 : Int32)), (.int ((it i).toInt32)), (.ref tp)])) rfl rfl (hb hby d4_21)
      have N9 := Fr.snoc X9 N0 g_tp
      have A_tp_w9 : own_A Z h9 tp .int 4 (fun kk => (.int (if kk = (((it i).toInt32) : Int32).toNatClampNeg then (-1 : Int32) else (own_pl (pl kk))))) := own_A.setI A_tp W9
      have A_tp_w9u : own_A Z h9 tp .int 4 (fun kk => (.int (own_pl ((own_u pl (it i) 0) kk)))) := own_setno A_tp_w9 (show it i < 2147483648 by omega)
      have F_items_o0_10 : Fld Z h9 o0 "com/example/lean_layers/leanlayers/phase/layering/IndexedHeap" "items" "[I" (.ref ti) := (F_items_o0).other W9 (Or.inl ne_o0_tp)
      have F_place_o0_10 : Fld Z h9 o0 "com/example/lean_layers/leanlayers/phase/layering/IndexedHeap" "place" "[I" (.ref tp) := (F_place_o0).other W9 (Or.inl ne_o0_tp)
      have E_o0_10 : Exa Z h9 o0 "com/example/lean_layers/leanlayers/phase/layering/IndexedHeap" := (E_o0).wr W9
      have F_size_o0_10 : Fld Z h9 o0 "com/example/lean_layers/leanlayers/phase/layering/IndexedHeap" "size" "I" (.int (n.toInt32)) := (F_size_o0).other W9 (Or.inl ne_o0_tp)
      have A_ti_10 : own_A Z h9 ti .int 4 (fun kk => (.int ((it kk).toInt32))) := (A_ti).other W9 ne_ti_tp
      have SZ11 : h0.size ≤ h9.size := by rw [W9.size]; exact (Nat.le_refl _)
      have ZZ11 : n0 ≤ h9.size := Nat.le_trans Z0 SZ11
      have K12 : Keep h0 h9 [tp] := ((Keep.refl h0 [tp])).wr W9 (Or.inl (List.mem_of_getElem? (i := 0) rfl))
      have pre13 : ∀ t, Steps p.tables e below (T9.setTop (mkF m 25 #[.val (.ref o0), .val (.int ((i.toInt32) + (1 : Int32)))] [])) t → Steps p.tables e below (T0.setTop (mkF m 2 #[.val (.ref o0), .val (.int (i.toInt32))] [])) t := fun t k => pre2 t (by
        refine XS.icmpNo X1.here hx rfl (hb hby d4_7) rfl (tlt hs3).2.1 ?_
        show Steps p.tables e below (T1.setTop (mkF m 10 #[.val (.ref o0), .val (.int (i.toInt32))] [])) _
        refine XS.aloadN X1.here hx rfl (hb hby d4_10) rfl rfl ?_
        show Steps p.tables e below (T1.setTop (mkF m 11 #[.val (.ref o0), .val (.int (i.toInt32))] [(.ref o0)])) _
        refine st4 _ ?_
        show Steps p.tables e below (T4.setTop (mkF m 14 #[.val (.ref o0), .val (.int (i.toInt32))] [(.ref tp)])) _
        refine XS.aloadN X4.here hx rfl (hb hby d4_14) rfl rfl ?_
        show Steps p.tables e below (T4.setTop (mkF m 15 #[.val (.ref o0), .val (.int (i.toInt32))] [(.ref o0), (.ref tp)])) _
        refine st5 _ ?_
        show Steps p.tables e below (T5.setTop (mkF m 18 #[.val (.ref o0), .val (.int (i.toInt32))] [(.ref ti), (.ref tp)])) _
        refine XS.iloadN X5.here hx rfl (hb hby d4_18) rfl ?_
        show Steps p.tables e below (T5.setTop (mkF m 19 #[.val (.ref o0), .val (.int (i.toInt32))] [(.int (i.toInt32)), (.ref ti), (.ref tp)])) _
        refine X5.iaload hx (j := (i.toInt32)) (v := (.int ((it i).toInt32))) (by rw [e5]; exact Ar6.1) (State.isArrayOf_alike hZ.alike Ar6.2.1) Ar6.2.2 (own_in Sz6 hi7) hl7 (g := (mkF m 19 #[.val (.ref o0), .val (.int (i.toInt32))] [(.int (i.toInt32)), (.ref ti), (.ref tp)])) rfl rfl (hb hby d4_19) _ ?_
        show Steps p.tables e below (T5.setTop (mkF m 20 #[.val (.ref o0), .val (.int (i.toInt32))] [(.int ((it i).toInt32)), (.ref tp)])) _
        refine XS.iconst X5.here hx rfl (hb hby d4_20) ?_
        show Steps p.tables e below (T5.setTop (mkF m 21 #[.val (.ref o0), .val (.int (i.toInt32))] [(.int (-1 : Int32)), (.int ((it i).toInt32)), (.ref tp)])) _
        refine st9 _ ?_
        show Steps p.tables e below (T9.setTop (mkF m 22 #[.val (.ref o0), .val (.int (i.toInt32))] [])) _
        refine XS.iinc X9.here hx rfl (hb hby d4_22) rfl (l' := #[.val (.ref o0), .val (.int ((i.toInt32) + (1 : Int32)))]) rfl ?_
        show Steps p.tables e below (T9.setTop (mkF m 25 #[.val (.ref o0), .val (.int ((i.toInt32) + (1 : Int32)))] [])) _
        exact k)
      have hre14 : ((i.toInt32) + (1 : Int32)) = ((i + 1).toInt32) := own_inc i
      have pre14 : ∀ t, Steps p.tables e below (T9.setTop (mkF m 25 #[.val (.ref o0), .val (.int ((i + 1).toInt32))] [])) t → Steps p.tables e below (T0.setTop (mkF m 2 #[.val (.ref o0), .val (.int (i.toInt32))] [])) t := fun t k => pre13 t (by rw [hre14]; exact k)
      have pre15 : ∀ t, Steps p.tables e below (T9.setTop (mkF m 2 #[.val (.ref o0), .val (.int ((i + 1).toInt32))] [])) t → Steps p.tables e below (T0.setTop (mkF m 2 #[.val (.ref o0), .val (.int (i.toInt32))] [])) t := fun t k => pre14 t (by
        show Steps p.tables e below (T9.setTop (mkF m 25 #[.val (.ref o0), .val (.int ((i + 1).toInt32))] [])) _
        refine XS.goto X9.here hx rfl (pc0 := 25) (pc' := 2) rfl (hb hby d4_25) (by decide) (by decide) ?_
        show Steps p.tables e below (T9.setTop (mkF m 2 #[.val (.ref o0), .val (.int ((i + 1).toInt32))] [])) _
        exact k)
      obtain ⟨T1, h1, locs1, i1, g1, Y1, Y2, Y3, Y4, Y5, Y6, Y7⟩ := ih (n - (i + 1)) (by omega) (i + 1) (own_u pl (it i) 0) _ _ _ rfl (by omega) (own_cl hC) X9 e9 N9 ZZ11 F_items_o0_10 F_place_o0_10 E_o0_10 F_size_o0_10 A_ti_10 A_tp_w9u
      exact ⟨T1, h1, locs1, i1, g1, Y1, Y2, Y3, K12.trans Y4 (fun x hx => Or.inl hx), Y5, Y6, fun t k => pre15 t (Y7 t k)⟩
    · have pre16 : ∀ t, Steps p.tables e below (T1.setTop (mkF m 28 #[.val (.ref o0), .val (.int (i.toInt32))] [])) t → Steps p.tables e below (T0.setTop (mkF m 2 #[.val (.ref o0), .val (.int (i.toInt32))] [])) t := fun t k => pre2 t (by
        refine XS.icmpYes X1.here hx rfl (pc0 := 7) (pc' := 28) rfl (hb hby d4_7) rfl (flt hs3).2.1 (by decide) (by decide) ?_
        show Steps p.tables e below (T1.setTop (mkF m 28 #[.val (.ref o0), .val (.int (i.toInt32))] [])) _
        exact k)
      have hge : n ≤ i := by have q := mt (own_ltn (a := i) (b := n) (by omega) (by omega)).mpr hs3; omega
      exact ⟨_, _, _, i, pl, X1, e1, N0, (Keep.refl h0 [tp]), A_tp, own_cl1 hC hge, pre16⟩
theorem d4_0 : decode prog_55_method_7_code 0 = .ok (.iconst 0, 1) := by decide +kernel
theorem d4_1 : decode prog_55_method_7_code 1 = .ok (.istore_n 1, 1) := by decide +kernel
theorem d4_28 : decode prog_55_method_7_code 28 = .ok (.aload_n 0, 1) := by decide +kernel
theorem d4_29 : decode prog_55_method_7_code 29 = .ok (.iconst 0, 1) := by decide +kernel
theorem d4_30 : decode prog_55_method_7_code 30 = .ok (.putfield 26, 3) := by decide +kernel
theorem d4_33 : decode prog_55_method_7_code 33 = .ok (.return_, 1) := by decide +kernel
theorem ef_4 (m : MethodId) (o0 : Addr) : entryFrame m #[(.ref o0)] 2 = mkF m 0 #[.val (.ref o0), .unset] [] := by first | (simp [entryFrame, mkF, argsToLocals, Value.category]; done) | rfl

def Q4 (Z : State) (o0 : Addr) (ti tk tp : Addr) (it pl : Nat → Nat) (n : Nat) (h0 : Heap) (n0 : Nat) (v : Option Value) (h : Heap) (L : List Loc) : Prop := ∃ (pl2 : Nat → Nat), v = none ∧ Fr n0 L ∧ Keep h0 h [tp, o0] ∧ (Fld Z h o0 "com/example/lean_layers/leanlayers/phase/layering/IndexedHeap" "size" "I" (.int ((0 : Nat).toInt32))) ∧ (Fld Z h o0 "com/example/lean_layers/leanlayers/phase/layering/IndexedHeap" "items" "[I" (.ref ti)) ∧ (Fld Z h o0 "com/example/lean_layers/leanlayers/phase/layering/IndexedHeap" "keys" "[J" (.ref tk)) ∧ (Fld Z h o0 "com/example/lean_layers/leanlayers/phase/layering/IndexedHeap" "place" "[I" (.ref tp)) ∧ (own_A Z h tp .int 4 (fun kk => (.int (own_pl (pl2 kk))))) ∧ (∀ y, y < 4 → pl2 y = 0)
set_option maxRecDepth 65536 in
set_option maxHeartbeats 40000000 in
theorem rm4 (l : Launch) (Z : State) (a0 : Array Value) (hw : ∀ d ∈ tables_1, d.before a0 Z = true) (ws : List Jvm.Cond) (o0 : Addr) (ti tk tp : Addr) (it pl : Nat → Nat) (n : Nat) (h0 : Heap) (n0 : Nat) (Z0 : n0 ≤ h0.size) (F_items_o0 : Fld Z h0 o0 "com/example/lean_layers/leanlayers/phase/layering/IndexedHeap" "items" "[I" (.ref ti)) (F_keys_o0 : Fld Z h0 o0 "com/example/lean_layers/leanlayers/phase/layering/IndexedHeap" "keys" "[J" (.ref tk)) (F_place_o0 : Fld Z h0 o0 "com/example/lean_layers/leanlayers/phase/layering/IndexedHeap" "place" "[I" (.ref tp)) (E_o0 : Exa Z h0 o0 "com/example/lean_layers/leanlayers/phase/layering/IndexedHeap") (F_size_o0 : Fld Z h0 o0 "com/example/lean_layers/leanlayers/phase/layering/IndexedHeap" "size" "I" (.int (n.toInt32))) (A_ti : own_A Z h0 ti .int 4 (fun kk => (.int ((it kk).toInt32)))) (A_tp : own_A Z h0 tp .int 4 (fun kk => (.int (own_pl (pl kk))))) (g_tp : n0 ≤ tp) (g_o0 : n0 ≤ o0) (ne_o0_ti : o0 ≠ ti) (ne_o0_tp : o0 ≠ tp) (ne_ti_tp : ti ≠ tp) (hIV : own_IV 4 n it pl) :
    MetFree l (⟨"com/example/lean_layers/leanlayers/phase/layering/IndexedHeap", "clear", "()V"⟩ : MethodName) (head1 (Jvm.Cond.code (⟨"com/example/lean_layers/leanlayers/phase/layering/IndexedHeap", "clear", "()V"⟩ : MethodName) prog_55_method_7_code 2 none :: ws) ({ frames := 0, cells := 0, slots := 0, locals := 40 } : Room)) (fun a U => a = #[(.ref o0)] ∧ Z.Warmed39 U.vm ∧ U.heap = h0) (fun _ _ _ _ _ => True) (fun _ U o U' => ∃ v L, o = .returned v ∧ Q4 Z o0 ti tk tp it pl n h0 n0 v U'.heap L ∧ FrameEnd U o U' L ({ frames := 0, cells := 0, slots := 0, locals := 40 } : Room).cells ({ frames := 0, cells := 0, slots := 0, locals := 40 } : Room).slots) := by
  refine MetFree.of_bodySF (plainFor_of_name pn_1) hisR ?_
  intro p e s m args below meth c s₁ Bd hml0 hP hK
  obtain ⟨rfl, hZ, hh⟩ := hP
  have hx := Bd.exec
  have hby := Bd.bytes
  have hml : c.maxLocals = 2 := hml0
  have hown : s.vm.findClass "com/example/lean_layers/leanlayers/phase/layering/IndexedHeap" = some m.cls := findClass_of_methodNamed Bd.named
  have hnm := (name_of_methodNamed Bd.named Bd.method).1
  have X0 : Stand p l e ({ frames := 0, cells := 0, slots := 0, locals := 40 } : Room) s m #[(.ref o0)] below meth c s₁ [] 0 0 := Stand.of_body Bd
  have e0 : s₁.heap = h0 := by rw [← hh, Bd.state]; rfl
  have N0 := Fr.nil n0
  have pre0 : ∀ t, Steps p.tables e below (s₁.setTop (mkF m 0 #[.val (.ref o0), .unset] [])) t → Steps p.tables e below (s₁.setTop (entryFrame m #[(.ref o0)] 2)) t := fun t k => castTop (ef_4 m o0) k
  have pre1 : ∀ t, Steps p.tables e below (s₁.setTop (mkF m 2 #[.val (.ref o0), .val (.int (0 : Int32))] [])) t → Steps p.tables e below (s₁.setTop (entryFrame m #[(.ref o0)] 2)) t := fun t k => pre0 t (by
    show Steps p.tables e below (s₁.setTop (mkF m 0 #[.val (.ref o0), .unset] [])) _
    refine XS.iconst X0.here hx rfl (hb hby d4_0) ?_
    show Steps p.tables e below (s₁.setTop (mkF m 1 #[.val (.ref o0), .unset] [(.int (0 : Int32))])) _
    refine XS.istoreN X0.here hx rfl (hb hby d4_1) rfl (l' := #[.val (.ref o0), .val (.int (0 : Int32))]) rfl ?_
    show Steps p.tables e below (s₁.setTop (mkF m 2 #[.val (.ref o0), .val (.int (0 : Int32))] [])) _
    exact k)
  have hre2 : (0 : Int32) = ((0 : Nat).toInt32) := rfl
  have pre2 : ∀ t, Steps p.tables e below (s₁.setTop (mkF m 2 #[.val (.ref o0), .val (.int ((0 : Nat).toInt32))] [])) t → Steps p.tables e below (s₁.setTop (entryFrame m #[(.ref o0)] 2)) t := fun t k => pre1 t (by rw [hre2]; exact k)
  obtain ⟨T3, h3, L3, i3, g3, X3, e3, N3, Kc3, Pb3, hC3, st3⟩ := loop_cl o0 ti tp it n hIV.1 hIV.2.1 n0 g_tp ne_o0_ti ne_o0_tp ne_ti_tp hx hZ hw hby hml hown _ 0 pl _ _ _ rfl (Nat.zero_le _) (own_cl0 hIV) X0 e0 N0 Z0 F_items_o0 F_place_o0 E_o0 F_size_o0 A_ti A_tp
  have F_items_o0_4 : Fld Z h3 o0 "com/example/lean_layers/leanlayers/phase/layering/IndexedHeap" "items" "[I" (.ref ti) := (F_items_o0).keep Kc3 (ninS ne_o0_tp nin0)
  have F_keys_o0_4 : Fld Z h3 o0 "com/example/lean_layers/leanlayers/phase/layering/IndexedHeap" "keys" "[J" (.ref tk) := (F_keys_o0).keep Kc3 (ninS ne_o0_tp nin0)
  have F_place_o0_4 : Fld Z h3 o0 "com/example/lean_layers/leanlayers/phase/layering/IndexedHeap" "place" "[I" (.ref tp) := (F_place_o0).keep Kc3 (ninS ne_o0_tp nin0)
  have E_o0_4 : Exa Z h3 o0 "com/example/lean_layers/leanlayers/phase/layering/IndexedHeap" := (E_o0).keep Kc3
  have F_size_o0_4 : Fld Z h3 o0 "com/example/lean_layers/leanlayers/phase/layering/IndexedHeap" "size" "I" (.int (n.toInt32)) := (F_size_o0).keep Kc3 (ninS ne_o0_tp nin0)
  have A_ti_4 : own_A Z h3 ti .int 4 (fun kk => (.int ((it kk).toInt32))) := (A_ti).keep Kc3 (ninS ne_ti_tp nin0)
  have SZ5 : h0.size ≤ h3.size := Nat.le_trans (Nat.le_refl _) Kc3.1
  have ZZ5 : n0 ≤ h3.size := Nat.le_trans Z0 SZ5
  have K6 : Keep h0 h3 [tp, o0] := ((Keep.refl h0 [tp, o0])).trans Kc3 (allS (Or.inl (List.mem_of_getElem? (i := 0) rfl)) all0)
  obtain ⟨T7, h7, X7, e7, W7, st7⟩ := putF X3 hx hZ hown (host := "") (Or.inl (hw _ (List.mem_of_getElem? (i := 26) rfl))) Via.refl e3 F_size_o0_4 E_o0_4 (Or.inl (hw _ (List.mem_of_getElem? (i := 27) rfl))) (hw _ (List.mem_of_getElem? (i := 1) rfl)) (ty := .int) (by decide) rfl rfl (g := (mkF m 30 #[.val (.ref o0), .val (.int (i3.toInt32))] [(.int (0 : Int32)), (.ref o0)])) rfl rfl (hb hby d4_30)
  have N7 := Fr.snoc X7 N3 g_o0
  have F_size_o0_w7 : Fld Z h7 o0 "com/example/lean_layers/leanlayers/phase/layering/IndexedHeap" "size" "I" (.int (0 : Int32)) := (F_size_o0_4).same W7
  have F_items_o0_8 : Fld Z h7 o0 "com/example/lean_layers/leanlayers/phase/layering/IndexedHeap" "items" "[I" (.ref ti) := (F_items_o0_4).other W7 (Or.inr (slot_ne (Or.inr (hw _ (List.mem_of_getElem? (i := 11) rfl))) (Or.inl (hw _ (List.mem_of_getElem? (i := 27) rfl))) (by decide) (t := (.array .int)) (t' := .int) (by decide) (by decide)))
  have F_keys_o0_8 : Fld Z h7 o0 "com/example/lean_layers/leanlayers/phase/layering/IndexedHeap" "keys" "[J" (.ref tk) := (F_keys_o0_4).other W7 (Or.inr (slot_ne (Or.inr (hw _ (List.mem_of_getElem? (i := 14) rfl))) (Or.inl (hw _ (List.mem_of_getElem? (i := 27) rfl))) (by decide) (t := (.array .long)) (t' := .int) (by decide) (by decide)))
  have F_place_o0_8 : Fld Z h7 o0 "com/example/lean_layers/leanlayers/phase/layering/IndexedHeap" "place" "[I" (.ref tp) := (F_place_o0_4).other W7 (Or.inr (slot_ne (Or.inr (hw _ (List.mem_of_getElem? (i := 16) rfl))) (Or.inl (hw _ (List.mem_of_getElem? (i := 27) rfl))) (by decide) (t := (.array .int)) (t' := .int) (by decide) (by decide)))
  have E_o0_8 : Exa Z h7 o0 "com/example/lean_layers/leanlayers/phase/layering/IndexedHeap" := (E_o0_4).wr W7
  have A_ti_8 : own_A Z h7 ti .int 4 (fun kk => (.int ((it kk).toInt32))) := (A_ti_4).other W7 (Ne.symm ne_o0_ti)
  have A_tp_8 : own_A Z h7 tp .int 4 (fun kk => (.int (own_pl (g3 kk)))) := (Pb3).other W7 (Ne.symm ne_o0_tp)
  have SZ9 : h0.size ≤ h7.size := by rw [W7.size]; exact SZ5
  have ZZ9 : n0 ≤ h7.size := Nat.le_trans Z0 SZ9
  have K10 : Keep h0 h7 [tp, o0] := (K6).wr W7 (Or.inl (List.mem_of_getElem? (i := 1) rfl))
  have pre11 : ∀ t, Steps p.tables e below (T7.setTop (mkF m 33 #[.val (.ref o0), .val (.int (i3.toInt32))] [])) t → Steps p.tables e below (s₁.setTop (entryFrame m #[(.ref o0)] 2)) t := fun t k => pre2 t (by
    show Steps p.tables e below (s₁.setTop (mkF m 2 #[.val (.ref o0), .val (.int ((0 : Nat).toInt32))] [])) _
    refine st3 _ ?_
    show Steps p.tables e below (T3.setTop (mkF m 28 #[.val (.ref o0), .val (.int (i3.toInt32))] [])) _
    refine XS.aloadN X3.here hx rfl (hb hby d4_28) rfl rfl ?_
    show Steps p.tables e below (T3.setTop (mkF m 29 #[.val (.ref o0), .val (.int (i3.toInt32))] [(.ref o0)])) _
    refine XS.iconst X3.here hx rfl (hb hby d4_29) ?_
    show Steps p.tables e below (T3.setTop (mkF m 30 #[.val (.ref o0), .val (.int (i3.toInt32))] [(.int (0 : Int32)), (.ref o0)])) _
    refine st7 _ ?_
    show Steps p.tables e below (T7.setTop (mkF m 33 #[.val (.ref o0), .val (.int (i3.toInt32))] [])) _
    exact k)
  obtain ⟨fs, hr, hrun, hended, hW, hsame⟩ := X7.leave (v := none) (fun _ => rfl)
  refine ⟨_, _, pre11 _ ?_, hrun, hended, _, _, rfl, ?_, ⟨_, rfl⟩, hW, hsame.mono (by decide) (by decide)⟩
  · exact X7.returnOut hx Bd.returns (hb hby d4_33) hr
  · show Q4 Z o0 ti tk tp it pl n h0 n0 _ T7.heap _
    rw [e7]
    exact ⟨g3, rfl, N7, K10, F_size_o0_w7, F_items_o0_8, F_keys_o0_8, F_place_o0_8, A_tp_8, hC3⟩
theorem d10_0 : decode prog_55_method_3_code 0 = .ok (.aload_n 0, 1) := by decide +kernel
theorem d10_1 : decode prog_55_method_3_code 1 = .ok (.getfield 26, 3) := by decide +kernel
theorem d10_4 : decode prog_55_method_3_code 4 = .ok (.ifCond .ne 13, 3) := by decide +kernel
theorem d10_17 : decode prog_55_method_3_code 17 = .ok (.aload_n 0, 1) := by decide +kernel
theorem d10_18 : decode prog_55_method_3_code 18 = .ok (.getfield 7, 3) := by decide +kernel
theorem d10_21 : decode prog_55_method_3_code 21 = .ok (.iconst 0, 1) := by decide +kernel
theorem d10_22 : decode prog_55_method_3_code 22 = .ok (.iaload, 1) := by decide +kernel
theorem d10_23 : decode prog_55_method_3_code 23 = .ok (.ireturn, 1) := by decide +kernel
theorem ef_10 (m : MethodId) (o0 : Addr) : entryFrame m #[(.ref o0)] 1 = mkF m 0 #[.val (.ref o0)] [] := by first | (simp [entryFrame, mkF, argsToLocals, Value.category]; done) | rfl

def Q10 (Z : State) (o0 : Addr) (ti : Addr) (it : Nat → Nat) (n : Nat) (h0 : Heap) (n0 : Nat) (v : Option Value) (h : Heap) (L : List Loc) : Prop := v = some (.int ((it 0).toInt32)) ∧ Fr n0 L ∧ h = h0
set_option maxRecDepth 65536 in
set_option maxHeartbeats 40000000 in
theorem rm10 (l : Launch) (Z : State) (a0 : Array Value) (hw : ∀ d ∈ tables_1, d.before a0 Z = true) (ws : List Jvm.Cond) (o0 : Addr) (ti : Addr) (it : Nat → Nat) (n : Nat) (h0 : Heap) (n0 : Nat) (Z0 : n0 ≤ h0.size) (F_items_o0 : Fld Z h0 o0 "com/example/lean_layers/leanlayers/phase/layering/IndexedHeap" "items" "[I" (.ref ti)) (F_size_o0 : Fld Z h0 o0 "com/example/lean_layers/leanlayers/phase/layering/IndexedHeap" "size" "I" (.int (n.toInt32))) (A_ti : own_A Z h0 ti .int 4 (fun kk => (.int ((it kk).toInt32)))) (hpos : 0 < n) (hn4 : n ≤ 4) :
    MetFree l (⟨"com/example/lean_layers/leanlayers/phase/layering/IndexedHeap", "first", "()I"⟩ : MethodName) (head1 (Jvm.Cond.code (⟨"com/example/lean_layers/leanlayers/phase/layering/IndexedHeap", "first", "()I"⟩ : MethodName) prog_55_method_3_code 1 (some .int) :: ws) ({ frames := 0, cells := 0, slots := 0, locals := 0 } : Room)) (fun a U => a = #[(.ref o0)] ∧ Z.Warmed39 U.vm ∧ U.heap = h0) (fun _ _ _ _ _ => True) (fun _ U o U' => ∃ v L, o = .returned v ∧ Q10 Z o0 ti it n h0 n0 v U'.heap L ∧ FrameEnd U o U' L ({ frames := 0, cells := 0, slots := 0, locals := 0 } : Room).cells ({ frames := 0, cells := 0, slots := 0, locals := 0 } : Room).slots) := by
  refine MetFree.of_bodySF (plainFor_of_name pn_1) hisR ?_
  intro p e s m args below meth c s₁ Bd hml0 hP hK
  obtain ⟨rfl, hZ, hh⟩ := hP
  have hx := Bd.exec
  have hby := Bd.bytes
  have hml : c.maxLocals = 1 := hml0
  have hown : s.vm.findClass "com/example/lean_layers/leanlayers/phase/layering/IndexedHeap" = some m.cls := findClass_of_methodNamed Bd.named
  have hnm := (name_of_methodNamed Bd.named Bd.method).1
  have X0 : Stand p l e ({ frames := 0, cells := 0, slots := 0, locals := 0 } : Room) s m #[(.ref o0)] below meth c s₁ [] 0 0 := Stand.of_body Bd
  have e0 : s₁.heap = h0 := by rw [← hh, Bd.state]; rfl
  have N0 := Fr.nil n0
  have pre0 : ∀ t, Steps p.tables e below (s₁.setTop (mkF m 0 #[.val (.ref o0)] [])) t → Steps p.tables e below (s₁.setTop (entryFrame m #[(.ref o0)] 1)) t := fun t k => castTop (ef_10 m o0) k
  obtain ⟨T1, X1, e1, st1⟩ := getF X0 hx hZ hown (host := "") (Or.inl (hw _ (List.mem_of_getElem? (i := 26) rfl))) Via.refl e0 F_size_o0 (g := (mkF m 1 #[.val (.ref o0)] [(.ref o0)])) rfl rfl (hb hby d10_1)
  obtain ⟨T2, X2, e2, st2⟩ := getF X1 hx hZ hown (host := "") (Or.inl (hw _ (List.mem_of_getElem? (i := 10) rfl))) Via.refl e1 F_items_o0 (g := (mkF m 18 #[.val (.ref o0)] [(.ref o0)])) rfl rfl (hb hby d10_18)
  have qa3 := A_ti
  obtain ⟨c3, Ar3, Sz3, H3⟩ := qa3
  have hi4 : 0 ≤ ((0 : Int32) : Int32).toInt ∧ ((0 : Int32) : Int32).toInt < (4 : Nat) := (by decide)
  have hl4 : c3.slots[((0 : Int32) : Int32).toNatClampNeg]? = some (.int ((it 0).toInt32)) := by rw [show ((it 0).toInt32) = (((it ((0 : Int32) : Int32).toNatClampNeg).toInt32)) from rfl]; exact H3 _ (own_ix hi4)
  have pre5 : ∀ t, Steps p.tables e below (T2.setTop (mkF m 23 #[.val (.ref o0)] [(.int ((it 0).toInt32))])) t → Steps p.tables e below (s₁.setTop (entryFrame m #[(.ref o0)] 1)) t := fun t k => pre0 t (by
    show Steps p.tables e below (s₁.setTop (mkF m 0 #[.val (.ref o0)] [])) _
    refine XS.aloadN X0.here hx rfl (hb hby d10_0) rfl rfl ?_
    show Steps p.tables e below (s₁.setTop (mkF m 1 #[.val (.ref o0)] [(.ref o0)])) _
    refine st1 _ ?_
    show Steps p.tables e below (T1.setTop (mkF m 4 #[.val (.ref o0)] [(.int (n.toInt32))])) _
    refine XS.ifYes X1.here hx rfl (pc0 := 4) (pc' := 17) rfl (hb hby d10_4) rfl ((if0 _ _).trans (feq (show ¬ ((n.toInt32) = (0 : Int32)) from own_ne0 hpos (by omega))).2) (by decide) (by decide) ?_
    show Steps p.tables e below (T1.setTop (mkF m 17 #[.val (.ref o0)] [])) _
    refine XS.aloadN X1.here hx rfl (hb hby d10_17) rfl rfl ?_
    show Steps p.tables e below (T1.setTop (mkF m 18 #[.val (.ref o0)] [(.ref o0)])) _
    refine st2 _ ?_
    show Steps p.tables e below (T2.setTop (mkF m 21 #[.val (.ref o0)] [(.ref ti)])) _
    refine XS.iconst X2.here hx rfl (hb hby d10_21) ?_
    show Steps p.tables e below (T2.setTop (mkF m 22 #[.val (.ref o0)] [(.int (0 : Int32)), (.ref ti)])) _
    refine X2.iaload hx (j := (0 : Int32)) (v := (.int ((it 0).toInt32))) (by rw [e2]; exact Ar3.1) (State.isArrayOf_alike hZ.alike Ar3.2.1) Ar3.2.2 (own_in Sz3 hi4) hl4 (g := (mkF m 22 #[.val (.ref o0)] [(.int (0 : Int32)), (.ref ti)])) rfl rfl (hb hby d10_22) _ ?_
    show Steps p.tables e below (T2.setTop (mkF m 23 #[.val (.ref o0)] [(.int ((it 0).toInt32))])) _
    exact k)
  obtain ⟨fs, hr, hrun, hended, hW, hsame⟩ := X2.leave (v := some (.int ((it 0).toInt32))) (fun h => by rw [Bd.returns] at h; cases h)
  refine ⟨_, _, pre5 _ ?_, hrun, hended, _, _, rfl, ?_, ⟨_, rfl⟩, hW, hsame.mono (by decide) (by decide)⟩
  · exact retI X2 hx Bd.returns (hb hby d10_23) hr
  · show Q10 Z o0 ti it n h0 n0 _ T2.heap _
    rw [e2]
    exact ⟨rfl, N0, rfl⟩
theorem d11_0 : decode prog_55_method_4_code 0 = .ok (.aload_n 0, 1) := by decide +kernel
theorem d11_1 : decode prog_55_method_4_code 1 = .ok (.getfield 13, 3) := by decide +kernel
theorem d11_4 : decode prog_55_method_4_code 4 = .ok (.aload_n 0, 1) := by decide +kernel
theorem d11_5 : decode prog_55_method_4_code 5 = .ok (.invokevirtual 37, 3) := by decide +kernel
theorem d11_8 : decode prog_55_method_4_code 8 = .ok (.laload, 1) := by decide +kernel
theorem d11_9 : decode prog_55_method_4_code 9 = .ok (.lreturn, 1) := by decide +kernel
theorem pd_4 : parseMethodDescriptor "()I" = some ⟨[], some .int⟩ := by decide +kernel
theorem ef_11 (m : MethodId) (o0 : Addr) : entryFrame m #[(.ref o0)] 1 = mkF m 0 #[.val (.ref o0)] [] := by first | (simp [entryFrame, mkF, argsToLocals, Value.category]; done) | rfl

def Q11 (Z : State) (o0 : Addr) (ti tk : Addr) (ky : Nat → Int64) (it : Nat → Nat) (n : Nat) (h0 : Heap) (n0 : Nat) (v : Option Value) (h : Heap) (L : List Loc) : Prop := v = some (.long (ky (it 0))) ∧ Fr n0 L ∧ h = h0
set_option maxRecDepth 65536 in
set_option maxHeartbeats 40000000 in
theorem rm11 (l : Launch) (Z : State) (a0 : Array Value) (hw : ∀ d ∈ tables_1, d.before a0 Z = true) (ws : List Jvm.Cond) (o0 : Addr) (ti tk : Addr) (ky : Nat → Int64) (it : Nat → Nat) (n : Nat) (h0 : Heap) (n0 : Nat) (Z0 : n0 ≤ h0.size) (F_items_o0 : Fld Z h0 o0 "com/example/lean_layers/leanlayers/phase/layering/IndexedHeap" "items" "[I" (.ref ti)) (F_keys_o0 : Fld Z h0 o0 "com/example/lean_layers/leanlayers/phase/layering/IndexedHeap" "keys" "[J" (.ref tk)) (E_o0 : Exa Z h0 o0 "com/example/lean_layers/leanlayers/phase/layering/IndexedHeap") (F_size_o0 : Fld Z h0 o0 "com/example/lean_layers/leanlayers/phase/layering/IndexedHeap" "size" "I" (.int (n.toInt32))) (A_ti : own_A Z h0 ti .int 4 (fun kk => (.int ((it kk).toInt32)))) (A_tk : own_A Z h0 tk .long 4 (fun kk => (.long (ky kk)))) (hpos : 0 < n) (hn4 : n ≤ 4) (hi0 : it 0 < 4) :
    MetFree l (⟨"com/example/lean_layers/leanlayers/phase/layering/IndexedHeap", "firstKey", "()J"⟩ : MethodName) (head1 (Jvm.Cond.code (⟨"com/example/lean_layers/leanlayers/phase/layering/IndexedHeap", "firstKey", "()J"⟩ : MethodName) prog_55_method_4_code 1 (some .long) :: ws) ({ frames := 1, cells := 0, slots := 0, locals := 13 } : Room)) (fun a U => a = #[(.ref o0)] ∧ Z.Warmed39 U.vm ∧ U.heap = h0) (fun _ _ _ _ _ => True) (fun _ U o U' => ∃ v L, o = .returned v ∧ Q11 Z o0 ti tk ky it n h0 n0 v U'.heap L ∧ FrameEnd U o U' L ({ frames := 1, cells := 0, slots := 0, locals := 13 } : Room).cells ({ frames := 1, cells := 0, slots := 0, locals := 13 } : Room).slots) := by
  refine MetFree.of_bodySF (plainFor_of_name pn_1) hisR ?_
  intro p e s m args below meth c s₁ Bd hml0 hP hK
  obtain ⟨rfl, hZ, hh⟩ := hP
  have hx := Bd.exec
  have hby := Bd.bytes
  have hml : c.maxLocals = 1 := hml0
  have hown : s.vm.findClass "com/example/lean_layers/leanlayers/phase/layering/IndexedHeap" = some m.cls := findClass_of_methodNamed Bd.named
  have hnm := (name_of_methodNamed Bd.named Bd.method).1
  have X0 : Stand p l e ({ frames := 1, cells := 0, slots := 0, locals := 13 } : Room) s m #[(.ref o0)] below meth c s₁ [] 0 0 := Stand.of_body Bd
  have e0 : s₁.heap = h0 := by rw [← hh, Bd.state]; rfl
  have N0 := Fr.nil n0
  have pre0 : ∀ t, Steps p.tables e below (s₁.setTop (mkF m 0 #[.val (.ref o0)] [])) t → Steps p.tables e below (s₁.setTop (entryFrame m #[(.ref o0)] 1)) t := fun t k => castTop (ef_11 m o0) k
  obtain ⟨T1, X1, e1, st1⟩ := getF X0 hx hZ hown (host := "") (Or.inl (hw _ (List.mem_of_getElem? (i := 13) rfl))) Via.refl e0 F_keys_o0 (g := (mkF m 1 #[.val (.ref o0)] [(.ref o0)])) rfl rfl (hb hby d11_1)
  obtain ⟨cq2, kq2, q2a, q2b, q2c⟩ := isOf hZ e1 (E_o0)
  obtain ⟨_, _, ⟨T2, L2, k2, n2⟩, -, X2, ⟨Lc2, hQ2, l2, y2, z2⟩, st2⟩ := X1.virtualBack hx (y := (⟨"com/example/lean_layers/leanlayers/phase/layering/IndexedHeap", "first", "()I"⟩ : MethodName)) (z := (⟨"com/example/lean_layers/leanlayers/phase/layering/IndexedHeap", "first", "()I"⟩ : MethodName)) hown (mvT hZ (hw _ (List.mem_of_getElem? (i := 60) rfl))) (mvT hZ (hw _ (List.mem_of_getElem? (i := 51) rfl))) (notFace_of_selects (args := #[]) (mvT hZ (hw _ (List.mem_of_getElem? (i := 53) rfl)))) (mvT hZ (hw _ (List.mem_of_getElem? (i := 53) rfl))) (mvT hZ (hw _ (List.mem_of_getElem? (i := 52) rfl))) (by decide) (backOf (W := 1) (rm10 l Z a0 hw [] o0 ti it n h0 n0 Z0 F_items_o0 F_size_o0 A_ti hpos hn4) hZ (hw _ (List.mem_of_getElem? (i := 54) rfl)) (hw _ (List.mem_of_getElem? (i := 2) rfl)) (by decide) (by decide)) q2a q2c (g := (mkF m 5 #[.val (.ref o0)] [(.ref o0), (.ref tk)])) rfl (by rw [hml]; rfl) (Steps.refl _) (argsL := []) (rest := [(.ref tk)]) (lenOf pd_4 rfl) rfl (by show 2 * 0 + _ ≤ _; exact Nat.le_of_eq rfl) (hb hby d11_5) (fun _ _ => ⟨rfl, e1, (by decide : 0 + 0 ≤ _), (by decide : 0 + 0 ≤ _)⟩)
  dsimp only [Pt.U, Pt.locs, Pt.cells, Pt.slots] at X2 l2 y2 z2 st2 hQ2
  subst y2 z2
  obtain ⟨rfl, N2q, hh2⟩ := hQ2
  have N2 := Fr.app N0 N2q
  rw [← l2] at N2
  have qa3 := A_tk
  obtain ⟨c3, Ar3, Sz3, H3⟩ := qa3
  have hi4 : 0 ≤ (((it 0).toInt32) : Int32).toInt ∧ (((it 0).toInt32) : Int32).toInt < (4 : Nat) := (own_bd (show it 0 < 4 by omega) (by decide))
  have hl4 : c3.slots[(((it 0).toInt32) : Int32).toNatClampNeg]? = some (.long (ky (it 0))) := by rw [show (ky (it 0)) = ((ky (((it 0).toInt32) : Int32).toNatClampNeg)) from by rw [own_tn (show it 0 < 2147483648 by omega)]]; exact H3 _ (own_ix hi4)
  have pre5 : ∀ t, Steps p.tables e below (T2.setTop (mkF m 9 #[.val (.ref o0)] [(.long (ky (it 0)))])) t → Steps p.tables e below (s₁.setTop (entryFrame m #[(.ref o0)] 1)) t := fun t k => pre0 t (by
    show Steps p.tables e below (s₁.setTop (mkF m 0 #[.val (.ref o0)] [])) _
    refine XS.aloadN X0.here hx rfl (hb hby d11_0) rfl rfl ?_
    show Steps p.tables e below (s₁.setTop (mkF m 1 #[.val (.ref o0)] [(.ref o0)])) _
    refine st1 _ ?_
    show Steps p.tables e below (T1.setTop (mkF m 4 #[.val (.ref o0)] [(.ref tk)])) _
    refine XS.aloadN X1.here hx rfl (hb hby d11_4) rfl rfl ?_
    show Steps p.tables e below (T1.setTop (mkF m 5 #[.val (.ref o0)] [(.ref o0), (.ref tk)])) _
    refine st2.trans ?_
    show Steps p.tables e below (T2.setTop (mkF m 8 #[.val (.ref o0)] [(.int ((it 0).toInt32)), (.ref tk)])) _
    refine X2.laload hx (j := ((it 0).toInt32)) (v := (.long (ky (it 0)))) (by rw [hh2]; exact Ar3.1) (State.isArrayOf_alike hZ.alike Ar3.2.1) Ar3.2.2 (own_in Sz3 hi4) hl4 (g := (mkF m 8 #[.val (.ref o0)] [(.int ((it 0).toInt32)), (.ref tk)])) rfl rfl (hb hby d11_8) _ ?_
    show Steps p.tables e below (T2.setTop (mkF m 9 #[.val (.ref o0)] [(.long (ky (it 0)))])) _
    exact k)
  obtain ⟨fs, hr, hrun, hended, hW, hsame⟩ := X2.leave (v := some (.long (ky (it 0)))) (fun h => by rw [Bd.returns] at h; cases h)
  refine ⟨_, _, pre5 _ ?_, hrun, hended, _, _, rfl, ?_, ⟨_, rfl⟩, hW, hsame.mono (by decide) (by decide)⟩
  · exact retOut X2 hx Bd.returns rfl (Or.inr (Or.inl ⟨rfl, rfl, _, rfl⟩)) (hb hby d11_9) hr
  · show Q11 Z o0 ti tk ky it n h0 n0 _ T2.heap _
    rw [hh2]
    exact ⟨rfl, N2, rfl⟩

theorem own_uk_same (f : Nat → Int64) (k : Nat) (v : Int64) : own_uk f k v k = v := by simp [own_uk]
theorem own_m12 {a : Int32} (h : a < (1 : Int32)) : a < (2 : Int32) := by
  rw [Int32.lt_iff_toInt_lt] at *
  have e1 : (1 : Int32).toInt = 1 := by decide
  have e2 : (2 : Int32).toInt = 2 := by decide
  omega
theorem own_m23 {a : Int32} (h : a < (2 : Int32)) : a < (3 : Int32) := by
  rw [Int32.lt_iff_toInt_lt] at *
  have e1 : (3 : Int32).toInt = 3 := by decide
  have e2 : (2 : Int32).toInt = 2 := by decide
  omega
theorem own_first {n x : Nat} {it pl p0 : Nat → Nat} (h : own_IV 4 n it pl) (hn : 0 < n) (H : ∀ y, y < 4 → (pl y = 0 ↔ y ≠ x ∧ p0 y = 0)) (Z : ∀ y, y < 4 → p0 y = 0) : it 0 = x :=
  Classical.byContradiction fun q => by
    have a := h.2.2.1 0 hn
    have b := h.2.1 0 (by decide)
    rw [(H _ b).mpr ⟨q, Z _ b⟩] at a
    omega

theorem pn_2 : plainName "com/example/lean_layers/leanlayers/phase/layering/IndexedHeapClearPinLaw" = true := by first | (simp [plainName, overriddenIn]; done) | decide +kernel
theorem pd_5 : parseMethodDescriptor "()V" = some ⟨[], none⟩ := by decide +kernel
theorem pd_6 : parseMethodDescriptor "()Z" = some ⟨[], some .boolean⟩ := by decide +kernel
theorem pd_7 : parseMethodDescriptor "(IJ)V" = some ⟨[.int, .long], none⟩ := by decide +kernel
theorem pd_8 : parseMethodDescriptor "()J" = some ⟨[], some .long⟩ := by decide +kernel
theorem ef_0 (m : MethodId) (p0 : Int32) (q1 : Int64) (q2 : Int64) (q3 : Int64) (q4 : Int64) : entryFrame m #[(.int p0), (.long q1), (.long q2), (.long q3), (.long q4)] maxLocals = mkF m 0 #[.val (.int p0), .val (.long q1), .second, .val (.long q2), .second, .val (.long q3), .second, .val (.long q4), .second, .unset, .unset, .unset, .unset, .unset, .unset, .unset, .unset, .unset] [] := by first | (simp [entryFrame, mkF, argsToLocals, Value.category, maxLocals]; done) | rfl

def Q0 (Z : State) (p0 : Int32) (q1 : Int64) (q2 : Int64) (q3 : Int64) (q4 : Int64) (h0 : Heap) (n0 : Nat) (v : Option Value) (h : Heap) (L : List Loc) : Prop := v = some (.int 1) ∧ Fr n0 L
set_option maxRecDepth 65536 in
set_option maxHeartbeats 40000000 in
theorem rm0 (l : Launch) (Z : State) (a0 : Array Value) (hw : ∀ d ∈ tables_1, d.before a0 Z = true) (ws : List Jvm.Cond) (p0 : Int32) (q1 : Int64) (q2 : Int64) (q3 : Int64) (q4 : Int64) (h0 : Heap) (n0 : Nat) (Z0 : n0 ≤ h0.size)  :
    MetFree l x (head1 (Jvm.Cond.code x code maxLocals ret :: ws) room_1) (fun a U => a = #[(.int p0), (.long q1), (.long q2), (.long q3), (.long q4)] ∧ Z.Warmed39 U.vm ∧ U.heap = h0) (fun _ _ _ _ _ => True) (fun _ U o U' => ∃ v L, o = .returned v ∧ Q0 Z p0 q1 q2 q3 q4 h0 n0 v U'.heap L ∧ FrameEnd U o U' L room_1.cells room_1.slots) := by
  refine MetFree.of_bodySF (plainFor_of_name pn_2) hisR ?_
  intro p e s m args below meth c s₁ Bd hml0 hP hK
  obtain ⟨rfl, hZ, hh⟩ := hP
  have hx := Bd.exec
  have hby := Bd.bytes
  have hml : c.maxLocals = 18 := hml0
  have hown : s.vm.findClass "com/example/lean_layers/leanlayers/phase/layering/IndexedHeapClearPinLaw" = some m.cls := findClass_of_methodNamed Bd.named
  have hnm := (name_of_methodNamed Bd.named Bd.method).1
  have X0 : Stand p l e room_1 s m #[(.int p0), (.long q1), (.long q2), (.long q3), (.long q4)] below meth c s₁ [] 0 0 := Stand.of_body Bd
  have e0 : s₁.heap = h0 := by rw [← hh, Bd.state]; rfl
  have N0 := Fr.nil n0
  have pre0 : ∀ t, Steps p.tables e below (s₁.setTop (mkF m 0 #[.val (.int p0), .val (.long q1), .second, .val (.long q2), .second, .val (.long q3), .second, .val (.long q4), .second, .unset, .unset, .unset, .unset, .unset, .unset, .unset, .unset, .unset] [])) t → Steps p.tables e below (s₁.setTop (entryFrame m #[(.int p0), (.long q1), (.long q2), (.long q3), (.long q4)] maxLocals)) t := fun t k => castTop (ef_0 m p0 q1 q2 q3 q4) k
  obtain ⟨T1, h1, X1, e1, Ex1, Ne1, D1, -, st1⟩ := newO X0 hx hZ hown (hw _ (List.mem_of_getElem? (i := 0) rfl)) (hw _ (List.mem_of_getElem? (i := 1) rfl)) (hw _ (List.mem_of_getElem? (i := 2) rfl)) e0 (g := (mkF m 0 #[.val (.int p0), .val (.long q1), .second, .val (.long q2), .second, .val (.long q3), .second, .val (.long q4), .second, .unset, .unset, .unset, .unset, .unset, .unset, .unset, .unset, .unset] [])) rfl (hb hby at_0) (by decide) (by decide)
  obtain ⟨b1, g1⟩ : ∃ z, z = h0.size := ⟨_, rfl⟩
  rw [← g1] at Ne1 D1 st1
  have g_b1 : n0 ≤ b1 := Nat.le_trans (Nat.le_trans Z0 (Nat.le_refl _)) (Nat.le_of_eq g1.symm)
  have sz_b1 : h0.size ≤ b1 := Nat.le_trans (Nat.le_refl _) (Nat.le_of_eq g1.symm)
  have SZ3 : h0.size ≤ h1.size := Nat.le_trans (Nat.le_refl _) Ex1.1
  have ZZ3 : n0 ≤ h1.size := Nat.le_trans Z0 SZ3
  have K4 : Keep h0 h1 [] := ((Keep.refl h0 [])).ext Ex1
  have F_items_b1_1 : Fld Z h1 b1 "com/example/lean_layers/leanlayers/phase/layering/IndexedHeap" "items" "[I" .null := D1 (Or.inr (hw _ (List.mem_of_getElem? (i := 11) rfl))) (ty := (.array .int)) (by decide)
  have F_keys_b1_1 : Fld Z h1 b1 "com/example/lean_layers/leanlayers/phase/layering/IndexedHeap" "keys" "[J" .null := D1 (Or.inr (hw _ (List.mem_of_getElem? (i := 14) rfl))) (ty := (.array .long)) (by decide)
  have F_place_b1_1 : Fld Z h1 b1 "com/example/lean_layers/leanlayers/phase/layering/IndexedHeap" "place" "[I" .null := D1 (Or.inr (hw _ (List.mem_of_getElem? (i := 16) rfl))) (ty := (.array .int)) (by decide)
  have F_size_b1_1 : Fld Z h1 b1 "com/example/lean_layers/leanlayers/phase/layering/IndexedHeap" "size" "I" (.int (0 : Int32)) := D1 (Or.inl (hw _ (List.mem_of_getElem? (i := 27) rfl))) (ty := .int) (by decide)
  obtain ⟨_, _, ⟨T5, L5, k5, n5⟩, -, X5, ⟨Lc5, hQ5, l5, y5, z5⟩, st5⟩ := X1.specialBack hx (y := (⟨"com/example/lean_layers/leanlayers/phase/layering/IndexedHeap", "<init>", "(I)V"⟩ : MethodName)) rfl hown (mvT hZ (hw _ (List.mem_of_getElem? (i := 3) rfl))) (mvT hZ (hw _ (List.mem_of_getElem? (i := 4) rfl))) (mvT hZ (hw _ (List.mem_of_getElem? (i := 5) rfl))) (by decide) (backOf (W := 1) (rm1 l Z a0 hw [] b1 (4 : Int32) h1 n0 ZZ3 F_items_b1_1 F_keys_b1_1 F_place_b1_1 Ne1 F_size_b1_1 g_b1 rfl) hZ (hw _ (List.mem_of_getElem? (i := 5) rfl)) (hw _ (List.mem_of_getElem? (i := 2) rfl)) (by decide) (by decide)) (g := (mkF m 5 #[.val (.int p0), .val (.long q1), .second, .val (.long q2), .second, .val (.long q3), .second, .val (.long q4), .second, .unset, .unset, .unset, .unset, .unset, .unset, .unset, .unset, .unset] [(.int (4 : Int32)), (.ref b1), (.ref b1)])) rfl (by rw [hml]; rfl) (Steps.refl _) (a := b1) (argsL := [(.int (4 : Int32))]) (rest := [(.ref b1)]) (lenOf pd_3 rfl) rfl (by show 2 * 0 + _ ≤ _; exact Nat.le_of_eq rfl) (hb hby at_5) (fun _ _ => ⟨rfl, e1, (by decide : 1 + 3 ≤ _), (by decide : 4 + 12 ≤ _)⟩)
  dsimp only [Pt.U, Pt.locs, Pt.cells, Pt.slots] at X5 l5 y5 z5 st5 hQ5
  subst y5 z5
  obtain ⟨ti_5, tk_5, tp_5, rfl, N5q, Kc5, sz_ti_5, sz_tk_5, sz_tp_5, ne_ti_tk_5, ne_ti_tp_5, ne_tk_tp_5, P5_0, P5_1, P5_2, P5_3, P5_4, P5_5, P5_6⟩ := hQ5
  have N5 := Fr.app N0 N5q
  rw [← l5] at N5
  have E_b1_6 : Exa Z T5.heap b1 "com/example/lean_layers/leanlayers/phase/layering/IndexedHeap" := (Ne1).keep Kc5
  have SZ7 : h0.size ≤ T5.heap.size := Nat.le_trans SZ3 Kc5.1
  have ZZ7 : n0 ≤ T5.heap.size := Nat.le_trans Z0 SZ7
  have K8 : Keep h0 T5.heap [] := (K4).trans Kc5 (allS (Or.inr sz_b1) all0)
  have ne_b1_ti_5 : b1 ≠ ti_5 := Nat.ne_of_lt (Nat.lt_of_lt_of_le (Ne1).lt sz_ti_5)
  have g_ti_5 : n0 ≤ ti_5 := Nat.le_trans (Nat.le_trans Z0 SZ3) sz_ti_5
  have szz_ti_5 : h0.size ≤ ti_5 := Nat.le_trans SZ3 sz_ti_5
  have ne_b1_tk_5 : b1 ≠ tk_5 := Nat.ne_of_lt (Nat.lt_of_lt_of_le (Ne1).lt sz_tk_5)
  have g_tk_5 : n0 ≤ tk_5 := Nat.le_trans (Nat.le_trans Z0 SZ3) sz_tk_5
  have szz_tk_5 : h0.size ≤ tk_5 := Nat.le_trans SZ3 sz_tk_5
  have ne_b1_tp_5 : b1 ≠ tp_5 := Nat.ne_of_lt (Nat.lt_of_lt_of_le (Ne1).lt sz_tp_5)
  have g_tp_5 : n0 ≤ tp_5 := Nat.le_trans (Nat.le_trans Z0 SZ3) sz_tp_5
  have szz_tp_5 : h0.size ≤ tp_5 := Nat.le_trans SZ3 sz_tp_5
  obtain ⟨x11, hx11, hxe11⟩ := own_it4 ((p0.toUInt32 >>> ((2 : Int32) &&& 31).toUInt32).toInt32)
  have pre9 : ∀ t, Steps p.tables e below (T5.setTop (mkF m 45 #[.val (.int p0), .val (.long q1), .second, .val (.long q2), .second, .val (.long q3), .second, .val (.long q4), .second, .val (.ref b1), .val (.int (p0 &&& (3 : Int32))), .val (.int (((p0.toUInt32 >>> ((2 : Int32) &&& 31).toUInt32).toInt32) &&& (3 : Int32))), .val (.int (((p0.toUInt32 >>> ((4 : Int32) &&& 31).toUInt32).toInt32) &&& (3 : Int32))), .val (.int (((p0.toUInt32 >>> ((6 : Int32) &&& 31).toUInt32).toInt32) &&& (3 : Int32))), .val (.int (((p0.toUInt32 >>> ((8 : Int32) &&& 31).toUInt32).toInt32) &&& (3 : Int32))), .unset, .unset, .unset] [])) t → Steps p.tables e below (s₁.setTop (entryFrame m #[(.int p0), (.long q1), (.long q2), (.long q3), (.long q4)] maxLocals)) t := fun t k => pre0 t (by
    show Steps p.tables e below (s₁.setTop (mkF m 0 #[.val (.int p0), .val (.long q1), .second, .val (.long q2), .second, .val (.long q3), .second, .val (.long q4), .second, .unset, .unset, .unset, .unset, .unset, .unset, .unset, .unset, .unset] [])) _
    refine st1 _ ?_
    show Steps p.tables e below (T1.setTop (mkF m 3 #[.val (.int p0), .val (.long q1), .second, .val (.long q2), .second, .val (.long q3), .second, .val (.long q4), .second, .unset, .unset, .unset, .unset, .unset, .unset, .unset, .unset, .unset] [(.ref b1)])) _
    refine XS.dup X1.here hx rfl (hb hby at_3) rfl rfl ?_
    show Steps p.tables e below (T1.setTop (mkF m 4 #[.val (.int p0), .val (.long q1), .second, .val (.long q2), .second, .val (.long q3), .second, .val (.long q4), .second, .unset, .unset, .unset, .unset, .unset, .unset, .unset, .unset, .unset] [(.ref b1), (.ref b1)])) _
    refine XS.iconst X1.here hx rfl (hb hby at_4) ?_
    show Steps p.tables e below (T1.setTop (mkF m 5 #[.val (.int p0), .val (.long q1), .second, .val (.long q2), .second, .val (.long q3), .second, .val (.long q4), .second, .unset, .unset, .unset, .unset, .unset, .unset, .unset, .unset, .unset] [(.int (4 : Int32)), (.ref b1), (.ref b1)])) _
    refine st5.trans ?_
    show Steps p.tables e below (T5.setTop (mkF m 8 #[.val (.int p0), .val (.long q1), .second, .val (.long q2), .second, .val (.long q3), .second, .val (.long q4), .second, .unset, .unset, .unset, .unset, .unset, .unset, .unset, .unset, .unset] [(.ref b1)])) _
    refine XS.astore X5.here hx rfl (hb hby at_8) rfl rfl (l' := #[.val (.int p0), .val (.long q1), .second, .val (.long q2), .second, .val (.long q3), .second, .val (.long q4), .second, .val (.ref b1), .unset, .unset, .unset, .unset, .unset, .unset, .unset, .unset]) rfl ?_
    show Steps p.tables e below (T5.setTop (mkF m 10 #[.val (.int p0), .val (.long q1), .second, .val (.long q2), .second, .val (.long q3), .second, .val (.long q4), .second, .val (.ref b1), .unset, .unset, .unset, .unset, .unset, .unset, .unset, .unset] [])) _
    refine XS.iloadN X5.here hx rfl (hb hby at_10) rfl ?_
    show Steps p.tables e below (T5.setTop (mkF m 11 #[.val (.int p0), .val (.long q1), .second, .val (.long q2), .second, .val (.long q3), .second, .val (.long q4), .second, .val (.ref b1), .unset, .unset, .unset, .unset, .unset, .unset, .unset, .unset] [(.int p0)])) _
    refine XS.iconst X5.here hx rfl (hb hby at_11) ?_
    show Steps p.tables e below (T5.setTop (mkF m 12 #[.val (.int p0), .val (.long q1), .second, .val (.long q2), .second, .val (.long q3), .second, .val (.long q4), .second, .val (.ref b1), .unset, .unset, .unset, .unset, .unset, .unset, .unset, .unset] [(.int (3 : Int32)), (.int p0)])) _
    refine XS.iand X5.here hx rfl (hb hby at_12) rfl ?_
    show Steps p.tables e below (T5.setTop (mkF m 13 #[.val (.int p0), .val (.long q1), .second, .val (.long q2), .second, .val (.long q3), .second, .val (.long q4), .second, .val (.ref b1), .unset, .unset, .unset, .unset, .unset, .unset, .unset, .unset] [(.int (p0 &&& (3 : Int32)))])) _
    refine XS.istore X5.here hx rfl (hb hby at_13) rfl (l' := #[.val (.int p0), .val (.long q1), .second, .val (.long q2), .second, .val (.long q3), .second, .val (.long q4), .second, .val (.ref b1), .val (.int (p0 &&& (3 : Int32))), .unset, .unset, .unset, .unset, .unset, .unset, .unset]) rfl ?_
    show Steps p.tables e below (T5.setTop (mkF m 15 #[.val (.int p0), .val (.long q1), .second, .val (.long q2), .second, .val (.long q3), .second, .val (.long q4), .second, .val (.ref b1), .val (.int (p0 &&& (3 : Int32))), .unset, .unset, .unset, .unset, .unset, .unset, .unset] [])) _
    refine XS.iloadN X5.here hx rfl (hb hby at_15) rfl ?_
    show Steps p.tables e below (T5.setTop (mkF m 16 #[.val (.int p0), .val (.long q1), .second, .val (.long q2), .second, .val (.long q3), .second, .val (.long q4), .second, .val (.ref b1), .val (.int (p0 &&& (3 : Int32))), .unset, .unset, .unset, .unset, .unset, .unset, .unset] [(.int p0)])) _
    refine XS.iconst X5.here hx rfl (hb hby at_16) ?_
    show Steps p.tables e below (T5.setTop (mkF m 17 #[.val (.int p0), .val (.long q1), .second, .val (.long q2), .second, .val (.long q3), .second, .val (.long q4), .second, .val (.ref b1), .val (.int (p0 &&& (3 : Int32))), .unset, .unset, .unset, .unset, .unset, .unset, .unset] [(.int (2 : Int32)), (.int p0)])) _
    refine XS.iushr X5.here hx rfl (hb hby at_17) rfl ?_
    show Steps p.tables e below (T5.setTop (mkF m 18 #[.val (.int p0), .val (.long q1), .second, .val (.long q2), .second, .val (.long q3), .second, .val (.long q4), .second, .val (.ref b1), .val (.int (p0 &&& (3 : Int32))), .unset, .unset, .unset, .unset, .unset, .unset, .unset] [(.int ((p0.toUInt32 >>> ((2 : Int32) &&& 31).toUInt32).toInt32))])) _
    refine XS.iconst X5.here hx rfl (hb hby at_18) ?_
    show Steps p.tables e below (T5.setTop (mkF m 19 #[.val (.int p0), .val (.long q1), .second, .val (.long q2), .second, .val (.long q3), .second, .val (.long q4), .second, .val (.ref b1), .val (.int (p0 &&& (3 : Int32))), .unset, .unset, .unset, .unset, .unset, .unset, .unset] [(.int (3 : Int32)), (.int ((p0.toUInt32 >>> ((2 : Int32) &&& 31).toUInt32).toInt32))])) _
    refine XS.iand X5.here hx rfl (hb hby at_19) rfl ?_
    show Steps p.tables e below (T5.setTop (mkF m 20 #[.val (.int p0), .val (.long q1), .second, .val (.long q2), .second, .val (.long q3), .second, .val (.long q4), .second, .val (.ref b1), .val (.int (p0 &&& (3 : Int32))), .unset, .unset, .unset, .unset, .unset, .unset, .unset] [(.int (((p0.toUInt32 >>> ((2 : Int32) &&& 31).toUInt32).toInt32) &&& (3 : Int32)))])) _
    refine XS.istore X5.here hx rfl (hb hby at_20) rfl (l' := #[.val (.int p0), .val (.long q1), .second, .val (.long q2), .second, .val (.long q3), .second, .val (.long q4), .second, .val (.ref b1), .val (.int (p0 &&& (3 : Int32))), .val (.int (((p0.toUInt32 >>> ((2 : Int32) &&& 31).toUInt32).toInt32) &&& (3 : Int32))), .unset, .unset, .unset, .unset, .unset, .unset]) rfl ?_
    show Steps p.tables e below (T5.setTop (mkF m 22 #[.val (.int p0), .val (.long q1), .second, .val (.long q2), .second, .val (.long q3), .second, .val (.long q4), .second, .val (.ref b1), .val (.int (p0 &&& (3 : Int32))), .val (.int (((p0.toUInt32 >>> ((2 : Int32) &&& 31).toUInt32).toInt32) &&& (3 : Int32))), .unset, .unset, .unset, .unset, .unset, .unset] [])) _
    refine XS.iloadN X5.here hx rfl (hb hby at_22) rfl ?_
    show Steps p.tables e below (T5.setTop (mkF m 23 #[.val (.int p0), .val (.long q1), .second, .val (.long q2), .second, .val (.long q3), .second, .val (.long q4), .second, .val (.ref b1), .val (.int (p0 &&& (3 : Int32))), .val (.int (((p0.toUInt32 >>> ((2 : Int32) &&& 31).toUInt32).toInt32) &&& (3 : Int32))), .unset, .unset, .unset, .unset, .unset, .unset] [(.int p0)])) _
    refine XS.iconst X5.here hx rfl (hb hby at_23) ?_
    show Steps p.tables e below (T5.setTop (mkF m 24 #[.val (.int p0), .val (.long q1), .second, .val (.long q2), .second, .val (.long q3), .second, .val (.long q4), .second, .val (.ref b1), .val (.int (p0 &&& (3 : Int32))), .val (.int (((p0.toUInt32 >>> ((2 : Int32) &&& 31).toUInt32).toInt32) &&& (3 : Int32))), .unset, .unset, .unset, .unset, .unset, .unset] [(.int (4 : Int32)), (.int p0)])) _
    refine XS.iushr X5.here hx rfl (hb hby at_24) rfl ?_
    show Steps p.tables e below (T5.setTop (mkF m 25 #[.val (.int p0), .val (.long q1), .second, .val (.long q2), .second, .val (.long q3), .second, .val (.long q4), .second, .val (.ref b1), .val (.int (p0 &&& (3 : Int32))), .val (.int (((p0.toUInt32 >>> ((2 : Int32) &&& 31).toUInt32).toInt32) &&& (3 : Int32))), .unset, .unset, .unset, .unset, .unset, .unset] [(.int ((p0.toUInt32 >>> ((4 : Int32) &&& 31).toUInt32).toInt32))])) _
    refine XS.iconst X5.here hx rfl (hb hby at_25) ?_
    show Steps p.tables e below (T5.setTop (mkF m 26 #[.val (.int p0), .val (.long q1), .second, .val (.long q2), .second, .val (.long q3), .second, .val (.long q4), .second, .val (.ref b1), .val (.int (p0 &&& (3 : Int32))), .val (.int (((p0.toUInt32 >>> ((2 : Int32) &&& 31).toUInt32).toInt32) &&& (3 : Int32))), .unset, .unset, .unset, .unset, .unset, .unset] [(.int (3 : Int32)), (.int ((p0.toUInt32 >>> ((4 : Int32) &&& 31).toUInt32).toInt32))])) _
    refine XS.iand X5.here hx rfl (hb hby at_26) rfl ?_
    show Steps p.tables e below (T5.setTop (mkF m 27 #[.val (.int p0), .val (.long q1), .second, .val (.long q2), .second, .val (.long q3), .second, .val (.long q4), .second, .val (.ref b1), .val (.int (p0 &&& (3 : Int32))), .val (.int (((p0.toUInt32 >>> ((2 : Int32) &&& 31).toUInt32).toInt32) &&& (3 : Int32))), .unset, .unset, .unset, .unset, .unset, .unset] [(.int (((p0.toUInt32 >>> ((4 : Int32) &&& 31).toUInt32).toInt32) &&& (3 : Int32)))])) _
    refine XS.istore X5.here hx rfl (hb hby at_27) rfl (l' := #[.val (.int p0), .val (.long q1), .second, .val (.long q2), .second, .val (.long q3), .second, .val (.long q4), .second, .val (.ref b1), .val (.int (p0 &&& (3 : Int32))), .val (.int (((p0.toUInt32 >>> ((2 : Int32) &&& 31).toUInt32).toInt32) &&& (3 : Int32))), .val (.int (((p0.toUInt32 >>> ((4 : Int32) &&& 31).toUInt32).toInt32) &&& (3 : Int32))), .unset, .unset, .unset, .unset, .unset]) rfl ?_
    show Steps p.tables e below (T5.setTop (mkF m 29 #[.val (.int p0), .val (.long q1), .second, .val (.long q2), .second, .val (.long q3), .second, .val (.long q4), .second, .val (.ref b1), .val (.int (p0 &&& (3 : Int32))), .val (.int (((p0.toUInt32 >>> ((2 : Int32) &&& 31).toUInt32).toInt32) &&& (3 : Int32))), .val (.int (((p0.toUInt32 >>> ((4 : Int32) &&& 31).toUInt32).toInt32) &&& (3 : Int32))), .unset, .unset, .unset, .unset, .unset] [])) _
    refine XS.iloadN X5.here hx rfl (hb hby at_29) rfl ?_
    show Steps p.tables e below (T5.setTop (mkF m 30 #[.val (.int p0), .val (.long q1), .second, .val (.long q2), .second, .val (.long q3), .second, .val (.long q4), .second, .val (.ref b1), .val (.int (p0 &&& (3 : Int32))), .val (.int (((p0.toUInt32 >>> ((2 : Int32) &&& 31).toUInt32).toInt32) &&& (3 : Int32))), .val (.int (((p0.toUInt32 >>> ((4 : Int32) &&& 31).toUInt32).toInt32) &&& (3 : Int32))), .unset, .unset, .unset, .unset, .unset] [(.int p0)])) _
    refine XS.bipush X5.here hx rfl (hb hby at_30) ?_
    show Steps p.tables e below (T5.setTop (mkF m 32 #[.val (.int p0), .val (.long q1), .second, .val (.long q2), .second, .val (.long q3), .second, .val (.long q4), .second, .val (.ref b1), .val (.int (p0 &&& (3 : Int32))), .val (.int (((p0.toUInt32 >>> ((2 : Int32) &&& 31).toUInt32).toInt32) &&& (3 : Int32))), .val (.int (((p0.toUInt32 >>> ((4 : Int32) &&& 31).toUInt32).toInt32) &&& (3 : Int32))), .unset, .unset, .unset, .unset, .unset] [(.int (6 : Int32)), (.int p0)])) _
    refine XS.iushr X5.here hx rfl (hb hby at_32) rfl ?_
    show Steps p.tables e below (T5.setTop (mkF m 33 #[.val (.int p0), .val (.long q1), .second, .val (.long q2), .second, .val (.long q3), .second, .val (.long q4), .second, .val (.ref b1), .val (.int (p0 &&& (3 : Int32))), .val (.int (((p0.toUInt32 >>> ((2 : Int32) &&& 31).toUInt32).toInt32) &&& (3 : Int32))), .val (.int (((p0.toUInt32 >>> ((4 : Int32) &&& 31).toUInt32).toInt32) &&& (3 : Int32))), .unset, .unset, .unset, .unset, .unset] [(.int ((p0.toUInt32 >>> ((6 : Int32) &&& 31).toUInt32).toInt32))])) _
    refine XS.iconst X5.here hx rfl (hb hby at_33) ?_
    show Steps p.tables e below (T5.setTop (mkF m 34 #[.val (.int p0), .val (.long q1), .second, .val (.long q2), .second, .val (.long q3), .second, .val (.long q4), .second, .val (.ref b1), .val (.int (p0 &&& (3 : Int32))), .val (.int (((p0.toUInt32 >>> ((2 : Int32) &&& 31).toUInt32).toInt32) &&& (3 : Int32))), .val (.int (((p0.toUInt32 >>> ((4 : Int32) &&& 31).toUInt32).toInt32) &&& (3 : Int32))), .unset, .unset, .unset, .unset, .unset] [(.int (3 : Int32)), (.int ((p0.toUInt32 >>> ((6 : Int32) &&& 31).toUInt32).toInt32))])) _
    refine XS.iand X5.here hx rfl (hb hby at_34) rfl ?_
    show Steps p.tables e below (T5.setTop (mkF m 35 #[.val (.int p0), .val (.long q1), .second, .val (.long q2), .second, .val (.long q3), .second, .val (.long q4), .second, .val (.ref b1), .val (.int (p0 &&& (3 : Int32))), .val (.int (((p0.toUInt32 >>> ((2 : Int32) &&& 31).toUInt32).toInt32) &&& (3 : Int32))), .val (.int (((p0.toUInt32 >>> ((4 : Int32) &&& 31).toUInt32).toInt32) &&& (3 : Int32))), .unset, .unset, .unset, .unset, .unset] [(.int (((p0.toUInt32 >>> ((6 : Int32) &&& 31).toUInt32).toInt32) &&& (3 : Int32)))])) _
    refine XS.istore X5.here hx rfl (hb hby at_35) rfl (l' := #[.val (.int p0), .val (.long q1), .second, .val (.long q2), .second, .val (.long q3), .second, .val (.long q4), .second, .val (.ref b1), .val (.int (p0 &&& (3 : Int32))), .val (.int (((p0.toUInt32 >>> ((2 : Int32) &&& 31).toUInt32).toInt32) &&& (3 : Int32))), .val (.int (((p0.toUInt32 >>> ((4 : Int32) &&& 31).toUInt32).toInt32) &&& (3 : Int32))), .val (.int (((p0.toUInt32 >>> ((6 : Int32) &&& 31).toUInt32).toInt32) &&& (3 : Int32))), .unset, .unset, .unset, .unset]) rfl ?_
    show Steps p.tables e below (T5.setTop (mkF m 37 #[.val (.int p0), .val (.long q1), .second, .val (.long q2), .second, .val (.long q3), .second, .val (.long q4), .second, .val (.ref b1), .val (.int (p0 &&& (3 : Int32))), .val (.int (((p0.toUInt32 >>> ((2 : Int32) &&& 31).toUInt32).toInt32) &&& (3 : Int32))), .val (.int (((p0.toUInt32 >>> ((4 : Int32) &&& 31).toUInt32).toInt32) &&& (3 : Int32))), .val (.int (((p0.toUInt32 >>> ((6 : Int32) &&& 31).toUInt32).toInt32) &&& (3 : Int32))), .unset, .unset, .unset, .unset] [])) _
    refine XS.iloadN X5.here hx rfl (hb hby at_37) rfl ?_
    show Steps p.tables e below (T5.setTop (mkF m 38 #[.val (.int p0), .val (.long q1), .second, .val (.long q2), .second, .val (.long q3), .second, .val (.long q4), .second, .val (.ref b1), .val (.int (p0 &&& (3 : Int32))), .val (.int (((p0.toUInt32 >>> ((2 : Int32) &&& 31).toUInt32).toInt32) &&& (3 : Int32))), .val (.int (((p0.toUInt32 >>> ((4 : Int32) &&& 31).toUInt32).toInt32) &&& (3 : Int32))), .val (.int (((p0.toUInt32 >>> ((6 : Int32) &&& 31).toUInt32).toInt32) &&& (3 : Int32))), .unset, .unset, .unset, .unset] [(.int p0)])) _
    refine XS.bipush X5.here hx rfl (hb hby at_38) ?_
    show Steps p.tables e below (T5.setTop (mkF m 40 #[.val (.int p0), .val (.long q1), .second, .val (.long q2), .second, .val (.long q3), .second, .val (.long q4), .second, .val (.ref b1), .val (.int (p0 &&& (3 : Int32))), .val (.int (((p0.toUInt32 >>> ((2 : Int32) &&& 31).toUInt32).toInt32) &&& (3 : Int32))), .val (.int (((p0.toUInt32 >>> ((4 : Int32) &&& 31).toUInt32).toInt32) &&& (3 : Int32))), .val (.int (((p0.toUInt32 >>> ((6 : Int32) &&& 31).toUInt32).toInt32) &&& (3 : Int32))), .unset, .unset, .unset, .unset] [(.int (8 : Int32)), (.int p0)])) _
    refine XS.iushr X5.here hx rfl (hb hby at_40) rfl ?_
    show Steps p.tables e below (T5.setTop (mkF m 41 #[.val (.int p0), .val (.long q1), .second, .val (.long q2), .second, .val (.long q3), .second, .val (.long q4), .second, .val (.ref b1), .val (.int (p0 &&& (3 : Int32))), .val (.int (((p0.toUInt32 >>> ((2 : Int32) &&& 31).toUInt32).toInt32) &&& (3 : Int32))), .val (.int (((p0.toUInt32 >>> ((4 : Int32) &&& 31).toUInt32).toInt32) &&& (3 : Int32))), .val (.int (((p0.toUInt32 >>> ((6 : Int32) &&& 31).toUInt32).toInt32) &&& (3 : Int32))), .unset, .unset, .unset, .unset] [(.int ((p0.toUInt32 >>> ((8 : Int32) &&& 31).toUInt32).toInt32))])) _
    refine XS.iconst X5.here hx rfl (hb hby at_41) ?_
    show Steps p.tables e below (T5.setTop (mkF m 42 #[.val (.int p0), .val (.long q1), .second, .val (.long q2), .second, .val (.long q3), .second, .val (.long q4), .second, .val (.ref b1), .val (.int (p0 &&& (3 : Int32))), .val (.int (((p0.toUInt32 >>> ((2 : Int32) &&& 31).toUInt32).toInt32) &&& (3 : Int32))), .val (.int (((p0.toUInt32 >>> ((4 : Int32) &&& 31).toUInt32).toInt32) &&& (3 : Int32))), .val (.int (((p0.toUInt32 >>> ((6 : Int32) &&& 31).toUInt32).toInt32) &&& (3 : Int32))), .unset, .unset, .unset, .unset] [(.int (3 : Int32)), (.int ((p0.toUInt32 >>> ((8 : Int32) &&& 31).toUInt32).toInt32))])) _
    refine XS.iand X5.here hx rfl (hb hby at_42) rfl ?_
    show Steps p.tables e below (T5.setTop (mkF m 43 #[.val (.int p0), .val (.long q1), .second, .val (.long q2), .second, .val (.long q3), .second, .val (.long q4), .second, .val (.ref b1), .val (.int (p0 &&& (3 : Int32))), .val (.int (((p0.toUInt32 >>> ((2 : Int32) &&& 31).toUInt32).toInt32) &&& (3 : Int32))), .val (.int (((p0.toUInt32 >>> ((4 : Int32) &&& 31).toUInt32).toInt32) &&& (3 : Int32))), .val (.int (((p0.toUInt32 >>> ((6 : Int32) &&& 31).toUInt32).toInt32) &&& (3 : Int32))), .unset, .unset, .unset, .unset] [(.int (((p0.toUInt32 >>> ((8 : Int32) &&& 31).toUInt32).toInt32) &&& (3 : Int32)))])) _
    refine XS.istore X5.here hx rfl (hb hby at_43) rfl (l' := #[.val (.int p0), .val (.long q1), .second, .val (.long q2), .second, .val (.long q3), .second, .val (.long q4), .second, .val (.ref b1), .val (.int (p0 &&& (3 : Int32))), .val (.int (((p0.toUInt32 >>> ((2 : Int32) &&& 31).toUInt32).toInt32) &&& (3 : Int32))), .val (.int (((p0.toUInt32 >>> ((4 : Int32) &&& 31).toUInt32).toInt32) &&& (3 : Int32))), .val (.int (((p0.toUInt32 >>> ((6 : Int32) &&& 31).toUInt32).toInt32) &&& (3 : Int32))), .val (.int (((p0.toUInt32 >>> ((8 : Int32) &&& 31).toUInt32).toInt32) &&& (3 : Int32))), .unset, .unset, .unset]) rfl ?_
    show Steps p.tables e below (T5.setTop (mkF m 45 #[.val (.int p0), .val (.long q1), .second, .val (.long q2), .second, .val (.long q3), .second, .val (.long q4), .second, .val (.ref b1), .val (.int (p0 &&& (3 : Int32))), .val (.int (((p0.toUInt32 >>> ((2 : Int32) &&& 31).toUInt32).toInt32) &&& (3 : Int32))), .val (.int (((p0.toUInt32 >>> ((4 : Int32) &&& 31).toUInt32).toInt32) &&& (3 : Int32))), .val (.int (((p0.toUInt32 >>> ((6 : Int32) &&& 31).toUInt32).toInt32) &&& (3 : Int32))), .val (.int (((p0.toUInt32 >>> ((8 : Int32) &&& 31).toUInt32).toInt32) &&& (3 : Int32))), .unset, .unset, .unset] [])) _
    exact k)
  have hre10 : (((p0.toUInt32 >>> ((2 : Int32) &&& 31).toUInt32).toInt32) &&& (3 : Int32)) = (x11.toInt32) := hxe11
  have pre10 : ∀ t, Steps p.tables e below (T5.setTop (mkF m 45 #[.val (.int p0), .val (.long q1), .second, .val (.long q2), .second, .val (.long q3), .second, .val (.long q4), .second, .val (.ref b1), .val (.int (p0 &&& (3 : Int32))), .val (.int (x11.toInt32)), .val (.int (((p0.toUInt32 >>> ((4 : Int32) &&& 31).toUInt32).toInt32) &&& (3 : Int32))), .val (.int (((p0.toUInt32 >>> ((6 : Int32) &&& 31).toUInt32).toInt32) &&& (3 : Int32))), .val (.int (((p0.toUInt32 >>> ((8 : Int32) &&& 31).toUInt32).toInt32) &&& (3 : Int32))), .unset, .unset, .unset] [])) t → Steps p.tables e below (s₁.setTop (entryFrame m #[(.int p0), (.long q1), (.long q2), (.long q3), (.long q4)] maxLocals)) t := fun t k => pre9 t (by rw [hre10]; exact k)
  obtain ⟨x12, hx12, hxe12⟩ := own_it4 ((p0.toUInt32 >>> ((4 : Int32) &&& 31).toUInt32).toInt32)
  have pre11 : ∀ t, Steps p.tables e below (T5.setTop (mkF m 45 #[.val (.int p0), .val (.long q1), .second, .val (.long q2), .second, .val (.long q3), .second, .val (.long q4), .second, .val (.ref b1), .val (.int (p0 &&& (3 : Int32))), .val (.int (x11.toInt32)), .val (.int (((p0.toUInt32 >>> ((4 : Int32) &&& 31).toUInt32).toInt32) &&& (3 : Int32))), .val (.int (((p0.toUInt32 >>> ((6 : Int32) &&& 31).toUInt32).toInt32) &&& (3 : Int32))), .val (.int (((p0.toUInt32 >>> ((8 : Int32) &&& 31).toUInt32).toInt32) &&& (3 : Int32))), .unset, .unset, .unset] [])) t → Steps p.tables e below (s₁.setTop (entryFrame m #[(.int p0), (.long q1), (.long q2), (.long q3), (.long q4)] maxLocals)) t := fun t k => pre10 t (by
    show Steps p.tables e below (T5.setTop (mkF m 45 #[.val (.int p0), .val (.long q1), .second, .val (.long q2), .second, .val (.long q3), .second, .val (.long q4), .second, .val (.ref b1), .val (.int (p0 &&& (3 : Int32))), .val (.int (x11.toInt32)), .val (.int (((p0.toUInt32 >>> ((4 : Int32) &&& 31).toUInt32).toInt32) &&& (3 : Int32))), .val (.int (((p0.toUInt32 >>> ((6 : Int32) &&& 31).toUInt32).toInt32) &&& (3 : Int32))), .val (.int (((p0.toUInt32 >>> ((8 : Int32) &&& 31).toUInt32).toInt32) &&& (3 : Int32))), .unset, .unset, .unset] [])) _
    exact k)
  have hre12 : (((p0.toUInt32 >>> ((4 : Int32) &&& 31).toUInt32).toInt32) &&& (3 : Int32)) = (x12.toInt32) := hxe12
  have pre12 : ∀ t, Steps p.tables e below (T5.setTop (mkF m 45 #[.val (.int p0), .val (.long q1), .second, .val (.long q2), .second, .val (.long q3), .second, .val (.long q4), .second, .val (.ref b1), .val (.int (p0 &&& (3 : Int32))), .val (.int (x11.toInt32)), .val (.int (x12.toInt32)), .val (.int (((p0.toUInt32 >>> ((6 : Int32) &&& 31).toUInt32).toInt32) &&& (3 : Int32))), .val (.int (((p0.toUInt32 >>> ((8 : Int32) &&& 31).toUInt32).toInt32) &&& (3 : Int32))), .unset, .unset, .unset] [])) t → Steps p.tables e below (s₁.setTop (entryFrame m #[(.int p0), (.long q1), (.long q2), (.long q3), (.long q4)] maxLocals)) t := fun t k => pre11 t (by rw [hre12]; exact k)
  obtain ⟨x13, hx13, hxe13⟩ := own_it4 ((p0.toUInt32 >>> ((6 : Int32) &&& 31).toUInt32).toInt32)
  have pre13 : ∀ t, Steps p.tables e below (T5.setTop (mkF m 45 #[.val (.int p0), .val (.long q1), .second, .val (.long q2), .second, .val (.long q3), .second, .val (.long q4), .second, .val (.ref b1), .val (.int (p0 &&& (3 : Int32))), .val (.int (x11.toInt32)), .val (.int (x12.toInt32)), .val (.int (((p0.toUInt32 >>> ((6 : Int32) &&& 31).toUInt32).toInt32) &&& (3 : Int32))), .val (.int (((p0.toUInt32 >>> ((8 : Int32) &&& 31).toUInt32).toInt32) &&& (3 : Int32))), .unset, .unset, .unset] [])) t → Steps p.tables e below (s₁.setTop (entryFrame m #[(.int p0), (.long q1), (.long q2), (.long q3), (.long q4)] maxLocals)) t := fun t k => pre12 t (by
    show Steps p.tables e below (T5.setTop (mkF m 45 #[.val (.int p0), .val (.long q1), .second, .val (.long q2), .second, .val (.long q3), .second, .val (.long q4), .second, .val (.ref b1), .val (.int (p0 &&& (3 : Int32))), .val (.int (x11.toInt32)), .val (.int (x12.toInt32)), .val (.int (((p0.toUInt32 >>> ((6 : Int32) &&& 31).toUInt32).toInt32) &&& (3 : Int32))), .val (.int (((p0.toUInt32 >>> ((8 : Int32) &&& 31).toUInt32).toInt32) &&& (3 : Int32))), .unset, .unset, .unset] [])) _
    exact k)
  have hre14 : (((p0.toUInt32 >>> ((6 : Int32) &&& 31).toUInt32).toInt32) &&& (3 : Int32)) = (x13.toInt32) := hxe13
  have pre14 : ∀ t, Steps p.tables e below (T5.setTop (mkF m 45 #[.val (.int p0), .val (.long q1), .second, .val (.long q2), .second, .val (.long q3), .second, .val (.long q4), .second, .val (.ref b1), .val (.int (p0 &&& (3 : Int32))), .val (.int (x11.toInt32)), .val (.int (x12.toInt32)), .val (.int (x13.toInt32)), .val (.int (((p0.toUInt32 >>> ((8 : Int32) &&& 31).toUInt32).toInt32) &&& (3 : Int32))), .unset, .unset, .unset] [])) t → Steps p.tables e below (s₁.setTop (entryFrame m #[(.int p0), (.long q1), (.long q2), (.long q3), (.long q4)] maxLocals)) t := fun t k => pre13 t (by rw [hre14]; exact k)
  obtain ⟨x14, hx14, hxe14⟩ := own_it4 ((p0.toUInt32 >>> ((8 : Int32) &&& 31).toUInt32).toInt32)
  have pre15 : ∀ t, Steps p.tables e below (T5.setTop (mkF m 45 #[.val (.int p0), .val (.long q1), .second, .val (.long q2), .second, .val (.long q3), .second, .val (.long q4), .second, .val (.ref b1), .val (.int (p0 &&& (3 : Int32))), .val (.int (x11.toInt32)), .val (.int (x12.toInt32)), .val (.int (x13.toInt32)), .val (.int (((p0.toUInt32 >>> ((8 : Int32) &&& 31).toUInt32).toInt32) &&& (3 : Int32))), .unset, .unset, .unset] [])) t → Steps p.tables e below (s₁.setTop (entryFrame m #[(.int p0), (.long q1), (.long q2), (.long q3), (.long q4)] maxLocals)) t := fun t k => pre14 t (by
    show Steps p.tables e below (T5.setTop (mkF m 45 #[.val (.int p0), .val (.long q1), .second, .val (.long q2), .second, .val (.long q3), .second, .val (.long q4), .second, .val (.ref b1), .val (.int (p0 &&& (3 : Int32))), .val (.int (x11.toInt32)), .val (.int (x12.toInt32)), .val (.int (x13.toInt32)), .val (.int (((p0.toUInt32 >>> ((8 : Int32) &&& 31).toUInt32).toInt32) &&& (3 : Int32))), .unset, .unset, .unset] [])) _
    exact k)
  have hre16 : (((p0.toUInt32 >>> ((8 : Int32) &&& 31).toUInt32).toInt32) &&& (3 : Int32)) = (x14.toInt32) := hxe14
  have pre16 : ∀ t, Steps p.tables e below (T5.setTop (mkF m 45 #[.val (.int p0), .val (.long q1), .second, .val (.long q2), .second, .val (.long q3), .second, .val (.long q4), .second, .val (.ref b1), .val (.int (p0 &&& (3 : Int32))), .val (.int (x11.toInt32)), .val (.int (x12.toInt32)), .val (.int (x13.toInt32)), .val (.int (x14.toInt32)), .unset, .unset, .unset] [])) t → Steps p.tables e below (s₁.setTop (entryFrame m #[(.int p0), (.long q1), (.long q2), (.long q3), (.long q4)] maxLocals)) t := fun t k => pre15 t (by rw [hre16]; exact k)
  have pre17 : ∀ t, Steps p.tables e below (T5.setTop (mkF m 48 #[.val (.int p0), .val (.long q1), .second, .val (.long q2), .second, .val (.long q3), .second, .val (.long q4), .second, .val (.ref b1), .val (.int (p0 &&& (3 : Int32))), .val (.int (x11.toInt32)), .val (.int (x12.toInt32)), .val (.int (x13.toInt32)), .val (.int (x14.toInt32)), .unset, .unset, .unset] [(.int (1 : Int32)), (.int (p0 &&& (3 : Int32)))])) t → Steps p.tables e below (s₁.setTop (entryFrame m #[(.int p0), (.long q1), (.long q2), (.long q3), (.long q4)] maxLocals)) t := fun t k => pre16 t (by
    show Steps p.tables e below (T5.setTop (mkF m 45 #[.val (.int p0), .val (.long q1), .second, .val (.long q2), .second, .val (.long q3), .second, .val (.long q4), .second, .val (.ref b1), .val (.int (p0 &&& (3 : Int32))), .val (.int (x11.toInt32)), .val (.int (x12.toInt32)), .val (.int (x13.toInt32)), .val (.int (x14.toInt32)), .unset, .unset, .unset] [])) _
    refine XS.iload X5.here hx rfl (hb hby at_45) rfl ?_
    show Steps p.tables e below (T5.setTop (mkF m 47 #[.val (.int p0), .val (.long q1), .second, .val (.long q2), .second, .val (.long q3), .second, .val (.long q4), .second, .val (.ref b1), .val (.int (p0 &&& (3 : Int32))), .val (.int (x11.toInt32)), .val (.int (x12.toInt32)), .val (.int (x13.toInt32)), .val (.int (x14.toInt32)), .unset, .unset, .unset] [(.int (p0 &&& (3 : Int32)))])) _
    refine XS.iconst X5.here hx rfl (hb hby at_47) ?_
    show Steps p.tables e below (T5.setTop (mkF m 48 #[.val (.int p0), .val (.long q1), .second, .val (.long q2), .second, .val (.long q3), .second, .val (.long q4), .second, .val (.ref b1), .val (.int (p0 &&& (3 : Int32))), .val (.int (x11.toInt32)), .val (.int (x12.toInt32)), .val (.int (x13.toInt32)), .val (.int (x14.toInt32)), .unset, .unset, .unset] [(.int (1 : Int32)), (.int (p0 &&& (3 : Int32)))])) _
    exact k)
  by_cases hs18 : (p0 &&& (3 : Int32)) < (1 : Int32)
  · have pre19 : ∀ t, Steps p.tables e below (T5.setTop (mkF m 62 #[.val (.int p0), .val (.long q1), .second, .val (.long q2), .second, .val (.long q3), .second, .val (.long q4), .second, .val (.ref b1), .val (.int (p0 &&& (3 : Int32))), .val (.int (x11.toInt32)), .val (.int (x12.toInt32)), .val (.int (x13.toInt32)), .val (.int (x14.toInt32)), .unset, .unset, .unset] [(.int (2 : Int32)), (.int (p0 &&& (3 : Int32)))])) t → Steps p.tables e below (s₁.setTop (entryFrame m #[(.int p0), (.long q1), (.long q2), (.long q3), (.long q4)] maxLocals)) t := fun t k => pre17 t (by
      refine XS.icmpYes X5.here hx rfl (pc0 := 48) (pc' := 59) rfl (hb hby at_48) rfl (tlt hs18).1 (by decide) (by decide) ?_
      show Steps p.tables e below (T5.setTop (mkF m 59 #[.val (.int p0), .val (.long q1), .second, .val (.long q2), .second, .val (.long q3), .second, .val (.long q4), .second, .val (.ref b1), .val (.int (p0 &&& (3 : Int32))), .val (.int (x11.toInt32)), .val (.int (x12.toInt32)), .val (.int (x13.toInt32)), .val (.int (x14.toInt32)), .unset, .unset, .unset] [])) _
      refine XS.iload X5.here hx rfl (hb hby at_59) rfl ?_
      show Steps p.tables e below (T5.setTop (mkF m 61 #[.val (.int p0), .val (.long q1), .second, .val (.long q2), .second, .val (.long q3), .second, .val (.long q4), .second, .val (.ref b1), .val (.int (p0 &&& (3 : Int32))), .val (.int (x11.toInt32)), .val (.int (x12.toInt32)), .val (.int (x13.toInt32)), .val (.int (x14.toInt32)), .unset, .unset, .unset] [(.int (p0 &&& (3 : Int32)))])) _
      refine XS.iconst X5.here hx rfl (hb hby at_61) ?_
      show Steps p.tables e below (T5.setTop (mkF m 62 #[.val (.int p0), .val (.long q1), .second, .val (.long q2), .second, .val (.long q3), .second, .val (.long q4), .second, .val (.ref b1), .val (.int (p0 &&& (3 : Int32))), .val (.int (x11.toInt32)), .val (.int (x12.toInt32)), .val (.int (x13.toInt32)), .val (.int (x14.toInt32)), .unset, .unset, .unset] [(.int (2 : Int32)), (.int (p0 &&& (3 : Int32)))])) _
      exact k)
    by_cases hs20 : (p0 &&& (3 : Int32)) < (2 : Int32)
    · have pre21 : ∀ t, Steps p.tables e below (T5.setTop (mkF m 76 #[.val (.int p0), .val (.long q1), .second, .val (.long q2), .second, .val (.long q3), .second, .val (.long q4), .second, .val (.ref b1), .val (.int (p0 &&& (3 : Int32))), .val (.int (x11.toInt32)), .val (.int (x12.toInt32)), .val (.int (x13.toInt32)), .val (.int (x14.toInt32)), .unset, .unset, .unset] [(.int (3 : Int32)), (.int (p0 &&& (3 : Int32)))])) t → Steps p.tables e below (s₁.setTop (entryFrame m #[(.int p0), (.long q1), (.long q2), (.long q3), (.long q4)] maxLocals)) t := fun t k => pre19 t (by
        refine XS.icmpYes X5.here hx rfl (pc0 := 62) (pc' := 73) rfl (hb hby at_62) rfl (tlt hs20).1 (by decide) (by decide) ?_
        show Steps p.tables e below (T5.setTop (mkF m 73 #[.val (.int p0), .val (.long q1), .second, .val (.long q2), .second, .val (.long q3), .second, .val (.long q4), .second, .val (.ref b1), .val (.int (p0 &&& (3 : Int32))), .val (.int (x11.toInt32)), .val (.int (x12.toInt32)), .val (.int (x13.toInt32)), .val (.int (x14.toInt32)), .unset, .unset, .unset] [])) _
        refine XS.iload X5.here hx rfl (hb hby at_73) rfl ?_
        show Steps p.tables e below (T5.setTop (mkF m 75 #[.val (.int p0), .val (.long q1), .second, .val (.long q2), .second, .val (.long q3), .second, .val (.long q4), .second, .val (.ref b1), .val (.int (p0 &&& (3 : Int32))), .val (.int (x11.toInt32)), .val (.int (x12.toInt32)), .val (.int (x13.toInt32)), .val (.int (x14.toInt32)), .unset, .unset, .unset] [(.int (p0 &&& (3 : Int32)))])) _
        refine XS.iconst X5.here hx rfl (hb hby at_75) ?_
        show Steps p.tables e below (T5.setTop (mkF m 76 #[.val (.int p0), .val (.long q1), .second, .val (.long q2), .second, .val (.long q3), .second, .val (.long q4), .second, .val (.ref b1), .val (.int (p0 &&& (3 : Int32))), .val (.int (x11.toInt32)), .val (.int (x12.toInt32)), .val (.int (x13.toInt32)), .val (.int (x14.toInt32)), .unset, .unset, .unset] [(.int (3 : Int32)), (.int (p0 &&& (3 : Int32)))])) _
        exact k)
      by_cases hs22 : (p0 &&& (3 : Int32)) < (3 : Int32)
      · obtain ⟨cq23, kq23, q23a, q23b, q23c⟩ := isOf hZ rfl (E_b1_6)
        obtain ⟨_, _, ⟨T23, L23, k23, n23⟩, -, X23, ⟨Lc23, hQ23, l23, y23, z23⟩, st23⟩ := X5.virtualBack hx (y := (⟨"com/example/lean_layers/leanlayers/phase/layering/IndexedHeap", "clear", "()V"⟩ : MethodName)) (z := (⟨"com/example/lean_layers/leanlayers/phase/layering/IndexedHeap", "clear", "()V"⟩ : MethodName)) hown (mvT hZ (hw _ (List.mem_of_getElem? (i := 21) rfl))) (mvT hZ (hw _ (List.mem_of_getElem? (i := 22) rfl))) (notFace_of_selects (args := #[]) (mvT hZ (hw _ (List.mem_of_getElem? (i := 24) rfl)))) (mvT hZ (hw _ (List.mem_of_getElem? (i := 24) rfl))) (mvT hZ (hw _ (List.mem_of_getElem? (i := 23) rfl))) (by decide) (backOf (W := 0) (rm4 l Z a0 hw [] b1 ti_5 tk_5 tp_5 own_z own_z (0 : Nat) T5.heap n0 ZZ7 P5_0 P5_1 P5_2 E_b1_6 P5_3 P5_4 P5_6 g_tp_5 g_b1 ne_b1_ti_5 ne_b1_tp_5 ne_ti_tp_5 (own_IV_new (fun _ _ => rfl) (fun _ _ => (by decide : (0 : Nat) < 4)))) hZ (hw _ (List.mem_of_getElem? (i := 25) rfl)) (hw _ (List.mem_of_getElem? (i := 2) rfl)) (by decide) (by decide)) q23a q23c (g := (mkF m 90 #[.val (.int p0), .val (.long q1), .second, .val (.long q2), .second, .val (.long q3), .second, .val (.long q4), .second, .val (.ref b1), .val (.int (p0 &&& (3 : Int32))), .val (.int (x11.toInt32)), .val (.int (x12.toInt32)), .val (.int (x13.toInt32)), .val (.int (x14.toInt32)), .unset, .unset, .unset] [(.ref b1)])) rfl (by rw [hml]; rfl) (Steps.refl _) (argsL := []) (rest := []) (lenOf pd_5 rfl) rfl (by show 2 * 0 + _ ≤ _; exact Nat.le_of_eq rfl) (hb hby at_90) (fun _ _ => ⟨rfl, rfl, (by decide : 4 + 0 ≤ _), (by decide : 16 + 0 ≤ _)⟩)
        dsimp only [Pt.U, Pt.locs, Pt.cells, Pt.slots] at X23 l23 y23 z23 st23 hQ23
        subst y23 z23
        obtain ⟨pl2_23, rfl, N23q, Kc23, P23_0, P23_1, P23_2, P23_3, P23_4, P23_5⟩ := hQ23
        have N23 := Fr.app N5 N23q
        rw [← l23] at N23
        have E_b1_24 : Exa Z T23.heap b1 "com/example/lean_layers/leanlayers/phase/layering/IndexedHeap" := (E_b1_6).keep Kc23
        have A_ti_5_24 : own_A Z T23.heap ti_5 .int 4 (fun kk => (.int ((own_z kk).toInt32))) := (P5_4).keep Kc23 (ninS ne_ti_tp_5 (ninS (Ne.symm ne_b1_ti_5) nin0))
        have A_tk_5_24 : own_A Z T23.heap tk_5 .long 4 (fun kk => (.long (own_zk kk))) := (P5_5).keep Kc23 (ninS ne_tk_tp_5 (ninS (Ne.symm ne_b1_tk_5) nin0))
        have SZ25 : h0.size ≤ T23.heap.size := Nat.le_trans SZ7 Kc23.1
        have ZZ25 : n0 ≤ T23.heap.size := Nat.le_trans Z0 SZ25
        have K26 : Keep h0 T23.heap [] := (K8).trans Kc23 (allS (Or.inr szz_tp_5) (allS (Or.inr sz_b1) all0))
        obtain ⟨cq27, kq27, q27a, q27b, q27c⟩ := isOf hZ rfl (E_b1_24)
        obtain ⟨_, _, ⟨T27, L27, k27, n27⟩, -, X27, ⟨Lc27, hQ27, l27, y27, z27⟩, st27⟩ := X23.virtualBack hx (y := (⟨"com/example/lean_layers/leanlayers/phase/layering/IndexedHeap", "isEmpty", "()Z"⟩ : MethodName)) (z := (⟨"com/example/lean_layers/leanlayers/phase/layering/IndexedHeap", "isEmpty", "()Z"⟩ : MethodName)) hown (mvT hZ (hw _ (List.mem_of_getElem? (i := 28) rfl))) (mvT hZ (hw _ (List.mem_of_getElem? (i := 29) rfl))) (notFace_of_selects (args := #[]) (mvT hZ (hw _ (List.mem_of_getElem? (i := 31) rfl)))) (mvT hZ (hw _ (List.mem_of_getElem? (i := 31) rfl))) (mvT hZ (hw _ (List.mem_of_getElem? (i := 30) rfl))) (by decide) (backOf (W := 0) (rm5 l Z a0 hw [] b1 ((0 : Nat).toInt32) T23.heap n0 ZZ25 P23_0) hZ (hw _ (List.mem_of_getElem? (i := 32) rfl)) (hw _ (List.mem_of_getElem? (i := 2) rfl)) (by decide) (by decide)) q27a q27c (g := (mkF m 95 #[.val (.int p0), .val (.long q1), .second, .val (.long q2), .second, .val (.long q3), .second, .val (.long q4), .second, .val (.ref b1), .val (.int (p0 &&& (3 : Int32))), .val (.int (x11.toInt32)), .val (.int (x12.toInt32)), .val (.int (x13.toInt32)), .val (.int (x14.toInt32)), .unset, .unset, .unset] [(.ref b1)])) rfl (by rw [hml]; rfl) (Steps.refl _) (argsL := []) (rest := []) (lenOf pd_6 rfl) rfl (by show 2 * 0 + _ ≤ _; exact Nat.le_of_eq rfl) (hb hby at_95) (fun _ _ => ⟨rfl, rfl, (by decide : 4 + 0 ≤ _), (by decide : 16 + 0 ≤ _)⟩)
        dsimp only [Pt.U, Pt.locs, Pt.cells, Pt.slots] at X27 l27 y27 z27 st27 hQ27
        subst y27 z27
        obtain ⟨rfl, N27q, hh27⟩ := hQ27
        have N27 := Fr.app N23 N27q
        rw [← l27] at N27
        have pre28 : ∀ t, Steps p.tables e below (T27.setTop (mkF m 98 #[.val (.int p0), .val (.long q1), .second, .val (.long q2), .second, .val (.long q3), .second, .val (.long q4), .second, .val (.ref b1), .val (.int (p0 &&& (3 : Int32))), .val (.int (x11.toInt32)), .val (.int (x12.toInt32)), .val (.int (x13.toInt32)), .val (.int (x14.toInt32)), .unset, .unset, .unset] [(.int ((f5_12 ((0 : Nat).toInt32)) &&& 1))])) t → Steps p.tables e below (s₁.setTop (entryFrame m #[(.int p0), (.long q1), (.long q2), (.long q3), (.long q4)] maxLocals)) t := fun t k => pre21 t (by
          refine XS.icmpYes X5.here hx rfl (pc0 := 76) (pc' := 88) rfl (hb hby at_76) rfl (tlt hs22).1 (by decide) (by decide) ?_
          show Steps p.tables e below (T5.setTop (mkF m 88 #[.val (.int p0), .val (.long q1), .second, .val (.long q2), .second, .val (.long q3), .second, .val (.long q4), .second, .val (.ref b1), .val (.int (p0 &&& (3 : Int32))), .val (.int (x11.toInt32)), .val (.int (x12.toInt32)), .val (.int (x13.toInt32)), .val (.int (x14.toInt32)), .unset, .unset, .unset] [])) _
          refine XS.aload X5.here hx rfl (hb hby at_88) rfl rfl ?_
          show Steps p.tables e below (T5.setTop (mkF m 90 #[.val (.int p0), .val (.long q1), .second, .val (.long q2), .second, .val (.long q3), .second, .val (.long q4), .second, .val (.ref b1), .val (.int (p0 &&& (3 : Int32))), .val (.int (x11.toInt32)), .val (.int (x12.toInt32)), .val (.int (x13.toInt32)), .val (.int (x14.toInt32)), .unset, .unset, .unset] [(.ref b1)])) _
          refine st23.trans ?_
          show Steps p.tables e below (T23.setTop (mkF m 93 #[.val (.int p0), .val (.long q1), .second, .val (.long q2), .second, .val (.long q3), .second, .val (.long q4), .second, .val (.ref b1), .val (.int (p0 &&& (3 : Int32))), .val (.int (x11.toInt32)), .val (.int (x12.toInt32)), .val (.int (x13.toInt32)), .val (.int (x14.toInt32)), .unset, .unset, .unset] [])) _
          refine XS.aload X23.here hx rfl (hb hby at_93) rfl rfl ?_
          show Steps p.tables e below (T23.setTop (mkF m 95 #[.val (.int p0), .val (.long q1), .second, .val (.long q2), .second, .val (.long q3), .second, .val (.long q4), .second, .val (.ref b1), .val (.int (p0 &&& (3 : Int32))), .val (.int (x11.toInt32)), .val (.int (x12.toInt32)), .val (.int (x13.toInt32)), .val (.int (x14.toInt32)), .unset, .unset, .unset] [(.ref b1)])) _
          refine st27.trans ?_
          show Steps p.tables e below (T27.setTop (mkF m 98 #[.val (.int p0), .val (.long q1), .second, .val (.long q2), .second, .val (.long q3), .second, .val (.long q4), .second, .val (.ref b1), .val (.int (p0 &&& (3 : Int32))), .val (.int (x11.toInt32)), .val (.int (x12.toInt32)), .val (.int (x13.toInt32)), .val (.int (x14.toInt32)), .unset, .unset, .unset] [(.int ((f5_12 ((0 : Nat).toInt32)) &&& 1))])) _
          exact k)
        have hre29 : ((f5_12 ((0 : Nat).toInt32)) &&& 1) = (1 : Int32) := own_ie0 rfl
        have pre29 : ∀ t, Steps p.tables e below (T27.setTop (mkF m 98 #[.val (.int p0), .val (.long q1), .second, .val (.long q2), .second, .val (.long q3), .second, .val (.long q4), .second, .val (.ref b1), .val (.int (p0 &&& (3 : Int32))), .val (.int (x11.toInt32)), .val (.int (x12.toInt32)), .val (.int (x13.toInt32)), .val (.int (x14.toInt32)), .unset, .unset, .unset] [(.int (1 : Int32))])) t → Steps p.tables e below (s₁.setTop (entryFrame m #[(.int p0), (.long q1), (.long q2), (.long q3), (.long q4)] maxLocals)) t := fun t k => pre28 t (by rw [hre29]; exact k)
        obtain ⟨cq30, kq30, q30a, q30b, q30c⟩ := isOf hZ hh27 (E_b1_24)
        obtain ⟨_, _, ⟨T30, L30, k30, n30⟩, -, X30, ⟨Lc30, hQ30, l30, y30, z30⟩, st30⟩ := X27.virtualBack hx (y := (⟨"com/example/lean_layers/leanlayers/phase/layering/IndexedHeap", "put", "(IJ)V"⟩ : MethodName)) (z := (⟨"com/example/lean_layers/leanlayers/phase/layering/IndexedHeap", "put", "(IJ)V"⟩ : MethodName)) hown (mvT hZ (hw _ (List.mem_of_getElem? (i := 33) rfl))) (mvT hZ (hw _ (List.mem_of_getElem? (i := 34) rfl))) (notFace_of_selects (args := #[]) (mvT hZ (hw _ (List.mem_of_getElem? (i := 36) rfl)))) (mvT hZ (hw _ (List.mem_of_getElem? (i := 36) rfl))) (mvT hZ (hw _ (List.mem_of_getElem? (i := 35) rfl))) (by decide) (backOf (W := 0) (rm6 l Z a0 hw [] b1 (x14.toInt32) q4 ti_5 tk_5 tp_5 own_zk own_z pl2_23 (0 : Nat) x14 T23.heap n0 ZZ25 P23_1 P23_2 P23_3 E_b1_24 P23_0 A_ti_5_24 A_tk_5_24 P23_4 g_ti_5 g_tk_5 g_tp_5 g_b1 ne_b1_ti_5 ne_b1_tk_5 ne_b1_tp_5 ne_ti_tk_5 ne_ti_tp_5 ne_tk_tp_5 rfl hx14 (own_IV_new P23_5 ((own_IV_new (fun _ _ => rfl) (fun _ _ => (by decide : (0 : Nat) < 4)))).2.1)) hZ (hw _ (List.mem_of_getElem? (i := 37) rfl)) (hw _ (List.mem_of_getElem? (i := 2) rfl)) (by decide) (by decide)) q30a q30c (g := (mkF m 109 #[.val (.int p0), .val (.long q1), .second, .val (.long q2), .second, .val (.long q3), .second, .val (.long q4), .second, .val (.ref b1), .val (.int (p0 &&& (3 : Int32))), .val (.int (x11.toInt32)), .val (.int (x12.toInt32)), .val (.int (x13.toInt32)), .val (.int (x14.toInt32)), .unset, .unset, .unset] [(.long q4), (.int (x14.toInt32)), (.ref b1)])) rfl (by rw [hml]; rfl) (Steps.refl _) (argsL := [(.int (x14.toInt32)), (.long q4)]) (rest := []) (lenOf pd_7 rfl) rfl (by show 2 * 0 + _ ≤ _; exact Nat.le_of_eq rfl) (hb hby at_109) (fun _ _ => ⟨rfl, hh27, (by decide : 4 + 0 ≤ _), (by decide : 16 + 0 ≤ _)⟩)
        dsimp only [Pt.U, Pt.locs, Pt.cells, Pt.slots] at X30 l30 y30 z30 st30 hQ30
        subst y30 z30
        obtain ⟨n2_30, it2_30, pl2_30, rfl, N30q, Kc30, P30_0, P30_1, P30_2, P30_3, P30_4, P30_5, P30_6, P30_7, P30_8⟩ := hQ30
        have N30 := Fr.app N27 N30q
        rw [← l30] at N30
        have E_b1_31 : Exa Z T30.heap b1 "com/example/lean_layers/leanlayers/phase/layering/IndexedHeap" := (E_b1_24).keep Kc30
        have SZ32 : h0.size ≤ T30.heap.size := Nat.le_trans SZ25 Kc30.1
        have ZZ32 : n0 ≤ T30.heap.size := Nat.le_trans Z0 SZ32
        have K33 : Keep h0 T30.heap [] := (K26).trans Kc30 (allS (Or.inr szz_ti_5) (allS (Or.inr szz_tk_5) (allS (Or.inr szz_tp_5) (allS (Or.inr sz_b1) all0))))
        have hne34 : pl2_30 x14 ≠ 0 := fun z => ((P30_8 x14 hx14).mp z).1 rfl
        obtain ⟨j34, hj34, -, -⟩ := own_IV_held P30_7 hx14 hne34
        have hp34 : 0 < n2_30 := by omega
        have h434 : n2_30 ≤ 4 := (P30_7).1
        have hf34 : it2_30 0 = x14 := own_first P30_7 hp34 P30_8 P23_5
        obtain ⟨cq35, kq35, q35a, q35b, q35c⟩ := isOf hZ rfl (E_b1_31)
        obtain ⟨_, _, ⟨T35, L35, k35, n35⟩, -, X35, ⟨Lc35, hQ35, l35, y35, z35⟩, st35⟩ := X30.virtualBack hx (y := (⟨"com/example/lean_layers/leanlayers/phase/layering/IndexedHeap", "isEmpty", "()Z"⟩ : MethodName)) (z := (⟨"com/example/lean_layers/leanlayers/phase/layering/IndexedHeap", "isEmpty", "()Z"⟩ : MethodName)) hown (mvT hZ (hw _ (List.mem_of_getElem? (i := 28) rfl))) (mvT hZ (hw _ (List.mem_of_getElem? (i := 29) rfl))) (notFace_of_selects (args := #[]) (mvT hZ (hw _ (List.mem_of_getElem? (i := 31) rfl)))) (mvT hZ (hw _ (List.mem_of_getElem? (i := 31) rfl))) (mvT hZ (hw _ (List.mem_of_getElem? (i := 30) rfl))) (by decide) (backOf (W := 0) (rm5 l Z a0 hw [] b1 (n2_30.toInt32) T30.heap n0 ZZ32 P30_0) hZ (hw _ (List.mem_of_getElem? (i := 32) rfl)) (hw _ (List.mem_of_getElem? (i := 2) rfl)) (by decide) (by decide)) q35a q35c (g := (mkF m 114 #[.val (.int p0), .val (.long q1), .second, .val (.long q2), .second, .val (.long q3), .second, .val (.long q4), .second, .val (.ref b1), .val (.int (p0 &&& (3 : Int32))), .val (.int (x11.toInt32)), .val (.int (x12.toInt32)), .val (.int (x13.toInt32)), .val (.int (x14.toInt32)), .unset, .unset, .unset] [(.ref b1)])) rfl (by rw [hml]; rfl) (Steps.refl _) (argsL := []) (rest := []) (lenOf pd_6 rfl) rfl (by show 2 * 0 + _ ≤ _; exact Nat.le_of_eq rfl) (hb hby at_114) (fun _ _ => ⟨rfl, rfl, (by decide : 4 + 0 ≤ _), (by decide : 16 + 0 ≤ _)⟩)
        dsimp only [Pt.U, Pt.locs, Pt.cells, Pt.slots] at X35 l35 y35 z35 st35 hQ35
        subst y35 z35
        obtain ⟨rfl, N35q, hh35⟩ := hQ35
        have N35 := Fr.app N30 N35q
        rw [← l35] at N35
        have pre36 : ∀ t, Steps p.tables e below (T35.setTop (mkF m 117 #[.val (.int p0), .val (.long q1), .second, .val (.long q2), .second, .val (.long q3), .second, .val (.long q4), .second, .val (.ref b1), .val (.int (p0 &&& (3 : Int32))), .val (.int (x11.toInt32)), .val (.int (x12.toInt32)), .val (.int (x13.toInt32)), .val (.int (x14.toInt32)), .unset, .unset, .unset] [(.int ((f5_12 (n2_30.toInt32)) &&& 1))])) t → Steps p.tables e below (s₁.setTop (entryFrame m #[(.int p0), (.long q1), (.long q2), (.long q3), (.long q4)] maxLocals)) t := fun t k => pre29 t (by
          show Steps p.tables e below (T27.setTop (mkF m 98 #[.val (.int p0), .val (.long q1), .second, .val (.long q2), .second, .val (.long q3), .second, .val (.long q4), .second, .val (.ref b1), .val (.int (p0 &&& (3 : Int32))), .val (.int (x11.toInt32)), .val (.int (x12.toInt32)), .val (.int (x13.toInt32)), .val (.int (x14.toInt32)), .unset, .unset, .unset] [(.int (1 : Int32))])) _
          refine XS.ifYes X27.here hx rfl (pc0 := 98) (pc' := 103) rfl (hb hby at_98) rfl ((if0 _ _).trans (feq (show ¬ ((1 : Int32) = (0 : Int32)) by decide)).2) (by decide) (by decide) ?_
          show Steps p.tables e below (T27.setTop (mkF m 103 #[.val (.int p0), .val (.long q1), .second, .val (.long q2), .second, .val (.long q3), .second, .val (.long q4), .second, .val (.ref b1), .val (.int (p0 &&& (3 : Int32))), .val (.int (x11.toInt32)), .val (.int (x12.toInt32)), .val (.int (x13.toInt32)), .val (.int (x14.toInt32)), .unset, .unset, .unset] [])) _
          refine XS.aload X27.here hx rfl (hb hby at_103) rfl rfl ?_
          show Steps p.tables e below (T27.setTop (mkF m 105 #[.val (.int p0), .val (.long q1), .second, .val (.long q2), .second, .val (.long q3), .second, .val (.long q4), .second, .val (.ref b1), .val (.int (p0 &&& (3 : Int32))), .val (.int (x11.toInt32)), .val (.int (x12.toInt32)), .val (.int (x13.toInt32)), .val (.int (x14.toInt32)), .unset, .unset, .unset] [(.ref b1)])) _
          refine XS.iload X27.here hx rfl (hb hby at_105) rfl ?_
          show Steps p.tables e below (T27.setTop (mkF m 107 #[.val (.int p0), .val (.long q1), .second, .val (.long q2), .second, .val (.long q3), .second, .val (.long q4), .second, .val (.ref b1), .val (.int (p0 &&& (3 : Int32))), .val (.int (x11.toInt32)), .val (.int (x12.toInt32)), .val (.int (x13.toInt32)), .val (.int (x14.toInt32)), .unset, .unset, .unset] [(.int (x14.toInt32)), (.ref b1)])) _
          refine XS.lload X27.here hx rfl (hb hby at_107) rfl ?_
          show Steps p.tables e below (T27.setTop (mkF m 109 #[.val (.int p0), .val (.long q1), .second, .val (.long q2), .second, .val (.long q3), .second, .val (.long q4), .second, .val (.ref b1), .val (.int (p0 &&& (3 : Int32))), .val (.int (x11.toInt32)), .val (.int (x12.toInt32)), .val (.int (x13.toInt32)), .val (.int (x14.toInt32)), .unset, .unset, .unset] [(.long q4), (.int (x14.toInt32)), (.ref b1)])) _
          refine st30.trans ?_
          show Steps p.tables e below (T30.setTop (mkF m 112 #[.val (.int p0), .val (.long q1), .second, .val (.long q2), .second, .val (.long q3), .second, .val (.long q4), .second, .val (.ref b1), .val (.int (p0 &&& (3 : Int32))), .val (.int (x11.toInt32)), .val (.int (x12.toInt32)), .val (.int (x13.toInt32)), .val (.int (x14.toInt32)), .unset, .unset, .unset] [])) _
          refine XS.aload X30.here hx rfl (hb hby at_112) rfl rfl ?_
          show Steps p.tables e below (T30.setTop (mkF m 114 #[.val (.int p0), .val (.long q1), .second, .val (.long q2), .second, .val (.long q3), .second, .val (.long q4), .second, .val (.ref b1), .val (.int (p0 &&& (3 : Int32))), .val (.int (x11.toInt32)), .val (.int (x12.toInt32)), .val (.int (x13.toInt32)), .val (.int (x14.toInt32)), .unset, .unset, .unset] [(.ref b1)])) _
          refine st35.trans ?_
          show Steps p.tables e below (T35.setTop (mkF m 117 #[.val (.int p0), .val (.long q1), .second, .val (.long q2), .second, .val (.long q3), .second, .val (.long q4), .second, .val (.ref b1), .val (.int (p0 &&& (3 : Int32))), .val (.int (x11.toInt32)), .val (.int (x12.toInt32)), .val (.int (x13.toInt32)), .val (.int (x14.toInt32)), .unset, .unset, .unset] [(.int ((f5_12 (n2_30.toInt32)) &&& 1))])) _
          exact k)
        have hre37 : ((f5_12 (n2_30.toInt32)) &&& 1) = (0 : Int32) := own_ie1 hp34 (by omega)
        have pre37 : ∀ t, Steps p.tables e below (T35.setTop (mkF m 117 #[.val (.int p0), .val (.long q1), .second, .val (.long q2), .second, .val (.long q3), .second, .val (.long q4), .second, .val (.ref b1), .val (.int (p0 &&& (3 : Int32))), .val (.int (x11.toInt32)), .val (.int (x12.toInt32)), .val (.int (x13.toInt32)), .val (.int (x14.toInt32)), .unset, .unset, .unset] [(.int (0 : Int32))])) t → Steps p.tables e below (s₁.setTop (entryFrame m #[(.int p0), (.long q1), (.long q2), (.long q3), (.long q4)] maxLocals)) t := fun t k => pre36 t (by rw [hre37]; exact k)
        obtain ⟨cq38, kq38, q38a, q38b, q38c⟩ := isOf hZ hh35 (E_b1_31)
        obtain ⟨_, _, ⟨T38, L38, k38, n38⟩, -, X38, ⟨Lc38, hQ38, l38, y38, z38⟩, st38⟩ := X35.virtualBack hx (y := (⟨"com/example/lean_layers/leanlayers/phase/layering/IndexedHeap", "first", "()I"⟩ : MethodName)) (z := (⟨"com/example/lean_layers/leanlayers/phase/layering/IndexedHeap", "first", "()I"⟩ : MethodName)) hown (mvT hZ (hw _ (List.mem_of_getElem? (i := 50) rfl))) (mvT hZ (hw _ (List.mem_of_getElem? (i := 51) rfl))) (notFace_of_selects (args := #[]) (mvT hZ (hw _ (List.mem_of_getElem? (i := 53) rfl)))) (mvT hZ (hw _ (List.mem_of_getElem? (i := 53) rfl))) (mvT hZ (hw _ (List.mem_of_getElem? (i := 52) rfl))) (by decide) (backOf (W := 0) (rm10 l Z a0 hw [] b1 ti_5 it2_30 n2_30 T30.heap n0 ZZ32 P30_1 P30_0 P30_4 hp34 h434) hZ (hw _ (List.mem_of_getElem? (i := 54) rfl)) (hw _ (List.mem_of_getElem? (i := 2) rfl)) (by decide) (by decide)) q38a q38c (g := (mkF m 124 #[.val (.int p0), .val (.long q1), .second, .val (.long q2), .second, .val (.long q3), .second, .val (.long q4), .second, .val (.ref b1), .val (.int (p0 &&& (3 : Int32))), .val (.int (x11.toInt32)), .val (.int (x12.toInt32)), .val (.int (x13.toInt32)), .val (.int (x14.toInt32)), .unset, .unset, .unset] [(.ref b1)])) rfl (by rw [hml]; rfl) (Steps.refl _) (argsL := []) (rest := []) (lenOf pd_4 rfl) rfl (by show 2 * 0 + _ ≤ _; exact Nat.le_of_eq rfl) (hb hby at_124) (fun _ _ => ⟨rfl, hh35, (by decide : 4 + 0 ≤ _), (by decide : 16 + 0 ≤ _)⟩)
        dsimp only [Pt.U, Pt.locs, Pt.cells, Pt.slots] at X38 l38 y38 z38 st38 hQ38
        subst y38 z38
        obtain ⟨rfl, N38q, hh38⟩ := hQ38
        have N38 := Fr.app N35 N38q
        rw [← l38] at N38
        obtain ⟨cq39, kq39, q39a, q39b, q39c⟩ := isOf hZ hh38 (E_b1_31)
        obtain ⟨_, _, ⟨T39, L39, k39, n39⟩, -, X39, ⟨Lc39, hQ39, l39, y39, z39⟩, st39⟩ := X38.virtualBack hx (y := (⟨"com/example/lean_layers/leanlayers/phase/layering/IndexedHeap", "firstKey", "()J"⟩ : MethodName)) (z := (⟨"com/example/lean_layers/leanlayers/phase/layering/IndexedHeap", "firstKey", "()J"⟩ : MethodName)) hown (mvT hZ (hw _ (List.mem_of_getElem? (i := 55) rfl))) (mvT hZ (hw _ (List.mem_of_getElem? (i := 56) rfl))) (notFace_of_selects (args := #[]) (mvT hZ (hw _ (List.mem_of_getElem? (i := 58) rfl)))) (mvT hZ (hw _ (List.mem_of_getElem? (i := 58) rfl))) (mvT hZ (hw _ (List.mem_of_getElem? (i := 57) rfl))) (by decide) (backOf (W := 0) (rm11 l Z a0 hw [] b1 ti_5 tk_5 (own_uk own_zk x14 q4) it2_30 n2_30 T30.heap n0 ZZ32 P30_1 P30_2 E_b1_31 P30_0 P30_4 P30_5 hp34 h434 (by rw [hf34]; exact hx14)) hZ (hw _ (List.mem_of_getElem? (i := 59) rfl)) (hw _ (List.mem_of_getElem? (i := 2) rfl)) (by decide) (by decide)) q39a q39c (g := (mkF m 131 #[.val (.int p0), .val (.long q1), .second, .val (.long q2), .second, .val (.long q3), .second, .val (.long q4), .second, .val (.ref b1), .val (.int (p0 &&& (3 : Int32))), .val (.int (x11.toInt32)), .val (.int (x12.toInt32)), .val (.int (x13.toInt32)), .val (.int (x14.toInt32)), .val (.int ((it2_30 0).toInt32)), .unset, .unset] [(.ref b1)])) rfl (by rw [hml]; rfl) (Steps.refl _) (argsL := []) (rest := []) (lenOf pd_8 rfl) rfl (by show 2 * 0 + _ ≤ _; exact Nat.le_of_eq rfl) (hb hby at_131) (fun _ _ => ⟨rfl, hh38, (by decide : 4 + 0 ≤ _), (by decide : 16 + 0 ≤ _)⟩)
        dsimp only [Pt.U, Pt.locs, Pt.cells, Pt.slots] at X39 l39 y39 z39 st39 hQ39
        subst y39 z39
        obtain ⟨rfl, N39q, hh39⟩ := hQ39
        have N39 := Fr.app N38 N39q
        rw [← l39] at N39
        have pre40 : ∀ t, Steps p.tables e below (T39.setTop (mkF m 136 #[.val (.int p0), .val (.long q1), .second, .val (.long q2), .second, .val (.long q3), .second, .val (.long q4), .second, .val (.ref b1), .val (.int (p0 &&& (3 : Int32))), .val (.int (x11.toInt32)), .val (.int (x12.toInt32)), .val (.int (x13.toInt32)), .val (.int (x14.toInt32)), .val (.int ((it2_30 0).toInt32)), .val (.long ((own_uk own_zk x14 q4) (it2_30 0))), .second] [])) t → Steps p.tables e below (s₁.setTop (entryFrame m #[(.int p0), (.long q1), (.long q2), (.long q3), (.long q4)] maxLocals)) t := fun t k => pre37 t (by
          show Steps p.tables e below (T35.setTop (mkF m 117 #[.val (.int p0), .val (.long q1), .second, .val (.long q2), .second, .val (.long q3), .second, .val (.long q4), .second, .val (.ref b1), .val (.int (p0 &&& (3 : Int32))), .val (.int (x11.toInt32)), .val (.int (x12.toInt32)), .val (.int (x13.toInt32)), .val (.int (x14.toInt32)), .unset, .unset, .unset] [(.int (0 : Int32))])) _
          refine XS.ifYes X35.here hx rfl (pc0 := 117) (pc' := 122) rfl (hb hby at_117) rfl ((if0 _ _).trans (teq (show (0 : Int32) = (0 : Int32) by decide)).1) (by decide) (by decide) ?_
          show Steps p.tables e below (T35.setTop (mkF m 122 #[.val (.int p0), .val (.long q1), .second, .val (.long q2), .second, .val (.long q3), .second, .val (.long q4), .second, .val (.ref b1), .val (.int (p0 &&& (3 : Int32))), .val (.int (x11.toInt32)), .val (.int (x12.toInt32)), .val (.int (x13.toInt32)), .val (.int (x14.toInt32)), .unset, .unset, .unset] [])) _
          refine XS.aload X35.here hx rfl (hb hby at_122) rfl rfl ?_
          show Steps p.tables e below (T35.setTop (mkF m 124 #[.val (.int p0), .val (.long q1), .second, .val (.long q2), .second, .val (.long q3), .second, .val (.long q4), .second, .val (.ref b1), .val (.int (p0 &&& (3 : Int32))), .val (.int (x11.toInt32)), .val (.int (x12.toInt32)), .val (.int (x13.toInt32)), .val (.int (x14.toInt32)), .unset, .unset, .unset] [(.ref b1)])) _
          refine st38.trans ?_
          show Steps p.tables e below (T38.setTop (mkF m 127 #[.val (.int p0), .val (.long q1), .second, .val (.long q2), .second, .val (.long q3), .second, .val (.long q4), .second, .val (.ref b1), .val (.int (p0 &&& (3 : Int32))), .val (.int (x11.toInt32)), .val (.int (x12.toInt32)), .val (.int (x13.toInt32)), .val (.int (x14.toInt32)), .unset, .unset, .unset] [(.int ((it2_30 0).toInt32))])) _
          refine XS.istore X38.here hx rfl (hb hby at_127) rfl (l' := #[.val (.int p0), .val (.long q1), .second, .val (.long q2), .second, .val (.long q3), .second, .val (.long q4), .second, .val (.ref b1), .val (.int (p0 &&& (3 : Int32))), .val (.int (x11.toInt32)), .val (.int (x12.toInt32)), .val (.int (x13.toInt32)), .val (.int (x14.toInt32)), .val (.int ((it2_30 0).toInt32)), .unset, .unset]) rfl ?_
          show Steps p.tables e below (T38.setTop (mkF m 129 #[.val (.int p0), .val (.long q1), .second, .val (.long q2), .second, .val (.long q3), .second, .val (.long q4), .second, .val (.ref b1), .val (.int (p0 &&& (3 : Int32))), .val (.int (x11.toInt32)), .val (.int (x12.toInt32)), .val (.int (x13.toInt32)), .val (.int (x14.toInt32)), .val (.int ((it2_30 0).toInt32)), .unset, .unset] [])) _
          refine XS.aload X38.here hx rfl (hb hby at_129) rfl rfl ?_
          show Steps p.tables e below (T38.setTop (mkF m 131 #[.val (.int p0), .val (.long q1), .second, .val (.long q2), .second, .val (.long q3), .second, .val (.long q4), .second, .val (.ref b1), .val (.int (p0 &&& (3 : Int32))), .val (.int (x11.toInt32)), .val (.int (x12.toInt32)), .val (.int (x13.toInt32)), .val (.int (x14.toInt32)), .val (.int ((it2_30 0).toInt32)), .unset, .unset] [(.ref b1)])) _
          refine st39.trans ?_
          show Steps p.tables e below (T39.setTop (mkF m 134 #[.val (.int p0), .val (.long q1), .second, .val (.long q2), .second, .val (.long q3), .second, .val (.long q4), .second, .val (.ref b1), .val (.int (p0 &&& (3 : Int32))), .val (.int (x11.toInt32)), .val (.int (x12.toInt32)), .val (.int (x13.toInt32)), .val (.int (x14.toInt32)), .val (.int ((it2_30 0).toInt32)), .unset, .unset] [(.long ((own_uk own_zk x14 q4) (it2_30 0)))])) _
          refine XS.lstore X39.here hx rfl (hb hby at_134) rfl (l' := #[.val (.int p0), .val (.long q1), .second, .val (.long q2), .second, .val (.long q3), .second, .val (.long q4), .second, .val (.ref b1), .val (.int (p0 &&& (3 : Int32))), .val (.int (x11.toInt32)), .val (.int (x12.toInt32)), .val (.int (x13.toInt32)), .val (.int (x14.toInt32)), .val (.int ((it2_30 0).toInt32)), .val (.long ((own_uk own_zk x14 q4) (it2_30 0))), .second]) rfl ?_
          show Steps p.tables e below (T39.setTop (mkF m 136 #[.val (.int p0), .val (.long q1), .second, .val (.long q2), .second, .val (.long q3), .second, .val (.long q4), .second, .val (.ref b1), .val (.int (p0 &&& (3 : Int32))), .val (.int (x11.toInt32)), .val (.int (x12.toInt32)), .val (.int (x13.toInt32)), .val (.int (x14.toInt32)), .val (.int ((it2_30 0).toInt32)), .val (.long ((own_uk own_zk x14 q4) (it2_30 0))), .second] [])) _
          exact k)
        have hre41 : ((it2_30 0).toInt32) = (x14.toInt32) := by rw [hf34]
        have pre41 : ∀ t, Steps p.tables e below (T39.setTop (mkF m 136 #[.val (.int p0), .val (.long q1), .second, .val (.long q2), .second, .val (.long q3), .second, .val (.long q4), .second, .val (.ref b1), .val (.int (p0 &&& (3 : Int32))), .val (.int (x11.toInt32)), .val (.int (x12.toInt32)), .val (.int (x13.toInt32)), .val (.int (x14.toInt32)), .val (.int (x14.toInt32)), .val (.long ((own_uk own_zk x14 q4) (it2_30 0))), .second] [])) t → Steps p.tables e below (s₁.setTop (entryFrame m #[(.int p0), (.long q1), (.long q2), (.long q3), (.long q4)] maxLocals)) t := fun t k => pre40 t (by rw [hre41]; exact k)
        have pre42 : ∀ t, Steps p.tables e below (T39.setTop (mkF m 136 #[.val (.int p0), .val (.long q1), .second, .val (.long q2), .second, .val (.long q3), .second, .val (.long q4), .second, .val (.ref b1), .val (.int (p0 &&& (3 : Int32))), .val (.int (x11.toInt32)), .val (.int (x12.toInt32)), .val (.int (x13.toInt32)), .val (.int (x14.toInt32)), .val (.int (x14.toInt32)), .val (.long ((own_uk own_zk x14 q4) (it2_30 0))), .second] [])) t → Steps p.tables e below (s₁.setTop (entryFrame m #[(.int p0), (.long q1), (.long q2), (.long q3), (.long q4)] maxLocals)) t := fun t k => pre41 t (by
          show Steps p.tables e below (T39.setTop (mkF m 136 #[.val (.int p0), .val (.long q1), .second, .val (.long q2), .second, .val (.long q3), .second, .val (.long q4), .second, .val (.ref b1), .val (.int (p0 &&& (3 : Int32))), .val (.int (x11.toInt32)), .val (.int (x12.toInt32)), .val (.int (x13.toInt32)), .val (.int (x14.toInt32)), .val (.int (x14.toInt32)), .val (.long ((own_uk own_zk x14 q4) (it2_30 0))), .second] [])) _
          exact k)
        have hre43 : ((own_uk own_zk x14 q4) (it2_30 0)) = q4 := by rw [hf34]; exact own_uk_same _ _ _
        have pre43 : ∀ t, Steps p.tables e below (T39.setTop (mkF m 136 #[.val (.int p0), .val (.long q1), .second, .val (.long q2), .second, .val (.long q3), .second, .val (.long q4), .second, .val (.ref b1), .val (.int (p0 &&& (3 : Int32))), .val (.int (x11.toInt32)), .val (.int (x12.toInt32)), .val (.int (x13.toInt32)), .val (.int (x14.toInt32)), .val (.int (x14.toInt32)), .val (.long q4), .second] [])) t → Steps p.tables e below (s₁.setTop (entryFrame m #[(.int p0), (.long q1), (.long q2), (.long q3), (.long q4)] maxLocals)) t := fun t k => pre42 t (by rw [hre43]; exact k)
        obtain ⟨cq44, kq44, q44a, q44b, q44c⟩ := isOf hZ hh39 (E_b1_31)
        obtain ⟨_, _, ⟨T44, L44, k44, n44⟩, -, X44, ⟨Lc44, hQ44, l44, y44, z44⟩, st44⟩ := X39.virtualBack hx (y := (⟨"com/example/lean_layers/leanlayers/phase/layering/IndexedHeap", "remove", "(I)V"⟩ : MethodName)) (z := (⟨"com/example/lean_layers/leanlayers/phase/layering/IndexedHeap", "remove", "(I)V"⟩ : MethodName)) hown (mvT hZ (hw _ (List.mem_of_getElem? (i := 61) rfl))) (mvT hZ (hw _ (List.mem_of_getElem? (i := 62) rfl))) (notFace_of_selects (args := #[]) (mvT hZ (hw _ (List.mem_of_getElem? (i := 64) rfl)))) (mvT hZ (hw _ (List.mem_of_getElem? (i := 64) rfl))) (mvT hZ (hw _ (List.mem_of_getElem? (i := 63) rfl))) (by decide) (backOf (W := 0) (rm12 l Z a0 hw [] b1 (x14.toInt32) ti_5 tk_5 tp_5 (own_uk own_zk x14 q4) it2_30 pl2_30 n2_30 x14 T30.heap n0 ZZ32 P30_1 P30_2 P30_3 E_b1_31 P30_0 P30_4 P30_5 P30_6 g_ti_5 g_tp_5 g_b1 ne_b1_ti_5 ne_b1_tk_5 ne_b1_tp_5 ne_ti_tk_5 ne_ti_tp_5 ne_tk_tp_5 rfl hx14 P30_7) hZ (hw _ (List.mem_of_getElem? (i := 65) rfl)) (hw _ (List.mem_of_getElem? (i := 2) rfl)) (by decide) (by decide)) q44a q44c (g := (mkF m 140 #[.val (.int p0), .val (.long q1), .second, .val (.long q2), .second, .val (.long q3), .second, .val (.long q4), .second, .val (.ref b1), .val (.int (p0 &&& (3 : Int32))), .val (.int (x11.toInt32)), .val (.int (x12.toInt32)), .val (.int (x13.toInt32)), .val (.int (x14.toInt32)), .val (.int (x14.toInt32)), .val (.long q4), .second] [(.int (x14.toInt32)), (.ref b1)])) rfl (by rw [hml]; rfl) (Steps.refl _) (argsL := [(.int (x14.toInt32))]) (rest := []) (lenOf pd_3 rfl) rfl (by show 2 * 0 + _ ≤ _; exact Nat.le_of_eq rfl) (hb hby at_140) (fun _ _ => ⟨rfl, hh39, (by decide : 4 + 0 ≤ _), (by decide : 16 + 0 ≤ _)⟩)
        dsimp only [Pt.U, Pt.locs, Pt.cells, Pt.slots] at X44 l44 y44 z44 st44 hQ44
        subst y44 z44
        obtain ⟨n2_44, it2_44, pl2_44, rfl, N44q, Kc44, P44_0, P44_1, P44_2, P44_3, P44_4, P44_5, P44_6, P44_7⟩ := hQ44
        have N44 := Fr.app N39 N44q
        rw [← l44] at N44
        have E_b1_45 : Exa Z T44.heap b1 "com/example/lean_layers/leanlayers/phase/layering/IndexedHeap" := (E_b1_31).keep Kc44
        have A_tk_5_45 : own_A Z T44.heap tk_5 .long 4 (fun kk => (.long ((own_uk own_zk x14 q4) kk))) := (P30_5).keep Kc44 (ninS (Ne.symm ne_ti_tk_5) (ninS ne_tk_tp_5 (ninS (Ne.symm ne_b1_tk_5) nin0)))
        have SZ46 : h0.size ≤ T44.heap.size := Nat.le_trans SZ32 Kc44.1
        have ZZ46 : n0 ≤ T44.heap.size := Nat.le_trans Z0 SZ46
        have K47 : Keep h0 T44.heap [] := (K33).trans Kc44 (allS (Or.inr szz_ti_5) (allS (Or.inr szz_tp_5) (allS (Or.inr sz_b1) all0)))
        obtain ⟨cq48, kq48, q48a, q48b, q48c⟩ := isOf hZ rfl (E_b1_45)
        obtain ⟨_, _, ⟨T48, L48, k48, n48⟩, -, X48, ⟨Lc48, hQ48, l48, y48, z48⟩, st48⟩ := X44.virtualBack hx (y := (⟨"com/example/lean_layers/leanlayers/phase/layering/IndexedHeap", "isEmpty", "()Z"⟩ : MethodName)) (z := (⟨"com/example/lean_layers/leanlayers/phase/layering/IndexedHeap", "isEmpty", "()Z"⟩ : MethodName)) hown (mvT hZ (hw _ (List.mem_of_getElem? (i := 28) rfl))) (mvT hZ (hw _ (List.mem_of_getElem? (i := 29) rfl))) (notFace_of_selects (args := #[]) (mvT hZ (hw _ (List.mem_of_getElem? (i := 31) rfl)))) (mvT hZ (hw _ (List.mem_of_getElem? (i := 31) rfl))) (mvT hZ (hw _ (List.mem_of_getElem? (i := 30) rfl))) (by decide) (backOf (W := 0) (rm5 l Z a0 hw [] b1 (n2_44.toInt32) T44.heap n0 ZZ46 P44_0) hZ (hw _ (List.mem_of_getElem? (i := 32) rfl)) (hw _ (List.mem_of_getElem? (i := 2) rfl)) (by decide) (by decide)) q48a q48c (g := (mkF m 160 #[.val (.int p0), .val (.long q1), .second, .val (.long q2), .second, .val (.long q3), .second, .val (.long q4), .second, .val (.ref b1), .val (.int (p0 &&& (3 : Int32))), .val (.int (x11.toInt32)), .val (.int (x12.toInt32)), .val (.int (x13.toInt32)), .val (.int (x14.toInt32)), .val (.int (x14.toInt32)), .val (.long q4), .second] [(.ref b1)])) rfl (by rw [hml]; rfl) (Steps.refl _) (argsL := []) (rest := []) (lenOf pd_6 rfl) rfl (by show 2 * 0 + _ ≤ _; exact Nat.le_of_eq rfl) (hb hby at_160) (fun _ _ => ⟨rfl, rfl, (by decide : 4 + 0 ≤ _), (by decide : 16 + 0 ≤ _)⟩)
        dsimp only [Pt.U, Pt.locs, Pt.cells, Pt.slots] at X48 l48 y48 z48 st48 hQ48
        subst y48 z48
        obtain ⟨rfl, N48q, hh48⟩ := hQ48
        have N48 := Fr.app N44 N48q
        rw [← l48] at N48
        have pre49 : ∀ t, Steps p.tables e below (T48.setTop (mkF m 163 #[.val (.int p0), .val (.long q1), .second, .val (.long q2), .second, .val (.long q3), .second, .val (.long q4), .second, .val (.ref b1), .val (.int (p0 &&& (3 : Int32))), .val (.int (x11.toInt32)), .val (.int (x12.toInt32)), .val (.int (x13.toInt32)), .val (.int (x14.toInt32)), .val (.int (x14.toInt32)), .val (.long q4), .second] [(.int ((f5_12 (n2_44.toInt32)) &&& 1))])) t → Steps p.tables e below (s₁.setTop (entryFrame m #[(.int p0), (.long q1), (.long q2), (.long q3), (.long q4)] maxLocals)) t := fun t k => pre43 t (by
          show Steps p.tables e below (T39.setTop (mkF m 136 #[.val (.int p0), .val (.long q1), .second, .val (.long q2), .second, .val (.long q3), .second, .val (.long q4), .second, .val (.ref b1), .val (.int (p0 &&& (3 : Int32))), .val (.int (x11.toInt32)), .val (.int (x12.toInt32)), .val (.int (x13.toInt32)), .val (.int (x14.toInt32)), .val (.int (x14.toInt32)), .val (.long q4), .second] [])) _
          refine XS.aload X39.here hx rfl (hb hby at_136) rfl rfl ?_
          show Steps p.tables e below (T39.setTop (mkF m 138 #[.val (.int p0), .val (.long q1), .second, .val (.long q2), .second, .val (.long q3), .second, .val (.long q4), .second, .val (.ref b1), .val (.int (p0 &&& (3 : Int32))), .val (.int (x11.toInt32)), .val (.int (x12.toInt32)), .val (.int (x13.toInt32)), .val (.int (x14.toInt32)), .val (.int (x14.toInt32)), .val (.long q4), .second] [(.ref b1)])) _
          refine XS.iload X39.here hx rfl (hb hby at_138) rfl ?_
          show Steps p.tables e below (T39.setTop (mkF m 140 #[.val (.int p0), .val (.long q1), .second, .val (.long q2), .second, .val (.long q3), .second, .val (.long q4), .second, .val (.ref b1), .val (.int (p0 &&& (3 : Int32))), .val (.int (x11.toInt32)), .val (.int (x12.toInt32)), .val (.int (x13.toInt32)), .val (.int (x14.toInt32)), .val (.int (x14.toInt32)), .val (.long q4), .second] [(.int (x14.toInt32)), (.ref b1)])) _
          refine st44.trans ?_
          show Steps p.tables e below (T44.setTop (mkF m 143 #[.val (.int p0), .val (.long q1), .second, .val (.long q2), .second, .val (.long q3), .second, .val (.long q4), .second, .val (.ref b1), .val (.int (p0 &&& (3 : Int32))), .val (.int (x11.toInt32)), .val (.int (x12.toInt32)), .val (.int (x13.toInt32)), .val (.int (x14.toInt32)), .val (.int (x14.toInt32)), .val (.long q4), .second] [])) _
          refine XS.iload X44.here hx rfl (hb hby at_143) rfl ?_
          show Steps p.tables e below (T44.setTop (mkF m 145 #[.val (.int p0), .val (.long q1), .second, .val (.long q2), .second, .val (.long q3), .second, .val (.long q4), .second, .val (.ref b1), .val (.int (p0 &&& (3 : Int32))), .val (.int (x11.toInt32)), .val (.int (x12.toInt32)), .val (.int (x13.toInt32)), .val (.int (x14.toInt32)), .val (.int (x14.toInt32)), .val (.long q4), .second] [(.int (x14.toInt32))])) _
          refine XS.iload X44.here hx rfl (hb hby at_145) rfl ?_
          show Steps p.tables e below (T44.setTop (mkF m 147 #[.val (.int p0), .val (.long q1), .second, .val (.long q2), .second, .val (.long q3), .second, .val (.long q4), .second, .val (.ref b1), .val (.int (p0 &&& (3 : Int32))), .val (.int (x11.toInt32)), .val (.int (x12.toInt32)), .val (.int (x13.toInt32)), .val (.int (x14.toInt32)), .val (.int (x14.toInt32)), .val (.long q4), .second] [(.int (x14.toInt32)), (.int (x14.toInt32))])) _
          refine XS.icmpNo X44.here hx rfl (hb hby at_147) rfl (teq rfl).2 ?_
          show Steps p.tables e below (T44.setTop (mkF m 150 #[.val (.int p0), .val (.long q1), .second, .val (.long q2), .second, .val (.long q3), .second, .val (.long q4), .second, .val (.ref b1), .val (.int (p0 &&& (3 : Int32))), .val (.int (x11.toInt32)), .val (.int (x12.toInt32)), .val (.int (x13.toInt32)), .val (.int (x14.toInt32)), .val (.int (x14.toInt32)), .val (.long q4), .second] [])) _
          refine XS.lload X44.here hx rfl (hb hby at_150) rfl ?_
          show Steps p.tables e below (T44.setTop (mkF m 152 #[.val (.int p0), .val (.long q1), .second, .val (.long q2), .second, .val (.long q3), .second, .val (.long q4), .second, .val (.ref b1), .val (.int (p0 &&& (3 : Int32))), .val (.int (x11.toInt32)), .val (.int (x12.toInt32)), .val (.int (x13.toInt32)), .val (.int (x14.toInt32)), .val (.int (x14.toInt32)), .val (.long q4), .second] [(.long q4)])) _
          refine XS.lload X44.here hx rfl (hb hby at_152) rfl ?_
          show Steps p.tables e below (T44.setTop (mkF m 154 #[.val (.int p0), .val (.long q1), .second, .val (.long q2), .second, .val (.long q3), .second, .val (.long q4), .second, .val (.ref b1), .val (.int (p0 &&& (3 : Int32))), .val (.int (x11.toInt32)), .val (.int (x12.toInt32)), .val (.int (x13.toInt32)), .val (.int (x14.toInt32)), .val (.int (x14.toInt32)), .val (.long q4), .second] [(.long q4), (.long q4)])) _
          refine XS.lcmp X44.here hx rfl (hb hby at_154) rfl ?_
          show Steps p.tables e below (T44.setTop (mkF m 155 #[.val (.int p0), .val (.long q1), .second, .val (.long q2), .second, .val (.long q3), .second, .val (.long q4), .second, .val (.ref b1), .val (.int (p0 &&& (3 : Int32))), .val (.int (x11.toInt32)), .val (.int (x12.toInt32)), .val (.int (x13.toInt32)), .val (.int (x14.toInt32)), .val (.int (x14.toInt32)), .val (.long q4), .second] [(.int (lcmpW q4 q4))])) _
          refine XS.ifNo X44.here hx rfl (hb hby at_155) rfl (own_eqL rfl).2 ?_
          show Steps p.tables e below (T44.setTop (mkF m 158 #[.val (.int p0), .val (.long q1), .second, .val (.long q2), .second, .val (.long q3), .second, .val (.long q4), .second, .val (.ref b1), .val (.int (p0 &&& (3 : Int32))), .val (.int (x11.toInt32)), .val (.int (x12.toInt32)), .val (.int (x13.toInt32)), .val (.int (x14.toInt32)), .val (.int (x14.toInt32)), .val (.long q4), .second] [])) _
          refine XS.aload X44.here hx rfl (hb hby at_158) rfl rfl ?_
          show Steps p.tables e below (T44.setTop (mkF m 160 #[.val (.int p0), .val (.long q1), .second, .val (.long q2), .second, .val (.long q3), .second, .val (.long q4), .second, .val (.ref b1), .val (.int (p0 &&& (3 : Int32))), .val (.int (x11.toInt32)), .val (.int (x12.toInt32)), .val (.int (x13.toInt32)), .val (.int (x14.toInt32)), .val (.int (x14.toInt32)), .val (.long q4), .second] [(.ref b1)])) _
          refine st48.trans ?_
          show Steps p.tables e below (T48.setTop (mkF m 163 #[.val (.int p0), .val (.long q1), .second, .val (.long q2), .second, .val (.long q3), .second, .val (.long q4), .second, .val (.ref b1), .val (.int (p0 &&& (3 : Int32))), .val (.int (x11.toInt32)), .val (.int (x12.toInt32)), .val (.int (x13.toInt32)), .val (.int (x14.toInt32)), .val (.int (x14.toInt32)), .val (.long q4), .second] [(.int ((f5_12 (n2_44.toInt32)) &&& 1))])) _
          exact k)
        have hre50 : ((f5_12 (n2_44.toInt32)) &&& 1) = (1 : Int32) := own_ie0 ((own_IV_n0 P44_6 (by decide)).mpr fun y hy => (P44_7 y hy).mpr (Classical.byCases (fun q : y = x14 => Or.inl q) (fun q => Or.inr ((P30_8 y hy).mpr ⟨q, P23_5 y hy⟩))))
        have pre50 : ∀ t, Steps p.tables e below (T48.setTop (mkF m 163 #[.val (.int p0), .val (.long q1), .second, .val (.long q2), .second, .val (.long q3), .second, .val (.long q4), .second, .val (.ref b1), .val (.int (p0 &&& (3 : Int32))), .val (.int (x11.toInt32)), .val (.int (x12.toInt32)), .val (.int (x13.toInt32)), .val (.int (x14.toInt32)), .val (.int (x14.toInt32)), .val (.long q4), .second] [(.int (1 : Int32))])) t → Steps p.tables e below (s₁.setTop (entryFrame m #[(.int p0), (.long q1), (.long q2), (.long q3), (.long q4)] maxLocals)) t := fun t k => pre49 t (by rw [hre50]; exact k)
        have pre51 : ∀ t, Steps p.tables e below (T48.setTop (mkF m 171 #[.val (.int p0), .val (.long q1), .second, .val (.long q2), .second, .val (.long q3), .second, .val (.long q4), .second, .val (.ref b1), .val (.int (p0 &&& (3 : Int32))), .val (.int (x11.toInt32)), .val (.int (x12.toInt32)), .val (.int (x13.toInt32)), .val (.int (x14.toInt32)), .val (.int (x14.toInt32)), .val (.long q4), .second] [(.int (1 : Int32))])) t → Steps p.tables e below (s₁.setTop (entryFrame m #[(.int p0), (.long q1), (.long q2), (.long q3), (.long q4)] maxLocals)) t := fun t k => pre50 t (by
          show Steps p.tables e below (T48.setTop (mkF m 163 #[.val (.int p0), .val (.long q1), .second, .val (.long q2), .second, .val (.long q3), .second, .val (.long q4), .second, .val (.ref b1), .val (.int (p0 &&& (3 : Int32))), .val (.int (x11.toInt32)), .val (.int (x12.toInt32)), .val (.int (x13.toInt32)), .val (.int (x14.toInt32)), .val (.int (x14.toInt32)), .val (.long q4), .second] [(.int (1 : Int32))])) _
          refine XS.ifNo X48.here hx rfl (hb hby at_163) rfl ((if0 _ _).trans (feq (show ¬ ((1 : Int32) = (0 : Int32)) by decide)).1) ?_
          show Steps p.tables e below (T48.setTop (mkF m 166 #[.val (.int p0), .val (.long q1), .second, .val (.long q2), .second, .val (.long q3), .second, .val (.long q4), .second, .val (.ref b1), .val (.int (p0 &&& (3 : Int32))), .val (.int (x11.toInt32)), .val (.int (x12.toInt32)), .val (.int (x13.toInt32)), .val (.int (x14.toInt32)), .val (.int (x14.toInt32)), .val (.long q4), .second] [])) _
          refine XS.iconst X48.here hx rfl (hb hby at_166) ?_
          show Steps p.tables e below (T48.setTop (mkF m 167 #[.val (.int p0), .val (.long q1), .second, .val (.long q2), .second, .val (.long q3), .second, .val (.long q4), .second, .val (.ref b1), .val (.int (p0 &&& (3 : Int32))), .val (.int (x11.toInt32)), .val (.int (x12.toInt32)), .val (.int (x13.toInt32)), .val (.int (x14.toInt32)), .val (.int (x14.toInt32)), .val (.long q4), .second] [(.int (1 : Int32))])) _
          refine XS.goto X48.here hx rfl (pc0 := 167) (pc' := 171) rfl (hb hby at_167) (by decide) (by decide) ?_
          show Steps p.tables e below (T48.setTop (mkF m 171 #[.val (.int p0), .val (.long q1), .second, .val (.long q2), .second, .val (.long q3), .second, .val (.long q4), .second, .val (.ref b1), .val (.int (p0 &&& (3 : Int32))), .val (.int (x11.toInt32)), .val (.int (x12.toInt32)), .val (.int (x13.toInt32)), .val (.int (x14.toInt32)), .val (.int (x14.toInt32)), .val (.long q4), .second] [(.int (1 : Int32))])) _
          exact k)
        obtain ⟨fs, hr, hrun, hended, hW, hsame⟩ := X48.leave (v := some (.int (1 : Int32))) (fun h => by rw [Bd.returns] at h; cases h)
        refine ⟨_, _, pre51 _ ?_, hrun, hended, _, _, rfl, ?_, ⟨_, rfl⟩, hW, hsame.mono (by decide) (by decide)⟩
        · exact retN X48 hx (t := .boolean) Bd.returns (by simp) (hb hby at_171) hr
        · show Q0 Z p0 q1 q2 q3 q4 h0 n0 _ T48.heap _
          rw [hh48]
          exact ⟨rfl, N48⟩
      · exact absurd (own_m23 hs20) hs22
    · exact absurd (own_m12 hs18) hs20
  · obtain ⟨cq52, kq52, q52a, q52b, q52c⟩ := isOf hZ rfl (E_b1_6)
    obtain ⟨_, _, ⟨T52, L52, k52, n52⟩, -, X52, ⟨Lc52, hQ52, l52, y52, z52⟩, st52⟩ := X5.virtualBack hx (y := (⟨"com/example/lean_layers/leanlayers/phase/layering/IndexedHeap", "put", "(IJ)V"⟩ : MethodName)) (z := (⟨"com/example/lean_layers/leanlayers/phase/layering/IndexedHeap", "put", "(IJ)V"⟩ : MethodName)) hown (mvT hZ (hw _ (List.mem_of_getElem? (i := 33) rfl))) (mvT hZ (hw _ (List.mem_of_getElem? (i := 34) rfl))) (notFace_of_selects (args := #[]) (mvT hZ (hw _ (List.mem_of_getElem? (i := 36) rfl)))) (mvT hZ (hw _ (List.mem_of_getElem? (i := 36) rfl))) (mvT hZ (hw _ (List.mem_of_getElem? (i := 35) rfl))) (by decide) (backOf (W := 0) (rm6 l Z a0 hw [] b1 (x11.toInt32) q1 ti_5 tk_5 tp_5 own_zk own_z own_z (0 : Nat) x11 T5.heap n0 ZZ7 P5_0 P5_1 P5_2 E_b1_6 P5_3 P5_4 P5_5 P5_6 g_ti_5 g_tk_5 g_tp_5 g_b1 ne_b1_ti_5 ne_b1_tk_5 ne_b1_tp_5 ne_ti_tk_5 ne_ti_tp_5 ne_tk_tp_5 rfl hx11 (own_IV_new (fun _ _ => rfl) (fun _ _ => (by decide : (0 : Nat) < 4)))) hZ (hw _ (List.mem_of_getElem? (i := 37) rfl)) (hw _ (List.mem_of_getElem? (i := 2) rfl)) (by decide) (by decide)) q52a q52c (g := (mkF m 56 #[.val (.int p0), .val (.long q1), .second, .val (.long q2), .second, .val (.long q3), .second, .val (.long q4), .second, .val (.ref b1), .val (.int (p0 &&& (3 : Int32))), .val (.int (x11.toInt32)), .val (.int (x12.toInt32)), .val (.int (x13.toInt32)), .val (.int (x14.toInt32)), .unset, .unset, .unset] [(.long q1), (.int (x11.toInt32)), (.ref b1)])) rfl (by rw [hml]; rfl) (Steps.refl _) (argsL := [(.int (x11.toInt32)), (.long q1)]) (rest := []) (lenOf pd_7 rfl) rfl (by show 2 * 0 + _ ≤ _; exact Nat.le_of_eq rfl) (hb hby at_56) (fun _ _ => ⟨rfl, rfl, (by decide : 4 + 0 ≤ _), (by decide : 16 + 0 ≤ _)⟩)
    dsimp only [Pt.U, Pt.locs, Pt.cells, Pt.slots] at X52 l52 y52 z52 st52 hQ52
    subst y52 z52
    obtain ⟨n2_52, it2_52, pl2_52, rfl, N52q, Kc52, P52_0, P52_1, P52_2, P52_3, P52_4, P52_5, P52_6, P52_7, P52_8⟩ := hQ52
    have N52 := Fr.app N5 N52q
    rw [← l52] at N52
    have E_b1_53 : Exa Z T52.heap b1 "com/example/lean_layers/leanlayers/phase/layering/IndexedHeap" := (E_b1_6).keep Kc52
    have SZ54 : h0.size ≤ T52.heap.size := Nat.le_trans SZ7 Kc52.1
    have ZZ54 : n0 ≤ T52.heap.size := Nat.le_trans Z0 SZ54
    have K55 : Keep h0 T52.heap [] := (K8).trans Kc52 (allS (Or.inr szz_ti_5) (allS (Or.inr szz_tk_5) (allS (Or.inr szz_tp_5) (allS (Or.inr sz_b1) all0))))
    have pre56 : ∀ t, Steps p.tables e below (T52.setTop (mkF m 62 #[.val (.int p0), .val (.long q1), .second, .val (.long q2), .second, .val (.long q3), .second, .val (.long q4), .second, .val (.ref b1), .val (.int (p0 &&& (3 : Int32))), .val (.int (x11.toInt32)), .val (.int (x12.toInt32)), .val (.int (x13.toInt32)), .val (.int (x14.toInt32)), .unset, .unset, .unset] [(.int (2 : Int32)), (.int (p0 &&& (3 : Int32)))])) t → Steps p.tables e below (s₁.setTop (entryFrame m #[(.int p0), (.long q1), (.long q2), (.long q3), (.long q4)] maxLocals)) t := fun t k => pre17 t (by
      refine XS.icmpNo X5.here hx rfl (hb hby at_48) rfl (flt hs18).1 ?_
      show Steps p.tables e below (T5.setTop (mkF m 51 #[.val (.int p0), .val (.long q1), .second, .val (.long q2), .second, .val (.long q3), .second, .val (.long q4), .second, .val (.ref b1), .val (.int (p0 &&& (3 : Int32))), .val (.int (x11.toInt32)), .val (.int (x12.toInt32)), .val (.int (x13.toInt32)), .val (.int (x14.toInt32)), .unset, .unset, .unset] [])) _
      refine XS.aload X5.here hx rfl (hb hby at_51) rfl rfl ?_
      show Steps p.tables e below (T5.setTop (mkF m 53 #[.val (.int p0), .val (.long q1), .second, .val (.long q2), .second, .val (.long q3), .second, .val (.long q4), .second, .val (.ref b1), .val (.int (p0 &&& (3 : Int32))), .val (.int (x11.toInt32)), .val (.int (x12.toInt32)), .val (.int (x13.toInt32)), .val (.int (x14.toInt32)), .unset, .unset, .unset] [(.ref b1)])) _
      refine XS.iload X5.here hx rfl (hb hby at_53) rfl ?_
      show Steps p.tables e below (T5.setTop (mkF m 55 #[.val (.int p0), .val (.long q1), .second, .val (.long q2), .second, .val (.long q3), .second, .val (.long q4), .second, .val (.ref b1), .val (.int (p0 &&& (3 : Int32))), .val (.int (x11.toInt32)), .val (.int (x12.toInt32)), .val (.int (x13.toInt32)), .val (.int (x14.toInt32)), .unset, .unset, .unset] [(.int (x11.toInt32)), (.ref b1)])) _
      refine XS.lloadN X5.here hx rfl (hb hby at_55) rfl ?_
      show Steps p.tables e below (T5.setTop (mkF m 56 #[.val (.int p0), .val (.long q1), .second, .val (.long q2), .second, .val (.long q3), .second, .val (.long q4), .second, .val (.ref b1), .val (.int (p0 &&& (3 : Int32))), .val (.int (x11.toInt32)), .val (.int (x12.toInt32)), .val (.int (x13.toInt32)), .val (.int (x14.toInt32)), .unset, .unset, .unset] [(.long q1), (.int (x11.toInt32)), (.ref b1)])) _
      refine st52.trans ?_
      show Steps p.tables e below (T52.setTop (mkF m 59 #[.val (.int p0), .val (.long q1), .second, .val (.long q2), .second, .val (.long q3), .second, .val (.long q4), .second, .val (.ref b1), .val (.int (p0 &&& (3 : Int32))), .val (.int (x11.toInt32)), .val (.int (x12.toInt32)), .val (.int (x13.toInt32)), .val (.int (x14.toInt32)), .unset, .unset, .unset] [])) _
      refine XS.iload X52.here hx rfl (hb hby at_59) rfl ?_
      show Steps p.tables e below (T52.setTop (mkF m 61 #[.val (.int p0), .val (.long q1), .second, .val (.long q2), .second, .val (.long q3), .second, .val (.long q4), .second, .val (.ref b1), .val (.int (p0 &&& (3 : Int32))), .val (.int (x11.toInt32)), .val (.int (x12.toInt32)), .val (.int (x13.toInt32)), .val (.int (x14.toInt32)), .unset, .unset, .unset] [(.int (p0 &&& (3 : Int32)))])) _
      refine XS.iconst X52.here hx rfl (hb hby at_61) ?_
      show Steps p.tables e below (T52.setTop (mkF m 62 #[.val (.int p0), .val (.long q1), .second, .val (.long q2), .second, .val (.long q3), .second, .val (.long q4), .second, .val (.ref b1), .val (.int (p0 &&& (3 : Int32))), .val (.int (x11.toInt32)), .val (.int (x12.toInt32)), .val (.int (x13.toInt32)), .val (.int (x14.toInt32)), .unset, .unset, .unset] [(.int (2 : Int32)), (.int (p0 &&& (3 : Int32)))])) _
      exact k)
    by_cases hs57 : (p0 &&& (3 : Int32)) < (2 : Int32)
    · have pre58 : ∀ t, Steps p.tables e below (T52.setTop (mkF m 76 #[.val (.int p0), .val (.long q1), .second, .val (.long q2), .second, .val (.long q3), .second, .val (.long q4), .second, .val (.ref b1), .val (.int (p0 &&& (3 : Int32))), .val (.int (x11.toInt32)), .val (.int (x12.toInt32)), .val (.int (x13.toInt32)), .val (.int (x14.toInt32)), .unset, .unset, .unset] [(.int (3 : Int32)), (.int (p0 &&& (3 : Int32)))])) t → Steps p.tables e below (s₁.setTop (entryFrame m #[(.int p0), (.long q1), (.long q2), (.long q3), (.long q4)] maxLocals)) t := fun t k => pre56 t (by
        refine XS.icmpYes X52.here hx rfl (pc0 := 62) (pc' := 73) rfl (hb hby at_62) rfl (tlt hs57).1 (by decide) (by decide) ?_
        show Steps p.tables e below (T52.setTop (mkF m 73 #[.val (.int p0), .val (.long q1), .second, .val (.long q2), .second, .val (.long q3), .second, .val (.long q4), .second, .val (.ref b1), .val (.int (p0 &&& (3 : Int32))), .val (.int (x11.toInt32)), .val (.int (x12.toInt32)), .val (.int (x13.toInt32)), .val (.int (x14.toInt32)), .unset, .unset, .unset] [])) _
        refine XS.iload X52.here hx rfl (hb hby at_73) rfl ?_
        show Steps p.tables e below (T52.setTop (mkF m 75 #[.val (.int p0), .val (.long q1), .second, .val (.long q2), .second, .val (.long q3), .second, .val (.long q4), .second, .val (.ref b1), .val (.int (p0 &&& (3 : Int32))), .val (.int (x11.toInt32)), .val (.int (x12.toInt32)), .val (.int (x13.toInt32)), .val (.int (x14.toInt32)), .unset, .unset, .unset] [(.int (p0 &&& (3 : Int32)))])) _
        refine XS.iconst X52.here hx rfl (hb hby at_75) ?_
        show Steps p.tables e below (T52.setTop (mkF m 76 #[.val (.int p0), .val (.long q1), .second, .val (.long q2), .second, .val (.long q3), .second, .val (.long q4), .second, .val (.ref b1), .val (.int (p0 &&& (3 : Int32))), .val (.int (x11.toInt32)), .val (.int (x12.toInt32)), .val (.int (x13.toInt32)), .val (.int (x14.toInt32)), .unset, .unset, .unset] [(.int (3 : Int32)), (.int (p0 &&& (3 : Int32)))])) _
        exact k)
      by_cases hs59 : (p0 &&& (3 : Int32)) < (3 : Int32)
      · obtain ⟨cq60, kq60, q60a, q60b, q60c⟩ := isOf hZ rfl (E_b1_53)
        obtain ⟨_, _, ⟨T60, L60, k60, n60⟩, -, X60, ⟨Lc60, hQ60, l60, y60, z60⟩, st60⟩ := X52.virtualBack hx (y := (⟨"com/example/lean_layers/leanlayers/phase/layering/IndexedHeap", "clear", "()V"⟩ : MethodName)) (z := (⟨"com/example/lean_layers/leanlayers/phase/layering/IndexedHeap", "clear", "()V"⟩ : MethodName)) hown (mvT hZ (hw _ (List.mem_of_getElem? (i := 21) rfl))) (mvT hZ (hw _ (List.mem_of_getElem? (i := 22) rfl))) (notFace_of_selects (args := #[]) (mvT hZ (hw _ (List.mem_of_getElem? (i := 24) rfl)))) (mvT hZ (hw _ (List.mem_of_getElem? (i := 24) rfl))) (mvT hZ (hw _ (List.mem_of_getElem? (i := 23) rfl))) (by decide) (backOf (W := 0) (rm4 l Z a0 hw [] b1 ti_5 tk_5 tp_5 it2_52 pl2_52 n2_52 T52.heap n0 ZZ54 P52_1 P52_2 P52_3 E_b1_53 P52_0 P52_4 P52_6 g_tp_5 g_b1 ne_b1_ti_5 ne_b1_tp_5 ne_ti_tp_5 P52_7) hZ (hw _ (List.mem_of_getElem? (i := 25) rfl)) (hw _ (List.mem_of_getElem? (i := 2) rfl)) (by decide) (by decide)) q60a q60c (g := (mkF m 90 #[.val (.int p0), .val (.long q1), .second, .val (.long q2), .second, .val (.long q3), .second, .val (.long q4), .second, .val (.ref b1), .val (.int (p0 &&& (3 : Int32))), .val (.int (x11.toInt32)), .val (.int (x12.toInt32)), .val (.int (x13.toInt32)), .val (.int (x14.toInt32)), .unset, .unset, .unset] [(.ref b1)])) rfl (by rw [hml]; rfl) (Steps.refl _) (argsL := []) (rest := []) (lenOf pd_5 rfl) rfl (by show 2 * 0 + _ ≤ _; exact Nat.le_of_eq rfl) (hb hby at_90) (fun _ _ => ⟨rfl, rfl, (by decide : 4 + 0 ≤ _), (by decide : 16 + 0 ≤ _)⟩)
        dsimp only [Pt.U, Pt.locs, Pt.cells, Pt.slots] at X60 l60 y60 z60 st60 hQ60
        subst y60 z60
        obtain ⟨pl2_60, rfl, N60q, Kc60, P60_0, P60_1, P60_2, P60_3, P60_4, P60_5⟩ := hQ60
        have N60 := Fr.app N52 N60q
        rw [← l60] at N60
        have E_b1_61 : Exa Z T60.heap b1 "com/example/lean_layers/leanlayers/phase/layering/IndexedHeap" := (E_b1_53).keep Kc60
        have A_ti_5_61 : own_A Z T60.heap ti_5 .int 4 (fun kk => (.int ((it2_52 kk).toInt32))) := (P52_4).keep Kc60 (ninS ne_ti_tp_5 (ninS (Ne.symm ne_b1_ti_5) nin0))
        have A_tk_5_61 : own_A Z T60.heap tk_5 .long 4 (fun kk => (.long ((own_uk own_zk x11 q1) kk))) := (P52_5).keep Kc60 (ninS ne_tk_tp_5 (ninS (Ne.symm ne_b1_tk_5) nin0))
        have SZ62 : h0.size ≤ T60.heap.size := Nat.le_trans SZ54 Kc60.1
        have ZZ62 : n0 ≤ T60.heap.size := Nat.le_trans Z0 SZ62
        have K63 : Keep h0 T60.heap [] := (K55).trans Kc60 (allS (Or.inr szz_tp_5) (allS (Or.inr sz_b1) all0))
        obtain ⟨cq64, kq64, q64a, q64b, q64c⟩ := isOf hZ rfl (E_b1_61)
        obtain ⟨_, _, ⟨T64, L64, k64, n64⟩, -, X64, ⟨Lc64, hQ64, l64, y64, z64⟩, st64⟩ := X60.virtualBack hx (y := (⟨"com/example/lean_layers/leanlayers/phase/layering/IndexedHeap", "isEmpty", "()Z"⟩ : MethodName)) (z := (⟨"com/example/lean_layers/leanlayers/phase/layering/IndexedHeap", "isEmpty", "()Z"⟩ : MethodName)) hown (mvT hZ (hw _ (List.mem_of_getElem? (i := 28) rfl))) (mvT hZ (hw _ (List.mem_of_getElem? (i := 29) rfl))) (notFace_of_selects (args := #[]) (mvT hZ (hw _ (List.mem_of_getElem? (i := 31) rfl)))) (mvT hZ (hw _ (List.mem_of_getElem? (i := 31) rfl))) (mvT hZ (hw _ (List.mem_of_getElem? (i := 30) rfl))) (by decide) (backOf (W := 0) (rm5 l Z a0 hw [] b1 ((0 : Nat).toInt32) T60.heap n0 ZZ62 P60_0) hZ (hw _ (List.mem_of_getElem? (i := 32) rfl)) (hw _ (List.mem_of_getElem? (i := 2) rfl)) (by decide) (by decide)) q64a q64c (g := (mkF m 95 #[.val (.int p0), .val (.long q1), .second, .val (.long q2), .second, .val (.long q3), .second, .val (.long q4), .second, .val (.ref b1), .val (.int (p0 &&& (3 : Int32))), .val (.int (x11.toInt32)), .val (.int (x12.toInt32)), .val (.int (x13.toInt32)), .val (.int (x14.toInt32)), .unset, .unset, .unset] [(.ref b1)])) rfl (by rw [hml]; rfl) (Steps.refl _) (argsL := []) (rest := []) (lenOf pd_6 rfl) rfl (by show 2 * 0 + _ ≤ _; exact Nat.le_of_eq rfl) (hb hby at_95) (fun _ _ => ⟨rfl, rfl, (by decide : 4 + 0 ≤ _), (by decide : 16 + 0 ≤ _)⟩)
        dsimp only [Pt.U, Pt.locs, Pt.cells, Pt.slots] at X64 l64 y64 z64 st64 hQ64
        subst y64 z64
        obtain ⟨rfl, N64q, hh64⟩ := hQ64
        have N64 := Fr.app N60 N64q
        rw [← l64] at N64
        have pre65 : ∀ t, Steps p.tables e below (T64.setTop (mkF m 98 #[.val (.int p0), .val (.long q1), .second, .val (.long q2), .second, .val (.long q3), .second, .val (.long q4), .second, .val (.ref b1), .val (.int (p0 &&& (3 : Int32))), .val (.int (x11.toInt32)), .val (.int (x12.toInt32)), .val (.int (x13.toInt32)), .val (.int (x14.toInt32)), .unset, .unset, .unset] [(.int ((f5_12 ((0 : Nat).toInt32)) &&& 1))])) t → Steps p.tables e below (s₁.setTop (entryFrame m #[(.int p0), (.long q1), (.long q2), (.long q3), (.long q4)] maxLocals)) t := fun t k => pre58 t (by
          refine XS.icmpYes X52.here hx rfl (pc0 := 76) (pc' := 88) rfl (hb hby at_76) rfl (tlt hs59).1 (by decide) (by decide) ?_
          show Steps p.tables e below (T52.setTop (mkF m 88 #[.val (.int p0), .val (.long q1), .second, .val (.long q2), .second, .val (.long q3), .second, .val (.long q4), .second, .val (.ref b1), .val (.int (p0 &&& (3 : Int32))), .val (.int (x11.toInt32)), .val (.int (x12.toInt32)), .val (.int (x13.toInt32)), .val (.int (x14.toInt32)), .unset, .unset, .unset] [])) _
          refine XS.aload X52.here hx rfl (hb hby at_88) rfl rfl ?_
          show Steps p.tables e below (T52.setTop (mkF m 90 #[.val (.int p0), .val (.long q1), .second, .val (.long q2), .second, .val (.long q3), .second, .val (.long q4), .second, .val (.ref b1), .val (.int (p0 &&& (3 : Int32))), .val (.int (x11.toInt32)), .val (.int (x12.toInt32)), .val (.int (x13.toInt32)), .val (.int (x14.toInt32)), .unset, .unset, .unset] [(.ref b1)])) _
          refine st60.trans ?_
          show Steps p.tables e below (T60.setTop (mkF m 93 #[.val (.int p0), .val (.long q1), .second, .val (.long q2), .second, .val (.long q3), .second, .val (.long q4), .second, .val (.ref b1), .val (.int (p0 &&& (3 : Int32))), .val (.int (x11.toInt32)), .val (.int (x12.toInt32)), .val (.int (x13.toInt32)), .val (.int (x14.toInt32)), .unset, .unset, .unset] [])) _
          refine XS.aload X60.here hx rfl (hb hby at_93) rfl rfl ?_
          show Steps p.tables e below (T60.setTop (mkF m 95 #[.val (.int p0), .val (.long q1), .second, .val (.long q2), .second, .val (.long q3), .second, .val (.long q4), .second, .val (.ref b1), .val (.int (p0 &&& (3 : Int32))), .val (.int (x11.toInt32)), .val (.int (x12.toInt32)), .val (.int (x13.toInt32)), .val (.int (x14.toInt32)), .unset, .unset, .unset] [(.ref b1)])) _
          refine st64.trans ?_
          show Steps p.tables e below (T64.setTop (mkF m 98 #[.val (.int p0), .val (.long q1), .second, .val (.long q2), .second, .val (.long q3), .second, .val (.long q4), .second, .val (.ref b1), .val (.int (p0 &&& (3 : Int32))), .val (.int (x11.toInt32)), .val (.int (x12.toInt32)), .val (.int (x13.toInt32)), .val (.int (x14.toInt32)), .unset, .unset, .unset] [(.int ((f5_12 ((0 : Nat).toInt32)) &&& 1))])) _
          exact k)
        have hre66 : ((f5_12 ((0 : Nat).toInt32)) &&& 1) = (1 : Int32) := own_ie0 rfl
        have pre66 : ∀ t, Steps p.tables e below (T64.setTop (mkF m 98 #[.val (.int p0), .val (.long q1), .second, .val (.long q2), .second, .val (.long q3), .second, .val (.long q4), .second, .val (.ref b1), .val (.int (p0 &&& (3 : Int32))), .val (.int (x11.toInt32)), .val (.int (x12.toInt32)), .val (.int (x13.toInt32)), .val (.int (x14.toInt32)), .unset, .unset, .unset] [(.int (1 : Int32))])) t → Steps p.tables e below (s₁.setTop (entryFrame m #[(.int p0), (.long q1), (.long q2), (.long q3), (.long q4)] maxLocals)) t := fun t k => pre65 t (by rw [hre66]; exact k)
        obtain ⟨cq67, kq67, q67a, q67b, q67c⟩ := isOf hZ hh64 (E_b1_61)
        obtain ⟨_, _, ⟨T67, L67, k67, n67⟩, -, X67, ⟨Lc67, hQ67, l67, y67, z67⟩, st67⟩ := X64.virtualBack hx (y := (⟨"com/example/lean_layers/leanlayers/phase/layering/IndexedHeap", "put", "(IJ)V"⟩ : MethodName)) (z := (⟨"com/example/lean_layers/leanlayers/phase/layering/IndexedHeap", "put", "(IJ)V"⟩ : MethodName)) hown (mvT hZ (hw _ (List.mem_of_getElem? (i := 33) rfl))) (mvT hZ (hw _ (List.mem_of_getElem? (i := 34) rfl))) (notFace_of_selects (args := #[]) (mvT hZ (hw _ (List.mem_of_getElem? (i := 36) rfl)))) (mvT hZ (hw _ (List.mem_of_getElem? (i := 36) rfl))) (mvT hZ (hw _ (List.mem_of_getElem? (i := 35) rfl))) (by decide) (backOf (W := 0) (rm6 l Z a0 hw [] b1 (x14.toInt32) q4 ti_5 tk_5 tp_5 (own_uk own_zk x11 q1) it2_52 pl2_60 (0 : Nat) x14 T60.heap n0 ZZ62 P60_1 P60_2 P60_3 E_b1_61 P60_0 A_ti_5_61 A_tk_5_61 P60_4 g_ti_5 g_tk_5 g_tp_5 g_b1 ne_b1_ti_5 ne_b1_tk_5 ne_b1_tp_5 ne_ti_tk_5 ne_ti_tp_5 ne_tk_tp_5 rfl hx14 (own_IV_new P60_5 (P52_7).2.1)) hZ (hw _ (List.mem_of_getElem? (i := 37) rfl)) (hw _ (List.mem_of_getElem? (i := 2) rfl)) (by decide) (by decide)) q67a q67c (g := (mkF m 109 #[.val (.int p0), .val (.long q1), .second, .val (.long q2), .second, .val (.long q3), .second, .val (.long q4), .second, .val (.ref b1), .val (.int (p0 &&& (3 : Int32))), .val (.int (x11.toInt32)), .val (.int (x12.toInt32)), .val (.int (x13.toInt32)), .val (.int (x14.toInt32)), .unset, .unset, .unset] [(.long q4), (.int (x14.toInt32)), (.ref b1)])) rfl (by rw [hml]; rfl) (Steps.refl _) (argsL := [(.int (x14.toInt32)), (.long q4)]) (rest := []) (lenOf pd_7 rfl) rfl (by show 2 * 0 + _ ≤ _; exact Nat.le_of_eq rfl) (hb hby at_109) (fun _ _ => ⟨rfl, hh64, (by decide : 4 + 0 ≤ _), (by decide : 16 + 0 ≤ _)⟩)
        dsimp only [Pt.U, Pt.locs, Pt.cells, Pt.slots] at X67 l67 y67 z67 st67 hQ67
        subst y67 z67
        obtain ⟨n2_67, it2_67, pl2_67, rfl, N67q, Kc67, P67_0, P67_1, P67_2, P67_3, P67_4, P67_5, P67_6, P67_7, P67_8⟩ := hQ67
        have N67 := Fr.app N64 N67q
        rw [← l67] at N67
        have E_b1_68 : Exa Z T67.heap b1 "com/example/lean_layers/leanlayers/phase/layering/IndexedHeap" := (E_b1_61).keep Kc67
        have SZ69 : h0.size ≤ T67.heap.size := Nat.le_trans SZ62 Kc67.1
        have ZZ69 : n0 ≤ T67.heap.size := Nat.le_trans Z0 SZ69
        have K70 : Keep h0 T67.heap [] := (K63).trans Kc67 (allS (Or.inr szz_ti_5) (allS (Or.inr szz_tk_5) (allS (Or.inr szz_tp_5) (allS (Or.inr sz_b1) all0))))
        have hne71 : pl2_67 x14 ≠ 0 := fun z => ((P67_8 x14 hx14).mp z).1 rfl
        obtain ⟨j71, hj71, -, -⟩ := own_IV_held P67_7 hx14 hne71
        have hp71 : 0 < n2_67 := by omega
        have h471 : n2_67 ≤ 4 := (P67_7).1
        have hf71 : it2_67 0 = x14 := own_first P67_7 hp71 P67_8 P60_5
        obtain ⟨cq72, kq72, q72a, q72b, q72c⟩ := isOf hZ rfl (E_b1_68)
        obtain ⟨_, _, ⟨T72, L72, k72, n72⟩, -, X72, ⟨Lc72, hQ72, l72, y72, z72⟩, st72⟩ := X67.virtualBack hx (y := (⟨"com/example/lean_layers/leanlayers/phase/layering/IndexedHeap", "isEmpty", "()Z"⟩ : MethodName)) (z := (⟨"com/example/lean_layers/leanlayers/phase/layering/IndexedHeap", "isEmpty", "()Z"⟩ : MethodName)) hown (mvT hZ (hw _ (List.mem_of_getElem? (i := 28) rfl))) (mvT hZ (hw _ (List.mem_of_getElem? (i := 29) rfl))) (notFace_of_selects (args := #[]) (mvT hZ (hw _ (List.mem_of_getElem? (i := 31) rfl)))) (mvT hZ (hw _ (List.mem_of_getElem? (i := 31) rfl))) (mvT hZ (hw _ (List.mem_of_getElem? (i := 30) rfl))) (by decide) (backOf (W := 0) (rm5 l Z a0 hw [] b1 (n2_67.toInt32) T67.heap n0 ZZ69 P67_0) hZ (hw _ (List.mem_of_getElem? (i := 32) rfl)) (hw _ (List.mem_of_getElem? (i := 2) rfl)) (by decide) (by decide)) q72a q72c (g := (mkF m 114 #[.val (.int p0), .val (.long q1), .second, .val (.long q2), .second, .val (.long q3), .second, .val (.long q4), .second, .val (.ref b1), .val (.int (p0 &&& (3 : Int32))), .val (.int (x11.toInt32)), .val (.int (x12.toInt32)), .val (.int (x13.toInt32)), .val (.int (x14.toInt32)), .unset, .unset, .unset] [(.ref b1)])) rfl (by rw [hml]; rfl) (Steps.refl _) (argsL := []) (rest := []) (lenOf pd_6 rfl) rfl (by show 2 * 0 + _ ≤ _; exact Nat.le_of_eq rfl) (hb hby at_114) (fun _ _ => ⟨rfl, rfl, (by decide : 4 + 0 ≤ _), (by decide : 16 + 0 ≤ _)⟩)
        dsimp only [Pt.U, Pt.locs, Pt.cells, Pt.slots] at X72 l72 y72 z72 st72 hQ72
        subst y72 z72
        obtain ⟨rfl, N72q, hh72⟩ := hQ72
        have N72 := Fr.app N67 N72q
        rw [← l72] at N72
        have pre73 : ∀ t, Steps p.tables e below (T72.setTop (mkF m 117 #[.val (.int p0), .val (.long q1), .second, .val (.long q2), .second, .val (.long q3), .second, .val (.long q4), .second, .val (.ref b1), .val (.int (p0 &&& (3 : Int32))), .val (.int (x11.toInt32)), .val (.int (x12.toInt32)), .val (.int (x13.toInt32)), .val (.int (x14.toInt32)), .unset, .unset, .unset] [(.int ((f5_12 (n2_67.toInt32)) &&& 1))])) t → Steps p.tables e below (s₁.setTop (entryFrame m #[(.int p0), (.long q1), (.long q2), (.long q3), (.long q4)] maxLocals)) t := fun t k => pre66 t (by
          show Steps p.tables e below (T64.setTop (mkF m 98 #[.val (.int p0), .val (.long q1), .second, .val (.long q2), .second, .val (.long q3), .second, .val (.long q4), .second, .val (.ref b1), .val (.int (p0 &&& (3 : Int32))), .val (.int (x11.toInt32)), .val (.int (x12.toInt32)), .val (.int (x13.toInt32)), .val (.int (x14.toInt32)), .unset, .unset, .unset] [(.int (1 : Int32))])) _
          refine XS.ifYes X64.here hx rfl (pc0 := 98) (pc' := 103) rfl (hb hby at_98) rfl ((if0 _ _).trans (feq (show ¬ ((1 : Int32) = (0 : Int32)) by decide)).2) (by decide) (by decide) ?_
          show Steps p.tables e below (T64.setTop (mkF m 103 #[.val (.int p0), .val (.long q1), .second, .val (.long q2), .second, .val (.long q3), .second, .val (.long q4), .second, .val (.ref b1), .val (.int (p0 &&& (3 : Int32))), .val (.int (x11.toInt32)), .val (.int (x12.toInt32)), .val (.int (x13.toInt32)), .val (.int (x14.toInt32)), .unset, .unset, .unset] [])) _
          refine XS.aload X64.here hx rfl (hb hby at_103) rfl rfl ?_
          show Steps p.tables e below (T64.setTop (mkF m 105 #[.val (.int p0), .val (.long q1), .second, .val (.long q2), .second, .val (.long q3), .second, .val (.long q4), .second, .val (.ref b1), .val (.int (p0 &&& (3 : Int32))), .val (.int (x11.toInt32)), .val (.int (x12.toInt32)), .val (.int (x13.toInt32)), .val (.int (x14.toInt32)), .unset, .unset, .unset] [(.ref b1)])) _
          refine XS.iload X64.here hx rfl (hb hby at_105) rfl ?_
          show Steps p.tables e below (T64.setTop (mkF m 107 #[.val (.int p0), .val (.long q1), .second, .val (.long q2), .second, .val (.long q3), .second, .val (.long q4), .second, .val (.ref b1), .val (.int (p0 &&& (3 : Int32))), .val (.int (x11.toInt32)), .val (.int (x12.toInt32)), .val (.int (x13.toInt32)), .val (.int (x14.toInt32)), .unset, .unset, .unset] [(.int (x14.toInt32)), (.ref b1)])) _
          refine XS.lload X64.here hx rfl (hb hby at_107) rfl ?_
          show Steps p.tables e below (T64.setTop (mkF m 109 #[.val (.int p0), .val (.long q1), .second, .val (.long q2), .second, .val (.long q3), .second, .val (.long q4), .second, .val (.ref b1), .val (.int (p0 &&& (3 : Int32))), .val (.int (x11.toInt32)), .val (.int (x12.toInt32)), .val (.int (x13.toInt32)), .val (.int (x14.toInt32)), .unset, .unset, .unset] [(.long q4), (.int (x14.toInt32)), (.ref b1)])) _
          refine st67.trans ?_
          show Steps p.tables e below (T67.setTop (mkF m 112 #[.val (.int p0), .val (.long q1), .second, .val (.long q2), .second, .val (.long q3), .second, .val (.long q4), .second, .val (.ref b1), .val (.int (p0 &&& (3 : Int32))), .val (.int (x11.toInt32)), .val (.int (x12.toInt32)), .val (.int (x13.toInt32)), .val (.int (x14.toInt32)), .unset, .unset, .unset] [])) _
          refine XS.aload X67.here hx rfl (hb hby at_112) rfl rfl ?_
          show Steps p.tables e below (T67.setTop (mkF m 114 #[.val (.int p0), .val (.long q1), .second, .val (.long q2), .second, .val (.long q3), .second, .val (.long q4), .second, .val (.ref b1), .val (.int (p0 &&& (3 : Int32))), .val (.int (x11.toInt32)), .val (.int (x12.toInt32)), .val (.int (x13.toInt32)), .val (.int (x14.toInt32)), .unset, .unset, .unset] [(.ref b1)])) _
          refine st72.trans ?_
          show Steps p.tables e below (T72.setTop (mkF m 117 #[.val (.int p0), .val (.long q1), .second, .val (.long q2), .second, .val (.long q3), .second, .val (.long q4), .second, .val (.ref b1), .val (.int (p0 &&& (3 : Int32))), .val (.int (x11.toInt32)), .val (.int (x12.toInt32)), .val (.int (x13.toInt32)), .val (.int (x14.toInt32)), .unset, .unset, .unset] [(.int ((f5_12 (n2_67.toInt32)) &&& 1))])) _
          exact k)
        have hre74 : ((f5_12 (n2_67.toInt32)) &&& 1) = (0 : Int32) := own_ie1 hp71 (by omega)
        have pre74 : ∀ t, Steps p.tables e below (T72.setTop (mkF m 117 #[.val (.int p0), .val (.long q1), .second, .val (.long q2), .second, .val (.long q3), .second, .val (.long q4), .second, .val (.ref b1), .val (.int (p0 &&& (3 : Int32))), .val (.int (x11.toInt32)), .val (.int (x12.toInt32)), .val (.int (x13.toInt32)), .val (.int (x14.toInt32)), .unset, .unset, .unset] [(.int (0 : Int32))])) t → Steps p.tables e below (s₁.setTop (entryFrame m #[(.int p0), (.long q1), (.long q2), (.long q3), (.long q4)] maxLocals)) t := fun t k => pre73 t (by rw [hre74]; exact k)
        obtain ⟨cq75, kq75, q75a, q75b, q75c⟩ := isOf hZ hh72 (E_b1_68)
        obtain ⟨_, _, ⟨T75, L75, k75, n75⟩, -, X75, ⟨Lc75, hQ75, l75, y75, z75⟩, st75⟩ := X72.virtualBack hx (y := (⟨"com/example/lean_layers/leanlayers/phase/layering/IndexedHeap", "first", "()I"⟩ : MethodName)) (z := (⟨"com/example/lean_layers/leanlayers/phase/layering/IndexedHeap", "first", "()I"⟩ : MethodName)) hown (mvT hZ (hw _ (List.mem_of_getElem? (i := 50) rfl))) (mvT hZ (hw _ (List.mem_of_getElem? (i := 51) rfl))) (notFace_of_selects (args := #[]) (mvT hZ (hw _ (List.mem_of_getElem? (i := 53) rfl)))) (mvT hZ (hw _ (List.mem_of_getElem? (i := 53) rfl))) (mvT hZ (hw _ (List.mem_of_getElem? (i := 52) rfl))) (by decide) (backOf (W := 0) (rm10 l Z a0 hw [] b1 ti_5 it2_67 n2_67 T67.heap n0 ZZ69 P67_1 P67_0 P67_4 hp71 h471) hZ (hw _ (List.mem_of_getElem? (i := 54) rfl)) (hw _ (List.mem_of_getElem? (i := 2) rfl)) (by decide) (by decide)) q75a q75c (g := (mkF m 124 #[.val (.int p0), .val (.long q1), .second, .val (.long q2), .second, .val (.long q3), .second, .val (.long q4), .second, .val (.ref b1), .val (.int (p0 &&& (3 : Int32))), .val (.int (x11.toInt32)), .val (.int (x12.toInt32)), .val (.int (x13.toInt32)), .val (.int (x14.toInt32)), .unset, .unset, .unset] [(.ref b1)])) rfl (by rw [hml]; rfl) (Steps.refl _) (argsL := []) (rest := []) (lenOf pd_4 rfl) rfl (by show 2 * 0 + _ ≤ _; exact Nat.le_of_eq rfl) (hb hby at_124) (fun _ _ => ⟨rfl, hh72, (by decide : 4 + 0 ≤ _), (by decide : 16 + 0 ≤ _)⟩)
        dsimp only [Pt.U, Pt.locs, Pt.cells, Pt.slots] at X75 l75 y75 z75 st75 hQ75
        subst y75 z75
        obtain ⟨rfl, N75q, hh75⟩ := hQ75
        have N75 := Fr.app N72 N75q
        rw [← l75] at N75
        obtain ⟨cq76, kq76, q76a, q76b, q76c⟩ := isOf hZ hh75 (E_b1_68)
        obtain ⟨_, _, ⟨T76, L76, k76, n76⟩, -, X76, ⟨Lc76, hQ76, l76, y76, z76⟩, st76⟩ := X75.virtualBack hx (y := (⟨"com/example/lean_layers/leanlayers/phase/layering/IndexedHeap", "firstKey", "()J"⟩ : MethodName)) (z := (⟨"com/example/lean_layers/leanlayers/phase/layering/IndexedHeap", "firstKey", "()J"⟩ : MethodName)) hown (mvT hZ (hw _ (List.mem_of_getElem? (i := 55) rfl))) (mvT hZ (hw _ (List.mem_of_getElem? (i := 56) rfl))) (notFace_of_selects (args := #[]) (mvT hZ (hw _ (List.mem_of_getElem? (i := 58) rfl)))) (mvT hZ (hw _ (List.mem_of_getElem? (i := 58) rfl))) (mvT hZ (hw _ (List.mem_of_getElem? (i := 57) rfl))) (by decide) (backOf (W := 0) (rm11 l Z a0 hw [] b1 ti_5 tk_5 (own_uk (own_uk own_zk x11 q1) x14 q4) it2_67 n2_67 T67.heap n0 ZZ69 P67_1 P67_2 E_b1_68 P67_0 P67_4 P67_5 hp71 h471 (by rw [hf71]; exact hx14)) hZ (hw _ (List.mem_of_getElem? (i := 59) rfl)) (hw _ (List.mem_of_getElem? (i := 2) rfl)) (by decide) (by decide)) q76a q76c (g := (mkF m 131 #[.val (.int p0), .val (.long q1), .second, .val (.long q2), .second, .val (.long q3), .second, .val (.long q4), .second, .val (.ref b1), .val (.int (p0 &&& (3 : Int32))), .val (.int (x11.toInt32)), .val (.int (x12.toInt32)), .val (.int (x13.toInt32)), .val (.int (x14.toInt32)), .val (.int ((it2_67 0).toInt32)), .unset, .unset] [(.ref b1)])) rfl (by rw [hml]; rfl) (Steps.refl _) (argsL := []) (rest := []) (lenOf pd_8 rfl) rfl (by show 2 * 0 + _ ≤ _; exact Nat.le_of_eq rfl) (hb hby at_131) (fun _ _ => ⟨rfl, hh75, (by decide : 4 + 0 ≤ _), (by decide : 16 + 0 ≤ _)⟩)
        dsimp only [Pt.U, Pt.locs, Pt.cells, Pt.slots] at X76 l76 y76 z76 st76 hQ76
        subst y76 z76
        obtain ⟨rfl, N76q, hh76⟩ := hQ76
        have N76 := Fr.app N75 N76q
        rw [← l76] at N76
        have pre77 : ∀ t, Steps p.tables e below (T76.setTop (mkF m 136 #[.val (.int p0), .val (.long q1), .second, .val (.long q2), .second, .val (.long q3), .second, .val (.long q4), .second, .val (.ref b1), .val (.int (p0 &&& (3 : Int32))), .val (.int (x11.toInt32)), .val (.int (x12.toInt32)), .val (.int (x13.toInt32)), .val (.int (x14.toInt32)), .val (.int ((it2_67 0).toInt32)), .val (.long ((own_uk (own_uk own_zk x11 q1) x14 q4) (it2_67 0))), .second] [])) t → Steps p.tables e below (s₁.setTop (entryFrame m #[(.int p0), (.long q1), (.long q2), (.long q3), (.long q4)] maxLocals)) t := fun t k => pre74 t (by
          show Steps p.tables e below (T72.setTop (mkF m 117 #[.val (.int p0), .val (.long q1), .second, .val (.long q2), .second, .val (.long q3), .second, .val (.long q4), .second, .val (.ref b1), .val (.int (p0 &&& (3 : Int32))), .val (.int (x11.toInt32)), .val (.int (x12.toInt32)), .val (.int (x13.toInt32)), .val (.int (x14.toInt32)), .unset, .unset, .unset] [(.int (0 : Int32))])) _
          refine XS.ifYes X72.here hx rfl (pc0 := 117) (pc' := 122) rfl (hb hby at_117) rfl ((if0 _ _).trans (teq (show (0 : Int32) = (0 : Int32) by decide)).1) (by decide) (by decide) ?_
          show Steps p.tables e below (T72.setTop (mkF m 122 #[.val (.int p0), .val (.long q1), .second, .val (.long q2), .second, .val (.long q3), .second, .val (.long q4), .second, .val (.ref b1), .val (.int (p0 &&& (3 : Int32))), .val (.int (x11.toInt32)), .val (.int (x12.toInt32)), .val (.int (x13.toInt32)), .val (.int (x14.toInt32)), .unset, .unset, .unset] [])) _
          refine XS.aload X72.here hx rfl (hb hby at_122) rfl rfl ?_
          show Steps p.tables e below (T72.setTop (mkF m 124 #[.val (.int p0), .val (.long q1), .second, .val (.long q2), .second, .val (.long q3), .second, .val (.long q4), .second, .val (.ref b1), .val (.int (p0 &&& (3 : Int32))), .val (.int (x11.toInt32)), .val (.int (x12.toInt32)), .val (.int (x13.toInt32)), .val (.int (x14.toInt32)), .unset, .unset, .unset] [(.ref b1)])) _
          refine st75.trans ?_
          show Steps p.tables e below (T75.setTop (mkF m 127 #[.val (.int p0), .val (.long q1), .second, .val (.long q2), .second, .val (.long q3), .second, .val (.long q4), .second, .val (.ref b1), .val (.int (p0 &&& (3 : Int32))), .val (.int (x11.toInt32)), .val (.int (x12.toInt32)), .val (.int (x13.toInt32)), .val (.int (x14.toInt32)), .unset, .unset, .unset] [(.int ((it2_67 0).toInt32))])) _
          refine XS.istore X75.here hx rfl (hb hby at_127) rfl (l' := #[.val (.int p0), .val (.long q1), .second, .val (.long q2), .second, .val (.long q3), .second, .val (.long q4), .second, .val (.ref b1), .val (.int (p0 &&& (3 : Int32))), .val (.int (x11.toInt32)), .val (.int (x12.toInt32)), .val (.int (x13.toInt32)), .val (.int (x14.toInt32)), .val (.int ((it2_67 0).toInt32)), .unset, .unset]) rfl ?_
          show Steps p.tables e below (T75.setTop (mkF m 129 #[.val (.int p0), .val (.long q1), .second, .val (.long q2), .second, .val (.long q3), .second, .val (.long q4), .second, .val (.ref b1), .val (.int (p0 &&& (3 : Int32))), .val (.int (x11.toInt32)), .val (.int (x12.toInt32)), .val (.int (x13.toInt32)), .val (.int (x14.toInt32)), .val (.int ((it2_67 0).toInt32)), .unset, .unset] [])) _
          refine XS.aload X75.here hx rfl (hb hby at_129) rfl rfl ?_
          show Steps p.tables e below (T75.setTop (mkF m 131 #[.val (.int p0), .val (.long q1), .second, .val (.long q2), .second, .val (.long q3), .second, .val (.long q4), .second, .val (.ref b1), .val (.int (p0 &&& (3 : Int32))), .val (.int (x11.toInt32)), .val (.int (x12.toInt32)), .val (.int (x13.toInt32)), .val (.int (x14.toInt32)), .val (.int ((it2_67 0).toInt32)), .unset, .unset] [(.ref b1)])) _
          refine st76.trans ?_
          show Steps p.tables e below (T76.setTop (mkF m 134 #[.val (.int p0), .val (.long q1), .second, .val (.long q2), .second, .val (.long q3), .second, .val (.long q4), .second, .val (.ref b1), .val (.int (p0 &&& (3 : Int32))), .val (.int (x11.toInt32)), .val (.int (x12.toInt32)), .val (.int (x13.toInt32)), .val (.int (x14.toInt32)), .val (.int ((it2_67 0).toInt32)), .unset, .unset] [(.long ((own_uk (own_uk own_zk x11 q1) x14 q4) (it2_67 0)))])) _
          refine XS.lstore X76.here hx rfl (hb hby at_134) rfl (l' := #[.val (.int p0), .val (.long q1), .second, .val (.long q2), .second, .val (.long q3), .second, .val (.long q4), .second, .val (.ref b1), .val (.int (p0 &&& (3 : Int32))), .val (.int (x11.toInt32)), .val (.int (x12.toInt32)), .val (.int (x13.toInt32)), .val (.int (x14.toInt32)), .val (.int ((it2_67 0).toInt32)), .val (.long ((own_uk (own_uk own_zk x11 q1) x14 q4) (it2_67 0))), .second]) rfl ?_
          show Steps p.tables e below (T76.setTop (mkF m 136 #[.val (.int p0), .val (.long q1), .second, .val (.long q2), .second, .val (.long q3), .second, .val (.long q4), .second, .val (.ref b1), .val (.int (p0 &&& (3 : Int32))), .val (.int (x11.toInt32)), .val (.int (x12.toInt32)), .val (.int (x13.toInt32)), .val (.int (x14.toInt32)), .val (.int ((it2_67 0).toInt32)), .val (.long ((own_uk (own_uk own_zk x11 q1) x14 q4) (it2_67 0))), .second] [])) _
          exact k)
        have hre78 : ((it2_67 0).toInt32) = (x14.toInt32) := by rw [hf71]
        have pre78 : ∀ t, Steps p.tables e below (T76.setTop (mkF m 136 #[.val (.int p0), .val (.long q1), .second, .val (.long q2), .second, .val (.long q3), .second, .val (.long q4), .second, .val (.ref b1), .val (.int (p0 &&& (3 : Int32))), .val (.int (x11.toInt32)), .val (.int (x12.toInt32)), .val (.int (x13.toInt32)), .val (.int (x14.toInt32)), .val (.int (x14.toInt32)), .val (.long ((own_uk (own_uk own_zk x11 q1) x14 q4) (it2_67 0))), .second] [])) t → Steps p.tables e below (s₁.setTop (entryFrame m #[(.int p0), (.long q1), (.long q2), (.long q3), (.long q4)] maxLocals)) t := fun t k => pre77 t (by rw [hre78]; exact k)
        have pre79 : ∀ t, Steps p.tables e below (T76.setTop (mkF m 136 #[.val (.int p0), .val (.long q1), .second, .val (.long q2), .second, .val (.long q3), .second, .val (.long q4), .second, .val (.ref b1), .val (.int (p0 &&& (3 : Int32))), .val (.int (x11.toInt32)), .val (.int (x12.toInt32)), .val (.int (x13.toInt32)), .val (.int (x14.toInt32)), .val (.int (x14.toInt32)), .val (.long ((own_uk (own_uk own_zk x11 q1) x14 q4) (it2_67 0))), .second] [])) t → Steps p.tables e below (s₁.setTop (entryFrame m #[(.int p0), (.long q1), (.long q2), (.long q3), (.long q4)] maxLocals)) t := fun t k => pre78 t (by
          show Steps p.tables e below (T76.setTop (mkF m 136 #[.val (.int p0), .val (.long q1), .second, .val (.long q2), .second, .val (.long q3), .second, .val (.long q4), .second, .val (.ref b1), .val (.int (p0 &&& (3 : Int32))), .val (.int (x11.toInt32)), .val (.int (x12.toInt32)), .val (.int (x13.toInt32)), .val (.int (x14.toInt32)), .val (.int (x14.toInt32)), .val (.long ((own_uk (own_uk own_zk x11 q1) x14 q4) (it2_67 0))), .second] [])) _
          exact k)
        have hre80 : ((own_uk (own_uk own_zk x11 q1) x14 q4) (it2_67 0)) = q4 := by rw [hf71]; exact own_uk_same _ _ _
        have pre80 : ∀ t, Steps p.tables e below (T76.setTop (mkF m 136 #[.val (.int p0), .val (.long q1), .second, .val (.long q2), .second, .val (.long q3), .second, .val (.long q4), .second, .val (.ref b1), .val (.int (p0 &&& (3 : Int32))), .val (.int (x11.toInt32)), .val (.int (x12.toInt32)), .val (.int (x13.toInt32)), .val (.int (x14.toInt32)), .val (.int (x14.toInt32)), .val (.long q4), .second] [])) t → Steps p.tables e below (s₁.setTop (entryFrame m #[(.int p0), (.long q1), (.long q2), (.long q3), (.long q4)] maxLocals)) t := fun t k => pre79 t (by rw [hre80]; exact k)
        obtain ⟨cq81, kq81, q81a, q81b, q81c⟩ := isOf hZ hh76 (E_b1_68)
        obtain ⟨_, _, ⟨T81, L81, k81, n81⟩, -, X81, ⟨Lc81, hQ81, l81, y81, z81⟩, st81⟩ := X76.virtualBack hx (y := (⟨"com/example/lean_layers/leanlayers/phase/layering/IndexedHeap", "remove", "(I)V"⟩ : MethodName)) (z := (⟨"com/example/lean_layers/leanlayers/phase/layering/IndexedHeap", "remove", "(I)V"⟩ : MethodName)) hown (mvT hZ (hw _ (List.mem_of_getElem? (i := 61) rfl))) (mvT hZ (hw _ (List.mem_of_getElem? (i := 62) rfl))) (notFace_of_selects (args := #[]) (mvT hZ (hw _ (List.mem_of_getElem? (i := 64) rfl)))) (mvT hZ (hw _ (List.mem_of_getElem? (i := 64) rfl))) (mvT hZ (hw _ (List.mem_of_getElem? (i := 63) rfl))) (by decide) (backOf (W := 0) (rm12 l Z a0 hw [] b1 (x14.toInt32) ti_5 tk_5 tp_5 (own_uk (own_uk own_zk x11 q1) x14 q4) it2_67 pl2_67 n2_67 x14 T67.heap n0 ZZ69 P67_1 P67_2 P67_3 E_b1_68 P67_0 P67_4 P67_5 P67_6 g_ti_5 g_tp_5 g_b1 ne_b1_ti_5 ne_b1_tk_5 ne_b1_tp_5 ne_ti_tk_5 ne_ti_tp_5 ne_tk_tp_5 rfl hx14 P67_7) hZ (hw _ (List.mem_of_getElem? (i := 65) rfl)) (hw _ (List.mem_of_getElem? (i := 2) rfl)) (by decide) (by decide)) q81a q81c (g := (mkF m 140 #[.val (.int p0), .val (.long q1), .second, .val (.long q2), .second, .val (.long q3), .second, .val (.long q4), .second, .val (.ref b1), .val (.int (p0 &&& (3 : Int32))), .val (.int (x11.toInt32)), .val (.int (x12.toInt32)), .val (.int (x13.toInt32)), .val (.int (x14.toInt32)), .val (.int (x14.toInt32)), .val (.long q4), .second] [(.int (x14.toInt32)), (.ref b1)])) rfl (by rw [hml]; rfl) (Steps.refl _) (argsL := [(.int (x14.toInt32))]) (rest := []) (lenOf pd_3 rfl) rfl (by show 2 * 0 + _ ≤ _; exact Nat.le_of_eq rfl) (hb hby at_140) (fun _ _ => ⟨rfl, hh76, (by decide : 4 + 0 ≤ _), (by decide : 16 + 0 ≤ _)⟩)
        dsimp only [Pt.U, Pt.locs, Pt.cells, Pt.slots] at X81 l81 y81 z81 st81 hQ81
        subst y81 z81
        obtain ⟨n2_81, it2_81, pl2_81, rfl, N81q, Kc81, P81_0, P81_1, P81_2, P81_3, P81_4, P81_5, P81_6, P81_7⟩ := hQ81
        have N81 := Fr.app N76 N81q
        rw [← l81] at N81
        have E_b1_82 : Exa Z T81.heap b1 "com/example/lean_layers/leanlayers/phase/layering/IndexedHeap" := (E_b1_68).keep Kc81
        have A_tk_5_82 : own_A Z T81.heap tk_5 .long 4 (fun kk => (.long ((own_uk (own_uk own_zk x11 q1) x14 q4) kk))) := (P67_5).keep Kc81 (ninS (Ne.symm ne_ti_tk_5) (ninS ne_tk_tp_5 (ninS (Ne.symm ne_b1_tk_5) nin0)))
        have SZ83 : h0.size ≤ T81.heap.size := Nat.le_trans SZ69 Kc81.1
        have ZZ83 : n0 ≤ T81.heap.size := Nat.le_trans Z0 SZ83
        have K84 : Keep h0 T81.heap [] := (K70).trans Kc81 (allS (Or.inr szz_ti_5) (allS (Or.inr szz_tp_5) (allS (Or.inr sz_b1) all0)))
        obtain ⟨cq85, kq85, q85a, q85b, q85c⟩ := isOf hZ rfl (E_b1_82)
        obtain ⟨_, _, ⟨T85, L85, k85, n85⟩, -, X85, ⟨Lc85, hQ85, l85, y85, z85⟩, st85⟩ := X81.virtualBack hx (y := (⟨"com/example/lean_layers/leanlayers/phase/layering/IndexedHeap", "isEmpty", "()Z"⟩ : MethodName)) (z := (⟨"com/example/lean_layers/leanlayers/phase/layering/IndexedHeap", "isEmpty", "()Z"⟩ : MethodName)) hown (mvT hZ (hw _ (List.mem_of_getElem? (i := 28) rfl))) (mvT hZ (hw _ (List.mem_of_getElem? (i := 29) rfl))) (notFace_of_selects (args := #[]) (mvT hZ (hw _ (List.mem_of_getElem? (i := 31) rfl)))) (mvT hZ (hw _ (List.mem_of_getElem? (i := 31) rfl))) (mvT hZ (hw _ (List.mem_of_getElem? (i := 30) rfl))) (by decide) (backOf (W := 0) (rm5 l Z a0 hw [] b1 (n2_81.toInt32) T81.heap n0 ZZ83 P81_0) hZ (hw _ (List.mem_of_getElem? (i := 32) rfl)) (hw _ (List.mem_of_getElem? (i := 2) rfl)) (by decide) (by decide)) q85a q85c (g := (mkF m 160 #[.val (.int p0), .val (.long q1), .second, .val (.long q2), .second, .val (.long q3), .second, .val (.long q4), .second, .val (.ref b1), .val (.int (p0 &&& (3 : Int32))), .val (.int (x11.toInt32)), .val (.int (x12.toInt32)), .val (.int (x13.toInt32)), .val (.int (x14.toInt32)), .val (.int (x14.toInt32)), .val (.long q4), .second] [(.ref b1)])) rfl (by rw [hml]; rfl) (Steps.refl _) (argsL := []) (rest := []) (lenOf pd_6 rfl) rfl (by show 2 * 0 + _ ≤ _; exact Nat.le_of_eq rfl) (hb hby at_160) (fun _ _ => ⟨rfl, rfl, (by decide : 4 + 0 ≤ _), (by decide : 16 + 0 ≤ _)⟩)
        dsimp only [Pt.U, Pt.locs, Pt.cells, Pt.slots] at X85 l85 y85 z85 st85 hQ85
        subst y85 z85
        obtain ⟨rfl, N85q, hh85⟩ := hQ85
        have N85 := Fr.app N81 N85q
        rw [← l85] at N85
        have pre86 : ∀ t, Steps p.tables e below (T85.setTop (mkF m 163 #[.val (.int p0), .val (.long q1), .second, .val (.long q2), .second, .val (.long q3), .second, .val (.long q4), .second, .val (.ref b1), .val (.int (p0 &&& (3 : Int32))), .val (.int (x11.toInt32)), .val (.int (x12.toInt32)), .val (.int (x13.toInt32)), .val (.int (x14.toInt32)), .val (.int (x14.toInt32)), .val (.long q4), .second] [(.int ((f5_12 (n2_81.toInt32)) &&& 1))])) t → Steps p.tables e below (s₁.setTop (entryFrame m #[(.int p0), (.long q1), (.long q2), (.long q3), (.long q4)] maxLocals)) t := fun t k => pre80 t (by
          show Steps p.tables e below (T76.setTop (mkF m 136 #[.val (.int p0), .val (.long q1), .second, .val (.long q2), .second, .val (.long q3), .second, .val (.long q4), .second, .val (.ref b1), .val (.int (p0 &&& (3 : Int32))), .val (.int (x11.toInt32)), .val (.int (x12.toInt32)), .val (.int (x13.toInt32)), .val (.int (x14.toInt32)), .val (.int (x14.toInt32)), .val (.long q4), .second] [])) _
          refine XS.aload X76.here hx rfl (hb hby at_136) rfl rfl ?_
          show Steps p.tables e below (T76.setTop (mkF m 138 #[.val (.int p0), .val (.long q1), .second, .val (.long q2), .second, .val (.long q3), .second, .val (.long q4), .second, .val (.ref b1), .val (.int (p0 &&& (3 : Int32))), .val (.int (x11.toInt32)), .val (.int (x12.toInt32)), .val (.int (x13.toInt32)), .val (.int (x14.toInt32)), .val (.int (x14.toInt32)), .val (.long q4), .second] [(.ref b1)])) _
          refine XS.iload X76.here hx rfl (hb hby at_138) rfl ?_
          show Steps p.tables e below (T76.setTop (mkF m 140 #[.val (.int p0), .val (.long q1), .second, .val (.long q2), .second, .val (.long q3), .second, .val (.long q4), .second, .val (.ref b1), .val (.int (p0 &&& (3 : Int32))), .val (.int (x11.toInt32)), .val (.int (x12.toInt32)), .val (.int (x13.toInt32)), .val (.int (x14.toInt32)), .val (.int (x14.toInt32)), .val (.long q4), .second] [(.int (x14.toInt32)), (.ref b1)])) _
          refine st81.trans ?_
          show Steps p.tables e below (T81.setTop (mkF m 143 #[.val (.int p0), .val (.long q1), .second, .val (.long q2), .second, .val (.long q3), .second, .val (.long q4), .second, .val (.ref b1), .val (.int (p0 &&& (3 : Int32))), .val (.int (x11.toInt32)), .val (.int (x12.toInt32)), .val (.int (x13.toInt32)), .val (.int (x14.toInt32)), .val (.int (x14.toInt32)), .val (.long q4), .second] [])) _
          refine XS.iload X81.here hx rfl (hb hby at_143) rfl ?_
          show Steps p.tables e below (T81.setTop (mkF m 145 #[.val (.int p0), .val (.long q1), .second, .val (.long q2), .second, .val (.long q3), .second, .val (.long q4), .second, .val (.ref b1), .val (.int (p0 &&& (3 : Int32))), .val (.int (x11.toInt32)), .val (.int (x12.toInt32)), .val (.int (x13.toInt32)), .val (.int (x14.toInt32)), .val (.int (x14.toInt32)), .val (.long q4), .second] [(.int (x14.toInt32))])) _
          refine XS.iload X81.here hx rfl (hb hby at_145) rfl ?_
          show Steps p.tables e below (T81.setTop (mkF m 147 #[.val (.int p0), .val (.long q1), .second, .val (.long q2), .second, .val (.long q3), .second, .val (.long q4), .second, .val (.ref b1), .val (.int (p0 &&& (3 : Int32))), .val (.int (x11.toInt32)), .val (.int (x12.toInt32)), .val (.int (x13.toInt32)), .val (.int (x14.toInt32)), .val (.int (x14.toInt32)), .val (.long q4), .second] [(.int (x14.toInt32)), (.int (x14.toInt32))])) _
          refine XS.icmpNo X81.here hx rfl (hb hby at_147) rfl (teq rfl).2 ?_
          show Steps p.tables e below (T81.setTop (mkF m 150 #[.val (.int p0), .val (.long q1), .second, .val (.long q2), .second, .val (.long q3), .second, .val (.long q4), .second, .val (.ref b1), .val (.int (p0 &&& (3 : Int32))), .val (.int (x11.toInt32)), .val (.int (x12.toInt32)), .val (.int (x13.toInt32)), .val (.int (x14.toInt32)), .val (.int (x14.toInt32)), .val (.long q4), .second] [])) _
          refine XS.lload X81.here hx rfl (hb hby at_150) rfl ?_
          show Steps p.tables e below (T81.setTop (mkF m 152 #[.val (.int p0), .val (.long q1), .second, .val (.long q2), .second, .val (.long q3), .second, .val (.long q4), .second, .val (.ref b1), .val (.int (p0 &&& (3 : Int32))), .val (.int (x11.toInt32)), .val (.int (x12.toInt32)), .val (.int (x13.toInt32)), .val (.int (x14.toInt32)), .val (.int (x14.toInt32)), .val (.long q4), .second] [(.long q4)])) _
          refine XS.lload X81.here hx rfl (hb hby at_152) rfl ?_
          show Steps p.tables e below (T81.setTop (mkF m 154 #[.val (.int p0), .val (.long q1), .second, .val (.long q2), .second, .val (.long q3), .second, .val (.long q4), .second, .val (.ref b1), .val (.int (p0 &&& (3 : Int32))), .val (.int (x11.toInt32)), .val (.int (x12.toInt32)), .val (.int (x13.toInt32)), .val (.int (x14.toInt32)), .val (.int (x14.toInt32)), .val (.long q4), .second] [(.long q4), (.long q4)])) _
          refine XS.lcmp X81.here hx rfl (hb hby at_154) rfl ?_
          show Steps p.tables e below (T81.setTop (mkF m 155 #[.val (.int p0), .val (.long q1), .second, .val (.long q2), .second, .val (.long q3), .second, .val (.long q4), .second, .val (.ref b1), .val (.int (p0 &&& (3 : Int32))), .val (.int (x11.toInt32)), .val (.int (x12.toInt32)), .val (.int (x13.toInt32)), .val (.int (x14.toInt32)), .val (.int (x14.toInt32)), .val (.long q4), .second] [(.int (lcmpW q4 q4))])) _
          refine XS.ifNo X81.here hx rfl (hb hby at_155) rfl (own_eqL rfl).2 ?_
          show Steps p.tables e below (T81.setTop (mkF m 158 #[.val (.int p0), .val (.long q1), .second, .val (.long q2), .second, .val (.long q3), .second, .val (.long q4), .second, .val (.ref b1), .val (.int (p0 &&& (3 : Int32))), .val (.int (x11.toInt32)), .val (.int (x12.toInt32)), .val (.int (x13.toInt32)), .val (.int (x14.toInt32)), .val (.int (x14.toInt32)), .val (.long q4), .second] [])) _
          refine XS.aload X81.here hx rfl (hb hby at_158) rfl rfl ?_
          show Steps p.tables e below (T81.setTop (mkF m 160 #[.val (.int p0), .val (.long q1), .second, .val (.long q2), .second, .val (.long q3), .second, .val (.long q4), .second, .val (.ref b1), .val (.int (p0 &&& (3 : Int32))), .val (.int (x11.toInt32)), .val (.int (x12.toInt32)), .val (.int (x13.toInt32)), .val (.int (x14.toInt32)), .val (.int (x14.toInt32)), .val (.long q4), .second] [(.ref b1)])) _
          refine st85.trans ?_
          show Steps p.tables e below (T85.setTop (mkF m 163 #[.val (.int p0), .val (.long q1), .second, .val (.long q2), .second, .val (.long q3), .second, .val (.long q4), .second, .val (.ref b1), .val (.int (p0 &&& (3 : Int32))), .val (.int (x11.toInt32)), .val (.int (x12.toInt32)), .val (.int (x13.toInt32)), .val (.int (x14.toInt32)), .val (.int (x14.toInt32)), .val (.long q4), .second] [(.int ((f5_12 (n2_81.toInt32)) &&& 1))])) _
          exact k)
        have hre87 : ((f5_12 (n2_81.toInt32)) &&& 1) = (1 : Int32) := own_ie0 ((own_IV_n0 P81_6 (by decide)).mpr fun y hy => (P81_7 y hy).mpr (Classical.byCases (fun q : y = x14 => Or.inl q) (fun q => Or.inr ((P67_8 y hy).mpr ⟨q, P60_5 y hy⟩))))
        have pre87 : ∀ t, Steps p.tables e below (T85.setTop (mkF m 163 #[.val (.int p0), .val (.long q1), .second, .val (.long q2), .second, .val (.long q3), .second, .val (.long q4), .second, .val (.ref b1), .val (.int (p0 &&& (3 : Int32))), .val (.int (x11.toInt32)), .val (.int (x12.toInt32)), .val (.int (x13.toInt32)), .val (.int (x14.toInt32)), .val (.int (x14.toInt32)), .val (.long q4), .second] [(.int (1 : Int32))])) t → Steps p.tables e below (s₁.setTop (entryFrame m #[(.int p0), (.long q1), (.long q2), (.long q3), (.long q4)] maxLocals)) t := fun t k => pre86 t (by rw [hre87]; exact k)
        have pre88 : ∀ t, Steps p.tables e below (T85.setTop (mkF m 171 #[.val (.int p0), .val (.long q1), .second, .val (.long q2), .second, .val (.long q3), .second, .val (.long q4), .second, .val (.ref b1), .val (.int (p0 &&& (3 : Int32))), .val (.int (x11.toInt32)), .val (.int (x12.toInt32)), .val (.int (x13.toInt32)), .val (.int (x14.toInt32)), .val (.int (x14.toInt32)), .val (.long q4), .second] [(.int (1 : Int32))])) t → Steps p.tables e below (s₁.setTop (entryFrame m #[(.int p0), (.long q1), (.long q2), (.long q3), (.long q4)] maxLocals)) t := fun t k => pre87 t (by
          show Steps p.tables e below (T85.setTop (mkF m 163 #[.val (.int p0), .val (.long q1), .second, .val (.long q2), .second, .val (.long q3), .second, .val (.long q4), .second, .val (.ref b1), .val (.int (p0 &&& (3 : Int32))), .val (.int (x11.toInt32)), .val (.int (x12.toInt32)), .val (.int (x13.toInt32)), .val (.int (x14.toInt32)), .val (.int (x14.toInt32)), .val (.long q4), .second] [(.int (1 : Int32))])) _
          refine XS.ifNo X85.here hx rfl (hb hby at_163) rfl ((if0 _ _).trans (feq (show ¬ ((1 : Int32) = (0 : Int32)) by decide)).1) ?_
          show Steps p.tables e below (T85.setTop (mkF m 166 #[.val (.int p0), .val (.long q1), .second, .val (.long q2), .second, .val (.long q3), .second, .val (.long q4), .second, .val (.ref b1), .val (.int (p0 &&& (3 : Int32))), .val (.int (x11.toInt32)), .val (.int (x12.toInt32)), .val (.int (x13.toInt32)), .val (.int (x14.toInt32)), .val (.int (x14.toInt32)), .val (.long q4), .second] [])) _
          refine XS.iconst X85.here hx rfl (hb hby at_166) ?_
          show Steps p.tables e below (T85.setTop (mkF m 167 #[.val (.int p0), .val (.long q1), .second, .val (.long q2), .second, .val (.long q3), .second, .val (.long q4), .second, .val (.ref b1), .val (.int (p0 &&& (3 : Int32))), .val (.int (x11.toInt32)), .val (.int (x12.toInt32)), .val (.int (x13.toInt32)), .val (.int (x14.toInt32)), .val (.int (x14.toInt32)), .val (.long q4), .second] [(.int (1 : Int32))])) _
          refine XS.goto X85.here hx rfl (pc0 := 167) (pc' := 171) rfl (hb hby at_167) (by decide) (by decide) ?_
          show Steps p.tables e below (T85.setTop (mkF m 171 #[.val (.int p0), .val (.long q1), .second, .val (.long q2), .second, .val (.long q3), .second, .val (.long q4), .second, .val (.ref b1), .val (.int (p0 &&& (3 : Int32))), .val (.int (x11.toInt32)), .val (.int (x12.toInt32)), .val (.int (x13.toInt32)), .val (.int (x14.toInt32)), .val (.int (x14.toInt32)), .val (.long q4), .second] [(.int (1 : Int32))])) _
          exact k)
        obtain ⟨fs, hr, hrun, hended, hW, hsame⟩ := X85.leave (v := some (.int (1 : Int32))) (fun h => by rw [Bd.returns] at h; cases h)
        refine ⟨_, _, pre88 _ ?_, hrun, hended, _, _, rfl, ?_, ⟨_, rfl⟩, hW, hsame.mono (by decide) (by decide)⟩
        · exact retN X85 hx (t := .boolean) Bd.returns (by simp) (hb hby at_171) hr
        · show Q0 Z p0 q1 q2 q3 q4 h0 n0 _ T85.heap _
          rw [hh85]
          exact ⟨rfl, N85⟩
      · exact absurd (own_m23 hs57) hs59
    · obtain ⟨cq89, kq89, q89a, q89b, q89c⟩ := isOf hZ rfl (E_b1_53)
      obtain ⟨_, _, ⟨T89, L89, k89, n89⟩, -, X89, ⟨Lc89, hQ89, l89, y89, z89⟩, st89⟩ := X52.virtualBack hx (y := (⟨"com/example/lean_layers/leanlayers/phase/layering/IndexedHeap", "put", "(IJ)V"⟩ : MethodName)) (z := (⟨"com/example/lean_layers/leanlayers/phase/layering/IndexedHeap", "put", "(IJ)V"⟩ : MethodName)) hown (mvT hZ (hw _ (List.mem_of_getElem? (i := 33) rfl))) (mvT hZ (hw _ (List.mem_of_getElem? (i := 34) rfl))) (notFace_of_selects (args := #[]) (mvT hZ (hw _ (List.mem_of_getElem? (i := 36) rfl)))) (mvT hZ (hw _ (List.mem_of_getElem? (i := 36) rfl))) (mvT hZ (hw _ (List.mem_of_getElem? (i := 35) rfl))) (by decide) (backOf (W := 0) (rm6 l Z a0 hw [] b1 (x12.toInt32) q2 ti_5 tk_5 tp_5 (own_uk own_zk x11 q1) it2_52 pl2_52 n2_52 x12 T52.heap n0 ZZ54 P52_1 P52_2 P52_3 E_b1_53 P52_0 P52_4 P52_5 P52_6 g_ti_5 g_tk_5 g_tp_5 g_b1 ne_b1_ti_5 ne_b1_tk_5 ne_b1_tp_5 ne_ti_tk_5 ne_ti_tp_5 ne_tk_tp_5 rfl hx12 P52_7) hZ (hw _ (List.mem_of_getElem? (i := 37) rfl)) (hw _ (List.mem_of_getElem? (i := 2) rfl)) (by decide) (by decide)) q89a q89c (g := (mkF m 70 #[.val (.int p0), .val (.long q1), .second, .val (.long q2), .second, .val (.long q3), .second, .val (.long q4), .second, .val (.ref b1), .val (.int (p0 &&& (3 : Int32))), .val (.int (x11.toInt32)), .val (.int (x12.toInt32)), .val (.int (x13.toInt32)), .val (.int (x14.toInt32)), .unset, .unset, .unset] [(.long q2), (.int (x12.toInt32)), (.ref b1)])) rfl (by rw [hml]; rfl) (Steps.refl _) (argsL := [(.int (x12.toInt32)), (.long q2)]) (rest := []) (lenOf pd_7 rfl) rfl (by show 2 * 0 + _ ≤ _; exact Nat.le_of_eq rfl) (hb hby at_70) (fun _ _ => ⟨rfl, rfl, (by decide : 4 + 0 ≤ _), (by decide : 16 + 0 ≤ _)⟩)
      dsimp only [Pt.U, Pt.locs, Pt.cells, Pt.slots] at X89 l89 y89 z89 st89 hQ89
      subst y89 z89
      obtain ⟨n2_89, it2_89, pl2_89, rfl, N89q, Kc89, P89_0, P89_1, P89_2, P89_3, P89_4, P89_5, P89_6, P89_7, P89_8⟩ := hQ89
      have N89 := Fr.app N52 N89q
      rw [← l89] at N89
      have E_b1_90 : Exa Z T89.heap b1 "com/example/lean_layers/leanlayers/phase/layering/IndexedHeap" := (E_b1_53).keep Kc89
      have SZ91 : h0.size ≤ T89.heap.size := Nat.le_trans SZ54 Kc89.1
      have ZZ91 : n0 ≤ T89.heap.size := Nat.le_trans Z0 SZ91
      have K92 : Keep h0 T89.heap [] := (K55).trans Kc89 (allS (Or.inr szz_ti_5) (allS (Or.inr szz_tk_5) (allS (Or.inr szz_tp_5) (allS (Or.inr sz_b1) all0))))
      have pre93 : ∀ t, Steps p.tables e below (T89.setTop (mkF m 76 #[.val (.int p0), .val (.long q1), .second, .val (.long q2), .second, .val (.long q3), .second, .val (.long q4), .second, .val (.ref b1), .val (.int (p0 &&& (3 : Int32))), .val (.int (x11.toInt32)), .val (.int (x12.toInt32)), .val (.int (x13.toInt32)), .val (.int (x14.toInt32)), .unset, .unset, .unset] [(.int (3 : Int32)), (.int (p0 &&& (3 : Int32)))])) t → Steps p.tables e below (s₁.setTop (entryFrame m #[(.int p0), (.long q1), (.long q2), (.long q3), (.long q4)] maxLocals)) t := fun t k => pre56 t (by
        refine XS.icmpNo X52.here hx rfl (hb hby at_62) rfl (flt hs57).1 ?_
        show Steps p.tables e below (T52.setTop (mkF m 65 #[.val (.int p0), .val (.long q1), .second, .val (.long q2), .second, .val (.long q3), .second, .val (.long q4), .second, .val (.ref b1), .val (.int (p0 &&& (3 : Int32))), .val (.int (x11.toInt32)), .val (.int (x12.toInt32)), .val (.int (x13.toInt32)), .val (.int (x14.toInt32)), .unset, .unset, .unset] [])) _
        refine XS.aload X52.here hx rfl (hb hby at_65) rfl rfl ?_
        show Steps p.tables e below (T52.setTop (mkF m 67 #[.val (.int p0), .val (.long q1), .second, .val (.long q2), .second, .val (.long q3), .second, .val (.long q4), .second, .val (.ref b1), .val (.int (p0 &&& (3 : Int32))), .val (.int (x11.toInt32)), .val (.int (x12.toInt32)), .val (.int (x13.toInt32)), .val (.int (x14.toInt32)), .unset, .unset, .unset] [(.ref b1)])) _
        refine XS.iload X52.here hx rfl (hb hby at_67) rfl ?_
        show Steps p.tables e below (T52.setTop (mkF m 69 #[.val (.int p0), .val (.long q1), .second, .val (.long q2), .second, .val (.long q3), .second, .val (.long q4), .second, .val (.ref b1), .val (.int (p0 &&& (3 : Int32))), .val (.int (x11.toInt32)), .val (.int (x12.toInt32)), .val (.int (x13.toInt32)), .val (.int (x14.toInt32)), .unset, .unset, .unset] [(.int (x12.toInt32)), (.ref b1)])) _
        refine XS.lloadN X52.here hx rfl (hb hby at_69) rfl ?_
        show Steps p.tables e below (T52.setTop (mkF m 70 #[.val (.int p0), .val (.long q1), .second, .val (.long q2), .second, .val (.long q3), .second, .val (.long q4), .second, .val (.ref b1), .val (.int (p0 &&& (3 : Int32))), .val (.int (x11.toInt32)), .val (.int (x12.toInt32)), .val (.int (x13.toInt32)), .val (.int (x14.toInt32)), .unset, .unset, .unset] [(.long q2), (.int (x12.toInt32)), (.ref b1)])) _
        refine st89.trans ?_
        show Steps p.tables e below (T89.setTop (mkF m 73 #[.val (.int p0), .val (.long q1), .second, .val (.long q2), .second, .val (.long q3), .second, .val (.long q4), .second, .val (.ref b1), .val (.int (p0 &&& (3 : Int32))), .val (.int (x11.toInt32)), .val (.int (x12.toInt32)), .val (.int (x13.toInt32)), .val (.int (x14.toInt32)), .unset, .unset, .unset] [])) _
        refine XS.iload X89.here hx rfl (hb hby at_73) rfl ?_
        show Steps p.tables e below (T89.setTop (mkF m 75 #[.val (.int p0), .val (.long q1), .second, .val (.long q2), .second, .val (.long q3), .second, .val (.long q4), .second, .val (.ref b1), .val (.int (p0 &&& (3 : Int32))), .val (.int (x11.toInt32)), .val (.int (x12.toInt32)), .val (.int (x13.toInt32)), .val (.int (x14.toInt32)), .unset, .unset, .unset] [(.int (p0 &&& (3 : Int32)))])) _
        refine XS.iconst X89.here hx rfl (hb hby at_75) ?_
        show Steps p.tables e below (T89.setTop (mkF m 76 #[.val (.int p0), .val (.long q1), .second, .val (.long q2), .second, .val (.long q3), .second, .val (.long q4), .second, .val (.ref b1), .val (.int (p0 &&& (3 : Int32))), .val (.int (x11.toInt32)), .val (.int (x12.toInt32)), .val (.int (x13.toInt32)), .val (.int (x14.toInt32)), .unset, .unset, .unset] [(.int (3 : Int32)), (.int (p0 &&& (3 : Int32)))])) _
        exact k)
      by_cases hs94 : (p0 &&& (3 : Int32)) < (3 : Int32)
      · obtain ⟨cq95, kq95, q95a, q95b, q95c⟩ := isOf hZ rfl (E_b1_90)
        obtain ⟨_, _, ⟨T95, L95, k95, n95⟩, -, X95, ⟨Lc95, hQ95, l95, y95, z95⟩, st95⟩ := X89.virtualBack hx (y := (⟨"com/example/lean_layers/leanlayers/phase/layering/IndexedHeap", "clear", "()V"⟩ : MethodName)) (z := (⟨"com/example/lean_layers/leanlayers/phase/layering/IndexedHeap", "clear", "()V"⟩ : MethodName)) hown (mvT hZ (hw _ (List.mem_of_getElem? (i := 21) rfl))) (mvT hZ (hw _ (List.mem_of_getElem? (i := 22) rfl))) (notFace_of_selects (args := #[]) (mvT hZ (hw _ (List.mem_of_getElem? (i := 24) rfl)))) (mvT hZ (hw _ (List.mem_of_getElem? (i := 24) rfl))) (mvT hZ (hw _ (List.mem_of_getElem? (i := 23) rfl))) (by decide) (backOf (W := 0) (rm4 l Z a0 hw [] b1 ti_5 tk_5 tp_5 it2_89 pl2_89 n2_89 T89.heap n0 ZZ91 P89_1 P89_2 P89_3 E_b1_90 P89_0 P89_4 P89_6 g_tp_5 g_b1 ne_b1_ti_5 ne_b1_tp_5 ne_ti_tp_5 P89_7) hZ (hw _ (List.mem_of_getElem? (i := 25) rfl)) (hw _ (List.mem_of_getElem? (i := 2) rfl)) (by decide) (by decide)) q95a q95c (g := (mkF m 90 #[.val (.int p0), .val (.long q1), .second, .val (.long q2), .second, .val (.long q3), .second, .val (.long q4), .second, .val (.ref b1), .val (.int (p0 &&& (3 : Int32))), .val (.int (x11.toInt32)), .val (.int (x12.toInt32)), .val (.int (x13.toInt32)), .val (.int (x14.toInt32)), .unset, .unset, .unset] [(.ref b1)])) rfl (by rw [hml]; rfl) (Steps.refl _) (argsL := []) (rest := []) (lenOf pd_5 rfl) rfl (by show 2 * 0 + _ ≤ _; exact Nat.le_of_eq rfl) (hb hby at_90) (fun _ _ => ⟨rfl, rfl, (by decide : 4 + 0 ≤ _), (by decide : 16 + 0 ≤ _)⟩)
        dsimp only [Pt.U, Pt.locs, Pt.cells, Pt.slots] at X95 l95 y95 z95 st95 hQ95
        subst y95 z95
        obtain ⟨pl2_95, rfl, N95q, Kc95, P95_0, P95_1, P95_2, P95_3, P95_4, P95_5⟩ := hQ95
        have N95 := Fr.app N89 N95q
        rw [← l95] at N95
        have E_b1_96 : Exa Z T95.heap b1 "com/example/lean_layers/leanlayers/phase/layering/IndexedHeap" := (E_b1_90).keep Kc95
        have A_ti_5_96 : own_A Z T95.heap ti_5 .int 4 (fun kk => (.int ((it2_89 kk).toInt32))) := (P89_4).keep Kc95 (ninS ne_ti_tp_5 (ninS (Ne.symm ne_b1_ti_5) nin0))
        have A_tk_5_96 : own_A Z T95.heap tk_5 .long 4 (fun kk => (.long ((own_uk (own_uk own_zk x11 q1) x12 q2) kk))) := (P89_5).keep Kc95 (ninS ne_tk_tp_5 (ninS (Ne.symm ne_b1_tk_5) nin0))
        have SZ97 : h0.size ≤ T95.heap.size := Nat.le_trans SZ91 Kc95.1
        have ZZ97 : n0 ≤ T95.heap.size := Nat.le_trans Z0 SZ97
        have K98 : Keep h0 T95.heap [] := (K92).trans Kc95 (allS (Or.inr szz_tp_5) (allS (Or.inr sz_b1) all0))
        obtain ⟨cq99, kq99, q99a, q99b, q99c⟩ := isOf hZ rfl (E_b1_96)
        obtain ⟨_, _, ⟨T99, L99, k99, n99⟩, -, X99, ⟨Lc99, hQ99, l99, y99, z99⟩, st99⟩ := X95.virtualBack hx (y := (⟨"com/example/lean_layers/leanlayers/phase/layering/IndexedHeap", "isEmpty", "()Z"⟩ : MethodName)) (z := (⟨"com/example/lean_layers/leanlayers/phase/layering/IndexedHeap", "isEmpty", "()Z"⟩ : MethodName)) hown (mvT hZ (hw _ (List.mem_of_getElem? (i := 28) rfl))) (mvT hZ (hw _ (List.mem_of_getElem? (i := 29) rfl))) (notFace_of_selects (args := #[]) (mvT hZ (hw _ (List.mem_of_getElem? (i := 31) rfl)))) (mvT hZ (hw _ (List.mem_of_getElem? (i := 31) rfl))) (mvT hZ (hw _ (List.mem_of_getElem? (i := 30) rfl))) (by decide) (backOf (W := 0) (rm5 l Z a0 hw [] b1 ((0 : Nat).toInt32) T95.heap n0 ZZ97 P95_0) hZ (hw _ (List.mem_of_getElem? (i := 32) rfl)) (hw _ (List.mem_of_getElem? (i := 2) rfl)) (by decide) (by decide)) q99a q99c (g := (mkF m 95 #[.val (.int p0), .val (.long q1), .second, .val (.long q2), .second, .val (.long q3), .second, .val (.long q4), .second, .val (.ref b1), .val (.int (p0 &&& (3 : Int32))), .val (.int (x11.toInt32)), .val (.int (x12.toInt32)), .val (.int (x13.toInt32)), .val (.int (x14.toInt32)), .unset, .unset, .unset] [(.ref b1)])) rfl (by rw [hml]; rfl) (Steps.refl _) (argsL := []) (rest := []) (lenOf pd_6 rfl) rfl (by show 2 * 0 + _ ≤ _; exact Nat.le_of_eq rfl) (hb hby at_95) (fun _ _ => ⟨rfl, rfl, (by decide : 4 + 0 ≤ _), (by decide : 16 + 0 ≤ _)⟩)
        dsimp only [Pt.U, Pt.locs, Pt.cells, Pt.slots] at X99 l99 y99 z99 st99 hQ99
        subst y99 z99
        obtain ⟨rfl, N99q, hh99⟩ := hQ99
        have N99 := Fr.app N95 N99q
        rw [← l99] at N99
        have pre100 : ∀ t, Steps p.tables e below (T99.setTop (mkF m 98 #[.val (.int p0), .val (.long q1), .second, .val (.long q2), .second, .val (.long q3), .second, .val (.long q4), .second, .val (.ref b1), .val (.int (p0 &&& (3 : Int32))), .val (.int (x11.toInt32)), .val (.int (x12.toInt32)), .val (.int (x13.toInt32)), .val (.int (x14.toInt32)), .unset, .unset, .unset] [(.int ((f5_12 ((0 : Nat).toInt32)) &&& 1))])) t → Steps p.tables e below (s₁.setTop (entryFrame m #[(.int p0), (.long q1), (.long q2), (.long q3), (.long q4)] maxLocals)) t := fun t k => pre93 t (by
          refine XS.icmpYes X89.here hx rfl (pc0 := 76) (pc' := 88) rfl (hb hby at_76) rfl (tlt hs94).1 (by decide) (by decide) ?_
          show Steps p.tables e below (T89.setTop (mkF m 88 #[.val (.int p0), .val (.long q1), .second, .val (.long q2), .second, .val (.long q3), .second, .val (.long q4), .second, .val (.ref b1), .val (.int (p0 &&& (3 : Int32))), .val (.int (x11.toInt32)), .val (.int (x12.toInt32)), .val (.int (x13.toInt32)), .val (.int (x14.toInt32)), .unset, .unset, .unset] [])) _
          refine XS.aload X89.here hx rfl (hb hby at_88) rfl rfl ?_
          show Steps p.tables e below (T89.setTop (mkF m 90 #[.val (.int p0), .val (.long q1), .second, .val (.long q2), .second, .val (.long q3), .second, .val (.long q4), .second, .val (.ref b1), .val (.int (p0 &&& (3 : Int32))), .val (.int (x11.toInt32)), .val (.int (x12.toInt32)), .val (.int (x13.toInt32)), .val (.int (x14.toInt32)), .unset, .unset, .unset] [(.ref b1)])) _
          refine st95.trans ?_
          show Steps p.tables e below (T95.setTop (mkF m 93 #[.val (.int p0), .val (.long q1), .second, .val (.long q2), .second, .val (.long q3), .second, .val (.long q4), .second, .val (.ref b1), .val (.int (p0 &&& (3 : Int32))), .val (.int (x11.toInt32)), .val (.int (x12.toInt32)), .val (.int (x13.toInt32)), .val (.int (x14.toInt32)), .unset, .unset, .unset] [])) _
          refine XS.aload X95.here hx rfl (hb hby at_93) rfl rfl ?_
          show Steps p.tables e below (T95.setTop (mkF m 95 #[.val (.int p0), .val (.long q1), .second, .val (.long q2), .second, .val (.long q3), .second, .val (.long q4), .second, .val (.ref b1), .val (.int (p0 &&& (3 : Int32))), .val (.int (x11.toInt32)), .val (.int (x12.toInt32)), .val (.int (x13.toInt32)), .val (.int (x14.toInt32)), .unset, .unset, .unset] [(.ref b1)])) _
          refine st99.trans ?_
          show Steps p.tables e below (T99.setTop (mkF m 98 #[.val (.int p0), .val (.long q1), .second, .val (.long q2), .second, .val (.long q3), .second, .val (.long q4), .second, .val (.ref b1), .val (.int (p0 &&& (3 : Int32))), .val (.int (x11.toInt32)), .val (.int (x12.toInt32)), .val (.int (x13.toInt32)), .val (.int (x14.toInt32)), .unset, .unset, .unset] [(.int ((f5_12 ((0 : Nat).toInt32)) &&& 1))])) _
          exact k)
        have hre101 : ((f5_12 ((0 : Nat).toInt32)) &&& 1) = (1 : Int32) := own_ie0 rfl
        have pre101 : ∀ t, Steps p.tables e below (T99.setTop (mkF m 98 #[.val (.int p0), .val (.long q1), .second, .val (.long q2), .second, .val (.long q3), .second, .val (.long q4), .second, .val (.ref b1), .val (.int (p0 &&& (3 : Int32))), .val (.int (x11.toInt32)), .val (.int (x12.toInt32)), .val (.int (x13.toInt32)), .val (.int (x14.toInt32)), .unset, .unset, .unset] [(.int (1 : Int32))])) t → Steps p.tables e below (s₁.setTop (entryFrame m #[(.int p0), (.long q1), (.long q2), (.long q3), (.long q4)] maxLocals)) t := fun t k => pre100 t (by rw [hre101]; exact k)
        obtain ⟨cq102, kq102, q102a, q102b, q102c⟩ := isOf hZ hh99 (E_b1_96)
        obtain ⟨_, _, ⟨T102, L102, k102, n102⟩, -, X102, ⟨Lc102, hQ102, l102, y102, z102⟩, st102⟩ := X99.virtualBack hx (y := (⟨"com/example/lean_layers/leanlayers/phase/layering/IndexedHeap", "put", "(IJ)V"⟩ : MethodName)) (z := (⟨"com/example/lean_layers/leanlayers/phase/layering/IndexedHeap", "put", "(IJ)V"⟩ : MethodName)) hown (mvT hZ (hw _ (List.mem_of_getElem? (i := 33) rfl))) (mvT hZ (hw _ (List.mem_of_getElem? (i := 34) rfl))) (notFace_of_selects (args := #[]) (mvT hZ (hw _ (List.mem_of_getElem? (i := 36) rfl)))) (mvT hZ (hw _ (List.mem_of_getElem? (i := 36) rfl))) (mvT hZ (hw _ (List.mem_of_getElem? (i := 35) rfl))) (by decide) (backOf (W := 0) (rm6 l Z a0 hw [] b1 (x14.toInt32) q4 ti_5 tk_5 tp_5 (own_uk (own_uk own_zk x11 q1) x12 q2) it2_89 pl2_95 (0 : Nat) x14 T95.heap n0 ZZ97 P95_1 P95_2 P95_3 E_b1_96 P95_0 A_ti_5_96 A_tk_5_96 P95_4 g_ti_5 g_tk_5 g_tp_5 g_b1 ne_b1_ti_5 ne_b1_tk_5 ne_b1_tp_5 ne_ti_tk_5 ne_ti_tp_5 ne_tk_tp_5 rfl hx14 (own_IV_new P95_5 (P89_7).2.1)) hZ (hw _ (List.mem_of_getElem? (i := 37) rfl)) (hw _ (List.mem_of_getElem? (i := 2) rfl)) (by decide) (by decide)) q102a q102c (g := (mkF m 109 #[.val (.int p0), .val (.long q1), .second, .val (.long q2), .second, .val (.long q3), .second, .val (.long q4), .second, .val (.ref b1), .val (.int (p0 &&& (3 : Int32))), .val (.int (x11.toInt32)), .val (.int (x12.toInt32)), .val (.int (x13.toInt32)), .val (.int (x14.toInt32)), .unset, .unset, .unset] [(.long q4), (.int (x14.toInt32)), (.ref b1)])) rfl (by rw [hml]; rfl) (Steps.refl _) (argsL := [(.int (x14.toInt32)), (.long q4)]) (rest := []) (lenOf pd_7 rfl) rfl (by show 2 * 0 + _ ≤ _; exact Nat.le_of_eq rfl) (hb hby at_109) (fun _ _ => ⟨rfl, hh99, (by decide : 4 + 0 ≤ _), (by decide : 16 + 0 ≤ _)⟩)
        dsimp only [Pt.U, Pt.locs, Pt.cells, Pt.slots] at X102 l102 y102 z102 st102 hQ102
        subst y102 z102
        obtain ⟨n2_102, it2_102, pl2_102, rfl, N102q, Kc102, P102_0, P102_1, P102_2, P102_3, P102_4, P102_5, P102_6, P102_7, P102_8⟩ := hQ102
        have N102 := Fr.app N99 N102q
        rw [← l102] at N102
        have E_b1_103 : Exa Z T102.heap b1 "com/example/lean_layers/leanlayers/phase/layering/IndexedHeap" := (E_b1_96).keep Kc102
        have SZ104 : h0.size ≤ T102.heap.size := Nat.le_trans SZ97 Kc102.1
        have ZZ104 : n0 ≤ T102.heap.size := Nat.le_trans Z0 SZ104
        have K105 : Keep h0 T102.heap [] := (K98).trans Kc102 (allS (Or.inr szz_ti_5) (allS (Or.inr szz_tk_5) (allS (Or.inr szz_tp_5) (allS (Or.inr sz_b1) all0))))
        have hne106 : pl2_102 x14 ≠ 0 := fun z => ((P102_8 x14 hx14).mp z).1 rfl
        obtain ⟨j106, hj106, -, -⟩ := own_IV_held P102_7 hx14 hne106
        have hp106 : 0 < n2_102 := by omega
        have h4106 : n2_102 ≤ 4 := (P102_7).1
        have hf106 : it2_102 0 = x14 := own_first P102_7 hp106 P102_8 P95_5
        obtain ⟨cq107, kq107, q107a, q107b, q107c⟩ := isOf hZ rfl (E_b1_103)
        obtain ⟨_, _, ⟨T107, L107, k107, n107⟩, -, X107, ⟨Lc107, hQ107, l107, y107, z107⟩, st107⟩ := X102.virtualBack hx (y := (⟨"com/example/lean_layers/leanlayers/phase/layering/IndexedHeap", "isEmpty", "()Z"⟩ : MethodName)) (z := (⟨"com/example/lean_layers/leanlayers/phase/layering/IndexedHeap", "isEmpty", "()Z"⟩ : MethodName)) hown (mvT hZ (hw _ (List.mem_of_getElem? (i := 28) rfl))) (mvT hZ (hw _ (List.mem_of_getElem? (i := 29) rfl))) (notFace_of_selects (args := #[]) (mvT hZ (hw _ (List.mem_of_getElem? (i := 31) rfl)))) (mvT hZ (hw _ (List.mem_of_getElem? (i := 31) rfl))) (mvT hZ (hw _ (List.mem_of_getElem? (i := 30) rfl))) (by decide) (backOf (W := 0) (rm5 l Z a0 hw [] b1 (n2_102.toInt32) T102.heap n0 ZZ104 P102_0) hZ (hw _ (List.mem_of_getElem? (i := 32) rfl)) (hw _ (List.mem_of_getElem? (i := 2) rfl)) (by decide) (by decide)) q107a q107c (g := (mkF m 114 #[.val (.int p0), .val (.long q1), .second, .val (.long q2), .second, .val (.long q3), .second, .val (.long q4), .second, .val (.ref b1), .val (.int (p0 &&& (3 : Int32))), .val (.int (x11.toInt32)), .val (.int (x12.toInt32)), .val (.int (x13.toInt32)), .val (.int (x14.toInt32)), .unset, .unset, .unset] [(.ref b1)])) rfl (by rw [hml]; rfl) (Steps.refl _) (argsL := []) (rest := []) (lenOf pd_6 rfl) rfl (by show 2 * 0 + _ ≤ _; exact Nat.le_of_eq rfl) (hb hby at_114) (fun _ _ => ⟨rfl, rfl, (by decide : 4 + 0 ≤ _), (by decide : 16 + 0 ≤ _)⟩)
        dsimp only [Pt.U, Pt.locs, Pt.cells, Pt.slots] at X107 l107 y107 z107 st107 hQ107
        subst y107 z107
        obtain ⟨rfl, N107q, hh107⟩ := hQ107
        have N107 := Fr.app N102 N107q
        rw [← l107] at N107
        have pre108 : ∀ t, Steps p.tables e below (T107.setTop (mkF m 117 #[.val (.int p0), .val (.long q1), .second, .val (.long q2), .second, .val (.long q3), .second, .val (.long q4), .second, .val (.ref b1), .val (.int (p0 &&& (3 : Int32))), .val (.int (x11.toInt32)), .val (.int (x12.toInt32)), .val (.int (x13.toInt32)), .val (.int (x14.toInt32)), .unset, .unset, .unset] [(.int ((f5_12 (n2_102.toInt32)) &&& 1))])) t → Steps p.tables e below (s₁.setTop (entryFrame m #[(.int p0), (.long q1), (.long q2), (.long q3), (.long q4)] maxLocals)) t := fun t k => pre101 t (by
          show Steps p.tables e below (T99.setTop (mkF m 98 #[.val (.int p0), .val (.long q1), .second, .val (.long q2), .second, .val (.long q3), .second, .val (.long q4), .second, .val (.ref b1), .val (.int (p0 &&& (3 : Int32))), .val (.int (x11.toInt32)), .val (.int (x12.toInt32)), .val (.int (x13.toInt32)), .val (.int (x14.toInt32)), .unset, .unset, .unset] [(.int (1 : Int32))])) _
          refine XS.ifYes X99.here hx rfl (pc0 := 98) (pc' := 103) rfl (hb hby at_98) rfl ((if0 _ _).trans (feq (show ¬ ((1 : Int32) = (0 : Int32)) by decide)).2) (by decide) (by decide) ?_
          show Steps p.tables e below (T99.setTop (mkF m 103 #[.val (.int p0), .val (.long q1), .second, .val (.long q2), .second, .val (.long q3), .second, .val (.long q4), .second, .val (.ref b1), .val (.int (p0 &&& (3 : Int32))), .val (.int (x11.toInt32)), .val (.int (x12.toInt32)), .val (.int (x13.toInt32)), .val (.int (x14.toInt32)), .unset, .unset, .unset] [])) _
          refine XS.aload X99.here hx rfl (hb hby at_103) rfl rfl ?_
          show Steps p.tables e below (T99.setTop (mkF m 105 #[.val (.int p0), .val (.long q1), .second, .val (.long q2), .second, .val (.long q3), .second, .val (.long q4), .second, .val (.ref b1), .val (.int (p0 &&& (3 : Int32))), .val (.int (x11.toInt32)), .val (.int (x12.toInt32)), .val (.int (x13.toInt32)), .val (.int (x14.toInt32)), .unset, .unset, .unset] [(.ref b1)])) _
          refine XS.iload X99.here hx rfl (hb hby at_105) rfl ?_
          show Steps p.tables e below (T99.setTop (mkF m 107 #[.val (.int p0), .val (.long q1), .second, .val (.long q2), .second, .val (.long q3), .second, .val (.long q4), .second, .val (.ref b1), .val (.int (p0 &&& (3 : Int32))), .val (.int (x11.toInt32)), .val (.int (x12.toInt32)), .val (.int (x13.toInt32)), .val (.int (x14.toInt32)), .unset, .unset, .unset] [(.int (x14.toInt32)), (.ref b1)])) _
          refine XS.lload X99.here hx rfl (hb hby at_107) rfl ?_
          show Steps p.tables e below (T99.setTop (mkF m 109 #[.val (.int p0), .val (.long q1), .second, .val (.long q2), .second, .val (.long q3), .second, .val (.long q4), .second, .val (.ref b1), .val (.int (p0 &&& (3 : Int32))), .val (.int (x11.toInt32)), .val (.int (x12.toInt32)), .val (.int (x13.toInt32)), .val (.int (x14.toInt32)), .unset, .unset, .unset] [(.long q4), (.int (x14.toInt32)), (.ref b1)])) _
          refine st102.trans ?_
          show Steps p.tables e below (T102.setTop (mkF m 112 #[.val (.int p0), .val (.long q1), .second, .val (.long q2), .second, .val (.long q3), .second, .val (.long q4), .second, .val (.ref b1), .val (.int (p0 &&& (3 : Int32))), .val (.int (x11.toInt32)), .val (.int (x12.toInt32)), .val (.int (x13.toInt32)), .val (.int (x14.toInt32)), .unset, .unset, .unset] [])) _
          refine XS.aload X102.here hx rfl (hb hby at_112) rfl rfl ?_
          show Steps p.tables e below (T102.setTop (mkF m 114 #[.val (.int p0), .val (.long q1), .second, .val (.long q2), .second, .val (.long q3), .second, .val (.long q4), .second, .val (.ref b1), .val (.int (p0 &&& (3 : Int32))), .val (.int (x11.toInt32)), .val (.int (x12.toInt32)), .val (.int (x13.toInt32)), .val (.int (x14.toInt32)), .unset, .unset, .unset] [(.ref b1)])) _
          refine st107.trans ?_
          show Steps p.tables e below (T107.setTop (mkF m 117 #[.val (.int p0), .val (.long q1), .second, .val (.long q2), .second, .val (.long q3), .second, .val (.long q4), .second, .val (.ref b1), .val (.int (p0 &&& (3 : Int32))), .val (.int (x11.toInt32)), .val (.int (x12.toInt32)), .val (.int (x13.toInt32)), .val (.int (x14.toInt32)), .unset, .unset, .unset] [(.int ((f5_12 (n2_102.toInt32)) &&& 1))])) _
          exact k)
        have hre109 : ((f5_12 (n2_102.toInt32)) &&& 1) = (0 : Int32) := own_ie1 hp106 (by omega)
        have pre109 : ∀ t, Steps p.tables e below (T107.setTop (mkF m 117 #[.val (.int p0), .val (.long q1), .second, .val (.long q2), .second, .val (.long q3), .second, .val (.long q4), .second, .val (.ref b1), .val (.int (p0 &&& (3 : Int32))), .val (.int (x11.toInt32)), .val (.int (x12.toInt32)), .val (.int (x13.toInt32)), .val (.int (x14.toInt32)), .unset, .unset, .unset] [(.int (0 : Int32))])) t → Steps p.tables e below (s₁.setTop (entryFrame m #[(.int p0), (.long q1), (.long q2), (.long q3), (.long q4)] maxLocals)) t := fun t k => pre108 t (by rw [hre109]; exact k)
        obtain ⟨cq110, kq110, q110a, q110b, q110c⟩ := isOf hZ hh107 (E_b1_103)
        obtain ⟨_, _, ⟨T110, L110, k110, n110⟩, -, X110, ⟨Lc110, hQ110, l110, y110, z110⟩, st110⟩ := X107.virtualBack hx (y := (⟨"com/example/lean_layers/leanlayers/phase/layering/IndexedHeap", "first", "()I"⟩ : MethodName)) (z := (⟨"com/example/lean_layers/leanlayers/phase/layering/IndexedHeap", "first", "()I"⟩ : MethodName)) hown (mvT hZ (hw _ (List.mem_of_getElem? (i := 50) rfl))) (mvT hZ (hw _ (List.mem_of_getElem? (i := 51) rfl))) (notFace_of_selects (args := #[]) (mvT hZ (hw _ (List.mem_of_getElem? (i := 53) rfl)))) (mvT hZ (hw _ (List.mem_of_getElem? (i := 53) rfl))) (mvT hZ (hw _ (List.mem_of_getElem? (i := 52) rfl))) (by decide) (backOf (W := 0) (rm10 l Z a0 hw [] b1 ti_5 it2_102 n2_102 T102.heap n0 ZZ104 P102_1 P102_0 P102_4 hp106 h4106) hZ (hw _ (List.mem_of_getElem? (i := 54) rfl)) (hw _ (List.mem_of_getElem? (i := 2) rfl)) (by decide) (by decide)) q110a q110c (g := (mkF m 124 #[.val (.int p0), .val (.long q1), .second, .val (.long q2), .second, .val (.long q3), .second, .val (.long q4), .second, .val (.ref b1), .val (.int (p0 &&& (3 : Int32))), .val (.int (x11.toInt32)), .val (.int (x12.toInt32)), .val (.int (x13.toInt32)), .val (.int (x14.toInt32)), .unset, .unset, .unset] [(.ref b1)])) rfl (by rw [hml]; rfl) (Steps.refl _) (argsL := []) (rest := []) (lenOf pd_4 rfl) rfl (by show 2 * 0 + _ ≤ _; exact Nat.le_of_eq rfl) (hb hby at_124) (fun _ _ => ⟨rfl, hh107, (by decide : 4 + 0 ≤ _), (by decide : 16 + 0 ≤ _)⟩)
        dsimp only [Pt.U, Pt.locs, Pt.cells, Pt.slots] at X110 l110 y110 z110 st110 hQ110
        subst y110 z110
        obtain ⟨rfl, N110q, hh110⟩ := hQ110
        have N110 := Fr.app N107 N110q
        rw [← l110] at N110
        obtain ⟨cq111, kq111, q111a, q111b, q111c⟩ := isOf hZ hh110 (E_b1_103)
        obtain ⟨_, _, ⟨T111, L111, k111, n111⟩, -, X111, ⟨Lc111, hQ111, l111, y111, z111⟩, st111⟩ := X110.virtualBack hx (y := (⟨"com/example/lean_layers/leanlayers/phase/layering/IndexedHeap", "firstKey", "()J"⟩ : MethodName)) (z := (⟨"com/example/lean_layers/leanlayers/phase/layering/IndexedHeap", "firstKey", "()J"⟩ : MethodName)) hown (mvT hZ (hw _ (List.mem_of_getElem? (i := 55) rfl))) (mvT hZ (hw _ (List.mem_of_getElem? (i := 56) rfl))) (notFace_of_selects (args := #[]) (mvT hZ (hw _ (List.mem_of_getElem? (i := 58) rfl)))) (mvT hZ (hw _ (List.mem_of_getElem? (i := 58) rfl))) (mvT hZ (hw _ (List.mem_of_getElem? (i := 57) rfl))) (by decide) (backOf (W := 0) (rm11 l Z a0 hw [] b1 ti_5 tk_5 (own_uk (own_uk (own_uk own_zk x11 q1) x12 q2) x14 q4) it2_102 n2_102 T102.heap n0 ZZ104 P102_1 P102_2 E_b1_103 P102_0 P102_4 P102_5 hp106 h4106 (by rw [hf106]; exact hx14)) hZ (hw _ (List.mem_of_getElem? (i := 59) rfl)) (hw _ (List.mem_of_getElem? (i := 2) rfl)) (by decide) (by decide)) q111a q111c (g := (mkF m 131 #[.val (.int p0), .val (.long q1), .second, .val (.long q2), .second, .val (.long q3), .second, .val (.long q4), .second, .val (.ref b1), .val (.int (p0 &&& (3 : Int32))), .val (.int (x11.toInt32)), .val (.int (x12.toInt32)), .val (.int (x13.toInt32)), .val (.int (x14.toInt32)), .val (.int ((it2_102 0).toInt32)), .unset, .unset] [(.ref b1)])) rfl (by rw [hml]; rfl) (Steps.refl _) (argsL := []) (rest := []) (lenOf pd_8 rfl) rfl (by show 2 * 0 + _ ≤ _; exact Nat.le_of_eq rfl) (hb hby at_131) (fun _ _ => ⟨rfl, hh110, (by decide : 4 + 0 ≤ _), (by decide : 16 + 0 ≤ _)⟩)
        dsimp only [Pt.U, Pt.locs, Pt.cells, Pt.slots] at X111 l111 y111 z111 st111 hQ111
        subst y111 z111
        obtain ⟨rfl, N111q, hh111⟩ := hQ111
        have N111 := Fr.app N110 N111q
        rw [← l111] at N111
        have pre112 : ∀ t, Steps p.tables e below (T111.setTop (mkF m 136 #[.val (.int p0), .val (.long q1), .second, .val (.long q2), .second, .val (.long q3), .second, .val (.long q4), .second, .val (.ref b1), .val (.int (p0 &&& (3 : Int32))), .val (.int (x11.toInt32)), .val (.int (x12.toInt32)), .val (.int (x13.toInt32)), .val (.int (x14.toInt32)), .val (.int ((it2_102 0).toInt32)), .val (.long ((own_uk (own_uk (own_uk own_zk x11 q1) x12 q2) x14 q4) (it2_102 0))), .second] [])) t → Steps p.tables e below (s₁.setTop (entryFrame m #[(.int p0), (.long q1), (.long q2), (.long q3), (.long q4)] maxLocals)) t := fun t k => pre109 t (by
          show Steps p.tables e below (T107.setTop (mkF m 117 #[.val (.int p0), .val (.long q1), .second, .val (.long q2), .second, .val (.long q3), .second, .val (.long q4), .second, .val (.ref b1), .val (.int (p0 &&& (3 : Int32))), .val (.int (x11.toInt32)), .val (.int (x12.toInt32)), .val (.int (x13.toInt32)), .val (.int (x14.toInt32)), .unset, .unset, .unset] [(.int (0 : Int32))])) _
          refine XS.ifYes X107.here hx rfl (pc0 := 117) (pc' := 122) rfl (hb hby at_117) rfl ((if0 _ _).trans (teq (show (0 : Int32) = (0 : Int32) by decide)).1) (by decide) (by decide) ?_
          show Steps p.tables e below (T107.setTop (mkF m 122 #[.val (.int p0), .val (.long q1), .second, .val (.long q2), .second, .val (.long q3), .second, .val (.long q4), .second, .val (.ref b1), .val (.int (p0 &&& (3 : Int32))), .val (.int (x11.toInt32)), .val (.int (x12.toInt32)), .val (.int (x13.toInt32)), .val (.int (x14.toInt32)), .unset, .unset, .unset] [])) _
          refine XS.aload X107.here hx rfl (hb hby at_122) rfl rfl ?_
          show Steps p.tables e below (T107.setTop (mkF m 124 #[.val (.int p0), .val (.long q1), .second, .val (.long q2), .second, .val (.long q3), .second, .val (.long q4), .second, .val (.ref b1), .val (.int (p0 &&& (3 : Int32))), .val (.int (x11.toInt32)), .val (.int (x12.toInt32)), .val (.int (x13.toInt32)), .val (.int (x14.toInt32)), .unset, .unset, .unset] [(.ref b1)])) _
          refine st110.trans ?_
          show Steps p.tables e below (T110.setTop (mkF m 127 #[.val (.int p0), .val (.long q1), .second, .val (.long q2), .second, .val (.long q3), .second, .val (.long q4), .second, .val (.ref b1), .val (.int (p0 &&& (3 : Int32))), .val (.int (x11.toInt32)), .val (.int (x12.toInt32)), .val (.int (x13.toInt32)), .val (.int (x14.toInt32)), .unset, .unset, .unset] [(.int ((it2_102 0).toInt32))])) _
          refine XS.istore X110.here hx rfl (hb hby at_127) rfl (l' := #[.val (.int p0), .val (.long q1), .second, .val (.long q2), .second, .val (.long q3), .second, .val (.long q4), .second, .val (.ref b1), .val (.int (p0 &&& (3 : Int32))), .val (.int (x11.toInt32)), .val (.int (x12.toInt32)), .val (.int (x13.toInt32)), .val (.int (x14.toInt32)), .val (.int ((it2_102 0).toInt32)), .unset, .unset]) rfl ?_
          show Steps p.tables e below (T110.setTop (mkF m 129 #[.val (.int p0), .val (.long q1), .second, .val (.long q2), .second, .val (.long q3), .second, .val (.long q4), .second, .val (.ref b1), .val (.int (p0 &&& (3 : Int32))), .val (.int (x11.toInt32)), .val (.int (x12.toInt32)), .val (.int (x13.toInt32)), .val (.int (x14.toInt32)), .val (.int ((it2_102 0).toInt32)), .unset, .unset] [])) _
          refine XS.aload X110.here hx rfl (hb hby at_129) rfl rfl ?_
          show Steps p.tables e below (T110.setTop (mkF m 131 #[.val (.int p0), .val (.long q1), .second, .val (.long q2), .second, .val (.long q3), .second, .val (.long q4), .second, .val (.ref b1), .val (.int (p0 &&& (3 : Int32))), .val (.int (x11.toInt32)), .val (.int (x12.toInt32)), .val (.int (x13.toInt32)), .val (.int (x14.toInt32)), .val (.int ((it2_102 0).toInt32)), .unset, .unset] [(.ref b1)])) _
          refine st111.trans ?_
          show Steps p.tables e below (T111.setTop (mkF m 134 #[.val (.int p0), .val (.long q1), .second, .val (.long q2), .second, .val (.long q3), .second, .val (.long q4), .second, .val (.ref b1), .val (.int (p0 &&& (3 : Int32))), .val (.int (x11.toInt32)), .val (.int (x12.toInt32)), .val (.int (x13.toInt32)), .val (.int (x14.toInt32)), .val (.int ((it2_102 0).toInt32)), .unset, .unset] [(.long ((own_uk (own_uk (own_uk own_zk x11 q1) x12 q2) x14 q4) (it2_102 0)))])) _
          refine XS.lstore X111.here hx rfl (hb hby at_134) rfl (l' := #[.val (.int p0), .val (.long q1), .second, .val (.long q2), .second, .val (.long q3), .second, .val (.long q4), .second, .val (.ref b1), .val (.int (p0 &&& (3 : Int32))), .val (.int (x11.toInt32)), .val (.int (x12.toInt32)), .val (.int (x13.toInt32)), .val (.int (x14.toInt32)), .val (.int ((it2_102 0).toInt32)), .val (.long ((own_uk (own_uk (own_uk own_zk x11 q1) x12 q2) x14 q4) (it2_102 0))), .second]) rfl ?_
          show Steps p.tables e below (T111.setTop (mkF m 136 #[.val (.int p0), .val (.long q1), .second, .val (.long q2), .second, .val (.long q3), .second, .val (.long q4), .second, .val (.ref b1), .val (.int (p0 &&& (3 : Int32))), .val (.int (x11.toInt32)), .val (.int (x12.toInt32)), .val (.int (x13.toInt32)), .val (.int (x14.toInt32)), .val (.int ((it2_102 0).toInt32)), .val (.long ((own_uk (own_uk (own_uk own_zk x11 q1) x12 q2) x14 q4) (it2_102 0))), .second] [])) _
          exact k)
        have hre113 : ((it2_102 0).toInt32) = (x14.toInt32) := by rw [hf106]
        have pre113 : ∀ t, Steps p.tables e below (T111.setTop (mkF m 136 #[.val (.int p0), .val (.long q1), .second, .val (.long q2), .second, .val (.long q3), .second, .val (.long q4), .second, .val (.ref b1), .val (.int (p0 &&& (3 : Int32))), .val (.int (x11.toInt32)), .val (.int (x12.toInt32)), .val (.int (x13.toInt32)), .val (.int (x14.toInt32)), .val (.int (x14.toInt32)), .val (.long ((own_uk (own_uk (own_uk own_zk x11 q1) x12 q2) x14 q4) (it2_102 0))), .second] [])) t → Steps p.tables e below (s₁.setTop (entryFrame m #[(.int p0), (.long q1), (.long q2), (.long q3), (.long q4)] maxLocals)) t := fun t k => pre112 t (by rw [hre113]; exact k)
        have pre114 : ∀ t, Steps p.tables e below (T111.setTop (mkF m 136 #[.val (.int p0), .val (.long q1), .second, .val (.long q2), .second, .val (.long q3), .second, .val (.long q4), .second, .val (.ref b1), .val (.int (p0 &&& (3 : Int32))), .val (.int (x11.toInt32)), .val (.int (x12.toInt32)), .val (.int (x13.toInt32)), .val (.int (x14.toInt32)), .val (.int (x14.toInt32)), .val (.long ((own_uk (own_uk (own_uk own_zk x11 q1) x12 q2) x14 q4) (it2_102 0))), .second] [])) t → Steps p.tables e below (s₁.setTop (entryFrame m #[(.int p0), (.long q1), (.long q2), (.long q3), (.long q4)] maxLocals)) t := fun t k => pre113 t (by
          show Steps p.tables e below (T111.setTop (mkF m 136 #[.val (.int p0), .val (.long q1), .second, .val (.long q2), .second, .val (.long q3), .second, .val (.long q4), .second, .val (.ref b1), .val (.int (p0 &&& (3 : Int32))), .val (.int (x11.toInt32)), .val (.int (x12.toInt32)), .val (.int (x13.toInt32)), .val (.int (x14.toInt32)), .val (.int (x14.toInt32)), .val (.long ((own_uk (own_uk (own_uk own_zk x11 q1) x12 q2) x14 q4) (it2_102 0))), .second] [])) _
          exact k)
        have hre115 : ((own_uk (own_uk (own_uk own_zk x11 q1) x12 q2) x14 q4) (it2_102 0)) = q4 := by rw [hf106]; exact own_uk_same _ _ _
        have pre115 : ∀ t, Steps p.tables e below (T111.setTop (mkF m 136 #[.val (.int p0), .val (.long q1), .second, .val (.long q2), .second, .val (.long q3), .second, .val (.long q4), .second, .val (.ref b1), .val (.int (p0 &&& (3 : Int32))), .val (.int (x11.toInt32)), .val (.int (x12.toInt32)), .val (.int (x13.toInt32)), .val (.int (x14.toInt32)), .val (.int (x14.toInt32)), .val (.long q4), .second] [])) t → Steps p.tables e below (s₁.setTop (entryFrame m #[(.int p0), (.long q1), (.long q2), (.long q3), (.long q4)] maxLocals)) t := fun t k => pre114 t (by rw [hre115]; exact k)
        obtain ⟨cq116, kq116, q116a, q116b, q116c⟩ := isOf hZ hh111 (E_b1_103)
        obtain ⟨_, _, ⟨T116, L116, k116, n116⟩, -, X116, ⟨Lc116, hQ116, l116, y116, z116⟩, st116⟩ := X111.virtualBack hx (y := (⟨"com/example/lean_layers/leanlayers/phase/layering/IndexedHeap", "remove", "(I)V"⟩ : MethodName)) (z := (⟨"com/example/lean_layers/leanlayers/phase/layering/IndexedHeap", "remove", "(I)V"⟩ : MethodName)) hown (mvT hZ (hw _ (List.mem_of_getElem? (i := 61) rfl))) (mvT hZ (hw _ (List.mem_of_getElem? (i := 62) rfl))) (notFace_of_selects (args := #[]) (mvT hZ (hw _ (List.mem_of_getElem? (i := 64) rfl)))) (mvT hZ (hw _ (List.mem_of_getElem? (i := 64) rfl))) (mvT hZ (hw _ (List.mem_of_getElem? (i := 63) rfl))) (by decide) (backOf (W := 0) (rm12 l Z a0 hw [] b1 (x14.toInt32) ti_5 tk_5 tp_5 (own_uk (own_uk (own_uk own_zk x11 q1) x12 q2) x14 q4) it2_102 pl2_102 n2_102 x14 T102.heap n0 ZZ104 P102_1 P102_2 P102_3 E_b1_103 P102_0 P102_4 P102_5 P102_6 g_ti_5 g_tp_5 g_b1 ne_b1_ti_5 ne_b1_tk_5 ne_b1_tp_5 ne_ti_tk_5 ne_ti_tp_5 ne_tk_tp_5 rfl hx14 P102_7) hZ (hw _ (List.mem_of_getElem? (i := 65) rfl)) (hw _ (List.mem_of_getElem? (i := 2) rfl)) (by decide) (by decide)) q116a q116c (g := (mkF m 140 #[.val (.int p0), .val (.long q1), .second, .val (.long q2), .second, .val (.long q3), .second, .val (.long q4), .second, .val (.ref b1), .val (.int (p0 &&& (3 : Int32))), .val (.int (x11.toInt32)), .val (.int (x12.toInt32)), .val (.int (x13.toInt32)), .val (.int (x14.toInt32)), .val (.int (x14.toInt32)), .val (.long q4), .second] [(.int (x14.toInt32)), (.ref b1)])) rfl (by rw [hml]; rfl) (Steps.refl _) (argsL := [(.int (x14.toInt32))]) (rest := []) (lenOf pd_3 rfl) rfl (by show 2 * 0 + _ ≤ _; exact Nat.le_of_eq rfl) (hb hby at_140) (fun _ _ => ⟨rfl, hh111, (by decide : 4 + 0 ≤ _), (by decide : 16 + 0 ≤ _)⟩)
        dsimp only [Pt.U, Pt.locs, Pt.cells, Pt.slots] at X116 l116 y116 z116 st116 hQ116
        subst y116 z116
        obtain ⟨n2_116, it2_116, pl2_116, rfl, N116q, Kc116, P116_0, P116_1, P116_2, P116_3, P116_4, P116_5, P116_6, P116_7⟩ := hQ116
        have N116 := Fr.app N111 N116q
        rw [← l116] at N116
        have E_b1_117 : Exa Z T116.heap b1 "com/example/lean_layers/leanlayers/phase/layering/IndexedHeap" := (E_b1_103).keep Kc116
        have A_tk_5_117 : own_A Z T116.heap tk_5 .long 4 (fun kk => (.long ((own_uk (own_uk (own_uk own_zk x11 q1) x12 q2) x14 q4) kk))) := (P102_5).keep Kc116 (ninS (Ne.symm ne_ti_tk_5) (ninS ne_tk_tp_5 (ninS (Ne.symm ne_b1_tk_5) nin0)))
        have SZ118 : h0.size ≤ T116.heap.size := Nat.le_trans SZ104 Kc116.1
        have ZZ118 : n0 ≤ T116.heap.size := Nat.le_trans Z0 SZ118
        have K119 : Keep h0 T116.heap [] := (K105).trans Kc116 (allS (Or.inr szz_ti_5) (allS (Or.inr szz_tp_5) (allS (Or.inr sz_b1) all0)))
        obtain ⟨cq120, kq120, q120a, q120b, q120c⟩ := isOf hZ rfl (E_b1_117)
        obtain ⟨_, _, ⟨T120, L120, k120, n120⟩, -, X120, ⟨Lc120, hQ120, l120, y120, z120⟩, st120⟩ := X116.virtualBack hx (y := (⟨"com/example/lean_layers/leanlayers/phase/layering/IndexedHeap", "isEmpty", "()Z"⟩ : MethodName)) (z := (⟨"com/example/lean_layers/leanlayers/phase/layering/IndexedHeap", "isEmpty", "()Z"⟩ : MethodName)) hown (mvT hZ (hw _ (List.mem_of_getElem? (i := 28) rfl))) (mvT hZ (hw _ (List.mem_of_getElem? (i := 29) rfl))) (notFace_of_selects (args := #[]) (mvT hZ (hw _ (List.mem_of_getElem? (i := 31) rfl)))) (mvT hZ (hw _ (List.mem_of_getElem? (i := 31) rfl))) (mvT hZ (hw _ (List.mem_of_getElem? (i := 30) rfl))) (by decide) (backOf (W := 0) (rm5 l Z a0 hw [] b1 (n2_116.toInt32) T116.heap n0 ZZ118 P116_0) hZ (hw _ (List.mem_of_getElem? (i := 32) rfl)) (hw _ (List.mem_of_getElem? (i := 2) rfl)) (by decide) (by decide)) q120a q120c (g := (mkF m 160 #[.val (.int p0), .val (.long q1), .second, .val (.long q2), .second, .val (.long q3), .second, .val (.long q4), .second, .val (.ref b1), .val (.int (p0 &&& (3 : Int32))), .val (.int (x11.toInt32)), .val (.int (x12.toInt32)), .val (.int (x13.toInt32)), .val (.int (x14.toInt32)), .val (.int (x14.toInt32)), .val (.long q4), .second] [(.ref b1)])) rfl (by rw [hml]; rfl) (Steps.refl _) (argsL := []) (rest := []) (lenOf pd_6 rfl) rfl (by show 2 * 0 + _ ≤ _; exact Nat.le_of_eq rfl) (hb hby at_160) (fun _ _ => ⟨rfl, rfl, (by decide : 4 + 0 ≤ _), (by decide : 16 + 0 ≤ _)⟩)
        dsimp only [Pt.U, Pt.locs, Pt.cells, Pt.slots] at X120 l120 y120 z120 st120 hQ120
        subst y120 z120
        obtain ⟨rfl, N120q, hh120⟩ := hQ120
        have N120 := Fr.app N116 N120q
        rw [← l120] at N120
        have pre121 : ∀ t, Steps p.tables e below (T120.setTop (mkF m 163 #[.val (.int p0), .val (.long q1), .second, .val (.long q2), .second, .val (.long q3), .second, .val (.long q4), .second, .val (.ref b1), .val (.int (p0 &&& (3 : Int32))), .val (.int (x11.toInt32)), .val (.int (x12.toInt32)), .val (.int (x13.toInt32)), .val (.int (x14.toInt32)), .val (.int (x14.toInt32)), .val (.long q4), .second] [(.int ((f5_12 (n2_116.toInt32)) &&& 1))])) t → Steps p.tables e below (s₁.setTop (entryFrame m #[(.int p0), (.long q1), (.long q2), (.long q3), (.long q4)] maxLocals)) t := fun t k => pre115 t (by
          show Steps p.tables e below (T111.setTop (mkF m 136 #[.val (.int p0), .val (.long q1), .second, .val (.long q2), .second, .val (.long q3), .second, .val (.long q4), .second, .val (.ref b1), .val (.int (p0 &&& (3 : Int32))), .val (.int (x11.toInt32)), .val (.int (x12.toInt32)), .val (.int (x13.toInt32)), .val (.int (x14.toInt32)), .val (.int (x14.toInt32)), .val (.long q4), .second] [])) _
          refine XS.aload X111.here hx rfl (hb hby at_136) rfl rfl ?_
          show Steps p.tables e below (T111.setTop (mkF m 138 #[.val (.int p0), .val (.long q1), .second, .val (.long q2), .second, .val (.long q3), .second, .val (.long q4), .second, .val (.ref b1), .val (.int (p0 &&& (3 : Int32))), .val (.int (x11.toInt32)), .val (.int (x12.toInt32)), .val (.int (x13.toInt32)), .val (.int (x14.toInt32)), .val (.int (x14.toInt32)), .val (.long q4), .second] [(.ref b1)])) _
          refine XS.iload X111.here hx rfl (hb hby at_138) rfl ?_
          show Steps p.tables e below (T111.setTop (mkF m 140 #[.val (.int p0), .val (.long q1), .second, .val (.long q2), .second, .val (.long q3), .second, .val (.long q4), .second, .val (.ref b1), .val (.int (p0 &&& (3 : Int32))), .val (.int (x11.toInt32)), .val (.int (x12.toInt32)), .val (.int (x13.toInt32)), .val (.int (x14.toInt32)), .val (.int (x14.toInt32)), .val (.long q4), .second] [(.int (x14.toInt32)), (.ref b1)])) _
          refine st116.trans ?_
          show Steps p.tables e below (T116.setTop (mkF m 143 #[.val (.int p0), .val (.long q1), .second, .val (.long q2), .second, .val (.long q3), .second, .val (.long q4), .second, .val (.ref b1), .val (.int (p0 &&& (3 : Int32))), .val (.int (x11.toInt32)), .val (.int (x12.toInt32)), .val (.int (x13.toInt32)), .val (.int (x14.toInt32)), .val (.int (x14.toInt32)), .val (.long q4), .second] [])) _
          refine XS.iload X116.here hx rfl (hb hby at_143) rfl ?_
          show Steps p.tables e below (T116.setTop (mkF m 145 #[.val (.int p0), .val (.long q1), .second, .val (.long q2), .second, .val (.long q3), .second, .val (.long q4), .second, .val (.ref b1), .val (.int (p0 &&& (3 : Int32))), .val (.int (x11.toInt32)), .val (.int (x12.toInt32)), .val (.int (x13.toInt32)), .val (.int (x14.toInt32)), .val (.int (x14.toInt32)), .val (.long q4), .second] [(.int (x14.toInt32))])) _
          refine XS.iload X116.here hx rfl (hb hby at_145) rfl ?_
          show Steps p.tables e below (T116.setTop (mkF m 147 #[.val (.int p0), .val (.long q1), .second, .val (.long q2), .second, .val (.long q3), .second, .val (.long q4), .second, .val (.ref b1), .val (.int (p0 &&& (3 : Int32))), .val (.int (x11.toInt32)), .val (.int (x12.toInt32)), .val (.int (x13.toInt32)), .val (.int (x14.toInt32)), .val (.int (x14.toInt32)), .val (.long q4), .second] [(.int (x14.toInt32)), (.int (x14.toInt32))])) _
          refine XS.icmpNo X116.here hx rfl (hb hby at_147) rfl (teq rfl).2 ?_
          show Steps p.tables e below (T116.setTop (mkF m 150 #[.val (.int p0), .val (.long q1), .second, .val (.long q2), .second, .val (.long q3), .second, .val (.long q4), .second, .val (.ref b1), .val (.int (p0 &&& (3 : Int32))), .val (.int (x11.toInt32)), .val (.int (x12.toInt32)), .val (.int (x13.toInt32)), .val (.int (x14.toInt32)), .val (.int (x14.toInt32)), .val (.long q4), .second] [])) _
          refine XS.lload X116.here hx rfl (hb hby at_150) rfl ?_
          show Steps p.tables e below (T116.setTop (mkF m 152 #[.val (.int p0), .val (.long q1), .second, .val (.long q2), .second, .val (.long q3), .second, .val (.long q4), .second, .val (.ref b1), .val (.int (p0 &&& (3 : Int32))), .val (.int (x11.toInt32)), .val (.int (x12.toInt32)), .val (.int (x13.toInt32)), .val (.int (x14.toInt32)), .val (.int (x14.toInt32)), .val (.long q4), .second] [(.long q4)])) _
          refine XS.lload X116.here hx rfl (hb hby at_152) rfl ?_
          show Steps p.tables e below (T116.setTop (mkF m 154 #[.val (.int p0), .val (.long q1), .second, .val (.long q2), .second, .val (.long q3), .second, .val (.long q4), .second, .val (.ref b1), .val (.int (p0 &&& (3 : Int32))), .val (.int (x11.toInt32)), .val (.int (x12.toInt32)), .val (.int (x13.toInt32)), .val (.int (x14.toInt32)), .val (.int (x14.toInt32)), .val (.long q4), .second] [(.long q4), (.long q4)])) _
          refine XS.lcmp X116.here hx rfl (hb hby at_154) rfl ?_
          show Steps p.tables e below (T116.setTop (mkF m 155 #[.val (.int p0), .val (.long q1), .second, .val (.long q2), .second, .val (.long q3), .second, .val (.long q4), .second, .val (.ref b1), .val (.int (p0 &&& (3 : Int32))), .val (.int (x11.toInt32)), .val (.int (x12.toInt32)), .val (.int (x13.toInt32)), .val (.int (x14.toInt32)), .val (.int (x14.toInt32)), .val (.long q4), .second] [(.int (lcmpW q4 q4))])) _
          refine XS.ifNo X116.here hx rfl (hb hby at_155) rfl (own_eqL rfl).2 ?_
          show Steps p.tables e below (T116.setTop (mkF m 158 #[.val (.int p0), .val (.long q1), .second, .val (.long q2), .second, .val (.long q3), .second, .val (.long q4), .second, .val (.ref b1), .val (.int (p0 &&& (3 : Int32))), .val (.int (x11.toInt32)), .val (.int (x12.toInt32)), .val (.int (x13.toInt32)), .val (.int (x14.toInt32)), .val (.int (x14.toInt32)), .val (.long q4), .second] [])) _
          refine XS.aload X116.here hx rfl (hb hby at_158) rfl rfl ?_
          show Steps p.tables e below (T116.setTop (mkF m 160 #[.val (.int p0), .val (.long q1), .second, .val (.long q2), .second, .val (.long q3), .second, .val (.long q4), .second, .val (.ref b1), .val (.int (p0 &&& (3 : Int32))), .val (.int (x11.toInt32)), .val (.int (x12.toInt32)), .val (.int (x13.toInt32)), .val (.int (x14.toInt32)), .val (.int (x14.toInt32)), .val (.long q4), .second] [(.ref b1)])) _
          refine st120.trans ?_
          show Steps p.tables e below (T120.setTop (mkF m 163 #[.val (.int p0), .val (.long q1), .second, .val (.long q2), .second, .val (.long q3), .second, .val (.long q4), .second, .val (.ref b1), .val (.int (p0 &&& (3 : Int32))), .val (.int (x11.toInt32)), .val (.int (x12.toInt32)), .val (.int (x13.toInt32)), .val (.int (x14.toInt32)), .val (.int (x14.toInt32)), .val (.long q4), .second] [(.int ((f5_12 (n2_116.toInt32)) &&& 1))])) _
          exact k)
        have hre122 : ((f5_12 (n2_116.toInt32)) &&& 1) = (1 : Int32) := own_ie0 ((own_IV_n0 P116_6 (by decide)).mpr fun y hy => (P116_7 y hy).mpr (Classical.byCases (fun q : y = x14 => Or.inl q) (fun q => Or.inr ((P102_8 y hy).mpr ⟨q, P95_5 y hy⟩))))
        have pre122 : ∀ t, Steps p.tables e below (T120.setTop (mkF m 163 #[.val (.int p0), .val (.long q1), .second, .val (.long q2), .second, .val (.long q3), .second, .val (.long q4), .second, .val (.ref b1), .val (.int (p0 &&& (3 : Int32))), .val (.int (x11.toInt32)), .val (.int (x12.toInt32)), .val (.int (x13.toInt32)), .val (.int (x14.toInt32)), .val (.int (x14.toInt32)), .val (.long q4), .second] [(.int (1 : Int32))])) t → Steps p.tables e below (s₁.setTop (entryFrame m #[(.int p0), (.long q1), (.long q2), (.long q3), (.long q4)] maxLocals)) t := fun t k => pre121 t (by rw [hre122]; exact k)
        have pre123 : ∀ t, Steps p.tables e below (T120.setTop (mkF m 171 #[.val (.int p0), .val (.long q1), .second, .val (.long q2), .second, .val (.long q3), .second, .val (.long q4), .second, .val (.ref b1), .val (.int (p0 &&& (3 : Int32))), .val (.int (x11.toInt32)), .val (.int (x12.toInt32)), .val (.int (x13.toInt32)), .val (.int (x14.toInt32)), .val (.int (x14.toInt32)), .val (.long q4), .second] [(.int (1 : Int32))])) t → Steps p.tables e below (s₁.setTop (entryFrame m #[(.int p0), (.long q1), (.long q2), (.long q3), (.long q4)] maxLocals)) t := fun t k => pre122 t (by
          show Steps p.tables e below (T120.setTop (mkF m 163 #[.val (.int p0), .val (.long q1), .second, .val (.long q2), .second, .val (.long q3), .second, .val (.long q4), .second, .val (.ref b1), .val (.int (p0 &&& (3 : Int32))), .val (.int (x11.toInt32)), .val (.int (x12.toInt32)), .val (.int (x13.toInt32)), .val (.int (x14.toInt32)), .val (.int (x14.toInt32)), .val (.long q4), .second] [(.int (1 : Int32))])) _
          refine XS.ifNo X120.here hx rfl (hb hby at_163) rfl ((if0 _ _).trans (feq (show ¬ ((1 : Int32) = (0 : Int32)) by decide)).1) ?_
          show Steps p.tables e below (T120.setTop (mkF m 166 #[.val (.int p0), .val (.long q1), .second, .val (.long q2), .second, .val (.long q3), .second, .val (.long q4), .second, .val (.ref b1), .val (.int (p0 &&& (3 : Int32))), .val (.int (x11.toInt32)), .val (.int (x12.toInt32)), .val (.int (x13.toInt32)), .val (.int (x14.toInt32)), .val (.int (x14.toInt32)), .val (.long q4), .second] [])) _
          refine XS.iconst X120.here hx rfl (hb hby at_166) ?_
          show Steps p.tables e below (T120.setTop (mkF m 167 #[.val (.int p0), .val (.long q1), .second, .val (.long q2), .second, .val (.long q3), .second, .val (.long q4), .second, .val (.ref b1), .val (.int (p0 &&& (3 : Int32))), .val (.int (x11.toInt32)), .val (.int (x12.toInt32)), .val (.int (x13.toInt32)), .val (.int (x14.toInt32)), .val (.int (x14.toInt32)), .val (.long q4), .second] [(.int (1 : Int32))])) _
          refine XS.goto X120.here hx rfl (pc0 := 167) (pc' := 171) rfl (hb hby at_167) (by decide) (by decide) ?_
          show Steps p.tables e below (T120.setTop (mkF m 171 #[.val (.int p0), .val (.long q1), .second, .val (.long q2), .second, .val (.long q3), .second, .val (.long q4), .second, .val (.ref b1), .val (.int (p0 &&& (3 : Int32))), .val (.int (x11.toInt32)), .val (.int (x12.toInt32)), .val (.int (x13.toInt32)), .val (.int (x14.toInt32)), .val (.int (x14.toInt32)), .val (.long q4), .second] [(.int (1 : Int32))])) _
          exact k)
        obtain ⟨fs, hr, hrun, hended, hW, hsame⟩ := X120.leave (v := some (.int (1 : Int32))) (fun h => by rw [Bd.returns] at h; cases h)
        refine ⟨_, _, pre123 _ ?_, hrun, hended, _, _, rfl, ?_, ⟨_, rfl⟩, hW, hsame.mono (by decide) (by decide)⟩
        · exact retN X120 hx (t := .boolean) Bd.returns (by simp) (hb hby at_171) hr
        · show Q0 Z p0 q1 q2 q3 q4 h0 n0 _ T120.heap _
          rw [hh120]
          exact ⟨rfl, N120⟩
      · obtain ⟨cq124, kq124, q124a, q124b, q124c⟩ := isOf hZ rfl (E_b1_90)
        obtain ⟨_, _, ⟨T124, L124, k124, n124⟩, -, X124, ⟨Lc124, hQ124, l124, y124, z124⟩, st124⟩ := X89.virtualBack hx (y := (⟨"com/example/lean_layers/leanlayers/phase/layering/IndexedHeap", "put", "(IJ)V"⟩ : MethodName)) (z := (⟨"com/example/lean_layers/leanlayers/phase/layering/IndexedHeap", "put", "(IJ)V"⟩ : MethodName)) hown (mvT hZ (hw _ (List.mem_of_getElem? (i := 33) rfl))) (mvT hZ (hw _ (List.mem_of_getElem? (i := 34) rfl))) (notFace_of_selects (args := #[]) (mvT hZ (hw _ (List.mem_of_getElem? (i := 36) rfl)))) (mvT hZ (hw _ (List.mem_of_getElem? (i := 36) rfl))) (mvT hZ (hw _ (List.mem_of_getElem? (i := 35) rfl))) (by decide) (backOf (W := 0) (rm6 l Z a0 hw [] b1 (x13.toInt32) q3 ti_5 tk_5 tp_5 (own_uk (own_uk own_zk x11 q1) x12 q2) it2_89 pl2_89 n2_89 x13 T89.heap n0 ZZ91 P89_1 P89_2 P89_3 E_b1_90 P89_0 P89_4 P89_5 P89_6 g_ti_5 g_tk_5 g_tp_5 g_b1 ne_b1_ti_5 ne_b1_tk_5 ne_b1_tp_5 ne_ti_tk_5 ne_ti_tp_5 ne_tk_tp_5 rfl hx13 P89_7) hZ (hw _ (List.mem_of_getElem? (i := 37) rfl)) (hw _ (List.mem_of_getElem? (i := 2) rfl)) (by decide) (by decide)) q124a q124c (g := (mkF m 85 #[.val (.int p0), .val (.long q1), .second, .val (.long q2), .second, .val (.long q3), .second, .val (.long q4), .second, .val (.ref b1), .val (.int (p0 &&& (3 : Int32))), .val (.int (x11.toInt32)), .val (.int (x12.toInt32)), .val (.int (x13.toInt32)), .val (.int (x14.toInt32)), .unset, .unset, .unset] [(.long q3), (.int (x13.toInt32)), (.ref b1)])) rfl (by rw [hml]; rfl) (Steps.refl _) (argsL := [(.int (x13.toInt32)), (.long q3)]) (rest := []) (lenOf pd_7 rfl) rfl (by show 2 * 0 + _ ≤ _; exact Nat.le_of_eq rfl) (hb hby at_85) (fun _ _ => ⟨rfl, rfl, (by decide : 4 + 0 ≤ _), (by decide : 16 + 0 ≤ _)⟩)
        dsimp only [Pt.U, Pt.locs, Pt.cells, Pt.slots] at X124 l124 y124 z124 st124 hQ124
        subst y124 z124
        obtain ⟨n2_124, it2_124, pl2_124, rfl, N124q, Kc124, P124_0, P124_1, P124_2, P124_3, P124_4, P124_5, P124_6, P124_7, P124_8⟩ := hQ124
        have N124 := Fr.app N89 N124q
        rw [← l124] at N124
        have E_b1_125 : Exa Z T124.heap b1 "com/example/lean_layers/leanlayers/phase/layering/IndexedHeap" := (E_b1_90).keep Kc124
        have SZ126 : h0.size ≤ T124.heap.size := Nat.le_trans SZ91 Kc124.1
        have ZZ126 : n0 ≤ T124.heap.size := Nat.le_trans Z0 SZ126
        have K127 : Keep h0 T124.heap [] := (K92).trans Kc124 (allS (Or.inr szz_ti_5) (allS (Or.inr szz_tk_5) (allS (Or.inr szz_tp_5) (allS (Or.inr sz_b1) all0))))
        obtain ⟨cq128, kq128, q128a, q128b, q128c⟩ := isOf hZ rfl (E_b1_125)
        obtain ⟨_, _, ⟨T128, L128, k128, n128⟩, -, X128, ⟨Lc128, hQ128, l128, y128, z128⟩, st128⟩ := X124.virtualBack hx (y := (⟨"com/example/lean_layers/leanlayers/phase/layering/IndexedHeap", "clear", "()V"⟩ : MethodName)) (z := (⟨"com/example/lean_layers/leanlayers/phase/layering/IndexedHeap", "clear", "()V"⟩ : MethodName)) hown (mvT hZ (hw _ (List.mem_of_getElem? (i := 21) rfl))) (mvT hZ (hw _ (List.mem_of_getElem? (i := 22) rfl))) (notFace_of_selects (args := #[]) (mvT hZ (hw _ (List.mem_of_getElem? (i := 24) rfl)))) (mvT hZ (hw _ (List.mem_of_getElem? (i := 24) rfl))) (mvT hZ (hw _ (List.mem_of_getElem? (i := 23) rfl))) (by decide) (backOf (W := 0) (rm4 l Z a0 hw [] b1 ti_5 tk_5 tp_5 it2_124 pl2_124 n2_124 T124.heap n0 ZZ126 P124_1 P124_2 P124_3 E_b1_125 P124_0 P124_4 P124_6 g_tp_5 g_b1 ne_b1_ti_5 ne_b1_tp_5 ne_ti_tp_5 P124_7) hZ (hw _ (List.mem_of_getElem? (i := 25) rfl)) (hw _ (List.mem_of_getElem? (i := 2) rfl)) (by decide) (by decide)) q128a q128c (g := (mkF m 90 #[.val (.int p0), .val (.long q1), .second, .val (.long q2), .second, .val (.long q3), .second, .val (.long q4), .second, .val (.ref b1), .val (.int (p0 &&& (3 : Int32))), .val (.int (x11.toInt32)), .val (.int (x12.toInt32)), .val (.int (x13.toInt32)), .val (.int (x14.toInt32)), .unset, .unset, .unset] [(.ref b1)])) rfl (by rw [hml]; rfl) (Steps.refl _) (argsL := []) (rest := []) (lenOf pd_5 rfl) rfl (by show 2 * 0 + _ ≤ _; exact Nat.le_of_eq rfl) (hb hby at_90) (fun _ _ => ⟨rfl, rfl, (by decide : 4 + 0 ≤ _), (by decide : 16 + 0 ≤ _)⟩)
        dsimp only [Pt.U, Pt.locs, Pt.cells, Pt.slots] at X128 l128 y128 z128 st128 hQ128
        subst y128 z128
        obtain ⟨pl2_128, rfl, N128q, Kc128, P128_0, P128_1, P128_2, P128_3, P128_4, P128_5⟩ := hQ128
        have N128 := Fr.app N124 N128q
        rw [← l128] at N128
        have E_b1_129 : Exa Z T128.heap b1 "com/example/lean_layers/leanlayers/phase/layering/IndexedHeap" := (E_b1_125).keep Kc128
        have A_ti_5_129 : own_A Z T128.heap ti_5 .int 4 (fun kk => (.int ((it2_124 kk).toInt32))) := (P124_4).keep Kc128 (ninS ne_ti_tp_5 (ninS (Ne.symm ne_b1_ti_5) nin0))
        have A_tk_5_129 : own_A Z T128.heap tk_5 .long 4 (fun kk => (.long ((own_uk (own_uk (own_uk own_zk x11 q1) x12 q2) x13 q3) kk))) := (P124_5).keep Kc128 (ninS ne_tk_tp_5 (ninS (Ne.symm ne_b1_tk_5) nin0))
        have SZ130 : h0.size ≤ T128.heap.size := Nat.le_trans SZ126 Kc128.1
        have ZZ130 : n0 ≤ T128.heap.size := Nat.le_trans Z0 SZ130
        have K131 : Keep h0 T128.heap [] := (K127).trans Kc128 (allS (Or.inr szz_tp_5) (allS (Or.inr sz_b1) all0))
        obtain ⟨cq132, kq132, q132a, q132b, q132c⟩ := isOf hZ rfl (E_b1_129)
        obtain ⟨_, _, ⟨T132, L132, k132, n132⟩, -, X132, ⟨Lc132, hQ132, l132, y132, z132⟩, st132⟩ := X128.virtualBack hx (y := (⟨"com/example/lean_layers/leanlayers/phase/layering/IndexedHeap", "isEmpty", "()Z"⟩ : MethodName)) (z := (⟨"com/example/lean_layers/leanlayers/phase/layering/IndexedHeap", "isEmpty", "()Z"⟩ : MethodName)) hown (mvT hZ (hw _ (List.mem_of_getElem? (i := 28) rfl))) (mvT hZ (hw _ (List.mem_of_getElem? (i := 29) rfl))) (notFace_of_selects (args := #[]) (mvT hZ (hw _ (List.mem_of_getElem? (i := 31) rfl)))) (mvT hZ (hw _ (List.mem_of_getElem? (i := 31) rfl))) (mvT hZ (hw _ (List.mem_of_getElem? (i := 30) rfl))) (by decide) (backOf (W := 0) (rm5 l Z a0 hw [] b1 ((0 : Nat).toInt32) T128.heap n0 ZZ130 P128_0) hZ (hw _ (List.mem_of_getElem? (i := 32) rfl)) (hw _ (List.mem_of_getElem? (i := 2) rfl)) (by decide) (by decide)) q132a q132c (g := (mkF m 95 #[.val (.int p0), .val (.long q1), .second, .val (.long q2), .second, .val (.long q3), .second, .val (.long q4), .second, .val (.ref b1), .val (.int (p0 &&& (3 : Int32))), .val (.int (x11.toInt32)), .val (.int (x12.toInt32)), .val (.int (x13.toInt32)), .val (.int (x14.toInt32)), .unset, .unset, .unset] [(.ref b1)])) rfl (by rw [hml]; rfl) (Steps.refl _) (argsL := []) (rest := []) (lenOf pd_6 rfl) rfl (by show 2 * 0 + _ ≤ _; exact Nat.le_of_eq rfl) (hb hby at_95) (fun _ _ => ⟨rfl, rfl, (by decide : 4 + 0 ≤ _), (by decide : 16 + 0 ≤ _)⟩)
        dsimp only [Pt.U, Pt.locs, Pt.cells, Pt.slots] at X132 l132 y132 z132 st132 hQ132
        subst y132 z132
        obtain ⟨rfl, N132q, hh132⟩ := hQ132
        have N132 := Fr.app N128 N132q
        rw [← l132] at N132
        have pre133 : ∀ t, Steps p.tables e below (T132.setTop (mkF m 98 #[.val (.int p0), .val (.long q1), .second, .val (.long q2), .second, .val (.long q3), .second, .val (.long q4), .second, .val (.ref b1), .val (.int (p0 &&& (3 : Int32))), .val (.int (x11.toInt32)), .val (.int (x12.toInt32)), .val (.int (x13.toInt32)), .val (.int (x14.toInt32)), .unset, .unset, .unset] [(.int ((f5_12 ((0 : Nat).toInt32)) &&& 1))])) t → Steps p.tables e below (s₁.setTop (entryFrame m #[(.int p0), (.long q1), (.long q2), (.long q3), (.long q4)] maxLocals)) t := fun t k => pre93 t (by
          refine XS.icmpNo X89.here hx rfl (hb hby at_76) rfl (flt hs94).1 ?_
          show Steps p.tables e below (T89.setTop (mkF m 79 #[.val (.int p0), .val (.long q1), .second, .val (.long q2), .second, .val (.long q3), .second, .val (.long q4), .second, .val (.ref b1), .val (.int (p0 &&& (3 : Int32))), .val (.int (x11.toInt32)), .val (.int (x12.toInt32)), .val (.int (x13.toInt32)), .val (.int (x14.toInt32)), .unset, .unset, .unset] [])) _
          refine XS.aload X89.here hx rfl (hb hby at_79) rfl rfl ?_
          show Steps p.tables e below (T89.setTop (mkF m 81 #[.val (.int p0), .val (.long q1), .second, .val (.long q2), .second, .val (.long q3), .second, .val (.long q4), .second, .val (.ref b1), .val (.int (p0 &&& (3 : Int32))), .val (.int (x11.toInt32)), .val (.int (x12.toInt32)), .val (.int (x13.toInt32)), .val (.int (x14.toInt32)), .unset, .unset, .unset] [(.ref b1)])) _
          refine XS.iload X89.here hx rfl (hb hby at_81) rfl ?_
          show Steps p.tables e below (T89.setTop (mkF m 83 #[.val (.int p0), .val (.long q1), .second, .val (.long q2), .second, .val (.long q3), .second, .val (.long q4), .second, .val (.ref b1), .val (.int (p0 &&& (3 : Int32))), .val (.int (x11.toInt32)), .val (.int (x12.toInt32)), .val (.int (x13.toInt32)), .val (.int (x14.toInt32)), .unset, .unset, .unset] [(.int (x13.toInt32)), (.ref b1)])) _
          refine XS.lload X89.here hx rfl (hb hby at_83) rfl ?_
          show Steps p.tables e below (T89.setTop (mkF m 85 #[.val (.int p0), .val (.long q1), .second, .val (.long q2), .second, .val (.long q3), .second, .val (.long q4), .second, .val (.ref b1), .val (.int (p0 &&& (3 : Int32))), .val (.int (x11.toInt32)), .val (.int (x12.toInt32)), .val (.int (x13.toInt32)), .val (.int (x14.toInt32)), .unset, .unset, .unset] [(.long q3), (.int (x13.toInt32)), (.ref b1)])) _
          refine st124.trans ?_
          show Steps p.tables e below (T124.setTop (mkF m 88 #[.val (.int p0), .val (.long q1), .second, .val (.long q2), .second, .val (.long q3), .second, .val (.long q4), .second, .val (.ref b1), .val (.int (p0 &&& (3 : Int32))), .val (.int (x11.toInt32)), .val (.int (x12.toInt32)), .val (.int (x13.toInt32)), .val (.int (x14.toInt32)), .unset, .unset, .unset] [])) _
          refine XS.aload X124.here hx rfl (hb hby at_88) rfl rfl ?_
          show Steps p.tables e below (T124.setTop (mkF m 90 #[.val (.int p0), .val (.long q1), .second, .val (.long q2), .second, .val (.long q3), .second, .val (.long q4), .second, .val (.ref b1), .val (.int (p0 &&& (3 : Int32))), .val (.int (x11.toInt32)), .val (.int (x12.toInt32)), .val (.int (x13.toInt32)), .val (.int (x14.toInt32)), .unset, .unset, .unset] [(.ref b1)])) _
          refine st128.trans ?_
          show Steps p.tables e below (T128.setTop (mkF m 93 #[.val (.int p0), .val (.long q1), .second, .val (.long q2), .second, .val (.long q3), .second, .val (.long q4), .second, .val (.ref b1), .val (.int (p0 &&& (3 : Int32))), .val (.int (x11.toInt32)), .val (.int (x12.toInt32)), .val (.int (x13.toInt32)), .val (.int (x14.toInt32)), .unset, .unset, .unset] [])) _
          refine XS.aload X128.here hx rfl (hb hby at_93) rfl rfl ?_
          show Steps p.tables e below (T128.setTop (mkF m 95 #[.val (.int p0), .val (.long q1), .second, .val (.long q2), .second, .val (.long q3), .second, .val (.long q4), .second, .val (.ref b1), .val (.int (p0 &&& (3 : Int32))), .val (.int (x11.toInt32)), .val (.int (x12.toInt32)), .val (.int (x13.toInt32)), .val (.int (x14.toInt32)), .unset, .unset, .unset] [(.ref b1)])) _
          refine st132.trans ?_
          show Steps p.tables e below (T132.setTop (mkF m 98 #[.val (.int p0), .val (.long q1), .second, .val (.long q2), .second, .val (.long q3), .second, .val (.long q4), .second, .val (.ref b1), .val (.int (p0 &&& (3 : Int32))), .val (.int (x11.toInt32)), .val (.int (x12.toInt32)), .val (.int (x13.toInt32)), .val (.int (x14.toInt32)), .unset, .unset, .unset] [(.int ((f5_12 ((0 : Nat).toInt32)) &&& 1))])) _
          exact k)
        have hre134 : ((f5_12 ((0 : Nat).toInt32)) &&& 1) = (1 : Int32) := own_ie0 rfl
        have pre134 : ∀ t, Steps p.tables e below (T132.setTop (mkF m 98 #[.val (.int p0), .val (.long q1), .second, .val (.long q2), .second, .val (.long q3), .second, .val (.long q4), .second, .val (.ref b1), .val (.int (p0 &&& (3 : Int32))), .val (.int (x11.toInt32)), .val (.int (x12.toInt32)), .val (.int (x13.toInt32)), .val (.int (x14.toInt32)), .unset, .unset, .unset] [(.int (1 : Int32))])) t → Steps p.tables e below (s₁.setTop (entryFrame m #[(.int p0), (.long q1), (.long q2), (.long q3), (.long q4)] maxLocals)) t := fun t k => pre133 t (by rw [hre134]; exact k)
        obtain ⟨cq135, kq135, q135a, q135b, q135c⟩ := isOf hZ hh132 (E_b1_129)
        obtain ⟨_, _, ⟨T135, L135, k135, n135⟩, -, X135, ⟨Lc135, hQ135, l135, y135, z135⟩, st135⟩ := X132.virtualBack hx (y := (⟨"com/example/lean_layers/leanlayers/phase/layering/IndexedHeap", "put", "(IJ)V"⟩ : MethodName)) (z := (⟨"com/example/lean_layers/leanlayers/phase/layering/IndexedHeap", "put", "(IJ)V"⟩ : MethodName)) hown (mvT hZ (hw _ (List.mem_of_getElem? (i := 33) rfl))) (mvT hZ (hw _ (List.mem_of_getElem? (i := 34) rfl))) (notFace_of_selects (args := #[]) (mvT hZ (hw _ (List.mem_of_getElem? (i := 36) rfl)))) (mvT hZ (hw _ (List.mem_of_getElem? (i := 36) rfl))) (mvT hZ (hw _ (List.mem_of_getElem? (i := 35) rfl))) (by decide) (backOf (W := 0) (rm6 l Z a0 hw [] b1 (x14.toInt32) q4 ti_5 tk_5 tp_5 (own_uk (own_uk (own_uk own_zk x11 q1) x12 q2) x13 q3) it2_124 pl2_128 (0 : Nat) x14 T128.heap n0 ZZ130 P128_1 P128_2 P128_3 E_b1_129 P128_0 A_ti_5_129 A_tk_5_129 P128_4 g_ti_5 g_tk_5 g_tp_5 g_b1 ne_b1_ti_5 ne_b1_tk_5 ne_b1_tp_5 ne_ti_tk_5 ne_ti_tp_5 ne_tk_tp_5 rfl hx14 (own_IV_new P128_5 (P124_7).2.1)) hZ (hw _ (List.mem_of_getElem? (i := 37) rfl)) (hw _ (List.mem_of_getElem? (i := 2) rfl)) (by decide) (by decide)) q135a q135c (g := (mkF m 109 #[.val (.int p0), .val (.long q1), .second, .val (.long q2), .second, .val (.long q3), .second, .val (.long q4), .second, .val (.ref b1), .val (.int (p0 &&& (3 : Int32))), .val (.int (x11.toInt32)), .val (.int (x12.toInt32)), .val (.int (x13.toInt32)), .val (.int (x14.toInt32)), .unset, .unset, .unset] [(.long q4), (.int (x14.toInt32)), (.ref b1)])) rfl (by rw [hml]; rfl) (Steps.refl _) (argsL := [(.int (x14.toInt32)), (.long q4)]) (rest := []) (lenOf pd_7 rfl) rfl (by show 2 * 0 + _ ≤ _; exact Nat.le_of_eq rfl) (hb hby at_109) (fun _ _ => ⟨rfl, hh132, (by decide : 4 + 0 ≤ _), (by decide : 16 + 0 ≤ _)⟩)
        dsimp only [Pt.U, Pt.locs, Pt.cells, Pt.slots] at X135 l135 y135 z135 st135 hQ135
        subst y135 z135
        obtain ⟨n2_135, it2_135, pl2_135, rfl, N135q, Kc135, P135_0, P135_1, P135_2, P135_3, P135_4, P135_5, P135_6, P135_7, P135_8⟩ := hQ135
        have N135 := Fr.app N132 N135q
        rw [← l135] at N135
        have E_b1_136 : Exa Z T135.heap b1 "com/example/lean_layers/leanlayers/phase/layering/IndexedHeap" := (E_b1_129).keep Kc135
        have SZ137 : h0.size ≤ T135.heap.size := Nat.le_trans SZ130 Kc135.1
        have ZZ137 : n0 ≤ T135.heap.size := Nat.le_trans Z0 SZ137
        have K138 : Keep h0 T135.heap [] := (K131).trans Kc135 (allS (Or.inr szz_ti_5) (allS (Or.inr szz_tk_5) (allS (Or.inr szz_tp_5) (allS (Or.inr sz_b1) all0))))
        have hne139 : pl2_135 x14 ≠ 0 := fun z => ((P135_8 x14 hx14).mp z).1 rfl
        obtain ⟨j139, hj139, -, -⟩ := own_IV_held P135_7 hx14 hne139
        have hp139 : 0 < n2_135 := by omega
        have h4139 : n2_135 ≤ 4 := (P135_7).1
        have hf139 : it2_135 0 = x14 := own_first P135_7 hp139 P135_8 P128_5
        obtain ⟨cq140, kq140, q140a, q140b, q140c⟩ := isOf hZ rfl (E_b1_136)
        obtain ⟨_, _, ⟨T140, L140, k140, n140⟩, -, X140, ⟨Lc140, hQ140, l140, y140, z140⟩, st140⟩ := X135.virtualBack hx (y := (⟨"com/example/lean_layers/leanlayers/phase/layering/IndexedHeap", "isEmpty", "()Z"⟩ : MethodName)) (z := (⟨"com/example/lean_layers/leanlayers/phase/layering/IndexedHeap", "isEmpty", "()Z"⟩ : MethodName)) hown (mvT hZ (hw _ (List.mem_of_getElem? (i := 28) rfl))) (mvT hZ (hw _ (List.mem_of_getElem? (i := 29) rfl))) (notFace_of_selects (args := #[]) (mvT hZ (hw _ (List.mem_of_getElem? (i := 31) rfl)))) (mvT hZ (hw _ (List.mem_of_getElem? (i := 31) rfl))) (mvT hZ (hw _ (List.mem_of_getElem? (i := 30) rfl))) (by decide) (backOf (W := 0) (rm5 l Z a0 hw [] b1 (n2_135.toInt32) T135.heap n0 ZZ137 P135_0) hZ (hw _ (List.mem_of_getElem? (i := 32) rfl)) (hw _ (List.mem_of_getElem? (i := 2) rfl)) (by decide) (by decide)) q140a q140c (g := (mkF m 114 #[.val (.int p0), .val (.long q1), .second, .val (.long q2), .second, .val (.long q3), .second, .val (.long q4), .second, .val (.ref b1), .val (.int (p0 &&& (3 : Int32))), .val (.int (x11.toInt32)), .val (.int (x12.toInt32)), .val (.int (x13.toInt32)), .val (.int (x14.toInt32)), .unset, .unset, .unset] [(.ref b1)])) rfl (by rw [hml]; rfl) (Steps.refl _) (argsL := []) (rest := []) (lenOf pd_6 rfl) rfl (by show 2 * 0 + _ ≤ _; exact Nat.le_of_eq rfl) (hb hby at_114) (fun _ _ => ⟨rfl, rfl, (by decide : 4 + 0 ≤ _), (by decide : 16 + 0 ≤ _)⟩)
        dsimp only [Pt.U, Pt.locs, Pt.cells, Pt.slots] at X140 l140 y140 z140 st140 hQ140
        subst y140 z140
        obtain ⟨rfl, N140q, hh140⟩ := hQ140
        have N140 := Fr.app N135 N140q
        rw [← l140] at N140
        have pre141 : ∀ t, Steps p.tables e below (T140.setTop (mkF m 117 #[.val (.int p0), .val (.long q1), .second, .val (.long q2), .second, .val (.long q3), .second, .val (.long q4), .second, .val (.ref b1), .val (.int (p0 &&& (3 : Int32))), .val (.int (x11.toInt32)), .val (.int (x12.toInt32)), .val (.int (x13.toInt32)), .val (.int (x14.toInt32)), .unset, .unset, .unset] [(.int ((f5_12 (n2_135.toInt32)) &&& 1))])) t → Steps p.tables e below (s₁.setTop (entryFrame m #[(.int p0), (.long q1), (.long q2), (.long q3), (.long q4)] maxLocals)) t := fun t k => pre134 t (by
          show Steps p.tables e below (T132.setTop (mkF m 98 #[.val (.int p0), .val (.long q1), .second, .val (.long q2), .second, .val (.long q3), .second, .val (.long q4), .second, .val (.ref b1), .val (.int (p0 &&& (3 : Int32))), .val (.int (x11.toInt32)), .val (.int (x12.toInt32)), .val (.int (x13.toInt32)), .val (.int (x14.toInt32)), .unset, .unset, .unset] [(.int (1 : Int32))])) _
          refine XS.ifYes X132.here hx rfl (pc0 := 98) (pc' := 103) rfl (hb hby at_98) rfl ((if0 _ _).trans (feq (show ¬ ((1 : Int32) = (0 : Int32)) by decide)).2) (by decide) (by decide) ?_
          show Steps p.tables e below (T132.setTop (mkF m 103 #[.val (.int p0), .val (.long q1), .second, .val (.long q2), .second, .val (.long q3), .second, .val (.long q4), .second, .val (.ref b1), .val (.int (p0 &&& (3 : Int32))), .val (.int (x11.toInt32)), .val (.int (x12.toInt32)), .val (.int (x13.toInt32)), .val (.int (x14.toInt32)), .unset, .unset, .unset] [])) _
          refine XS.aload X132.here hx rfl (hb hby at_103) rfl rfl ?_
          show Steps p.tables e below (T132.setTop (mkF m 105 #[.val (.int p0), .val (.long q1), .second, .val (.long q2), .second, .val (.long q3), .second, .val (.long q4), .second, .val (.ref b1), .val (.int (p0 &&& (3 : Int32))), .val (.int (x11.toInt32)), .val (.int (x12.toInt32)), .val (.int (x13.toInt32)), .val (.int (x14.toInt32)), .unset, .unset, .unset] [(.ref b1)])) _
          refine XS.iload X132.here hx rfl (hb hby at_105) rfl ?_
          show Steps p.tables e below (T132.setTop (mkF m 107 #[.val (.int p0), .val (.long q1), .second, .val (.long q2), .second, .val (.long q3), .second, .val (.long q4), .second, .val (.ref b1), .val (.int (p0 &&& (3 : Int32))), .val (.int (x11.toInt32)), .val (.int (x12.toInt32)), .val (.int (x13.toInt32)), .val (.int (x14.toInt32)), .unset, .unset, .unset] [(.int (x14.toInt32)), (.ref b1)])) _
          refine XS.lload X132.here hx rfl (hb hby at_107) rfl ?_
          show Steps p.tables e below (T132.setTop (mkF m 109 #[.val (.int p0), .val (.long q1), .second, .val (.long q2), .second, .val (.long q3), .second, .val (.long q4), .second, .val (.ref b1), .val (.int (p0 &&& (3 : Int32))), .val (.int (x11.toInt32)), .val (.int (x12.toInt32)), .val (.int (x13.toInt32)), .val (.int (x14.toInt32)), .unset, .unset, .unset] [(.long q4), (.int (x14.toInt32)), (.ref b1)])) _
          refine st135.trans ?_
          show Steps p.tables e below (T135.setTop (mkF m 112 #[.val (.int p0), .val (.long q1), .second, .val (.long q2), .second, .val (.long q3), .second, .val (.long q4), .second, .val (.ref b1), .val (.int (p0 &&& (3 : Int32))), .val (.int (x11.toInt32)), .val (.int (x12.toInt32)), .val (.int (x13.toInt32)), .val (.int (x14.toInt32)), .unset, .unset, .unset] [])) _
          refine XS.aload X135.here hx rfl (hb hby at_112) rfl rfl ?_
          show Steps p.tables e below (T135.setTop (mkF m 114 #[.val (.int p0), .val (.long q1), .second, .val (.long q2), .second, .val (.long q3), .second, .val (.long q4), .second, .val (.ref b1), .val (.int (p0 &&& (3 : Int32))), .val (.int (x11.toInt32)), .val (.int (x12.toInt32)), .val (.int (x13.toInt32)), .val (.int (x14.toInt32)), .unset, .unset, .unset] [(.ref b1)])) _
          refine st140.trans ?_
          show Steps p.tables e below (T140.setTop (mkF m 117 #[.val (.int p0), .val (.long q1), .second, .val (.long q2), .second, .val (.long q3), .second, .val (.long q4), .second, .val (.ref b1), .val (.int (p0 &&& (3 : Int32))), .val (.int (x11.toInt32)), .val (.int (x12.toInt32)), .val (.int (x13.toInt32)), .val (.int (x14.toInt32)), .unset, .unset, .unset] [(.int ((f5_12 (n2_135.toInt32)) &&& 1))])) _
          exact k)
        have hre142 : ((f5_12 (n2_135.toInt32)) &&& 1) = (0 : Int32) := own_ie1 hp139 (by omega)
        have pre142 : ∀ t, Steps p.tables e below (T140.setTop (mkF m 117 #[.val (.int p0), .val (.long q1), .second, .val (.long q2), .second, .val (.long q3), .second, .val (.long q4), .second, .val (.ref b1), .val (.int (p0 &&& (3 : Int32))), .val (.int (x11.toInt32)), .val (.int (x12.toInt32)), .val (.int (x13.toInt32)), .val (.int (x14.toInt32)), .unset, .unset, .unset] [(.int (0 : Int32))])) t → Steps p.tables e below (s₁.setTop (entryFrame m #[(.int p0), (.long q1), (.long q2), (.long q3), (.long q4)] maxLocals)) t := fun t k => pre141 t (by rw [hre142]; exact k)
        obtain ⟨cq143, kq143, q143a, q143b, q143c⟩ := isOf hZ hh140 (E_b1_136)
        obtain ⟨_, _, ⟨T143, L143, k143, n143⟩, -, X143, ⟨Lc143, hQ143, l143, y143, z143⟩, st143⟩ := X140.virtualBack hx (y := (⟨"com/example/lean_layers/leanlayers/phase/layering/IndexedHeap", "first", "()I"⟩ : MethodName)) (z := (⟨"com/example/lean_layers/leanlayers/phase/layering/IndexedHeap", "first", "()I"⟩ : MethodName)) hown (mvT hZ (hw _ (List.mem_of_getElem? (i := 50) rfl))) (mvT hZ (hw _ (List.mem_of_getElem? (i := 51) rfl))) (notFace_of_selects (args := #[]) (mvT hZ (hw _ (List.mem_of_getElem? (i := 53) rfl)))) (mvT hZ (hw _ (List.mem_of_getElem? (i := 53) rfl))) (mvT hZ (hw _ (List.mem_of_getElem? (i := 52) rfl))) (by decide) (backOf (W := 0) (rm10 l Z a0 hw [] b1 ti_5 it2_135 n2_135 T135.heap n0 ZZ137 P135_1 P135_0 P135_4 hp139 h4139) hZ (hw _ (List.mem_of_getElem? (i := 54) rfl)) (hw _ (List.mem_of_getElem? (i := 2) rfl)) (by decide) (by decide)) q143a q143c (g := (mkF m 124 #[.val (.int p0), .val (.long q1), .second, .val (.long q2), .second, .val (.long q3), .second, .val (.long q4), .second, .val (.ref b1), .val (.int (p0 &&& (3 : Int32))), .val (.int (x11.toInt32)), .val (.int (x12.toInt32)), .val (.int (x13.toInt32)), .val (.int (x14.toInt32)), .unset, .unset, .unset] [(.ref b1)])) rfl (by rw [hml]; rfl) (Steps.refl _) (argsL := []) (rest := []) (lenOf pd_4 rfl) rfl (by show 2 * 0 + _ ≤ _; exact Nat.le_of_eq rfl) (hb hby at_124) (fun _ _ => ⟨rfl, hh140, (by decide : 4 + 0 ≤ _), (by decide : 16 + 0 ≤ _)⟩)
        dsimp only [Pt.U, Pt.locs, Pt.cells, Pt.slots] at X143 l143 y143 z143 st143 hQ143
        subst y143 z143
        obtain ⟨rfl, N143q, hh143⟩ := hQ143
        have N143 := Fr.app N140 N143q
        rw [← l143] at N143
        obtain ⟨cq144, kq144, q144a, q144b, q144c⟩ := isOf hZ hh143 (E_b1_136)
        obtain ⟨_, _, ⟨T144, L144, k144, n144⟩, -, X144, ⟨Lc144, hQ144, l144, y144, z144⟩, st144⟩ := X143.virtualBack hx (y := (⟨"com/example/lean_layers/leanlayers/phase/layering/IndexedHeap", "firstKey", "()J"⟩ : MethodName)) (z := (⟨"com/example/lean_layers/leanlayers/phase/layering/IndexedHeap", "firstKey", "()J"⟩ : MethodName)) hown (mvT hZ (hw _ (List.mem_of_getElem? (i := 55) rfl))) (mvT hZ (hw _ (List.mem_of_getElem? (i := 56) rfl))) (notFace_of_selects (args := #[]) (mvT hZ (hw _ (List.mem_of_getElem? (i := 58) rfl)))) (mvT hZ (hw _ (List.mem_of_getElem? (i := 58) rfl))) (mvT hZ (hw _ (List.mem_of_getElem? (i := 57) rfl))) (by decide) (backOf (W := 0) (rm11 l Z a0 hw [] b1 ti_5 tk_5 (own_uk (own_uk (own_uk (own_uk own_zk x11 q1) x12 q2) x13 q3) x14 q4) it2_135 n2_135 T135.heap n0 ZZ137 P135_1 P135_2 E_b1_136 P135_0 P135_4 P135_5 hp139 h4139 (by rw [hf139]; exact hx14)) hZ (hw _ (List.mem_of_getElem? (i := 59) rfl)) (hw _ (List.mem_of_getElem? (i := 2) rfl)) (by decide) (by decide)) q144a q144c (g := (mkF m 131 #[.val (.int p0), .val (.long q1), .second, .val (.long q2), .second, .val (.long q3), .second, .val (.long q4), .second, .val (.ref b1), .val (.int (p0 &&& (3 : Int32))), .val (.int (x11.toInt32)), .val (.int (x12.toInt32)), .val (.int (x13.toInt32)), .val (.int (x14.toInt32)), .val (.int ((it2_135 0).toInt32)), .unset, .unset] [(.ref b1)])) rfl (by rw [hml]; rfl) (Steps.refl _) (argsL := []) (rest := []) (lenOf pd_8 rfl) rfl (by show 2 * 0 + _ ≤ _; exact Nat.le_of_eq rfl) (hb hby at_131) (fun _ _ => ⟨rfl, hh143, (by decide : 4 + 0 ≤ _), (by decide : 16 + 0 ≤ _)⟩)
        dsimp only [Pt.U, Pt.locs, Pt.cells, Pt.slots] at X144 l144 y144 z144 st144 hQ144
        subst y144 z144
        obtain ⟨rfl, N144q, hh144⟩ := hQ144
        have N144 := Fr.app N143 N144q
        rw [← l144] at N144
        have pre145 : ∀ t, Steps p.tables e below (T144.setTop (mkF m 136 #[.val (.int p0), .val (.long q1), .second, .val (.long q2), .second, .val (.long q3), .second, .val (.long q4), .second, .val (.ref b1), .val (.int (p0 &&& (3 : Int32))), .val (.int (x11.toInt32)), .val (.int (x12.toInt32)), .val (.int (x13.toInt32)), .val (.int (x14.toInt32)), .val (.int ((it2_135 0).toInt32)), .val (.long ((own_uk (own_uk (own_uk (own_uk own_zk x11 q1) x12 q2) x13 q3) x14 q4) (it2_135 0))), .second] [])) t → Steps p.tables e below (s₁.setTop (entryFrame m #[(.int p0), (.long q1), (.long q2), (.long q3), (.long q4)] maxLocals)) t := fun t k => pre142 t (by
          show Steps p.tables e below (T140.setTop (mkF m 117 #[.val (.int p0), .val (.long q1), .second, .val (.long q2), .second, .val (.long q3), .second, .val (.long q4), .second, .val (.ref b1), .val (.int (p0 &&& (3 : Int32))), .val (.int (x11.toInt32)), .val (.int (x12.toInt32)), .val (.int (x13.toInt32)), .val (.int (x14.toInt32)), .unset, .unset, .unset] [(.int (0 : Int32))])) _
          refine XS.ifYes X140.here hx rfl (pc0 := 117) (pc' := 122) rfl (hb hby at_117) rfl ((if0 _ _).trans (teq (show (0 : Int32) = (0 : Int32) by decide)).1) (by decide) (by decide) ?_
          show Steps p.tables e below (T140.setTop (mkF m 122 #[.val (.int p0), .val (.long q1), .second, .val (.long q2), .second, .val (.long q3), .second, .val (.long q4), .second, .val (.ref b1), .val (.int (p0 &&& (3 : Int32))), .val (.int (x11.toInt32)), .val (.int (x12.toInt32)), .val (.int (x13.toInt32)), .val (.int (x14.toInt32)), .unset, .unset, .unset] [])) _
          refine XS.aload X140.here hx rfl (hb hby at_122) rfl rfl ?_
          show Steps p.tables e below (T140.setTop (mkF m 124 #[.val (.int p0), .val (.long q1), .second, .val (.long q2), .second, .val (.long q3), .second, .val (.long q4), .second, .val (.ref b1), .val (.int (p0 &&& (3 : Int32))), .val (.int (x11.toInt32)), .val (.int (x12.toInt32)), .val (.int (x13.toInt32)), .val (.int (x14.toInt32)), .unset, .unset, .unset] [(.ref b1)])) _
          refine st143.trans ?_
          show Steps p.tables e below (T143.setTop (mkF m 127 #[.val (.int p0), .val (.long q1), .second, .val (.long q2), .second, .val (.long q3), .second, .val (.long q4), .second, .val (.ref b1), .val (.int (p0 &&& (3 : Int32))), .val (.int (x11.toInt32)), .val (.int (x12.toInt32)), .val (.int (x13.toInt32)), .val (.int (x14.toInt32)), .unset, .unset, .unset] [(.int ((it2_135 0).toInt32))])) _
          refine XS.istore X143.here hx rfl (hb hby at_127) rfl (l' := #[.val (.int p0), .val (.long q1), .second, .val (.long q2), .second, .val (.long q3), .second, .val (.long q4), .second, .val (.ref b1), .val (.int (p0 &&& (3 : Int32))), .val (.int (x11.toInt32)), .val (.int (x12.toInt32)), .val (.int (x13.toInt32)), .val (.int (x14.toInt32)), .val (.int ((it2_135 0).toInt32)), .unset, .unset]) rfl ?_
          show Steps p.tables e below (T143.setTop (mkF m 129 #[.val (.int p0), .val (.long q1), .second, .val (.long q2), .second, .val (.long q3), .second, .val (.long q4), .second, .val (.ref b1), .val (.int (p0 &&& (3 : Int32))), .val (.int (x11.toInt32)), .val (.int (x12.toInt32)), .val (.int (x13.toInt32)), .val (.int (x14.toInt32)), .val (.int ((it2_135 0).toInt32)), .unset, .unset] [])) _
          refine XS.aload X143.here hx rfl (hb hby at_129) rfl rfl ?_
          show Steps p.tables e below (T143.setTop (mkF m 131 #[.val (.int p0), .val (.long q1), .second, .val (.long q2), .second, .val (.long q3), .second, .val (.long q4), .second, .val (.ref b1), .val (.int (p0 &&& (3 : Int32))), .val (.int (x11.toInt32)), .val (.int (x12.toInt32)), .val (.int (x13.toInt32)), .val (.int (x14.toInt32)), .val (.int ((it2_135 0).toInt32)), .unset, .unset] [(.ref b1)])) _
          refine st144.trans ?_
          show Steps p.tables e below (T144.setTop (mkF m 134 #[.val (.int p0), .val (.long q1), .second, .val (.long q2), .second, .val (.long q3), .second, .val (.long q4), .second, .val (.ref b1), .val (.int (p0 &&& (3 : Int32))), .val (.int (x11.toInt32)), .val (.int (x12.toInt32)), .val (.int (x13.toInt32)), .val (.int (x14.toInt32)), .val (.int ((it2_135 0).toInt32)), .unset, .unset] [(.long ((own_uk (own_uk (own_uk (own_uk own_zk x11 q1) x12 q2) x13 q3) x14 q4) (it2_135 0)))])) _
          refine XS.lstore X144.here hx rfl (hb hby at_134) rfl (l' := #[.val (.int p0), .val (.long q1), .second, .val (.long q2), .second, .val (.long q3), .second, .val (.long q4), .second, .val (.ref b1), .val (.int (p0 &&& (3 : Int32))), .val (.int (x11.toInt32)), .val (.int (x12.toInt32)), .val (.int (x13.toInt32)), .val (.int (x14.toInt32)), .val (.int ((it2_135 0).toInt32)), .val (.long ((own_uk (own_uk (own_uk (own_uk own_zk x11 q1) x12 q2) x13 q3) x14 q4) (it2_135 0))), .second]) rfl ?_
          show Steps p.tables e below (T144.setTop (mkF m 136 #[.val (.int p0), .val (.long q1), .second, .val (.long q2), .second, .val (.long q3), .second, .val (.long q4), .second, .val (.ref b1), .val (.int (p0 &&& (3 : Int32))), .val (.int (x11.toInt32)), .val (.int (x12.toInt32)), .val (.int (x13.toInt32)), .val (.int (x14.toInt32)), .val (.int ((it2_135 0).toInt32)), .val (.long ((own_uk (own_uk (own_uk (own_uk own_zk x11 q1) x12 q2) x13 q3) x14 q4) (it2_135 0))), .second] [])) _
          exact k)
        have hre146 : ((it2_135 0).toInt32) = (x14.toInt32) := by rw [hf139]
        have pre146 : ∀ t, Steps p.tables e below (T144.setTop (mkF m 136 #[.val (.int p0), .val (.long q1), .second, .val (.long q2), .second, .val (.long q3), .second, .val (.long q4), .second, .val (.ref b1), .val (.int (p0 &&& (3 : Int32))), .val (.int (x11.toInt32)), .val (.int (x12.toInt32)), .val (.int (x13.toInt32)), .val (.int (x14.toInt32)), .val (.int (x14.toInt32)), .val (.long ((own_uk (own_uk (own_uk (own_uk own_zk x11 q1) x12 q2) x13 q3) x14 q4) (it2_135 0))), .second] [])) t → Steps p.tables e below (s₁.setTop (entryFrame m #[(.int p0), (.long q1), (.long q2), (.long q3), (.long q4)] maxLocals)) t := fun t k => pre145 t (by rw [hre146]; exact k)
        have pre147 : ∀ t, Steps p.tables e below (T144.setTop (mkF m 136 #[.val (.int p0), .val (.long q1), .second, .val (.long q2), .second, .val (.long q3), .second, .val (.long q4), .second, .val (.ref b1), .val (.int (p0 &&& (3 : Int32))), .val (.int (x11.toInt32)), .val (.int (x12.toInt32)), .val (.int (x13.toInt32)), .val (.int (x14.toInt32)), .val (.int (x14.toInt32)), .val (.long ((own_uk (own_uk (own_uk (own_uk own_zk x11 q1) x12 q2) x13 q3) x14 q4) (it2_135 0))), .second] [])) t → Steps p.tables e below (s₁.setTop (entryFrame m #[(.int p0), (.long q1), (.long q2), (.long q3), (.long q4)] maxLocals)) t := fun t k => pre146 t (by
          show Steps p.tables e below (T144.setTop (mkF m 136 #[.val (.int p0), .val (.long q1), .second, .val (.long q2), .second, .val (.long q3), .second, .val (.long q4), .second, .val (.ref b1), .val (.int (p0 &&& (3 : Int32))), .val (.int (x11.toInt32)), .val (.int (x12.toInt32)), .val (.int (x13.toInt32)), .val (.int (x14.toInt32)), .val (.int (x14.toInt32)), .val (.long ((own_uk (own_uk (own_uk (own_uk own_zk x11 q1) x12 q2) x13 q3) x14 q4) (it2_135 0))), .second] [])) _
          exact k)
        have hre148 : ((own_uk (own_uk (own_uk (own_uk own_zk x11 q1) x12 q2) x13 q3) x14 q4) (it2_135 0)) = q4 := by rw [hf139]; exact own_uk_same _ _ _
        have pre148 : ∀ t, Steps p.tables e below (T144.setTop (mkF m 136 #[.val (.int p0), .val (.long q1), .second, .val (.long q2), .second, .val (.long q3), .second, .val (.long q4), .second, .val (.ref b1), .val (.int (p0 &&& (3 : Int32))), .val (.int (x11.toInt32)), .val (.int (x12.toInt32)), .val (.int (x13.toInt32)), .val (.int (x14.toInt32)), .val (.int (x14.toInt32)), .val (.long q4), .second] [])) t → Steps p.tables e below (s₁.setTop (entryFrame m #[(.int p0), (.long q1), (.long q2), (.long q3), (.long q4)] maxLocals)) t := fun t k => pre147 t (by rw [hre148]; exact k)
        obtain ⟨cq149, kq149, q149a, q149b, q149c⟩ := isOf hZ hh144 (E_b1_136)
        obtain ⟨_, _, ⟨T149, L149, k149, n149⟩, -, X149, ⟨Lc149, hQ149, l149, y149, z149⟩, st149⟩ := X144.virtualBack hx (y := (⟨"com/example/lean_layers/leanlayers/phase/layering/IndexedHeap", "remove", "(I)V"⟩ : MethodName)) (z := (⟨"com/example/lean_layers/leanlayers/phase/layering/IndexedHeap", "remove", "(I)V"⟩ : MethodName)) hown (mvT hZ (hw _ (List.mem_of_getElem? (i := 61) rfl))) (mvT hZ (hw _ (List.mem_of_getElem? (i := 62) rfl))) (notFace_of_selects (args := #[]) (mvT hZ (hw _ (List.mem_of_getElem? (i := 64) rfl)))) (mvT hZ (hw _ (List.mem_of_getElem? (i := 64) rfl))) (mvT hZ (hw _ (List.mem_of_getElem? (i := 63) rfl))) (by decide) (backOf (W := 0) (rm12 l Z a0 hw [] b1 (x14.toInt32) ti_5 tk_5 tp_5 (own_uk (own_uk (own_uk (own_uk own_zk x11 q1) x12 q2) x13 q3) x14 q4) it2_135 pl2_135 n2_135 x14 T135.heap n0 ZZ137 P135_1 P135_2 P135_3 E_b1_136 P135_0 P135_4 P135_5 P135_6 g_ti_5 g_tp_5 g_b1 ne_b1_ti_5 ne_b1_tk_5 ne_b1_tp_5 ne_ti_tk_5 ne_ti_tp_5 ne_tk_tp_5 rfl hx14 P135_7) hZ (hw _ (List.mem_of_getElem? (i := 65) rfl)) (hw _ (List.mem_of_getElem? (i := 2) rfl)) (by decide) (by decide)) q149a q149c (g := (mkF m 140 #[.val (.int p0), .val (.long q1), .second, .val (.long q2), .second, .val (.long q3), .second, .val (.long q4), .second, .val (.ref b1), .val (.int (p0 &&& (3 : Int32))), .val (.int (x11.toInt32)), .val (.int (x12.toInt32)), .val (.int (x13.toInt32)), .val (.int (x14.toInt32)), .val (.int (x14.toInt32)), .val (.long q4), .second] [(.int (x14.toInt32)), (.ref b1)])) rfl (by rw [hml]; rfl) (Steps.refl _) (argsL := [(.int (x14.toInt32))]) (rest := []) (lenOf pd_3 rfl) rfl (by show 2 * 0 + _ ≤ _; exact Nat.le_of_eq rfl) (hb hby at_140) (fun _ _ => ⟨rfl, hh144, (by decide : 4 + 0 ≤ _), (by decide : 16 + 0 ≤ _)⟩)
        dsimp only [Pt.U, Pt.locs, Pt.cells, Pt.slots] at X149 l149 y149 z149 st149 hQ149
        subst y149 z149
        obtain ⟨n2_149, it2_149, pl2_149, rfl, N149q, Kc149, P149_0, P149_1, P149_2, P149_3, P149_4, P149_5, P149_6, P149_7⟩ := hQ149
        have N149 := Fr.app N144 N149q
        rw [← l149] at N149
        have E_b1_150 : Exa Z T149.heap b1 "com/example/lean_layers/leanlayers/phase/layering/IndexedHeap" := (E_b1_136).keep Kc149
        have A_tk_5_150 : own_A Z T149.heap tk_5 .long 4 (fun kk => (.long ((own_uk (own_uk (own_uk (own_uk own_zk x11 q1) x12 q2) x13 q3) x14 q4) kk))) := (P135_5).keep Kc149 (ninS (Ne.symm ne_ti_tk_5) (ninS ne_tk_tp_5 (ninS (Ne.symm ne_b1_tk_5) nin0)))
        have SZ151 : h0.size ≤ T149.heap.size := Nat.le_trans SZ137 Kc149.1
        have ZZ151 : n0 ≤ T149.heap.size := Nat.le_trans Z0 SZ151
        have K152 : Keep h0 T149.heap [] := (K138).trans Kc149 (allS (Or.inr szz_ti_5) (allS (Or.inr szz_tp_5) (allS (Or.inr sz_b1) all0)))
        obtain ⟨cq153, kq153, q153a, q153b, q153c⟩ := isOf hZ rfl (E_b1_150)
        obtain ⟨_, _, ⟨T153, L153, k153, n153⟩, -, X153, ⟨Lc153, hQ153, l153, y153, z153⟩, st153⟩ := X149.virtualBack hx (y := (⟨"com/example/lean_layers/leanlayers/phase/layering/IndexedHeap", "isEmpty", "()Z"⟩ : MethodName)) (z := (⟨"com/example/lean_layers/leanlayers/phase/layering/IndexedHeap", "isEmpty", "()Z"⟩ : MethodName)) hown (mvT hZ (hw _ (List.mem_of_getElem? (i := 28) rfl))) (mvT hZ (hw _ (List.mem_of_getElem? (i := 29) rfl))) (notFace_of_selects (args := #[]) (mvT hZ (hw _ (List.mem_of_getElem? (i := 31) rfl)))) (mvT hZ (hw _ (List.mem_of_getElem? (i := 31) rfl))) (mvT hZ (hw _ (List.mem_of_getElem? (i := 30) rfl))) (by decide) (backOf (W := 0) (rm5 l Z a0 hw [] b1 (n2_149.toInt32) T149.heap n0 ZZ151 P149_0) hZ (hw _ (List.mem_of_getElem? (i := 32) rfl)) (hw _ (List.mem_of_getElem? (i := 2) rfl)) (by decide) (by decide)) q153a q153c (g := (mkF m 160 #[.val (.int p0), .val (.long q1), .second, .val (.long q2), .second, .val (.long q3), .second, .val (.long q4), .second, .val (.ref b1), .val (.int (p0 &&& (3 : Int32))), .val (.int (x11.toInt32)), .val (.int (x12.toInt32)), .val (.int (x13.toInt32)), .val (.int (x14.toInt32)), .val (.int (x14.toInt32)), .val (.long q4), .second] [(.ref b1)])) rfl (by rw [hml]; rfl) (Steps.refl _) (argsL := []) (rest := []) (lenOf pd_6 rfl) rfl (by show 2 * 0 + _ ≤ _; exact Nat.le_of_eq rfl) (hb hby at_160) (fun _ _ => ⟨rfl, rfl, (by decide : 4 + 0 ≤ _), (by decide : 16 + 0 ≤ _)⟩)
        dsimp only [Pt.U, Pt.locs, Pt.cells, Pt.slots] at X153 l153 y153 z153 st153 hQ153
        subst y153 z153
        obtain ⟨rfl, N153q, hh153⟩ := hQ153
        have N153 := Fr.app N149 N153q
        rw [← l153] at N153
        have pre154 : ∀ t, Steps p.tables e below (T153.setTop (mkF m 163 #[.val (.int p0), .val (.long q1), .second, .val (.long q2), .second, .val (.long q3), .second, .val (.long q4), .second, .val (.ref b1), .val (.int (p0 &&& (3 : Int32))), .val (.int (x11.toInt32)), .val (.int (x12.toInt32)), .val (.int (x13.toInt32)), .val (.int (x14.toInt32)), .val (.int (x14.toInt32)), .val (.long q4), .second] [(.int ((f5_12 (n2_149.toInt32)) &&& 1))])) t → Steps p.tables e below (s₁.setTop (entryFrame m #[(.int p0), (.long q1), (.long q2), (.long q3), (.long q4)] maxLocals)) t := fun t k => pre148 t (by
          show Steps p.tables e below (T144.setTop (mkF m 136 #[.val (.int p0), .val (.long q1), .second, .val (.long q2), .second, .val (.long q3), .second, .val (.long q4), .second, .val (.ref b1), .val (.int (p0 &&& (3 : Int32))), .val (.int (x11.toInt32)), .val (.int (x12.toInt32)), .val (.int (x13.toInt32)), .val (.int (x14.toInt32)), .val (.int (x14.toInt32)), .val (.long q4), .second] [])) _
          refine XS.aload X144.here hx rfl (hb hby at_136) rfl rfl ?_
          show Steps p.tables e below (T144.setTop (mkF m 138 #[.val (.int p0), .val (.long q1), .second, .val (.long q2), .second, .val (.long q3), .second, .val (.long q4), .second, .val (.ref b1), .val (.int (p0 &&& (3 : Int32))), .val (.int (x11.toInt32)), .val (.int (x12.toInt32)), .val (.int (x13.toInt32)), .val (.int (x14.toInt32)), .val (.int (x14.toInt32)), .val (.long q4), .second] [(.ref b1)])) _
          refine XS.iload X144.here hx rfl (hb hby at_138) rfl ?_
          show Steps p.tables e below (T144.setTop (mkF m 140 #[.val (.int p0), .val (.long q1), .second, .val (.long q2), .second, .val (.long q3), .second, .val (.long q4), .second, .val (.ref b1), .val (.int (p0 &&& (3 : Int32))), .val (.int (x11.toInt32)), .val (.int (x12.toInt32)), .val (.int (x13.toInt32)), .val (.int (x14.toInt32)), .val (.int (x14.toInt32)), .val (.long q4), .second] [(.int (x14.toInt32)), (.ref b1)])) _
          refine st149.trans ?_
          show Steps p.tables e below (T149.setTop (mkF m 143 #[.val (.int p0), .val (.long q1), .second, .val (.long q2), .second, .val (.long q3), .second, .val (.long q4), .second, .val (.ref b1), .val (.int (p0 &&& (3 : Int32))), .val (.int (x11.toInt32)), .val (.int (x12.toInt32)), .val (.int (x13.toInt32)), .val (.int (x14.toInt32)), .val (.int (x14.toInt32)), .val (.long q4), .second] [])) _
          refine XS.iload X149.here hx rfl (hb hby at_143) rfl ?_
          show Steps p.tables e below (T149.setTop (mkF m 145 #[.val (.int p0), .val (.long q1), .second, .val (.long q2), .second, .val (.long q3), .second, .val (.long q4), .second, .val (.ref b1), .val (.int (p0 &&& (3 : Int32))), .val (.int (x11.toInt32)), .val (.int (x12.toInt32)), .val (.int (x13.toInt32)), .val (.int (x14.toInt32)), .val (.int (x14.toInt32)), .val (.long q4), .second] [(.int (x14.toInt32))])) _
          refine XS.iload X149.here hx rfl (hb hby at_145) rfl ?_
          show Steps p.tables e below (T149.setTop (mkF m 147 #[.val (.int p0), .val (.long q1), .second, .val (.long q2), .second, .val (.long q3), .second, .val (.long q4), .second, .val (.ref b1), .val (.int (p0 &&& (3 : Int32))), .val (.int (x11.toInt32)), .val (.int (x12.toInt32)), .val (.int (x13.toInt32)), .val (.int (x14.toInt32)), .val (.int (x14.toInt32)), .val (.long q4), .second] [(.int (x14.toInt32)), (.int (x14.toInt32))])) _
          refine XS.icmpNo X149.here hx rfl (hb hby at_147) rfl (teq rfl).2 ?_
          show Steps p.tables e below (T149.setTop (mkF m 150 #[.val (.int p0), .val (.long q1), .second, .val (.long q2), .second, .val (.long q3), .second, .val (.long q4), .second, .val (.ref b1), .val (.int (p0 &&& (3 : Int32))), .val (.int (x11.toInt32)), .val (.int (x12.toInt32)), .val (.int (x13.toInt32)), .val (.int (x14.toInt32)), .val (.int (x14.toInt32)), .val (.long q4), .second] [])) _
          refine XS.lload X149.here hx rfl (hb hby at_150) rfl ?_
          show Steps p.tables e below (T149.setTop (mkF m 152 #[.val (.int p0), .val (.long q1), .second, .val (.long q2), .second, .val (.long q3), .second, .val (.long q4), .second, .val (.ref b1), .val (.int (p0 &&& (3 : Int32))), .val (.int (x11.toInt32)), .val (.int (x12.toInt32)), .val (.int (x13.toInt32)), .val (.int (x14.toInt32)), .val (.int (x14.toInt32)), .val (.long q4), .second] [(.long q4)])) _
          refine XS.lload X149.here hx rfl (hb hby at_152) rfl ?_
          show Steps p.tables e below (T149.setTop (mkF m 154 #[.val (.int p0), .val (.long q1), .second, .val (.long q2), .second, .val (.long q3), .second, .val (.long q4), .second, .val (.ref b1), .val (.int (p0 &&& (3 : Int32))), .val (.int (x11.toInt32)), .val (.int (x12.toInt32)), .val (.int (x13.toInt32)), .val (.int (x14.toInt32)), .val (.int (x14.toInt32)), .val (.long q4), .second] [(.long q4), (.long q4)])) _
          refine XS.lcmp X149.here hx rfl (hb hby at_154) rfl ?_
          show Steps p.tables e below (T149.setTop (mkF m 155 #[.val (.int p0), .val (.long q1), .second, .val (.long q2), .second, .val (.long q3), .second, .val (.long q4), .second, .val (.ref b1), .val (.int (p0 &&& (3 : Int32))), .val (.int (x11.toInt32)), .val (.int (x12.toInt32)), .val (.int (x13.toInt32)), .val (.int (x14.toInt32)), .val (.int (x14.toInt32)), .val (.long q4), .second] [(.int (lcmpW q4 q4))])) _
          refine XS.ifNo X149.here hx rfl (hb hby at_155) rfl (own_eqL rfl).2 ?_
          show Steps p.tables e below (T149.setTop (mkF m 158 #[.val (.int p0), .val (.long q1), .second, .val (.long q2), .second, .val (.long q3), .second, .val (.long q4), .second, .val (.ref b1), .val (.int (p0 &&& (3 : Int32))), .val (.int (x11.toInt32)), .val (.int (x12.toInt32)), .val (.int (x13.toInt32)), .val (.int (x14.toInt32)), .val (.int (x14.toInt32)), .val (.long q4), .second] [])) _
          refine XS.aload X149.here hx rfl (hb hby at_158) rfl rfl ?_
          show Steps p.tables e below (T149.setTop (mkF m 160 #[.val (.int p0), .val (.long q1), .second, .val (.long q2), .second, .val (.long q3), .second, .val (.long q4), .second, .val (.ref b1), .val (.int (p0 &&& (3 : Int32))), .val (.int (x11.toInt32)), .val (.int (x12.toInt32)), .val (.int (x13.toInt32)), .val (.int (x14.toInt32)), .val (.int (x14.toInt32)), .val (.long q4), .second] [(.ref b1)])) _
          refine st153.trans ?_
          show Steps p.tables e below (T153.setTop (mkF m 163 #[.val (.int p0), .val (.long q1), .second, .val (.long q2), .second, .val (.long q3), .second, .val (.long q4), .second, .val (.ref b1), .val (.int (p0 &&& (3 : Int32))), .val (.int (x11.toInt32)), .val (.int (x12.toInt32)), .val (.int (x13.toInt32)), .val (.int (x14.toInt32)), .val (.int (x14.toInt32)), .val (.long q4), .second] [(.int ((f5_12 (n2_149.toInt32)) &&& 1))])) _
          exact k)
        have hre155 : ((f5_12 (n2_149.toInt32)) &&& 1) = (1 : Int32) := own_ie0 ((own_IV_n0 P149_6 (by decide)).mpr fun y hy => (P149_7 y hy).mpr (Classical.byCases (fun q : y = x14 => Or.inl q) (fun q => Or.inr ((P135_8 y hy).mpr ⟨q, P128_5 y hy⟩))))
        have pre155 : ∀ t, Steps p.tables e below (T153.setTop (mkF m 163 #[.val (.int p0), .val (.long q1), .second, .val (.long q2), .second, .val (.long q3), .second, .val (.long q4), .second, .val (.ref b1), .val (.int (p0 &&& (3 : Int32))), .val (.int (x11.toInt32)), .val (.int (x12.toInt32)), .val (.int (x13.toInt32)), .val (.int (x14.toInt32)), .val (.int (x14.toInt32)), .val (.long q4), .second] [(.int (1 : Int32))])) t → Steps p.tables e below (s₁.setTop (entryFrame m #[(.int p0), (.long q1), (.long q2), (.long q3), (.long q4)] maxLocals)) t := fun t k => pre154 t (by rw [hre155]; exact k)
        have pre156 : ∀ t, Steps p.tables e below (T153.setTop (mkF m 171 #[.val (.int p0), .val (.long q1), .second, .val (.long q2), .second, .val (.long q3), .second, .val (.long q4), .second, .val (.ref b1), .val (.int (p0 &&& (3 : Int32))), .val (.int (x11.toInt32)), .val (.int (x12.toInt32)), .val (.int (x13.toInt32)), .val (.int (x14.toInt32)), .val (.int (x14.toInt32)), .val (.long q4), .second] [(.int (1 : Int32))])) t → Steps p.tables e below (s₁.setTop (entryFrame m #[(.int p0), (.long q1), (.long q2), (.long q3), (.long q4)] maxLocals)) t := fun t k => pre155 t (by
          show Steps p.tables e below (T153.setTop (mkF m 163 #[.val (.int p0), .val (.long q1), .second, .val (.long q2), .second, .val (.long q3), .second, .val (.long q4), .second, .val (.ref b1), .val (.int (p0 &&& (3 : Int32))), .val (.int (x11.toInt32)), .val (.int (x12.toInt32)), .val (.int (x13.toInt32)), .val (.int (x14.toInt32)), .val (.int (x14.toInt32)), .val (.long q4), .second] [(.int (1 : Int32))])) _
          refine XS.ifNo X153.here hx rfl (hb hby at_163) rfl ((if0 _ _).trans (feq (show ¬ ((1 : Int32) = (0 : Int32)) by decide)).1) ?_
          show Steps p.tables e below (T153.setTop (mkF m 166 #[.val (.int p0), .val (.long q1), .second, .val (.long q2), .second, .val (.long q3), .second, .val (.long q4), .second, .val (.ref b1), .val (.int (p0 &&& (3 : Int32))), .val (.int (x11.toInt32)), .val (.int (x12.toInt32)), .val (.int (x13.toInt32)), .val (.int (x14.toInt32)), .val (.int (x14.toInt32)), .val (.long q4), .second] [])) _
          refine XS.iconst X153.here hx rfl (hb hby at_166) ?_
          show Steps p.tables e below (T153.setTop (mkF m 167 #[.val (.int p0), .val (.long q1), .second, .val (.long q2), .second, .val (.long q3), .second, .val (.long q4), .second, .val (.ref b1), .val (.int (p0 &&& (3 : Int32))), .val (.int (x11.toInt32)), .val (.int (x12.toInt32)), .val (.int (x13.toInt32)), .val (.int (x14.toInt32)), .val (.int (x14.toInt32)), .val (.long q4), .second] [(.int (1 : Int32))])) _
          refine XS.goto X153.here hx rfl (pc0 := 167) (pc' := 171) rfl (hb hby at_167) (by decide) (by decide) ?_
          show Steps p.tables e below (T153.setTop (mkF m 171 #[.val (.int p0), .val (.long q1), .second, .val (.long q2), .second, .val (.long q3), .second, .val (.long q4), .second, .val (.ref b1), .val (.int (p0 &&& (3 : Int32))), .val (.int (x11.toInt32)), .val (.int (x12.toInt32)), .val (.int (x13.toInt32)), .val (.int (x14.toInt32)), .val (.int (x14.toInt32)), .val (.long q4), .second] [(.int (1 : Int32))])) _
          exact k)
        obtain ⟨fs, hr, hrun, hended, hW, hsame⟩ := X153.leave (v := some (.int (1 : Int32))) (fun h => by rw [Bd.returns] at h; cases h)
        refine ⟨_, _, pre156 _ ?_, hrun, hended, _, _, rfl, ?_, ⟨_, rfl⟩, hW, hsame.mono (by decide) (by decide)⟩
        · exact retN X153 hx (t := .boolean) Bd.returns (by simp) (hb hby at_171) hr
        · show Q0 Z p0 q1 q2 q3 q4 h0 n0 _ T153.heap _
          rw [hh153]
          exact ⟨rfl, N153⟩
set_option maxRecDepth 65536 in
set_option maxHeartbeats 40000000 in
theorem comes_1 {Post : Tables → Env → Array Value → State → Outcome → State → Prop} (hpost : ∀ tb e args s v u, (limb_1_1.after args s (.returned v) u = true ∧ limb_1_2.after args s (.returned v) u = true ∧ True) → FrameEnd s (.returned v) u (Jvm.fieldLocs frame_1_writes args s ++ Jvm.arrayLocs frame_1_arrays args s ++ Jvm.staticLocs frame_1_statics s) 16 128 → Post tb e args s (.returned v) u) :
    ArmFor flags0 classFile x code maxLocals ret World_1 tables_1 room_1 Calls_1 rest_1 Pre_1 Post := by
  intro l hfl _ _ p e ha hc hk s m args below hf hA hF happ hP
  obtain ⟨hcalls, hrest, hpre⟩ := hP
  obtain ⟨-, -, -, hnamed, -, -, -, hat⟩ := (Spec.applies_iff hf).mp happ
  obtain ⟨hg, hn⟩ := and_e (Cond.before_iff.mp (show (Jvm.Cond.and given_1 narrow_1).before args s = true from hpre))
  obtain ⟨h1, g0⟩ := and_e hg
  obtain ⟨u0, g1⟩ := and_e g0
  obtain ⟨u1, g2⟩ := and_e g1
  obtain ⟨u2, g3⟩ := and_e g2
  obtain ⟨u3, g4⟩ := and_e g3
  obtain ⟨w0, w1, w2, w3, w4, rfl⟩ : ∃ w0 w1 w2 w3 w4 : Value, args = #[w0, w1, w2, w3, w4] := by
    have hs : args.size = 5 := by simpa [Cond.value, given_1] using h1
    obtain ⟨L⟩ := args
    match L, hs with
    | [w0, w1, w2, w3, w4], _ => exact ⟨w0, w1, w2, w3, w4, rfl⟩
  have hw := fun d (hd : d ∈ tables_1) => atoms_spec (ws := Jvm.Cond.code x code maxLocals ret :: tables_1) hat d (List.mem_cons_of_mem _ hd)
  have hfit : Fit s := fun {y c} hc i hi => by
    obtain ⟨ha, rfl⟩ := Array.getElem?_eq_some_iff.mp hc
    have q := List.all_eq_true.mp ((Array.all_eq_true_iff_forall_mem.mp hF) _ (Array.getElem_mem ha)) i (List.mem_range.mpr hi)
    simpa [Array.getElem?_eq_getElem hi] using q
  obtain ⟨i0, e0⟩ := is_v u0
  obtain rfl : w0 = (.int i0) := Option.some.inj e0
  obtain ⟨i1, e1⟩ := isL_v u1
  obtain rfl : w1 = (.long i1) := Option.some.inj e1
  obtain ⟨i2, e2⟩ := isL_v u2
  obtain rfl : w2 = (.long i2) := Option.some.inj e2
  obtain ⟨i3, e3⟩ := isL_v u3
  obtain rfl : w3 = (.long i3) := Option.some.inj e3
  obtain ⟨i4, e4⟩ := isL_v g4
  obtain rfl : w4 = (.long i4) := Option.some.inj e4
  obtain ⟨n, o, h1, h2, h3, _, L, rfl, ⟨rfl, N⟩, hq⟩ := rm0 l s _ hw tables_1 i0 i1 i2 i3 i4  s.heap s.heap.size (Nat.le_refl _)  p e ha hc hk s m _ below hf ((Spec.applies_iff_loose hf).mp happ).1 ⟨rfl, State.Warmed39.refl s, rfl⟩ trivial
  refine ⟨n, _, h1, h2, h3, hpost _ _ _ _ _ _ ⟨Cond.after_iff.mpr rfl, Cond.after_iff.mpr (eq_i res_at (Term.int_eval (1)) rfl), trivial⟩ ⟨hq.1, hq.2.1, (hq.2.2.sift fun y hy => Or.inr (N y hy)).mono (by decide) (by decide)⟩⟩
theorem main_1_1 : Claimed_1_1 := comes_1 fun _ _ _ _ _ _ h hF => ⟨h.1, hF⟩
theorem main_1_2 : Claimed_1_2 := comes_1 fun _ _ _ _ _ _ h hF => ⟨h.2.1, hF⟩
end Jvm.Pilot.@@N@@
namespace Jvm.Pilot.@@N@@
open Jvm Jvm.ClassFile Sem Op Lib Jvm.Free Jvm.Stand Jvm.Pilot.@@N@@.Jvm.D
/-! MADE BY PROGRAM (witnessworld.py) out of the Statement's table words and the real class files: 12 classes; the members and pool entries that the words name. The judged class is class 1, her method 1. -/
namespace start1
open Jvm.ClassFile
def u (s : String) : CpInfo := .utf8 (stringToUtf16 s)
/-- a pool by its gaps: so many unusable entries, then the entry; so many at the end -/
def gap : Nat → List CpInfo → List CpInfo
  | 0, r => r
  | n + 1, r => .unusable :: gap n r
def poolList (es : List (Nat × CpInfo)) (last : Nat) : List CpInfo := es.foldr (fun e r => gap e.1 (e.2 :: r)) (gap last [])
def pool (es : List (Nat × CpInfo)) (last : Nat) : Array CpInfo := ⟨poolList es last⟩
def fileOf (pool : Array CpInfo) (this : Nat) (attrs : Array Attribute := #[]) (ms : Array MethodInfo := #[]) (fl : Nat := 33) (sup : Nat := 0) (ifs : Array Nat := #[]) (fds : Array FieldInfo := #[]) : ClassFile where
  minorVersion := 0
  majorVersion := 65
  constantPool := pool
  accessFlags := fl
  thisClass := this
  superClass := sup
  interfaces := ifs
  fields := fds
  methods := ms
  attributes := attrs
def plain (name : String) (sup : Option ClassId) : Class where
  name := name
  kind := .ordinary
  loader := none
  accessFlags := 33
  super := sup
  interfaces := #[]
  cf := none
  fields := #[]
  methods := #[]
  instanceTypes := #[]
  staticTypes := #[]
  resolved := #[]
  callSites := []
  init := .initialized
  statics := none
  mirror := none

def pool0 : Array CpInfo := pool [(5, u "<init>"), (0, u "()V"), (1, .class_ 10), (1, u "java/lang/Object")] 113

def k0c0 : Code := { maxStack := 0, maxLocals := 1, code := object_method_1_code, exceptionTable := #[], attributes := #[] }
def k0m0 : Method := { name := "<init>", desc := "()V", sig := { parameters := [], returnType := none }, accessFlags := 1, code := some k0c0 }
/-- java/lang/Object -/
def k0 : Class := { plain "java/lang/Object" none with
  accessFlags := 33
  interfaces := #[]
  cf := some (fileOf pool0 8 #[] #[{ accessFlags := 1, nameIndex := 5, descriptorIndex := 6, attributes := #[] }] 33 0 #[] #[])
  fields := #[]
  methods := #[k0m0]
  instanceTypes := #[]
  staticTypes := #[]
  resolved := Array.replicate 124 none
  statics := none }

def pool1 : Array CpInfo := pool [(2, .class_ 4), (1, u "java/lang/Object"), (0, u "<init>"), (0, u "()V"), (0, .class_ 8), (0, u "com/example/lean_layers/leanlayers/phase/layering/IndexedHeap"), (0, .methodref 7 10), (0, .nameAndType 5 11), (0, u "(I)V"), (0, .methodref 7 13), (0, .nameAndType 14 15), (0, u "put"), (0, u "(IJ)V"), (0, .methodref 7 17), (0, .nameAndType 18 6), (0, u "clear"), (0, .methodref 7 20), (0, .nameAndType 21 22), (0, u "isEmpty"), (0, u "()Z"), (0, .methodref 7 24), (0, .nameAndType 25 26), (0, u "first"), (0, u "()I"), (0, .methodref 7 28), (0, .nameAndType 29 30), (0, u "firstKey"), (0, u "()J"), (0, .methodref 7 32), (0, .nameAndType 33 11), (0, u "remove"), (0, .class_ 35), (0, u "com/example/lean_layers/leanlayers/phase/layering/IndexedHeapClearPinLaw"), (2, u "law"), (0, u "(IJJJJ)Z")] 3

def k1m0 : Method := { name := "<init>", desc := "()V", sig := { parameters := [], returnType := none }, accessFlags := 2, code := none }
def k1c1 : Code := { maxStack := 4, maxLocals := 18, code := code, exceptionTable := #[], attributes := #[] }
def k1m1 : Method := { name := "law", desc := "(IJJJJ)Z", sig := { parameters := [.int, .long, .long, .long, .long], returnType := some .boolean }, accessFlags := 9, code := some k1c1 }
/-- com/example/lean_layers/leanlayers/phase/layering/IndexedHeapClearPinLaw -/
def k1 : Class := { plain "com/example/lean_layers/leanlayers/phase/layering/IndexedHeapClearPinLaw" (some 0) with
  accessFlags := 49
  interfaces := #[]
  cf := some (fileOf pool1 34 #[] #[{ accessFlags := 2, nameIndex := 5, descriptorIndex := 6, attributes := #[] }, { accessFlags := 9, nameIndex := 38, descriptorIndex := 39, attributes := #[] }] 49 2 #[] #[])
  fields := #[]
  methods := #[k1m0, k1m1]
  instanceTypes := #[]
  staticTypes := #[]
  resolved := Array.replicate 43 none
  statics := none }

def pool2 : Array CpInfo := pool [(1, .methodref 2 3), (0, .class_ 4), (0, .nameAndType 5 6), (0, u "java/lang/Object"), (0, u "<init>"), (0, u "()V"), (0, .fieldref 8 9), (0, .class_ 10), (0, .nameAndType 11 12), (0, u "com/example/lean_layers/leanlayers/phase/layering/IndexedHeap"), (0, u "items"), (0, u "[I"), (0, .fieldref 8 14), (0, .nameAndType 15 16), (0, u "keys"), (0, u "[J"), (0, .fieldref 8 18), (0, .nameAndType 19 12), (0, u "place"), (0, .methodref 21 22), (0, .class_ 23), (0, .nameAndType 24 25), (0, u "java/util/Arrays"), (0, u "fill"), (0, u "([II)V"), (0, .fieldref 8 27), (0, .nameAndType 28 29), (0, u "size"), (0, u "I"), (7, .methodref 8 38), (0, .nameAndType 39 40), (0, u "first"), (0, u "()I"), (0, .methodref 8 42), (0, .nameAndType 43 44), (0, u "siftUp"), (0, u "(I)V"), (0, .methodref 8 46), (0, .nameAndType 47 44), (0, u "siftDown"), (0, .methodref 8 49), (0, .nameAndType 50 51), (0, u "before"), (0, u "(II)Z"), (0, .methodref 8 53), (0, .nameAndType 54 55), (0, u "setAt"), (0, u "(II)V"), (2, u "isEmpty"), (0, u "()Z"), (1, u "firstKey"), (0, u "()J"), (0, u "put"), (0, u "(IJ)V"), (0, u "remove"), (0, u "clear")] 2

def k2c0 : Code := { maxStack := 2, maxLocals := 2, code := prog_55_method_1_code, exceptionTable := #[], attributes := #[] }
def k2m0 : Method := { name := "<init>", desc := "(I)V", sig := { parameters := [.int], returnType := none }, accessFlags := 0, code := some k2c0 }
def k2c1 : Code := { maxStack := 1, maxLocals := 1, code := prog_55_method_2_code, exceptionTable := #[], attributes := #[] }
def k2m1 : Method := { name := "isEmpty", desc := "()Z", sig := { parameters := [], returnType := some .boolean }, accessFlags := 0, code := some k2c1 }
def k2c2 : Code := { maxStack := 3, maxLocals := 1, code := prog_55_method_3_code, exceptionTable := #[], attributes := #[] }
def k2m2 : Method := { name := "first", desc := "()I", sig := { parameters := [], returnType := some .int }, accessFlags := 0, code := some k2c2 }
def k2c3 : Code := { maxStack := 2, maxLocals := 1, code := prog_55_method_4_code, exceptionTable := #[], attributes := #[] }
def k2m3 : Method := { name := "firstKey", desc := "()J", sig := { parameters := [], returnType := some .long }, accessFlags := 0, code := some k2c3 }
def k2c4 : Code := { maxStack := 4, maxLocals := 4, code := prog_55_method_5_code, exceptionTable := #[], attributes := #[] }
def k2m4 : Method := { name := "put", desc := "(IJ)V", sig := { parameters := [.int, .long], returnType := none }, accessFlags := 0, code := some k2c4 }
def k2c5 : Code := { maxStack := 3, maxLocals := 4, code := prog_55_method_6_code, exceptionTable := #[], attributes := #[] }
def k2m5 : Method := { name := "remove", desc := "(I)V", sig := { parameters := [.int], returnType := none }, accessFlags := 0, code := some k2c5 }
def k2c6 : Code := { maxStack := 3, maxLocals := 2, code := prog_55_method_7_code, exceptionTable := #[], attributes := #[] }
def k2m6 : Method := { name := "clear", desc := "()V", sig := { parameters := [], returnType := none }, accessFlags := 0, code := some k2c6 }
def k2c7 : Code := { maxStack := 5, maxLocals := 4, code := prog_55_method_8_code, exceptionTable := #[], attributes := #[] }
def k2m7 : Method := { name := "siftUp", desc := "(I)V", sig := { parameters := [.int], returnType := none }, accessFlags := 2, code := some k2c7 }
def k2c8 : Code := { maxStack := 4, maxLocals := 5, code := prog_55_method_9_code, exceptionTable := #[], attributes := #[] }
def k2m8 : Method := { name := "siftDown", desc := "(I)V", sig := { parameters := [.int], returnType := none }, accessFlags := 2, code := some k2c8 }
def k2c9 : Code := { maxStack := 4, maxLocals := 3, code := prog_55_method_10_code, exceptionTable := #[], attributes := #[] }
def k2m9 : Method := { name := "before", desc := "(II)Z", sig := { parameters := [.int, .int], returnType := some .boolean }, accessFlags := 2, code := some k2c9 }
def k2c10 : Code := { maxStack := 3, maxLocals := 3, code := prog_55_method_11_code, exceptionTable := #[], attributes := #[] }
def k2m10 : Method := { name := "setAt", desc := "(II)V", sig := { parameters := [.int, .int], returnType := none }, accessFlags := 2, code := some k2c10 }
/-- com/example/lean_layers/leanlayers/phase/layering/IndexedHeap -/
def k2 : Class := { plain "com/example/lean_layers/leanlayers/phase/layering/IndexedHeap" (some 0) with
  accessFlags := 48
  interfaces := #[]
  cf := some (fileOf pool2 8 #[] #[{ accessFlags := 0, nameIndex := 5, descriptorIndex := 44, attributes := #[] }, { accessFlags := 0, nameIndex := 58, descriptorIndex := 59, attributes := #[] }, { accessFlags := 0, nameIndex := 39, descriptorIndex := 40, attributes := #[] }, { accessFlags := 0, nameIndex := 61, descriptorIndex := 62, attributes := #[] }, { accessFlags := 0, nameIndex := 63, descriptorIndex := 64, attributes := #[] }, { accessFlags := 0, nameIndex := 65, descriptorIndex := 44, attributes := #[] }, { accessFlags := 0, nameIndex := 66, descriptorIndex := 6, attributes := #[] }, { accessFlags := 2, nameIndex := 43, descriptorIndex := 44, attributes := #[] }, { accessFlags := 2, nameIndex := 47, descriptorIndex := 44, attributes := #[] }, { accessFlags := 2, nameIndex := 50, descriptorIndex := 51, attributes := #[] }, { accessFlags := 2, nameIndex := 54, descriptorIndex := 55, attributes := #[] }] 48 2 #[] #[{ accessFlags := 18, nameIndex := 11, descriptorIndex := 12, attributes := #[] }, { accessFlags := 18, nameIndex := 15, descriptorIndex := 16, attributes := #[] }, { accessFlags := 18, nameIndex := 19, descriptorIndex := 12, attributes := #[] }, { accessFlags := 2, nameIndex := 28, descriptorIndex := 29, attributes := #[] }])
  fields := #[{ name := "items", type := (.array .int), accessFlags := 18, slot := 0, constantValue := 0 }, { name := "keys", type := (.array .long), accessFlags := 18, slot := 1, constantValue := 0 }, { name := "place", type := (.array .int), accessFlags := 18, slot := 2, constantValue := 0 }, { name := "size", type := .int, accessFlags := 2, slot := 3, constantValue := 0 }]
  methods := #[k2m0, k2m1, k2m2, k2m3, k2m4, k2m5, k2m6, k2m7, k2m8, k2m9, k2m10]
  instanceTypes := #[(.array .int), (.array .long), (.array .int), .int]
  staticTypes := #[]
  resolved := Array.replicate 69 none
  statics := none }

def pool3 : Array CpInfo := pool [(2, .class_ 4), (1, u "java/lang/Object"), (0, u "<init>"), (0, u "()V"), (7, .class_ 16), (1, u "java/util/Arrays"), (57, .class_ 76), (1, u "java/util/Arrays$NaturalOrder"), (36, .class_ 115), (1, u "java/util/Arrays$LegacyMergeSort"), (1, u "Z"), (257, .class_ 376), (0, u "java/util/Arrays$ArrayList"), (68, u "$assertionsDisabled"), (269, u "MIN_ARRAY_SORT_GRAN"), (0, u "I"), (2, u "INSERTIONSORT_THRESHOLD"), (120, u "fill"), (4, u "([II)V"), (129, .class_ 976), (0, u "java/util/Arrays$ArrayItr")] 52

def k3m0 : Method := { name := "<init>", desc := "()V", sig := { parameters := [], returnType := none }, accessFlags := 2, code := none }
def k3c1 : Code := { maxStack := 3, maxLocals := 4, code := jdk_65_method_103_code, exceptionTable := #[], attributes := #[] }
def k3m1 : Method := { name := "fill", desc := "([II)V", sig := { parameters := [(.array .int), .int], returnType := none }, accessFlags := 9, code := some k3c1 }
/-- java/util/Arrays -/
def k3 : Class := { plain "java/util/Arrays" (some 0) with
  accessFlags := 49
  interfaces := #[]
  cf := some (fileOf pool3 14 #[.nestMembers #[975, 375, 113, 74]] #[{ accessFlags := 2, nameIndex := 5, descriptorIndex := 6, attributes := #[] }, { accessFlags := 9, nameIndex := 840, descriptorIndex := 845, attributes := #[] }] 49 2 #[] #[{ accessFlags := 26, nameIndex := 715, descriptorIndex := 716, attributes := #[] }, { accessFlags := 26, nameIndex := 719, descriptorIndex := 716, attributes := #[] }, { accessFlags := 4120, nameIndex := 445, descriptorIndex := 117, attributes := #[] }])
  fields := #[{ name := "MIN_ARRAY_SORT_GRAN", type := .int, accessFlags := 26, slot := 0, constantValue := 0 }, { name := "INSERTIONSORT_THRESHOLD", type := .int, accessFlags := 26, slot := 1, constantValue := 0 }, { name := "$assertionsDisabled", type := .boolean, accessFlags := 4120, slot := 2, constantValue := 0 }]
  methods := #[k3m0, k3m1]
  instanceTypes := #[]
  staticTypes := #[.int, .int, .boolean]
  resolved := Array.replicate 1029 none
  statics := none }

def pool4 : Array CpInfo := pool [(1, u "java/lang/Cloneable"), (0, .class_ 1), (0, u "java/lang/Object"), (0, .class_ 3)] 3

/-- java/lang/Cloneable -/
def k4 : Class := { plain "java/lang/Cloneable" (some 0) with
  accessFlags := 1537
  interfaces := #[]
  cf := some (fileOf pool4 2 #[] #[] 1537 4 #[] #[])
  fields := #[]
  methods := #[]
  instanceTypes := #[]
  staticTypes := #[]
  resolved := Array.replicate 8 none
  statics := none }

def pool5 : Array CpInfo := pool [(1, u "java/io/Serializable"), (0, .class_ 1), (0, u "java/lang/Object"), (0, .class_ 3)] 3

/-- java/io/Serializable -/
def k5 : Class := { plain "java/io/Serializable" (some 0) with
  accessFlags := 1537
  interfaces := #[]
  cf := some (fileOf pool5 2 #[] #[] 1537 4 #[] #[])
  fields := #[]
  methods := #[]
  instanceTypes := #[]
  staticTypes := #[]
  resolved := Array.replicate 8 none
  statics := none }

/-- the primitive byte -/
def k6 : Class := { plain "byte" none with kind := .primitive 'B', accessFlags := 0x411 }
/-- [B -/
def k7 : Class := { plain "[B" (some 0) with kind := .array 6 .byte, interfaces := #[4, 5], accessFlags := 1041 }

/-- the primitive int -/
def k8 : Class := { plain "int" none with kind := .primitive 'I', accessFlags := 0x411 }
/-- [I -/
def k9 : Class := { plain "[I" (some 0) with kind := .array 8 .int, interfaces := #[4, 5], accessFlags := 1041 }

/-- the primitive long -/
def k10 : Class := { plain "long" none with kind := .primitive 'J', accessFlags := 0x411 }
/-- [J -/
def k11 : Class := { plain "[J" (some 0) with kind := .array 10 .long, interfaces := #[4, 5], accessFlags := 1041 }

def heap : Heap := #[]
def classes : Array Class := #[k0, k1, k2, k3, k4, k5, k6, k7, k8, k9, k10, k11]
def interned : List (Array UInt16 × Addr) := []
def slotsUsed : Nat := 0
def theMethod : MethodId := ⟨1, 1⟩
def args0 : Array Value := #[.int 5, .long 7, .long 3, .long 9, .long 4]
def aboutOver (below : List Frame) : State where
  vm := { classes := classes, interned := interned.toArray }
  heap := heap
  slotsUsed := slotsUsed
  threads := #[{ frames := .invoking theMethod args0 :: below }]
def below0 : List Frame := [.native { method := ⟨0, 0⟩, args := #[] }]
def about1 : State := aboutOver below0
def p0 : Program := .bare "" "" ""
def e0 : Env := launch0.env 0 0 0
theorem w_frames : about1.frames = Frame.invoking theMethod args0 :: below0 := rfl
set_option maxRecDepth 65536 in
theorem w_args : argsFit about1.vm theMethod args0 = true := by decide +kernel
set_option maxRecDepth 65536 in
theorem w_heap : heapFits about1 = true := by decide +kernel
set_option maxRecDepth 65536 in
theorem w_runnable : about1.curStatus? = some .runnable := by decide +kernel
set_option maxRecDepth 65536 in
theorem w_alone : about1.alone = true := by decide +kernel
set_option maxRecDepth 65536 in
theorem w_named : about1.methodNamed? x = some theMethod := by decide +kernel
set_option maxRecDepth 65536 in
theorem w_hears : about1.hears theMethod below0 = true := by decide +kernel
set_option maxRecDepth 65536 in
theorem w_ripe : about1.ripe theMethod args0 below0 = true := by decide +kernel
theorem w_running : about1.status = .running := rfl
set_option maxRecDepth 65536 in
theorem w_room : about1.hasRoom e0.platform room_1 = true :=
  launch0.hasRoom_least _ room_1 (by decide +kernel) (by decide +kernel) (by decide +kernel) (by decide +kernel) (by decide +kernel) (by decide +kernel)
theorem allAtoms_all (ts : List Jvm.Cond) (a : Array Jvm.Value) (st : Jvm.State) : (allAtoms ts).before a st = ts.all (fun c => c.before a st) := by
  induction ts with
  | nil => rfl
  | cons c t ih =>
    show (Jvm.Cond.and c (allAtoms t)).before a st = _
    rw [Jvm.Cond.before_and, ih, List.all_cons]
def words1 : List Jvm.Cond := Jvm.Cond.code x code maxLocals ret :: tables_1
/-- a 'code' word, met by the world's own term for the bytes: nothing is compared byte by byte -/
theorem code_word {y : MethodName} {bytes : ByteArray} {mx : Nat} {rt : Option FieldType} {a : Array Value} {s : State} {m : MethodId} {meth : Method} {c : Code} (h1 : s.methodNamed? y = some m) (h2 : s.vm.method? m = some meth) (h3 : meth.code = some c) (h4 : c.code = bytes)
    (h5 : (c.maxLocals == mx && c.exceptionTable.isEmpty && decide (c.maxStack ≤ mostOperands) && decide (meth.sig.returnType = rt) && !meth.locks && decide (parseMethodDescriptor y.desc = some meth.sig)) = true) : (Jvm.Cond.code y bytes mx rt).before a s = true := by
  simp only [Bool.and_eq_true, beq_iff_eq, Bool.not_eq_true', decide_eq_true_eq] at h5
  obtain ⟨⟨⟨⟨⟨g1, g2⟩, g3⟩, g4⟩, g5⟩, g6⟩ := h5
  simp [Cond.before, Cond.holds, Cond.value, h1, h2, h3, h4, g1, g2, g3, g4, g5, g6]
def isCode : Jvm.Cond → Bool
  | .code _ _ _ _ => true
  | _ => false
theorem all_split {L : List Jvm.Cond} {P : Jvm.Cond → Bool} (h1 : L.all (fun c => isCode c || P c) = true) (h2 : ∀ c ∈ L.filter isCode, P c = true) : L.all P = true := by
  refine List.all_eq_true.mpr fun c hc => ?_
  have h := List.all_eq_true.mp h1 c hc
  rcases Bool.eq_false_or_eq_true (isCode c) with hi | hi
  · exact h2 c (List.mem_filter.mpr ⟨hc, hi⟩)
  · simpa [hi] using h
set_option maxRecDepth 65536 in
theorem w_c0 : (Jvm.Cond.code x code maxLocals ret).before args0 about1 = true := code_word (m := ⟨1, 1⟩) (meth := k1m1) (c := k1c1) (by decide +kernel) rfl rfl rfl (by decide +kernel)
set_option maxRecDepth 65536 in
theorem w_c1 : (Jvm.Cond.code ({ cls := "com/example/lean_layers/leanlayers/phase/layering/IndexedHeap", name := "<init>", desc := "(I)V" } : Jvm.MethodName) prog_55_method_1_code (2 : Nat) (Option.none : Option Jvm.ClassFile.FieldType)).before args0 about1 = true := code_word (m := ⟨2, 0⟩) (meth := k2m0) (c := k2c0) (by decide +kernel) rfl rfl rfl (by decide +kernel)
set_option maxRecDepth 65536 in
theorem w_c2 : (Jvm.Cond.code ({ cls := "java/lang/Object", name := "<init>", desc := "()V" } : Jvm.MethodName) object_method_1_code (1 : Nat) (Option.none : Option Jvm.ClassFile.FieldType)).before args0 about1 = true := code_word (m := ⟨0, 0⟩) (meth := k0m0) (c := k0c0) (by decide +kernel) rfl rfl rfl (by decide +kernel)
set_option maxRecDepth 65536 in
theorem w_c3 : (Jvm.Cond.code ({ cls := "java/util/Arrays", name := "fill", desc := "([II)V" } : Jvm.MethodName) jdk_65_method_103_code (4 : Nat) (Option.none : Option Jvm.ClassFile.FieldType)).before args0 about1 = true := code_word (m := ⟨3, 1⟩) (meth := k3m1) (c := k3c1) (by decide +kernel) rfl rfl rfl (by decide +kernel)
set_option maxRecDepth 65536 in
theorem w_c4 : (Jvm.Cond.code ({ cls := "com/example/lean_layers/leanlayers/phase/layering/IndexedHeap", name := "clear", desc := "()V" } : Jvm.MethodName) prog_55_method_7_code (2 : Nat) (Option.none : Option Jvm.ClassFile.FieldType)).before args0 about1 = true := code_word (m := ⟨2, 6⟩) (meth := k2m6) (c := k2c6) (by decide +kernel) rfl rfl rfl (by decide +kernel)
set_option maxRecDepth 65536 in
theorem w_c5 : (Jvm.Cond.code ({ cls := "com/example/lean_layers/leanlayers/phase/layering/IndexedHeap", name := "isEmpty", desc := "()Z" } : Jvm.MethodName) prog_55_method_2_code (1 : Nat) (Option.some Jvm.ClassFile.FieldType.boolean)).before args0 about1 = true := code_word (m := ⟨2, 1⟩) (meth := k2m1) (c := k2c1) (by decide +kernel) rfl rfl rfl (by decide +kernel)
set_option maxRecDepth 65536 in
theorem w_c6 : (Jvm.Cond.code ({ cls := "com/example/lean_layers/leanlayers/phase/layering/IndexedHeap", name := "put", desc := "(IJ)V" } : Jvm.MethodName) prog_55_method_5_code (4 : Nat) (Option.none : Option Jvm.ClassFile.FieldType)).before args0 about1 = true := code_word (m := ⟨2, 4⟩) (meth := k2m4) (c := k2c4) (by decide +kernel) rfl rfl rfl (by decide +kernel)
set_option maxRecDepth 65536 in
theorem w_c7 : (Jvm.Cond.code ({ cls := "com/example/lean_layers/leanlayers/phase/layering/IndexedHeap", name := "siftUp", desc := "(I)V" } : Jvm.MethodName) prog_55_method_8_code (4 : Nat) (Option.none : Option Jvm.ClassFile.FieldType)).before args0 about1 = true := code_word (m := ⟨2, 7⟩) (meth := k2m7) (c := k2c7) (by decide +kernel) rfl rfl rfl (by decide +kernel)
set_option maxRecDepth 65536 in
theorem w_c8 : (Jvm.Cond.code ({ cls := "com/example/lean_layers/leanlayers/phase/layering/IndexedHeap", name := "setAt", desc := "(II)V" } : Jvm.MethodName) prog_55_method_11_code (3 : Nat) (Option.none : Option Jvm.ClassFile.FieldType)).before args0 about1 = true := code_word (m := ⟨2, 10⟩) (meth := k2m10) (c := k2c10) (by decide +kernel) rfl rfl rfl (by decide +kernel)
set_option maxRecDepth 65536 in
theorem w_c9 : (Jvm.Cond.code ({ cls := "com/example/lean_layers/leanlayers/phase/layering/IndexedHeap", name := "siftDown", desc := "(I)V" } : Jvm.MethodName) prog_55_method_9_code (5 : Nat) (Option.none : Option Jvm.ClassFile.FieldType)).before args0 about1 = true := code_word (m := ⟨2, 8⟩) (meth := k2m8) (c := k2c8) (by decide +kernel) rfl rfl rfl (by decide +kernel)
set_option maxRecDepth 65536 in
theorem w_c10 : (Jvm.Cond.code ({ cls := "com/example/lean_layers/leanlayers/phase/layering/IndexedHeap", name := "first", desc := "()I" } : Jvm.MethodName) prog_55_method_3_code (1 : Nat) (Option.some Jvm.ClassFile.FieldType.int)).before args0 about1 = true := code_word (m := ⟨2, 2⟩) (meth := k2m2) (c := k2c2) (by decide +kernel) rfl rfl rfl (by decide +kernel)
set_option maxRecDepth 65536 in
theorem w_c11 : (Jvm.Cond.code ({ cls := "com/example/lean_layers/leanlayers/phase/layering/IndexedHeap", name := "firstKey", desc := "()J" } : Jvm.MethodName) prog_55_method_4_code (1 : Nat) (Option.some Jvm.ClassFile.FieldType.long)).before args0 about1 = true := code_word (m := ⟨2, 3⟩) (meth := k2m3) (c := k2c3) (by decide +kernel) rfl rfl rfl (by decide +kernel)
set_option maxRecDepth 65536 in
theorem w_c12 : (Jvm.Cond.code ({ cls := "com/example/lean_layers/leanlayers/phase/layering/IndexedHeap", name := "remove", desc := "(I)V" } : Jvm.MethodName) prog_55_method_6_code (4 : Nat) (Option.none : Option Jvm.ClassFile.FieldType)).before args0 about1 = true := code_word (m := ⟨2, 5⟩) (meth := k2m5) (c := k2c5) (by decide +kernel) rfl rfl rfl (by decide +kernel)
set_option maxRecDepth 65536 in
theorem w_c13 : (Jvm.Cond.code ({ cls := "com/example/lean_layers/leanlayers/phase/layering/IndexedHeap", name := "before", desc := "(II)Z" } : Jvm.MethodName) prog_55_method_10_code (3 : Nat) (Option.some Jvm.ClassFile.FieldType.boolean)).before args0 about1 = true := code_word (m := ⟨2, 9⟩) (meth := k2m9) (c := k2c9) (by decide +kernel) rfl rfl rfl (by decide +kernel)
def codes1 : List Jvm.Cond := [Jvm.Cond.code x code maxLocals ret, Jvm.Cond.code ({ cls := "com/example/lean_layers/leanlayers/phase/layering/IndexedHeap", name := "<init>", desc := "(I)V" } : Jvm.MethodName) prog_55_method_1_code (2 : Nat) (Option.none : Option Jvm.ClassFile.FieldType), Jvm.Cond.code ({ cls := "java/lang/Object", name := "<init>", desc := "()V" } : Jvm.MethodName) object_method_1_code (1 : Nat) (Option.none : Option Jvm.ClassFile.FieldType), Jvm.Cond.code ({ cls := "java/util/Arrays", name := "fill", desc := "([II)V" } : Jvm.MethodName) jdk_65_method_103_code (4 : Nat) (Option.none : Option Jvm.ClassFile.FieldType), Jvm.Cond.code ({ cls := "com/example/lean_layers/leanlayers/phase/layering/IndexedHeap", name := "clear", desc := "()V" } : Jvm.MethodName) prog_55_method_7_code (2 : Nat) (Option.none : Option Jvm.ClassFile.FieldType), Jvm.Cond.code ({ cls := "com/example/lean_layers/leanlayers/phase/layering/IndexedHeap", name := "isEmpty", desc := "()Z" } : Jvm.MethodName) prog_55_method_2_code (1 : Nat) (Option.some Jvm.ClassFile.FieldType.boolean), Jvm.Cond.code ({ cls := "com/example/lean_layers/leanlayers/phase/layering/IndexedHeap", name := "put", desc := "(IJ)V" } : Jvm.MethodName) prog_55_method_5_code (4 : Nat) (Option.none : Option Jvm.ClassFile.FieldType), Jvm.Cond.code ({ cls := "com/example/lean_layers/leanlayers/phase/layering/IndexedHeap", name := "siftUp", desc := "(I)V" } : Jvm.MethodName) prog_55_method_8_code (4 : Nat) (Option.none : Option Jvm.ClassFile.FieldType), Jvm.Cond.code ({ cls := "com/example/lean_layers/leanlayers/phase/layering/IndexedHeap", name := "setAt", desc := "(II)V" } : Jvm.MethodName) prog_55_method_11_code (3 : Nat) (Option.none : Option Jvm.ClassFile.FieldType), Jvm.Cond.code ({ cls := "com/example/lean_layers/leanlayers/phase/layering/IndexedHeap", name := "siftDown", desc := "(I)V" } : Jvm.MethodName) prog_55_method_9_code (5 : Nat) (Option.none : Option Jvm.ClassFile.FieldType), Jvm.Cond.code ({ cls := "com/example/lean_layers/leanlayers/phase/layering/IndexedHeap", name := "first", desc := "()I" } : Jvm.MethodName) prog_55_method_3_code (1 : Nat) (Option.some Jvm.ClassFile.FieldType.int), Jvm.Cond.code ({ cls := "com/example/lean_layers/leanlayers/phase/layering/IndexedHeap", name := "firstKey", desc := "()J" } : Jvm.MethodName) prog_55_method_4_code (1 : Nat) (Option.some Jvm.ClassFile.FieldType.long), Jvm.Cond.code ({ cls := "com/example/lean_layers/leanlayers/phase/layering/IndexedHeap", name := "remove", desc := "(I)V" } : Jvm.MethodName) prog_55_method_6_code (4 : Nat) (Option.none : Option Jvm.ClassFile.FieldType), Jvm.Cond.code ({ cls := "com/example/lean_layers/leanlayers/phase/layering/IndexedHeap", name := "before", desc := "(II)Z" } : Jvm.MethodName) prog_55_method_10_code (3 : Nat) (Option.some Jvm.ClassFile.FieldType.boolean)]
set_option maxRecDepth 65536 in
theorem codes_eq : words1.filter isCode = codes1 := rfl
theorem w_codes : ∀ c ∈ words1.filter isCode, c.before args0 about1 = true := by
  rw [codes_eq]
  intro c hc
  simp only [codes1, List.mem_cons, List.not_mem_nil, or_false] at hc
  rcases hc with rfl | rfl | rfl | rfl | rfl | rfl | rfl | rfl | rfl | rfl | rfl | rfl | rfl | rfl
  · exact w_c0
  · exact w_c1
  · exact w_c2
  · exact w_c3
  · exact w_c4
  · exact w_c5
  · exact w_c6
  · exact w_c7
  · exact w_c8
  · exact w_c9
  · exact w_c10
  · exact w_c11
  · exact w_c12
  · exact w_c13
set_option maxRecDepth 65536 in
theorem w_t1 : (words1.take 24).all (fun c => isCode c || c.before args0 about1) = true := by decide +kernel
set_option maxRecDepth 65536 in
theorem w_t2 : ((words1.drop 24).take 24).all (fun c => isCode c || c.before args0 about1) = true := by decide +kernel
set_option maxRecDepth 65536 in
theorem w_t3 : ((words1.drop 24).drop 24).all (fun c => isCode c || c.before args0 about1) = true := by decide +kernel
theorem w_tables : (allAtoms (Jvm.Cond.code x code maxLocals ret :: tables_1)).before args0 about1 = true := by
  rw [allAtoms_all]
  show words1.all (fun c => c.before args0 about1) = true
  refine all_split ?_ w_codes
  rw [← List.take_append_drop 24 words1, List.all_append, w_t1, ← List.take_append_drop 24 (words1.drop 24), List.all_append, w_t2, w_t3]
  rfl
set_option maxRecDepth 65536 in
theorem w_case : (Jvm.Cond.and given_1 narrow_1).before args0 about1 = true := by decide +kernel
theorem w_applies : (headSpec (Jvm.Cond.code x code maxLocals ret :: tables_1) room_1).applies x e0.platform about1 = true :=
  (Spec.applies_iff w_frames).mpr ⟨w_running, w_runnable, w_alone, w_named, w_hears, w_ripe, w_room, w_tables⟩
theorem atStart : AtStart classFile x code maxLocals ret World_1 tables_1 room_1 Calls_1 rest_1 Pre_1 launch0 p0 e0 about1 theMethod args0 below0 :=
  ⟨lists_1, trivial, launch0.admits_env _ _ _, launch0.least_env, fairChoices_fair.cas, fairChoices_fair.clock, w_frames, w_args, w_heap, w_applies, trivial, trivial, w_case⟩
end start1
theorem witness_1 : WitnessClaimed_1 := ⟨start1.p0, start1.e0, start1.about1, start1.theMethod, start1.args0, start1.below0, start1.atStart⟩
end Jvm.Pilot.@@N@@
