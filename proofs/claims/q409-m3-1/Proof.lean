import JvmDerived
import JvmDerived.Pilot.@@N@@Statement
import JvmDerived.Pilot.@@N@@Code
set_option linter.unusedVariables false
set_option linter.unusedSimpArgs false
namespace Jvm.RoadKit
open Sem ClassFile Op Lib Jvm.Stand Jvm.Free Jvm.LawKit
section New
variable {p : Program} {l : Launch} {e : Env} {R : Room} {s : State} {m : MethodId} {args : Array Value} {below : List Frame} {meth : Method} {c : Code} {T : State} {locs : List Loc} {cells slots : Nat}
theorem retI (X : Stand p l e R s m args below meth c T locs cells slots) (hx : p.tables.exec = Jvm.exec) {pc : Nat} {Ls : Array Slot} {z : Int32} {rest : List Value} (hret : meth.sig.returnType = some .int) (hd : decode c.code pc = .ok (.ireturn, 1)) {fs : List Frame}
    (hl : ∀ (f : JFrame) (acts : List Action), f.method = m → f.locked = none → f.entered = [] → (doReturn e (T.setTop f) acts (some (.int z))).1 = T.setFrames fs) : Steps p.tables e below (T.setTop (mkF m pc Ls (.int z :: rest))) (T.setFrames fs) := by
  have hm' : T.vm.method? m = some meth := X.method'
  have hn : narrow .int (.int z) = .int z := rfl
  show Steps p.tables e below (T.setTop { method := m, pc := pc, locals := Ls, stack := _ :: rest, locked := none }) _
  jvm_step X.here [X.here.top, hx, hd, hm', hret, hn]
  first | (intro acts; rw [hl _ acts rfl rfl rfl]) | rw [hl _ _ rfl rfl rfl]
  exact Steps.refl _
end New
end Jvm.RoadKit
namespace Jvm.Pilot.@@N@@
open Jvm Jvm.ClassFile Sem Op Lib Jvm.Free Jvm.Stand Jvm.LawKit Jvm.RoadKit Bundle Jvm.Pilot.@@N@@.Jvm.D
theorem own_selp {s : State} {args : Array Value} {y : MethodName} {n : Nat} (wi : (Jvm.Cond.instantiable y.cls n).before args s = true) (hp : s.PrivateAt y) (hi : (Jvm.Cond.instanceMethod y).before args s = true) (hy : y.cls ≠ "java/lang/invoke/MethodHandle" ∧ y.cls ≠ "java/lang/invoke/VarHandle") : (Jvm.Cond.selects y.cls y y).before args s = true := by
  obtain ⟨c, k, h1, h2, h3, h4, -⟩ := Cond.instantiable_spec wi
  exact selects_self_of_private h1 h2 (Bool.or_eq_false_iff.mp h4).1 hp hi hy
theorem own_cat {v : Value} (h : v.isRef = true) : v.category = 1 := by rcases ref_cases h with rfl | ⟨_, rfl⟩ <;> rfl
theorem own_ltL {x y : Int64} (h : x < y) : ifCond.holds .lt (lcmpW x y) = true ∧ ifCond.holds .ge (lcmpW x y) = false ∧ ifCond.holds .gt (lcmpW y x) = true ∧ ifCond.holds .le (lcmpW y x) = false :=
  ⟨(if0 _ _).trans (tlt ((lw_lt x y).mpr h)).1, (if0 _ _).trans (tlt ((lw_lt x y).mpr h)).2.1, (if0 _ _).trans (tlt ((lw_gt y x).mpr h)).2.2.1, (if0 _ _).trans (tlt ((lw_gt y x).mpr h)).2.2.2⟩
theorem own_fltL {x y : Int64} (h : ¬ x < y) : ifCond.holds .lt (lcmpW x y) = false ∧ ifCond.holds .ge (lcmpW x y) = true ∧ ifCond.holds .gt (lcmpW y x) = false ∧ ifCond.holds .le (lcmpW y x) = true :=
  ⟨(if0 _ _).trans (flt (fun q => h ((lw_lt x y).mp q))).1, (if0 _ _).trans (flt (fun q => h ((lw_lt x y).mp q))).2.1, (if0 _ _).trans (flt (fun q => h ((lw_gt y x).mp q))).2.2.1, (if0 _ _).trans (flt (fun q => h ((lw_gt y x).mp q))).2.2.2⟩
theorem own_eqL {x y : Int64} (h : x = y) : ifCond.holds .eq (lcmpW x y) = true ∧ ifCond.holds .ne (lcmpW x y) = false :=
  ⟨(if0 _ _).trans (teq ((lw_eq x y).mpr h)).1, (if0 _ _).trans (teq ((lw_eq x y).mpr h)).2⟩
theorem own_neL {x y : Int64} (h : ¬ x = y) : ifCond.holds .eq (lcmpW x y) = false ∧ ifCond.holds .ne (lcmpW x y) = true :=
  ⟨(if0 _ _).trans (feq (fun q => h ((lw_eq x y).mp q))).1, (if0 _ _).trans (feq (fun q => h ((lw_eq x y).mp q))).2⟩

theorem own_fin {c : Int32} {N : Nat} (h0 : 0 ≤ c.toInt) (h1 : c.toInt < N) (hN : N ≤ 2147483648) : ∃ n : Fin N, c = n.1.toInt32 := by
  refine ⟨⟨c.toInt.toNat, by omega⟩, ?_⟩
  apply Int32.toInt_inj.mp
  rw [len_toInt (by show c.toInt.toNat < 2 ^ 31; omega)]
  show c.toInt = ((c.toInt.toNat : Nat) : Int)
  omega
theorem own_lt {x y : Int32} (h : x < y) : x.toInt < y.toInt := Int32.lt_iff_toInt_lt.mp h
theorem own_nlt' {x y : Int32} (h : ¬ x < y) : y.toInt ≤ x.toInt := by rw [Int32.lt_iff_toInt_lt] at h; omega
theorem own_nlt {x y : Int32} {k : Int} (h : k ≤ x.toInt) (hk : y.toInt ≤ k) : ¬ x < y := by rw [Int32.lt_iff_toInt_lt]; omega
theorem own_gt {x y : Int32} {k : Int} (h : k ≤ x.toInt) (hk : y.toInt < k) : y < x := by rw [Int32.lt_iff_toInt_lt]; omega
theorem own_ne {x y : Int32} {k : Int} (h : k ≤ x.toInt) (hk : y.toInt < k) : ¬ x = y := by rintro rfl; omega
theorem own_gtn {x y : Int32} {k : Int} (h : x.toInt < k) (hk : k ≤ y.toInt) : x < y := by rw [Int32.lt_iff_toInt_lt]; omega
theorem own_nel {x y : Int32} {k : Int} (h : x.toInt < k) (hk : k ≤ y.toInt) : ¬ x = y := by rintro rfl; omega
theorem own_lt' {x y : Int32} (h : x < y) : x.toInt + 1 ≤ y.toInt := by have := own_lt h; omega
theorem own_le' {x y : Int32} (h : ¬ y < x) : x.toInt < y.toInt + 1 := by have := own_nlt' h; omega

def own_A (Z : State) (h : Heap) (a : Addr) (ty : FieldType) (n : Nat) (f : Nat → Value) : Prop := ∃ c : Cell, Arr Z h a c ty ∧ c.slots.size = n ∧ ∀ j, j < n → c.slots[j]? = some (f j)
section OwnA
variable {Z : State} {h h' : Heap} {a b : Addr} {ty : FieldType} {n sl : Nat} {f : Nat → Value} {v : Value} {ws : List Addr}
theorem own_A.lt (F : own_A Z h a ty n f) : a < h.size := by obtain ⟨c, A, -⟩ := F; exact A.lt
theorem own_A.ext (F : own_A Z h a ty n f) (E : Ext h h') : own_A Z h' a ty n f := by obtain ⟨c, A, r⟩ := F; exact ⟨c, A.ext E, r⟩
theorem own_A.other (F : own_A Z h b ty n f) (W : Wr h h' a sl v) (q : b ≠ a) : own_A Z h' b ty n f := by obtain ⟨c, A, r⟩ := F; exact ⟨c, A.other W q, r⟩
theorem own_A.keep (F : own_A Z h a ty n f) (K : Keep h h' ws) (q : a ∉ ws) : own_A Z h' a ty n f := by obtain ⟨c, A, r⟩ := F; exact ⟨c, ⟨K.2.1 a c A.1 q, A.2⟩, r⟩
theorem own_A.set (F : own_A Z h a ty n f) (W : Wr h h' a sl v) : own_A Z h' a ty n (fun i => if i = sl then v else f i) := by
  obtain ⟨c, A, S, H⟩ := F
  refine ⟨_, A.same W, (sz_set _ _ _).trans S, fun j hj => ?_⟩
  by_cases e : j = sl
  · subst e
    simp only [Cell.setSlot, if_true]
    rw [Array.getElem?_setIfInBounds_self_of_lt (by omega)]
  · simp only [Cell.setSlot, if_neg e]
    rw [Array.getElem?_setIfInBounds_ne (Ne.symm e)]
    exact H j hj
theorem own_A.eqv {g : Nat → Value} (F : own_A Z h a ty n f) (e : ∀ j, j < n → f j = g j) : own_A Z h a ty n g := by
  obtain ⟨c, A, S, H⟩ := F
  exact ⟨c, A, S, fun j hj => (e j hj) ▸ H j hj⟩
theorem own_A.setI {g : Nat → Int32} {x : Int32} (F : own_A Z h a ty n (fun i => .int (g i))) (W : Wr h h' a sl (.int x)) : own_A Z h' a ty n (fun i => .int (if i = sl then x else g i)) :=
  (F.set W).eqv fun j _ => by
    by_cases e : j = sl
    · simp only [if_pos e]
    · simp only [if_neg e]
theorem own_A.setJ {g : Nat → Int64} {x : Int64} (F : own_A Z h a ty n (fun i => .long (g i))) (W : Wr h h' a sl (.long x)) : own_A Z h' a ty n (fun i => .long (if i = sl then x else g i)) :=
  (F.set W).eqv fun j _ => by
    by_cases e : j = sl
    · simp only [if_pos e]
    · simp only [if_neg e]
theorem own_A.new {k : ClassId} {z : Int32} (A : Arr Z h a (newA k ty z) ty) : own_A Z h a ty z.toNatClampNeg (fun _ => defaultValue ty) :=
  ⟨_, A, sz_new _ _ _, fun j hj => by simp [newA, hj]⟩
end OwnA
theorem own_in {c : Cell} {n : Nat} {j : Int32} (S : c.slots.size = n) (h : 0 ≤ j.toInt ∧ j.toInt < n) : ¬ (j < 0 ∨ c.slots.size ≤ j.toNatClampNeg) := by
  rw [S, Int32.lt_iff_toInt_lt, show (0 : Int32).toInt = 0 from rfl]
  have e : j.toNatClampNeg = j.toInt.toNat := rfl
  rw [e]; omega
theorem own_ix {n : Nat} {j : Int32} (h : 0 ≤ j.toInt ∧ j.toInt < n) : j.toNatClampNeg < n := by
  have e : j.toNatClampNeg = j.toInt.toNat := rfl
  rw [e]; omega
theorem own_len {c : Cell} {n : Nat} {z : Int32} (S : c.slots.size = n) (h : n.toInt32 = z) : c.slots.size.toInt32 = z := by rw [S]; exact h
def own_O (Z : State) (h : Heap) (a : Addr) (C : String) : Prop := ∃ c : Cell, h[a]? = some c ∧ Ovr Z c.cls C
theorem own_O.ext {Z : State} {h h' : Heap} {a : Addr} {C : String} (F : own_O Z h a C) (E : Ext h h') : own_O Z h' a C := by obtain ⟨c, h1, o⟩ := F; exact ⟨c, E.2 _ _ h1, o⟩
theorem own_O.wr {Z : State} {h h' : Heap} {a b : Addr} {C : String} {sl : Nat} {v : Value} (F : own_O Z h a C) (W : Wr h h' b sl v) : own_O Z h' a C := by
  obtain ⟨c, h1, o⟩ := F
  obtain ⟨c', e1, e2, -⟩ := wr_at W h1
  exact ⟨c', e1, e2 ▸ o⟩
theorem own_sto {Z : State} {h : Heap} {a y : Addr} {cl : Cell} {ty : FieldType} {C : String} (A : Arr Z h a cl ty) (O : own_O Z h a C) (I : Ins Z h y C true) : Sto Z h a (.ref y) := by
  obtain ⟨c, h1, o⟩ := O
  cases A.1.symm.trans h1
  exact Sto.of A o I


theorem own_tn {n : Nat} (h : n < 2147483648) : (n.toInt32).toNatClampNeg = n := by
  simp only [Int32.toNatClampNeg, len_toInt (show n < 2 ^ 31 from h)]; rfl
theorem own_ti {n : Nat} (h : n < 2147483648) : (n.toInt32).toInt = n := len_toInt (show n < 2 ^ 31 from h)
theorem own_ltn {a b : Nat} (ha : a < 2147483648) (hb : b < 2147483648) : a.toInt32 < b.toInt32 ↔ a < b := by
  rw [Int32.lt_iff_toInt_lt, own_ti ha, own_ti hb]; omega
theorem own_bd {n m : Nat} (h : n < m) (hm : m < 2147483648) : 0 ≤ (n.toInt32).toInt ∧ (n.toInt32).toInt < (m : Nat) := by
  rw [own_ti (by omega)]; omega
theorem own_inc (n : Nat) : n.toInt32 + (1 : Int32) = (n + 1).toInt32 := (Int32.ofNat_add n 1).symm
theorem own_dec (n : Nat) : (n + 1).toInt32 - (1 : Int32) = n.toInt32 := by rw [← own_inc, Int32.add_sub_cancel]

def own_u (f : Nat → Nat) (k v : Nat) : Nat → Nat := fun j => if j = k then v else f j
theorem own_u_same (f : Nat → Nat) (k v : Nat) : own_u f k v k = v := by simp [own_u]
theorem own_u_ne {f : Nat → Nat} {k v j : Nat} (h : j ≠ k) : own_u f k v j = f j := by simp [own_u, h]
def own_pl (k : Nat) : Int32 := k.toInt32 - 1
theorem own_pl_succ (k : Nat) : own_pl (k + 1) = k.toInt32 := own_dec k
theorem own_pl_neg {k : Nat} (h : k < 2147483648) : own_pl k < 0 ↔ k = 0 := by
  cases k with
  | zero => exact ⟨fun _ => rfl, fun _ => by decide⟩
  | succ k =>
    rw [own_pl_succ, Int32.lt_iff_toInt_lt, own_ti (by omega), show (0 : Int32).toInt = 0 from rfl]
    omega
/-- n items stand in it; pl is one more than an item's place, or 0 -/
def own_IV (c n : Nat) (it pl : Nat → Nat) : Prop := n ≤ c ∧ (∀ j, j < c → it j < c) ∧ (∀ j, j < n → pl (it j) = j + 1) ∧ ∀ x, x < c → pl x = 0 ∨ ∃ j, j < n ∧ pl x = j + 1 ∧ it j = x
/-- the place i is a hole for x; p0: who was held -/
def own_HO (c n i x : Nat) (it pl p0 : Nat → Nat) : Prop := i < n ∧ x < c ∧ own_IV c n (own_u it i x) (own_u pl x (i + 1)) ∧ ∀ y, y < c → (own_u pl x (i + 1) y = 0 ↔ p0 y = 0)
section OwnIx
variable {c n i a x : Nat} {it pl p0 : Nat → Nat}
theorem own_HO0 (h : own_IV c n it pl) (hi : i < n) : own_HO c n i (it i) it pl pl := by
  obtain ⟨h1, h2, h3, h4⟩ := h
  have e1 : own_u it i (it i) = it := funext fun j => by unfold own_u; split <;> simp_all
  have e2 : own_u pl (it i) (i + 1) = pl := funext fun j => by
    unfold own_u
    split
    · rename_i q; rw [q, h3 i hi]
    · rfl
  refine ⟨hi, h2 i (by omega), ?_, ?_⟩
  · rw [e1, e2]; exact ⟨h1, h2, h3, h4⟩
  · rw [e2]; exact fun y _ => Iff.rfl
theorem own_HO_it (H : own_HO c n i x it pl p0) (ha : a < n) (hne : a ≠ i) : it a < c := by
  have q := H.2.2.1.2.1 a (by have := H.2.2.1.1; omega)
  rwa [own_u_ne hne] at q
theorem own_HO_mv (H : own_HO c n i x it pl p0) (ha : a < n) (hne : a ≠ i) : own_HO c n a x (own_u it i (it a)) (own_u pl (it a) (i + 1)) p0 := by
  have hac := own_HO_it H ha hne
  obtain ⟨hi, hx, ⟨h1, h2, h3, h4⟩, h5⟩ := H
  have ea : own_u pl x (i + 1) (it a) = a + 1 := by have q := h3 a ha; rwa [own_u_ne hne] at q
  have hax : it a ≠ x := fun q => by rw [q, own_u_same] at ea; omega
  have hpa : pl (it a) = a + 1 := by rwa [own_u_ne hax] at ea
  refine ⟨ha, hx, ⟨h1, fun j hj => ?_, fun j hj => ?_, fun y hy => ?_⟩, fun y hy => ?_⟩
  · by_cases q1 : j = a
    · rw [q1, own_u_same]; exact hx
    · rw [own_u_ne q1]
      by_cases q2 : j = i
      · rw [q2, own_u_same]; exact hac
      · rw [own_u_ne q2]
        have q := h2 j hj
        rwa [own_u_ne q2] at q
  · by_cases q1 : j = a
    · rw [q1, own_u_same, own_u_same]
    · rw [own_u_ne q1]
      by_cases q2 : j = i
      · rw [q2, own_u_same, own_u_ne hax, own_u_same]
      · rw [own_u_ne q2]
        have q := h3 j hj
        rw [own_u_ne q2] at q
        have n1 : it j ≠ x := fun r => by rw [r, own_u_same] at q; omega
        have n2 : it j ≠ it a := fun r => by rw [r, ea] at q; omega
        rw [own_u_ne n1, own_u_ne n2]
        rwa [own_u_ne n1] at q
  · by_cases q1 : y = x
    · exact Or.inr ⟨a, ha, by rw [q1, own_u_same], by rw [own_u_same, q1]⟩
    · by_cases q2 : y = it a
      · exact Or.inr ⟨i, hi, by rw [q2, own_u_ne hax, own_u_same], by rw [own_u_ne (Ne.symm hne), own_u_same, q2]⟩
      · rw [own_u_ne q1, own_u_ne q2]
        have q := h4 y hy
        rw [own_u_ne q1] at q
        rcases q with q | ⟨j, j1, j2, j3⟩
        · exact Or.inl q
        · refine Or.inr ⟨j, j1, j2, ?_⟩
          have n1 : j ≠ i := fun r => by rw [r, own_u_same] at j3; exact q1 j3.symm
          rw [own_u_ne n1] at j3
          have n2 : j ≠ a := fun r => q2 (by rw [← j3, r])
          rw [own_u_ne n2, own_u_ne n1]
          exact j3
  · have q := h5 y hy
    by_cases q1 : y = x
    · rw [q1, own_u_same] at q ⊢
      exact ⟨fun r => by omega, fun r => absurd (q.mpr r) (by omega)⟩
    · rw [own_u_ne q1] at q ⊢
      by_cases q2 : y = it a
      · rw [q2, own_u_same]
        rw [q2, hpa] at q
        exact ⟨fun r => by omega, fun r => absurd (q.mpr r) (by omega)⟩
      · rw [own_u_ne q2]; exact q
theorem own_IV_put (h : own_IV c n it pl) (hx : x < c) (h0 : pl x = 0) (hn : n < c) : own_IV c (n + 1) (own_u it n x) (own_u pl x (n + 1)) := by
  obtain ⟨h1, h2, h3, h4⟩ := h
  refine ⟨hn, fun j hj => ?_, fun j hj => ?_, fun y hy => ?_⟩
  · by_cases q : j = n
    · rw [q, own_u_same]; exact hx
    · rw [own_u_ne q]; exact h2 j hj
  · by_cases q : j = n
    · rw [q, own_u_same, own_u_same]
    · rw [own_u_ne q]
      have r := h3 j (by omega)
      rw [own_u_ne (fun z => by rw [z, h0] at r; omega)]
      exact r
  · by_cases q : y = x
    · exact Or.inr ⟨n, by omega, by rw [q, own_u_same], by rw [own_u_same, q]⟩
    · rw [own_u_ne q]
      rcases h4 y hy with r | ⟨j, j1, j2, j3⟩
      · exact Or.inl r
      · exact Or.inr ⟨j, by omega, j2, by rw [own_u_ne (by omega)]; exact j3⟩
theorem own_held_put (hv : a ≠ 0) : ∀ y, y < c → (own_u pl x a y = 0 ↔ y ≠ x ∧ pl y = 0) := fun y _ => by
  by_cases q : y = x
  · rw [q, own_u_same]; exact ⟨fun r => absurd r hv, fun r => absurd rfl r.1⟩
  · rw [own_u_ne q]; exact ⟨fun r => ⟨q, r⟩, fun r => r.2⟩
theorem own_IV_held (h : own_IV c n it pl) (hx : x < c) (h0 : pl x ≠ 0) : ∃ j, j < n ∧ pl x = j + 1 ∧ it j = x := (h.2.2.2 x hx).resolve_left h0
theorem own_IV_rml (h : own_IV c n it pl) (hx : x < c) (hj : pl x = i + 1) (hn : i + 1 = n) (e : it i = x) : own_IV c (n - 1) it (own_u pl x 0) := by
  obtain ⟨h1, h2, h3, h4⟩ := h
  refine ⟨by omega, h2, fun j hj' => ?_, fun y hy => ?_⟩
  · have r := h3 j (by omega)
    rw [own_u_ne (fun z => by rw [z, hj] at r; omega)]
    exact r
  · by_cases q : y = x
    · exact Or.inl (by rw [q, own_u_same])
    · rw [own_u_ne q]
      rcases h4 y hy with r | ⟨j, j1, j2, j3⟩
      · exact Or.inl r
      · exact Or.inr ⟨j, by have : j ≠ i := (fun z => q (by rw [← j3, z, e])); omega, j2, j3⟩
theorem own_held_rm : ∀ y, y < c → (own_u pl x 0 y = 0 ↔ y = x ∨ pl y = 0) := fun y _ => by
  by_cases q : y = x
  · rw [q, own_u_same]; exact ⟨fun _ => Or.inl rfl, fun _ => rfl⟩
  · rw [own_u_ne q]; exact ⟨fun r => Or.inr r, fun r => r.resolve_left q⟩
theorem own_IV_rm (h : own_IV c n it pl) (hx : x < c) (hj : pl x = i + 1) (hn : i + 1 < n) (e : it i = x) : it (n - 1) < c ∧ own_IV c (n - 1) (own_u it i (it (n - 1))) (own_u (own_u pl x 0) (it (n - 1)) (i + 1)) ∧ ∀ y, y < c → (own_u (own_u pl x 0) (it (n - 1)) (i + 1) y = 0 ↔ y = x ∨ pl y = 0) := by
  obtain ⟨h1, h2, h3, h4⟩ := h
  have hl := h3 (n - 1) (by omega)
  have hlx : it (n - 1) ≠ x := fun q => by rw [q, hj] at hl; omega
  refine ⟨h2 _ (by omega), ⟨by omega, fun j hj' => ?_, fun j hj' => ?_, fun y hy => ?_⟩, fun y hy => ?_⟩
  · by_cases q : j = i
    · rw [q, own_u_same]; exact h2 _ (by omega)
    · rw [own_u_ne q]; exact h2 j hj'
  · by_cases q : j = i
    · rw [q, own_u_same, own_u_same]
    · rw [own_u_ne q]
      have r := h3 j (by omega)
      rw [own_u_ne (fun z => by rw [z, hl] at r; omega), own_u_ne (fun z => by rw [z, hj] at r; omega)]
      exact r
  · by_cases q : y = it (n - 1)
    · exact Or.inr ⟨i, by omega, by rw [q, own_u_same], by rw [own_u_same, q]⟩
    · rw [own_u_ne q]
      by_cases q2 : y = x
      · exact Or.inl (by rw [q2, own_u_same])
      · rw [own_u_ne q2]
        rcases h4 y hy with r | ⟨j, j1, j2, j3⟩
        · exact Or.inl r
        · have n1 : j ≠ i := fun z => q2 (by rw [← j3, z, e])
          have n2 : j ≠ n - 1 := fun z => q (by rw [← j3, z])
          exact Or.inr ⟨j, by omega, j2, by rw [own_u_ne n1]; exact j3⟩
  · by_cases q : y = it (n - 1)
    · rw [q, own_u_same, hl]
      exact ⟨fun r => by omega, fun r => r.elim (fun z => absurd z hlx) (fun z => by omega)⟩
    · rw [own_u_ne q]
      exact own_held_rm y hy
theorem own_IV_n0 (h : own_IV c n it pl) (hc : 0 < c) : n = 0 ↔ ∀ y, y < c → pl y = 0 := by
  obtain ⟨h1, h2, h3, h4⟩ := h
  constructor
  · intro q y hy
    rcases h4 y hy with r | ⟨j, j1, -⟩
    · exact r
    · omega
  · intro q
    rcases Nat.eq_zero_or_pos n with r | r
    · exact r
    · have z := h3 0 r
      rw [q _ (h2 0 hc)] at z
      omega
theorem own_IV_new (hp : ∀ y, y < c → pl y = 0) (hi : ∀ j, j < c → it j < c) : own_IV c 0 it pl := ⟨Nat.zero_le _, hi, fun j hj => absurd hj (Nat.not_lt_zero _), fun y hy => Or.inl (hp y hy)⟩
end OwnIx
theorem own_pig3 : ∀ a b c x : Fin 3, a ≠ b → a ≠ c → b ≠ c → x = a ∨ x = b ∨ x = c := by decide +kernel
theorem own_pig4 : ∀ a b c d x : Fin 4, a ≠ b → a ≠ c → a ≠ d → b ≠ c → b ≠ d → c ≠ d → x = a ∨ x = b ∨ x = c ∨ x = d := by decide +kernel
theorem own_room3 {n x : Nat} {it pl : Nat → Nat} (h : own_IV 3 n it pl) (hx : x < 3) (h0 : pl x = 0) : n < 3 := by
  obtain ⟨h1, h2, h3, -⟩ := h
  refine Classical.byContradiction fun q => ?_
  have e : n = 3 := by omega
  subst e
  have d : ∀ i j, i < 3 → j < 3 → i ≠ j → it i ≠ it j := fun i j a b r z => r (by have p1 := h3 i a; have p2 := h3 j b; rw [z] at p1; omega)
  have v : ∀ j, j < 3 → it j ≠ x := fun j hj z => by have p1 := h3 j hj; rw [z, h0] at p1; omega
  have k := own_pig3 ⟨it 0, h2 0 (by omega)⟩ ⟨it 1, h2 1 (by omega)⟩ ⟨it 2, h2 2 (by omega)⟩ ⟨x, hx⟩ (fun z => d 0 1 (by omega) (by omega) (by omega) (congrArg Fin.val z)) (fun z => d 0 2 (by omega) (by omega) (by omega) (congrArg Fin.val z)) (fun z => d 1 2 (by omega) (by omega) (by omega) (congrArg Fin.val z))
  rcases k with k | k | k
  · exact v 0 (by omega) (congrArg Fin.val k).symm
  · exact v 1 (by omega) (congrArg Fin.val k).symm
  · exact v 2 (by omega) (congrArg Fin.val k).symm
theorem own_room4 {n x : Nat} {it pl : Nat → Nat} (h : own_IV 4 n it pl) (hx : x < 4) (h0 : pl x = 0) : n < 4 := by
  obtain ⟨h1, h2, h3, -⟩ := h
  refine Classical.byContradiction fun q => ?_
  have e : n = 4 := by omega
  subst e
  have d : ∀ i j, i < 4 → j < 4 → i ≠ j → it i ≠ it j := fun i j a b r z => r (by have p1 := h3 i a; have p2 := h3 j b; rw [z] at p1; omega)
  have v : ∀ j, j < 4 → it j ≠ x := fun j hj z => by have p1 := h3 j hj; rw [z, h0] at p1; omega
  have k := own_pig4 ⟨it 0, h2 0 (by omega)⟩ ⟨it 1, h2 1 (by omega)⟩ ⟨it 2, h2 2 (by omega)⟩ ⟨it 3, h2 3 (by omega)⟩ ⟨x, hx⟩ (fun z => d 0 1 (by omega) (by omega) (by omega) (congrArg Fin.val z)) (fun z => d 0 2 (by omega) (by omega) (by omega) (congrArg Fin.val z)) (fun z => d 0 3 (by omega) (by omega) (by omega) (congrArg Fin.val z)) (fun z => d 1 2 (by omega) (by omega) (by omega) (congrArg Fin.val z)) (fun z => d 1 3 (by omega) (by omega) (by omega) (congrArg Fin.val z)) (fun z => d 2 3 (by omega) (by omega) (by omega) (congrArg Fin.val z))
  rcases k with k | k | k | k
  · exact v 0 (by omega) (congrArg Fin.val k).symm
  · exact v 1 (by omega) (congrArg Fin.val k).symm
  · exact v 2 (by omega) (congrArg Fin.val k).symm
  · exact v 3 (by omega) (congrArg Fin.val k).symm
section OwnIy
variable {Z : State} {h : Heap} {b : Addr} {c i x : Nat} {it pl : Nat → Nat}
theorem own_setit (F : own_A Z h b .int c (fun kk => (.int (if kk = ((i.toInt32) : Int32).toNatClampNeg then (x.toInt32) else ((it kk).toInt32))))) (hi : i < 2147483648) : own_A Z h b .int c (fun kk => (.int ((own_u it i x kk).toInt32))) :=
  F.eqv fun j _ => by
    rw [own_tn hi]; unfold own_u
    by_cases q : j = i
    · simp only [if_pos q]
    · simp only [if_neg q]
theorem own_setpl (F : own_A Z h b .int c (fun kk => (.int (if kk = ((x.toInt32) : Int32).toNatClampNeg then (i.toInt32) else (own_pl (pl kk)))))) (hx : x < 2147483648) : own_A Z h b .int c (fun kk => (.int (own_pl (own_u pl x (i + 1) kk)))) :=
  F.eqv fun j _ => by
    rw [own_tn hx]; unfold own_u
    by_cases q : j = x
    · simp only [if_pos q, own_pl_succ]
    · simp only [if_neg q]
theorem own_setno (F : own_A Z h b .int c (fun kk => (.int (if kk = ((x.toInt32) : Int32).toNatClampNeg then (-1 : Int32) else (own_pl (pl kk)))))) (hx : x < 2147483648) : own_A Z h b .int c (fun kk => (.int (own_pl (own_u pl x 0 kk)))) :=
  F.eqv fun j _ => by
    rw [own_tn hx]; unfold own_u
    by_cases q : j = x
    · simp only [if_pos q]; rfl
    · simp only [if_neg q]
end OwnIy
theorem own_par8 : ∀ i : Fin 8, 0 < i.1 → ((i.1.toInt32 - (1 : Int32)) / (2 : Int32)) = ((i.1 - 1) / 2).toInt32 := by decide +kernel
theorem own_two8 : ∀ i : Fin 8, (((2 : Int32) * i.1.toInt32) + (1 : Int32)) = (2 * i.1 + 1).toInt32 := by decide +kernel
def own_bfr (a b : Int64) (x y : Int32) : Int32 := if a < b then 1 else if a = b then (if x < y then 1 else 0) else 0


def own_uk (f : Nat → Int64) (k : Nat) (v : Int64) : Nat → Int64 := fun j => if j = k then v else f j
def own_z : Nat → Nat := fun _ => 0
def own_zk : Nat → Int64 := fun _ => 0
theorem own_setk {Z : State} {h : Heap} {b : Addr} {c i : Nat} {ky : Nat → Int64} {v : Int64} (F : own_A Z h b .long c (fun kk => (.long (if kk = ((i.toInt32) : Int32).toNatClampNeg then v else (ky kk))))) (hi : i < 2147483648) : own_A Z h b .long c (fun kk => (.long (own_uk ky i v kk))) :=
  F.eqv fun j _ => by
    rw [own_tn hi]; unfold own_uk
    by_cases q : j = i
    · simp only [if_pos q]
    · simp only [if_neg q]
theorem own_dec1 {n : Nat} (h : 0 < n) : n.toInt32 - (1 : Int32) = (n - 1).toInt32 := by
  cases n with
  | zero => omega
  | succ n => exact own_dec n
theorem own_held_old {c x : Nat} {pl : Nat → Nat} (h : pl x ≠ 0) : ∀ y, y < c → (pl y = 0 ↔ y ≠ x ∧ pl y = 0) := fun y _ => ⟨fun q => ⟨fun z => h (z ▸ q), q⟩, fun q => q.2⟩
theorem own_held_non {c x : Nat} {pl : Nat → Nat} (h : pl x = 0) : ∀ y, y < c → (pl y = 0 ↔ y = x ∨ pl y = 0) := fun y _ => ⟨fun q => Or.inr q, fun q => q.elim (fun z => z ▸ h) id⟩
theorem own_ne0 {n : Nat} (h : 0 < n) (hn : n < 2147483648) : ¬ n.toInt32 = (0 : Int32) := fun q => by
  have h2 := own_ti hn
  rw [q] at h2
  have q2 : (0 : Int32).toInt = 0 := by decide
  omega

theorem d3_0 : decode jdk_65_method_103_code 0 = .ok (.iconst 0, 1) := by decide +kernel
theorem d3_1 : decode jdk_65_method_103_code 1 = .ok (.istore_n 2, 1) := by decide +kernel
theorem d3_2 : decode jdk_65_method_103_code 2 = .ok (.aload_n 0, 1) := by decide +kernel
theorem d3_3 : decode jdk_65_method_103_code 3 = .ok (.arraylength, 1) := by decide +kernel
theorem d3_4 : decode jdk_65_method_103_code 4 = .ok (.istore_n 3, 1) := by decide +kernel
theorem d3_5 : decode jdk_65_method_103_code 5 = .ok (.iload_n 2, 1) := by decide +kernel
theorem d3_6 : decode jdk_65_method_103_code 6 = .ok (.iload_n 3, 1) := by decide +kernel
theorem d3_7 : decode jdk_65_method_103_code 7 = .ok (.if_icmp .ge 13, 3) := by decide +kernel
theorem d3_10 : decode jdk_65_method_103_code 10 = .ok (.aload_n 0, 1) := by decide +kernel
theorem d3_11 : decode jdk_65_method_103_code 11 = .ok (.iload_n 2, 1) := by decide +kernel
theorem d3_12 : decode jdk_65_method_103_code 12 = .ok (.iload_n 1, 1) := by decide +kernel
theorem d3_13 : decode jdk_65_method_103_code 13 = .ok (.iastore, 1) := by decide +kernel
theorem d3_14 : decode jdk_65_method_103_code 14 = .ok (.iinc 2 1, 3) := by decide +kernel
theorem d3_17 : decode jdk_65_method_103_code 17 = .ok (.goto (-12), 3) := by decide +kernel
theorem d3_20 : decode jdk_65_method_103_code 20 = .ok (.return_, 1) := by decide +kernel
theorem pn_0 : plainName "java/util/Arrays" = true := by first | (simp [plainName, overriddenIn]; done) | decide +kernel
theorem ef_3 (m : MethodId) (o0 : Addr) (p1 : Int32) : entryFrame m #[(.ref o0), (.int p1)] 4 = mkF m 0 #[.val (.ref o0), .val (.int p1), .unset, .unset] [] := by first | (simp [entryFrame, mkF, argsToLocals, Value.category]; done) | rfl

def Q3 (Z : State) (o0 : Addr) (p1 : Int32) (f0 : Nat → Int32) (h0 : Heap) (n0 : Nat) (v : Option Value) (h : Heap) (L : List Loc) : Prop := v = none ∧ Fr n0 L ∧ Keep h0 h [o0] ∧ (own_A Z h o0 .int 3 (fun kk => (.int p1)))
set_option maxRecDepth 65536 in
set_option maxHeartbeats 40000000 in
theorem rm3 (l : Launch) (Z : State) (a0 : Array Value) (hw : ∀ d ∈ tables_1, d.before a0 Z = true) (ws : List Jvm.Cond) (o0 : Addr) (p1 : Int32) (f0 : Nat → Int32) (h0 : Heap) (n0 : Nat) (Z0 : n0 ≤ h0.size) (A_o0 : own_A Z h0 o0 .int 3 (fun kk => (.int (f0 kk)))) (g_o0 : n0 ≤ o0) :
    MetFree l (⟨"java/util/Arrays", "fill", "([II)V"⟩ : MethodName) (head1 (Jvm.Cond.code (⟨"java/util/Arrays", "fill", "([II)V"⟩ : MethodName) jdk_65_method_103_code 4 none :: ws) ({ frames := 0, cells := 0, slots := 0, locals := 0 } : Room)) (fun a U => a = #[(.ref o0), (.int p1)] ∧ Z.Warmed39 U.vm ∧ U.heap = h0) (fun _ _ _ _ _ => True) (fun _ U o U' => ∃ v L, o = .returned v ∧ Q3 Z o0 p1 f0 h0 n0 v U'.heap L ∧ FrameEnd U o U' L ({ frames := 0, cells := 0, slots := 0, locals := 0 } : Room).cells ({ frames := 0, cells := 0, slots := 0, locals := 0 } : Room).slots) := by
  refine MetFree.of_bodySF (plainFor_of_name pn_0) hisR ?_
  intro p e s m args below meth c s₁ Bd hml0 hP hK
  obtain ⟨rfl, hZ, hh⟩ := hP
  have hx := Bd.exec
  have hby := Bd.bytes
  have hml : c.maxLocals = 4 := hml0
  have hown : s.vm.findClass "java/util/Arrays" = some m.cls := findClass_of_methodNamed Bd.named
  have hnm := (name_of_methodNamed Bd.named Bd.method).1
  have X0 : Stand p l e ({ frames := 0, cells := 0, slots := 0, locals := 0 } : Room) s m #[(.ref o0), (.int p1)] below meth c s₁ [] 0 0 := Stand.of_body Bd
  have e0 : s₁.heap = h0 := by rw [← hh, Bd.state]; rfl
  have N0 := Fr.nil n0
  have pre0 : ∀ t, Steps p.tables e below (s₁.setTop (mkF m 0 #[.val (.ref o0), .val (.int p1), .unset, .unset] [])) t → Steps p.tables e below (s₁.setTop (entryFrame m #[(.ref o0), (.int p1)] 4)) t := fun t k => castTop (ef_3 m o0 p1) k
  have qa1 := A_o0
  obtain ⟨c1, Ar1, Sz1, H1⟩ := qa1
  have qa2 := A_o0
  obtain ⟨c2, Ar2, Sz2, H2⟩ := qa2
  have hi3 : 0 ≤ ((0 : Int32) : Int32).toInt ∧ ((0 : Int32) : Int32).toInt < (3 : Nat) := (by decide)
  obtain ⟨T3, h3, X3, e3, W3, st3⟩ := stI X0 hx hZ e0 Ar2 (j := (0 : Int32)) (own_in Sz2 hi3) (g := (mkF m 13 #[.val (.ref o0), .val (.int p1), .val (.int (0 : Int32)), .val (.int (3 : Int32))] [(.int p1), (.int (0 : Int32)), (.ref o0)])) rfl rfl (hb hby d3_13)
  have N3 := Fr.snoc X3 N0 g_o0
  have A_o0_w3 : own_A Z h3 o0 .int 3 (fun kk => (.int (if kk = ((0 : Int32) : Int32).toNatClampNeg then p1 else (f0 kk)))) := own_A.setI A_o0 W3
  have SZ5 : h0.size ≤ h3.size := by rw [W3.size]; exact (Nat.le_refl _)
  have ZZ5 : n0 ≤ h3.size := Nat.le_trans Z0 SZ5
  have K6 : Keep h0 h3 [o0] := ((Keep.refl h0 [o0])).wr W3 (Or.inl (List.mem_of_getElem? (i := 0) rfl))
  have qa7 := A_o0_w3
  obtain ⟨c7, Ar7, Sz7, H7⟩ := qa7
  have hi8 : 0 ≤ ((1 : Int32) : Int32).toInt ∧ ((1 : Int32) : Int32).toInt < (3 : Nat) := (by decide)
  obtain ⟨T8, h8, X8, e8, W8, st8⟩ := stI X3 hx hZ e3 Ar7 (j := (1 : Int32)) (own_in Sz7 hi8) (g := (mkF m 13 #[.val (.ref o0), .val (.int p1), .val (.int (1 : Int32)), .val (.int (3 : Int32))] [(.int p1), (.int (1 : Int32)), (.ref o0)])) rfl rfl (hb hby d3_13)
  have N8 := Fr.snoc X8 N3 g_o0
  have A_o0_w8 : own_A Z h8 o0 .int 3 (fun kk => (.int (if kk = ((1 : Int32) : Int32).toNatClampNeg then p1 else (if kk = ((0 : Int32) : Int32).toNatClampNeg then p1 else (f0 kk))))) := own_A.setI A_o0_w3 W8
  have SZ10 : h0.size ≤ h8.size := by rw [W8.size]; exact SZ5
  have ZZ10 : n0 ≤ h8.size := Nat.le_trans Z0 SZ10
  have K11 : Keep h0 h8 [o0] := (K6).wr W8 (Or.inl (List.mem_of_getElem? (i := 0) rfl))
  have qa12 := A_o0_w8
  obtain ⟨c12, Ar12, Sz12, H12⟩ := qa12
  have hi13 : 0 ≤ ((2 : Int32) : Int32).toInt ∧ ((2 : Int32) : Int32).toInt < (3 : Nat) := (by decide)
  obtain ⟨T13, h13, X13, e13, W13, st13⟩ := stI X8 hx hZ e8 Ar12 (j := (2 : Int32)) (own_in Sz12 hi13) (g := (mkF m 13 #[.val (.ref o0), .val (.int p1), .val (.int (2 : Int32)), .val (.int (3 : Int32))] [(.int p1), (.int (2 : Int32)), (.ref o0)])) rfl rfl (hb hby d3_13)
  have N13 := Fr.snoc X13 N8 g_o0
  have A_o0_w13 : own_A Z h13 o0 .int 3 (fun kk => (.int (if kk = ((2 : Int32) : Int32).toNatClampNeg then p1 else (if kk = ((1 : Int32) : Int32).toNatClampNeg then p1 else (if kk = ((0 : Int32) : Int32).toNatClampNeg then p1 else (f0 kk)))))) := own_A.setI A_o0_w8 W13
  have SZ15 : h0.size ≤ h13.size := by rw [W13.size]; exact SZ10
  have ZZ15 : n0 ≤ h13.size := Nat.le_trans Z0 SZ15
  have K16 : Keep h0 h13 [o0] := (K11).wr W13 (Or.inl (List.mem_of_getElem? (i := 0) rfl))
  have pre17 : ∀ t, Steps p.tables e below (T13.setTop (mkF m 20 #[.val (.ref o0), .val (.int p1), .val (.int (3 : Int32)), .val (.int (3 : Int32))] [])) t → Steps p.tables e below (s₁.setTop (entryFrame m #[(.ref o0), (.int p1)] 4)) t := fun t k => pre0 t (by
    show Steps p.tables e below (s₁.setTop (mkF m 0 #[.val (.ref o0), .val (.int p1), .unset, .unset] [])) _
    refine XS.iconst X0.here hx rfl (hb hby d3_0) ?_
    show Steps p.tables e below (s₁.setTop (mkF m 1 #[.val (.ref o0), .val (.int p1), .unset, .unset] [(.int (0 : Int32))])) _
    refine XS.istoreN X0.here hx rfl (hb hby d3_1) rfl (l' := #[.val (.ref o0), .val (.int p1), .val (.int (0 : Int32)), .unset]) rfl ?_
    show Steps p.tables e below (s₁.setTop (mkF m 2 #[.val (.ref o0), .val (.int p1), .val (.int (0 : Int32)), .unset] [])) _
    refine XS.aloadN X0.here hx rfl (hb hby d3_2) rfl rfl ?_
    show Steps p.tables e below (s₁.setTop (mkF m 3 #[.val (.ref o0), .val (.int p1), .val (.int (0 : Int32)), .unset] [(.ref o0)])) _
    refine X0.arraylength hx (by rw [e0]; exact Ar1.1) (State.isArrayOf_alike hZ.alike Ar1.2.1) (g := (mkF m 3 #[.val (.ref o0), .val (.int p1), .val (.int (0 : Int32)), .unset] [(.ref o0)])) rfl rfl (hb hby d3_3) _ ?_
    rw [own_len Sz1 (z := (3 : Int32)) rfl]
    show Steps p.tables e below (s₁.setTop (mkF m 4 #[.val (.ref o0), .val (.int p1), .val (.int (0 : Int32)), .unset] [(.int (3 : Int32))])) _
    refine XS.istoreN X0.here hx rfl (hb hby d3_4) rfl (l' := #[.val (.ref o0), .val (.int p1), .val (.int (0 : Int32)), .val (.int (3 : Int32))]) rfl ?_
    show Steps p.tables e below (s₁.setTop (mkF m 5 #[.val (.ref o0), .val (.int p1), .val (.int (0 : Int32)), .val (.int (3 : Int32))] [])) _
    refine XS.iloadN X0.here hx rfl (hb hby d3_5) rfl ?_
    show Steps p.tables e below (s₁.setTop (mkF m 6 #[.val (.ref o0), .val (.int p1), .val (.int (0 : Int32)), .val (.int (3 : Int32))] [(.int (0 : Int32))])) _
    refine XS.iloadN X0.here hx rfl (hb hby d3_6) rfl ?_
    show Steps p.tables e below (s₁.setTop (mkF m 7 #[.val (.ref o0), .val (.int p1), .val (.int (0 : Int32)), .val (.int (3 : Int32))] [(.int (3 : Int32)), (.int (0 : Int32))])) _
    refine XS.icmpNo X0.here hx rfl (hb hby d3_7) rfl (tlt (show (0 : Int32) < (3 : Int32) by decide)).2.1 ?_
    show Steps p.tables e below (s₁.setTop (mkF m 10 #[.val (.ref o0), .val (.int p1), .val (.int (0 : Int32)), .val (.int (3 : Int32))] [])) _
    refine XS.aloadN X0.here hx rfl (hb hby d3_10) rfl rfl ?_
    show Steps p.tables e below (s₁.setTop (mkF m 11 #[.val (.ref o0), .val (.int p1), .val (.int (0 : Int32)), .val (.int (3 : Int32))] [(.ref o0)])) _
    refine XS.iloadN X0.here hx rfl (hb hby d3_11) rfl ?_
    show Steps p.tables e below (s₁.setTop (mkF m 12 #[.val (.ref o0), .val (.int p1), .val (.int (0 : Int32)), .val (.int (3 : Int32))] [(.int (0 : Int32)), (.ref o0)])) _
    refine XS.iloadN X0.here hx rfl (hb hby d3_12) rfl ?_
    show Steps p.tables e below (s₁.setTop (mkF m 13 #[.val (.ref o0), .val (.int p1), .val (.int (0 : Int32)), .val (.int (3 : Int32))] [(.int p1), (.int (0 : Int32)), (.ref o0)])) _
    refine st3 _ ?_
    show Steps p.tables e below (T3.setTop (mkF m 14 #[.val (.ref o0), .val (.int p1), .val (.int (0 : Int32)), .val (.int (3 : Int32))] [])) _
    refine XS.iinc X3.here hx rfl (hb hby d3_14) rfl (l' := #[.val (.ref o0), .val (.int p1), .val (.int (1 : Int32)), .val (.int (3 : Int32))]) rfl ?_
    show Steps p.tables e below (T3.setTop (mkF m 17 #[.val (.ref o0), .val (.int p1), .val (.int (1 : Int32)), .val (.int (3 : Int32))] [])) _
    refine XS.goto X3.here hx rfl (pc0 := 17) (pc' := 5) rfl (hb hby d3_17) (by decide) (by decide) ?_
    show Steps p.tables e below (T3.setTop (mkF m 5 #[.val (.ref o0), .val (.int p1), .val (.int (1 : Int32)), .val (.int (3 : Int32))] [])) _
    refine XS.iloadN X3.here hx rfl (hb hby d3_5) rfl ?_
    show Steps p.tables e below (T3.setTop (mkF m 6 #[.val (.ref o0), .val (.int p1), .val (.int (1 : Int32)), .val (.int (3 : Int32))] [(.int (1 : Int32))])) _
    refine XS.iloadN X3.here hx rfl (hb hby d3_6) rfl ?_
    show Steps p.tables e below (T3.setTop (mkF m 7 #[.val (.ref o0), .val (.int p1), .val (.int (1 : Int32)), .val (.int (3 : Int32))] [(.int (3 : Int32)), (.int (1 : Int32))])) _
    refine XS.icmpNo X3.here hx rfl (hb hby d3_7) rfl (tlt (show (1 : Int32) < (3 : Int32) by decide)).2.1 ?_
    show Steps p.tables e below (T3.setTop (mkF m 10 #[.val (.ref o0), .val (.int p1), .val (.int (1 : Int32)), .val (.int (3 : Int32))] [])) _
    refine XS.aloadN X3.here hx rfl (hb hby d3_10) rfl rfl ?_
    show Steps p.tables e below (T3.setTop (mkF m 11 #[.val (.ref o0), .val (.int p1), .val (.int (1 : Int32)), .val (.int (3 : Int32))] [(.ref o0)])) _
    refine XS.iloadN X3.here hx rfl (hb hby d3_11) rfl ?_
    show Steps p.tables e below (T3.setTop (mkF m 12 #[.val (.ref o0), .val (.int p1), .val (.int (1 : Int32)), .val (.int (3 : Int32))] [(.int (1 : Int32)), (.ref o0)])) _
    refine XS.iloadN X3.here hx rfl (hb hby d3_12) rfl ?_
    show Steps p.tables e below (T3.setTop (mkF m 13 #[.val (.ref o0), .val (.int p1), .val (.int (1 : Int32)), .val (.int (3 : Int32))] [(.int p1), (.int (1 : Int32)), (.ref o0)])) _
    refine st8 _ ?_
    show Steps p.tables e below (T8.setTop (mkF m 14 #[.val (.ref o0), .val (.int p1), .val (.int (1 : Int32)), .val (.int (3 : Int32))] [])) _
    refine XS.iinc X8.here hx rfl (hb hby d3_14) rfl (l' := #[.val (.ref o0), .val (.int p1), .val (.int (2 : Int32)), .val (.int (3 : Int32))]) rfl ?_
    show Steps p.tables e below (T8.setTop (mkF m 17 #[.val (.ref o0), .val (.int p1), .val (.int (2 : Int32)), .val (.int (3 : Int32))] [])) _
    refine XS.goto X8.here hx rfl (pc0 := 17) (pc' := 5) rfl (hb hby d3_17) (by decide) (by decide) ?_
    show Steps p.tables e below (T8.setTop (mkF m 5 #[.val (.ref o0), .val (.int p1), .val (.int (2 : Int32)), .val (.int (3 : Int32))] [])) _
    refine XS.iloadN X8.here hx rfl (hb hby d3_5) rfl ?_
    show Steps p.tables e below (T8.setTop (mkF m 6 #[.val (.ref o0), .val (.int p1), .val (.int (2 : Int32)), .val (.int (3 : Int32))] [(.int (2 : Int32))])) _
    refine XS.iloadN X8.here hx rfl (hb hby d3_6) rfl ?_
    show Steps p.tables e below (T8.setTop (mkF m 7 #[.val (.ref o0), .val (.int p1), .val (.int (2 : Int32)), .val (.int (3 : Int32))] [(.int (3 : Int32)), (.int (2 : Int32))])) _
    refine XS.icmpNo X8.here hx rfl (hb hby d3_7) rfl (tlt (show (2 : Int32) < (3 : Int32) by decide)).2.1 ?_
    show Steps p.tables e below (T8.setTop (mkF m 10 #[.val (.ref o0), .val (.int p1), .val (.int (2 : Int32)), .val (.int (3 : Int32))] [])) _
    refine XS.aloadN X8.here hx rfl (hb hby d3_10) rfl rfl ?_
    show Steps p.tables e below (T8.setTop (mkF m 11 #[.val (.ref o0), .val (.int p1), .val (.int (2 : Int32)), .val (.int (3 : Int32))] [(.ref o0)])) _
    refine XS.iloadN X8.here hx rfl (hb hby d3_11) rfl ?_
    show Steps p.tables e below (T8.setTop (mkF m 12 #[.val (.ref o0), .val (.int p1), .val (.int (2 : Int32)), .val (.int (3 : Int32))] [(.int (2 : Int32)), (.ref o0)])) _
    refine XS.iloadN X8.here hx rfl (hb hby d3_12) rfl ?_
    show Steps p.tables e below (T8.setTop (mkF m 13 #[.val (.ref o0), .val (.int p1), .val (.int (2 : Int32)), .val (.int (3 : Int32))] [(.int p1), (.int (2 : Int32)), (.ref o0)])) _
    refine st13 _ ?_
    show Steps p.tables e below (T13.setTop (mkF m 14 #[.val (.ref o0), .val (.int p1), .val (.int (2 : Int32)), .val (.int (3 : Int32))] [])) _
    refine XS.iinc X13.here hx rfl (hb hby d3_14) rfl (l' := #[.val (.ref o0), .val (.int p1), .val (.int (3 : Int32)), .val (.int (3 : Int32))]) rfl ?_
    show Steps p.tables e below (T13.setTop (mkF m 17 #[.val (.ref o0), .val (.int p1), .val (.int (3 : Int32)), .val (.int (3 : Int32))] [])) _
    refine XS.goto X13.here hx rfl (pc0 := 17) (pc' := 5) rfl (hb hby d3_17) (by decide) (by decide) ?_
    show Steps p.tables e below (T13.setTop (mkF m 5 #[.val (.ref o0), .val (.int p1), .val (.int (3 : Int32)), .val (.int (3 : Int32))] [])) _
    refine XS.iloadN X13.here hx rfl (hb hby d3_5) rfl ?_
    show Steps p.tables e below (T13.setTop (mkF m 6 #[.val (.ref o0), .val (.int p1), .val (.int (3 : Int32)), .val (.int (3 : Int32))] [(.int (3 : Int32))])) _
    refine XS.iloadN X13.here hx rfl (hb hby d3_6) rfl ?_
    show Steps p.tables e below (T13.setTop (mkF m 7 #[.val (.ref o0), .val (.int p1), .val (.int (3 : Int32)), .val (.int (3 : Int32))] [(.int (3 : Int32)), (.int (3 : Int32))])) _
    refine XS.icmpYes X13.here hx rfl (pc0 := 7) (pc' := 20) rfl (hb hby d3_7) rfl (flt (show ¬ ((3 : Int32) < (3 : Int32)) by decide)).2.1 (by decide) (by decide) ?_
    show Steps p.tables e below (T13.setTop (mkF m 20 #[.val (.ref o0), .val (.int p1), .val (.int (3 : Int32)), .val (.int (3 : Int32))] [])) _
    exact k)
  obtain ⟨fs, hr, hrun, hended, hW, hsame⟩ := X13.leave (v := none) (fun _ => rfl)
  refine ⟨_, _, pre17 _ ?_, hrun, hended, _, _, rfl, ?_, ⟨_, rfl⟩, hW, hsame.mono (by decide) (by decide)⟩
  · exact X13.returnOut hx Bd.returns (hb hby d3_20) hr
  · show Q3 Z o0 p1 f0 h0 n0 _ T13.heap _
    rw [e13]
    exact ⟨rfl, N13, K16, (own_A.eqv A_o0_w13 (fun j hj => by
          rcases (show j = 0 ∨ j = 1 ∨ j = 2 by omega) with q | q | q <;> subst q <;> rfl))⟩
theorem d1_0 : decode prog_55_method_1_code 0 = .ok (.aload_n 0, 1) := by decide +kernel
theorem d1_1 : decode prog_55_method_1_code 1 = .ok (.invokespecial 1, 3) := by decide +kernel
theorem d1_4 : decode prog_55_method_1_code 4 = .ok (.aload_n 0, 1) := by decide +kernel
theorem d1_5 : decode prog_55_method_1_code 5 = .ok (.iload_n 1, 1) := by decide +kernel
theorem d1_6 : decode prog_55_method_1_code 6 = .ok (.newarray .int, 2) := by decide +kernel
theorem d1_8 : decode prog_55_method_1_code 8 = .ok (.putfield 7, 3) := by decide +kernel
theorem d1_11 : decode prog_55_method_1_code 11 = .ok (.aload_n 0, 1) := by decide +kernel
theorem d1_12 : decode prog_55_method_1_code 12 = .ok (.iload_n 1, 1) := by decide +kernel
theorem d1_13 : decode prog_55_method_1_code 13 = .ok (.newarray .long, 2) := by decide +kernel
theorem d1_15 : decode prog_55_method_1_code 15 = .ok (.putfield 13, 3) := by decide +kernel
theorem d1_18 : decode prog_55_method_1_code 18 = .ok (.aload_n 0, 1) := by decide +kernel
theorem d1_19 : decode prog_55_method_1_code 19 = .ok (.iload_n 1, 1) := by decide +kernel
theorem d1_20 : decode prog_55_method_1_code 20 = .ok (.newarray .int, 2) := by decide +kernel
theorem d1_22 : decode prog_55_method_1_code 22 = .ok (.putfield 17, 3) := by decide +kernel
theorem d1_25 : decode prog_55_method_1_code 25 = .ok (.aload_n 0, 1) := by decide +kernel
theorem d1_26 : decode prog_55_method_1_code 26 = .ok (.getfield 17, 3) := by decide +kernel
theorem d1_29 : decode prog_55_method_1_code 29 = .ok (.iconst (-1), 1) := by decide +kernel
theorem d1_30 : decode prog_55_method_1_code 30 = .ok (.invokestatic 20, 3) := by decide +kernel
theorem d1_33 : decode prog_55_method_1_code 33 = .ok (.return_, 1) := by decide +kernel
theorem pn_1 : plainName "com/example/lean_layers/leanlayers/phase/layering/IndexedHeap" = true := by first | (simp [plainName, overriddenIn]; done) | decide +kernel
theorem pd_0 : parseMethodDescriptor "([II)V" = some ⟨[(.array .int), .int], none⟩ := by decide +kernel
theorem ef_1 (m : MethodId) (o0 : Addr) (p1 : Int32) : entryFrame m #[(.ref o0), (.int p1)] 2 = mkF m 0 #[.val (.ref o0), .val (.int p1)] [] := by first | (simp [entryFrame, mkF, argsToLocals, Value.category]; done) | rfl

def Q1 (Z : State) (o0 : Addr) (p1 : Int32) (h0 : Heap) (n0 : Nat) (v : Option Value) (h : Heap) (L : List Loc) : Prop := ∃ (ti : Addr) (tk : Addr) (tp : Addr), v = none ∧ Fr n0 L ∧ Keep h0 h [o0] ∧ h0.size ≤ ti ∧ h0.size ≤ tk ∧ h0.size ≤ tp ∧ ti ≠ tk ∧ ti ≠ tp ∧ tk ≠ tp ∧ (Fld Z h o0 "com/example/lean_layers/leanlayers/phase/layering/IndexedHeap" "items" "[I" (.ref ti)) ∧ (Fld Z h o0 "com/example/lean_layers/leanlayers/phase/layering/IndexedHeap" "keys" "[J" (.ref tk)) ∧ (Fld Z h o0 "com/example/lean_layers/leanlayers/phase/layering/IndexedHeap" "place" "[I" (.ref tp)) ∧ (Fld Z h o0 "com/example/lean_layers/leanlayers/phase/layering/IndexedHeap" "size" "I" (.int ((0 : Nat).toInt32))) ∧ (own_A Z h ti .int 3 (fun kk => (.int ((own_z kk).toInt32)))) ∧ (own_A Z h tk .long 3 (fun kk => (.long (own_zk kk)))) ∧ (own_A Z h tp .int 3 (fun kk => (.int (own_pl (own_z kk)))))
set_option maxRecDepth 65536 in
set_option maxHeartbeats 40000000 in
theorem rm1 (l : Launch) (Z : State) (a0 : Array Value) (hw : ∀ d ∈ tables_1, d.before a0 Z = true) (ws : List Jvm.Cond) (o0 : Addr) (p1 : Int32) (h0 : Heap) (n0 : Nat) (Z0 : n0 ≤ h0.size) (F_items_o0 : Fld Z h0 o0 "com/example/lean_layers/leanlayers/phase/layering/IndexedHeap" "items" "[I" .null) (F_keys_o0 : Fld Z h0 o0 "com/example/lean_layers/leanlayers/phase/layering/IndexedHeap" "keys" "[J" .null) (F_place_o0 : Fld Z h0 o0 "com/example/lean_layers/leanlayers/phase/layering/IndexedHeap" "place" "[I" .null) (E_o0 : Exa Z h0 o0 "com/example/lean_layers/leanlayers/phase/layering/IndexedHeap") (F_size_o0 : Fld Z h0 o0 "com/example/lean_layers/leanlayers/phase/layering/IndexedHeap" "size" "I" (.int (0 : Int32))) (g_o0 : n0 ≤ o0) (hp1 : p1 = (3 : Int32)) :
    MetFree l (⟨"com/example/lean_layers/leanlayers/phase/layering/IndexedHeap", "<init>", "(I)V"⟩ : MethodName) (head1 (Jvm.Cond.code (⟨"com/example/lean_layers/leanlayers/phase/layering/IndexedHeap", "<init>", "(I)V"⟩ : MethodName) prog_55_method_1_code 2 none :: ws) ({ frames := 1, cells := 3, slots := 9, locals := 15 } : Room)) (fun a U => a = #[(.ref o0), (.int p1)] ∧ Z.Warmed39 U.vm ∧ U.heap = h0) (fun _ _ _ _ _ => True) (fun _ U o U' => ∃ v L, o = .returned v ∧ Q1 Z o0 p1 h0 n0 v U'.heap L ∧ FrameEnd U o U' L ({ frames := 1, cells := 3, slots := 9, locals := 15 } : Room).cells ({ frames := 1, cells := 3, slots := 9, locals := 15 } : Room).slots) := by
  refine MetFree.of_bodySF (plainFor_of_name pn_1) hisR ?_
  intro p e s m args below meth c s₁ Bd hml0 hP hK
  obtain ⟨rfl, hZ, hh⟩ := hP
  have hx := Bd.exec
  have hby := Bd.bytes
  have hml : c.maxLocals = 2 := hml0
  have hown : s.vm.findClass "com/example/lean_layers/leanlayers/phase/layering/IndexedHeap" = some m.cls := findClass_of_methodNamed Bd.named
  have hnm := (name_of_methodNamed Bd.named Bd.method).1
  have X0 : Stand p l e ({ frames := 1, cells := 3, slots := 9, locals := 15 } : Room) s m #[(.ref o0), (.int p1)] below meth c s₁ [] 0 0 := Stand.of_body Bd
  have e0 : s₁.heap = h0 := by rw [← hh, Bd.state]; rfl
  have N0 := Fr.nil n0
  have pre0 : ∀ t, Steps p.tables e below (s₁.setTop (mkF m 0 #[.val (.ref o0), .val (.int p1)] [])) t → Steps p.tables e below (s₁.setTop (entryFrame m #[(.ref o0), (.int p1)] 2)) t := fun t k => castTop (ef_1 m o0 p1) k
  have pre1 : ∀ t, Steps p.tables e below (s₁.setTop (mkF m 0 #[.val (.ref o0), .val (.int p1)] [])) t → Steps p.tables e below (s₁.setTop (entryFrame m #[(.ref o0), (.int p1)] 2)) t := fun t k => pre0 t (by
    show Steps p.tables e below (s₁.setTop (mkF m 0 #[.val (.ref o0), .val (.int p1)] [])) _
    exact k)
  have hre2 : p1 = (3 : Int32) := hp1
  have pre2 : ∀ t, Steps p.tables e below (s₁.setTop (mkF m 0 #[.val (.ref o0), .val (.int (3 : Int32))] [])) t → Steps p.tables e below (s₁.setTop (entryFrame m #[(.ref o0), (.int p1)] 2)) t := fun t k => pre1 t (by rw [hre2]; exact k)
  obtain ⟨T3, X3, e3, st3⟩ := initO X0 hx hZ hown (hw _ (List.mem_of_getElem? (i := 6) rfl)) (hw _ (List.mem_of_getElem? (i := 7) rfl)) (hw _ (List.mem_of_getElem? (i := 8) rfl)) e0 (g := (mkF m 1 #[.val (.ref o0), .val (.int (3 : Int32))] [(.ref o0)])) rfl (by rw [hml]; rfl) rfl (hb hby d1_1) (by decide) (W := 0) (by show 2 * 0 + _ ≤ _; exact Nat.le_of_eq rfl) (by decide)
  obtain ⟨T4, h4, k4, X4, e4, Ex4, Ne4, st4⟩ := newP X3 hx hZ (hw _ (List.mem_of_getElem? (i := 9) rfl)) e3 (g := (mkF m 6 #[.val (.ref o0), .val (.int (3 : Int32))] [(.int (3 : Int32)), (.ref o0)])) rfl (hb hby d1_6) rfl (by decide) (cap := 3) (by decide) (by decide) (by decide) (by decide)
  obtain ⟨b4, g4⟩ : ∃ z, z = h0.size := ⟨_, rfl⟩
  rw [← g4] at Ne4 st4
  have ne_o0_b4 : o0 ≠ b4 := by rw [g4]; exact Nat.ne_of_lt (F_items_o0).lt
  have g_b4 : n0 ≤ b4 := Nat.le_trans (Nat.le_trans Z0 (Nat.le_refl _)) (Nat.le_of_eq g4.symm)
  have sz_b4 : h0.size ≤ b4 := Nat.le_trans (Nat.le_refl _) (Nat.le_of_eq g4.symm)
  have F_items_o0_5 : Fld Z h4 o0 "com/example/lean_layers/leanlayers/phase/layering/IndexedHeap" "items" "[I" .null := (F_items_o0).ext Ex4
  have F_keys_o0_5 : Fld Z h4 o0 "com/example/lean_layers/leanlayers/phase/layering/IndexedHeap" "keys" "[J" .null := (F_keys_o0).ext Ex4
  have F_place_o0_5 : Fld Z h4 o0 "com/example/lean_layers/leanlayers/phase/layering/IndexedHeap" "place" "[I" .null := (F_place_o0).ext Ex4
  have E_o0_5 : Exa Z h4 o0 "com/example/lean_layers/leanlayers/phase/layering/IndexedHeap" := (E_o0).ext Ex4
  have F_size_o0_5 : Fld Z h4 o0 "com/example/lean_layers/leanlayers/phase/layering/IndexedHeap" "size" "I" (.int (0 : Int32)) := (F_size_o0).ext Ex4
  have SZ6 : h0.size ≤ h4.size := Nat.le_trans (Nat.le_refl _) Ex4.1
  have ZZ6 : n0 ≤ h4.size := Nat.le_trans Z0 SZ6
  have K7 : Keep h0 h4 [o0] := ((Keep.refl h0 [o0])).ext Ex4
  have A_b4_4 : own_A Z h4 b4 .int 3 (fun kk => (.int (0 : Int32))) := own_A.new Ne4
  obtain ⟨T8, h8, X8, e8, W8, st8⟩ := putF X4 hx hZ hown (host := "") (Or.inl (hw _ (List.mem_of_getElem? (i := 10) rfl))) Via.refl e4 F_items_o0_5 E_o0_5 (Or.inr ⟨(hw _ (List.mem_of_getElem? (i := 11) rfl)), rfl, hnm⟩) (hw _ (List.mem_of_getElem? (i := 1) rfl)) (ty := (.array .int)) (by decide) rfl rfl (g := (mkF m 8 #[.val (.ref o0), .val (.int (3 : Int32))] [(.ref b4), (.ref o0)])) rfl rfl (hb hby d1_8)
  have N8 := Fr.snoc X8 N0 g_o0
  have F_items_o0_w8 : Fld Z h8 o0 "com/example/lean_layers/leanlayers/phase/layering/IndexedHeap" "items" "[I" (.ref b4) := (F_items_o0_5).same W8
  have F_keys_o0_9 : Fld Z h8 o0 "com/example/lean_layers/leanlayers/phase/layering/IndexedHeap" "keys" "[J" .null := (F_keys_o0_5).other W8 (Or.inr (slot_ne (Or.inr (hw _ (List.mem_of_getElem? (i := 14) rfl))) (Or.inr (hw _ (List.mem_of_getElem? (i := 11) rfl))) (by decide) (t := (.array .long)) (t' := (.array .int)) (by decide) (by decide)))
  have F_place_o0_9 : Fld Z h8 o0 "com/example/lean_layers/leanlayers/phase/layering/IndexedHeap" "place" "[I" .null := (F_place_o0_5).other W8 (Or.inr (slot_ne (Or.inr (hw _ (List.mem_of_getElem? (i := 16) rfl))) (Or.inr (hw _ (List.mem_of_getElem? (i := 11) rfl))) (by decide) (t := (.array .int)) (t' := (.array .int)) (by decide) (by decide)))
  have E_o0_9 : Exa Z h8 o0 "com/example/lean_layers/leanlayers/phase/layering/IndexedHeap" := (E_o0_5).wr W8
  have F_size_o0_9 : Fld Z h8 o0 "com/example/lean_layers/leanlayers/phase/layering/IndexedHeap" "size" "I" (.int (0 : Int32)) := (F_size_o0_5).other W8 (Or.inr (slot_ne (Or.inl (hw _ (List.mem_of_getElem? (i := 28) rfl))) (Or.inr (hw _ (List.mem_of_getElem? (i := 11) rfl))) (by decide) (t := .int) (t' := (.array .int)) (by decide) (by decide)))
  have A_b4_9 : own_A Z h8 b4 .int 3 (fun kk => (.int (0 : Int32))) := (A_b4_4).other W8 (Ne.symm ne_o0_b4)
  have SZ10 : h0.size ≤ h8.size := by rw [W8.size]; exact SZ6
  have ZZ10 : n0 ≤ h8.size := Nat.le_trans Z0 SZ10
  have K11 : Keep h0 h8 [o0] := (K7).wr W8 (Or.inl (List.mem_of_getElem? (i := 0) rfl))
  obtain ⟨T12, h12, k12, X12, e12, Ex12, Ne12, st12⟩ := newP X8 hx hZ (hw _ (List.mem_of_getElem? (i := 12) rfl)) e8 (g := (mkF m 13 #[.val (.ref o0), .val (.int (3 : Int32))] [(.int (3 : Int32)), (.ref o0)])) rfl (hb hby d1_13) rfl (by decide) (cap := 3) (by decide) (by decide) (by decide) (by decide)
  obtain ⟨b12, g12⟩ : ∃ z, z = h8.size := ⟨_, rfl⟩
  rw [← g12] at Ne12 st12
  have ne_o0_b12 : o0 ≠ b12 := by rw [g12]; exact Nat.ne_of_lt (F_keys_o0_9).lt
  have ne_b4_b12 : b4 ≠ b12 := by rw [g12]; exact Nat.ne_of_lt (A_b4_9).lt
  have g_b12 : n0 ≤ b12 := Nat.le_trans (Nat.le_trans Z0 SZ10) (Nat.le_of_eq g12.symm)
  have sz_b12 : h0.size ≤ b12 := Nat.le_trans SZ10 (Nat.le_of_eq g12.symm)
  have F_keys_o0_13 : Fld Z h12 o0 "com/example/lean_layers/leanlayers/phase/layering/IndexedHeap" "keys" "[J" .null := (F_keys_o0_9).ext Ex12
  have F_place_o0_13 : Fld Z h12 o0 "com/example/lean_layers/leanlayers/phase/layering/IndexedHeap" "place" "[I" .null := (F_place_o0_9).ext Ex12
  have E_o0_13 : Exa Z h12 o0 "com/example/lean_layers/leanlayers/phase/layering/IndexedHeap" := (E_o0_9).ext Ex12
  have F_size_o0_13 : Fld Z h12 o0 "com/example/lean_layers/leanlayers/phase/layering/IndexedHeap" "size" "I" (.int (0 : Int32)) := (F_size_o0_9).ext Ex12
  have A_b4_13 : own_A Z h12 b4 .int 3 (fun kk => (.int (0 : Int32))) := (A_b4_9).ext Ex12
  have F_items_o0_13 : Fld Z h12 o0 "com/example/lean_layers/leanlayers/phase/layering/IndexedHeap" "items" "[I" (.ref b4) := (F_items_o0_w8).ext Ex12
  have SZ14 : h0.size ≤ h12.size := Nat.le_trans SZ10 Ex12.1
  have ZZ14 : n0 ≤ h12.size := Nat.le_trans Z0 SZ14
  have K15 : Keep h0 h12 [o0] := (K11).ext Ex12
  have A_b12_12 : own_A Z h12 b12 .long 3 (fun kk => (.long (0 : Int64))) := own_A.new Ne12
  obtain ⟨T16, h16, X16, e16, W16, st16⟩ := putF X12 hx hZ hown (host := "") (Or.inl (hw _ (List.mem_of_getElem? (i := 13) rfl))) Via.refl e12 F_keys_o0_13 E_o0_13 (Or.inr ⟨(hw _ (List.mem_of_getElem? (i := 14) rfl)), rfl, hnm⟩) (hw _ (List.mem_of_getElem? (i := 1) rfl)) (ty := (.array .long)) (by decide) rfl rfl (g := (mkF m 15 #[.val (.ref o0), .val (.int (3 : Int32))] [(.ref b12), (.ref o0)])) rfl rfl (hb hby d1_15)
  have N16 := Fr.snoc X16 N8 g_o0
  have F_keys_o0_w16 : Fld Z h16 o0 "com/example/lean_layers/leanlayers/phase/layering/IndexedHeap" "keys" "[J" (.ref b12) := (F_keys_o0_13).same W16
  have F_place_o0_17 : Fld Z h16 o0 "com/example/lean_layers/leanlayers/phase/layering/IndexedHeap" "place" "[I" .null := (F_place_o0_13).other W16 (Or.inr (slot_ne (Or.inr (hw _ (List.mem_of_getElem? (i := 16) rfl))) (Or.inr (hw _ (List.mem_of_getElem? (i := 14) rfl))) (by decide) (t := (.array .int)) (t' := (.array .long)) (by decide) (by decide)))
  have E_o0_17 : Exa Z h16 o0 "com/example/lean_layers/leanlayers/phase/layering/IndexedHeap" := (E_o0_13).wr W16
  have F_size_o0_17 : Fld Z h16 o0 "com/example/lean_layers/leanlayers/phase/layering/IndexedHeap" "size" "I" (.int (0 : Int32)) := (F_size_o0_13).other W16 (Or.inr (slot_ne (Or.inl (hw _ (List.mem_of_getElem? (i := 28) rfl))) (Or.inr (hw _ (List.mem_of_getElem? (i := 14) rfl))) (by decide) (t := .int) (t' := (.array .long)) (by decide) (by decide)))
  have A_b4_17 : own_A Z h16 b4 .int 3 (fun kk => (.int (0 : Int32))) := (A_b4_13).other W16 (Ne.symm ne_o0_b4)
  have F_items_o0_17 : Fld Z h16 o0 "com/example/lean_layers/leanlayers/phase/layering/IndexedHeap" "items" "[I" (.ref b4) := (F_items_o0_13).other W16 (Or.inr (slot_ne (Or.inr (hw _ (List.mem_of_getElem? (i := 11) rfl))) (Or.inr (hw _ (List.mem_of_getElem? (i := 14) rfl))) (by decide) (t := (.array .int)) (t' := (.array .long)) (by decide) (by decide)))
  have A_b12_17 : own_A Z h16 b12 .long 3 (fun kk => (.long (0 : Int64))) := (A_b12_12).other W16 (Ne.symm ne_o0_b12)
  have SZ18 : h0.size ≤ h16.size := by rw [W16.size]; exact SZ14
  have ZZ18 : n0 ≤ h16.size := Nat.le_trans Z0 SZ18
  have K19 : Keep h0 h16 [o0] := (K15).wr W16 (Or.inl (List.mem_of_getElem? (i := 0) rfl))
  obtain ⟨T20, h20, k20, X20, e20, Ex20, Ne20, st20⟩ := newP X16 hx hZ (hw _ (List.mem_of_getElem? (i := 9) rfl)) e16 (g := (mkF m 20 #[.val (.ref o0), .val (.int (3 : Int32))] [(.int (3 : Int32)), (.ref o0)])) rfl (hb hby d1_20) rfl (by decide) (cap := 3) (by decide) (by decide) (by decide) (by decide)
  obtain ⟨b20, g20⟩ : ∃ z, z = h16.size := ⟨_, rfl⟩
  rw [← g20] at Ne20 st20
  have ne_o0_b20 : o0 ≠ b20 := by rw [g20]; exact Nat.ne_of_lt (F_place_o0_17).lt
  have ne_b4_b20 : b4 ≠ b20 := by rw [g20]; exact Nat.ne_of_lt (A_b4_17).lt
  have ne_b12_b20 : b12 ≠ b20 := by rw [g20]; exact Nat.ne_of_lt (A_b12_17).lt
  have g_b20 : n0 ≤ b20 := Nat.le_trans (Nat.le_trans Z0 SZ18) (Nat.le_of_eq g20.symm)
  have sz_b20 : h0.size ≤ b20 := Nat.le_trans SZ18 (Nat.le_of_eq g20.symm)
  have F_place_o0_21 : Fld Z h20 o0 "com/example/lean_layers/leanlayers/phase/layering/IndexedHeap" "place" "[I" .null := (F_place_o0_17).ext Ex20
  have E_o0_21 : Exa Z h20 o0 "com/example/lean_layers/leanlayers/phase/layering/IndexedHeap" := (E_o0_17).ext Ex20
  have F_size_o0_21 : Fld Z h20 o0 "com/example/lean_layers/leanlayers/phase/layering/IndexedHeap" "size" "I" (.int (0 : Int32)) := (F_size_o0_17).ext Ex20
  have A_b4_21 : own_A Z h20 b4 .int 3 (fun kk => (.int (0 : Int32))) := (A_b4_17).ext Ex20
  have F_items_o0_21 : Fld Z h20 o0 "com/example/lean_layers/leanlayers/phase/layering/IndexedHeap" "items" "[I" (.ref b4) := (F_items_o0_17).ext Ex20
  have A_b12_21 : own_A Z h20 b12 .long 3 (fun kk => (.long (0 : Int64))) := (A_b12_17).ext Ex20
  have F_keys_o0_21 : Fld Z h20 o0 "com/example/lean_layers/leanlayers/phase/layering/IndexedHeap" "keys" "[J" (.ref b12) := (F_keys_o0_w16).ext Ex20
  have SZ22 : h0.size ≤ h20.size := Nat.le_trans SZ18 Ex20.1
  have ZZ22 : n0 ≤ h20.size := Nat.le_trans Z0 SZ22
  have K23 : Keep h0 h20 [o0] := (K19).ext Ex20
  have A_b20_20 : own_A Z h20 b20 .int 3 (fun kk => (.int (0 : Int32))) := own_A.new Ne20
  obtain ⟨T24, h24, X24, e24, W24, st24⟩ := putF X20 hx hZ hown (host := "") (Or.inl (hw _ (List.mem_of_getElem? (i := 15) rfl))) Via.refl e20 F_place_o0_21 E_o0_21 (Or.inr ⟨(hw _ (List.mem_of_getElem? (i := 16) rfl)), rfl, hnm⟩) (hw _ (List.mem_of_getElem? (i := 1) rfl)) (ty := (.array .int)) (by decide) rfl rfl (g := (mkF m 22 #[.val (.ref o0), .val (.int (3 : Int32))] [(.ref b20), (.ref o0)])) rfl rfl (hb hby d1_22)
  have N24 := Fr.snoc X24 N16 g_o0
  have F_place_o0_w24 : Fld Z h24 o0 "com/example/lean_layers/leanlayers/phase/layering/IndexedHeap" "place" "[I" (.ref b20) := (F_place_o0_21).same W24
  have E_o0_25 : Exa Z h24 o0 "com/example/lean_layers/leanlayers/phase/layering/IndexedHeap" := (E_o0_21).wr W24
  have F_size_o0_25 : Fld Z h24 o0 "com/example/lean_layers/leanlayers/phase/layering/IndexedHeap" "size" "I" (.int (0 : Int32)) := (F_size_o0_21).other W24 (Or.inr (slot_ne (Or.inl (hw _ (List.mem_of_getElem? (i := 28) rfl))) (Or.inr (hw _ (List.mem_of_getElem? (i := 16) rfl))) (by decide) (t := .int) (t' := (.array .int)) (by decide) (by decide)))
  have A_b4_25 : own_A Z h24 b4 .int 3 (fun kk => (.int (0 : Int32))) := (A_b4_21).other W24 (Ne.symm ne_o0_b4)
  have F_items_o0_25 : Fld Z h24 o0 "com/example/lean_layers/leanlayers/phase/layering/IndexedHeap" "items" "[I" (.ref b4) := (F_items_o0_21).other W24 (Or.inr (slot_ne (Or.inr (hw _ (List.mem_of_getElem? (i := 11) rfl))) (Or.inr (hw _ (List.mem_of_getElem? (i := 16) rfl))) (by decide) (t := (.array .int)) (t' := (.array .int)) (by decide) (by decide)))
  have A_b12_25 : own_A Z h24 b12 .long 3 (fun kk => (.long (0 : Int64))) := (A_b12_21).other W24 (Ne.symm ne_o0_b12)
  have F_keys_o0_25 : Fld Z h24 o0 "com/example/lean_layers/leanlayers/phase/layering/IndexedHeap" "keys" "[J" (.ref b12) := (F_keys_o0_21).other W24 (Or.inr (slot_ne (Or.inr (hw _ (List.mem_of_getElem? (i := 14) rfl))) (Or.inr (hw _ (List.mem_of_getElem? (i := 16) rfl))) (by decide) (t := (.array .long)) (t' := (.array .int)) (by decide) (by decide)))
  have A_b20_25 : own_A Z h24 b20 .int 3 (fun kk => (.int (0 : Int32))) := (A_b20_20).other W24 (Ne.symm ne_o0_b20)
  have SZ26 : h0.size ≤ h24.size := by rw [W24.size]; exact SZ22
  have ZZ26 : n0 ≤ h24.size := Nat.le_trans Z0 SZ26
  have K27 : Keep h0 h24 [o0] := (K23).wr W24 (Or.inl (List.mem_of_getElem? (i := 0) rfl))
  obtain ⟨T28, X28, e28, st28⟩ := getF X24 hx hZ hown (host := "") (Or.inl (hw _ (List.mem_of_getElem? (i := 15) rfl))) Via.refl e24 F_place_o0_w24 (g := (mkF m 26 #[.val (.ref o0), .val (.int (3 : Int32))] [(.ref o0)])) rfl rfl (hb hby d1_26)
  obtain ⟨_, _, ⟨T29, L29, k29, n29⟩, -, X29, ⟨Lc29, hQ29, l29, y29, z29⟩, st29⟩ := Jvm.LawKit.callS X28 hx (y := (⟨"java/util/Arrays", "fill", "([II)V"⟩ : MethodName)) hown (mvT hZ (hw _ (List.mem_of_getElem? (i := 17) rfl))) (mvT hZ (hw _ (List.mem_of_getElem? (i := 18) rfl))) (mvT hZ (hw _ (List.mem_of_getElem? (i := 19) rfl))) (mvT hZ (hw _ (List.mem_of_getElem? (i := 20) rfl))) (by decide) (backOf (W := 0) (rm3 l Z a0 hw [] b20 (-1 : Int32) (fun kk => (0 : Int32)) h24 n0 ZZ26 A_b20_25 g_b20) hZ (hw _ (List.mem_of_getElem? (i := 20) rfl)) (hw _ (List.mem_of_getElem? (i := 19) rfl)) (by decide) (by decide)) (g := (mkF m 30 #[.val (.ref o0), .val (.int (3 : Int32))] [(.int (-1 : Int32)), (.ref b20)])) rfl (by rw [hml]; rfl) (argsL := [(.ref b20), (.int (-1 : Int32))]) (rest := []) (lenOf pd_0 rfl) rfl (by show 2 * 0 + _ ≤ _; exact Nat.le_of_eq rfl) (hb hby d1_30) (fun _ _ => ⟨rfl, e28, (by decide : 3 + 0 ≤ _), (by decide : 9 + 0 ≤ _)⟩)
  dsimp only [Pt.U, Pt.locs, Pt.cells, Pt.slots] at X29 l29 y29 z29 st29 hQ29
  subst y29 z29
  obtain ⟨rfl, N29q, Kc29, P29_0⟩ := hQ29
  have N29 := Fr.app N24 N29q
  rw [← l29] at N29
  have E_o0_30 : Exa Z T29.heap o0 "com/example/lean_layers/leanlayers/phase/layering/IndexedHeap" := (E_o0_25).keep Kc29
  have F_size_o0_30 : Fld Z T29.heap o0 "com/example/lean_layers/leanlayers/phase/layering/IndexedHeap" "size" "I" (.int (0 : Int32)) := (F_size_o0_25).keep Kc29 (ninS ne_o0_b20 nin0)
  have A_b4_30 : own_A Z T29.heap b4 .int 3 (fun kk => (.int (0 : Int32))) := (A_b4_25).keep Kc29 (ninS ne_b4_b20 nin0)
  have F_items_o0_30 : Fld Z T29.heap o0 "com/example/lean_layers/leanlayers/phase/layering/IndexedHeap" "items" "[I" (.ref b4) := (F_items_o0_25).keep Kc29 (ninS ne_o0_b20 nin0)
  have A_b12_30 : own_A Z T29.heap b12 .long 3 (fun kk => (.long (0 : Int64))) := (A_b12_25).keep Kc29 (ninS ne_b12_b20 nin0)
  have F_keys_o0_30 : Fld Z T29.heap o0 "com/example/lean_layers/leanlayers/phase/layering/IndexedHeap" "keys" "[J" (.ref b12) := (F_keys_o0_25).keep Kc29 (ninS ne_o0_b20 nin0)
  have F_place_o0_30 : Fld Z T29.heap o0 "com/example/lean_layers/leanlayers/phase/layering/IndexedHeap" "place" "[I" (.ref b20) := (F_place_o0_w24).keep Kc29 (ninS ne_o0_b20 nin0)
  have SZ31 : h0.size ≤ T29.heap.size := Nat.le_trans SZ26 Kc29.1
  have ZZ31 : n0 ≤ T29.heap.size := Nat.le_trans Z0 SZ31
  have K32 : Keep h0 T29.heap [o0] := (K27).trans Kc29 (allS (Or.inr sz_b20) all0)
  have pre33 : ∀ t, Steps p.tables e below (T29.setTop (mkF m 33 #[.val (.ref o0), .val (.int (3 : Int32))] [])) t → Steps p.tables e below (s₁.setTop (entryFrame m #[(.ref o0), (.int p1)] 2)) t := fun t k => pre2 t (by
    show Steps p.tables e below (s₁.setTop (mkF m 0 #[.val (.ref o0), .val (.int (3 : Int32))] [])) _
    refine XS.aloadN X0.here hx rfl (hb hby d1_0) rfl rfl ?_
    show Steps p.tables e below (s₁.setTop (mkF m 1 #[.val (.ref o0), .val (.int (3 : Int32))] [(.ref o0)])) _
    refine st3 _ ?_
    show Steps p.tables e below (T3.setTop (mkF m 4 #[.val (.ref o0), .val (.int (3 : Int32))] [])) _
    refine XS.aloadN X3.here hx rfl (hb hby d1_4) rfl rfl ?_
    show Steps p.tables e below (T3.setTop (mkF m 5 #[.val (.ref o0), .val (.int (3 : Int32))] [(.ref o0)])) _
    refine XS.iloadN X3.here hx rfl (hb hby d1_5) rfl ?_
    show Steps p.tables e below (T3.setTop (mkF m 6 #[.val (.ref o0), .val (.int (3 : Int32))] [(.int (3 : Int32)), (.ref o0)])) _
    refine st4 _ ?_
    show Steps p.tables e below (T4.setTop (mkF m 8 #[.val (.ref o0), .val (.int (3 : Int32))] [(.ref b4), (.ref o0)])) _
    refine st8 _ ?_
    show Steps p.tables e below (T8.setTop (mkF m 11 #[.val (.ref o0), .val (.int (3 : Int32))] [])) _
    refine XS.aloadN X8.here hx rfl (hb hby d1_11) rfl rfl ?_
    show Steps p.tables e below (T8.setTop (mkF m 12 #[.val (.ref o0), .val (.int (3 : Int32))] [(.ref o0)])) _
    refine XS.iloadN X8.here hx rfl (hb hby d1_12) rfl ?_
    show Steps p.tables e below (T8.setTop (mkF m 13 #[.val (.ref o0), .val (.int (3 : Int32))] [(.int (3 : Int32)), (.ref o0)])) _
    refine st12 _ ?_
    show Steps p.tables e below (T12.setTop (mkF m 15 #[.val (.ref o0), .val (.int (3 : Int32))] [(.ref b12), (.ref o0)])) _
    refine st16 _ ?_
    show Steps p.tables e below (T16.setTop (mkF m 18 #[.val (.ref o0), .val (.int (3 : Int32))] [])) _
    refine XS.aloadN X16.here hx rfl (hb hby d1_18) rfl rfl ?_
    show Steps p.tables e below (T16.setTop (mkF m 19 #[.val (.ref o0), .val (.int (3 : Int32))] [(.ref o0)])) _
    refine XS.iloadN X16.here hx rfl (hb hby d1_19) rfl ?_
    show Steps p.tables e below (T16.setTop (mkF m 20 #[.val (.ref o0), .val (.int (3 : Int32))] [(.int (3 : Int32)), (.ref o0)])) _
    refine st20 _ ?_
    show Steps p.tables e below (T20.setTop (mkF m 22 #[.val (.ref o0), .val (.int (3 : Int32))] [(.ref b20), (.ref o0)])) _
    refine st24 _ ?_
    show Steps p.tables e below (T24.setTop (mkF m 25 #[.val (.ref o0), .val (.int (3 : Int32))] [])) _
    refine XS.aloadN X24.here hx rfl (hb hby d1_25) rfl rfl ?_
    show Steps p.tables e below (T24.setTop (mkF m 26 #[.val (.ref o0), .val (.int (3 : Int32))] [(.ref o0)])) _
    refine st28 _ ?_
    show Steps p.tables e below (T28.setTop (mkF m 29 #[.val (.ref o0), .val (.int (3 : Int32))] [(.ref b20)])) _
    refine XS.iconst X28.here hx rfl (hb hby d1_29) ?_
    show Steps p.tables e below (T28.setTop (mkF m 30 #[.val (.ref o0), .val (.int (3 : Int32))] [(.int (-1 : Int32)), (.ref b20)])) _
    refine st29 _ ?_
    show Steps p.tables e below (T29.setTop (mkF m 33 #[.val (.ref o0), .val (.int (3 : Int32))] [])) _
    exact k)
  obtain ⟨fs, hr, hrun, hended, hW, hsame⟩ := X29.leave (v := none) (fun _ => rfl)
  refine ⟨_, _, pre33 _ ?_, hrun, hended, _, _, rfl, ?_, ⟨_, rfl⟩, hW, hsame.mono (by decide) (by decide)⟩
  · exact X29.returnOut hx Bd.returns (hb hby d1_33) hr
  · show Q1 Z o0 p1 h0 n0 _ T29.heap _
    skip
    exact ⟨b4, b12, b20, rfl, N29, K32, sz_b4, sz_b12, sz_b20, ne_b4_b12, ne_b4_b20, ne_b12_b20, F_items_o0_30, F_keys_o0_30, F_place_o0_30, F_size_o0_30, (own_A.eqv A_b4_30 (fun j _ => rfl)), (own_A.eqv A_b12_30 (fun j _ => rfl)), (own_A.eqv P29_0 (fun j _ => rfl))⟩
theorem d4_0 : decode prog_55_method_2_code 0 = .ok (.aload_n 0, 1) := by decide +kernel
theorem d4_1 : decode prog_55_method_2_code 1 = .ok (.getfield 26, 3) := by decide +kernel
theorem d4_4 : decode prog_55_method_2_code 4 = .ok (.ifCond .ne 7, 3) := by decide +kernel
theorem d4_7 : decode prog_55_method_2_code 7 = .ok (.iconst 1, 1) := by decide +kernel
theorem d4_8 : decode prog_55_method_2_code 8 = .ok (.goto 4, 3) := by decide +kernel
theorem d4_11 : decode prog_55_method_2_code 11 = .ok (.iconst 0, 1) := by decide +kernel
theorem d4_12 : decode prog_55_method_2_code 12 = .ok (.ireturn, 1) := by decide +kernel
theorem ef_4 (m : MethodId) (o0 : Addr) : entryFrame m #[(.ref o0)] 1 = mkF m 0 #[.val (.ref o0)] [] := by first | (simp [entryFrame, mkF, argsToLocals, Value.category]; done) | rfl
def f4_12 (w : Int32) : Int32 := (if w = (0 : Int32) then (1 : Int32) else (0 : Int32))

def Q4 (Z : State) (o0 : Addr) (w : Int32) (h0 : Heap) (n0 : Nat) (v : Option Value) (h : Heap) (L : List Loc) : Prop := v = some (.int ((f4_12 w) &&& 1)) ∧ Fr n0 L ∧ h = h0
set_option maxRecDepth 65536 in
set_option maxHeartbeats 40000000 in
theorem rm4 (l : Launch) (Z : State) (a0 : Array Value) (hw : ∀ d ∈ tables_1, d.before a0 Z = true) (ws : List Jvm.Cond) (o0 : Addr) (w : Int32) (h0 : Heap) (n0 : Nat) (Z0 : n0 ≤ h0.size) (F_size_o0 : Fld Z h0 o0 "com/example/lean_layers/leanlayers/phase/layering/IndexedHeap" "size" "I" (.int w)) :
    MetFree l (⟨"com/example/lean_layers/leanlayers/phase/layering/IndexedHeap", "isEmpty", "()Z"⟩ : MethodName) (head1 (Jvm.Cond.code (⟨"com/example/lean_layers/leanlayers/phase/layering/IndexedHeap", "isEmpty", "()Z"⟩ : MethodName) prog_55_method_2_code 1 (some .boolean) :: ws) ({ frames := 0, cells := 0, slots := 0, locals := 0 } : Room)) (fun a U => a = #[(.ref o0)] ∧ Z.Warmed39 U.vm ∧ U.heap = h0) (fun _ _ _ _ _ => True) (fun _ U o U' => ∃ v L, o = .returned v ∧ Q4 Z o0 w h0 n0 v U'.heap L ∧ FrameEnd U o U' L ({ frames := 0, cells := 0, slots := 0, locals := 0 } : Room).cells ({ frames := 0, cells := 0, slots := 0, locals := 0 } : Room).slots) := by
  refine MetFree.of_bodySF (plainFor_of_name pn_1) hisR ?_
  intro p e s m args below meth c s₁ Bd hml0 hP hK
  obtain ⟨rfl, hZ, hh⟩ := hP
  have hx := Bd.exec
  have hby := Bd.bytes
  have hml : c.maxLocals = 1 := hml0
  have hown : s.vm.findClass "com/example/lean_layers/leanlayers/phase/layering/IndexedHeap" = some m.cls := findClass_of_methodNamed Bd.named
  have hnm := (name_of_methodNamed Bd.named Bd.method).1
  have X0 : Stand p l e ({ frames := 0, cells := 0, slots := 0, locals := 0 } : Room) s m #[(.ref o0)] below meth c s₁ [] 0 0 := Stand.of_body Bd
  have e0 : s₁.heap = h0 := by rw [← hh, Bd.state]; rfl
  have N0 := Fr.nil n0
  have pre0 : ∀ t, Steps p.tables e below (s₁.setTop (mkF m 0 #[.val (.ref o0)] [])) t → Steps p.tables e below (s₁.setTop (entryFrame m #[(.ref o0)] 1)) t := fun t k => castTop (ef_4 m o0) k
  obtain ⟨T1, X1, e1, st1⟩ := getF X0 hx hZ hown (host := "") (Or.inl (hw _ (List.mem_of_getElem? (i := 27) rfl))) Via.refl e0 F_size_o0 (g := (mkF m 1 #[.val (.ref o0)] [(.ref o0)])) rfl rfl (hb hby d4_1)
  have pre2 : ∀ t, Steps p.tables e below (T1.setTop (mkF m 4 #[.val (.ref o0)] [(.int w)])) t → Steps p.tables e below (s₁.setTop (entryFrame m #[(.ref o0)] 1)) t := fun t k => pre0 t (by
    show Steps p.tables e below (s₁.setTop (mkF m 0 #[.val (.ref o0)] [])) _
    refine XS.aloadN X0.here hx rfl (hb hby d4_0) rfl rfl ?_
    show Steps p.tables e below (s₁.setTop (mkF m 1 #[.val (.ref o0)] [(.ref o0)])) _
    refine st1 _ ?_
    show Steps p.tables e below (T1.setTop (mkF m 4 #[.val (.ref o0)] [(.int w)])) _
    exact k)
  have pre4 : ∀ t, Steps p.tables e below (T1.setTop (mkF m 12 #[.val (.ref o0)] [(.int (f4_12 w))])) t → Steps p.tables e below (s₁.setTop (entryFrame m #[(.ref o0)] 1)) t := fun t k => pre2 t (by
    by_cases hf3 : w = (0 : Int32)
    · refine XS.ifNo X1.here hx rfl (hb hby d4_4) rfl ((if0 _ _).trans (teq hf3).2) ?_
      show Steps p.tables e below (T1.setTop (mkF m 7 #[.val (.ref o0)] [])) _
      refine XS.iconst X1.here hx rfl (hb hby d4_7) ?_
      show Steps p.tables e below (T1.setTop (mkF m 8 #[.val (.ref o0)] [(.int (1 : Int32))])) _
      refine XS.goto X1.here hx rfl (pc0 := 8) (pc' := 12) rfl (hb hby d4_8) (by decide) (by decide) ?_
      show Steps p.tables e below (T1.setTop (mkF m 12 #[.val (.ref o0)] [(.int (1 : Int32))])) _
      rw [show (f4_12 w) = ((1 : Int32) : Int32) from by simp only [f4_12, if_pos hf3]] at k
      exact k
    · refine XS.ifYes X1.here hx rfl (pc0 := 4) (pc' := 11) rfl (hb hby d4_4) rfl ((if0 _ _).trans (feq hf3).2) (by decide) (by decide) ?_
      show Steps p.tables e below (T1.setTop (mkF m 11 #[.val (.ref o0)] [])) _
      refine XS.iconst X1.here hx rfl (hb hby d4_11) ?_
      show Steps p.tables e below (T1.setTop (mkF m 12 #[.val (.ref o0)] [(.int (0 : Int32))])) _
      rw [show (f4_12 w) = ((0 : Int32) : Int32) from by simp only [f4_12, if_neg hf3]] at k
      exact k)
  obtain ⟨fs, hr, hrun, hended, hW, hsame⟩ := X1.leave (v := some (.int ((f4_12 w) &&& 1))) (fun h => by rw [Bd.returns] at h; cases h)
  refine ⟨_, _, pre4 _ ?_, hrun, hended, _, _, rfl, ?_, ⟨_, rfl⟩, hW, hsame.mono (by decide) (by decide)⟩
  · exact retN X1 hx (t := .boolean) Bd.returns (by simp) (hb hby d4_12) hr
  · show Q4 Z o0 w h0 n0 _ T1.heap _
    rw [e1]
    exact ⟨rfl, N0, rfl⟩
theorem own_ie0 {n : Nat} (h : n = 0) : ((f4_12 (n.toInt32)) &&& 1) = (1 : Int32) := by subst h; decide
theorem own_ie1 {n : Nat} (h : 0 < n) (hn : n < 2147483648) : ((f4_12 (n.toInt32)) &&& 1) = (0 : Int32) := by
  have q := own_ne0 h hn
  unfold f4_12
  rw [if_neg q]; decide
theorem d11_0 : decode prog_55_method_10_code 0 = .ok (.aload_n 0, 1) := by decide +kernel
theorem d11_1 : decode prog_55_method_10_code 1 = .ok (.getfield 13, 3) := by decide +kernel
theorem d11_4 : decode prog_55_method_10_code 4 = .ok (.iload_n 1, 1) := by decide +kernel
theorem d11_5 : decode prog_55_method_10_code 5 = .ok (.laload, 1) := by decide +kernel
theorem d11_6 : decode prog_55_method_10_code 6 = .ok (.aload_n 0, 1) := by decide +kernel
theorem d11_7 : decode prog_55_method_10_code 7 = .ok (.getfield 13, 3) := by decide +kernel
theorem d11_10 : decode prog_55_method_10_code 10 = .ok (.iload_n 2, 1) := by decide +kernel
theorem d11_11 : decode prog_55_method_10_code 11 = .ok (.laload, 1) := by decide +kernel
theorem d11_12 : decode prog_55_method_10_code 12 = .ok (.lcmp, 1) := by decide +kernel
theorem d11_13 : decode prog_55_method_10_code 13 = .ok (.ifCond .lt 24, 3) := by decide +kernel
theorem d11_16 : decode prog_55_method_10_code 16 = .ok (.aload_n 0, 1) := by decide +kernel
theorem d11_17 : decode prog_55_method_10_code 17 = .ok (.getfield 13, 3) := by decide +kernel
theorem d11_20 : decode prog_55_method_10_code 20 = .ok (.iload_n 1, 1) := by decide +kernel
theorem d11_21 : decode prog_55_method_10_code 21 = .ok (.laload, 1) := by decide +kernel
theorem d11_22 : decode prog_55_method_10_code 22 = .ok (.aload_n 0, 1) := by decide +kernel
theorem d11_23 : decode prog_55_method_10_code 23 = .ok (.getfield 13, 3) := by decide +kernel
theorem d11_26 : decode prog_55_method_10_code 26 = .ok (.iload_n 2, 1) := by decide +kernel
theorem d11_27 : decode prog_55_method_10_code 27 = .ok (.laload, 1) := by decide +kernel
theorem d11_28 : decode prog_55_method_10_code 28 = .ok (.lcmp, 1) := by decide +kernel
theorem d11_29 : decode prog_55_method_10_code 29 = .ok (.ifCond .ne 12, 3) := by decide +kernel
theorem d11_32 : decode prog_55_method_10_code 32 = .ok (.iload_n 1, 1) := by decide +kernel
theorem d11_33 : decode prog_55_method_10_code 33 = .ok (.iload_n 2, 1) := by decide +kernel
theorem d11_34 : decode prog_55_method_10_code 34 = .ok (.if_icmp .ge 7, 3) := by decide +kernel
theorem d11_37 : decode prog_55_method_10_code 37 = .ok (.iconst 1, 1) := by decide +kernel
theorem d11_38 : decode prog_55_method_10_code 38 = .ok (.goto 4, 3) := by decide +kernel
theorem d11_41 : decode prog_55_method_10_code 41 = .ok (.iconst 0, 1) := by decide +kernel
theorem d11_42 : decode prog_55_method_10_code 42 = .ok (.ireturn, 1) := by decide +kernel
theorem ef_11 (m : MethodId) (o0 : Addr) (p1 : Int32) (p2 : Int32) : entryFrame m #[(.ref o0), (.int p1), (.int p2)] 3 = mkF m 0 #[.val (.ref o0), .val (.int p1), .val (.int p2)] [] := by first | (simp [entryFrame, mkF, argsToLocals, Value.category]; done) | rfl

def Q11 (Z : State) (o0 : Addr) (p1 : Int32) (p2 : Int32) (tk : Addr) (ky : Nat → Int64) (xi yi : Nat) (h0 : Heap) (n0 : Nat) (v : Option Value) (h : Heap) (L : List Loc) : Prop := v = some (.int (own_bfr (ky xi) (ky yi) (xi.toInt32) (yi.toInt32))) ∧ Fr n0 L ∧ h = h0
set_option maxRecDepth 65536 in
set_option maxHeartbeats 40000000 in
theorem rm11 (l : Launch) (Z : State) (a0 : Array Value) (hw : ∀ d ∈ tables_1, d.before a0 Z = true) (ws : List Jvm.Cond) (o0 : Addr) (p1 : Int32) (p2 : Int32) (tk : Addr) (ky : Nat → Int64) (xi yi : Nat) (h0 : Heap) (n0 : Nat) (Z0 : n0 ≤ h0.size) (F_keys_o0 : Fld Z h0 o0 "com/example/lean_layers/leanlayers/phase/layering/IndexedHeap" "keys" "[J" (.ref tk)) (A_tk : own_A Z h0 tk .long 3 (fun kk => (.long (ky kk)))) (hp1 : p1 = (xi.toInt32)) (hp2 : p2 = (yi.toInt32)) (hxc : xi < 3) (hyc : yi < 3) :
    MetFree l (⟨"com/example/lean_layers/leanlayers/phase/layering/IndexedHeap", "before", "(II)Z"⟩ : MethodName) (head1 (Jvm.Cond.code (⟨"com/example/lean_layers/leanlayers/phase/layering/IndexedHeap", "before", "(II)Z"⟩ : MethodName) prog_55_method_10_code 3 (some .boolean) :: ws) ({ frames := 0, cells := 0, slots := 0, locals := 0 } : Room)) (fun a U => a = #[(.ref o0), (.int p1), (.int p2)] ∧ Z.Warmed39 U.vm ∧ U.heap = h0) (fun _ _ _ _ _ => True) (fun _ U o U' => ∃ v L, o = .returned v ∧ Q11 Z o0 p1 p2 tk ky xi yi h0 n0 v U'.heap L ∧ FrameEnd U o U' L ({ frames := 0, cells := 0, slots := 0, locals := 0 } : Room).cells ({ frames := 0, cells := 0, slots := 0, locals := 0 } : Room).slots) := by
  refine MetFree.of_bodySF (plainFor_of_name pn_1) hisR ?_
  intro p e s m args below meth c s₁ Bd hml0 hP hK
  obtain ⟨rfl, hZ, hh⟩ := hP
  have hx := Bd.exec
  have hby := Bd.bytes
  have hml : c.maxLocals = 3 := hml0
  have hown : s.vm.findClass "com/example/lean_layers/leanlayers/phase/layering/IndexedHeap" = some m.cls := findClass_of_methodNamed Bd.named
  have hnm := (name_of_methodNamed Bd.named Bd.method).1
  have X0 : Stand p l e ({ frames := 0, cells := 0, slots := 0, locals := 0 } : Room) s m #[(.ref o0), (.int p1), (.int p2)] below meth c s₁ [] 0 0 := Stand.of_body Bd
  have e0 : s₁.heap = h0 := by rw [← hh, Bd.state]; rfl
  have N0 := Fr.nil n0
  have pre0 : ∀ t, Steps p.tables e below (s₁.setTop (mkF m 0 #[.val (.ref o0), .val (.int p1), .val (.int p2)] [])) t → Steps p.tables e below (s₁.setTop (entryFrame m #[(.ref o0), (.int p1), (.int p2)] 3)) t := fun t k => castTop (ef_11 m o0 p1 p2) k
  have pre1 : ∀ t, Steps p.tables e below (s₁.setTop (mkF m 0 #[.val (.ref o0), .val (.int p1), .val (.int p2)] [])) t → Steps p.tables e below (s₁.setTop (entryFrame m #[(.ref o0), (.int p1), (.int p2)] 3)) t := fun t k => pre0 t (by
    show Steps p.tables e below (s₁.setTop (mkF m 0 #[.val (.ref o0), .val (.int p1), .val (.int p2)] [])) _
    exact k)
  have hre2 : p1 = (xi.toInt32) := hp1
  have pre2 : ∀ t, Steps p.tables e below (s₁.setTop (mkF m 0 #[.val (.ref o0), .val (.int (xi.toInt32)), .val (.int p2)] [])) t → Steps p.tables e below (s₁.setTop (entryFrame m #[(.ref o0), (.int p1), (.int p2)] 3)) t := fun t k => pre1 t (by rw [hre2]; exact k)
  have pre3 : ∀ t, Steps p.tables e below (s₁.setTop (mkF m 0 #[.val (.ref o0), .val (.int (xi.toInt32)), .val (.int p2)] [])) t → Steps p.tables e below (s₁.setTop (entryFrame m #[(.ref o0), (.int p1), (.int p2)] 3)) t := fun t k => pre2 t (by
    show Steps p.tables e below (s₁.setTop (mkF m 0 #[.val (.ref o0), .val (.int (xi.toInt32)), .val (.int p2)] [])) _
    exact k)
  have hre4 : p2 = (yi.toInt32) := hp2
  have pre4 : ∀ t, Steps p.tables e below (s₁.setTop (mkF m 0 #[.val (.ref o0), .val (.int (xi.toInt32)), .val (.int (yi.toInt32))] [])) t → Steps p.tables e below (s₁.setTop (entryFrame m #[(.ref o0), (.int p1), (.int p2)] 3)) t := fun t k => pre3 t (by rw [hre4]; exact k)
  obtain ⟨T5, X5, e5, st5⟩ := getF X0 hx hZ hown (host := "") (Or.inl (hw _ (List.mem_of_getElem? (i := 13) rfl))) Via.refl e0 F_keys_o0 (g := (mkF m 1 #[.val (.ref o0), .val (.int (xi.toInt32)), .val (.int (yi.toInt32))] [(.ref o0)])) rfl rfl (hb hby d11_1)
  have qa6 := A_tk
  obtain ⟨c6, Ar6, Sz6, H6⟩ := qa6
  have hi7 : 0 ≤ ((xi.toInt32) : Int32).toInt ∧ ((xi.toInt32) : Int32).toInt < (3 : Nat) := (own_bd (show xi < 3 by omega) (by decide))
  have hl7 : c6.slots[((xi.toInt32) : Int32).toNatClampNeg]? = some (.long (ky xi)) := by rw [show (ky xi) = ((ky ((xi.toInt32) : Int32).toNatClampNeg)) from by rw [own_tn (show xi < 2147483648 by omega)]]; exact H6 _ (own_ix hi7)
  obtain ⟨T8, X8, e8, st8⟩ := getF X5 hx hZ hown (host := "") (Or.inl (hw _ (List.mem_of_getElem? (i := 13) rfl))) Via.refl e5 F_keys_o0 (g := (mkF m 7 #[.val (.ref o0), .val (.int (xi.toInt32)), .val (.int (yi.toInt32))] [(.ref o0), (.long (ky xi))])) rfl rfl (hb hby d11_7)
  have qa9 := A_tk
  obtain ⟨c9, Ar9, Sz9, H9⟩ := qa9
  have hi10 : 0 ≤ ((yi.toInt32) : Int32).toInt ∧ ((yi.toInt32) : Int32).toInt < (3 : Nat) := (own_bd (show yi < 3 by omega) (by decide))
  have hl10 : c9.slots[((yi.toInt32) : Int32).toNatClampNeg]? = some (.long (ky yi)) := by rw [show (ky yi) = ((ky ((yi.toInt32) : Int32).toNatClampNeg)) from by rw [own_tn (show yi < 2147483648 by omega)]]; exact H9 _ (own_ix hi10)
  have pre11 : ∀ t, Steps p.tables e below (T8.setTop (mkF m 13 #[.val (.ref o0), .val (.int (xi.toInt32)), .val (.int (yi.toInt32))] [(.int (lcmpW (ky xi) (ky yi)))])) t → Steps p.tables e below (s₁.setTop (entryFrame m #[(.ref o0), (.int p1), (.int p2)] 3)) t := fun t k => pre4 t (by
    show Steps p.tables e below (s₁.setTop (mkF m 0 #[.val (.ref o0), .val (.int (xi.toInt32)), .val (.int (yi.toInt32))] [])) _
    refine XS.aloadN X0.here hx rfl (hb hby d11_0) rfl rfl ?_
    show Steps p.tables e below (s₁.setTop (mkF m 1 #[.val (.ref o0), .val (.int (xi.toInt32)), .val (.int (yi.toInt32))] [(.ref o0)])) _
    refine st5 _ ?_
    show Steps p.tables e below (T5.setTop (mkF m 4 #[.val (.ref o0), .val (.int (xi.toInt32)), .val (.int (yi.toInt32))] [(.ref tk)])) _
    refine XS.iloadN X5.here hx rfl (hb hby d11_4) rfl ?_
    show Steps p.tables e below (T5.setTop (mkF m 5 #[.val (.ref o0), .val (.int (xi.toInt32)), .val (.int (yi.toInt32))] [(.int (xi.toInt32)), (.ref tk)])) _
    refine X5.laload hx (j := (xi.toInt32)) (v := (.long (ky xi))) (by rw [e5]; exact Ar6.1) (State.isArrayOf_alike hZ.alike Ar6.2.1) Ar6.2.2 (own_in Sz6 hi7) hl7 (g := (mkF m 5 #[.val (.ref o0), .val (.int (xi.toInt32)), .val (.int (yi.toInt32))] [(.int (xi.toInt32)), (.ref tk)])) rfl rfl (hb hby d11_5) _ ?_
    show Steps p.tables e below (T5.setTop (mkF m 6 #[.val (.ref o0), .val (.int (xi.toInt32)), .val (.int (yi.toInt32))] [(.long (ky xi))])) _
    refine XS.aloadN X5.here hx rfl (hb hby d11_6) rfl rfl ?_
    show Steps p.tables e below (T5.setTop (mkF m 7 #[.val (.ref o0), .val (.int (xi.toInt32)), .val (.int (yi.toInt32))] [(.ref o0), (.long (ky xi))])) _
    refine st8 _ ?_
    show Steps p.tables e below (T8.setTop (mkF m 10 #[.val (.ref o0), .val (.int (xi.toInt32)), .val (.int (yi.toInt32))] [(.ref tk), (.long (ky xi))])) _
    refine XS.iloadN X8.here hx rfl (hb hby d11_10) rfl ?_
    show Steps p.tables e below (T8.setTop (mkF m 11 #[.val (.ref o0), .val (.int (xi.toInt32)), .val (.int (yi.toInt32))] [(.int (yi.toInt32)), (.ref tk), (.long (ky xi))])) _
    refine X8.laload hx (j := (yi.toInt32)) (v := (.long (ky yi))) (by rw [e8]; exact Ar9.1) (State.isArrayOf_alike hZ.alike Ar9.2.1) Ar9.2.2 (own_in Sz9 hi10) hl10 (g := (mkF m 11 #[.val (.ref o0), .val (.int (xi.toInt32)), .val (.int (yi.toInt32))] [(.int (yi.toInt32)), (.ref tk), (.long (ky xi))])) rfl rfl (hb hby d11_11) _ ?_
    show Steps p.tables e below (T8.setTop (mkF m 12 #[.val (.ref o0), .val (.int (xi.toInt32)), .val (.int (yi.toInt32))] [(.long (ky yi)), (.long (ky xi))])) _
    refine XS.lcmp X8.here hx rfl (hb hby d11_12) rfl ?_
    show Steps p.tables e below (T8.setTop (mkF m 13 #[.val (.ref o0), .val (.int (xi.toInt32)), .val (.int (yi.toInt32))] [(.int (lcmpW (ky xi) (ky yi)))])) _
    exact k)
  by_cases hs12 : (ky xi) < (ky yi)
  · have pre13 : ∀ t, Steps p.tables e below (T8.setTop (mkF m 42 #[.val (.ref o0), .val (.int (xi.toInt32)), .val (.int (yi.toInt32))] [(.int (1 : Int32))])) t → Steps p.tables e below (s₁.setTop (entryFrame m #[(.ref o0), (.int p1), (.int p2)] 3)) t := fun t k => pre11 t (by
      refine XS.ifYes X8.here hx rfl (pc0 := 13) (pc' := 37) rfl (hb hby d11_13) rfl (own_ltL hs12).1 (by decide) (by decide) ?_
      show Steps p.tables e below (T8.setTop (mkF m 37 #[.val (.ref o0), .val (.int (xi.toInt32)), .val (.int (yi.toInt32))] [])) _
      refine XS.iconst X8.here hx rfl (hb hby d11_37) ?_
      show Steps p.tables e below (T8.setTop (mkF m 38 #[.val (.ref o0), .val (.int (xi.toInt32)), .val (.int (yi.toInt32))] [(.int (1 : Int32))])) _
      refine XS.goto X8.here hx rfl (pc0 := 38) (pc' := 42) rfl (hb hby d11_38) (by decide) (by decide) ?_
      show Steps p.tables e below (T8.setTop (mkF m 42 #[.val (.ref o0), .val (.int (xi.toInt32)), .val (.int (yi.toInt32))] [(.int (1 : Int32))])) _
      exact k)
    obtain ⟨fs, hr, hrun, hended, hW, hsame⟩ := X8.leave (v := some (.int (1 : Int32))) (fun h => by rw [Bd.returns] at h; cases h)
    refine ⟨_, _, pre13 _ ?_, hrun, hended, _, _, rfl, ?_, ⟨_, rfl⟩, hW, hsame.mono (by decide) (by decide)⟩
    · exact retN X8 hx (t := .boolean) Bd.returns (by simp) (hb hby d11_42) hr
    · show Q11 Z o0 p1 p2 tk ky xi yi h0 n0 _ T8.heap _
      rw [e8]
      exact ⟨(by simp only [own_bfr, if_pos hs12, ↓reduceIte]), N0, rfl⟩
  · obtain ⟨T14, X14, e14, st14⟩ := getF X8 hx hZ hown (host := "") (Or.inl (hw _ (List.mem_of_getElem? (i := 13) rfl))) Via.refl e8 F_keys_o0 (g := (mkF m 17 #[.val (.ref o0), .val (.int (xi.toInt32)), .val (.int (yi.toInt32))] [(.ref o0)])) rfl rfl (hb hby d11_17)
    have qa15 := A_tk
    obtain ⟨c15, Ar15, Sz15, H15⟩ := qa15
    have hi16 : 0 ≤ ((xi.toInt32) : Int32).toInt ∧ ((xi.toInt32) : Int32).toInt < (3 : Nat) := (own_bd (show xi < 3 by omega) (by decide))
    have hl16 : c15.slots[((xi.toInt32) : Int32).toNatClampNeg]? = some (.long (ky xi)) := by rw [show (ky xi) = ((ky ((xi.toInt32) : Int32).toNatClampNeg)) from by rw [own_tn (show xi < 2147483648 by omega)]]; exact H15 _ (own_ix hi16)
    obtain ⟨T17, X17, e17, st17⟩ := getF X14 hx hZ hown (host := "") (Or.inl (hw _ (List.mem_of_getElem? (i := 13) rfl))) Via.refl e14 F_keys_o0 (g := (mkF m 23 #[.val (.ref o0), .val (.int (xi.toInt32)), .val (.int (yi.toInt32))] [(.ref o0), (.long (ky xi))])) rfl rfl (hb hby d11_23)
    have qa18 := A_tk
    obtain ⟨c18, Ar18, Sz18, H18⟩ := qa18
    have hi19 : 0 ≤ ((yi.toInt32) : Int32).toInt ∧ ((yi.toInt32) : Int32).toInt < (3 : Nat) := (own_bd (show yi < 3 by omega) (by decide))
    have hl19 : c18.slots[((yi.toInt32) : Int32).toNatClampNeg]? = some (.long (ky yi)) := by rw [show (ky yi) = ((ky ((yi.toInt32) : Int32).toNatClampNeg)) from by rw [own_tn (show yi < 2147483648 by omega)]]; exact H18 _ (own_ix hi19)
    have pre20 : ∀ t, Steps p.tables e below (T17.setTop (mkF m 29 #[.val (.ref o0), .val (.int (xi.toInt32)), .val (.int (yi.toInt32))] [(.int (lcmpW (ky xi) (ky yi)))])) t → Steps p.tables e below (s₁.setTop (entryFrame m #[(.ref o0), (.int p1), (.int p2)] 3)) t := fun t k => pre11 t (by
      refine XS.ifNo X8.here hx rfl (hb hby d11_13) rfl (own_fltL hs12).1 ?_
      show Steps p.tables e below (T8.setTop (mkF m 16 #[.val (.ref o0), .val (.int (xi.toInt32)), .val (.int (yi.toInt32))] [])) _
      refine XS.aloadN X8.here hx rfl (hb hby d11_16) rfl rfl ?_
      show Steps p.tables e below (T8.setTop (mkF m 17 #[.val (.ref o0), .val (.int (xi.toInt32)), .val (.int (yi.toInt32))] [(.ref o0)])) _
      refine st14 _ ?_
      show Steps p.tables e below (T14.setTop (mkF m 20 #[.val (.ref o0), .val (.int (xi.toInt32)), .val (.int (yi.toInt32))] [(.ref tk)])) _
      refine XS.iloadN X14.here hx rfl (hb hby d11_20) rfl ?_
      show Steps p.tables e below (T14.setTop (mkF m 21 #[.val (.ref o0), .val (.int (xi.toInt32)), .val (.int (yi.toInt32))] [(.int (xi.toInt32)), (.ref tk)])) _
      refine X14.laload hx (j := (xi.toInt32)) (v := (.long (ky xi))) (by rw [e14]; exact Ar15.1) (State.isArrayOf_alike hZ.alike Ar15.2.1) Ar15.2.2 (own_in Sz15 hi16) hl16 (g := (mkF m 21 #[.val (.ref o0), .val (.int (xi.toInt32)), .val (.int (yi.toInt32))] [(.int (xi.toInt32)), (.ref tk)])) rfl rfl (hb hby d11_21) _ ?_
      show Steps p.tables e below (T14.setTop (mkF m 22 #[.val (.ref o0), .val (.int (xi.toInt32)), .val (.int (yi.toInt32))] [(.long (ky xi))])) _
      refine XS.aloadN X14.here hx rfl (hb hby d11_22) rfl rfl ?_
      show Steps p.tables e below (T14.setTop (mkF m 23 #[.val (.ref o0), .val (.int (xi.toInt32)), .val (.int (yi.toInt32))] [(.ref o0), (.long (ky xi))])) _
      refine st17 _ ?_
      show Steps p.tables e below (T17.setTop (mkF m 26 #[.val (.ref o0), .val (.int (xi.toInt32)), .val (.int (yi.toInt32))] [(.ref tk), (.long (ky xi))])) _
      refine XS.iloadN X17.here hx rfl (hb hby d11_26) rfl ?_
      show Steps p.tables e below (T17.setTop (mkF m 27 #[.val (.ref o0), .val (.int (xi.toInt32)), .val (.int (yi.toInt32))] [(.int (yi.toInt32)), (.ref tk), (.long (ky xi))])) _
      refine X17.laload hx (j := (yi.toInt32)) (v := (.long (ky yi))) (by rw [e17]; exact Ar18.1) (State.isArrayOf_alike hZ.alike Ar18.2.1) Ar18.2.2 (own_in Sz18 hi19) hl19 (g := (mkF m 27 #[.val (.ref o0), .val (.int (xi.toInt32)), .val (.int (yi.toInt32))] [(.int (yi.toInt32)), (.ref tk), (.long (ky xi))])) rfl rfl (hb hby d11_27) _ ?_
      show Steps p.tables e below (T17.setTop (mkF m 28 #[.val (.ref o0), .val (.int (xi.toInt32)), .val (.int (yi.toInt32))] [(.long (ky yi)), (.long (ky xi))])) _
      refine XS.lcmp X17.here hx rfl (hb hby d11_28) rfl ?_
      show Steps p.tables e below (T17.setTop (mkF m 29 #[.val (.ref o0), .val (.int (xi.toInt32)), .val (.int (yi.toInt32))] [(.int (lcmpW (ky xi) (ky yi)))])) _
      exact k)
    by_cases hs21 : (ky xi) = (ky yi)
    · have pre22 : ∀ t, Steps p.tables e below (T17.setTop (mkF m 34 #[.val (.ref o0), .val (.int (xi.toInt32)), .val (.int (yi.toInt32))] [(.int (yi.toInt32)), (.int (xi.toInt32))])) t → Steps p.tables e below (s₁.setTop (entryFrame m #[(.ref o0), (.int p1), (.int p2)] 3)) t := fun t k => pre20 t (by
        refine XS.ifNo X17.here hx rfl (hb hby d11_29) rfl (own_eqL hs21).2 ?_
        show Steps p.tables e below (T17.setTop (mkF m 32 #[.val (.ref o0), .val (.int (xi.toInt32)), .val (.int (yi.toInt32))] [])) _
        refine XS.iloadN X17.here hx rfl (hb hby d11_32) rfl ?_
        show Steps p.tables e below (T17.setTop (mkF m 33 #[.val (.ref o0), .val (.int (xi.toInt32)), .val (.int (yi.toInt32))] [(.int (xi.toInt32))])) _
        refine XS.iloadN X17.here hx rfl (hb hby d11_33) rfl ?_
        show Steps p.tables e below (T17.setTop (mkF m 34 #[.val (.ref o0), .val (.int (xi.toInt32)), .val (.int (yi.toInt32))] [(.int (yi.toInt32)), (.int (xi.toInt32))])) _
        exact k)
      by_cases hs23 : (xi.toInt32) < (yi.toInt32)
      · have pre24 : ∀ t, Steps p.tables e below (T17.setTop (mkF m 42 #[.val (.ref o0), .val (.int (xi.toInt32)), .val (.int (yi.toInt32))] [(.int (1 : Int32))])) t → Steps p.tables e below (s₁.setTop (entryFrame m #[(.ref o0), (.int p1), (.int p2)] 3)) t := fun t k => pre22 t (by
          refine XS.icmpNo X17.here hx rfl (hb hby d11_34) rfl (tlt hs23).2.1 ?_
          show Steps p.tables e below (T17.setTop (mkF m 37 #[.val (.ref o0), .val (.int (xi.toInt32)), .val (.int (yi.toInt32))] [])) _
          refine XS.iconst X17.here hx rfl (hb hby d11_37) ?_
          show Steps p.tables e below (T17.setTop (mkF m 38 #[.val (.ref o0), .val (.int (xi.toInt32)), .val (.int (yi.toInt32))] [(.int (1 : Int32))])) _
          refine XS.goto X17.here hx rfl (pc0 := 38) (pc' := 42) rfl (hb hby d11_38) (by decide) (by decide) ?_
          show Steps p.tables e below (T17.setTop (mkF m 42 #[.val (.ref o0), .val (.int (xi.toInt32)), .val (.int (yi.toInt32))] [(.int (1 : Int32))])) _
          exact k)
        obtain ⟨fs, hr, hrun, hended, hW, hsame⟩ := X17.leave (v := some (.int (1 : Int32))) (fun h => by rw [Bd.returns] at h; cases h)
        refine ⟨_, _, pre24 _ ?_, hrun, hended, _, _, rfl, ?_, ⟨_, rfl⟩, hW, hsame.mono (by decide) (by decide)⟩
        · exact retN X17 hx (t := .boolean) Bd.returns (by simp) (hb hby d11_42) hr
        · show Q11 Z o0 p1 p2 tk ky xi yi h0 n0 _ T17.heap _
          rw [e17]
          exact ⟨(by simp only [own_bfr, if_neg hs12, if_pos hs21, if_pos hs23, ↓reduceIte]), N0, rfl⟩
      · have pre25 : ∀ t, Steps p.tables e below (T17.setTop (mkF m 42 #[.val (.ref o0), .val (.int (xi.toInt32)), .val (.int (yi.toInt32))] [(.int (0 : Int32))])) t → Steps p.tables e below (s₁.setTop (entryFrame m #[(.ref o0), (.int p1), (.int p2)] 3)) t := fun t k => pre22 t (by
          refine XS.icmpYes X17.here hx rfl (pc0 := 34) (pc' := 41) rfl (hb hby d11_34) rfl (flt hs23).2.1 (by decide) (by decide) ?_
          show Steps p.tables e below (T17.setTop (mkF m 41 #[.val (.ref o0), .val (.int (xi.toInt32)), .val (.int (yi.toInt32))] [])) _
          refine XS.iconst X17.here hx rfl (hb hby d11_41) ?_
          show Steps p.tables e below (T17.setTop (mkF m 42 #[.val (.ref o0), .val (.int (xi.toInt32)), .val (.int (yi.toInt32))] [(.int (0 : Int32))])) _
          exact k)
        obtain ⟨fs, hr, hrun, hended, hW, hsame⟩ := X17.leave (v := some (.int (0 : Int32))) (fun h => by rw [Bd.returns] at h; cases h)
        refine ⟨_, _, pre25 _ ?_, hrun, hended, _, _, rfl, ?_, ⟨_, rfl⟩, hW, hsame.mono (by decide) (by decide)⟩
        · exact retN X17 hx (t := .boolean) Bd.returns (by simp) (hb hby d11_42) hr
        · show Q11 Z o0 p1 p2 tk ky xi yi h0 n0 _ T17.heap _
          rw [e17]
          exact ⟨(by simp only [own_bfr, if_neg hs12, if_pos hs21, if_neg hs23, ↓reduceIte]), N0, rfl⟩
    · have pre26 : ∀ t, Steps p.tables e below (T17.setTop (mkF m 42 #[.val (.ref o0), .val (.int (xi.toInt32)), .val (.int (yi.toInt32))] [(.int (0 : Int32))])) t → Steps p.tables e below (s₁.setTop (entryFrame m #[(.ref o0), (.int p1), (.int p2)] 3)) t := fun t k => pre20 t (by
        refine XS.ifYes X17.here hx rfl (pc0 := 29) (pc' := 41) rfl (hb hby d11_29) rfl (own_neL hs21).2 (by decide) (by decide) ?_
        show Steps p.tables e below (T17.setTop (mkF m 41 #[.val (.ref o0), .val (.int (xi.toInt32)), .val (.int (yi.toInt32))] [])) _
        refine XS.iconst X17.here hx rfl (hb hby d11_41) ?_
        show Steps p.tables e below (T17.setTop (mkF m 42 #[.val (.ref o0), .val (.int (xi.toInt32)), .val (.int (yi.toInt32))] [(.int (0 : Int32))])) _
        exact k)
      obtain ⟨fs, hr, hrun, hended, hW, hsame⟩ := X17.leave (v := some (.int (0 : Int32))) (fun h => by rw [Bd.returns] at h; cases h)
      refine ⟨_, _, pre26 _ ?_, hrun, hended, _, _, rfl, ?_, ⟨_, rfl⟩, hW, hsame.mono (by decide) (by decide)⟩
      · exact retN X17 hx (t := .boolean) Bd.returns (by simp) (hb hby d11_42) hr
      · show Q11 Z o0 p1 p2 tk ky xi yi h0 n0 _ T17.heap _
        rw [e17]
        exact ⟨(by simp only [own_bfr, if_neg hs12, if_neg hs21, ↓reduceIte]), N0, rfl⟩
theorem d9_0 : decode prog_55_method_11_code 0 = .ok (.aload_n 0, 1) := by decide +kernel
theorem d9_1 : decode prog_55_method_11_code 1 = .ok (.getfield 7, 3) := by decide +kernel
theorem d9_4 : decode prog_55_method_11_code 4 = .ok (.iload_n 1, 1) := by decide +kernel
theorem d9_5 : decode prog_55_method_11_code 5 = .ok (.iload_n 2, 1) := by decide +kernel
theorem d9_6 : decode prog_55_method_11_code 6 = .ok (.iastore, 1) := by decide +kernel
theorem d9_7 : decode prog_55_method_11_code 7 = .ok (.aload_n 0, 1) := by decide +kernel
theorem d9_8 : decode prog_55_method_11_code 8 = .ok (.getfield 17, 3) := by decide +kernel
theorem d9_11 : decode prog_55_method_11_code 11 = .ok (.iload_n 2, 1) := by decide +kernel
theorem d9_12 : decode prog_55_method_11_code 12 = .ok (.iload_n 1, 1) := by decide +kernel
theorem d9_13 : decode prog_55_method_11_code 13 = .ok (.iastore, 1) := by decide +kernel
theorem d9_14 : decode prog_55_method_11_code 14 = .ok (.return_, 1) := by decide +kernel
theorem ef_9 (m : MethodId) (o0 : Addr) (p1 : Int32) (p2 : Int32) : entryFrame m #[(.ref o0), (.int p1), (.int p2)] 3 = mkF m 0 #[.val (.ref o0), .val (.int p1), .val (.int p2)] [] := by first | (simp [entryFrame, mkF, argsToLocals, Value.category]; done) | rfl

def Q9 (Z : State) (o0 : Addr) (p1 : Int32) (p2 : Int32) (ti tp : Addr) (it pl : Nat → Nat) (ii xi : Nat) (h0 : Heap) (n0 : Nat) (v : Option Value) (h : Heap) (L : List Loc) : Prop := v = none ∧ Fr n0 L ∧ Keep h0 h [ti, tp] ∧ (own_A Z h ti .int 3 (fun kk => (.int (((own_u it ii xi) kk).toInt32)))) ∧ (own_A Z h tp .int 3 (fun kk => (.int (own_pl ((own_u pl xi (ii + 1)) kk)))))
set_option maxRecDepth 65536 in
set_option maxHeartbeats 40000000 in
theorem rm9 (l : Launch) (Z : State) (a0 : Array Value) (hw : ∀ d ∈ tables_1, d.before a0 Z = true) (ws : List Jvm.Cond) (o0 : Addr) (p1 : Int32) (p2 : Int32) (ti tp : Addr) (it pl : Nat → Nat) (ii xi : Nat) (h0 : Heap) (n0 : Nat) (Z0 : n0 ≤ h0.size) (F_items_o0 : Fld Z h0 o0 "com/example/lean_layers/leanlayers/phase/layering/IndexedHeap" "items" "[I" (.ref ti)) (F_place_o0 : Fld Z h0 o0 "com/example/lean_layers/leanlayers/phase/layering/IndexedHeap" "place" "[I" (.ref tp)) (E_o0 : Exa Z h0 o0 "com/example/lean_layers/leanlayers/phase/layering/IndexedHeap") (A_ti : own_A Z h0 ti .int 3 (fun kk => (.int ((it kk).toInt32)))) (A_tp : own_A Z h0 tp .int 3 (fun kk => (.int (own_pl (pl kk))))) (g_ti : n0 ≤ ti) (g_tp : n0 ≤ tp) (ne_o0_ti : o0 ≠ ti) (ne_o0_tp : o0 ≠ tp) (ne_ti_tp : ti ≠ tp) (hp1 : p1 = (ii.toInt32)) (hp2 : p2 = (xi.toInt32)) (hic : ii < 3) (hxc : xi < 3) :
    MetFree l (⟨"com/example/lean_layers/leanlayers/phase/layering/IndexedHeap", "setAt", "(II)V"⟩ : MethodName) (head1 (Jvm.Cond.code (⟨"com/example/lean_layers/leanlayers/phase/layering/IndexedHeap", "setAt", "(II)V"⟩ : MethodName) prog_55_method_11_code 3 none :: ws) ({ frames := 0, cells := 0, slots := 0, locals := 0 } : Room)) (fun a U => a = #[(.ref o0), (.int p1), (.int p2)] ∧ Z.Warmed39 U.vm ∧ U.heap = h0) (fun _ _ _ _ _ => True) (fun _ U o U' => ∃ v L, o = .returned v ∧ Q9 Z o0 p1 p2 ti tp it pl ii xi h0 n0 v U'.heap L ∧ FrameEnd U o U' L ({ frames := 0, cells := 0, slots := 0, locals := 0 } : Room).cells ({ frames := 0, cells := 0, slots := 0, locals := 0 } : Room).slots) := by
  refine MetFree.of_bodySF (plainFor_of_name pn_1) hisR ?_
  intro p e s m args below meth c s₁ Bd hml0 hP hK
  obtain ⟨rfl, hZ, hh⟩ := hP
  have hx := Bd.exec
  have hby := Bd.bytes
  have hml : c.maxLocals = 3 := hml0
  have hown : s.vm.findClass "com/example/lean_layers/leanlayers/phase/layering/IndexedHeap" = some m.cls := findClass_of_methodNamed Bd.named
  have hnm := (name_of_methodNamed Bd.named Bd.method).1
  have X0 : Stand p l e ({ frames := 0, cells := 0, slots := 0, locals := 0 } : Room) s m #[(.ref o0), (.int p1), (.int p2)] below meth c s₁ [] 0 0 := Stand.of_body Bd
  have e0 : s₁.heap = h0 := by rw [← hh, Bd.state]; rfl
  have N0 := Fr.nil n0
  have pre0 : ∀ t, Steps p.tables e below (s₁.setTop (mkF m 0 #[.val (.ref o0), .val (.int p1), .val (.int p2)] [])) t → Steps p.tables e below (s₁.setTop (entryFrame m #[(.ref o0), (.int p1), (.int p2)] 3)) t := fun t k => castTop (ef_9 m o0 p1 p2) k
  have pre1 : ∀ t, Steps p.tables e below (s₁.setTop (mkF m 0 #[.val (.ref o0), .val (.int p1), .val (.int p2)] [])) t → Steps p.tables e below (s₁.setTop (entryFrame m #[(.ref o0), (.int p1), (.int p2)] 3)) t := fun t k => pre0 t (by
    show Steps p.tables e below (s₁.setTop (mkF m 0 #[.val (.ref o0), .val (.int p1), .val (.int p2)] [])) _
    exact k)
  have hre2 : p1 = (ii.toInt32) := hp1
  have pre2 : ∀ t, Steps p.tables e below (s₁.setTop (mkF m 0 #[.val (.ref o0), .val (.int (ii.toInt32)), .val (.int p2)] [])) t → Steps p.tables e below (s₁.setTop (entryFrame m #[(.ref o0), (.int p1), (.int p2)] 3)) t := fun t k => pre1 t (by rw [hre2]; exact k)
  have pre3 : ∀ t, Steps p.tables e below (s₁.setTop (mkF m 0 #[.val (.ref o0), .val (.int (ii.toInt32)), .val (.int p2)] [])) t → Steps p.tables e below (s₁.setTop (entryFrame m #[(.ref o0), (.int p1), (.int p2)] 3)) t := fun t k => pre2 t (by
    show Steps p.tables e below (s₁.setTop (mkF m 0 #[.val (.ref o0), .val (.int (ii.toInt32)), .val (.int p2)] [])) _
    exact k)
  have hre4 : p2 = (xi.toInt32) := hp2
  have pre4 : ∀ t, Steps p.tables e below (s₁.setTop (mkF m 0 #[.val (.ref o0), .val (.int (ii.toInt32)), .val (.int (xi.toInt32))] [])) t → Steps p.tables e below (s₁.setTop (entryFrame m #[(.ref o0), (.int p1), (.int p2)] 3)) t := fun t k => pre3 t (by rw [hre4]; exact k)
  obtain ⟨T5, X5, e5, st5⟩ := getF X0 hx hZ hown (host := "") (Or.inl (hw _ (List.mem_of_getElem? (i := 10) rfl))) Via.refl e0 F_items_o0 (g := (mkF m 1 #[.val (.ref o0), .val (.int (ii.toInt32)), .val (.int (xi.toInt32))] [(.ref o0)])) rfl rfl (hb hby d9_1)
  have qa6 := A_ti
  obtain ⟨c6, Ar6, Sz6, H6⟩ := qa6
  have hi7 : 0 ≤ ((ii.toInt32) : Int32).toInt ∧ ((ii.toInt32) : Int32).toInt < (3 : Nat) := (own_bd (show ii < 3 by omega) (by decide))
  obtain ⟨T7, h7, X7, e7, W7, st7⟩ := stI X5 hx hZ e5 Ar6 (j := (ii.toInt32)) (own_in Sz6 hi7) (g := (mkF m 6 #[.val (.ref o0), .val (.int (ii.toInt32)), .val (.int (xi.toInt32))] [(.int (xi.toInt32)), (.int (ii.toInt32)), (.ref ti)])) rfl rfl (hb hby d9_6)
  have N7 := Fr.snoc X7 N0 g_ti
  have A_ti_w7 : own_A Z h7 ti .int 3 (fun kk => (.int (if kk = ((ii.toInt32) : Int32).toNatClampNeg then (xi.toInt32) else ((it kk).toInt32)))) := own_A.setI A_ti W7
  have A_ti_w7u : own_A Z h7 ti .int 3 (fun kk => (.int (((own_u it ii xi) kk).toInt32))) := own_setit A_ti_w7 (show ii < 2147483648 by omega)
  have F_items_o0_8 : Fld Z h7 o0 "com/example/lean_layers/leanlayers/phase/layering/IndexedHeap" "items" "[I" (.ref ti) := (F_items_o0).other W7 (Or.inl ne_o0_ti)
  have F_place_o0_8 : Fld Z h7 o0 "com/example/lean_layers/leanlayers/phase/layering/IndexedHeap" "place" "[I" (.ref tp) := (F_place_o0).other W7 (Or.inl ne_o0_ti)
  have E_o0_8 : Exa Z h7 o0 "com/example/lean_layers/leanlayers/phase/layering/IndexedHeap" := (E_o0).wr W7
  have A_tp_8 : own_A Z h7 tp .int 3 (fun kk => (.int (own_pl (pl kk)))) := (A_tp).other W7 (Ne.symm ne_ti_tp)
  have SZ9 : h0.size ≤ h7.size := by rw [W7.size]; exact (Nat.le_refl _)
  have ZZ9 : n0 ≤ h7.size := Nat.le_trans Z0 SZ9
  have K10 : Keep h0 h7 [ti, tp] := ((Keep.refl h0 [ti, tp])).wr W7 (Or.inl (List.mem_of_getElem? (i := 0) rfl))
  obtain ⟨T11, X11, e11, st11⟩ := getF X7 hx hZ hown (host := "") (Or.inl (hw _ (List.mem_of_getElem? (i := 15) rfl))) Via.refl e7 F_place_o0_8 (g := (mkF m 8 #[.val (.ref o0), .val (.int (ii.toInt32)), .val (.int (xi.toInt32))] [(.ref o0)])) rfl rfl (hb hby d9_8)
  have qa12 := A_tp_8
  obtain ⟨c12, Ar12, Sz12, H12⟩ := qa12
  have hi13 : 0 ≤ ((xi.toInt32) : Int32).toInt ∧ ((xi.toInt32) : Int32).toInt < (3 : Nat) := (own_bd (show xi < 3 by omega) (by decide))
  obtain ⟨T13, h13, X13, e13, W13, st13⟩ := stI X11 hx hZ e11 Ar12 (j := (xi.toInt32)) (own_in Sz12 hi13) (g := (mkF m 13 #[.val (.ref o0), .val (.int (ii.toInt32)), .val (.int (xi.toInt32))] [(.int (ii.toInt32)), (.int (xi.toInt32)), (.ref tp)])) rfl rfl (hb hby d9_13)
  have N13 := Fr.snoc X13 N7 g_tp
  have A_tp_w13 : own_A Z h13 tp .int 3 (fun kk => (.int (if kk = ((xi.toInt32) : Int32).toNatClampNeg then (ii.toInt32) else (own_pl (pl kk))))) := own_A.setI A_tp_8 W13
  have A_tp_w13u : own_A Z h13 tp .int 3 (fun kk => (.int (own_pl ((own_u pl xi (ii + 1)) kk)))) := own_setpl A_tp_w13 (show xi < 2147483648 by omega)
  have F_items_o0_14 : Fld Z h13 o0 "com/example/lean_layers/leanlayers/phase/layering/IndexedHeap" "items" "[I" (.ref ti) := (F_items_o0_8).other W13 (Or.inl ne_o0_tp)
  have F_place_o0_14 : Fld Z h13 o0 "com/example/lean_layers/leanlayers/phase/layering/IndexedHeap" "place" "[I" (.ref tp) := (F_place_o0_8).other W13 (Or.inl ne_o0_tp)
  have E_o0_14 : Exa Z h13 o0 "com/example/lean_layers/leanlayers/phase/layering/IndexedHeap" := (E_o0_8).wr W13
  have A_ti_14 : own_A Z h13 ti .int 3 (fun kk => (.int (((own_u it ii xi) kk).toInt32))) := (A_ti_w7u).other W13 ne_ti_tp
  have SZ15 : h0.size ≤ h13.size := by rw [W13.size]; exact SZ9
  have ZZ15 : n0 ≤ h13.size := Nat.le_trans Z0 SZ15
  have K16 : Keep h0 h13 [ti, tp] := (K10).wr W13 (Or.inl (List.mem_of_getElem? (i := 1) rfl))
  have pre17 : ∀ t, Steps p.tables e below (T13.setTop (mkF m 14 #[.val (.ref o0), .val (.int (ii.toInt32)), .val (.int (xi.toInt32))] [])) t → Steps p.tables e below (s₁.setTop (entryFrame m #[(.ref o0), (.int p1), (.int p2)] 3)) t := fun t k => pre4 t (by
    show Steps p.tables e below (s₁.setTop (mkF m 0 #[.val (.ref o0), .val (.int (ii.toInt32)), .val (.int (xi.toInt32))] [])) _
    refine XS.aloadN X0.here hx rfl (hb hby d9_0) rfl rfl ?_
    show Steps p.tables e below (s₁.setTop (mkF m 1 #[.val (.ref o0), .val (.int (ii.toInt32)), .val (.int (xi.toInt32))] [(.ref o0)])) _
    refine st5 _ ?_
    show Steps p.tables e below (T5.setTop (mkF m 4 #[.val (.ref o0), .val (.int (ii.toInt32)), .val (.int (xi.toInt32))] [(.ref ti)])) _
    refine XS.iloadN X5.here hx rfl (hb hby d9_4) rfl ?_
    show Steps p.tables e below (T5.setTop (mkF m 5 #[.val (.ref o0), .val (.int (ii.toInt32)), .val (.int (xi.toInt32))] [(.int (ii.toInt32)), (.ref ti)])) _
    refine XS.iloadN X5.here hx rfl (hb hby d9_5) rfl ?_
    show Steps p.tables e below (T5.setTop (mkF m 6 #[.val (.ref o0), .val (.int (ii.toInt32)), .val (.int (xi.toInt32))] [(.int (xi.toInt32)), (.int (ii.toInt32)), (.ref ti)])) _
    refine st7 _ ?_
    show Steps p.tables e below (T7.setTop (mkF m 7 #[.val (.ref o0), .val (.int (ii.toInt32)), .val (.int (xi.toInt32))] [])) _
    refine XS.aloadN X7.here hx rfl (hb hby d9_7) rfl rfl ?_
    show Steps p.tables e below (T7.setTop (mkF m 8 #[.val (.ref o0), .val (.int (ii.toInt32)), .val (.int (xi.toInt32))] [(.ref o0)])) _
    refine st11 _ ?_
    show Steps p.tables e below (T11.setTop (mkF m 11 #[.val (.ref o0), .val (.int (ii.toInt32)), .val (.int (xi.toInt32))] [(.ref tp)])) _
    refine XS.iloadN X11.here hx rfl (hb hby d9_11) rfl ?_
    show Steps p.tables e below (T11.setTop (mkF m 12 #[.val (.ref o0), .val (.int (ii.toInt32)), .val (.int (xi.toInt32))] [(.int (xi.toInt32)), (.ref tp)])) _
    refine XS.iloadN X11.here hx rfl (hb hby d9_12) rfl ?_
    show Steps p.tables e below (T11.setTop (mkF m 13 #[.val (.ref o0), .val (.int (ii.toInt32)), .val (.int (xi.toInt32))] [(.int (ii.toInt32)), (.int (xi.toInt32)), (.ref tp)])) _
    refine st13 _ ?_
    show Steps p.tables e below (T13.setTop (mkF m 14 #[.val (.ref o0), .val (.int (ii.toInt32)), .val (.int (xi.toInt32))] [])) _
    exact k)
  obtain ⟨fs, hr, hrun, hended, hW, hsame⟩ := X13.leave (v := none) (fun _ => rfl)
  refine ⟨_, _, pre17 _ ?_, hrun, hended, _, _, rfl, ?_, ⟨_, rfl⟩, hW, hsame.mono (by decide) (by decide)⟩
  · exact X13.returnOut hx Bd.returns (hb hby d9_14) hr
  · show Q9 Z o0 p1 p2 ti tp it pl ii xi h0 n0 _ T13.heap _
    rw [e13]
    exact ⟨rfl, N13, K16, A_ti_14, A_tp_w13u⟩
theorem d8_7 : decode prog_55_method_8_code 7 = .ok (.iload_n 1, 1) := by decide +kernel
theorem d8_8 : decode prog_55_method_8_code 8 = .ok (.ifCond .le 43, 3) := by decide +kernel
theorem d8_11 : decode prog_55_method_8_code 11 = .ok (.aload_n 0, 1) := by decide +kernel
theorem d8_12 : decode prog_55_method_8_code 12 = .ok (.iload_n 2, 1) := by decide +kernel
theorem d8_13 : decode prog_55_method_8_code 13 = .ok (.aload_n 0, 1) := by decide +kernel
theorem d8_14 : decode prog_55_method_8_code 14 = .ok (.getfield 7, 3) := by decide +kernel
theorem d8_17 : decode prog_55_method_8_code 17 = .ok (.iload_n 1, 1) := by decide +kernel
theorem d8_18 : decode prog_55_method_8_code 18 = .ok (.iconst 1, 1) := by decide +kernel
theorem d8_19 : decode prog_55_method_8_code 19 = .ok (.isub, 1) := by decide +kernel
theorem d8_20 : decode prog_55_method_8_code 20 = .ok (.iconst 2, 1) := by decide +kernel
theorem d8_21 : decode prog_55_method_8_code 21 = .ok (.idiv, 1) := by decide +kernel
theorem d8_22 : decode prog_55_method_8_code 22 = .ok (.iaload, 1) := by decide +kernel
theorem d8_23 : decode prog_55_method_8_code 23 = .ok (.invokevirtual 48, 3) := by decide +kernel
theorem d8_26 : decode prog_55_method_8_code 26 = .ok (.ifCond .eq 25, 3) := by decide +kernel
theorem d8_29 : decode prog_55_method_8_code 29 = .ok (.iload_n 1, 1) := by decide +kernel
theorem d8_30 : decode prog_55_method_8_code 30 = .ok (.iconst 1, 1) := by decide +kernel
theorem d8_31 : decode prog_55_method_8_code 31 = .ok (.isub, 1) := by decide +kernel
theorem d8_32 : decode prog_55_method_8_code 32 = .ok (.iconst 2, 1) := by decide +kernel
theorem d8_33 : decode prog_55_method_8_code 33 = .ok (.idiv, 1) := by decide +kernel
theorem d8_34 : decode prog_55_method_8_code 34 = .ok (.istore_n 3, 1) := by decide +kernel
theorem d8_35 : decode prog_55_method_8_code 35 = .ok (.aload_n 0, 1) := by decide +kernel
theorem d8_36 : decode prog_55_method_8_code 36 = .ok (.iload_n 1, 1) := by decide +kernel
theorem d8_37 : decode prog_55_method_8_code 37 = .ok (.aload_n 0, 1) := by decide +kernel
theorem d8_38 : decode prog_55_method_8_code 38 = .ok (.getfield 7, 3) := by decide +kernel
theorem d8_41 : decode prog_55_method_8_code 41 = .ok (.iload_n 3, 1) := by decide +kernel
theorem d8_42 : decode prog_55_method_8_code 42 = .ok (.iaload, 1) := by decide +kernel
theorem d8_43 : decode prog_55_method_8_code 43 = .ok (.invokevirtual 52, 3) := by decide +kernel
theorem d8_46 : decode prog_55_method_8_code 46 = .ok (.iload_n 3, 1) := by decide +kernel
theorem d8_47 : decode prog_55_method_8_code 47 = .ok (.istore_n 1, 1) := by decide +kernel
theorem d8_48 : decode prog_55_method_8_code 48 = .ok (.goto (-41), 3) := by decide +kernel
theorem pd_1 : parseMethodDescriptor "(II)Z" = some ⟨[.int, .int], some .boolean⟩ := by decide +kernel
theorem pd_2 : parseMethodDescriptor "(II)V" = some ⟨[.int, .int], none⟩ := by decide +kernel
set_option maxRecDepth 65536 in
set_option maxHeartbeats 40000000 in
theorem loop_up {p : Program} {l : Launch} {e : Env} {s : State} {m : MethodId} {args : Array Value} {below : List Frame} {meth : Method} {c : Code} {Z : State} {a0 : Array Value} (o0 ti tk tp : Addr) (ky : Nat → Int64) (xi n : Nat) (p0 : Nat → Nat) (n0 : Nat) (g_ti : n0 ≤ ti) (g_tp : n0 ≤ tp) (ne_o0_ti : o0 ≠ ti) (ne_o0_tk : o0 ≠ tk) (ne_o0_tp : o0 ≠ tp) (ne_ti_tk : ti ≠ tk) (ne_ti_tp : ti ≠ tp) (ne_tk_tp : tk ≠ tp) (hx : p.tables.exec = Jvm.exec) (hZ : Z.Warmed39 s.vm) (hw : ∀ d ∈ tables_1, d.before a0 Z = true) (hby : c.code = prog_55_method_8_code) (hml : c.maxLocals = 4) (hown : s.vm.findClass "com/example/lean_layers/leanlayers/phase/layering/IndexedHeap" = some m.cls) :
    ∀ (i : Nat) (it pl : Nat → Nat) (s3 : Slot) (T0 : State) (h0 : Heap) (locs : List Loc), One s3 → own_HO 3 n i xi it pl p0 → Stand p l e ({ frames := 2, cells := 0, slots := 0, locals := 40 } : Room) s m args below meth c T0 locs 0 0 → T0.heap = h0 → Fr n0 locs → n0 ≤ h0.size → Fld Z h0 o0 "com/example/lean_layers/leanlayers/phase/layering/IndexedHeap" "items" "[I" (.ref ti) → Fld Z h0 o0 "com/example/lean_layers/leanlayers/phase/layering/IndexedHeap" "keys" "[J" (.ref tk) → Fld Z h0 o0 "com/example/lean_layers/leanlayers/phase/layering/IndexedHeap" "place" "[I" (.ref tp) → Exa Z h0 o0 "com/example/lean_layers/leanlayers/phase/layering/IndexedHeap" → Fld Z h0 o0 "com/example/lean_layers/leanlayers/phase/layering/IndexedHeap" "size" "I" (.int (n.toInt32)) → own_A Z h0 ti .int 3 (fun kk => (.int ((it kk).toInt32))) → own_A Z h0 tk .long 3 (fun kk => (.long (ky kk))) → own_A Z h0 tp .int 3 (fun kk => (.int (own_pl (pl kk)))) →
      ∃ (T1 : State) (h1 : Heap) (locs1 : List Loc) (i1 : Nat) (f1 g1 : Nat → Nat) (k1 : Int32) (s1 : Slot), Stand p l e ({ frames := 2, cells := 0, slots := 0, locals := 40 } : Room) s m args below meth c T1 locs1 0 0 ∧ T1.heap = h1 ∧ Fr n0 locs1 ∧ Keep h0 h1 [ti, tp] ∧ own_A Z h1 ti .int 3 (fun kk => (.int ((f1 kk).toInt32))) ∧ own_A Z h1 tp .int 3 (fun kk => (.int (own_pl (g1 kk)))) ∧ own_HO 3 n i1 xi f1 g1 p0 ∧ ∀ t, Steps p.tables e below (T1.setTop (mkF m 51 #[.val (.ref o0), .val (.int (i1.toInt32)), .val (.int (xi.toInt32)), s1] [])) t → Steps p.tables e below (T0.setTop (mkF m 7 #[.val (.ref o0), .val (.int (i.toInt32)), .val (.int (xi.toInt32)), s3] [])) t := by
  intro i
  induction i using Nat.strongRecOn with
  | ind i ih =>
    intro it pl s3 T0 h0 locs hs3 hH X0 e0 N0 Z0 F_items_o0 F_keys_o0 F_place_o0 E_o0 F_size_o0 A_ti A_tk A_tp
    have hnc : n ≤ 3 := hH.2.2.1.1
    have hin : i < n := hH.1
    have hxc : xi < 3 := hH.2.1
    have pre0 : ∀ t, Steps p.tables e below (T0.setTop (mkF m 7 #[.val (.ref o0), .val (.int (i.toInt32)), .val (.int (xi.toInt32)), s3] [])) t → Steps p.tables e below (T0.setTop (mkF m 7 #[.val (.ref o0), .val (.int (i.toInt32)), .val (.int (xi.toInt32)), s3] [])) t := fun t k => k
    have pre1 : ∀ t, Steps p.tables e below (T0.setTop (mkF m 8 #[.val (.ref o0), .val (.int (i.toInt32)), .val (.int (xi.toInt32)), s3] [(.int (i.toInt32))])) t → Steps p.tables e below (T0.setTop (mkF m 7 #[.val (.ref o0), .val (.int (i.toInt32)), .val (.int (xi.toInt32)), s3] [])) t := fun t k => pre0 t (by
      show Steps p.tables e below (T0.setTop (mkF m 7 #[.val (.ref o0), .val (.int (i.toInt32)), .val (.int (xi.toInt32)), s3] [])) _
      refine XS.iloadN X0.here hx rfl (hb hby d8_7) rfl ?_
      show Steps p.tables e below (T0.setTop (mkF m 8 #[.val (.ref o0), .val (.int (i.toInt32)), .val (.int (xi.toInt32)), s3] [(.int (i.toInt32))])) _
      exact k)
    by_cases hs2 : (0 : Int32) < (i.toInt32)
    · obtain ⟨T3, X3, e3, st3⟩ := getF X0 hx hZ hown (host := "") (Or.inl (hw _ (List.mem_of_getElem? (i := 10) rfl))) Via.refl e0 F_items_o0 (g := (mkF m 14 #[.val (.ref o0), .val (.int (i.toInt32)), .val (.int (xi.toInt32)), s3] [(.ref o0), (.int (xi.toInt32)), (.ref o0)])) rfl rfl (hb hby d8_14)
      have hpos : 0 < i := (own_ltn (a := 0) (b := i) (by decide) (by omega)).mp hs2
      have hac : it ((i - 1) / 2) < 3 := own_HO_it hH (by omega) (by omega)
      have pre4 : ∀ t, Steps p.tables e below (T3.setTop (mkF m 22 #[.val (.ref o0), .val (.int (i.toInt32)), .val (.int (xi.toInt32)), s3] [(.int (((i.toInt32) - (1 : Int32)) / (2 : Int32))), (.ref ti), (.int (xi.toInt32)), (.ref o0)])) t → Steps p.tables e below (T0.setTop (mkF m 7 #[.val (.ref o0), .val (.int (i.toInt32)), .val (.int (xi.toInt32)), s3] [])) t := fun t k => pre1 t (by
        refine XS.ifNo X0.here hx rfl (hb hby d8_8) rfl ((if0 _ _).trans (tlt hs2).2.2.2) ?_
        show Steps p.tables e below (T0.setTop (mkF m 11 #[.val (.ref o0), .val (.int (i.toInt32)), .val (.int (xi.toInt32)), s3] [])) _
        refine XS.aloadN X0.here hx rfl (hb hby d8_11) rfl rfl ?_
        show Steps p.tables e below (T0.setTop (mkF m 12 #[.val (.ref o0), .val (.int (i.toInt32)), .val (.int (xi.toInt32)), s3] [(.ref o0)])) _
        refine XS.iloadN X0.here hx rfl (hb hby d8_12) rfl ?_
        show Steps p.tables e below (T0.setTop (mkF m 13 #[.val (.ref o0), .val (.int (i.toInt32)), .val (.int (xi.toInt32)), s3] [(.int (xi.toInt32)), (.ref o0)])) _
        refine XS.aloadN X0.here hx rfl (hb hby d8_13) rfl rfl ?_
        show Steps p.tables e below (T0.setTop (mkF m 14 #[.val (.ref o0), .val (.int (i.toInt32)), .val (.int (xi.toInt32)), s3] [(.ref o0), (.int (xi.toInt32)), (.ref o0)])) _
        refine st3 _ ?_
        show Steps p.tables e below (T3.setTop (mkF m 17 #[.val (.ref o0), .val (.int (i.toInt32)), .val (.int (xi.toInt32)), s3] [(.ref ti), (.int (xi.toInt32)), (.ref o0)])) _
        refine XS.iloadN X3.here hx rfl (hb hby d8_17) rfl ?_
        show Steps p.tables e below (T3.setTop (mkF m 18 #[.val (.ref o0), .val (.int (i.toInt32)), .val (.int (xi.toInt32)), s3] [(.int (i.toInt32)), (.ref ti), (.int (xi.toInt32)), (.ref o0)])) _
        refine XS.iconst X3.here hx rfl (hb hby d8_18) ?_
        show Steps p.tables e below (T3.setTop (mkF m 19 #[.val (.ref o0), .val (.int (i.toInt32)), .val (.int (xi.toInt32)), s3] [(.int (1 : Int32)), (.int (i.toInt32)), (.ref ti), (.int (xi.toInt32)), (.ref o0)])) _
        refine XS.isub X3.here hx rfl (hb hby d8_19) rfl ?_
        show Steps p.tables e below (T3.setTop (mkF m 20 #[.val (.ref o0), .val (.int (i.toInt32)), .val (.int (xi.toInt32)), s3] [(.int ((i.toInt32) - (1 : Int32))), (.ref ti), (.int (xi.toInt32)), (.ref o0)])) _
        refine XS.iconst X3.here hx rfl (hb hby d8_20) ?_
        show Steps p.tables e below (T3.setTop (mkF m 21 #[.val (.ref o0), .val (.int (i.toInt32)), .val (.int (xi.toInt32)), s3] [(.int (2 : Int32)), (.int ((i.toInt32) - (1 : Int32))), (.ref ti), (.int (xi.toInt32)), (.ref o0)])) _
        refine XS.idiv X3.here hx rfl (hb hby d8_21) rfl (by decide) ?_
        show Steps p.tables e below (T3.setTop (mkF m 22 #[.val (.ref o0), .val (.int (i.toInt32)), .val (.int (xi.toInt32)), s3] [(.int (((i.toInt32) - (1 : Int32)) / (2 : Int32))), (.ref ti), (.int (xi.toInt32)), (.ref o0)])) _
        exact k)
      have hre5 : (((i.toInt32) - (1 : Int32)) / (2 : Int32)) = (((i - 1) / 2).toInt32) := own_par8 ⟨i, by omega⟩ hpos
      have pre5 : ∀ t, Steps p.tables e below (T3.setTop (mkF m 22 #[.val (.ref o0), .val (.int (i.toInt32)), .val (.int (xi.toInt32)), s3] [(.int (((i - 1) / 2).toInt32)), (.ref ti), (.int (xi.toInt32)), (.ref o0)])) t → Steps p.tables e below (T0.setTop (mkF m 7 #[.val (.ref o0), .val (.int (i.toInt32)), .val (.int (xi.toInt32)), s3] [])) t := fun t k => pre4 t (by rw [hre5]; exact k)
      have qa6 := A_ti
      obtain ⟨c6, Ar6, Sz6, H6⟩ := qa6
      have hi7 : 0 ≤ ((((i - 1) / 2).toInt32) : Int32).toInt ∧ ((((i - 1) / 2).toInt32) : Int32).toInt < (3 : Nat) := (own_bd (show ((i - 1) / 2) < 3 by omega) (by decide))
      have hl7 : c6.slots[((((i - 1) / 2).toInt32) : Int32).toNatClampNeg]? = some (.int ((it ((i - 1) / 2)).toInt32)) := by rw [show ((it ((i - 1) / 2)).toInt32) = (((it ((((i - 1) / 2).toInt32) : Int32).toNatClampNeg).toInt32)) from by rw [own_tn (show ((i - 1) / 2) < 2147483648 by omega)]]; exact H6 _ (own_ix hi7)
      obtain ⟨cq8, q8, q8'⟩ := (E_o0).cell
      obtain ⟨_, _, ⟨T8, L8, k8, n8⟩, -, X8, ⟨Lc8, hQ8, l8, y8, z8⟩, st8⟩ := X3.privateBack hx (y := (⟨"com/example/lean_layers/leanlayers/phase/layering/IndexedHeap", "before", "(II)Z"⟩ : MethodName)) hown (mvT hZ (hw _ (List.mem_of_getElem? (i := 55) rfl))) (mvT hZ (hw _ (List.mem_of_getElem? (i := 56) rfl))) (own_selp (y := (⟨"com/example/lean_layers/leanlayers/phase/layering/IndexedHeap", "before", "(II)Z"⟩ : MethodName)) (mvT hZ (hw _ (List.mem_of_getElem? (i := 1) rfl))) (Cond.privateMethod_at (mvP hZ (hw _ (List.mem_of_getElem? (i := 57) rfl)) (args := #[]))) (mvT hZ (hw _ (List.mem_of_getElem? (i := 56) rfl))) (by decide)) (Cond.privateMethod_at (mvP hZ (hw _ (List.mem_of_getElem? (i := 57) rfl)) (args := #[]))) (mvT hZ (hw _ (List.mem_of_getElem? (i := 58) rfl))) (by decide) (backOf (W := 0) (rm11 l Z a0 hw [] o0 (xi.toInt32) ((it ((i - 1) / 2)).toInt32) tk ky xi (it ((i - 1) / 2)) h0 n0 Z0 F_keys_o0 A_tk rfl rfl hxc hac) hZ (hw _ (List.mem_of_getElem? (i := 58) rfl)) (hw _ (List.mem_of_getElem? (i := 2) rfl)) (by decide) (by decide)) (g := (mkF m 23 #[.val (.ref o0), .val (.int (i.toInt32)), .val (.int (xi.toInt32)), s3] [(.int ((it ((i - 1) / 2)).toInt32)), (.int (xi.toInt32)), (.ref o0)])) rfl (by rw [hml]; rfl) (Steps.refl _) (a := o0) (by rw [e3]; exact q8) q8' (argsL := [(.int (xi.toInt32)), (.int ((it ((i - 1) / 2)).toInt32))]) (rest := []) (lenOf pd_1 rfl) rfl (by show 2 * 0 + _ ≤ _; exact Nat.le_of_eq rfl) (hb hby d8_23) (fun _ _ => ⟨rfl, e3, (by decide : 0 + 0 ≤ _), (by decide : 0 + 0 ≤ _)⟩)
      dsimp only [Pt.U, Pt.locs, Pt.cells, Pt.slots] at X8 l8 y8 z8 st8 hQ8
      subst y8 z8
      obtain ⟨rfl, N8q, hh8⟩ := hQ8
      have N8 := Fr.app N0 N8q
      rw [← l8] at N8
      have pre9 : ∀ t, Steps p.tables e below (T8.setTop (mkF m 26 #[.val (.ref o0), .val (.int (i.toInt32)), .val (.int (xi.toInt32)), s3] [(.int (own_bfr (ky xi) (ky (it ((i - 1) / 2))) (xi.toInt32) ((it ((i - 1) / 2)).toInt32)))])) t → Steps p.tables e below (T0.setTop (mkF m 7 #[.val (.ref o0), .val (.int (i.toInt32)), .val (.int (xi.toInt32)), s3] [])) t := fun t k => pre5 t (by
        show Steps p.tables e below (T3.setTop (mkF m 22 #[.val (.ref o0), .val (.int (i.toInt32)), .val (.int (xi.toInt32)), s3] [(.int (((i - 1) / 2).toInt32)), (.ref ti), (.int (xi.toInt32)), (.ref o0)])) _
        refine X3.iaload hx (j := (((i - 1) / 2).toInt32)) (v := (.int ((it ((i - 1) / 2)).toInt32))) (by rw [e3]; exact Ar6.1) (State.isArrayOf_alike hZ.alike Ar6.2.1) Ar6.2.2 (own_in Sz6 hi7) hl7 (g := (mkF m 22 #[.val (.ref o0), .val (.int (i.toInt32)), .val (.int (xi.toInt32)), s3] [(.int (((i - 1) / 2).toInt32)), (.ref ti), (.int (xi.toInt32)), (.ref o0)])) rfl rfl (hb hby d8_22) _ ?_
        show Steps p.tables e below (T3.setTop (mkF m 23 #[.val (.ref o0), .val (.int (i.toInt32)), .val (.int (xi.toInt32)), s3] [(.int ((it ((i - 1) / 2)).toInt32)), (.int (xi.toInt32)), (.ref o0)])) _
        refine st8.trans ?_
        show Steps p.tables e below (T8.setTop (mkF m 26 #[.val (.ref o0), .val (.int (i.toInt32)), .val (.int (xi.toInt32)), s3] [(.int (own_bfr (ky xi) (ky (it ((i - 1) / 2))) (xi.toInt32) ((it ((i - 1) / 2)).toInt32)))])) _
        exact k)
      by_cases hs10 : (own_bfr (ky xi) (ky (it ((i - 1) / 2))) (xi.toInt32) ((it ((i - 1) / 2)).toInt32)) = (0 : Int32)
      · have pre11 : ∀ t, Steps p.tables e below (T8.setTop (mkF m 51 #[.val (.ref o0), .val (.int (i.toInt32)), .val (.int (xi.toInt32)), s3] [])) t → Steps p.tables e below (T0.setTop (mkF m 7 #[.val (.ref o0), .val (.int (i.toInt32)), .val (.int (xi.toInt32)), s3] [])) t := fun t k => pre9 t (by
          refine XS.ifYes X8.here hx rfl (pc0 := 26) (pc' := 51) rfl (hb hby d8_26) rfl ((if0 _ _).trans (teq hs10).1) (by decide) (by decide) ?_
          show Steps p.tables e below (T8.setTop (mkF m 51 #[.val (.ref o0), .val (.int (i.toInt32)), .val (.int (xi.toInt32)), s3] [])) _
          exact k)
        exact ⟨_, _, _, i, it, pl, (0 : Int32), _, X8, hh8, N8, (Keep.refl h0 [ti, tp]), A_ti, A_tp, hH, pre11⟩
      · have pre12 : ∀ t, Steps p.tables e below (T8.setTop (mkF m 35 #[.val (.ref o0), .val (.int (i.toInt32)), .val (.int (xi.toInt32)), .val (.int (((i.toInt32) - (1 : Int32)) / (2 : Int32)))] [])) t → Steps p.tables e below (T0.setTop (mkF m 7 #[.val (.ref o0), .val (.int (i.toInt32)), .val (.int (xi.toInt32)), s3] [])) t := fun t k => pre9 t (by
          refine XS.ifNo X8.here hx rfl (hb hby d8_26) rfl ((if0 _ _).trans (feq hs10).1) ?_
          show Steps p.tables e below (T8.setTop (mkF m 29 #[.val (.ref o0), .val (.int (i.toInt32)), .val (.int (xi.toInt32)), s3] [])) _
          refine XS.iloadN X8.here hx rfl (hb hby d8_29) rfl ?_
          show Steps p.tables e below (T8.setTop (mkF m 30 #[.val (.ref o0), .val (.int (i.toInt32)), .val (.int (xi.toInt32)), s3] [(.int (i.toInt32))])) _
          refine XS.iconst X8.here hx rfl (hb hby d8_30) ?_
          show Steps p.tables e below (T8.setTop (mkF m 31 #[.val (.ref o0), .val (.int (i.toInt32)), .val (.int (xi.toInt32)), s3] [(.int (1 : Int32)), (.int (i.toInt32))])) _
          refine XS.isub X8.here hx rfl (hb hby d8_31) rfl ?_
          show Steps p.tables e below (T8.setTop (mkF m 32 #[.val (.ref o0), .val (.int (i.toInt32)), .val (.int (xi.toInt32)), s3] [(.int ((i.toInt32) - (1 : Int32)))])) _
          refine XS.iconst X8.here hx rfl (hb hby d8_32) ?_
          show Steps p.tables e below (T8.setTop (mkF m 33 #[.val (.ref o0), .val (.int (i.toInt32)), .val (.int (xi.toInt32)), s3] [(.int (2 : Int32)), (.int ((i.toInt32) - (1 : Int32)))])) _
          refine XS.idiv X8.here hx rfl (hb hby d8_33) rfl (by decide) ?_
          show Steps p.tables e below (T8.setTop (mkF m 34 #[.val (.ref o0), .val (.int (i.toInt32)), .val (.int (xi.toInt32)), s3] [(.int (((i.toInt32) - (1 : Int32)) / (2 : Int32)))])) _
          refine XS.istoreN X8.here hx rfl (hb hby d8_34) rfl (l' := #[.val (.ref o0), .val (.int (i.toInt32)), .val (.int (xi.toInt32)), .val (.int (((i.toInt32) - (1 : Int32)) / (2 : Int32)))]) (XS.store1 rfl hs3 rfl) ?_
          show Steps p.tables e below (T8.setTop (mkF m 35 #[.val (.ref o0), .val (.int (i.toInt32)), .val (.int (xi.toInt32)), .val (.int (((i.toInt32) - (1 : Int32)) / (2 : Int32)))] [])) _
          exact k)
        have hre13 : (((i.toInt32) - (1 : Int32)) / (2 : Int32)) = (((i - 1) / 2).toInt32) := own_par8 ⟨i, by omega⟩ hpos
        have pre13 : ∀ t, Steps p.tables e below (T8.setTop (mkF m 35 #[.val (.ref o0), .val (.int (i.toInt32)), .val (.int (xi.toInt32)), .val (.int (((i - 1) / 2).toInt32))] [])) t → Steps p.tables e below (T0.setTop (mkF m 7 #[.val (.ref o0), .val (.int (i.toInt32)), .val (.int (xi.toInt32)), s3] [])) t := fun t k => pre12 t (by rw [hre13]; exact k)
        obtain ⟨T14, X14, e14, st14⟩ := getF X8 hx hZ hown (host := "") (Or.inl (hw _ (List.mem_of_getElem? (i := 10) rfl))) Via.refl hh8 F_items_o0 (g := (mkF m 38 #[.val (.ref o0), .val (.int (i.toInt32)), .val (.int (xi.toInt32)), .val (.int (((i - 1) / 2).toInt32))] [(.ref o0), (.int (i.toInt32)), (.ref o0)])) rfl rfl (hb hby d8_38)
        have qa15 := A_ti
        obtain ⟨c15, Ar15, Sz15, H15⟩ := qa15
        have hi16 : 0 ≤ ((((i - 1) / 2).toInt32) : Int32).toInt ∧ ((((i - 1) / 2).toInt32) : Int32).toInt < (3 : Nat) := (own_bd (show ((i - 1) / 2) < 3 by omega) (by decide))
        have hl16 : c15.slots[((((i - 1) / 2).toInt32) : Int32).toNatClampNeg]? = some (.int ((it ((i - 1) / 2)).toInt32)) := by rw [show ((it ((i - 1) / 2)).toInt32) = (((it ((((i - 1) / 2).toInt32) : Int32).toNatClampNeg).toInt32)) from by rw [own_tn (show ((i - 1) / 2) < 2147483648 by omega)]]; exact H15 _ (own_ix hi16)
        obtain ⟨cq17, q17, q17'⟩ := (E_o0).cell
        obtain ⟨_, _, ⟨T17, L17, k17, n17⟩, -, X17, ⟨Lc17, hQ17, l17, y17, z17⟩, st17⟩ := X14.privateBack hx (y := (⟨"com/example/lean_layers/leanlayers/phase/layering/IndexedHeap", "setAt", "(II)V"⟩ : MethodName)) hown (mvT hZ (hw _ (List.mem_of_getElem? (i := 47) rfl))) (mvT hZ (hw _ (List.mem_of_getElem? (i := 48) rfl))) (own_selp (y := (⟨"com/example/lean_layers/leanlayers/phase/layering/IndexedHeap", "setAt", "(II)V"⟩ : MethodName)) (mvT hZ (hw _ (List.mem_of_getElem? (i := 1) rfl))) (Cond.privateMethod_at (mvP hZ (hw _ (List.mem_of_getElem? (i := 49) rfl)) (args := #[]))) (mvT hZ (hw _ (List.mem_of_getElem? (i := 48) rfl))) (by decide)) (Cond.privateMethod_at (mvP hZ (hw _ (List.mem_of_getElem? (i := 49) rfl)) (args := #[]))) (mvT hZ (hw _ (List.mem_of_getElem? (i := 50) rfl))) (by decide) (backOf (W := 0) (rm9 l Z a0 hw [] o0 (i.toInt32) ((it ((i - 1) / 2)).toInt32) ti tp it pl i (it ((i - 1) / 2)) h0 n0 Z0 F_items_o0 F_place_o0 E_o0 A_ti A_tp g_ti g_tp ne_o0_ti ne_o0_tp ne_ti_tp rfl rfl (by omega) hac) hZ (hw _ (List.mem_of_getElem? (i := 50) rfl)) (hw _ (List.mem_of_getElem? (i := 2) rfl)) (by decide) (by decide)) (g := (mkF m 43 #[.val (.ref o0), .val (.int (i.toInt32)), .val (.int (xi.toInt32)), .val (.int (((i - 1) / 2).toInt32))] [(.int ((it ((i - 1) / 2)).toInt32)), (.int (i.toInt32)), (.ref o0)])) rfl (by rw [hml]; rfl) (Steps.refl _) (a := o0) (by rw [e14]; exact q17) q17' (argsL := [(.int (i.toInt32)), (.int ((it ((i - 1) / 2)).toInt32))]) (rest := []) (lenOf pd_2 rfl) rfl (by show 2 * 0 + _ ≤ _; exact Nat.le_of_eq rfl) (hb hby d8_43) (fun _ _ => ⟨rfl, e14, (by decide : 0 + 0 ≤ _), (by decide : 0 + 0 ≤ _)⟩)
        dsimp only [Pt.U, Pt.locs, Pt.cells, Pt.slots] at X17 l17 y17 z17 st17 hQ17
        subst y17 z17
        obtain ⟨rfl, N17q, Kc17, P17_0, P17_1⟩ := hQ17
        have N17 := Fr.app N8 N17q
        rw [← l17] at N17
        have F_items_o0_18 : Fld Z T17.heap o0 "com/example/lean_layers/leanlayers/phase/layering/IndexedHeap" "items" "[I" (.ref ti) := (F_items_o0).keep Kc17 (ninS ne_o0_ti (ninS ne_o0_tp nin0))
        have F_keys_o0_18 : Fld Z T17.heap o0 "com/example/lean_layers/leanlayers/phase/layering/IndexedHeap" "keys" "[J" (.ref tk) := (F_keys_o0).keep Kc17 (ninS ne_o0_ti (ninS ne_o0_tp nin0))
        have F_place_o0_18 : Fld Z T17.heap o0 "com/example/lean_layers/leanlayers/phase/layering/IndexedHeap" "place" "[I" (.ref tp) := (F_place_o0).keep Kc17 (ninS ne_o0_ti (ninS ne_o0_tp nin0))
        have E_o0_18 : Exa Z T17.heap o0 "com/example/lean_layers/leanlayers/phase/layering/IndexedHeap" := (E_o0).keep Kc17
        have F_size_o0_18 : Fld Z T17.heap o0 "com/example/lean_layers/leanlayers/phase/layering/IndexedHeap" "size" "I" (.int (n.toInt32)) := (F_size_o0).keep Kc17 (ninS ne_o0_ti (ninS ne_o0_tp nin0))
        have A_tk_18 : own_A Z T17.heap tk .long 3 (fun kk => (.long (ky kk))) := (A_tk).keep Kc17 (ninS (Ne.symm ne_ti_tk) (ninS ne_tk_tp nin0))
        have SZ19 : h0.size ≤ T17.heap.size := Nat.le_trans (Nat.le_refl _) Kc17.1
        have ZZ19 : n0 ≤ T17.heap.size := Nat.le_trans Z0 SZ19
        have K20 : Keep h0 T17.heap [ti, tp] := ((Keep.refl h0 [ti, tp])).trans Kc17 (allS (Or.inl (List.mem_of_getElem? (i := 0) rfl)) (allS (Or.inl (List.mem_of_getElem? (i := 1) rfl)) all0))
        have pre21 : ∀ t, Steps p.tables e below (T17.setTop (mkF m 7 #[.val (.ref o0), .val (.int (((i - 1) / 2).toInt32)), .val (.int (xi.toInt32)), .val (.int (((i - 1) / 2).toInt32))] [])) t → Steps p.tables e below (T0.setTop (mkF m 7 #[.val (.ref o0), .val (.int (i.toInt32)), .val (.int (xi.toInt32)), s3] [])) t := fun t k => pre13 t (by
          show Steps p.tables e below (T8.setTop (mkF m 35 #[.val (.ref o0), .val (.int (i.toInt32)), .val (.int (xi.toInt32)), .val (.int (((i - 1) / 2).toInt32))] [])) _
          refine XS.aloadN X8.here hx rfl (hb hby d8_35) rfl rfl ?_
          show Steps p.tables e below (T8.setTop (mkF m 36 #[.val (.ref o0), .val (.int (i.toInt32)), .val (.int (xi.toInt32)), .val (.int (((i - 1) / 2).toInt32))] [(.ref o0)])) _
          refine XS.iloadN X8.here hx rfl (hb hby d8_36) rfl ?_
          show Steps p.tables e below (T8.setTop (mkF m 37 #[.val (.ref o0), .val (.int (i.toInt32)), .val (.int (xi.toInt32)), .val (.int (((i - 1) / 2).toInt32))] [(.int (i.toInt32)), (.ref o0)])) _
          refine XS.aloadN X8.here hx rfl (hb hby d8_37) rfl rfl ?_
          show Steps p.tables e below (T8.setTop (mkF m 38 #[.val (.ref o0), .val (.int (i.toInt32)), .val (.int (xi.toInt32)), .val (.int (((i - 1) / 2).toInt32))] [(.ref o0), (.int (i.toInt32)), (.ref o0)])) _
          refine st14 _ ?_
          show Steps p.tables e below (T14.setTop (mkF m 41 #[.val (.ref o0), .val (.int (i.toInt32)), .val (.int (xi.toInt32)), .val (.int (((i - 1) / 2).toInt32))] [(.ref ti), (.int (i.toInt32)), (.ref o0)])) _
          refine XS.iloadN X14.here hx rfl (hb hby d8_41) rfl ?_
          show Steps p.tables e below (T14.setTop (mkF m 42 #[.val (.ref o0), .val (.int (i.toInt32)), .val (.int (xi.toInt32)), .val (.int (((i - 1) / 2).toInt32))] [(.int (((i - 1) / 2).toInt32)), (.ref ti), (.int (i.toInt32)), (.ref o0)])) _
          refine X14.iaload hx (j := (((i - 1) / 2).toInt32)) (v := (.int ((it ((i - 1) / 2)).toInt32))) (by rw [e14]; exact Ar15.1) (State.isArrayOf_alike hZ.alike Ar15.2.1) Ar15.2.2 (own_in Sz15 hi16) hl16 (g := (mkF m 42 #[.val (.ref o0), .val (.int (i.toInt32)), .val (.int (xi.toInt32)), .val (.int (((i - 1) / 2).toInt32))] [(.int (((i - 1) / 2).toInt32)), (.ref ti), (.int (i.toInt32)), (.ref o0)])) rfl rfl (hb hby d8_42) _ ?_
          show Steps p.tables e below (T14.setTop (mkF m 43 #[.val (.ref o0), .val (.int (i.toInt32)), .val (.int (xi.toInt32)), .val (.int (((i - 1) / 2).toInt32))] [(.int ((it ((i - 1) / 2)).toInt32)), (.int (i.toInt32)), (.ref o0)])) _
          refine st17.trans ?_
          show Steps p.tables e below (T17.setTop (mkF m 46 #[.val (.ref o0), .val (.int (i.toInt32)), .val (.int (xi.toInt32)), .val (.int (((i - 1) / 2).toInt32))] [])) _
          refine XS.iloadN X17.here hx rfl (hb hby d8_46) rfl ?_
          show Steps p.tables e below (T17.setTop (mkF m 47 #[.val (.ref o0), .val (.int (i.toInt32)), .val (.int (xi.toInt32)), .val (.int (((i - 1) / 2).toInt32))] [(.int (((i - 1) / 2).toInt32))])) _
          refine XS.istoreN X17.here hx rfl (hb hby d8_47) rfl (l' := #[.val (.ref o0), .val (.int (((i - 1) / 2).toInt32)), .val (.int (xi.toInt32)), .val (.int (((i - 1) / 2).toInt32))]) rfl ?_
          show Steps p.tables e below (T17.setTop (mkF m 48 #[.val (.ref o0), .val (.int (((i - 1) / 2).toInt32)), .val (.int (xi.toInt32)), .val (.int (((i - 1) / 2).toInt32))] [])) _
          refine XS.goto X17.here hx rfl (pc0 := 48) (pc' := 7) rfl (hb hby d8_48) (by decide) (by decide) ?_
          show Steps p.tables e below (T17.setTop (mkF m 7 #[.val (.ref o0), .val (.int (((i - 1) / 2).toInt32)), .val (.int (xi.toInt32)), .val (.int (((i - 1) / 2).toInt32))] [])) _
          exact k)
        obtain ⟨T1, h1, locs1, i1, f1, g1, k1, s1, Y1, Y2, Y3, Y4, Y5, Y6, Y7, Y8⟩ := ih ((i - 1) / 2) (by omega) (own_u it i (it ((i - 1) / 2))) (own_u pl (it ((i - 1) / 2)) (i + 1)) (.val (.int (((i - 1) / 2).toInt32))) _ _ _ (One.val rfl) (own_HO_mv hH (a := ((i - 1) / 2)) (by omega) (by omega)) X17 rfl N17 ZZ19 F_items_o0_18 F_keys_o0_18 F_place_o0_18 E_o0_18 F_size_o0_18 P17_0 A_tk_18 P17_1
        exact ⟨T1, h1, locs1, i1, f1, g1, k1, s1, Y1, Y2, Y3, K20.trans Y4 (fun x hx => Or.inl hx), Y5, Y6, Y7, fun t k => pre21 t (Y8 t k)⟩
    · have pre22 : ∀ t, Steps p.tables e below (T0.setTop (mkF m 51 #[.val (.ref o0), .val (.int (i.toInt32)), .val (.int (xi.toInt32)), s3] [])) t → Steps p.tables e below (T0.setTop (mkF m 7 #[.val (.ref o0), .val (.int (i.toInt32)), .val (.int (xi.toInt32)), s3] [])) t := fun t k => pre1 t (by
        refine XS.ifYes X0.here hx rfl (pc0 := 8) (pc' := 51) rfl (hb hby d8_8) rfl ((if0 _ _).trans (flt hs2).2.2.2) (by decide) (by decide) ?_
        show Steps p.tables e below (T0.setTop (mkF m 51 #[.val (.ref o0), .val (.int (i.toInt32)), .val (.int (xi.toInt32)), s3] [])) _
        exact k)
      exact ⟨_, _, _, i, it, pl, (0 : Int32), _, X0, e0, N0, (Keep.refl h0 [ti, tp]), A_ti, A_tp, hH, pre22⟩
theorem d10_9 : decode prog_55_method_9_code 9 = .ok (.iload_n 3, 1) := by decide +kernel
theorem d10_10 : decode prog_55_method_9_code 10 = .ok (.ifCond .eq 94, 3) := by decide +kernel
theorem d10_13 : decode prog_55_method_9_code 13 = .ok (.iconst 2, 1) := by decide +kernel
theorem d10_14 : decode prog_55_method_9_code 14 = .ok (.iload_n 1, 1) := by decide +kernel
theorem d10_15 : decode prog_55_method_9_code 15 = .ok (.imul, 1) := by decide +kernel
theorem d10_16 : decode prog_55_method_9_code 16 = .ok (.iconst 1, 1) := by decide +kernel
theorem d10_17 : decode prog_55_method_9_code 17 = .ok (.iadd, 1) := by decide +kernel
theorem d10_18 : decode prog_55_method_9_code 18 = .ok (.aload_n 0, 1) := by decide +kernel
theorem d10_19 : decode prog_55_method_9_code 19 = .ok (.getfield 26, 3) := by decide +kernel
theorem d10_22 : decode prog_55_method_9_code 22 = .ok (.if_icmp .ge 82, 3) := by decide +kernel
theorem d10_25 : decode prog_55_method_9_code 25 = .ok (.iconst 2, 1) := by decide +kernel
theorem d10_26 : decode prog_55_method_9_code 26 = .ok (.iload_n 1, 1) := by decide +kernel
theorem d10_27 : decode prog_55_method_9_code 27 = .ok (.imul, 1) := by decide +kernel
theorem d10_28 : decode prog_55_method_9_code 28 = .ok (.iconst 1, 1) := by decide +kernel
theorem d10_29 : decode prog_55_method_9_code 29 = .ok (.iadd, 1) := by decide +kernel
theorem d10_30 : decode prog_55_method_9_code 30 = .ok (.istore 4, 2) := by decide +kernel
theorem d10_32 : decode prog_55_method_9_code 32 = .ok (.iload 4, 2) := by decide +kernel
theorem d10_34 : decode prog_55_method_9_code 34 = .ok (.iconst 1, 1) := by decide +kernel
theorem d10_35 : decode prog_55_method_9_code 35 = .ok (.iadd, 1) := by decide +kernel
theorem d10_36 : decode prog_55_method_9_code 36 = .ok (.aload_n 0, 1) := by decide +kernel
theorem d10_37 : decode prog_55_method_9_code 37 = .ok (.getfield 26, 3) := by decide +kernel
theorem d10_40 : decode prog_55_method_9_code 40 = .ok (.if_icmp .ge 29, 3) := by decide +kernel
theorem d10_43 : decode prog_55_method_9_code 43 = .ok (.aload_n 0, 1) := by decide +kernel
theorem d10_44 : decode prog_55_method_9_code 44 = .ok (.aload_n 0, 1) := by decide +kernel
theorem d10_45 : decode prog_55_method_9_code 45 = .ok (.getfield 7, 3) := by decide +kernel
theorem d10_48 : decode prog_55_method_9_code 48 = .ok (.iload 4, 2) := by decide +kernel
theorem d10_50 : decode prog_55_method_9_code 50 = .ok (.iconst 1, 1) := by decide +kernel
theorem d10_51 : decode prog_55_method_9_code 51 = .ok (.iadd, 1) := by decide +kernel
theorem d10_52 : decode prog_55_method_9_code 52 = .ok (.iaload, 1) := by decide +kernel
theorem d10_53 : decode prog_55_method_9_code 53 = .ok (.aload_n 0, 1) := by decide +kernel
theorem d10_54 : decode prog_55_method_9_code 54 = .ok (.getfield 7, 3) := by decide +kernel
theorem d10_57 : decode prog_55_method_9_code 57 = .ok (.iload 4, 2) := by decide +kernel
theorem d10_59 : decode prog_55_method_9_code 59 = .ok (.iaload, 1) := by decide +kernel
theorem d10_60 : decode prog_55_method_9_code 60 = .ok (.invokevirtual 48, 3) := by decide +kernel
theorem d10_63 : decode prog_55_method_9_code 63 = .ok (.ifCond .eq 6, 3) := by decide +kernel
theorem d10_66 : decode prog_55_method_9_code 66 = .ok (.iinc 4 1, 3) := by decide +kernel
theorem d10_69 : decode prog_55_method_9_code 69 = .ok (.aload_n 0, 1) := by decide +kernel
theorem d10_70 : decode prog_55_method_9_code 70 = .ok (.aload_n 0, 1) := by decide +kernel
theorem d10_71 : decode prog_55_method_9_code 71 = .ok (.getfield 7, 3) := by decide +kernel
theorem d10_74 : decode prog_55_method_9_code 74 = .ok (.iload 4, 2) := by decide +kernel
theorem d10_76 : decode prog_55_method_9_code 76 = .ok (.iaload, 1) := by decide +kernel
theorem d10_77 : decode prog_55_method_9_code 77 = .ok (.iload_n 2, 1) := by decide +kernel
theorem d10_78 : decode prog_55_method_9_code 78 = .ok (.invokevirtual 48, 3) := by decide +kernel
theorem d10_81 : decode prog_55_method_9_code 81 = .ok (.istore_n 3, 1) := by decide +kernel
theorem d10_82 : decode prog_55_method_9_code 82 = .ok (.iload_n 3, 1) := by decide +kernel
theorem d10_83 : decode prog_55_method_9_code 83 = .ok (.ifCond .eq 18, 3) := by decide +kernel
theorem d10_86 : decode prog_55_method_9_code 86 = .ok (.aload_n 0, 1) := by decide +kernel
theorem d10_87 : decode prog_55_method_9_code 87 = .ok (.iload_n 1, 1) := by decide +kernel
theorem d10_88 : decode prog_55_method_9_code 88 = .ok (.aload_n 0, 1) := by decide +kernel
theorem d10_89 : decode prog_55_method_9_code 89 = .ok (.getfield 7, 3) := by decide +kernel
theorem d10_92 : decode prog_55_method_9_code 92 = .ok (.iload 4, 2) := by decide +kernel
theorem d10_94 : decode prog_55_method_9_code 94 = .ok (.iaload, 1) := by decide +kernel
theorem d10_95 : decode prog_55_method_9_code 95 = .ok (.invokevirtual 52, 3) := by decide +kernel
theorem d10_98 : decode prog_55_method_9_code 98 = .ok (.iload 4, 2) := by decide +kernel
theorem d10_100 : decode prog_55_method_9_code 100 = .ok (.istore_n 1, 1) := by decide +kernel
theorem d10_101 : decode prog_55_method_9_code 101 = .ok (.goto (-92), 3) := by decide +kernel
set_option maxRecDepth 65536 in
set_option maxHeartbeats 40000000 in
theorem loop_dn {p : Program} {l : Launch} {e : Env} {s : State} {m : MethodId} {args : Array Value} {below : List Frame} {meth : Method} {c : Code} {Z : State} {a0 : Array Value} (o0 ti tk tp : Addr) (ky : Nat → Int64) (xi n : Nat) (p0 : Nat → Nat) (n0 : Nat) (g_ti : n0 ≤ ti) (g_tp : n0 ≤ tp) (ne_o0_ti : o0 ≠ ti) (ne_o0_tk : o0 ≠ tk) (ne_o0_tp : o0 ≠ tp) (ne_ti_tk : ti ≠ tk) (ne_ti_tp : ti ≠ tp) (ne_tk_tp : tk ≠ tp) (hx : p.tables.exec = Jvm.exec) (hZ : Z.Warmed39 s.vm) (hw : ∀ d ∈ tables_1, d.before a0 Z = true) (hby : c.code = prog_55_method_9_code) (hml : c.maxLocals = 5) (hown : s.vm.findClass "com/example/lean_layers/leanlayers/phase/layering/IndexedHeap" = some m.cls) :
    ∀ (d i : Nat) (it pl : Nat → Nat) (sk : Int32) (s4 : Slot) (T0 : State) (h0 : Heap) (locs : List Loc), n - i = d → One s4 → own_HO 3 n i xi it pl p0 → Stand p l e ({ frames := 2, cells := 0, slots := 0, locals := 40 } : Room) s m args below meth c T0 locs 0 0 → T0.heap = h0 → Fr n0 locs → n0 ≤ h0.size → Fld Z h0 o0 "com/example/lean_layers/leanlayers/phase/layering/IndexedHeap" "items" "[I" (.ref ti) → Fld Z h0 o0 "com/example/lean_layers/leanlayers/phase/layering/IndexedHeap" "keys" "[J" (.ref tk) → Fld Z h0 o0 "com/example/lean_layers/leanlayers/phase/layering/IndexedHeap" "place" "[I" (.ref tp) → Exa Z h0 o0 "com/example/lean_layers/leanlayers/phase/layering/IndexedHeap" → Fld Z h0 o0 "com/example/lean_layers/leanlayers/phase/layering/IndexedHeap" "size" "I" (.int (n.toInt32)) → own_A Z h0 ti .int 3 (fun kk => (.int ((it kk).toInt32))) → own_A Z h0 tk .long 3 (fun kk => (.long (ky kk))) → own_A Z h0 tp .int 3 (fun kk => (.int (own_pl (pl kk)))) →
      ∃ (T1 : State) (h1 : Heap) (locs1 : List Loc) (i1 : Nat) (f1 g1 : Nat → Nat) (k1 : Int32) (s1 : Slot), Stand p l e ({ frames := 2, cells := 0, slots := 0, locals := 40 } : Room) s m args below meth c T1 locs1 0 0 ∧ T1.heap = h1 ∧ Fr n0 locs1 ∧ Keep h0 h1 [ti, tp] ∧ own_A Z h1 ti .int 3 (fun kk => (.int ((f1 kk).toInt32))) ∧ own_A Z h1 tp .int 3 (fun kk => (.int (own_pl (g1 kk)))) ∧ own_HO 3 n i1 xi f1 g1 p0 ∧ ∀ t, Steps p.tables e below (T1.setTop (mkF m 104 #[.val (.ref o0), .val (.int (i1.toInt32)), .val (.int (xi.toInt32)), .val (.int k1), s1] [])) t → Steps p.tables e below (T0.setTop (mkF m 9 #[.val (.ref o0), .val (.int (i.toInt32)), .val (.int (xi.toInt32)), .val (.int sk), s4] [])) t := by
  intro d
  induction d using Nat.strongRecOn with
  | ind d ih =>
    intro i it pl sk s4 T0 h0 locs hd hs4 hH X0 e0 N0 Z0 F_items_o0 F_keys_o0 F_place_o0 E_o0 F_size_o0 A_ti A_tk A_tp
    have hnc : n ≤ 3 := hH.2.2.1.1
    have hin : i < n := hH.1
    have hxc : xi < 3 := hH.2.1
    have pre0 : ∀ t, Steps p.tables e below (T0.setTop (mkF m 9 #[.val (.ref o0), .val (.int (i.toInt32)), .val (.int (xi.toInt32)), .val (.int sk), s4] [])) t → Steps p.tables e below (T0.setTop (mkF m 9 #[.val (.ref o0), .val (.int (i.toInt32)), .val (.int (xi.toInt32)), .val (.int sk), s4] [])) t := fun t k => k
    have pre1 : ∀ t, Steps p.tables e below (T0.setTop (mkF m 10 #[.val (.ref o0), .val (.int (i.toInt32)), .val (.int (xi.toInt32)), .val (.int sk), s4] [(.int sk)])) t → Steps p.tables e below (T0.setTop (mkF m 9 #[.val (.ref o0), .val (.int (i.toInt32)), .val (.int (xi.toInt32)), .val (.int sk), s4] [])) t := fun t k => pre0 t (by
      show Steps p.tables e below (T0.setTop (mkF m 9 #[.val (.ref o0), .val (.int (i.toInt32)), .val (.int (xi.toInt32)), .val (.int sk), s4] [])) _
      refine XS.iloadN X0.here hx rfl (hb hby d10_9) rfl ?_
      show Steps p.tables e below (T0.setTop (mkF m 10 #[.val (.ref o0), .val (.int (i.toInt32)), .val (.int (xi.toInt32)), .val (.int sk), s4] [(.int sk)])) _
      exact k)
    by_cases hs2 : sk = (0 : Int32)
    · have pre3 : ∀ t, Steps p.tables e below (T0.setTop (mkF m 104 #[.val (.ref o0), .val (.int (i.toInt32)), .val (.int (xi.toInt32)), .val (.int sk), s4] [])) t → Steps p.tables e below (T0.setTop (mkF m 9 #[.val (.ref o0), .val (.int (i.toInt32)), .val (.int (xi.toInt32)), .val (.int sk), s4] [])) t := fun t k => pre1 t (by
        refine XS.ifYes X0.here hx rfl (pc0 := 10) (pc' := 104) rfl (hb hby d10_10) rfl ((if0 _ _).trans (teq hs2).1) (by decide) (by decide) ?_
        show Steps p.tables e below (T0.setTop (mkF m 104 #[.val (.ref o0), .val (.int (i.toInt32)), .val (.int (xi.toInt32)), .val (.int sk), s4] [])) _
        exact k)
      exact ⟨_, _, _, i, it, pl, sk, _, X0, e0, N0, (Keep.refl h0 [ti, tp]), A_ti, A_tp, hH, pre3⟩
    · have pre4 : ∀ t, Steps p.tables e below (T0.setTop (mkF m 18 #[.val (.ref o0), .val (.int (i.toInt32)), .val (.int (xi.toInt32)), .val (.int sk), s4] [(.int (((2 : Int32) * (i.toInt32)) + (1 : Int32)))])) t → Steps p.tables e below (T0.setTop (mkF m 9 #[.val (.ref o0), .val (.int (i.toInt32)), .val (.int (xi.toInt32)), .val (.int sk), s4] [])) t := fun t k => pre1 t (by
        refine XS.ifNo X0.here hx rfl (hb hby d10_10) rfl ((if0 _ _).trans (feq hs2).1) ?_
        show Steps p.tables e below (T0.setTop (mkF m 13 #[.val (.ref o0), .val (.int (i.toInt32)), .val (.int (xi.toInt32)), .val (.int sk), s4] [])) _
        refine XS.iconst X0.here hx rfl (hb hby d10_13) ?_
        show Steps p.tables e below (T0.setTop (mkF m 14 #[.val (.ref o0), .val (.int (i.toInt32)), .val (.int (xi.toInt32)), .val (.int sk), s4] [(.int (2 : Int32))])) _
        refine XS.iloadN X0.here hx rfl (hb hby d10_14) rfl ?_
        show Steps p.tables e below (T0.setTop (mkF m 15 #[.val (.ref o0), .val (.int (i.toInt32)), .val (.int (xi.toInt32)), .val (.int sk), s4] [(.int (i.toInt32)), (.int (2 : Int32))])) _
        refine XS.imul X0.here hx rfl (hb hby d10_15) rfl ?_
        show Steps p.tables e below (T0.setTop (mkF m 16 #[.val (.ref o0), .val (.int (i.toInt32)), .val (.int (xi.toInt32)), .val (.int sk), s4] [(.int ((2 : Int32) * (i.toInt32)))])) _
        refine XS.iconst X0.here hx rfl (hb hby d10_16) ?_
        show Steps p.tables e below (T0.setTop (mkF m 17 #[.val (.ref o0), .val (.int (i.toInt32)), .val (.int (xi.toInt32)), .val (.int sk), s4] [(.int (1 : Int32)), (.int ((2 : Int32) * (i.toInt32)))])) _
        refine XS.iadd X0.here hx rfl (hb hby d10_17) rfl ?_
        show Steps p.tables e below (T0.setTop (mkF m 18 #[.val (.ref o0), .val (.int (i.toInt32)), .val (.int (xi.toInt32)), .val (.int sk), s4] [(.int (((2 : Int32) * (i.toInt32)) + (1 : Int32)))])) _
        exact k)
      have hre5 : (((2 : Int32) * (i.toInt32)) + (1 : Int32)) = ((2 * i + 1).toInt32) := own_two8 ⟨i, by omega⟩
      have pre5 : ∀ t, Steps p.tables e below (T0.setTop (mkF m 18 #[.val (.ref o0), .val (.int (i.toInt32)), .val (.int (xi.toInt32)), .val (.int sk), s4] [(.int ((2 * i + 1).toInt32))])) t → Steps p.tables e below (T0.setTop (mkF m 9 #[.val (.ref o0), .val (.int (i.toInt32)), .val (.int (xi.toInt32)), .val (.int sk), s4] [])) t := fun t k => pre4 t (by rw [hre5]; exact k)
      obtain ⟨T6, X6, e6, st6⟩ := getF X0 hx hZ hown (host := "") (Or.inl (hw _ (List.mem_of_getElem? (i := 27) rfl))) Via.refl e0 F_size_o0 (g := (mkF m 19 #[.val (.ref o0), .val (.int (i.toInt32)), .val (.int (xi.toInt32)), .val (.int sk), s4] [(.ref o0), (.int ((2 * i + 1).toInt32))])) rfl rfl (hb hby d10_19)
      have pre7 : ∀ t, Steps p.tables e below (T6.setTop (mkF m 22 #[.val (.ref o0), .val (.int (i.toInt32)), .val (.int (xi.toInt32)), .val (.int sk), s4] [(.int (n.toInt32)), (.int ((2 * i + 1).toInt32))])) t → Steps p.tables e below (T0.setTop (mkF m 9 #[.val (.ref o0), .val (.int (i.toInt32)), .val (.int (xi.toInt32)), .val (.int sk), s4] [])) t := fun t k => pre5 t (by
        show Steps p.tables e below (T0.setTop (mkF m 18 #[.val (.ref o0), .val (.int (i.toInt32)), .val (.int (xi.toInt32)), .val (.int sk), s4] [(.int ((2 * i + 1).toInt32))])) _
        refine XS.aloadN X0.here hx rfl (hb hby d10_18) rfl rfl ?_
        show Steps p.tables e below (T0.setTop (mkF m 19 #[.val (.ref o0), .val (.int (i.toInt32)), .val (.int (xi.toInt32)), .val (.int sk), s4] [(.ref o0), (.int ((2 * i + 1).toInt32))])) _
        refine st6 _ ?_
        show Steps p.tables e below (T6.setTop (mkF m 22 #[.val (.ref o0), .val (.int (i.toInt32)), .val (.int (xi.toInt32)), .val (.int sk), s4] [(.int (n.toInt32)), (.int ((2 * i + 1).toInt32))])) _
        exact k)
      by_cases hs8 : ((2 * i + 1).toInt32) < (n.toInt32)
      · have hlt : (2 * i + 1) < n := (own_ltn (by omega) (by omega)).mp hs8
        have pre9 : ∀ t, Steps p.tables e below (T6.setTop (mkF m 32 #[.val (.ref o0), .val (.int (i.toInt32)), .val (.int (xi.toInt32)), .val (.int sk), .val (.int (((2 : Int32) * (i.toInt32)) + (1 : Int32)))] [])) t → Steps p.tables e below (T0.setTop (mkF m 9 #[.val (.ref o0), .val (.int (i.toInt32)), .val (.int (xi.toInt32)), .val (.int sk), s4] [])) t := fun t k => pre7 t (by
          refine XS.icmpNo X6.here hx rfl (hb hby d10_22) rfl (tlt hs8).2.1 ?_
          show Steps p.tables e below (T6.setTop (mkF m 25 #[.val (.ref o0), .val (.int (i.toInt32)), .val (.int (xi.toInt32)), .val (.int sk), s4] [])) _
          refine XS.iconst X6.here hx rfl (hb hby d10_25) ?_
          show Steps p.tables e below (T6.setTop (mkF m 26 #[.val (.ref o0), .val (.int (i.toInt32)), .val (.int (xi.toInt32)), .val (.int sk), s4] [(.int (2 : Int32))])) _
          refine XS.iloadN X6.here hx rfl (hb hby d10_26) rfl ?_
          show Steps p.tables e below (T6.setTop (mkF m 27 #[.val (.ref o0), .val (.int (i.toInt32)), .val (.int (xi.toInt32)), .val (.int sk), s4] [(.int (i.toInt32)), (.int (2 : Int32))])) _
          refine XS.imul X6.here hx rfl (hb hby d10_27) rfl ?_
          show Steps p.tables e below (T6.setTop (mkF m 28 #[.val (.ref o0), .val (.int (i.toInt32)), .val (.int (xi.toInt32)), .val (.int sk), s4] [(.int ((2 : Int32) * (i.toInt32)))])) _
          refine XS.iconst X6.here hx rfl (hb hby d10_28) ?_
          show Steps p.tables e below (T6.setTop (mkF m 29 #[.val (.ref o0), .val (.int (i.toInt32)), .val (.int (xi.toInt32)), .val (.int sk), s4] [(.int (1 : Int32)), (.int ((2 : Int32) * (i.toInt32)))])) _
          refine XS.iadd X6.here hx rfl (hb hby d10_29) rfl ?_
          show Steps p.tables e below (T6.setTop (mkF m 30 #[.val (.ref o0), .val (.int (i.toInt32)), .val (.int (xi.toInt32)), .val (.int sk), s4] [(.int (((2 : Int32) * (i.toInt32)) + (1 : Int32)))])) _
          refine XS.istore X6.here hx rfl (hb hby d10_30) rfl (l' := #[.val (.ref o0), .val (.int (i.toInt32)), .val (.int (xi.toInt32)), .val (.int sk), .val (.int (((2 : Int32) * (i.toInt32)) + (1 : Int32)))]) (XS.store1 rfl hs4 rfl) ?_
          show Steps p.tables e below (T6.setTop (mkF m 32 #[.val (.ref o0), .val (.int (i.toInt32)), .val (.int (xi.toInt32)), .val (.int sk), .val (.int (((2 : Int32) * (i.toInt32)) + (1 : Int32)))] [])) _
          exact k)
        have hre10 : (((2 : Int32) * (i.toInt32)) + (1 : Int32)) = ((2 * i + 1).toInt32) := own_two8 ⟨i, by omega⟩
        have pre10 : ∀ t, Steps p.tables e below (T6.setTop (mkF m 32 #[.val (.ref o0), .val (.int (i.toInt32)), .val (.int (xi.toInt32)), .val (.int sk), .val (.int ((2 * i + 1).toInt32))] [])) t → Steps p.tables e below (T0.setTop (mkF m 9 #[.val (.ref o0), .val (.int (i.toInt32)), .val (.int (xi.toInt32)), .val (.int sk), s4] [])) t := fun t k => pre9 t (by rw [hre10]; exact k)
        have pre11 : ∀ t, Steps p.tables e below (T6.setTop (mkF m 36 #[.val (.ref o0), .val (.int (i.toInt32)), .val (.int (xi.toInt32)), .val (.int sk), .val (.int ((2 * i + 1).toInt32))] [(.int (((2 * i + 1).toInt32) + (1 : Int32)))])) t → Steps p.tables e below (T0.setTop (mkF m 9 #[.val (.ref o0), .val (.int (i.toInt32)), .val (.int (xi.toInt32)), .val (.int sk), s4] [])) t := fun t k => pre10 t (by
          show Steps p.tables e below (T6.setTop (mkF m 32 #[.val (.ref o0), .val (.int (i.toInt32)), .val (.int (xi.toInt32)), .val (.int sk), .val (.int ((2 * i + 1).toInt32))] [])) _
          refine XS.iload X6.here hx rfl (hb hby d10_32) rfl ?_
          show Steps p.tables e below (T6.setTop (mkF m 34 #[.val (.ref o0), .val (.int (i.toInt32)), .val (.int (xi.toInt32)), .val (.int sk), .val (.int ((2 * i + 1).toInt32))] [(.int ((2 * i + 1).toInt32))])) _
          refine XS.iconst X6.here hx rfl (hb hby d10_34) ?_
          show Steps p.tables e below (T6.setTop (mkF m 35 #[.val (.ref o0), .val (.int (i.toInt32)), .val (.int (xi.toInt32)), .val (.int sk), .val (.int ((2 * i + 1).toInt32))] [(.int (1 : Int32)), (.int ((2 * i + 1).toInt32))])) _
          refine XS.iadd X6.here hx rfl (hb hby d10_35) rfl ?_
          show Steps p.tables e below (T6.setTop (mkF m 36 #[.val (.ref o0), .val (.int (i.toInt32)), .val (.int (xi.toInt32)), .val (.int sk), .val (.int ((2 * i + 1).toInt32))] [(.int (((2 * i + 1).toInt32) + (1 : Int32)))])) _
          exact k)
        have hre12 : (((2 * i + 1).toInt32) + (1 : Int32)) = ((2 * i + 2).toInt32) := own_inc (2 * i + 1)
        have pre12 : ∀ t, Steps p.tables e below (T6.setTop (mkF m 36 #[.val (.ref o0), .val (.int (i.toInt32)), .val (.int (xi.toInt32)), .val (.int sk), .val (.int ((2 * i + 1).toInt32))] [(.int ((2 * i + 2).toInt32))])) t → Steps p.tables e below (T0.setTop (mkF m 9 #[.val (.ref o0), .val (.int (i.toInt32)), .val (.int (xi.toInt32)), .val (.int sk), s4] [])) t := fun t k => pre11 t (by rw [hre12]; exact k)
        obtain ⟨T13, X13, e13, st13⟩ := getF X6 hx hZ hown (host := "") (Or.inl (hw _ (List.mem_of_getElem? (i := 27) rfl))) Via.refl e6 F_size_o0 (g := (mkF m 37 #[.val (.ref o0), .val (.int (i.toInt32)), .val (.int (xi.toInt32)), .val (.int sk), .val (.int ((2 * i + 1).toInt32))] [(.ref o0), (.int ((2 * i + 2).toInt32))])) rfl rfl (hb hby d10_37)
        have pre14 : ∀ t, Steps p.tables e below (T13.setTop (mkF m 40 #[.val (.ref o0), .val (.int (i.toInt32)), .val (.int (xi.toInt32)), .val (.int sk), .val (.int ((2 * i + 1).toInt32))] [(.int (n.toInt32)), (.int ((2 * i + 2).toInt32))])) t → Steps p.tables e below (T0.setTop (mkF m 9 #[.val (.ref o0), .val (.int (i.toInt32)), .val (.int (xi.toInt32)), .val (.int sk), s4] [])) t := fun t k => pre12 t (by
          show Steps p.tables e below (T6.setTop (mkF m 36 #[.val (.ref o0), .val (.int (i.toInt32)), .val (.int (xi.toInt32)), .val (.int sk), .val (.int ((2 * i + 1).toInt32))] [(.int ((2 * i + 2).toInt32))])) _
          refine XS.aloadN X6.here hx rfl (hb hby d10_36) rfl rfl ?_
          show Steps p.tables e below (T6.setTop (mkF m 37 #[.val (.ref o0), .val (.int (i.toInt32)), .val (.int (xi.toInt32)), .val (.int sk), .val (.int ((2 * i + 1).toInt32))] [(.ref o0), (.int ((2 * i + 2).toInt32))])) _
          refine st13 _ ?_
          show Steps p.tables e below (T13.setTop (mkF m 40 #[.val (.ref o0), .val (.int (i.toInt32)), .val (.int (xi.toInt32)), .val (.int sk), .val (.int ((2 * i + 1).toInt32))] [(.int (n.toInt32)), (.int ((2 * i + 2).toInt32))])) _
          exact k)
        by_cases hs15 : ((2 * i + 2).toInt32) < (n.toInt32)
        · have hlt2 : (2 * i + 2) < n := (own_ltn (by omega) (by omega)).mp hs15
          have hac2 : it (2 * i + 2) < 3 := own_HO_it hH hlt2 (by omega)
          have hac1 : it (2 * i + 1) < 3 := own_HO_it hH hlt (by omega)
          obtain ⟨T16, X16, e16, st16⟩ := getF X13 hx hZ hown (host := "") (Or.inl (hw _ (List.mem_of_getElem? (i := 10) rfl))) Via.refl e13 F_items_o0 (g := (mkF m 45 #[.val (.ref o0), .val (.int (i.toInt32)), .val (.int (xi.toInt32)), .val (.int sk), .val (.int ((2 * i + 1).toInt32))] [(.ref o0), (.ref o0)])) rfl rfl (hb hby d10_45)
          have pre17 : ∀ t, Steps p.tables e below (T16.setTop (mkF m 52 #[.val (.ref o0), .val (.int (i.toInt32)), .val (.int (xi.toInt32)), .val (.int sk), .val (.int ((2 * i + 1).toInt32))] [(.int (((2 * i + 1).toInt32) + (1 : Int32))), (.ref ti), (.ref o0)])) t → Steps p.tables e below (T0.setTop (mkF m 9 #[.val (.ref o0), .val (.int (i.toInt32)), .val (.int (xi.toInt32)), .val (.int sk), s4] [])) t := fun t k => pre14 t (by
            refine XS.icmpNo X13.here hx rfl (hb hby d10_40) rfl (tlt hs15).2.1 ?_
            show Steps p.tables e below (T13.setTop (mkF m 43 #[.val (.ref o0), .val (.int (i.toInt32)), .val (.int (xi.toInt32)), .val (.int sk), .val (.int ((2 * i + 1).toInt32))] [])) _
            refine XS.aloadN X13.here hx rfl (hb hby d10_43) rfl rfl ?_
            show Steps p.tables e below (T13.setTop (mkF m 44 #[.val (.ref o0), .val (.int (i.toInt32)), .val (.int (xi.toInt32)), .val (.int sk), .val (.int ((2 * i + 1).toInt32))] [(.ref o0)])) _
            refine XS.aloadN X13.here hx rfl (hb hby d10_44) rfl rfl ?_
            show Steps p.tables e below (T13.setTop (mkF m 45 #[.val (.ref o0), .val (.int (i.toInt32)), .val (.int (xi.toInt32)), .val (.int sk), .val (.int ((2 * i + 1).toInt32))] [(.ref o0), (.ref o0)])) _
            refine st16 _ ?_
            show Steps p.tables e below (T16.setTop (mkF m 48 #[.val (.ref o0), .val (.int (i.toInt32)), .val (.int (xi.toInt32)), .val (.int sk), .val (.int ((2 * i + 1).toInt32))] [(.ref ti), (.ref o0)])) _
            refine XS.iload X16.here hx rfl (hb hby d10_48) rfl ?_
            show Steps p.tables e below (T16.setTop (mkF m 50 #[.val (.ref o0), .val (.int (i.toInt32)), .val (.int (xi.toInt32)), .val (.int sk), .val (.int ((2 * i + 1).toInt32))] [(.int ((2 * i + 1).toInt32)), (.ref ti), (.ref o0)])) _
            refine XS.iconst X16.here hx rfl (hb hby d10_50) ?_
            show Steps p.tables e below (T16.setTop (mkF m 51 #[.val (.ref o0), .val (.int (i.toInt32)), .val (.int (xi.toInt32)), .val (.int sk), .val (.int ((2 * i + 1).toInt32))] [(.int (1 : Int32)), (.int ((2 * i + 1).toInt32)), (.ref ti), (.ref o0)])) _
            refine XS.iadd X16.here hx rfl (hb hby d10_51) rfl ?_
            show Steps p.tables e below (T16.setTop (mkF m 52 #[.val (.ref o0), .val (.int (i.toInt32)), .val (.int (xi.toInt32)), .val (.int sk), .val (.int ((2 * i + 1).toInt32))] [(.int (((2 * i + 1).toInt32) + (1 : Int32))), (.ref ti), (.ref o0)])) _
            exact k)
          have hre18 : (((2 * i + 1).toInt32) + (1 : Int32)) = ((2 * i + 2).toInt32) := own_inc (2 * i + 1)
          have pre18 : ∀ t, Steps p.tables e below (T16.setTop (mkF m 52 #[.val (.ref o0), .val (.int (i.toInt32)), .val (.int (xi.toInt32)), .val (.int sk), .val (.int ((2 * i + 1).toInt32))] [(.int ((2 * i + 2).toInt32)), (.ref ti), (.ref o0)])) t → Steps p.tables e below (T0.setTop (mkF m 9 #[.val (.ref o0), .val (.int (i.toInt32)), .val (.int (xi.toInt32)), .val (.int sk), s4] [])) t := fun t k => pre17 t (by rw [hre18]; exact k)
          have qa19 := A_ti
          obtain ⟨c19, Ar19, Sz19, H19⟩ := qa19
          have hi20 : 0 ≤ (((2 * i + 2).toInt32) : Int32).toInt ∧ (((2 * i + 2).toInt32) : Int32).toInt < (3 : Nat) := (own_bd (show (2 * i + 2) < 3 by omega) (by decide))
          have hl20 : c19.slots[(((2 * i + 2).toInt32) : Int32).toNatClampNeg]? = some (.int ((it (2 * i + 2)).toInt32)) := by rw [show ((it (2 * i + 2)).toInt32) = (((it (((2 * i + 2).toInt32) : Int32).toNatClampNeg).toInt32)) from by rw [own_tn (show (2 * i + 2) < 2147483648 by omega)]]; exact H19 _ (own_ix hi20)
          obtain ⟨T21, X21, e21, st21⟩ := getF X16 hx hZ hown (host := "") (Or.inl (hw _ (List.mem_of_getElem? (i := 10) rfl))) Via.refl e16 F_items_o0 (g := (mkF m 54 #[.val (.ref o0), .val (.int (i.toInt32)), .val (.int (xi.toInt32)), .val (.int sk), .val (.int ((2 * i + 1).toInt32))] [(.ref o0), (.int ((it (2 * i + 2)).toInt32)), (.ref o0)])) rfl rfl (hb hby d10_54)
          have qa22 := A_ti
          obtain ⟨c22, Ar22, Sz22, H22⟩ := qa22
          have hi23 : 0 ≤ (((2 * i + 1).toInt32) : Int32).toInt ∧ (((2 * i + 1).toInt32) : Int32).toInt < (3 : Nat) := (own_bd (show (2 * i + 1) < 3 by omega) (by decide))
          have hl23 : c22.slots[(((2 * i + 1).toInt32) : Int32).toNatClampNeg]? = some (.int ((it (2 * i + 1)).toInt32)) := by rw [show ((it (2 * i + 1)).toInt32) = (((it (((2 * i + 1).toInt32) : Int32).toNatClampNeg).toInt32)) from by rw [own_tn (show (2 * i + 1) < 2147483648 by omega)]]; exact H22 _ (own_ix hi23)
          obtain ⟨cq24, q24, q24'⟩ := (E_o0).cell
          obtain ⟨_, _, ⟨T24, L24, k24, n24⟩, -, X24, ⟨Lc24, hQ24, l24, y24, z24⟩, st24⟩ := X21.privateBack hx (y := (⟨"com/example/lean_layers/leanlayers/phase/layering/IndexedHeap", "before", "(II)Z"⟩ : MethodName)) hown (mvT hZ (hw _ (List.mem_of_getElem? (i := 55) rfl))) (mvT hZ (hw _ (List.mem_of_getElem? (i := 56) rfl))) (own_selp (y := (⟨"com/example/lean_layers/leanlayers/phase/layering/IndexedHeap", "before", "(II)Z"⟩ : MethodName)) (mvT hZ (hw _ (List.mem_of_getElem? (i := 1) rfl))) (Cond.privateMethod_at (mvP hZ (hw _ (List.mem_of_getElem? (i := 57) rfl)) (args := #[]))) (mvT hZ (hw _ (List.mem_of_getElem? (i := 56) rfl))) (by decide)) (Cond.privateMethod_at (mvP hZ (hw _ (List.mem_of_getElem? (i := 57) rfl)) (args := #[]))) (mvT hZ (hw _ (List.mem_of_getElem? (i := 58) rfl))) (by decide) (backOf (W := 0) (rm11 l Z a0 hw [] o0 ((it (2 * i + 2)).toInt32) ((it (2 * i + 1)).toInt32) tk ky (it (2 * i + 2)) (it (2 * i + 1)) h0 n0 Z0 F_keys_o0 A_tk rfl rfl hac2 hac1) hZ (hw _ (List.mem_of_getElem? (i := 58) rfl)) (hw _ (List.mem_of_getElem? (i := 2) rfl)) (by decide) (by decide)) (g := (mkF m 60 #[.val (.ref o0), .val (.int (i.toInt32)), .val (.int (xi.toInt32)), .val (.int sk), .val (.int ((2 * i + 1).toInt32))] [(.int ((it (2 * i + 1)).toInt32)), (.int ((it (2 * i + 2)).toInt32)), (.ref o0)])) rfl (by rw [hml]; rfl) (Steps.refl _) (a := o0) (by rw [e21]; exact q24) q24' (argsL := [(.int ((it (2 * i + 2)).toInt32)), (.int ((it (2 * i + 1)).toInt32))]) (rest := []) (lenOf pd_1 rfl) rfl (by show 2 * 0 + _ ≤ _; exact Nat.le_of_eq rfl) (hb hby d10_60) (fun _ _ => ⟨rfl, e21, (by decide : 0 + 0 ≤ _), (by decide : 0 + 0 ≤ _)⟩)
          dsimp only [Pt.U, Pt.locs, Pt.cells, Pt.slots] at X24 l24 y24 z24 st24 hQ24
          subst y24 z24
          obtain ⟨rfl, N24q, hh24⟩ := hQ24
          have N24 := Fr.app N0 N24q
          rw [← l24] at N24
          have pre25 : ∀ t, Steps p.tables e below (T24.setTop (mkF m 63 #[.val (.ref o0), .val (.int (i.toInt32)), .val (.int (xi.toInt32)), .val (.int sk), .val (.int ((2 * i + 1).toInt32))] [(.int (own_bfr (ky (it (2 * i + 2))) (ky (it (2 * i + 1))) ((it (2 * i + 2)).toInt32) ((it (2 * i + 1)).toInt32)))])) t → Steps p.tables e below (T0.setTop (mkF m 9 #[.val (.ref o0), .val (.int (i.toInt32)), .val (.int (xi.toInt32)), .val (.int sk), s4] [])) t := fun t k => pre18 t (by
            show Steps p.tables e below (T16.setTop (mkF m 52 #[.val (.ref o0), .val (.int (i.toInt32)), .val (.int (xi.toInt32)), .val (.int sk), .val (.int ((2 * i + 1).toInt32))] [(.int ((2 * i + 2).toInt32)), (.ref ti), (.ref o0)])) _
            refine X16.iaload hx (j := ((2 * i + 2).toInt32)) (v := (.int ((it (2 * i + 2)).toInt32))) (by rw [e16]; exact Ar19.1) (State.isArrayOf_alike hZ.alike Ar19.2.1) Ar19.2.2 (own_in Sz19 hi20) hl20 (g := (mkF m 52 #[.val (.ref o0), .val (.int (i.toInt32)), .val (.int (xi.toInt32)), .val (.int sk), .val (.int ((2 * i + 1).toInt32))] [(.int ((2 * i + 2).toInt32)), (.ref ti), (.ref o0)])) rfl rfl (hb hby d10_52) _ ?_
            show Steps p.tables e below (T16.setTop (mkF m 53 #[.val (.ref o0), .val (.int (i.toInt32)), .val (.int (xi.toInt32)), .val (.int sk), .val (.int ((2 * i + 1).toInt32))] [(.int ((it (2 * i + 2)).toInt32)), (.ref o0)])) _
            refine XS.aloadN X16.here hx rfl (hb hby d10_53) rfl rfl ?_
            show Steps p.tables e below (T16.setTop (mkF m 54 #[.val (.ref o0), .val (.int (i.toInt32)), .val (.int (xi.toInt32)), .val (.int sk), .val (.int ((2 * i + 1).toInt32))] [(.ref o0), (.int ((it (2 * i + 2)).toInt32)), (.ref o0)])) _
            refine st21 _ ?_
            show Steps p.tables e below (T21.setTop (mkF m 57 #[.val (.ref o0), .val (.int (i.toInt32)), .val (.int (xi.toInt32)), .val (.int sk), .val (.int ((2 * i + 1).toInt32))] [(.ref ti), (.int ((it (2 * i + 2)).toInt32)), (.ref o0)])) _
            refine XS.iload X21.here hx rfl (hb hby d10_57) rfl ?_
            show Steps p.tables e below (T21.setTop (mkF m 59 #[.val (.ref o0), .val (.int (i.toInt32)), .val (.int (xi.toInt32)), .val (.int sk), .val (.int ((2 * i + 1).toInt32))] [(.int ((2 * i + 1).toInt32)), (.ref ti), (.int ((it (2 * i + 2)).toInt32)), (.ref o0)])) _
            refine X21.iaload hx (j := ((2 * i + 1).toInt32)) (v := (.int ((it (2 * i + 1)).toInt32))) (by rw [e21]; exact Ar22.1) (State.isArrayOf_alike hZ.alike Ar22.2.1) Ar22.2.2 (own_in Sz22 hi23) hl23 (g := (mkF m 59 #[.val (.ref o0), .val (.int (i.toInt32)), .val (.int (xi.toInt32)), .val (.int sk), .val (.int ((2 * i + 1).toInt32))] [(.int ((2 * i + 1).toInt32)), (.ref ti), (.int ((it (2 * i + 2)).toInt32)), (.ref o0)])) rfl rfl (hb hby d10_59) _ ?_
            show Steps p.tables e below (T21.setTop (mkF m 60 #[.val (.ref o0), .val (.int (i.toInt32)), .val (.int (xi.toInt32)), .val (.int sk), .val (.int ((2 * i + 1).toInt32))] [(.int ((it (2 * i + 1)).toInt32)), (.int ((it (2 * i + 2)).toInt32)), (.ref o0)])) _
            refine st24.trans ?_
            show Steps p.tables e below (T24.setTop (mkF m 63 #[.val (.ref o0), .val (.int (i.toInt32)), .val (.int (xi.toInt32)), .val (.int sk), .val (.int ((2 * i + 1).toInt32))] [(.int (own_bfr (ky (it (2 * i + 2))) (ky (it (2 * i + 1))) ((it (2 * i + 2)).toInt32) ((it (2 * i + 1)).toInt32)))])) _
            exact k)
          by_cases hs26 : (own_bfr (ky (it (2 * i + 2))) (ky (it (2 * i + 1))) ((it (2 * i + 2)).toInt32) ((it (2 * i + 1)).toInt32)) = (0 : Int32)
          · have hcn : (2 * i + 1) < n := by omega
            have hac : it (2 * i + 1) < 3 := own_HO_it hH hcn (by omega)
            obtain ⟨T27, X27, e27, st27⟩ := getF X24 hx hZ hown (host := "") (Or.inl (hw _ (List.mem_of_getElem? (i := 10) rfl))) Via.refl hh24 F_items_o0 (g := (mkF m 71 #[.val (.ref o0), .val (.int (i.toInt32)), .val (.int (xi.toInt32)), .val (.int sk), .val (.int ((2 * i + 1).toInt32))] [(.ref o0), (.ref o0)])) rfl rfl (hb hby d10_71)
            have qa28 := A_ti
            obtain ⟨c28, Ar28, Sz28, H28⟩ := qa28
            have hi29 : 0 ≤ (((2 * i + 1).toInt32) : Int32).toInt ∧ (((2 * i + 1).toInt32) : Int32).toInt < (3 : Nat) := (own_bd (show (2 * i + 1) < 3 by omega) (by decide))
            have hl29 : c28.slots[(((2 * i + 1).toInt32) : Int32).toNatClampNeg]? = some (.int ((it (2 * i + 1)).toInt32)) := by rw [show ((it (2 * i + 1)).toInt32) = (((it (((2 * i + 1).toInt32) : Int32).toNatClampNeg).toInt32)) from by rw [own_tn (show (2 * i + 1) < 2147483648 by omega)]]; exact H28 _ (own_ix hi29)
            obtain ⟨cq30, q30, q30'⟩ := (E_o0).cell
            obtain ⟨_, _, ⟨T30, L30, k30, n30⟩, -, X30, ⟨Lc30, hQ30, l30, y30, z30⟩, st30⟩ := X27.privateBack hx (y := (⟨"com/example/lean_layers/leanlayers/phase/layering/IndexedHeap", "before", "(II)Z"⟩ : MethodName)) hown (mvT hZ (hw _ (List.mem_of_getElem? (i := 55) rfl))) (mvT hZ (hw _ (List.mem_of_getElem? (i := 56) rfl))) (own_selp (y := (⟨"com/example/lean_layers/leanlayers/phase/layering/IndexedHeap", "before", "(II)Z"⟩ : MethodName)) (mvT hZ (hw _ (List.mem_of_getElem? (i := 1) rfl))) (Cond.privateMethod_at (mvP hZ (hw _ (List.mem_of_getElem? (i := 57) rfl)) (args := #[]))) (mvT hZ (hw _ (List.mem_of_getElem? (i := 56) rfl))) (by decide)) (Cond.privateMethod_at (mvP hZ (hw _ (List.mem_of_getElem? (i := 57) rfl)) (args := #[]))) (mvT hZ (hw _ (List.mem_of_getElem? (i := 58) rfl))) (by decide) (backOf (W := 0) (rm11 l Z a0 hw [] o0 ((it (2 * i + 1)).toInt32) (xi.toInt32) tk ky (it (2 * i + 1)) xi h0 n0 Z0 F_keys_o0 A_tk rfl rfl hac hxc) hZ (hw _ (List.mem_of_getElem? (i := 58) rfl)) (hw _ (List.mem_of_getElem? (i := 2) rfl)) (by decide) (by decide)) (g := (mkF m 78 #[.val (.ref o0), .val (.int (i.toInt32)), .val (.int (xi.toInt32)), .val (.int sk), .val (.int ((2 * i + 1).toInt32))] [(.int (xi.toInt32)), (.int ((it (2 * i + 1)).toInt32)), (.ref o0)])) rfl (by rw [hml]; rfl) (Steps.refl _) (a := o0) (by rw [e27]; exact q30) q30' (argsL := [(.int ((it (2 * i + 1)).toInt32)), (.int (xi.toInt32))]) (rest := []) (lenOf pd_1 rfl) rfl (by show 2 * 0 + _ ≤ _; exact Nat.le_of_eq rfl) (hb hby d10_78) (fun _ _ => ⟨rfl, e27, (by decide : 0 + 0 ≤ _), (by decide : 0 + 0 ≤ _)⟩)
            dsimp only [Pt.U, Pt.locs, Pt.cells, Pt.slots] at X30 l30 y30 z30 st30 hQ30
            subst y30 z30
            obtain ⟨rfl, N30q, hh30⟩ := hQ30
            have N30 := Fr.app N24 N30q
            rw [← l30] at N30
            have pre31 : ∀ t, Steps p.tables e below (T30.setTop (mkF m 83 #[.val (.ref o0), .val (.int (i.toInt32)), .val (.int (xi.toInt32)), .val (.int (own_bfr (ky (it (2 * i + 1))) (ky xi) ((it (2 * i + 1)).toInt32) (xi.toInt32))), .val (.int ((2 * i + 1).toInt32))] [(.int (own_bfr (ky (it (2 * i + 1))) (ky xi) ((it (2 * i + 1)).toInt32) (xi.toInt32)))])) t → Steps p.tables e below (T0.setTop (mkF m 9 #[.val (.ref o0), .val (.int (i.toInt32)), .val (.int (xi.toInt32)), .val (.int sk), s4] [])) t := fun t k => pre25 t (by
              refine XS.ifYes X24.here hx rfl (pc0 := 63) (pc' := 69) rfl (hb hby d10_63) rfl ((if0 _ _).trans (teq hs26).1) (by decide) (by decide) ?_
              show Steps p.tables e below (T24.setTop (mkF m 69 #[.val (.ref o0), .val (.int (i.toInt32)), .val (.int (xi.toInt32)), .val (.int sk), .val (.int ((2 * i + 1).toInt32))] [])) _
              refine XS.aloadN X24.here hx rfl (hb hby d10_69) rfl rfl ?_
              show Steps p.tables e below (T24.setTop (mkF m 70 #[.val (.ref o0), .val (.int (i.toInt32)), .val (.int (xi.toInt32)), .val (.int sk), .val (.int ((2 * i + 1).toInt32))] [(.ref o0)])) _
              refine XS.aloadN X24.here hx rfl (hb hby d10_70) rfl rfl ?_
              show Steps p.tables e below (T24.setTop (mkF m 71 #[.val (.ref o0), .val (.int (i.toInt32)), .val (.int (xi.toInt32)), .val (.int sk), .val (.int ((2 * i + 1).toInt32))] [(.ref o0), (.ref o0)])) _
              refine st27 _ ?_
              show Steps p.tables e below (T27.setTop (mkF m 74 #[.val (.ref o0), .val (.int (i.toInt32)), .val (.int (xi.toInt32)), .val (.int sk), .val (.int ((2 * i + 1).toInt32))] [(.ref ti), (.ref o0)])) _
              refine XS.iload X27.here hx rfl (hb hby d10_74) rfl ?_
              show Steps p.tables e below (T27.setTop (mkF m 76 #[.val (.ref o0), .val (.int (i.toInt32)), .val (.int (xi.toInt32)), .val (.int sk), .val (.int ((2 * i + 1).toInt32))] [(.int ((2 * i + 1).toInt32)), (.ref ti), (.ref o0)])) _
              refine X27.iaload hx (j := ((2 * i + 1).toInt32)) (v := (.int ((it (2 * i + 1)).toInt32))) (by rw [e27]; exact Ar28.1) (State.isArrayOf_alike hZ.alike Ar28.2.1) Ar28.2.2 (own_in Sz28 hi29) hl29 (g := (mkF m 76 #[.val (.ref o0), .val (.int (i.toInt32)), .val (.int (xi.toInt32)), .val (.int sk), .val (.int ((2 * i + 1).toInt32))] [(.int ((2 * i + 1).toInt32)), (.ref ti), (.ref o0)])) rfl rfl (hb hby d10_76) _ ?_
              show Steps p.tables e below (T27.setTop (mkF m 77 #[.val (.ref o0), .val (.int (i.toInt32)), .val (.int (xi.toInt32)), .val (.int sk), .val (.int ((2 * i + 1).toInt32))] [(.int ((it (2 * i + 1)).toInt32)), (.ref o0)])) _
              refine XS.iloadN X27.here hx rfl (hb hby d10_77) rfl ?_
              show Steps p.tables e below (T27.setTop (mkF m 78 #[.val (.ref o0), .val (.int (i.toInt32)), .val (.int (xi.toInt32)), .val (.int sk), .val (.int ((2 * i + 1).toInt32))] [(.int (xi.toInt32)), (.int ((it (2 * i + 1)).toInt32)), (.ref o0)])) _
              refine st30.trans ?_
              show Steps p.tables e below (T30.setTop (mkF m 81 #[.val (.ref o0), .val (.int (i.toInt32)), .val (.int (xi.toInt32)), .val (.int sk), .val (.int ((2 * i + 1).toInt32))] [(.int (own_bfr (ky (it (2 * i + 1))) (ky xi) ((it (2 * i + 1)).toInt32) (xi.toInt32)))])) _
              refine XS.istoreN X30.here hx rfl (hb hby d10_81) rfl (l' := #[.val (.ref o0), .val (.int (i.toInt32)), .val (.int (xi.toInt32)), .val (.int (own_bfr (ky (it (2 * i + 1))) (ky xi) ((it (2 * i + 1)).toInt32) (xi.toInt32))), .val (.int ((2 * i + 1).toInt32))]) rfl ?_
              show Steps p.tables e below (T30.setTop (mkF m 82 #[.val (.ref o0), .val (.int (i.toInt32)), .val (.int (xi.toInt32)), .val (.int (own_bfr (ky (it (2 * i + 1))) (ky xi) ((it (2 * i + 1)).toInt32) (xi.toInt32))), .val (.int ((2 * i + 1).toInt32))] [])) _
              refine XS.iloadN X30.here hx rfl (hb hby d10_82) rfl ?_
              show Steps p.tables e below (T30.setTop (mkF m 83 #[.val (.ref o0), .val (.int (i.toInt32)), .val (.int (xi.toInt32)), .val (.int (own_bfr (ky (it (2 * i + 1))) (ky xi) ((it (2 * i + 1)).toInt32) (xi.toInt32))), .val (.int ((2 * i + 1).toInt32))] [(.int (own_bfr (ky (it (2 * i + 1))) (ky xi) ((it (2 * i + 1)).toInt32) (xi.toInt32)))])) _
              exact k)
            by_cases hs32 : (own_bfr (ky (it (2 * i + 1))) (ky xi) ((it (2 * i + 1)).toInt32) (xi.toInt32)) = (0 : Int32)
            · have pre33 : ∀ t, Steps p.tables e below (T30.setTop (mkF m 104 #[.val (.ref o0), .val (.int (i.toInt32)), .val (.int (xi.toInt32)), .val (.int (own_bfr (ky (it (2 * i + 1))) (ky xi) ((it (2 * i + 1)).toInt32) (xi.toInt32))), .val (.int ((2 * i + 1).toInt32))] [])) t → Steps p.tables e below (T0.setTop (mkF m 9 #[.val (.ref o0), .val (.int (i.toInt32)), .val (.int (xi.toInt32)), .val (.int sk), s4] [])) t := fun t k => pre31 t (by
                refine XS.ifYes X30.here hx rfl (pc0 := 83) (pc' := 101) rfl (hb hby d10_83) rfl ((if0 _ _).trans (teq hs32).1) (by decide) (by decide) ?_
                show Steps p.tables e below (T30.setTop (mkF m 101 #[.val (.ref o0), .val (.int (i.toInt32)), .val (.int (xi.toInt32)), .val (.int (own_bfr (ky (it (2 * i + 1))) (ky xi) ((it (2 * i + 1)).toInt32) (xi.toInt32))), .val (.int ((2 * i + 1).toInt32))] [])) _
                refine XS.goto X30.here hx rfl (pc0 := 101) (pc' := 9) rfl (hb hby d10_101) (by decide) (by decide) ?_
                show Steps p.tables e below (T30.setTop (mkF m 9 #[.val (.ref o0), .val (.int (i.toInt32)), .val (.int (xi.toInt32)), .val (.int (own_bfr (ky (it (2 * i + 1))) (ky xi) ((it (2 * i + 1)).toInt32) (xi.toInt32))), .val (.int ((2 * i + 1).toInt32))] [])) _
                refine XS.iloadN X30.here hx rfl (hb hby d10_9) rfl ?_
                show Steps p.tables e below (T30.setTop (mkF m 10 #[.val (.ref o0), .val (.int (i.toInt32)), .val (.int (xi.toInt32)), .val (.int (own_bfr (ky (it (2 * i + 1))) (ky xi) ((it (2 * i + 1)).toInt32) (xi.toInt32))), .val (.int ((2 * i + 1).toInt32))] [(.int (own_bfr (ky (it (2 * i + 1))) (ky xi) ((it (2 * i + 1)).toInt32) (xi.toInt32)))])) _
                refine XS.ifYes X30.here hx rfl (pc0 := 10) (pc' := 104) rfl (hb hby d10_10) rfl ((if0 _ _).trans (teq hs32).1) (by decide) (by decide) ?_
                show Steps p.tables e below (T30.setTop (mkF m 104 #[.val (.ref o0), .val (.int (i.toInt32)), .val (.int (xi.toInt32)), .val (.int (own_bfr (ky (it (2 * i + 1))) (ky xi) ((it (2 * i + 1)).toInt32) (xi.toInt32))), .val (.int ((2 * i + 1).toInt32))] [])) _
                exact k)
              exact ⟨_, _, _, i, it, pl, (own_bfr (ky (it (2 * i + 1))) (ky xi) ((it (2 * i + 1)).toInt32) (xi.toInt32)), _, X30, hh30, N30, (Keep.refl h0 [ti, tp]), A_ti, A_tp, hH, pre33⟩
            · obtain ⟨T34, X34, e34, st34⟩ := getF X30 hx hZ hown (host := "") (Or.inl (hw _ (List.mem_of_getElem? (i := 10) rfl))) Via.refl hh30 F_items_o0 (g := (mkF m 89 #[.val (.ref o0), .val (.int (i.toInt32)), .val (.int (xi.toInt32)), .val (.int (own_bfr (ky (it (2 * i + 1))) (ky xi) ((it (2 * i + 1)).toInt32) (xi.toInt32))), .val (.int ((2 * i + 1).toInt32))] [(.ref o0), (.int (i.toInt32)), (.ref o0)])) rfl rfl (hb hby d10_89)
              have qa35 := A_ti
              obtain ⟨c35, Ar35, Sz35, H35⟩ := qa35
              have hi36 : 0 ≤ (((2 * i + 1).toInt32) : Int32).toInt ∧ (((2 * i + 1).toInt32) : Int32).toInt < (3 : Nat) := (own_bd (show (2 * i + 1) < 3 by omega) (by decide))
              have hl36 : c35.slots[(((2 * i + 1).toInt32) : Int32).toNatClampNeg]? = some (.int ((it (2 * i + 1)).toInt32)) := by rw [show ((it (2 * i + 1)).toInt32) = (((it (((2 * i + 1).toInt32) : Int32).toNatClampNeg).toInt32)) from by rw [own_tn (show (2 * i + 1) < 2147483648 by omega)]]; exact H35 _ (own_ix hi36)
              obtain ⟨cq37, q37, q37'⟩ := (E_o0).cell
              obtain ⟨_, _, ⟨T37, L37, k37, n37⟩, -, X37, ⟨Lc37, hQ37, l37, y37, z37⟩, st37⟩ := X34.privateBack hx (y := (⟨"com/example/lean_layers/leanlayers/phase/layering/IndexedHeap", "setAt", "(II)V"⟩ : MethodName)) hown (mvT hZ (hw _ (List.mem_of_getElem? (i := 47) rfl))) (mvT hZ (hw _ (List.mem_of_getElem? (i := 48) rfl))) (own_selp (y := (⟨"com/example/lean_layers/leanlayers/phase/layering/IndexedHeap", "setAt", "(II)V"⟩ : MethodName)) (mvT hZ (hw _ (List.mem_of_getElem? (i := 1) rfl))) (Cond.privateMethod_at (mvP hZ (hw _ (List.mem_of_getElem? (i := 49) rfl)) (args := #[]))) (mvT hZ (hw _ (List.mem_of_getElem? (i := 48) rfl))) (by decide)) (Cond.privateMethod_at (mvP hZ (hw _ (List.mem_of_getElem? (i := 49) rfl)) (args := #[]))) (mvT hZ (hw _ (List.mem_of_getElem? (i := 50) rfl))) (by decide) (backOf (W := 0) (rm9 l Z a0 hw [] o0 (i.toInt32) ((it (2 * i + 1)).toInt32) ti tp it pl i (it (2 * i + 1)) h0 n0 Z0 F_items_o0 F_place_o0 E_o0 A_ti A_tp g_ti g_tp ne_o0_ti ne_o0_tp ne_ti_tp rfl rfl (by omega) hac) hZ (hw _ (List.mem_of_getElem? (i := 50) rfl)) (hw _ (List.mem_of_getElem? (i := 2) rfl)) (by decide) (by decide)) (g := (mkF m 95 #[.val (.ref o0), .val (.int (i.toInt32)), .val (.int (xi.toInt32)), .val (.int (own_bfr (ky (it (2 * i + 1))) (ky xi) ((it (2 * i + 1)).toInt32) (xi.toInt32))), .val (.int ((2 * i + 1).toInt32))] [(.int ((it (2 * i + 1)).toInt32)), (.int (i.toInt32)), (.ref o0)])) rfl (by rw [hml]; rfl) (Steps.refl _) (a := o0) (by rw [e34]; exact q37) q37' (argsL := [(.int (i.toInt32)), (.int ((it (2 * i + 1)).toInt32))]) (rest := []) (lenOf pd_2 rfl) rfl (by show 2 * 0 + _ ≤ _; exact Nat.le_of_eq rfl) (hb hby d10_95) (fun _ _ => ⟨rfl, e34, (by decide : 0 + 0 ≤ _), (by decide : 0 + 0 ≤ _)⟩)
              dsimp only [Pt.U, Pt.locs, Pt.cells, Pt.slots] at X37 l37 y37 z37 st37 hQ37
              subst y37 z37
              obtain ⟨rfl, N37q, Kc37, P37_0, P37_1⟩ := hQ37
              have N37 := Fr.app N30 N37q
              rw [← l37] at N37
              have F_items_o0_38 : Fld Z T37.heap o0 "com/example/lean_layers/leanlayers/phase/layering/IndexedHeap" "items" "[I" (.ref ti) := (F_items_o0).keep Kc37 (ninS ne_o0_ti (ninS ne_o0_tp nin0))
              have F_keys_o0_38 : Fld Z T37.heap o0 "com/example/lean_layers/leanlayers/phase/layering/IndexedHeap" "keys" "[J" (.ref tk) := (F_keys_o0).keep Kc37 (ninS ne_o0_ti (ninS ne_o0_tp nin0))
              have F_place_o0_38 : Fld Z T37.heap o0 "com/example/lean_layers/leanlayers/phase/layering/IndexedHeap" "place" "[I" (.ref tp) := (F_place_o0).keep Kc37 (ninS ne_o0_ti (ninS ne_o0_tp nin0))
              have E_o0_38 : Exa Z T37.heap o0 "com/example/lean_layers/leanlayers/phase/layering/IndexedHeap" := (E_o0).keep Kc37
              have F_size_o0_38 : Fld Z T37.heap o0 "com/example/lean_layers/leanlayers/phase/layering/IndexedHeap" "size" "I" (.int (n.toInt32)) := (F_size_o0).keep Kc37 (ninS ne_o0_ti (ninS ne_o0_tp nin0))
              have A_tk_38 : own_A Z T37.heap tk .long 3 (fun kk => (.long (ky kk))) := (A_tk).keep Kc37 (ninS (Ne.symm ne_ti_tk) (ninS ne_tk_tp nin0))
              have SZ39 : h0.size ≤ T37.heap.size := Nat.le_trans (Nat.le_refl _) Kc37.1
              have ZZ39 : n0 ≤ T37.heap.size := Nat.le_trans Z0 SZ39
              have K40 : Keep h0 T37.heap [ti, tp] := ((Keep.refl h0 [ti, tp])).trans Kc37 (allS (Or.inl (List.mem_of_getElem? (i := 0) rfl)) (allS (Or.inl (List.mem_of_getElem? (i := 1) rfl)) all0))
              have pre41 : ∀ t, Steps p.tables e below (T37.setTop (mkF m 9 #[.val (.ref o0), .val (.int ((2 * i + 1).toInt32)), .val (.int (xi.toInt32)), .val (.int (own_bfr (ky (it (2 * i + 1))) (ky xi) ((it (2 * i + 1)).toInt32) (xi.toInt32))), .val (.int ((2 * i + 1).toInt32))] [])) t → Steps p.tables e below (T0.setTop (mkF m 9 #[.val (.ref o0), .val (.int (i.toInt32)), .val (.int (xi.toInt32)), .val (.int sk), s4] [])) t := fun t k => pre31 t (by
                refine XS.ifNo X30.here hx rfl (hb hby d10_83) rfl ((if0 _ _).trans (feq hs32).1) ?_
                show Steps p.tables e below (T30.setTop (mkF m 86 #[.val (.ref o0), .val (.int (i.toInt32)), .val (.int (xi.toInt32)), .val (.int (own_bfr (ky (it (2 * i + 1))) (ky xi) ((it (2 * i + 1)).toInt32) (xi.toInt32))), .val (.int ((2 * i + 1).toInt32))] [])) _
                refine XS.aloadN X30.here hx rfl (hb hby d10_86) rfl rfl ?_
                show Steps p.tables e below (T30.setTop (mkF m 87 #[.val (.ref o0), .val (.int (i.toInt32)), .val (.int (xi.toInt32)), .val (.int (own_bfr (ky (it (2 * i + 1))) (ky xi) ((it (2 * i + 1)).toInt32) (xi.toInt32))), .val (.int ((2 * i + 1).toInt32))] [(.ref o0)])) _
                refine XS.iloadN X30.here hx rfl (hb hby d10_87) rfl ?_
                show Steps p.tables e below (T30.setTop (mkF m 88 #[.val (.ref o0), .val (.int (i.toInt32)), .val (.int (xi.toInt32)), .val (.int (own_bfr (ky (it (2 * i + 1))) (ky xi) ((it (2 * i + 1)).toInt32) (xi.toInt32))), .val (.int ((2 * i + 1).toInt32))] [(.int (i.toInt32)), (.ref o0)])) _
                refine XS.aloadN X30.here hx rfl (hb hby d10_88) rfl rfl ?_
                show Steps p.tables e below (T30.setTop (mkF m 89 #[.val (.ref o0), .val (.int (i.toInt32)), .val (.int (xi.toInt32)), .val (.int (own_bfr (ky (it (2 * i + 1))) (ky xi) ((it (2 * i + 1)).toInt32) (xi.toInt32))), .val (.int ((2 * i + 1).toInt32))] [(.ref o0), (.int (i.toInt32)), (.ref o0)])) _
                refine st34 _ ?_
                show Steps p.tables e below (T34.setTop (mkF m 92 #[.val (.ref o0), .val (.int (i.toInt32)), .val (.int (xi.toInt32)), .val (.int (own_bfr (ky (it (2 * i + 1))) (ky xi) ((it (2 * i + 1)).toInt32) (xi.toInt32))), .val (.int ((2 * i + 1).toInt32))] [(.ref ti), (.int (i.toInt32)), (.ref o0)])) _
                refine XS.iload X34.here hx rfl (hb hby d10_92) rfl ?_
                show Steps p.tables e below (T34.setTop (mkF m 94 #[.val (.ref o0), .val (.int (i.toInt32)), .val (.int (xi.toInt32)), .val (.int (own_bfr (ky (it (2 * i + 1))) (ky xi) ((it (2 * i + 1)).toInt32) (xi.toInt32))), .val (.int ((2 * i + 1).toInt32))] [(.int ((2 * i + 1).toInt32)), (.ref ti), (.int (i.toInt32)), (.ref o0)])) _
                refine X34.iaload hx (j := ((2 * i + 1).toInt32)) (v := (.int ((it (2 * i + 1)).toInt32))) (by rw [e34]; exact Ar35.1) (State.isArrayOf_alike hZ.alike Ar35.2.1) Ar35.2.2 (own_in Sz35 hi36) hl36 (g := (mkF m 94 #[.val (.ref o0), .val (.int (i.toInt32)), .val (.int (xi.toInt32)), .val (.int (own_bfr (ky (it (2 * i + 1))) (ky xi) ((it (2 * i + 1)).toInt32) (xi.toInt32))), .val (.int ((2 * i + 1).toInt32))] [(.int ((2 * i + 1).toInt32)), (.ref ti), (.int (i.toInt32)), (.ref o0)])) rfl rfl (hb hby d10_94) _ ?_
                show Steps p.tables e below (T34.setTop (mkF m 95 #[.val (.ref o0), .val (.int (i.toInt32)), .val (.int (xi.toInt32)), .val (.int (own_bfr (ky (it (2 * i + 1))) (ky xi) ((it (2 * i + 1)).toInt32) (xi.toInt32))), .val (.int ((2 * i + 1).toInt32))] [(.int ((it (2 * i + 1)).toInt32)), (.int (i.toInt32)), (.ref o0)])) _
                refine st37.trans ?_
                show Steps p.tables e below (T37.setTop (mkF m 98 #[.val (.ref o0), .val (.int (i.toInt32)), .val (.int (xi.toInt32)), .val (.int (own_bfr (ky (it (2 * i + 1))) (ky xi) ((it (2 * i + 1)).toInt32) (xi.toInt32))), .val (.int ((2 * i + 1).toInt32))] [])) _
                refine XS.iload X37.here hx rfl (hb hby d10_98) rfl ?_
                show Steps p.tables e below (T37.setTop (mkF m 100 #[.val (.ref o0), .val (.int (i.toInt32)), .val (.int (xi.toInt32)), .val (.int (own_bfr (ky (it (2 * i + 1))) (ky xi) ((it (2 * i + 1)).toInt32) (xi.toInt32))), .val (.int ((2 * i + 1).toInt32))] [(.int ((2 * i + 1).toInt32))])) _
                refine XS.istoreN X37.here hx rfl (hb hby d10_100) rfl (l' := #[.val (.ref o0), .val (.int ((2 * i + 1).toInt32)), .val (.int (xi.toInt32)), .val (.int (own_bfr (ky (it (2 * i + 1))) (ky xi) ((it (2 * i + 1)).toInt32) (xi.toInt32))), .val (.int ((2 * i + 1).toInt32))]) rfl ?_
                show Steps p.tables e below (T37.setTop (mkF m 101 #[.val (.ref o0), .val (.int ((2 * i + 1).toInt32)), .val (.int (xi.toInt32)), .val (.int (own_bfr (ky (it (2 * i + 1))) (ky xi) ((it (2 * i + 1)).toInt32) (xi.toInt32))), .val (.int ((2 * i + 1).toInt32))] [])) _
                refine XS.goto X37.here hx rfl (pc0 := 101) (pc' := 9) rfl (hb hby d10_101) (by decide) (by decide) ?_
                show Steps p.tables e below (T37.setTop (mkF m 9 #[.val (.ref o0), .val (.int ((2 * i + 1).toInt32)), .val (.int (xi.toInt32)), .val (.int (own_bfr (ky (it (2 * i + 1))) (ky xi) ((it (2 * i + 1)).toInt32) (xi.toInt32))), .val (.int ((2 * i + 1).toInt32))] [])) _
                exact k)
              obtain ⟨T1, h1, locs1, i1, f1, g1, k1, s1, Y1, Y2, Y3, Y4, Y5, Y6, Y7, Y8⟩ := ih (n - (2 * i + 1)) (by omega) (2 * i + 1) (own_u it i (it (2 * i + 1))) (own_u pl (it (2 * i + 1)) (i + 1)) (own_bfr (ky (it (2 * i + 1))) (ky xi) ((it (2 * i + 1)).toInt32) (xi.toInt32)) (.val (.int ((2 * i + 1).toInt32))) _ _ _ rfl (One.val rfl) (own_HO_mv hH (a := (2 * i + 1)) (by omega) (by omega)) X37 rfl N37 ZZ39 F_items_o0_38 F_keys_o0_38 F_place_o0_38 E_o0_38 F_size_o0_38 P37_0 A_tk_38 P37_1
              exact ⟨T1, h1, locs1, i1, f1, g1, k1, s1, Y1, Y2, Y3, K40.trans Y4 (fun x hx => Or.inl hx), Y5, Y6, Y7, fun t k => pre41 t (Y8 t k)⟩
          · have pre42 : ∀ t, Steps p.tables e below (T24.setTop (mkF m 69 #[.val (.ref o0), .val (.int (i.toInt32)), .val (.int (xi.toInt32)), .val (.int sk), .val (.int (((2 * i + 1).toInt32) + (1 : Int32)))] [])) t → Steps p.tables e below (T0.setTop (mkF m 9 #[.val (.ref o0), .val (.int (i.toInt32)), .val (.int (xi.toInt32)), .val (.int sk), s4] [])) t := fun t k => pre25 t (by
              refine XS.ifNo X24.here hx rfl (hb hby d10_63) rfl ((if0 _ _).trans (feq hs26).1) ?_
              show Steps p.tables e below (T24.setTop (mkF m 66 #[.val (.ref o0), .val (.int (i.toInt32)), .val (.int (xi.toInt32)), .val (.int sk), .val (.int ((2 * i + 1).toInt32))] [])) _
              refine XS.iinc X24.here hx rfl (hb hby d10_66) rfl (l' := #[.val (.ref o0), .val (.int (i.toInt32)), .val (.int (xi.toInt32)), .val (.int sk), .val (.int (((2 * i + 1).toInt32) + (1 : Int32)))]) rfl ?_
              show Steps p.tables e below (T24.setTop (mkF m 69 #[.val (.ref o0), .val (.int (i.toInt32)), .val (.int (xi.toInt32)), .val (.int sk), .val (.int (((2 * i + 1).toInt32) + (1 : Int32)))] [])) _
              exact k)
            have hre43 : (((2 * i + 1).toInt32) + (1 : Int32)) = ((2 * i + 2).toInt32) := own_inc (2 * i + 1)
            have pre43 : ∀ t, Steps p.tables e below (T24.setTop (mkF m 69 #[.val (.ref o0), .val (.int (i.toInt32)), .val (.int (xi.toInt32)), .val (.int sk), .val (.int ((2 * i + 2).toInt32))] [])) t → Steps p.tables e below (T0.setTop (mkF m 9 #[.val (.ref o0), .val (.int (i.toInt32)), .val (.int (xi.toInt32)), .val (.int sk), s4] [])) t := fun t k => pre42 t (by rw [hre43]; exact k)
            have hcn : (2 * i + 2) < n := by omega
            have hac : it (2 * i + 2) < 3 := own_HO_it hH hcn (by omega)
            obtain ⟨T44, X44, e44, st44⟩ := getF X24 hx hZ hown (host := "") (Or.inl (hw _ (List.mem_of_getElem? (i := 10) rfl))) Via.refl hh24 F_items_o0 (g := (mkF m 71 #[.val (.ref o0), .val (.int (i.toInt32)), .val (.int (xi.toInt32)), .val (.int sk), .val (.int ((2 * i + 2).toInt32))] [(.ref o0), (.ref o0)])) rfl rfl (hb hby d10_71)
            have qa45 := A_ti
            obtain ⟨c45, Ar45, Sz45, H45⟩ := qa45
            have hi46 : 0 ≤ (((2 * i + 2).toInt32) : Int32).toInt ∧ (((2 * i + 2).toInt32) : Int32).toInt < (3 : Nat) := (own_bd (show (2 * i + 2) < 3 by omega) (by decide))
            have hl46 : c45.slots[(((2 * i + 2).toInt32) : Int32).toNatClampNeg]? = some (.int ((it (2 * i + 2)).toInt32)) := by rw [show ((it (2 * i + 2)).toInt32) = (((it (((2 * i + 2).toInt32) : Int32).toNatClampNeg).toInt32)) from by rw [own_tn (show (2 * i + 2) < 2147483648 by omega)]]; exact H45 _ (own_ix hi46)
            obtain ⟨cq47, q47, q47'⟩ := (E_o0).cell
            obtain ⟨_, _, ⟨T47, L47, k47, n47⟩, -, X47, ⟨Lc47, hQ47, l47, y47, z47⟩, st47⟩ := X44.privateBack hx (y := (⟨"com/example/lean_layers/leanlayers/phase/layering/IndexedHeap", "before", "(II)Z"⟩ : MethodName)) hown (mvT hZ (hw _ (List.mem_of_getElem? (i := 55) rfl))) (mvT hZ (hw _ (List.mem_of_getElem? (i := 56) rfl))) (own_selp (y := (⟨"com/example/lean_layers/leanlayers/phase/layering/IndexedHeap", "before", "(II)Z"⟩ : MethodName)) (mvT hZ (hw _ (List.mem_of_getElem? (i := 1) rfl))) (Cond.privateMethod_at (mvP hZ (hw _ (List.mem_of_getElem? (i := 57) rfl)) (args := #[]))) (mvT hZ (hw _ (List.mem_of_getElem? (i := 56) rfl))) (by decide)) (Cond.privateMethod_at (mvP hZ (hw _ (List.mem_of_getElem? (i := 57) rfl)) (args := #[]))) (mvT hZ (hw _ (List.mem_of_getElem? (i := 58) rfl))) (by decide) (backOf (W := 0) (rm11 l Z a0 hw [] o0 ((it (2 * i + 2)).toInt32) (xi.toInt32) tk ky (it (2 * i + 2)) xi h0 n0 Z0 F_keys_o0 A_tk rfl rfl hac hxc) hZ (hw _ (List.mem_of_getElem? (i := 58) rfl)) (hw _ (List.mem_of_getElem? (i := 2) rfl)) (by decide) (by decide)) (g := (mkF m 78 #[.val (.ref o0), .val (.int (i.toInt32)), .val (.int (xi.toInt32)), .val (.int sk), .val (.int ((2 * i + 2).toInt32))] [(.int (xi.toInt32)), (.int ((it (2 * i + 2)).toInt32)), (.ref o0)])) rfl (by rw [hml]; rfl) (Steps.refl _) (a := o0) (by rw [e44]; exact q47) q47' (argsL := [(.int ((it (2 * i + 2)).toInt32)), (.int (xi.toInt32))]) (rest := []) (lenOf pd_1 rfl) rfl (by show 2 * 0 + _ ≤ _; exact Nat.le_of_eq rfl) (hb hby d10_78) (fun _ _ => ⟨rfl, e44, (by decide : 0 + 0 ≤ _), (by decide : 0 + 0 ≤ _)⟩)
            dsimp only [Pt.U, Pt.locs, Pt.cells, Pt.slots] at X47 l47 y47 z47 st47 hQ47
            subst y47 z47
            obtain ⟨rfl, N47q, hh47⟩ := hQ47
            have N47 := Fr.app N24 N47q
            rw [← l47] at N47
            have pre48 : ∀ t, Steps p.tables e below (T47.setTop (mkF m 83 #[.val (.ref o0), .val (.int (i.toInt32)), .val (.int (xi.toInt32)), .val (.int (own_bfr (ky (it (2 * i + 2))) (ky xi) ((it (2 * i + 2)).toInt32) (xi.toInt32))), .val (.int ((2 * i + 2).toInt32))] [(.int (own_bfr (ky (it (2 * i + 2))) (ky xi) ((it (2 * i + 2)).toInt32) (xi.toInt32)))])) t → Steps p.tables e below (T0.setTop (mkF m 9 #[.val (.ref o0), .val (.int (i.toInt32)), .val (.int (xi.toInt32)), .val (.int sk), s4] [])) t := fun t k => pre43 t (by
              show Steps p.tables e below (T24.setTop (mkF m 69 #[.val (.ref o0), .val (.int (i.toInt32)), .val (.int (xi.toInt32)), .val (.int sk), .val (.int ((2 * i + 2).toInt32))] [])) _
              refine XS.aloadN X24.here hx rfl (hb hby d10_69) rfl rfl ?_
              show Steps p.tables e below (T24.setTop (mkF m 70 #[.val (.ref o0), .val (.int (i.toInt32)), .val (.int (xi.toInt32)), .val (.int sk), .val (.int ((2 * i + 2).toInt32))] [(.ref o0)])) _
              refine XS.aloadN X24.here hx rfl (hb hby d10_70) rfl rfl ?_
              show Steps p.tables e below (T24.setTop (mkF m 71 #[.val (.ref o0), .val (.int (i.toInt32)), .val (.int (xi.toInt32)), .val (.int sk), .val (.int ((2 * i + 2).toInt32))] [(.ref o0), (.ref o0)])) _
              refine st44 _ ?_
              show Steps p.tables e below (T44.setTop (mkF m 74 #[.val (.ref o0), .val (.int (i.toInt32)), .val (.int (xi.toInt32)), .val (.int sk), .val (.int ((2 * i + 2).toInt32))] [(.ref ti), (.ref o0)])) _
              refine XS.iload X44.here hx rfl (hb hby d10_74) rfl ?_
              show Steps p.tables e below (T44.setTop (mkF m 76 #[.val (.ref o0), .val (.int (i.toInt32)), .val (.int (xi.toInt32)), .val (.int sk), .val (.int ((2 * i + 2).toInt32))] [(.int ((2 * i + 2).toInt32)), (.ref ti), (.ref o0)])) _
              refine X44.iaload hx (j := ((2 * i + 2).toInt32)) (v := (.int ((it (2 * i + 2)).toInt32))) (by rw [e44]; exact Ar45.1) (State.isArrayOf_alike hZ.alike Ar45.2.1) Ar45.2.2 (own_in Sz45 hi46) hl46 (g := (mkF m 76 #[.val (.ref o0), .val (.int (i.toInt32)), .val (.int (xi.toInt32)), .val (.int sk), .val (.int ((2 * i + 2).toInt32))] [(.int ((2 * i + 2).toInt32)), (.ref ti), (.ref o0)])) rfl rfl (hb hby d10_76) _ ?_
              show Steps p.tables e below (T44.setTop (mkF m 77 #[.val (.ref o0), .val (.int (i.toInt32)), .val (.int (xi.toInt32)), .val (.int sk), .val (.int ((2 * i + 2).toInt32))] [(.int ((it (2 * i + 2)).toInt32)), (.ref o0)])) _
              refine XS.iloadN X44.here hx rfl (hb hby d10_77) rfl ?_
              show Steps p.tables e below (T44.setTop (mkF m 78 #[.val (.ref o0), .val (.int (i.toInt32)), .val (.int (xi.toInt32)), .val (.int sk), .val (.int ((2 * i + 2).toInt32))] [(.int (xi.toInt32)), (.int ((it (2 * i + 2)).toInt32)), (.ref o0)])) _
              refine st47.trans ?_
              show Steps p.tables e below (T47.setTop (mkF m 81 #[.val (.ref o0), .val (.int (i.toInt32)), .val (.int (xi.toInt32)), .val (.int sk), .val (.int ((2 * i + 2).toInt32))] [(.int (own_bfr (ky (it (2 * i + 2))) (ky xi) ((it (2 * i + 2)).toInt32) (xi.toInt32)))])) _
              refine XS.istoreN X47.here hx rfl (hb hby d10_81) rfl (l' := #[.val (.ref o0), .val (.int (i.toInt32)), .val (.int (xi.toInt32)), .val (.int (own_bfr (ky (it (2 * i + 2))) (ky xi) ((it (2 * i + 2)).toInt32) (xi.toInt32))), .val (.int ((2 * i + 2).toInt32))]) rfl ?_
              show Steps p.tables e below (T47.setTop (mkF m 82 #[.val (.ref o0), .val (.int (i.toInt32)), .val (.int (xi.toInt32)), .val (.int (own_bfr (ky (it (2 * i + 2))) (ky xi) ((it (2 * i + 2)).toInt32) (xi.toInt32))), .val (.int ((2 * i + 2).toInt32))] [])) _
              refine XS.iloadN X47.here hx rfl (hb hby d10_82) rfl ?_
              show Steps p.tables e below (T47.setTop (mkF m 83 #[.val (.ref o0), .val (.int (i.toInt32)), .val (.int (xi.toInt32)), .val (.int (own_bfr (ky (it (2 * i + 2))) (ky xi) ((it (2 * i + 2)).toInt32) (xi.toInt32))), .val (.int ((2 * i + 2).toInt32))] [(.int (own_bfr (ky (it (2 * i + 2))) (ky xi) ((it (2 * i + 2)).toInt32) (xi.toInt32)))])) _
              exact k)
            by_cases hs49 : (own_bfr (ky (it (2 * i + 2))) (ky xi) ((it (2 * i + 2)).toInt32) (xi.toInt32)) = (0 : Int32)
            · have pre50 : ∀ t, Steps p.tables e below (T47.setTop (mkF m 104 #[.val (.ref o0), .val (.int (i.toInt32)), .val (.int (xi.toInt32)), .val (.int (own_bfr (ky (it (2 * i + 2))) (ky xi) ((it (2 * i + 2)).toInt32) (xi.toInt32))), .val (.int ((2 * i + 2).toInt32))] [])) t → Steps p.tables e below (T0.setTop (mkF m 9 #[.val (.ref o0), .val (.int (i.toInt32)), .val (.int (xi.toInt32)), .val (.int sk), s4] [])) t := fun t k => pre48 t (by
                refine XS.ifYes X47.here hx rfl (pc0 := 83) (pc' := 101) rfl (hb hby d10_83) rfl ((if0 _ _).trans (teq hs49).1) (by decide) (by decide) ?_
                show Steps p.tables e below (T47.setTop (mkF m 101 #[.val (.ref o0), .val (.int (i.toInt32)), .val (.int (xi.toInt32)), .val (.int (own_bfr (ky (it (2 * i + 2))) (ky xi) ((it (2 * i + 2)).toInt32) (xi.toInt32))), .val (.int ((2 * i + 2).toInt32))] [])) _
                refine XS.goto X47.here hx rfl (pc0 := 101) (pc' := 9) rfl (hb hby d10_101) (by decide) (by decide) ?_
                show Steps p.tables e below (T47.setTop (mkF m 9 #[.val (.ref o0), .val (.int (i.toInt32)), .val (.int (xi.toInt32)), .val (.int (own_bfr (ky (it (2 * i + 2))) (ky xi) ((it (2 * i + 2)).toInt32) (xi.toInt32))), .val (.int ((2 * i + 2).toInt32))] [])) _
                refine XS.iloadN X47.here hx rfl (hb hby d10_9) rfl ?_
                show Steps p.tables e below (T47.setTop (mkF m 10 #[.val (.ref o0), .val (.int (i.toInt32)), .val (.int (xi.toInt32)), .val (.int (own_bfr (ky (it (2 * i + 2))) (ky xi) ((it (2 * i + 2)).toInt32) (xi.toInt32))), .val (.int ((2 * i + 2).toInt32))] [(.int (own_bfr (ky (it (2 * i + 2))) (ky xi) ((it (2 * i + 2)).toInt32) (xi.toInt32)))])) _
                refine XS.ifYes X47.here hx rfl (pc0 := 10) (pc' := 104) rfl (hb hby d10_10) rfl ((if0 _ _).trans (teq hs49).1) (by decide) (by decide) ?_
                show Steps p.tables e below (T47.setTop (mkF m 104 #[.val (.ref o0), .val (.int (i.toInt32)), .val (.int (xi.toInt32)), .val (.int (own_bfr (ky (it (2 * i + 2))) (ky xi) ((it (2 * i + 2)).toInt32) (xi.toInt32))), .val (.int ((2 * i + 2).toInt32))] [])) _
                exact k)
              exact ⟨_, _, _, i, it, pl, (own_bfr (ky (it (2 * i + 2))) (ky xi) ((it (2 * i + 2)).toInt32) (xi.toInt32)), _, X47, hh47, N47, (Keep.refl h0 [ti, tp]), A_ti, A_tp, hH, pre50⟩
            · obtain ⟨T51, X51, e51, st51⟩ := getF X47 hx hZ hown (host := "") (Or.inl (hw _ (List.mem_of_getElem? (i := 10) rfl))) Via.refl hh47 F_items_o0 (g := (mkF m 89 #[.val (.ref o0), .val (.int (i.toInt32)), .val (.int (xi.toInt32)), .val (.int (own_bfr (ky (it (2 * i + 2))) (ky xi) ((it (2 * i + 2)).toInt32) (xi.toInt32))), .val (.int ((2 * i + 2).toInt32))] [(.ref o0), (.int (i.toInt32)), (.ref o0)])) rfl rfl (hb hby d10_89)
              have qa52 := A_ti
              obtain ⟨c52, Ar52, Sz52, H52⟩ := qa52
              have hi53 : 0 ≤ (((2 * i + 2).toInt32) : Int32).toInt ∧ (((2 * i + 2).toInt32) : Int32).toInt < (3 : Nat) := (own_bd (show (2 * i + 2) < 3 by omega) (by decide))
              have hl53 : c52.slots[(((2 * i + 2).toInt32) : Int32).toNatClampNeg]? = some (.int ((it (2 * i + 2)).toInt32)) := by rw [show ((it (2 * i + 2)).toInt32) = (((it (((2 * i + 2).toInt32) : Int32).toNatClampNeg).toInt32)) from by rw [own_tn (show (2 * i + 2) < 2147483648 by omega)]]; exact H52 _ (own_ix hi53)
              obtain ⟨cq54, q54, q54'⟩ := (E_o0).cell
              obtain ⟨_, _, ⟨T54, L54, k54, n54⟩, -, X54, ⟨Lc54, hQ54, l54, y54, z54⟩, st54⟩ := X51.privateBack hx (y := (⟨"com/example/lean_layers/leanlayers/phase/layering/IndexedHeap", "setAt", "(II)V"⟩ : MethodName)) hown (mvT hZ (hw _ (List.mem_of_getElem? (i := 47) rfl))) (mvT hZ (hw _ (List.mem_of_getElem? (i := 48) rfl))) (own_selp (y := (⟨"com/example/lean_layers/leanlayers/phase/layering/IndexedHeap", "setAt", "(II)V"⟩ : MethodName)) (mvT hZ (hw _ (List.mem_of_getElem? (i := 1) rfl))) (Cond.privateMethod_at (mvP hZ (hw _ (List.mem_of_getElem? (i := 49) rfl)) (args := #[]))) (mvT hZ (hw _ (List.mem_of_getElem? (i := 48) rfl))) (by decide)) (Cond.privateMethod_at (mvP hZ (hw _ (List.mem_of_getElem? (i := 49) rfl)) (args := #[]))) (mvT hZ (hw _ (List.mem_of_getElem? (i := 50) rfl))) (by decide) (backOf (W := 0) (rm9 l Z a0 hw [] o0 (i.toInt32) ((it (2 * i + 2)).toInt32) ti tp it pl i (it (2 * i + 2)) h0 n0 Z0 F_items_o0 F_place_o0 E_o0 A_ti A_tp g_ti g_tp ne_o0_ti ne_o0_tp ne_ti_tp rfl rfl (by omega) hac) hZ (hw _ (List.mem_of_getElem? (i := 50) rfl)) (hw _ (List.mem_of_getElem? (i := 2) rfl)) (by decide) (by decide)) (g := (mkF m 95 #[.val (.ref o0), .val (.int (i.toInt32)), .val (.int (xi.toInt32)), .val (.int (own_bfr (ky (it (2 * i + 2))) (ky xi) ((it (2 * i + 2)).toInt32) (xi.toInt32))), .val (.int ((2 * i + 2).toInt32))] [(.int ((it (2 * i + 2)).toInt32)), (.int (i.toInt32)), (.ref o0)])) rfl (by rw [hml]; rfl) (Steps.refl _) (a := o0) (by rw [e51]; exact q54) q54' (argsL := [(.int (i.toInt32)), (.int ((it (2 * i + 2)).toInt32))]) (rest := []) (lenOf pd_2 rfl) rfl (by show 2 * 0 + _ ≤ _; exact Nat.le_of_eq rfl) (hb hby d10_95) (fun _ _ => ⟨rfl, e51, (by decide : 0 + 0 ≤ _), (by decide : 0 + 0 ≤ _)⟩)
              dsimp only [Pt.U, Pt.locs, Pt.cells, Pt.slots] at X54 l54 y54 z54 st54 hQ54
              subst y54 z54
              obtain ⟨rfl, N54q, Kc54, P54_0, P54_1⟩ := hQ54
              have N54 := Fr.app N47 N54q
              rw [← l54] at N54
              have F_items_o0_55 : Fld Z T54.heap o0 "com/example/lean_layers/leanlayers/phase/layering/IndexedHeap" "items" "[I" (.ref ti) := (F_items_o0).keep Kc54 (ninS ne_o0_ti (ninS ne_o0_tp nin0))
              have F_keys_o0_55 : Fld Z T54.heap o0 "com/example/lean_layers/leanlayers/phase/layering/IndexedHeap" "keys" "[J" (.ref tk) := (F_keys_o0).keep Kc54 (ninS ne_o0_ti (ninS ne_o0_tp nin0))
              have F_place_o0_55 : Fld Z T54.heap o0 "com/example/lean_layers/leanlayers/phase/layering/IndexedHeap" "place" "[I" (.ref tp) := (F_place_o0).keep Kc54 (ninS ne_o0_ti (ninS ne_o0_tp nin0))
              have E_o0_55 : Exa Z T54.heap o0 "com/example/lean_layers/leanlayers/phase/layering/IndexedHeap" := (E_o0).keep Kc54
              have F_size_o0_55 : Fld Z T54.heap o0 "com/example/lean_layers/leanlayers/phase/layering/IndexedHeap" "size" "I" (.int (n.toInt32)) := (F_size_o0).keep Kc54 (ninS ne_o0_ti (ninS ne_o0_tp nin0))
              have A_tk_55 : own_A Z T54.heap tk .long 3 (fun kk => (.long (ky kk))) := (A_tk).keep Kc54 (ninS (Ne.symm ne_ti_tk) (ninS ne_tk_tp nin0))
              have SZ56 : h0.size ≤ T54.heap.size := Nat.le_trans (Nat.le_refl _) Kc54.1
              have ZZ56 : n0 ≤ T54.heap.size := Nat.le_trans Z0 SZ56
              have K57 : Keep h0 T54.heap [ti, tp] := ((Keep.refl h0 [ti, tp])).trans Kc54 (allS (Or.inl (List.mem_of_getElem? (i := 0) rfl)) (allS (Or.inl (List.mem_of_getElem? (i := 1) rfl)) all0))
              have pre58 : ∀ t, Steps p.tables e below (T54.setTop (mkF m 9 #[.val (.ref o0), .val (.int ((2 * i + 2).toInt32)), .val (.int (xi.toInt32)), .val (.int (own_bfr (ky (it (2 * i + 2))) (ky xi) ((it (2 * i + 2)).toInt32) (xi.toInt32))), .val (.int ((2 * i + 2).toInt32))] [])) t → Steps p.tables e below (T0.setTop (mkF m 9 #[.val (.ref o0), .val (.int (i.toInt32)), .val (.int (xi.toInt32)), .val (.int sk), s4] [])) t := fun t k => pre48 t (by
                refine XS.ifNo X47.here hx rfl (hb hby d10_83) rfl ((if0 _ _).trans (feq hs49).1) ?_
                show Steps p.tables e below (T47.setTop (mkF m 86 #[.val (.ref o0), .val (.int (i.toInt32)), .val (.int (xi.toInt32)), .val (.int (own_bfr (ky (it (2 * i + 2))) (ky xi) ((it (2 * i + 2)).toInt32) (xi.toInt32))), .val (.int ((2 * i + 2).toInt32))] [])) _
                refine XS.aloadN X47.here hx rfl (hb hby d10_86) rfl rfl ?_
                show Steps p.tables e below (T47.setTop (mkF m 87 #[.val (.ref o0), .val (.int (i.toInt32)), .val (.int (xi.toInt32)), .val (.int (own_bfr (ky (it (2 * i + 2))) (ky xi) ((it (2 * i + 2)).toInt32) (xi.toInt32))), .val (.int ((2 * i + 2).toInt32))] [(.ref o0)])) _
                refine XS.iloadN X47.here hx rfl (hb hby d10_87) rfl ?_
                show Steps p.tables e below (T47.setTop (mkF m 88 #[.val (.ref o0), .val (.int (i.toInt32)), .val (.int (xi.toInt32)), .val (.int (own_bfr (ky (it (2 * i + 2))) (ky xi) ((it (2 * i + 2)).toInt32) (xi.toInt32))), .val (.int ((2 * i + 2).toInt32))] [(.int (i.toInt32)), (.ref o0)])) _
                refine XS.aloadN X47.here hx rfl (hb hby d10_88) rfl rfl ?_
                show Steps p.tables e below (T47.setTop (mkF m 89 #[.val (.ref o0), .val (.int (i.toInt32)), .val (.int (xi.toInt32)), .val (.int (own_bfr (ky (it (2 * i + 2))) (ky xi) ((it (2 * i + 2)).toInt32) (xi.toInt32))), .val (.int ((2 * i + 2).toInt32))] [(.ref o0), (.int (i.toInt32)), (.ref o0)])) _
                refine st51 _ ?_
                show Steps p.tables e below (T51.setTop (mkF m 92 #[.val (.ref o0), .val (.int (i.toInt32)), .val (.int (xi.toInt32)), .val (.int (own_bfr (ky (it (2 * i + 2))) (ky xi) ((it (2 * i + 2)).toInt32) (xi.toInt32))), .val (.int ((2 * i + 2).toInt32))] [(.ref ti), (.int (i.toInt32)), (.ref o0)])) _
                refine XS.iload X51.here hx rfl (hb hby d10_92) rfl ?_
                show Steps p.tables e below (T51.setTop (mkF m 94 #[.val (.ref o0), .val (.int (i.toInt32)), .val (.int (xi.toInt32)), .val (.int (own_bfr (ky (it (2 * i + 2))) (ky xi) ((it (2 * i + 2)).toInt32) (xi.toInt32))), .val (.int ((2 * i + 2).toInt32))] [(.int ((2 * i + 2).toInt32)), (.ref ti), (.int (i.toInt32)), (.ref o0)])) _
                refine X51.iaload hx (j := ((2 * i + 2).toInt32)) (v := (.int ((it (2 * i + 2)).toInt32))) (by rw [e51]; exact Ar52.1) (State.isArrayOf_alike hZ.alike Ar52.2.1) Ar52.2.2 (own_in Sz52 hi53) hl53 (g := (mkF m 94 #[.val (.ref o0), .val (.int (i.toInt32)), .val (.int (xi.toInt32)), .val (.int (own_bfr (ky (it (2 * i + 2))) (ky xi) ((it (2 * i + 2)).toInt32) (xi.toInt32))), .val (.int ((2 * i + 2).toInt32))] [(.int ((2 * i + 2).toInt32)), (.ref ti), (.int (i.toInt32)), (.ref o0)])) rfl rfl (hb hby d10_94) _ ?_
                show Steps p.tables e below (T51.setTop (mkF m 95 #[.val (.ref o0), .val (.int (i.toInt32)), .val (.int (xi.toInt32)), .val (.int (own_bfr (ky (it (2 * i + 2))) (ky xi) ((it (2 * i + 2)).toInt32) (xi.toInt32))), .val (.int ((2 * i + 2).toInt32))] [(.int ((it (2 * i + 2)).toInt32)), (.int (i.toInt32)), (.ref o0)])) _
                refine st54.trans ?_
                show Steps p.tables e below (T54.setTop (mkF m 98 #[.val (.ref o0), .val (.int (i.toInt32)), .val (.int (xi.toInt32)), .val (.int (own_bfr (ky (it (2 * i + 2))) (ky xi) ((it (2 * i + 2)).toInt32) (xi.toInt32))), .val (.int ((2 * i + 2).toInt32))] [])) _
                refine XS.iload X54.here hx rfl (hb hby d10_98) rfl ?_
                show Steps p.tables e below (T54.setTop (mkF m 100 #[.val (.ref o0), .val (.int (i.toInt32)), .val (.int (xi.toInt32)), .val (.int (own_bfr (ky (it (2 * i + 2))) (ky xi) ((it (2 * i + 2)).toInt32) (xi.toInt32))), .val (.int ((2 * i + 2).toInt32))] [(.int ((2 * i + 2).toInt32))])) _
                refine XS.istoreN X54.here hx rfl (hb hby d10_100) rfl (l' := #[.val (.ref o0), .val (.int ((2 * i + 2).toInt32)), .val (.int (xi.toInt32)), .val (.int (own_bfr (ky (it (2 * i + 2))) (ky xi) ((it (2 * i + 2)).toInt32) (xi.toInt32))), .val (.int ((2 * i + 2).toInt32))]) rfl ?_
                show Steps p.tables e below (T54.setTop (mkF m 101 #[.val (.ref o0), .val (.int ((2 * i + 2).toInt32)), .val (.int (xi.toInt32)), .val (.int (own_bfr (ky (it (2 * i + 2))) (ky xi) ((it (2 * i + 2)).toInt32) (xi.toInt32))), .val (.int ((2 * i + 2).toInt32))] [])) _
                refine XS.goto X54.here hx rfl (pc0 := 101) (pc' := 9) rfl (hb hby d10_101) (by decide) (by decide) ?_
                show Steps p.tables e below (T54.setTop (mkF m 9 #[.val (.ref o0), .val (.int ((2 * i + 2).toInt32)), .val (.int (xi.toInt32)), .val (.int (own_bfr (ky (it (2 * i + 2))) (ky xi) ((it (2 * i + 2)).toInt32) (xi.toInt32))), .val (.int ((2 * i + 2).toInt32))] [])) _
                exact k)
              obtain ⟨T1, h1, locs1, i1, f1, g1, k1, s1, Y1, Y2, Y3, Y4, Y5, Y6, Y7, Y8⟩ := ih (n - (2 * i + 2)) (by omega) (2 * i + 2) (own_u it i (it (2 * i + 2))) (own_u pl (it (2 * i + 2)) (i + 1)) (own_bfr (ky (it (2 * i + 2))) (ky xi) ((it (2 * i + 2)).toInt32) (xi.toInt32)) (.val (.int ((2 * i + 2).toInt32))) _ _ _ rfl (One.val rfl) (own_HO_mv hH (a := (2 * i + 2)) (by omega) (by omega)) X54 rfl N54 ZZ56 F_items_o0_55 F_keys_o0_55 F_place_o0_55 E_o0_55 F_size_o0_55 P54_0 A_tk_55 P54_1
              exact ⟨T1, h1, locs1, i1, f1, g1, k1, s1, Y1, Y2, Y3, K57.trans Y4 (fun x hx => Or.inl hx), Y5, Y6, Y7, fun t k => pre58 t (Y8 t k)⟩
        · have hcn : (2 * i + 1) < n := by omega
          have hac : it (2 * i + 1) < 3 := own_HO_it hH hcn (by omega)
          obtain ⟨T59, X59, e59, st59⟩ := getF X13 hx hZ hown (host := "") (Or.inl (hw _ (List.mem_of_getElem? (i := 10) rfl))) Via.refl e13 F_items_o0 (g := (mkF m 71 #[.val (.ref o0), .val (.int (i.toInt32)), .val (.int (xi.toInt32)), .val (.int sk), .val (.int ((2 * i + 1).toInt32))] [(.ref o0), (.ref o0)])) rfl rfl (hb hby d10_71)
          have qa60 := A_ti
          obtain ⟨c60, Ar60, Sz60, H60⟩ := qa60
          have hi61 : 0 ≤ (((2 * i + 1).toInt32) : Int32).toInt ∧ (((2 * i + 1).toInt32) : Int32).toInt < (3 : Nat) := (own_bd (show (2 * i + 1) < 3 by omega) (by decide))
          have hl61 : c60.slots[(((2 * i + 1).toInt32) : Int32).toNatClampNeg]? = some (.int ((it (2 * i + 1)).toInt32)) := by rw [show ((it (2 * i + 1)).toInt32) = (((it (((2 * i + 1).toInt32) : Int32).toNatClampNeg).toInt32)) from by rw [own_tn (show (2 * i + 1) < 2147483648 by omega)]]; exact H60 _ (own_ix hi61)
          obtain ⟨cq62, q62, q62'⟩ := (E_o0).cell
          obtain ⟨_, _, ⟨T62, L62, k62, n62⟩, -, X62, ⟨Lc62, hQ62, l62, y62, z62⟩, st62⟩ := X59.privateBack hx (y := (⟨"com/example/lean_layers/leanlayers/phase/layering/IndexedHeap", "before", "(II)Z"⟩ : MethodName)) hown (mvT hZ (hw _ (List.mem_of_getElem? (i := 55) rfl))) (mvT hZ (hw _ (List.mem_of_getElem? (i := 56) rfl))) (own_selp (y := (⟨"com/example/lean_layers/leanlayers/phase/layering/IndexedHeap", "before", "(II)Z"⟩ : MethodName)) (mvT hZ (hw _ (List.mem_of_getElem? (i := 1) rfl))) (Cond.privateMethod_at (mvP hZ (hw _ (List.mem_of_getElem? (i := 57) rfl)) (args := #[]))) (mvT hZ (hw _ (List.mem_of_getElem? (i := 56) rfl))) (by decide)) (Cond.privateMethod_at (mvP hZ (hw _ (List.mem_of_getElem? (i := 57) rfl)) (args := #[]))) (mvT hZ (hw _ (List.mem_of_getElem? (i := 58) rfl))) (by decide) (backOf (W := 0) (rm11 l Z a0 hw [] o0 ((it (2 * i + 1)).toInt32) (xi.toInt32) tk ky (it (2 * i + 1)) xi h0 n0 Z0 F_keys_o0 A_tk rfl rfl hac hxc) hZ (hw _ (List.mem_of_getElem? (i := 58) rfl)) (hw _ (List.mem_of_getElem? (i := 2) rfl)) (by decide) (by decide)) (g := (mkF m 78 #[.val (.ref o0), .val (.int (i.toInt32)), .val (.int (xi.toInt32)), .val (.int sk), .val (.int ((2 * i + 1).toInt32))] [(.int (xi.toInt32)), (.int ((it (2 * i + 1)).toInt32)), (.ref o0)])) rfl (by rw [hml]; rfl) (Steps.refl _) (a := o0) (by rw [e59]; exact q62) q62' (argsL := [(.int ((it (2 * i + 1)).toInt32)), (.int (xi.toInt32))]) (rest := []) (lenOf pd_1 rfl) rfl (by show 2 * 0 + _ ≤ _; exact Nat.le_of_eq rfl) (hb hby d10_78) (fun _ _ => ⟨rfl, e59, (by decide : 0 + 0 ≤ _), (by decide : 0 + 0 ≤ _)⟩)
          dsimp only [Pt.U, Pt.locs, Pt.cells, Pt.slots] at X62 l62 y62 z62 st62 hQ62
          subst y62 z62
          obtain ⟨rfl, N62q, hh62⟩ := hQ62
          have N62 := Fr.app N0 N62q
          rw [← l62] at N62
          have pre63 : ∀ t, Steps p.tables e below (T62.setTop (mkF m 83 #[.val (.ref o0), .val (.int (i.toInt32)), .val (.int (xi.toInt32)), .val (.int (own_bfr (ky (it (2 * i + 1))) (ky xi) ((it (2 * i + 1)).toInt32) (xi.toInt32))), .val (.int ((2 * i + 1).toInt32))] [(.int (own_bfr (ky (it (2 * i + 1))) (ky xi) ((it (2 * i + 1)).toInt32) (xi.toInt32)))])) t → Steps p.tables e below (T0.setTop (mkF m 9 #[.val (.ref o0), .val (.int (i.toInt32)), .val (.int (xi.toInt32)), .val (.int sk), s4] [])) t := fun t k => pre14 t (by
            refine XS.icmpYes X13.here hx rfl (pc0 := 40) (pc' := 69) rfl (hb hby d10_40) rfl (flt hs15).2.1 (by decide) (by decide) ?_
            show Steps p.tables e below (T13.setTop (mkF m 69 #[.val (.ref o0), .val (.int (i.toInt32)), .val (.int (xi.toInt32)), .val (.int sk), .val (.int ((2 * i + 1).toInt32))] [])) _
            refine XS.aloadN X13.here hx rfl (hb hby d10_69) rfl rfl ?_
            show Steps p.tables e below (T13.setTop (mkF m 70 #[.val (.ref o0), .val (.int (i.toInt32)), .val (.int (xi.toInt32)), .val (.int sk), .val (.int ((2 * i + 1).toInt32))] [(.ref o0)])) _
            refine XS.aloadN X13.here hx rfl (hb hby d10_70) rfl rfl ?_
            show Steps p.tables e below (T13.setTop (mkF m 71 #[.val (.ref o0), .val (.int (i.toInt32)), .val (.int (xi.toInt32)), .val (.int sk), .val (.int ((2 * i + 1).toInt32))] [(.ref o0), (.ref o0)])) _
            refine st59 _ ?_
            show Steps p.tables e below (T59.setTop (mkF m 74 #[.val (.ref o0), .val (.int (i.toInt32)), .val (.int (xi.toInt32)), .val (.int sk), .val (.int ((2 * i + 1).toInt32))] [(.ref ti), (.ref o0)])) _
            refine XS.iload X59.here hx rfl (hb hby d10_74) rfl ?_
            show Steps p.tables e below (T59.setTop (mkF m 76 #[.val (.ref o0), .val (.int (i.toInt32)), .val (.int (xi.toInt32)), .val (.int sk), .val (.int ((2 * i + 1).toInt32))] [(.int ((2 * i + 1).toInt32)), (.ref ti), (.ref o0)])) _
            refine X59.iaload hx (j := ((2 * i + 1).toInt32)) (v := (.int ((it (2 * i + 1)).toInt32))) (by rw [e59]; exact Ar60.1) (State.isArrayOf_alike hZ.alike Ar60.2.1) Ar60.2.2 (own_in Sz60 hi61) hl61 (g := (mkF m 76 #[.val (.ref o0), .val (.int (i.toInt32)), .val (.int (xi.toInt32)), .val (.int sk), .val (.int ((2 * i + 1).toInt32))] [(.int ((2 * i + 1).toInt32)), (.ref ti), (.ref o0)])) rfl rfl (hb hby d10_76) _ ?_
            show Steps p.tables e below (T59.setTop (mkF m 77 #[.val (.ref o0), .val (.int (i.toInt32)), .val (.int (xi.toInt32)), .val (.int sk), .val (.int ((2 * i + 1).toInt32))] [(.int ((it (2 * i + 1)).toInt32)), (.ref o0)])) _
            refine XS.iloadN X59.here hx rfl (hb hby d10_77) rfl ?_
            show Steps p.tables e below (T59.setTop (mkF m 78 #[.val (.ref o0), .val (.int (i.toInt32)), .val (.int (xi.toInt32)), .val (.int sk), .val (.int ((2 * i + 1).toInt32))] [(.int (xi.toInt32)), (.int ((it (2 * i + 1)).toInt32)), (.ref o0)])) _
            refine st62.trans ?_
            show Steps p.tables e below (T62.setTop (mkF m 81 #[.val (.ref o0), .val (.int (i.toInt32)), .val (.int (xi.toInt32)), .val (.int sk), .val (.int ((2 * i + 1).toInt32))] [(.int (own_bfr (ky (it (2 * i + 1))) (ky xi) ((it (2 * i + 1)).toInt32) (xi.toInt32)))])) _
            refine XS.istoreN X62.here hx rfl (hb hby d10_81) rfl (l' := #[.val (.ref o0), .val (.int (i.toInt32)), .val (.int (xi.toInt32)), .val (.int (own_bfr (ky (it (2 * i + 1))) (ky xi) ((it (2 * i + 1)).toInt32) (xi.toInt32))), .val (.int ((2 * i + 1).toInt32))]) rfl ?_
            show Steps p.tables e below (T62.setTop (mkF m 82 #[.val (.ref o0), .val (.int (i.toInt32)), .val (.int (xi.toInt32)), .val (.int (own_bfr (ky (it (2 * i + 1))) (ky xi) ((it (2 * i + 1)).toInt32) (xi.toInt32))), .val (.int ((2 * i + 1).toInt32))] [])) _
            refine XS.iloadN X62.here hx rfl (hb hby d10_82) rfl ?_
            show Steps p.tables e below (T62.setTop (mkF m 83 #[.val (.ref o0), .val (.int (i.toInt32)), .val (.int (xi.toInt32)), .val (.int (own_bfr (ky (it (2 * i + 1))) (ky xi) ((it (2 * i + 1)).toInt32) (xi.toInt32))), .val (.int ((2 * i + 1).toInt32))] [(.int (own_bfr (ky (it (2 * i + 1))) (ky xi) ((it (2 * i + 1)).toInt32) (xi.toInt32)))])) _
            exact k)
          by_cases hs64 : (own_bfr (ky (it (2 * i + 1))) (ky xi) ((it (2 * i + 1)).toInt32) (xi.toInt32)) = (0 : Int32)
          · have pre65 : ∀ t, Steps p.tables e below (T62.setTop (mkF m 104 #[.val (.ref o0), .val (.int (i.toInt32)), .val (.int (xi.toInt32)), .val (.int (own_bfr (ky (it (2 * i + 1))) (ky xi) ((it (2 * i + 1)).toInt32) (xi.toInt32))), .val (.int ((2 * i + 1).toInt32))] [])) t → Steps p.tables e below (T0.setTop (mkF m 9 #[.val (.ref o0), .val (.int (i.toInt32)), .val (.int (xi.toInt32)), .val (.int sk), s4] [])) t := fun t k => pre63 t (by
              refine XS.ifYes X62.here hx rfl (pc0 := 83) (pc' := 101) rfl (hb hby d10_83) rfl ((if0 _ _).trans (teq hs64).1) (by decide) (by decide) ?_
              show Steps p.tables e below (T62.setTop (mkF m 101 #[.val (.ref o0), .val (.int (i.toInt32)), .val (.int (xi.toInt32)), .val (.int (own_bfr (ky (it (2 * i + 1))) (ky xi) ((it (2 * i + 1)).toInt32) (xi.toInt32))), .val (.int ((2 * i + 1).toInt32))] [])) _
              refine XS.goto X62.here hx rfl (pc0 := 101) (pc' := 9) rfl (hb hby d10_101) (by decide) (by decide) ?_
              show Steps p.tables e below (T62.setTop (mkF m 9 #[.val (.ref o0), .val (.int (i.toInt32)), .val (.int (xi.toInt32)), .val (.int (own_bfr (ky (it (2 * i + 1))) (ky xi) ((it (2 * i + 1)).toInt32) (xi.toInt32))), .val (.int ((2 * i + 1).toInt32))] [])) _
              refine XS.iloadN X62.here hx rfl (hb hby d10_9) rfl ?_
              show Steps p.tables e below (T62.setTop (mkF m 10 #[.val (.ref o0), .val (.int (i.toInt32)), .val (.int (xi.toInt32)), .val (.int (own_bfr (ky (it (2 * i + 1))) (ky xi) ((it (2 * i + 1)).toInt32) (xi.toInt32))), .val (.int ((2 * i + 1).toInt32))] [(.int (own_bfr (ky (it (2 * i + 1))) (ky xi) ((it (2 * i + 1)).toInt32) (xi.toInt32)))])) _
              refine XS.ifYes X62.here hx rfl (pc0 := 10) (pc' := 104) rfl (hb hby d10_10) rfl ((if0 _ _).trans (teq hs64).1) (by decide) (by decide) ?_
              show Steps p.tables e below (T62.setTop (mkF m 104 #[.val (.ref o0), .val (.int (i.toInt32)), .val (.int (xi.toInt32)), .val (.int (own_bfr (ky (it (2 * i + 1))) (ky xi) ((it (2 * i + 1)).toInt32) (xi.toInt32))), .val (.int ((2 * i + 1).toInt32))] [])) _
              exact k)
            exact ⟨_, _, _, i, it, pl, (own_bfr (ky (it (2 * i + 1))) (ky xi) ((it (2 * i + 1)).toInt32) (xi.toInt32)), _, X62, hh62, N62, (Keep.refl h0 [ti, tp]), A_ti, A_tp, hH, pre65⟩
          · obtain ⟨T66, X66, e66, st66⟩ := getF X62 hx hZ hown (host := "") (Or.inl (hw _ (List.mem_of_getElem? (i := 10) rfl))) Via.refl hh62 F_items_o0 (g := (mkF m 89 #[.val (.ref o0), .val (.int (i.toInt32)), .val (.int (xi.toInt32)), .val (.int (own_bfr (ky (it (2 * i + 1))) (ky xi) ((it (2 * i + 1)).toInt32) (xi.toInt32))), .val (.int ((2 * i + 1).toInt32))] [(.ref o0), (.int (i.toInt32)), (.ref o0)])) rfl rfl (hb hby d10_89)
            have qa67 := A_ti
            obtain ⟨c67, Ar67, Sz67, H67⟩ := qa67
            have hi68 : 0 ≤ (((2 * i + 1).toInt32) : Int32).toInt ∧ (((2 * i + 1).toInt32) : Int32).toInt < (3 : Nat) := (own_bd (show (2 * i + 1) < 3 by omega) (by decide))
            have hl68 : c67.slots[(((2 * i + 1).toInt32) : Int32).toNatClampNeg]? = some (.int ((it (2 * i + 1)).toInt32)) := by rw [show ((it (2 * i + 1)).toInt32) = (((it (((2 * i + 1).toInt32) : Int32).toNatClampNeg).toInt32)) from by rw [own_tn (show (2 * i + 1) < 2147483648 by omega)]]; exact H67 _ (own_ix hi68)
            obtain ⟨cq69, q69, q69'⟩ := (E_o0).cell
            obtain ⟨_, _, ⟨T69, L69, k69, n69⟩, -, X69, ⟨Lc69, hQ69, l69, y69, z69⟩, st69⟩ := X66.privateBack hx (y := (⟨"com/example/lean_layers/leanlayers/phase/layering/IndexedHeap", "setAt", "(II)V"⟩ : MethodName)) hown (mvT hZ (hw _ (List.mem_of_getElem? (i := 47) rfl))) (mvT hZ (hw _ (List.mem_of_getElem? (i := 48) rfl))) (own_selp (y := (⟨"com/example/lean_layers/leanlayers/phase/layering/IndexedHeap", "setAt", "(II)V"⟩ : MethodName)) (mvT hZ (hw _ (List.mem_of_getElem? (i := 1) rfl))) (Cond.privateMethod_at (mvP hZ (hw _ (List.mem_of_getElem? (i := 49) rfl)) (args := #[]))) (mvT hZ (hw _ (List.mem_of_getElem? (i := 48) rfl))) (by decide)) (Cond.privateMethod_at (mvP hZ (hw _ (List.mem_of_getElem? (i := 49) rfl)) (args := #[]))) (mvT hZ (hw _ (List.mem_of_getElem? (i := 50) rfl))) (by decide) (backOf (W := 0) (rm9 l Z a0 hw [] o0 (i.toInt32) ((it (2 * i + 1)).toInt32) ti tp it pl i (it (2 * i + 1)) h0 n0 Z0 F_items_o0 F_place_o0 E_o0 A_ti A_tp g_ti g_tp ne_o0_ti ne_o0_tp ne_ti_tp rfl rfl (by omega) hac) hZ (hw _ (List.mem_of_getElem? (i := 50) rfl)) (hw _ (List.mem_of_getElem? (i := 2) rfl)) (by decide) (by decide)) (g := (mkF m 95 #[.val (.ref o0), .val (.int (i.toInt32)), .val (.int (xi.toInt32)), .val (.int (own_bfr (ky (it (2 * i + 1))) (ky xi) ((it (2 * i + 1)).toInt32) (xi.toInt32))), .val (.int ((2 * i + 1).toInt32))] [(.int ((it (2 * i + 1)).toInt32)), (.int (i.toInt32)), (.ref o0)])) rfl (by rw [hml]; rfl) (Steps.refl _) (a := o0) (by rw [e66]; exact q69) q69' (argsL := [(.int (i.toInt32)), (.int ((it (2 * i + 1)).toInt32))]) (rest := []) (lenOf pd_2 rfl) rfl (by show 2 * 0 + _ ≤ _; exact Nat.le_of_eq rfl) (hb hby d10_95) (fun _ _ => ⟨rfl, e66, (by decide : 0 + 0 ≤ _), (by decide : 0 + 0 ≤ _)⟩)
            dsimp only [Pt.U, Pt.locs, Pt.cells, Pt.slots] at X69 l69 y69 z69 st69 hQ69
            subst y69 z69
            obtain ⟨rfl, N69q, Kc69, P69_0, P69_1⟩ := hQ69
            have N69 := Fr.app N62 N69q
            rw [← l69] at N69
            have F_items_o0_70 : Fld Z T69.heap o0 "com/example/lean_layers/leanlayers/phase/layering/IndexedHeap" "items" "[I" (.ref ti) := (F_items_o0).keep Kc69 (ninS ne_o0_ti (ninS ne_o0_tp nin0))
            have F_keys_o0_70 : Fld Z T69.heap o0 "com/example/lean_layers/leanlayers/phase/layering/IndexedHeap" "keys" "[J" (.ref tk) := (F_keys_o0).keep Kc69 (ninS ne_o0_ti (ninS ne_o0_tp nin0))
            have F_place_o0_70 : Fld Z T69.heap o0 "com/example/lean_layers/leanlayers/phase/layering/IndexedHeap" "place" "[I" (.ref tp) := (F_place_o0).keep Kc69 (ninS ne_o0_ti (ninS ne_o0_tp nin0))
            have E_o0_70 : Exa Z T69.heap o0 "com/example/lean_layers/leanlayers/phase/layering/IndexedHeap" := (E_o0).keep Kc69
            have F_size_o0_70 : Fld Z T69.heap o0 "com/example/lean_layers/leanlayers/phase/layering/IndexedHeap" "size" "I" (.int (n.toInt32)) := (F_size_o0).keep Kc69 (ninS ne_o0_ti (ninS ne_o0_tp nin0))
            have A_tk_70 : own_A Z T69.heap tk .long 3 (fun kk => (.long (ky kk))) := (A_tk).keep Kc69 (ninS (Ne.symm ne_ti_tk) (ninS ne_tk_tp nin0))
            have SZ71 : h0.size ≤ T69.heap.size := Nat.le_trans (Nat.le_refl _) Kc69.1
            have ZZ71 : n0 ≤ T69.heap.size := Nat.le_trans Z0 SZ71
            have K72 : Keep h0 T69.heap [ti, tp] := ((Keep.refl h0 [ti, tp])).trans Kc69 (allS (Or.inl (List.mem_of_getElem? (i := 0) rfl)) (allS (Or.inl (List.mem_of_getElem? (i := 1) rfl)) all0))
            have pre73 : ∀ t, Steps p.tables e below (T69.setTop (mkF m 9 #[.val (.ref o0), .val (.int ((2 * i + 1).toInt32)), .val (.int (xi.toInt32)), .val (.int (own_bfr (ky (it (2 * i + 1))) (ky xi) ((it (2 * i + 1)).toInt32) (xi.toInt32))), .val (.int ((2 * i + 1).toInt32))] [])) t → Steps p.tables e below (T0.setTop (mkF m 9 #[.val (.ref o0), .val (.int (i.toInt32)), .val (.int (xi.toInt32)), .val (.int sk), s4] [])) t := fun t k => pre63 t (by
              refine XS.ifNo X62.here hx rfl (hb hby d10_83) rfl ((if0 _ _).trans (feq hs64).1) ?_
              show Steps p.tables e below (T62.setTop (mkF m 86 #[.val (.ref o0), .val (.int (i.toInt32)), .val (.int (xi.toInt32)), .val (.int (own_bfr (ky (it (2 * i + 1))) (ky xi) ((it (2 * i + 1)).toInt32) (xi.toInt32))), .val (.int ((2 * i + 1).toInt32))] [])) _
              refine XS.aloadN X62.here hx rfl (hb hby d10_86) rfl rfl ?_
              show Steps p.tables e below (T62.setTop (mkF m 87 #[.val (.ref o0), .val (.int (i.toInt32)), .val (.int (xi.toInt32)), .val (.int (own_bfr (ky (it (2 * i + 1))) (ky xi) ((it (2 * i + 1)).toInt32) (xi.toInt32))), .val (.int ((2 * i + 1).toInt32))] [(.ref o0)])) _
              refine XS.iloadN X62.here hx rfl (hb hby d10_87) rfl ?_
              show Steps p.tables e below (T62.setTop (mkF m 88 #[.val (.ref o0), .val (.int (i.toInt32)), .val (.int (xi.toInt32)), .val (.int (own_bfr (ky (it (2 * i + 1))) (ky xi) ((it (2 * i + 1)).toInt32) (xi.toInt32))), .val (.int ((2 * i + 1).toInt32))] [(.int (i.toInt32)), (.ref o0)])) _
              refine XS.aloadN X62.here hx rfl (hb hby d10_88) rfl rfl ?_
              show Steps p.tables e below (T62.setTop (mkF m 89 #[.val (.ref o0), .val (.int (i.toInt32)), .val (.int (xi.toInt32)), .val (.int (own_bfr (ky (it (2 * i + 1))) (ky xi) ((it (2 * i + 1)).toInt32) (xi.toInt32))), .val (.int ((2 * i + 1).toInt32))] [(.ref o0), (.int (i.toInt32)), (.ref o0)])) _
              refine st66 _ ?_
              show Steps p.tables e below (T66.setTop (mkF m 92 #[.val (.ref o0), .val (.int (i.toInt32)), .val (.int (xi.toInt32)), .val (.int (own_bfr (ky (it (2 * i + 1))) (ky xi) ((it (2 * i + 1)).toInt32) (xi.toInt32))), .val (.int ((2 * i + 1).toInt32))] [(.ref ti), (.int (i.toInt32)), (.ref o0)])) _
              refine XS.iload X66.here hx rfl (hb hby d10_92) rfl ?_
              show Steps p.tables e below (T66.setTop (mkF m 94 #[.val (.ref o0), .val (.int (i.toInt32)), .val (.int (xi.toInt32)), .val (.int (own_bfr (ky (it (2 * i + 1))) (ky xi) ((it (2 * i + 1)).toInt32) (xi.toInt32))), .val (.int ((2 * i + 1).toInt32))] [(.int ((2 * i + 1).toInt32)), (.ref ti), (.int (i.toInt32)), (.ref o0)])) _
              refine X66.iaload hx (j := ((2 * i + 1).toInt32)) (v := (.int ((it (2 * i + 1)).toInt32))) (by rw [e66]; exact Ar67.1) (State.isArrayOf_alike hZ.alike Ar67.2.1) Ar67.2.2 (own_in Sz67 hi68) hl68 (g := (mkF m 94 #[.val (.ref o0), .val (.int (i.toInt32)), .val (.int (xi.toInt32)), .val (.int (own_bfr (ky (it (2 * i + 1))) (ky xi) ((it (2 * i + 1)).toInt32) (xi.toInt32))), .val (.int ((2 * i + 1).toInt32))] [(.int ((2 * i + 1).toInt32)), (.ref ti), (.int (i.toInt32)), (.ref o0)])) rfl rfl (hb hby d10_94) _ ?_
              show Steps p.tables e below (T66.setTop (mkF m 95 #[.val (.ref o0), .val (.int (i.toInt32)), .val (.int (xi.toInt32)), .val (.int (own_bfr (ky (it (2 * i + 1))) (ky xi) ((it (2 * i + 1)).toInt32) (xi.toInt32))), .val (.int ((2 * i + 1).toInt32))] [(.int ((it (2 * i + 1)).toInt32)), (.int (i.toInt32)), (.ref o0)])) _
              refine st69.trans ?_
              show Steps p.tables e below (T69.setTop (mkF m 98 #[.val (.ref o0), .val (.int (i.toInt32)), .val (.int (xi.toInt32)), .val (.int (own_bfr (ky (it (2 * i + 1))) (ky xi) ((it (2 * i + 1)).toInt32) (xi.toInt32))), .val (.int ((2 * i + 1).toInt32))] [])) _
              refine XS.iload X69.here hx rfl (hb hby d10_98) rfl ?_
              show Steps p.tables e below (T69.setTop (mkF m 100 #[.val (.ref o0), .val (.int (i.toInt32)), .val (.int (xi.toInt32)), .val (.int (own_bfr (ky (it (2 * i + 1))) (ky xi) ((it (2 * i + 1)).toInt32) (xi.toInt32))), .val (.int ((2 * i + 1).toInt32))] [(.int ((2 * i + 1).toInt32))])) _
              refine XS.istoreN X69.here hx rfl (hb hby d10_100) rfl (l' := #[.val (.ref o0), .val (.int ((2 * i + 1).toInt32)), .val (.int (xi.toInt32)), .val (.int (own_bfr (ky (it (2 * i + 1))) (ky xi) ((it (2 * i + 1)).toInt32) (xi.toInt32))), .val (.int ((2 * i + 1).toInt32))]) rfl ?_
              show Steps p.tables e below (T69.setTop (mkF m 101 #[.val (.ref o0), .val (.int ((2 * i + 1).toInt32)), .val (.int (xi.toInt32)), .val (.int (own_bfr (ky (it (2 * i + 1))) (ky xi) ((it (2 * i + 1)).toInt32) (xi.toInt32))), .val (.int ((2 * i + 1).toInt32))] [])) _
              refine XS.goto X69.here hx rfl (pc0 := 101) (pc' := 9) rfl (hb hby d10_101) (by decide) (by decide) ?_
              show Steps p.tables e below (T69.setTop (mkF m 9 #[.val (.ref o0), .val (.int ((2 * i + 1).toInt32)), .val (.int (xi.toInt32)), .val (.int (own_bfr (ky (it (2 * i + 1))) (ky xi) ((it (2 * i + 1)).toInt32) (xi.toInt32))), .val (.int ((2 * i + 1).toInt32))] [])) _
              exact k)
            obtain ⟨T1, h1, locs1, i1, f1, g1, k1, s1, Y1, Y2, Y3, Y4, Y5, Y6, Y7, Y8⟩ := ih (n - (2 * i + 1)) (by omega) (2 * i + 1) (own_u it i (it (2 * i + 1))) (own_u pl (it (2 * i + 1)) (i + 1)) (own_bfr (ky (it (2 * i + 1))) (ky xi) ((it (2 * i + 1)).toInt32) (xi.toInt32)) (.val (.int ((2 * i + 1).toInt32))) _ _ _ rfl (One.val rfl) (own_HO_mv hH (a := (2 * i + 1)) (by omega) (by omega)) X69 rfl N69 ZZ71 F_items_o0_70 F_keys_o0_70 F_place_o0_70 E_o0_70 F_size_o0_70 P69_0 A_tk_70 P69_1
            exact ⟨T1, h1, locs1, i1, f1, g1, k1, s1, Y1, Y2, Y3, K72.trans Y4 (fun x hx => Or.inl hx), Y5, Y6, Y7, fun t k => pre73 t (Y8 t k)⟩
      · have pre74 : ∀ t, Steps p.tables e below (T6.setTop (mkF m 104 #[.val (.ref o0), .val (.int (i.toInt32)), .val (.int (xi.toInt32)), .val (.int sk), s4] [])) t → Steps p.tables e below (T0.setTop (mkF m 9 #[.val (.ref o0), .val (.int (i.toInt32)), .val (.int (xi.toInt32)), .val (.int sk), s4] [])) t := fun t k => pre7 t (by
          refine XS.icmpYes X6.here hx rfl (pc0 := 22) (pc' := 104) rfl (hb hby d10_22) rfl (flt hs8).2.1 (by decide) (by decide) ?_
          show Steps p.tables e below (T6.setTop (mkF m 104 #[.val (.ref o0), .val (.int (i.toInt32)), .val (.int (xi.toInt32)), .val (.int sk), s4] [])) _
          exact k)
        exact ⟨_, _, _, i, it, pl, sk, _, X6, e6, N0, (Keep.refl h0 [ti, tp]), A_ti, A_tp, hH, pre74⟩
theorem d8_0 : decode prog_55_method_8_code 0 = .ok (.aload_n 0, 1) := by decide +kernel
theorem d8_1 : decode prog_55_method_8_code 1 = .ok (.getfield 7, 3) := by decide +kernel
theorem d8_4 : decode prog_55_method_8_code 4 = .ok (.iload_n 1, 1) := by decide +kernel
theorem d8_5 : decode prog_55_method_8_code 5 = .ok (.iaload, 1) := by decide +kernel
theorem d8_6 : decode prog_55_method_8_code 6 = .ok (.istore_n 2, 1) := by decide +kernel
theorem d8_51 : decode prog_55_method_8_code 51 = .ok (.aload_n 0, 1) := by decide +kernel
theorem d8_52 : decode prog_55_method_8_code 52 = .ok (.iload_n 1, 1) := by decide +kernel
theorem d8_53 : decode prog_55_method_8_code 53 = .ok (.iload_n 2, 1) := by decide +kernel
theorem d8_54 : decode prog_55_method_8_code 54 = .ok (.invokevirtual 52, 3) := by decide +kernel
theorem d8_57 : decode prog_55_method_8_code 57 = .ok (.return_, 1) := by decide +kernel
theorem ef_8 (m : MethodId) (o0 : Addr) (p1 : Int32) : entryFrame m #[(.ref o0), (.int p1)] 4 = mkF m 0 #[.val (.ref o0), .val (.int p1), .unset, .unset] [] := by first | (simp [entryFrame, mkF, argsToLocals, Value.category]; done) | rfl

def Q8 (Z : State) (o0 : Addr) (p1 : Int32) (ti tk tp : Addr) (ky : Nat → Int64) (it pl : Nat → Nat) (n i : Nat) (h0 : Heap) (n0 : Nat) (v : Option Value) (h : Heap) (L : List Loc) : Prop := ∃ (it2 : Nat → Nat) (pl2 : Nat → Nat), v = none ∧ Fr n0 L ∧ Keep h0 h [ti, tp] ∧ (own_A Z h ti .int 3 (fun kk => (.int ((it2 kk).toInt32)))) ∧ (own_A Z h tp .int 3 (fun kk => (.int (own_pl (pl2 kk))))) ∧ (own_IV 3 n it2 pl2) ∧ (∀ y, y < 3 → (pl2 y = 0 ↔ pl y = 0))
set_option maxRecDepth 65536 in
set_option maxHeartbeats 40000000 in
theorem rm8 (l : Launch) (Z : State) (a0 : Array Value) (hw : ∀ d ∈ tables_1, d.before a0 Z = true) (ws : List Jvm.Cond) (o0 : Addr) (p1 : Int32) (ti tk tp : Addr) (ky : Nat → Int64) (it pl : Nat → Nat) (n i : Nat) (h0 : Heap) (n0 : Nat) (Z0 : n0 ≤ h0.size) (F_items_o0 : Fld Z h0 o0 "com/example/lean_layers/leanlayers/phase/layering/IndexedHeap" "items" "[I" (.ref ti)) (F_keys_o0 : Fld Z h0 o0 "com/example/lean_layers/leanlayers/phase/layering/IndexedHeap" "keys" "[J" (.ref tk)) (F_place_o0 : Fld Z h0 o0 "com/example/lean_layers/leanlayers/phase/layering/IndexedHeap" "place" "[I" (.ref tp)) (E_o0 : Exa Z h0 o0 "com/example/lean_layers/leanlayers/phase/layering/IndexedHeap") (F_size_o0 : Fld Z h0 o0 "com/example/lean_layers/leanlayers/phase/layering/IndexedHeap" "size" "I" (.int (n.toInt32))) (A_ti : own_A Z h0 ti .int 3 (fun kk => (.int ((it kk).toInt32)))) (A_tk : own_A Z h0 tk .long 3 (fun kk => (.long (ky kk)))) (A_tp : own_A Z h0 tp .int 3 (fun kk => (.int (own_pl (pl kk))))) (g_ti : n0 ≤ ti) (g_tp : n0 ≤ tp) (ne_o0_ti : o0 ≠ ti) (ne_o0_tk : o0 ≠ tk) (ne_o0_tp : o0 ≠ tp) (ne_ti_tk : ti ≠ tk) (ne_ti_tp : ti ≠ tp) (ne_tk_tp : tk ≠ tp) (hp1 : p1 = (i.toInt32)) (hin : i < n) (hIV : own_IV 3 n it pl) :
    MetFree l (⟨"com/example/lean_layers/leanlayers/phase/layering/IndexedHeap", "siftUp", "(I)V"⟩ : MethodName) (head1 (Jvm.Cond.code (⟨"com/example/lean_layers/leanlayers/phase/layering/IndexedHeap", "siftUp", "(I)V"⟩ : MethodName) prog_55_method_8_code 4 none :: ws) ({ frames := 2, cells := 0, slots := 0, locals := 40 } : Room)) (fun a U => a = #[(.ref o0), (.int p1)] ∧ Z.Warmed39 U.vm ∧ U.heap = h0) (fun _ _ _ _ _ => True) (fun _ U o U' => ∃ v L, o = .returned v ∧ Q8 Z o0 p1 ti tk tp ky it pl n i h0 n0 v U'.heap L ∧ FrameEnd U o U' L ({ frames := 2, cells := 0, slots := 0, locals := 40 } : Room).cells ({ frames := 2, cells := 0, slots := 0, locals := 40 } : Room).slots) := by
  refine MetFree.of_bodySF (plainFor_of_name pn_1) hisR ?_
  intro p e s m args below meth c s₁ Bd hml0 hP hK
  obtain ⟨rfl, hZ, hh⟩ := hP
  have hx := Bd.exec
  have hby := Bd.bytes
  have hml : c.maxLocals = 4 := hml0
  have hown : s.vm.findClass "com/example/lean_layers/leanlayers/phase/layering/IndexedHeap" = some m.cls := findClass_of_methodNamed Bd.named
  have hnm := (name_of_methodNamed Bd.named Bd.method).1
  have X0 : Stand p l e ({ frames := 2, cells := 0, slots := 0, locals := 40 } : Room) s m #[(.ref o0), (.int p1)] below meth c s₁ [] 0 0 := Stand.of_body Bd
  have e0 : s₁.heap = h0 := by rw [← hh, Bd.state]; rfl
  have N0 := Fr.nil n0
  have pre0 : ∀ t, Steps p.tables e below (s₁.setTop (mkF m 0 #[.val (.ref o0), .val (.int p1), .unset, .unset] [])) t → Steps p.tables e below (s₁.setTop (entryFrame m #[(.ref o0), (.int p1)] 4)) t := fun t k => castTop (ef_8 m o0 p1) k
  have hnc : n ≤ 3 := hIV.1
  have pre1 : ∀ t, Steps p.tables e below (s₁.setTop (mkF m 0 #[.val (.ref o0), .val (.int p1), .unset, .unset] [])) t → Steps p.tables e below (s₁.setTop (entryFrame m #[(.ref o0), (.int p1)] 4)) t := fun t k => pre0 t (by
    show Steps p.tables e below (s₁.setTop (mkF m 0 #[.val (.ref o0), .val (.int p1), .unset, .unset] [])) _
    exact k)
  have hre2 : p1 = (i.toInt32) := hp1
  have pre2 : ∀ t, Steps p.tables e below (s₁.setTop (mkF m 0 #[.val (.ref o0), .val (.int (i.toInt32)), .unset, .unset] [])) t → Steps p.tables e below (s₁.setTop (entryFrame m #[(.ref o0), (.int p1)] 4)) t := fun t k => pre1 t (by rw [hre2]; exact k)
  obtain ⟨T3, X3, e3, st3⟩ := getF X0 hx hZ hown (host := "") (Or.inl (hw _ (List.mem_of_getElem? (i := 10) rfl))) Via.refl e0 F_items_o0 (g := (mkF m 1 #[.val (.ref o0), .val (.int (i.toInt32)), .unset, .unset] [(.ref o0)])) rfl rfl (hb hby d8_1)
  have qa4 := A_ti
  obtain ⟨c4, Ar4, Sz4, H4⟩ := qa4
  have hi5 : 0 ≤ ((i.toInt32) : Int32).toInt ∧ ((i.toInt32) : Int32).toInt < (3 : Nat) := (own_bd (show i < 3 by omega) (by decide))
  have hl5 : c4.slots[((i.toInt32) : Int32).toNatClampNeg]? = some (.int ((it i).toInt32)) := by rw [show ((it i).toInt32) = (((it ((i.toInt32) : Int32).toNatClampNeg).toInt32)) from by rw [own_tn (show i < 2147483648 by omega)]]; exact H4 _ (own_ix hi5)
  obtain ⟨T6, h6, L6, i6, f6, g6, k6, s6, X6, e6, N6, Kc6, Pa6, Pb6, hH6, st6⟩ := loop_up o0 ti tk tp ky (it i) n pl n0 g_ti g_tp ne_o0_ti ne_o0_tk ne_o0_tp ne_ti_tk ne_ti_tp ne_tk_tp hx hZ hw hby hml hown i it pl .unset _ _ _ One.u (own_HO0 hIV hin) X3 e3 N0 Z0 F_items_o0 F_keys_o0 F_place_o0 E_o0 F_size_o0 A_ti A_tk A_tp
  have F_items_o0_7 : Fld Z h6 o0 "com/example/lean_layers/leanlayers/phase/layering/IndexedHeap" "items" "[I" (.ref ti) := (F_items_o0).keep Kc6 (ninS ne_o0_ti (ninS ne_o0_tp nin0))
  have F_keys_o0_7 : Fld Z h6 o0 "com/example/lean_layers/leanlayers/phase/layering/IndexedHeap" "keys" "[J" (.ref tk) := (F_keys_o0).keep Kc6 (ninS ne_o0_ti (ninS ne_o0_tp nin0))
  have F_place_o0_7 : Fld Z h6 o0 "com/example/lean_layers/leanlayers/phase/layering/IndexedHeap" "place" "[I" (.ref tp) := (F_place_o0).keep Kc6 (ninS ne_o0_ti (ninS ne_o0_tp nin0))
  have E_o0_7 : Exa Z h6 o0 "com/example/lean_layers/leanlayers/phase/layering/IndexedHeap" := (E_o0).keep Kc6
  have F_size_o0_7 : Fld Z h6 o0 "com/example/lean_layers/leanlayers/phase/layering/IndexedHeap" "size" "I" (.int (n.toInt32)) := (F_size_o0).keep Kc6 (ninS ne_o0_ti (ninS ne_o0_tp nin0))
  have A_tk_7 : own_A Z h6 tk .long 3 (fun kk => (.long (ky kk))) := (A_tk).keep Kc6 (ninS (Ne.symm ne_ti_tk) (ninS ne_tk_tp nin0))
  have SZ8 : h0.size ≤ h6.size := Nat.le_trans (Nat.le_refl _) Kc6.1
  have ZZ8 : n0 ≤ h6.size := Nat.le_trans Z0 SZ8
  have K9 : Keep h0 h6 [ti, tp] := ((Keep.refl h0 [ti, tp])).trans Kc6 (allS (Or.inl (List.mem_of_getElem? (i := 0) rfl)) (allS (Or.inl (List.mem_of_getElem? (i := 1) rfl)) all0))
  have hic6 : i6 < 3 := Nat.lt_of_lt_of_le hH6.1 hH6.2.2.1.1
  obtain ⟨cq10, q10, q10'⟩ := (E_o0_7).cell
  obtain ⟨_, _, ⟨T10, L10, k10, n10⟩, -, X10, ⟨Lc10, hQ10, l10, y10, z10⟩, st10⟩ := X6.privateBack hx (y := (⟨"com/example/lean_layers/leanlayers/phase/layering/IndexedHeap", "setAt", "(II)V"⟩ : MethodName)) hown (mvT hZ (hw _ (List.mem_of_getElem? (i := 47) rfl))) (mvT hZ (hw _ (List.mem_of_getElem? (i := 48) rfl))) (own_selp (y := (⟨"com/example/lean_layers/leanlayers/phase/layering/IndexedHeap", "setAt", "(II)V"⟩ : MethodName)) (mvT hZ (hw _ (List.mem_of_getElem? (i := 1) rfl))) (Cond.privateMethod_at (mvP hZ (hw _ (List.mem_of_getElem? (i := 49) rfl)) (args := #[]))) (mvT hZ (hw _ (List.mem_of_getElem? (i := 48) rfl))) (by decide)) (Cond.privateMethod_at (mvP hZ (hw _ (List.mem_of_getElem? (i := 49) rfl)) (args := #[]))) (mvT hZ (hw _ (List.mem_of_getElem? (i := 50) rfl))) (by decide) (backOf (W := 0) (rm9 l Z a0 hw [] o0 (i6.toInt32) ((it i).toInt32) ti tp f6 g6 i6 (it i) h6 n0 ZZ8 F_items_o0_7 F_place_o0_7 E_o0_7 Pa6 Pb6 g_ti g_tp ne_o0_ti ne_o0_tp ne_ti_tp rfl rfl hic6 hH6.2.1) hZ (hw _ (List.mem_of_getElem? (i := 50) rfl)) (hw _ (List.mem_of_getElem? (i := 2) rfl)) (by decide) (by decide)) (g := (mkF m 54 #[.val (.ref o0), .val (.int (i6.toInt32)), .val (.int ((it i).toInt32)), s6] [(.int ((it i).toInt32)), (.int (i6.toInt32)), (.ref o0)])) rfl (by rw [hml]; rfl) (Steps.refl _) (a := o0) (by rw [e6]; exact q10) q10' (argsL := [(.int (i6.toInt32)), (.int ((it i).toInt32))]) (rest := []) (lenOf pd_2 rfl) rfl (by show 2 * 0 + _ ≤ _; exact Nat.le_of_eq rfl) (hb hby d8_54) (fun _ _ => ⟨rfl, e6, (by decide : 0 + 0 ≤ _), (by decide : 0 + 0 ≤ _)⟩)
  dsimp only [Pt.U, Pt.locs, Pt.cells, Pt.slots] at X10 l10 y10 z10 st10 hQ10
  subst y10 z10
  obtain ⟨rfl, N10q, Kc10, P10_0, P10_1⟩ := hQ10
  have N10 := Fr.app N6 N10q
  rw [← l10] at N10
  have F_items_o0_11 : Fld Z T10.heap o0 "com/example/lean_layers/leanlayers/phase/layering/IndexedHeap" "items" "[I" (.ref ti) := (F_items_o0_7).keep Kc10 (ninS ne_o0_ti (ninS ne_o0_tp nin0))
  have F_keys_o0_11 : Fld Z T10.heap o0 "com/example/lean_layers/leanlayers/phase/layering/IndexedHeap" "keys" "[J" (.ref tk) := (F_keys_o0_7).keep Kc10 (ninS ne_o0_ti (ninS ne_o0_tp nin0))
  have F_place_o0_11 : Fld Z T10.heap o0 "com/example/lean_layers/leanlayers/phase/layering/IndexedHeap" "place" "[I" (.ref tp) := (F_place_o0_7).keep Kc10 (ninS ne_o0_ti (ninS ne_o0_tp nin0))
  have E_o0_11 : Exa Z T10.heap o0 "com/example/lean_layers/leanlayers/phase/layering/IndexedHeap" := (E_o0_7).keep Kc10
  have F_size_o0_11 : Fld Z T10.heap o0 "com/example/lean_layers/leanlayers/phase/layering/IndexedHeap" "size" "I" (.int (n.toInt32)) := (F_size_o0_7).keep Kc10 (ninS ne_o0_ti (ninS ne_o0_tp nin0))
  have A_tk_11 : own_A Z T10.heap tk .long 3 (fun kk => (.long (ky kk))) := (A_tk_7).keep Kc10 (ninS (Ne.symm ne_ti_tk) (ninS ne_tk_tp nin0))
  have SZ12 : h0.size ≤ T10.heap.size := Nat.le_trans SZ8 Kc10.1
  have ZZ12 : n0 ≤ T10.heap.size := Nat.le_trans Z0 SZ12
  have K13 : Keep h0 T10.heap [ti, tp] := (K9).trans Kc10 (allS (Or.inl (List.mem_of_getElem? (i := 0) rfl)) (allS (Or.inl (List.mem_of_getElem? (i := 1) rfl)) all0))
  have pre14 : ∀ t, Steps p.tables e below (T10.setTop (mkF m 57 #[.val (.ref o0), .val (.int (i6.toInt32)), .val (.int ((it i).toInt32)), s6] [])) t → Steps p.tables e below (s₁.setTop (entryFrame m #[(.ref o0), (.int p1)] 4)) t := fun t k => pre2 t (by
    show Steps p.tables e below (s₁.setTop (mkF m 0 #[.val (.ref o0), .val (.int (i.toInt32)), .unset, .unset] [])) _
    refine XS.aloadN X0.here hx rfl (hb hby d8_0) rfl rfl ?_
    show Steps p.tables e below (s₁.setTop (mkF m 1 #[.val (.ref o0), .val (.int (i.toInt32)), .unset, .unset] [(.ref o0)])) _
    refine st3 _ ?_
    show Steps p.tables e below (T3.setTop (mkF m 4 #[.val (.ref o0), .val (.int (i.toInt32)), .unset, .unset] [(.ref ti)])) _
    refine XS.iloadN X3.here hx rfl (hb hby d8_4) rfl ?_
    show Steps p.tables e below (T3.setTop (mkF m 5 #[.val (.ref o0), .val (.int (i.toInt32)), .unset, .unset] [(.int (i.toInt32)), (.ref ti)])) _
    refine X3.iaload hx (j := (i.toInt32)) (v := (.int ((it i).toInt32))) (by rw [e3]; exact Ar4.1) (State.isArrayOf_alike hZ.alike Ar4.2.1) Ar4.2.2 (own_in Sz4 hi5) hl5 (g := (mkF m 5 #[.val (.ref o0), .val (.int (i.toInt32)), .unset, .unset] [(.int (i.toInt32)), (.ref ti)])) rfl rfl (hb hby d8_5) _ ?_
    show Steps p.tables e below (T3.setTop (mkF m 6 #[.val (.ref o0), .val (.int (i.toInt32)), .unset, .unset] [(.int ((it i).toInt32))])) _
    refine XS.istoreN X3.here hx rfl (hb hby d8_6) rfl (l' := #[.val (.ref o0), .val (.int (i.toInt32)), .val (.int ((it i).toInt32)), .unset]) rfl ?_
    show Steps p.tables e below (T3.setTop (mkF m 7 #[.val (.ref o0), .val (.int (i.toInt32)), .val (.int ((it i).toInt32)), .unset] [])) _
    refine st6 _ ?_
    show Steps p.tables e below (T6.setTop (mkF m 51 #[.val (.ref o0), .val (.int (i6.toInt32)), .val (.int ((it i).toInt32)), s6] [])) _
    refine XS.aloadN X6.here hx rfl (hb hby d8_51) rfl rfl ?_
    show Steps p.tables e below (T6.setTop (mkF m 52 #[.val (.ref o0), .val (.int (i6.toInt32)), .val (.int ((it i).toInt32)), s6] [(.ref o0)])) _
    refine XS.iloadN X6.here hx rfl (hb hby d8_52) rfl ?_
    show Steps p.tables e below (T6.setTop (mkF m 53 #[.val (.ref o0), .val (.int (i6.toInt32)), .val (.int ((it i).toInt32)), s6] [(.int (i6.toInt32)), (.ref o0)])) _
    refine XS.iloadN X6.here hx rfl (hb hby d8_53) rfl ?_
    show Steps p.tables e below (T6.setTop (mkF m 54 #[.val (.ref o0), .val (.int (i6.toInt32)), .val (.int ((it i).toInt32)), s6] [(.int ((it i).toInt32)), (.int (i6.toInt32)), (.ref o0)])) _
    refine st10.trans ?_
    show Steps p.tables e below (T10.setTop (mkF m 57 #[.val (.ref o0), .val (.int (i6.toInt32)), .val (.int ((it i).toInt32)), s6] [])) _
    exact k)
  obtain ⟨fs, hr, hrun, hended, hW, hsame⟩ := X10.leave (v := none) (fun _ => rfl)
  refine ⟨_, _, pre14 _ ?_, hrun, hended, _, _, rfl, ?_, ⟨_, rfl⟩, hW, hsame.mono (by decide) (by decide)⟩
  · exact X10.returnOut hx Bd.returns (hb hby d8_57) hr
  · show Q8 Z o0 p1 ti tk tp ky it pl n i h0 n0 _ T10.heap _
    skip
    exact ⟨(own_u f6 i6 (it i)), (own_u g6 (it i) (i6 + 1)), rfl, N10, K13, P10_0, P10_1, hH6.2.2.1, hH6.2.2.2⟩
theorem d10_0 : decode prog_55_method_9_code 0 = .ok (.aload_n 0, 1) := by decide +kernel
theorem d10_1 : decode prog_55_method_9_code 1 = .ok (.getfield 7, 3) := by decide +kernel
theorem d10_4 : decode prog_55_method_9_code 4 = .ok (.iload_n 1, 1) := by decide +kernel
theorem d10_5 : decode prog_55_method_9_code 5 = .ok (.iaload, 1) := by decide +kernel
theorem d10_6 : decode prog_55_method_9_code 6 = .ok (.istore_n 2, 1) := by decide +kernel
theorem d10_7 : decode prog_55_method_9_code 7 = .ok (.iconst 1, 1) := by decide +kernel
theorem d10_8 : decode prog_55_method_9_code 8 = .ok (.istore_n 3, 1) := by decide +kernel
theorem d10_104 : decode prog_55_method_9_code 104 = .ok (.aload_n 0, 1) := by decide +kernel
theorem d10_105 : decode prog_55_method_9_code 105 = .ok (.iload_n 1, 1) := by decide +kernel
theorem d10_106 : decode prog_55_method_9_code 106 = .ok (.iload_n 2, 1) := by decide +kernel
theorem d10_107 : decode prog_55_method_9_code 107 = .ok (.invokevirtual 52, 3) := by decide +kernel
theorem d10_110 : decode prog_55_method_9_code 110 = .ok (.return_, 1) := by decide +kernel
theorem ef_10 (m : MethodId) (o0 : Addr) (p1 : Int32) : entryFrame m #[(.ref o0), (.int p1)] 5 = mkF m 0 #[.val (.ref o0), .val (.int p1), .unset, .unset, .unset] [] := by first | (simp [entryFrame, mkF, argsToLocals, Value.category]; done) | rfl

def Q10 (Z : State) (o0 : Addr) (p1 : Int32) (ti tk tp : Addr) (ky : Nat → Int64) (it pl : Nat → Nat) (n i : Nat) (h0 : Heap) (n0 : Nat) (v : Option Value) (h : Heap) (L : List Loc) : Prop := ∃ (it2 : Nat → Nat) (pl2 : Nat → Nat), v = none ∧ Fr n0 L ∧ Keep h0 h [ti, tp] ∧ (own_A Z h ti .int 3 (fun kk => (.int ((it2 kk).toInt32)))) ∧ (own_A Z h tp .int 3 (fun kk => (.int (own_pl (pl2 kk))))) ∧ (own_IV 3 n it2 pl2) ∧ (∀ y, y < 3 → (pl2 y = 0 ↔ pl y = 0))
set_option maxRecDepth 65536 in
set_option maxHeartbeats 40000000 in
theorem rm10 (l : Launch) (Z : State) (a0 : Array Value) (hw : ∀ d ∈ tables_1, d.before a0 Z = true) (ws : List Jvm.Cond) (o0 : Addr) (p1 : Int32) (ti tk tp : Addr) (ky : Nat → Int64) (it pl : Nat → Nat) (n i : Nat) (h0 : Heap) (n0 : Nat) (Z0 : n0 ≤ h0.size) (F_items_o0 : Fld Z h0 o0 "com/example/lean_layers/leanlayers/phase/layering/IndexedHeap" "items" "[I" (.ref ti)) (F_keys_o0 : Fld Z h0 o0 "com/example/lean_layers/leanlayers/phase/layering/IndexedHeap" "keys" "[J" (.ref tk)) (F_place_o0 : Fld Z h0 o0 "com/example/lean_layers/leanlayers/phase/layering/IndexedHeap" "place" "[I" (.ref tp)) (E_o0 : Exa Z h0 o0 "com/example/lean_layers/leanlayers/phase/layering/IndexedHeap") (F_size_o0 : Fld Z h0 o0 "com/example/lean_layers/leanlayers/phase/layering/IndexedHeap" "size" "I" (.int (n.toInt32))) (A_ti : own_A Z h0 ti .int 3 (fun kk => (.int ((it kk).toInt32)))) (A_tk : own_A Z h0 tk .long 3 (fun kk => (.long (ky kk)))) (A_tp : own_A Z h0 tp .int 3 (fun kk => (.int (own_pl (pl kk))))) (g_ti : n0 ≤ ti) (g_tp : n0 ≤ tp) (ne_o0_ti : o0 ≠ ti) (ne_o0_tk : o0 ≠ tk) (ne_o0_tp : o0 ≠ tp) (ne_ti_tk : ti ≠ tk) (ne_ti_tp : ti ≠ tp) (ne_tk_tp : tk ≠ tp) (hp1 : p1 = (i.toInt32)) (hin : i < n) (hIV : own_IV 3 n it pl) :
    MetFree l (⟨"com/example/lean_layers/leanlayers/phase/layering/IndexedHeap", "siftDown", "(I)V"⟩ : MethodName) (head1 (Jvm.Cond.code (⟨"com/example/lean_layers/leanlayers/phase/layering/IndexedHeap", "siftDown", "(I)V"⟩ : MethodName) prog_55_method_9_code 5 none :: ws) ({ frames := 2, cells := 0, slots := 0, locals := 40 } : Room)) (fun a U => a = #[(.ref o0), (.int p1)] ∧ Z.Warmed39 U.vm ∧ U.heap = h0) (fun _ _ _ _ _ => True) (fun _ U o U' => ∃ v L, o = .returned v ∧ Q10 Z o0 p1 ti tk tp ky it pl n i h0 n0 v U'.heap L ∧ FrameEnd U o U' L ({ frames := 2, cells := 0, slots := 0, locals := 40 } : Room).cells ({ frames := 2, cells := 0, slots := 0, locals := 40 } : Room).slots) := by
  refine MetFree.of_bodySF (plainFor_of_name pn_1) hisR ?_
  intro p e s m args below meth c s₁ Bd hml0 hP hK
  obtain ⟨rfl, hZ, hh⟩ := hP
  have hx := Bd.exec
  have hby := Bd.bytes
  have hml : c.maxLocals = 5 := hml0
  have hown : s.vm.findClass "com/example/lean_layers/leanlayers/phase/layering/IndexedHeap" = some m.cls := findClass_of_methodNamed Bd.named
  have hnm := (name_of_methodNamed Bd.named Bd.method).1
  have X0 : Stand p l e ({ frames := 2, cells := 0, slots := 0, locals := 40 } : Room) s m #[(.ref o0), (.int p1)] below meth c s₁ [] 0 0 := Stand.of_body Bd
  have e0 : s₁.heap = h0 := by rw [← hh, Bd.state]; rfl
  have N0 := Fr.nil n0
  have pre0 : ∀ t, Steps p.tables e below (s₁.setTop (mkF m 0 #[.val (.ref o0), .val (.int p1), .unset, .unset, .unset] [])) t → Steps p.tables e below (s₁.setTop (entryFrame m #[(.ref o0), (.int p1)] 5)) t := fun t k => castTop (ef_10 m o0 p1) k
  have hnc : n ≤ 3 := hIV.1
  have pre1 : ∀ t, Steps p.tables e below (s₁.setTop (mkF m 0 #[.val (.ref o0), .val (.int p1), .unset, .unset, .unset] [])) t → Steps p.tables e below (s₁.setTop (entryFrame m #[(.ref o0), (.int p1)] 5)) t := fun t k => pre0 t (by
    show Steps p.tables e below (s₁.setTop (mkF m 0 #[.val (.ref o0), .val (.int p1), .unset, .unset, .unset] [])) _
    exact k)
  have hre2 : p1 = (i.toInt32) := hp1
  have pre2 : ∀ t, Steps p.tables e below (s₁.setTop (mkF m 0 #[.val (.ref o0), .val (.int (i.toInt32)), .unset, .unset, .unset] [])) t → Steps p.tables e below (s₁.setTop (entryFrame m #[(.ref o0), (.int p1)] 5)) t := fun t k => pre1 t (by rw [hre2]; exact k)
  obtain ⟨T3, X3, e3, st3⟩ := getF X0 hx hZ hown (host := "") (Or.inl (hw _ (List.mem_of_getElem? (i := 10) rfl))) Via.refl e0 F_items_o0 (g := (mkF m 1 #[.val (.ref o0), .val (.int (i.toInt32)), .unset, .unset, .unset] [(.ref o0)])) rfl rfl (hb hby d10_1)
  have qa4 := A_ti
  obtain ⟨c4, Ar4, Sz4, H4⟩ := qa4
  have hi5 : 0 ≤ ((i.toInt32) : Int32).toInt ∧ ((i.toInt32) : Int32).toInt < (3 : Nat) := (own_bd (show i < 3 by omega) (by decide))
  have hl5 : c4.slots[((i.toInt32) : Int32).toNatClampNeg]? = some (.int ((it i).toInt32)) := by rw [show ((it i).toInt32) = (((it ((i.toInt32) : Int32).toNatClampNeg).toInt32)) from by rw [own_tn (show i < 2147483648 by omega)]]; exact H4 _ (own_ix hi5)
  obtain ⟨T6, h6, L6, i6, f6, g6, k6, s6, X6, e6, N6, Kc6, Pa6, Pb6, hH6, st6⟩ := loop_dn o0 ti tk tp ky (it i) n pl n0 g_ti g_tp ne_o0_ti ne_o0_tk ne_o0_tp ne_ti_tk ne_ti_tp ne_tk_tp hx hZ hw hby hml hown _ i it pl (1 : Int32) .unset _ _ _ rfl One.u (own_HO0 hIV hin) X3 e3 N0 Z0 F_items_o0 F_keys_o0 F_place_o0 E_o0 F_size_o0 A_ti A_tk A_tp
  have F_items_o0_7 : Fld Z h6 o0 "com/example/lean_layers/leanlayers/phase/layering/IndexedHeap" "items" "[I" (.ref ti) := (F_items_o0).keep Kc6 (ninS ne_o0_ti (ninS ne_o0_tp nin0))
  have F_keys_o0_7 : Fld Z h6 o0 "com/example/lean_layers/leanlayers/phase/layering/IndexedHeap" "keys" "[J" (.ref tk) := (F_keys_o0).keep Kc6 (ninS ne_o0_ti (ninS ne_o0_tp nin0))
  have F_place_o0_7 : Fld Z h6 o0 "com/example/lean_layers/leanlayers/phase/layering/IndexedHeap" "place" "[I" (.ref tp) := (F_place_o0).keep Kc6 (ninS ne_o0_ti (ninS ne_o0_tp nin0))
  have E_o0_7 : Exa Z h6 o0 "com/example/lean_layers/leanlayers/phase/layering/IndexedHeap" := (E_o0).keep Kc6
  have F_size_o0_7 : Fld Z h6 o0 "com/example/lean_layers/leanlayers/phase/layering/IndexedHeap" "size" "I" (.int (n.toInt32)) := (F_size_o0).keep Kc6 (ninS ne_o0_ti (ninS ne_o0_tp nin0))
  have A_tk_7 : own_A Z h6 tk .long 3 (fun kk => (.long (ky kk))) := (A_tk).keep Kc6 (ninS (Ne.symm ne_ti_tk) (ninS ne_tk_tp nin0))
  have SZ8 : h0.size ≤ h6.size := Nat.le_trans (Nat.le_refl _) Kc6.1
  have ZZ8 : n0 ≤ h6.size := Nat.le_trans Z0 SZ8
  have K9 : Keep h0 h6 [ti, tp] := ((Keep.refl h0 [ti, tp])).trans Kc6 (allS (Or.inl (List.mem_of_getElem? (i := 0) rfl)) (allS (Or.inl (List.mem_of_getElem? (i := 1) rfl)) all0))
  have hic6 : i6 < 3 := Nat.lt_of_lt_of_le hH6.1 hH6.2.2.1.1
  obtain ⟨cq10, q10, q10'⟩ := (E_o0_7).cell
  obtain ⟨_, _, ⟨T10, L10, k10, n10⟩, -, X10, ⟨Lc10, hQ10, l10, y10, z10⟩, st10⟩ := X6.privateBack hx (y := (⟨"com/example/lean_layers/leanlayers/phase/layering/IndexedHeap", "setAt", "(II)V"⟩ : MethodName)) hown (mvT hZ (hw _ (List.mem_of_getElem? (i := 47) rfl))) (mvT hZ (hw _ (List.mem_of_getElem? (i := 48) rfl))) (own_selp (y := (⟨"com/example/lean_layers/leanlayers/phase/layering/IndexedHeap", "setAt", "(II)V"⟩ : MethodName)) (mvT hZ (hw _ (List.mem_of_getElem? (i := 1) rfl))) (Cond.privateMethod_at (mvP hZ (hw _ (List.mem_of_getElem? (i := 49) rfl)) (args := #[]))) (mvT hZ (hw _ (List.mem_of_getElem? (i := 48) rfl))) (by decide)) (Cond.privateMethod_at (mvP hZ (hw _ (List.mem_of_getElem? (i := 49) rfl)) (args := #[]))) (mvT hZ (hw _ (List.mem_of_getElem? (i := 50) rfl))) (by decide) (backOf (W := 0) (rm9 l Z a0 hw [] o0 (i6.toInt32) ((it i).toInt32) ti tp f6 g6 i6 (it i) h6 n0 ZZ8 F_items_o0_7 F_place_o0_7 E_o0_7 Pa6 Pb6 g_ti g_tp ne_o0_ti ne_o0_tp ne_ti_tp rfl rfl hic6 hH6.2.1) hZ (hw _ (List.mem_of_getElem? (i := 50) rfl)) (hw _ (List.mem_of_getElem? (i := 2) rfl)) (by decide) (by decide)) (g := (mkF m 107 #[.val (.ref o0), .val (.int (i6.toInt32)), .val (.int ((it i).toInt32)), .val (.int k6), s6] [(.int ((it i).toInt32)), (.int (i6.toInt32)), (.ref o0)])) rfl (by rw [hml]; rfl) (Steps.refl _) (a := o0) (by rw [e6]; exact q10) q10' (argsL := [(.int (i6.toInt32)), (.int ((it i).toInt32))]) (rest := []) (lenOf pd_2 rfl) rfl (by show 2 * 0 + _ ≤ _; exact Nat.le_of_eq rfl) (hb hby d10_107) (fun _ _ => ⟨rfl, e6, (by decide : 0 + 0 ≤ _), (by decide : 0 + 0 ≤ _)⟩)
  dsimp only [Pt.U, Pt.locs, Pt.cells, Pt.slots] at X10 l10 y10 z10 st10 hQ10
  subst y10 z10
  obtain ⟨rfl, N10q, Kc10, P10_0, P10_1⟩ := hQ10
  have N10 := Fr.app N6 N10q
  rw [← l10] at N10
  have F_items_o0_11 : Fld Z T10.heap o0 "com/example/lean_layers/leanlayers/phase/layering/IndexedHeap" "items" "[I" (.ref ti) := (F_items_o0_7).keep Kc10 (ninS ne_o0_ti (ninS ne_o0_tp nin0))
  have F_keys_o0_11 : Fld Z T10.heap o0 "com/example/lean_layers/leanlayers/phase/layering/IndexedHeap" "keys" "[J" (.ref tk) := (F_keys_o0_7).keep Kc10 (ninS ne_o0_ti (ninS ne_o0_tp nin0))
  have F_place_o0_11 : Fld Z T10.heap o0 "com/example/lean_layers/leanlayers/phase/layering/IndexedHeap" "place" "[I" (.ref tp) := (F_place_o0_7).keep Kc10 (ninS ne_o0_ti (ninS ne_o0_tp nin0))
  have E_o0_11 : Exa Z T10.heap o0 "com/example/lean_layers/leanlayers/phase/layering/IndexedHeap" := (E_o0_7).keep Kc10
  have F_size_o0_11 : Fld Z T10.heap o0 "com/example/lean_layers/leanlayers/phase/layering/IndexedHeap" "size" "I" (.int (n.toInt32)) := (F_size_o0_7).keep Kc10 (ninS ne_o0_ti (ninS ne_o0_tp nin0))
  have A_tk_11 : own_A Z T10.heap tk .long 3 (fun kk => (.long (ky kk))) := (A_tk_7).keep Kc10 (ninS (Ne.symm ne_ti_tk) (ninS ne_tk_tp nin0))
  have SZ12 : h0.size ≤ T10.heap.size := Nat.le_trans SZ8 Kc10.1
  have ZZ12 : n0 ≤ T10.heap.size := Nat.le_trans Z0 SZ12
  have K13 : Keep h0 T10.heap [ti, tp] := (K9).trans Kc10 (allS (Or.inl (List.mem_of_getElem? (i := 0) rfl)) (allS (Or.inl (List.mem_of_getElem? (i := 1) rfl)) all0))
  have pre14 : ∀ t, Steps p.tables e below (T10.setTop (mkF m 110 #[.val (.ref o0), .val (.int (i6.toInt32)), .val (.int ((it i).toInt32)), .val (.int k6), s6] [])) t → Steps p.tables e below (s₁.setTop (entryFrame m #[(.ref o0), (.int p1)] 5)) t := fun t k => pre2 t (by
    show Steps p.tables e below (s₁.setTop (mkF m 0 #[.val (.ref o0), .val (.int (i.toInt32)), .unset, .unset, .unset] [])) _
    refine XS.aloadN X0.here hx rfl (hb hby d10_0) rfl rfl ?_
    show Steps p.tables e below (s₁.setTop (mkF m 1 #[.val (.ref o0), .val (.int (i.toInt32)), .unset, .unset, .unset] [(.ref o0)])) _
    refine st3 _ ?_
    show Steps p.tables e below (T3.setTop (mkF m 4 #[.val (.ref o0), .val (.int (i.toInt32)), .unset, .unset, .unset] [(.ref ti)])) _
    refine XS.iloadN X3.here hx rfl (hb hby d10_4) rfl ?_
    show Steps p.tables e below (T3.setTop (mkF m 5 #[.val (.ref o0), .val (.int (i.toInt32)), .unset, .unset, .unset] [(.int (i.toInt32)), (.ref ti)])) _
    refine X3.iaload hx (j := (i.toInt32)) (v := (.int ((it i).toInt32))) (by rw [e3]; exact Ar4.1) (State.isArrayOf_alike hZ.alike Ar4.2.1) Ar4.2.2 (own_in Sz4 hi5) hl5 (g := (mkF m 5 #[.val (.ref o0), .val (.int (i.toInt32)), .unset, .unset, .unset] [(.int (i.toInt32)), (.ref ti)])) rfl rfl (hb hby d10_5) _ ?_
    show Steps p.tables e below (T3.setTop (mkF m 6 #[.val (.ref o0), .val (.int (i.toInt32)), .unset, .unset, .unset] [(.int ((it i).toInt32))])) _
    refine XS.istoreN X3.here hx rfl (hb hby d10_6) rfl (l' := #[.val (.ref o0), .val (.int (i.toInt32)), .val (.int ((it i).toInt32)), .unset, .unset]) rfl ?_
    show Steps p.tables e below (T3.setTop (mkF m 7 #[.val (.ref o0), .val (.int (i.toInt32)), .val (.int ((it i).toInt32)), .unset, .unset] [])) _
    refine XS.iconst X3.here hx rfl (hb hby d10_7) ?_
    show Steps p.tables e below (T3.setTop (mkF m 8 #[.val (.ref o0), .val (.int (i.toInt32)), .val (.int ((it i).toInt32)), .unset, .unset] [(.int (1 : Int32))])) _
    refine XS.istoreN X3.here hx rfl (hb hby d10_8) rfl (l' := #[.val (.ref o0), .val (.int (i.toInt32)), .val (.int ((it i).toInt32)), .val (.int (1 : Int32)), .unset]) rfl ?_
    show Steps p.tables e below (T3.setTop (mkF m 9 #[.val (.ref o0), .val (.int (i.toInt32)), .val (.int ((it i).toInt32)), .val (.int (1 : Int32)), .unset] [])) _
    refine st6 _ ?_
    show Steps p.tables e below (T6.setTop (mkF m 104 #[.val (.ref o0), .val (.int (i6.toInt32)), .val (.int ((it i).toInt32)), .val (.int k6), s6] [])) _
    refine XS.aloadN X6.here hx rfl (hb hby d10_104) rfl rfl ?_
    show Steps p.tables e below (T6.setTop (mkF m 105 #[.val (.ref o0), .val (.int (i6.toInt32)), .val (.int ((it i).toInt32)), .val (.int k6), s6] [(.ref o0)])) _
    refine XS.iloadN X6.here hx rfl (hb hby d10_105) rfl ?_
    show Steps p.tables e below (T6.setTop (mkF m 106 #[.val (.ref o0), .val (.int (i6.toInt32)), .val (.int ((it i).toInt32)), .val (.int k6), s6] [(.int (i6.toInt32)), (.ref o0)])) _
    refine XS.iloadN X6.here hx rfl (hb hby d10_106) rfl ?_
    show Steps p.tables e below (T6.setTop (mkF m 107 #[.val (.ref o0), .val (.int (i6.toInt32)), .val (.int ((it i).toInt32)), .val (.int k6), s6] [(.int ((it i).toInt32)), (.int (i6.toInt32)), (.ref o0)])) _
    refine st10.trans ?_
    show Steps p.tables e below (T10.setTop (mkF m 110 #[.val (.ref o0), .val (.int (i6.toInt32)), .val (.int ((it i).toInt32)), .val (.int k6), s6] [])) _
    exact k)
  obtain ⟨fs, hr, hrun, hended, hW, hsame⟩ := X10.leave (v := none) (fun _ => rfl)
  refine ⟨_, _, pre14 _ ?_, hrun, hended, _, _, rfl, ?_, ⟨_, rfl⟩, hW, hsame.mono (by decide) (by decide)⟩
  · exact X10.returnOut hx Bd.returns (hb hby d10_110) hr
  · show Q10 Z o0 p1 ti tk tp ky it pl n i h0 n0 _ T10.heap _
    skip
    exact ⟨(own_u f6 i6 (it i)), (own_u g6 (it i) (i6 + 1)), rfl, N10, K13, P10_0, P10_1, hH6.2.2.1, hH6.2.2.2⟩
theorem d7_0 : decode prog_55_method_5_code 0 = .ok (.aload_n 0, 1) := by decide +kernel
theorem d7_1 : decode prog_55_method_5_code 1 = .ok (.getfield 17, 3) := by decide +kernel
theorem d7_4 : decode prog_55_method_5_code 4 = .ok (.iload_n 1, 1) := by decide +kernel
theorem d7_5 : decode prog_55_method_5_code 5 = .ok (.iaload, 1) := by decide +kernel
theorem d7_6 : decode prog_55_method_5_code 6 = .ok (.ifCond .ge 33, 3) := by decide +kernel
theorem d7_9 : decode prog_55_method_5_code 9 = .ok (.aload_n 0, 1) := by decide +kernel
theorem d7_10 : decode prog_55_method_5_code 10 = .ok (.getfield 17, 3) := by decide +kernel
theorem d7_13 : decode prog_55_method_5_code 13 = .ok (.iload_n 1, 1) := by decide +kernel
theorem d7_14 : decode prog_55_method_5_code 14 = .ok (.aload_n 0, 1) := by decide +kernel
theorem d7_15 : decode prog_55_method_5_code 15 = .ok (.getfield 26, 3) := by decide +kernel
theorem d7_18 : decode prog_55_method_5_code 18 = .ok (.iastore, 1) := by decide +kernel
theorem d7_19 : decode prog_55_method_5_code 19 = .ok (.aload_n 0, 1) := by decide +kernel
theorem d7_20 : decode prog_55_method_5_code 20 = .ok (.getfield 7, 3) := by decide +kernel
theorem d7_23 : decode prog_55_method_5_code 23 = .ok (.aload_n 0, 1) := by decide +kernel
theorem d7_24 : decode prog_55_method_5_code 24 = .ok (.getfield 26, 3) := by decide +kernel
theorem d7_27 : decode prog_55_method_5_code 27 = .ok (.iload_n 1, 1) := by decide +kernel
theorem d7_28 : decode prog_55_method_5_code 28 = .ok (.iastore, 1) := by decide +kernel
theorem d7_29 : decode prog_55_method_5_code 29 = .ok (.aload_n 0, 1) := by decide +kernel
theorem d7_30 : decode prog_55_method_5_code 30 = .ok (.dup, 1) := by decide +kernel
theorem d7_31 : decode prog_55_method_5_code 31 = .ok (.getfield 26, 3) := by decide +kernel
theorem d7_34 : decode prog_55_method_5_code 34 = .ok (.iconst 1, 1) := by decide +kernel
theorem d7_35 : decode prog_55_method_5_code 35 = .ok (.iadd, 1) := by decide +kernel
theorem d7_36 : decode prog_55_method_5_code 36 = .ok (.putfield 26, 3) := by decide +kernel
theorem d7_39 : decode prog_55_method_5_code 39 = .ok (.aload_n 0, 1) := by decide +kernel
theorem d7_40 : decode prog_55_method_5_code 40 = .ok (.getfield 13, 3) := by decide +kernel
theorem d7_43 : decode prog_55_method_5_code 43 = .ok (.iload_n 1, 1) := by decide +kernel
theorem d7_44 : decode prog_55_method_5_code 44 = .ok (.lload_n 2, 1) := by decide +kernel
theorem d7_45 : decode prog_55_method_5_code 45 = .ok (.lastore, 1) := by decide +kernel
theorem d7_46 : decode prog_55_method_5_code 46 = .ok (.aload_n 0, 1) := by decide +kernel
theorem d7_47 : decode prog_55_method_5_code 47 = .ok (.aload_n 0, 1) := by decide +kernel
theorem d7_48 : decode prog_55_method_5_code 48 = .ok (.getfield 17, 3) := by decide +kernel
theorem d7_51 : decode prog_55_method_5_code 51 = .ok (.iload_n 1, 1) := by decide +kernel
theorem d7_52 : decode prog_55_method_5_code 52 = .ok (.iaload, 1) := by decide +kernel
theorem d7_53 : decode prog_55_method_5_code 53 = .ok (.invokevirtual 41, 3) := by decide +kernel
theorem d7_56 : decode prog_55_method_5_code 56 = .ok (.aload_n 0, 1) := by decide +kernel
theorem d7_57 : decode prog_55_method_5_code 57 = .ok (.aload_n 0, 1) := by decide +kernel
theorem d7_58 : decode prog_55_method_5_code 58 = .ok (.getfield 17, 3) := by decide +kernel
theorem d7_61 : decode prog_55_method_5_code 61 = .ok (.iload_n 1, 1) := by decide +kernel
theorem d7_62 : decode prog_55_method_5_code 62 = .ok (.iaload, 1) := by decide +kernel
theorem d7_63 : decode prog_55_method_5_code 63 = .ok (.invokevirtual 45, 3) := by decide +kernel
theorem d7_66 : decode prog_55_method_5_code 66 = .ok (.return_, 1) := by decide +kernel
theorem pd_3 : parseMethodDescriptor "(I)V" = some ⟨[.int], none⟩ := by decide +kernel
theorem ef_7 (m : MethodId) (o0 : Addr) (p1 : Int32) (q2 : Int64) : entryFrame m #[(.ref o0), (.int p1), (.long q2)] 4 = mkF m 0 #[.val (.ref o0), .val (.int p1), .val (.long q2), .second] [] := by first | (simp [entryFrame, mkF, argsToLocals, Value.category]; done) | rfl

def Q7 (Z : State) (o0 : Addr) (p1 : Int32) (q2 : Int64) (ti tk tp : Addr) (ky : Nat → Int64) (it pl : Nat → Nat) (n xi : Nat) (h0 : Heap) (n0 : Nat) (v : Option Value) (h : Heap) (L : List Loc) : Prop := ∃ (n2 : Nat) (it2 : Nat → Nat) (pl2 : Nat → Nat), v = none ∧ Fr n0 L ∧ Keep h0 h [ti, tk, tp, o0] ∧ (Fld Z h o0 "com/example/lean_layers/leanlayers/phase/layering/IndexedHeap" "size" "I" (.int (n2.toInt32))) ∧ (Fld Z h o0 "com/example/lean_layers/leanlayers/phase/layering/IndexedHeap" "items" "[I" (.ref ti)) ∧ (Fld Z h o0 "com/example/lean_layers/leanlayers/phase/layering/IndexedHeap" "keys" "[J" (.ref tk)) ∧ (Fld Z h o0 "com/example/lean_layers/leanlayers/phase/layering/IndexedHeap" "place" "[I" (.ref tp)) ∧ (own_A Z h ti .int 3 (fun kk => (.int ((it2 kk).toInt32)))) ∧ (own_A Z h tk .long 3 (fun kk => (.long ((own_uk ky xi q2) kk)))) ∧ (own_A Z h tp .int 3 (fun kk => (.int (own_pl (pl2 kk))))) ∧ (own_IV 3 n2 it2 pl2) ∧ (∀ y, y < 3 → (pl2 y = 0 ↔ y ≠ xi ∧ pl y = 0))
set_option maxRecDepth 65536 in
set_option maxHeartbeats 40000000 in
theorem rm7 (l : Launch) (Z : State) (a0 : Array Value) (hw : ∀ d ∈ tables_1, d.before a0 Z = true) (ws : List Jvm.Cond) (o0 : Addr) (p1 : Int32) (q2 : Int64) (ti tk tp : Addr) (ky : Nat → Int64) (it pl : Nat → Nat) (n xi : Nat) (h0 : Heap) (n0 : Nat) (Z0 : n0 ≤ h0.size) (F_items_o0 : Fld Z h0 o0 "com/example/lean_layers/leanlayers/phase/layering/IndexedHeap" "items" "[I" (.ref ti)) (F_keys_o0 : Fld Z h0 o0 "com/example/lean_layers/leanlayers/phase/layering/IndexedHeap" "keys" "[J" (.ref tk)) (F_place_o0 : Fld Z h0 o0 "com/example/lean_layers/leanlayers/phase/layering/IndexedHeap" "place" "[I" (.ref tp)) (E_o0 : Exa Z h0 o0 "com/example/lean_layers/leanlayers/phase/layering/IndexedHeap") (F_size_o0 : Fld Z h0 o0 "com/example/lean_layers/leanlayers/phase/layering/IndexedHeap" "size" "I" (.int (n.toInt32))) (A_ti : own_A Z h0 ti .int 3 (fun kk => (.int ((it kk).toInt32)))) (A_tk : own_A Z h0 tk .long 3 (fun kk => (.long (ky kk)))) (A_tp : own_A Z h0 tp .int 3 (fun kk => (.int (own_pl (pl kk))))) (g_ti : n0 ≤ ti) (g_tk : n0 ≤ tk) (g_tp : n0 ≤ tp) (g_o0 : n0 ≤ o0) (ne_o0_ti : o0 ≠ ti) (ne_o0_tk : o0 ≠ tk) (ne_o0_tp : o0 ≠ tp) (ne_ti_tk : ti ≠ tk) (ne_ti_tp : ti ≠ tp) (ne_tk_tp : tk ≠ tp) (hp1 : p1 = (xi.toInt32)) (hxc : xi < 3) (hIV : own_IV 3 n it pl) :
    MetFree l (⟨"com/example/lean_layers/leanlayers/phase/layering/IndexedHeap", "put", "(IJ)V"⟩ : MethodName) (head1 (Jvm.Cond.code (⟨"com/example/lean_layers/leanlayers/phase/layering/IndexedHeap", "put", "(IJ)V"⟩ : MethodName) prog_55_method_5_code 4 none :: ws) ({ frames := 3, cells := 0, slots := 0, locals := 56 } : Room)) (fun a U => a = #[(.ref o0), (.int p1), (.long q2)] ∧ Z.Warmed39 U.vm ∧ U.heap = h0) (fun _ _ _ _ _ => True) (fun _ U o U' => ∃ v L, o = .returned v ∧ Q7 Z o0 p1 q2 ti tk tp ky it pl n xi h0 n0 v U'.heap L ∧ FrameEnd U o U' L ({ frames := 3, cells := 0, slots := 0, locals := 56 } : Room).cells ({ frames := 3, cells := 0, slots := 0, locals := 56 } : Room).slots) := by
  refine MetFree.of_bodySF (plainFor_of_name pn_1) hisR ?_
  intro p e s m args below meth c s₁ Bd hml0 hP hK
  obtain ⟨rfl, hZ, hh⟩ := hP
  have hx := Bd.exec
  have hby := Bd.bytes
  have hml : c.maxLocals = 4 := hml0
  have hown : s.vm.findClass "com/example/lean_layers/leanlayers/phase/layering/IndexedHeap" = some m.cls := findClass_of_methodNamed Bd.named
  have hnm := (name_of_methodNamed Bd.named Bd.method).1
  have X0 : Stand p l e ({ frames := 3, cells := 0, slots := 0, locals := 56 } : Room) s m #[(.ref o0), (.int p1), (.long q2)] below meth c s₁ [] 0 0 := Stand.of_body Bd
  have e0 : s₁.heap = h0 := by rw [← hh, Bd.state]; rfl
  have N0 := Fr.nil n0
  have pre0 : ∀ t, Steps p.tables e below (s₁.setTop (mkF m 0 #[.val (.ref o0), .val (.int p1), .val (.long q2), .second] [])) t → Steps p.tables e below (s₁.setTop (entryFrame m #[(.ref o0), (.int p1), (.long q2)] 4)) t := fun t k => castTop (ef_7 m o0 p1 q2) k
  have hnc : n ≤ 3 := hIV.1
  have pre1 : ∀ t, Steps p.tables e below (s₁.setTop (mkF m 0 #[.val (.ref o0), .val (.int p1), .val (.long q2), .second] [])) t → Steps p.tables e below (s₁.setTop (entryFrame m #[(.ref o0), (.int p1), (.long q2)] 4)) t := fun t k => pre0 t (by
    show Steps p.tables e below (s₁.setTop (mkF m 0 #[.val (.ref o0), .val (.int p1), .val (.long q2), .second] [])) _
    exact k)
  have hre2 : p1 = (xi.toInt32) := hp1
  have pre2 : ∀ t, Steps p.tables e below (s₁.setTop (mkF m 0 #[.val (.ref o0), .val (.int (xi.toInt32)), .val (.long q2), .second] [])) t → Steps p.tables e below (s₁.setTop (entryFrame m #[(.ref o0), (.int p1), (.long q2)] 4)) t := fun t k => pre1 t (by rw [hre2]; exact k)
  have hplb : pl xi ≤ 3 := by
    rcases hIV.2.2.2 xi hxc with q | ⟨j, j1, j2, -⟩ <;> omega
  obtain ⟨T3, X3, e3, st3⟩ := getF X0 hx hZ hown (host := "") (Or.inl (hw _ (List.mem_of_getElem? (i := 15) rfl))) Via.refl e0 F_place_o0 (g := (mkF m 1 #[.val (.ref o0), .val (.int (xi.toInt32)), .val (.long q2), .second] [(.ref o0)])) rfl rfl (hb hby d7_1)
  have qa4 := A_tp
  obtain ⟨c4, Ar4, Sz4, H4⟩ := qa4
  have hi5 : 0 ≤ ((xi.toInt32) : Int32).toInt ∧ ((xi.toInt32) : Int32).toInt < (3 : Nat) := (own_bd (show xi < 3 by omega) (by decide))
  have hl5 : c4.slots[((xi.toInt32) : Int32).toNatClampNeg]? = some (.int (own_pl (pl xi))) := by rw [show (own_pl (pl xi)) = ((own_pl (pl ((xi.toInt32) : Int32).toNatClampNeg))) from by rw [own_tn (show xi < 2147483648 by omega)]]; exact H4 _ (own_ix hi5)
  have pre6 : ∀ t, Steps p.tables e below (T3.setTop (mkF m 6 #[.val (.ref o0), .val (.int (xi.toInt32)), .val (.long q2), .second] [(.int (own_pl (pl xi)))])) t → Steps p.tables e below (s₁.setTop (entryFrame m #[(.ref o0), (.int p1), (.long q2)] 4)) t := fun t k => pre2 t (by
    show Steps p.tables e below (s₁.setTop (mkF m 0 #[.val (.ref o0), .val (.int (xi.toInt32)), .val (.long q2), .second] [])) _
    refine XS.aloadN X0.here hx rfl (hb hby d7_0) rfl rfl ?_
    show Steps p.tables e below (s₁.setTop (mkF m 1 #[.val (.ref o0), .val (.int (xi.toInt32)), .val (.long q2), .second] [(.ref o0)])) _
    refine st3 _ ?_
    show Steps p.tables e below (T3.setTop (mkF m 4 #[.val (.ref o0), .val (.int (xi.toInt32)), .val (.long q2), .second] [(.ref tp)])) _
    refine XS.iloadN X3.here hx rfl (hb hby d7_4) rfl ?_
    show Steps p.tables e below (T3.setTop (mkF m 5 #[.val (.ref o0), .val (.int (xi.toInt32)), .val (.long q2), .second] [(.int (xi.toInt32)), (.ref tp)])) _
    refine X3.iaload hx (j := (xi.toInt32)) (v := (.int (own_pl (pl xi)))) (by rw [e3]; exact Ar4.1) (State.isArrayOf_alike hZ.alike Ar4.2.1) Ar4.2.2 (own_in Sz4 hi5) hl5 (g := (mkF m 5 #[.val (.ref o0), .val (.int (xi.toInt32)), .val (.long q2), .second] [(.int (xi.toInt32)), (.ref tp)])) rfl rfl (hb hby d7_5) _ ?_
    show Steps p.tables e below (T3.setTop (mkF m 6 #[.val (.ref o0), .val (.int (xi.toInt32)), .val (.long q2), .second] [(.int (own_pl (pl xi)))])) _
    exact k)
  by_cases hs7 : (own_pl (pl xi)) < (0 : Int32)
  · have hz : pl xi = 0 := (own_pl_neg (by omega)).mp hs7
    have hnn : n < 3 := own_room3 hIV hxc hz
    obtain ⟨T8, X8, e8, st8⟩ := getF X3 hx hZ hown (host := "") (Or.inl (hw _ (List.mem_of_getElem? (i := 15) rfl))) Via.refl e3 F_place_o0 (g := (mkF m 10 #[.val (.ref o0), .val (.int (xi.toInt32)), .val (.long q2), .second] [(.ref o0)])) rfl rfl (hb hby d7_10)
    obtain ⟨T9, X9, e9, st9⟩ := getF X8 hx hZ hown (host := "") (Or.inl (hw _ (List.mem_of_getElem? (i := 27) rfl))) Via.refl e8 F_size_o0 (g := (mkF m 15 #[.val (.ref o0), .val (.int (xi.toInt32)), .val (.long q2), .second] [(.ref o0), (.int (xi.toInt32)), (.ref tp)])) rfl rfl (hb hby d7_15)
    have qa10 := A_tp
    obtain ⟨c10, Ar10, Sz10, H10⟩ := qa10
    have hi11 : 0 ≤ ((xi.toInt32) : Int32).toInt ∧ ((xi.toInt32) : Int32).toInt < (3 : Nat) := (own_bd (show xi < 3 by omega) (by decide))
    obtain ⟨T11, h11, X11, e11, W11, st11⟩ := stI X9 hx hZ e9 Ar10 (j := (xi.toInt32)) (own_in Sz10 hi11) (g := (mkF m 18 #[.val (.ref o0), .val (.int (xi.toInt32)), .val (.long q2), .second] [(.int (n.toInt32)), (.int (xi.toInt32)), (.ref tp)])) rfl rfl (hb hby d7_18)
    have N11 := Fr.snoc X11 N0 g_tp
    have A_tp_w11 : own_A Z h11 tp .int 3 (fun kk => (.int (if kk = ((xi.toInt32) : Int32).toNatClampNeg then (n.toInt32) else (own_pl (pl kk))))) := own_A.setI A_tp W11
    have A_tp_w11u : own_A Z h11 tp .int 3 (fun kk => (.int (own_pl ((own_u pl xi (n + 1)) kk)))) := own_setpl A_tp_w11 (show xi < 2147483648 by omega)
    have F_items_o0_12 : Fld Z h11 o0 "com/example/lean_layers/leanlayers/phase/layering/IndexedHeap" "items" "[I" (.ref ti) := (F_items_o0).other W11 (Or.inl ne_o0_tp)
    have F_keys_o0_12 : Fld Z h11 o0 "com/example/lean_layers/leanlayers/phase/layering/IndexedHeap" "keys" "[J" (.ref tk) := (F_keys_o0).other W11 (Or.inl ne_o0_tp)
    have F_place_o0_12 : Fld Z h11 o0 "com/example/lean_layers/leanlayers/phase/layering/IndexedHeap" "place" "[I" (.ref tp) := (F_place_o0).other W11 (Or.inl ne_o0_tp)
    have E_o0_12 : Exa Z h11 o0 "com/example/lean_layers/leanlayers/phase/layering/IndexedHeap" := (E_o0).wr W11
    have F_size_o0_12 : Fld Z h11 o0 "com/example/lean_layers/leanlayers/phase/layering/IndexedHeap" "size" "I" (.int (n.toInt32)) := (F_size_o0).other W11 (Or.inl ne_o0_tp)
    have A_ti_12 : own_A Z h11 ti .int 3 (fun kk => (.int ((it kk).toInt32))) := (A_ti).other W11 ne_ti_tp
    have A_tk_12 : own_A Z h11 tk .long 3 (fun kk => (.long (ky kk))) := (A_tk).other W11 ne_tk_tp
    have SZ13 : h0.size ≤ h11.size := by rw [W11.size]; exact (Nat.le_refl _)
    have ZZ13 : n0 ≤ h11.size := Nat.le_trans Z0 SZ13
    have K14 : Keep h0 h11 [ti, tk, tp, o0] := ((Keep.refl h0 [ti, tk, tp, o0])).wr W11 (Or.inl (List.mem_of_getElem? (i := 2) rfl))
    obtain ⟨T15, X15, e15, st15⟩ := getF X11 hx hZ hown (host := "") (Or.inl (hw _ (List.mem_of_getElem? (i := 10) rfl))) Via.refl e11 F_items_o0_12 (g := (mkF m 20 #[.val (.ref o0), .val (.int (xi.toInt32)), .val (.long q2), .second] [(.ref o0)])) rfl rfl (hb hby d7_20)
    obtain ⟨T16, X16, e16, st16⟩ := getF X15 hx hZ hown (host := "") (Or.inl (hw _ (List.mem_of_getElem? (i := 27) rfl))) Via.refl e15 F_size_o0_12 (g := (mkF m 24 #[.val (.ref o0), .val (.int (xi.toInt32)), .val (.long q2), .second] [(.ref o0), (.ref ti)])) rfl rfl (hb hby d7_24)
    have qa17 := A_ti_12
    obtain ⟨c17, Ar17, Sz17, H17⟩ := qa17
    have hi18 : 0 ≤ ((n.toInt32) : Int32).toInt ∧ ((n.toInt32) : Int32).toInt < (3 : Nat) := (own_bd (show n < 3 by omega) (by decide))
    obtain ⟨T18, h18, X18, e18, W18, st18⟩ := stI X16 hx hZ e16 Ar17 (j := (n.toInt32)) (own_in Sz17 hi18) (g := (mkF m 28 #[.val (.ref o0), .val (.int (xi.toInt32)), .val (.long q2), .second] [(.int (xi.toInt32)), (.int (n.toInt32)), (.ref ti)])) rfl rfl (hb hby d7_28)
    have N18 := Fr.snoc X18 N11 g_ti
    have A_ti_w18 : own_A Z h18 ti .int 3 (fun kk => (.int (if kk = ((n.toInt32) : Int32).toNatClampNeg then (xi.toInt32) else ((it kk).toInt32)))) := own_A.setI A_ti_12 W18
    have A_ti_w18u : own_A Z h18 ti .int 3 (fun kk => (.int (((own_u it n xi) kk).toInt32))) := own_setit A_ti_w18 (show n < 2147483648 by omega)
    have F_items_o0_19 : Fld Z h18 o0 "com/example/lean_layers/leanlayers/phase/layering/IndexedHeap" "items" "[I" (.ref ti) := (F_items_o0_12).other W18 (Or.inl ne_o0_ti)
    have F_keys_o0_19 : Fld Z h18 o0 "com/example/lean_layers/leanlayers/phase/layering/IndexedHeap" "keys" "[J" (.ref tk) := (F_keys_o0_12).other W18 (Or.inl ne_o0_ti)
    have F_place_o0_19 : Fld Z h18 o0 "com/example/lean_layers/leanlayers/phase/layering/IndexedHeap" "place" "[I" (.ref tp) := (F_place_o0_12).other W18 (Or.inl ne_o0_ti)
    have E_o0_19 : Exa Z h18 o0 "com/example/lean_layers/leanlayers/phase/layering/IndexedHeap" := (E_o0_12).wr W18
    have F_size_o0_19 : Fld Z h18 o0 "com/example/lean_layers/leanlayers/phase/layering/IndexedHeap" "size" "I" (.int (n.toInt32)) := (F_size_o0_12).other W18 (Or.inl ne_o0_ti)
    have A_tk_19 : own_A Z h18 tk .long 3 (fun kk => (.long (ky kk))) := (A_tk_12).other W18 (Ne.symm ne_ti_tk)
    have A_tp_19 : own_A Z h18 tp .int 3 (fun kk => (.int (own_pl ((own_u pl xi (n + 1)) kk)))) := (A_tp_w11u).other W18 (Ne.symm ne_ti_tp)
    have SZ20 : h0.size ≤ h18.size := by rw [W18.size]; exact SZ13
    have ZZ20 : n0 ≤ h18.size := Nat.le_trans Z0 SZ20
    have K21 : Keep h0 h18 [ti, tk, tp, o0] := (K14).wr W18 (Or.inl (List.mem_of_getElem? (i := 0) rfl))
    obtain ⟨T22, X22, e22, st22⟩ := getF X18 hx hZ hown (host := "") (Or.inl (hw _ (List.mem_of_getElem? (i := 27) rfl))) Via.refl e18 F_size_o0_19 (g := (mkF m 31 #[.val (.ref o0), .val (.int (xi.toInt32)), .val (.long q2), .second] [(.ref o0), (.ref o0)])) rfl rfl (hb hby d7_31)
    obtain ⟨T23, h23, X23, e23, W23, st23⟩ := putF X22 hx hZ hown (host := "") (Or.inl (hw _ (List.mem_of_getElem? (i := 27) rfl))) Via.refl e22 F_size_o0_19 E_o0_19 (Or.inl (hw _ (List.mem_of_getElem? (i := 28) rfl))) (hw _ (List.mem_of_getElem? (i := 1) rfl)) (ty := .int) (by decide) rfl rfl (g := (mkF m 36 #[.val (.ref o0), .val (.int (xi.toInt32)), .val (.long q2), .second] [(.int ((n.toInt32) + (1 : Int32))), (.ref o0)])) rfl rfl (hb hby d7_36)
    have N23 := Fr.snoc X23 N18 g_o0
    have F_size_o0_w23 : Fld Z h23 o0 "com/example/lean_layers/leanlayers/phase/layering/IndexedHeap" "size" "I" (.int ((n.toInt32) + (1 : Int32))) := (F_size_o0_19).same W23
    have F_items_o0_24 : Fld Z h23 o0 "com/example/lean_layers/leanlayers/phase/layering/IndexedHeap" "items" "[I" (.ref ti) := (F_items_o0_19).other W23 (Or.inr (slot_ne (Or.inr (hw _ (List.mem_of_getElem? (i := 11) rfl))) (Or.inl (hw _ (List.mem_of_getElem? (i := 28) rfl))) (by decide) (t := (.array .int)) (t' := .int) (by decide) (by decide)))
    have F_keys_o0_24 : Fld Z h23 o0 "com/example/lean_layers/leanlayers/phase/layering/IndexedHeap" "keys" "[J" (.ref tk) := (F_keys_o0_19).other W23 (Or.inr (slot_ne (Or.inr (hw _ (List.mem_of_getElem? (i := 14) rfl))) (Or.inl (hw _ (List.mem_of_getElem? (i := 28) rfl))) (by decide) (t := (.array .long)) (t' := .int) (by decide) (by decide)))
    have F_place_o0_24 : Fld Z h23 o0 "com/example/lean_layers/leanlayers/phase/layering/IndexedHeap" "place" "[I" (.ref tp) := (F_place_o0_19).other W23 (Or.inr (slot_ne (Or.inr (hw _ (List.mem_of_getElem? (i := 16) rfl))) (Or.inl (hw _ (List.mem_of_getElem? (i := 28) rfl))) (by decide) (t := (.array .int)) (t' := .int) (by decide) (by decide)))
    have E_o0_24 : Exa Z h23 o0 "com/example/lean_layers/leanlayers/phase/layering/IndexedHeap" := (E_o0_19).wr W23
    have A_tk_24 : own_A Z h23 tk .long 3 (fun kk => (.long (ky kk))) := (A_tk_19).other W23 (Ne.symm ne_o0_tk)
    have A_tp_24 : own_A Z h23 tp .int 3 (fun kk => (.int (own_pl ((own_u pl xi (n + 1)) kk)))) := (A_tp_19).other W23 (Ne.symm ne_o0_tp)
    have A_ti_24 : own_A Z h23 ti .int 3 (fun kk => (.int (((own_u it n xi) kk).toInt32))) := (A_ti_w18u).other W23 (Ne.symm ne_o0_ti)
    have SZ25 : h0.size ≤ h23.size := by rw [W23.size]; exact SZ20
    have ZZ25 : n0 ≤ h23.size := Nat.le_trans Z0 SZ25
    have K26 : Keep h0 h23 [ti, tk, tp, o0] := (K21).wr W23 (Or.inl (List.mem_of_getElem? (i := 3) rfl))
    have Fz27 : Fld Z h23 o0 "com/example/lean_layers/leanlayers/phase/layering/IndexedHeap" "size" "I" (.int ((n + 1).toInt32)) := own_inc n ▸ F_size_o0_w23
    have hh39 : (own_u pl xi (n + 1)) xi ≠ 0 := by rw [own_u_same]; exact Nat.succ_ne_zero n
    obtain ⟨T28, X28, e28, st28⟩ := getF X23 hx hZ hown (host := "") (Or.inl (hw _ (List.mem_of_getElem? (i := 13) rfl))) Via.refl e23 F_keys_o0_24 (g := (mkF m 40 #[.val (.ref o0), .val (.int (xi.toInt32)), .val (.long q2), .second] [(.ref o0)])) rfl rfl (hb hby d7_40)
    have qa29 := A_tk_24
    obtain ⟨c29, Ar29, Sz29, H29⟩ := qa29
    have hi30 : 0 ≤ ((xi.toInt32) : Int32).toInt ∧ ((xi.toInt32) : Int32).toInt < (3 : Nat) := (own_bd (show xi < 3 by omega) (by decide))
    obtain ⟨T30, h30, X30, e30, W30, st30⟩ := stJ X28 hx hZ e28 Ar29 (j := (xi.toInt32)) (own_in Sz29 hi30) (g := (mkF m 45 #[.val (.ref o0), .val (.int (xi.toInt32)), .val (.long q2), .second] [(.long q2), (.int (xi.toInt32)), (.ref tk)])) rfl rfl (hb hby d7_45)
    have N30 := Fr.snoc X30 N23 g_tk
    have A_tk_w30 : own_A Z h30 tk .long 3 (fun kk => (.long (if kk = ((xi.toInt32) : Int32).toNatClampNeg then q2 else (ky kk)))) := own_A.setJ A_tk_24 W30
    have A_tk_w30u : own_A Z h30 tk .long 3 (fun kk => (.long ((own_uk ky xi q2) kk))) := own_setk A_tk_w30 (show xi < 2147483648 by omega)
    have F_items_o0_31 : Fld Z h30 o0 "com/example/lean_layers/leanlayers/phase/layering/IndexedHeap" "items" "[I" (.ref ti) := (F_items_o0_24).other W30 (Or.inl ne_o0_tk)
    have F_keys_o0_31 : Fld Z h30 o0 "com/example/lean_layers/leanlayers/phase/layering/IndexedHeap" "keys" "[J" (.ref tk) := (F_keys_o0_24).other W30 (Or.inl ne_o0_tk)
    have F_place_o0_31 : Fld Z h30 o0 "com/example/lean_layers/leanlayers/phase/layering/IndexedHeap" "place" "[I" (.ref tp) := (F_place_o0_24).other W30 (Or.inl ne_o0_tk)
    have E_o0_31 : Exa Z h30 o0 "com/example/lean_layers/leanlayers/phase/layering/IndexedHeap" := (E_o0_24).wr W30
    have A_tp_31 : own_A Z h30 tp .int 3 (fun kk => (.int (own_pl ((own_u pl xi (n + 1)) kk)))) := (A_tp_24).other W30 (Ne.symm ne_tk_tp)
    have A_ti_31 : own_A Z h30 ti .int 3 (fun kk => (.int (((own_u it n xi) kk).toInt32))) := (A_ti_24).other W30 ne_ti_tk
    have F_size_o0_31 : Fld Z h30 o0 "com/example/lean_layers/leanlayers/phase/layering/IndexedHeap" "size" "I" (.int ((n + 1).toInt32)) := (Fz27).other W30 (Or.inl ne_o0_tk)
    have SZ32 : h0.size ≤ h30.size := by rw [W30.size]; exact SZ25
    have ZZ32 : n0 ≤ h30.size := Nat.le_trans Z0 SZ32
    have K33 : Keep h0 h30 [ti, tk, tp, o0] := (K26).wr W30 (Or.inl (List.mem_of_getElem? (i := 1) rfl))
    obtain ⟨T34, X34, e34, st34⟩ := getF X30 hx hZ hown (host := "") (Or.inl (hw _ (List.mem_of_getElem? (i := 15) rfl))) Via.refl e30 F_place_o0_31 (g := (mkF m 48 #[.val (.ref o0), .val (.int (xi.toInt32)), .val (.long q2), .second] [(.ref o0), (.ref o0)])) rfl rfl (hb hby d7_48)
    have qa35 := A_tp_31
    obtain ⟨c35, Ar35, Sz35, H35⟩ := qa35
    have hi36 : 0 ≤ ((xi.toInt32) : Int32).toInt ∧ ((xi.toInt32) : Int32).toInt < (3 : Nat) := (own_bd (show xi < 3 by omega) (by decide))
    obtain ⟨j37, hj37, hpj37, hij37⟩ := own_IV_held (own_IV_put hIV hxc hz hnn) hxc hh39
    have hl36 : c35.slots[((xi.toInt32) : Int32).toNatClampNeg]? = some (.int (j37.toInt32)) := by rw [show (j37.toInt32) = ((own_pl ((own_u pl xi (n + 1)) ((xi.toInt32) : Int32).toNatClampNeg))) from by rw [own_tn (show xi < 2147483648 by omega), hpj37, own_pl_succ]]; exact H35 _ (own_ix hi36)
    obtain ⟨cq38, q38, q38'⟩ := (E_o0_31).cell
    obtain ⟨_, _, ⟨T38, L38, k38, n38⟩, -, X38, ⟨Lc38, hQ38, l38, y38, z38⟩, st38⟩ := X34.privateBack hx (y := (⟨"com/example/lean_layers/leanlayers/phase/layering/IndexedHeap", "siftUp", "(I)V"⟩ : MethodName)) hown (mvT hZ (hw _ (List.mem_of_getElem? (i := 43) rfl))) (mvT hZ (hw _ (List.mem_of_getElem? (i := 44) rfl))) (own_selp (y := (⟨"com/example/lean_layers/leanlayers/phase/layering/IndexedHeap", "siftUp", "(I)V"⟩ : MethodName)) (mvT hZ (hw _ (List.mem_of_getElem? (i := 1) rfl))) (Cond.privateMethod_at (mvP hZ (hw _ (List.mem_of_getElem? (i := 45) rfl)) (args := #[]))) (mvT hZ (hw _ (List.mem_of_getElem? (i := 44) rfl))) (by decide)) (Cond.privateMethod_at (mvP hZ (hw _ (List.mem_of_getElem? (i := 45) rfl)) (args := #[]))) (mvT hZ (hw _ (List.mem_of_getElem? (i := 46) rfl))) (by decide) (backOf (W := 0) (rm8 l Z a0 hw [] o0 (j37.toInt32) ti tk tp (own_uk ky xi q2) (own_u it n xi) (own_u pl xi (n + 1)) (n + 1) j37 h30 n0 ZZ32 F_items_o0_31 F_keys_o0_31 F_place_o0_31 E_o0_31 F_size_o0_31 A_ti_31 A_tk_w30u A_tp_31 g_ti g_tp ne_o0_ti ne_o0_tk ne_o0_tp ne_ti_tk ne_ti_tp ne_tk_tp rfl hj37 (own_IV_put hIV hxc hz hnn)) hZ (hw _ (List.mem_of_getElem? (i := 46) rfl)) (hw _ (List.mem_of_getElem? (i := 2) rfl)) (by decide) (by decide)) (g := (mkF m 53 #[.val (.ref o0), .val (.int (xi.toInt32)), .val (.long q2), .second] [(.int (j37.toInt32)), (.ref o0)])) rfl (by rw [hml]; rfl) (Steps.refl _) (a := o0) (by rw [e34]; exact q38) q38' (argsL := [(.int (j37.toInt32))]) (rest := []) (lenOf pd_3 rfl) rfl (by show 2 * 0 + _ ≤ _; exact Nat.le_of_eq rfl) (hb hby d7_53) (fun _ _ => ⟨rfl, e34, (by decide : 0 + 0 ≤ _), (by decide : 0 + 0 ≤ _)⟩)
    dsimp only [Pt.U, Pt.locs, Pt.cells, Pt.slots] at X38 l38 y38 z38 st38 hQ38
    subst y38 z38
    obtain ⟨it2_38, pl2_38, rfl, N38q, Kc38, P38_0, P38_1, P38_2, P38_3⟩ := hQ38
    have N38 := Fr.app N30 N38q
    rw [← l38] at N38
    have F_items_o0_39 : Fld Z T38.heap o0 "com/example/lean_layers/leanlayers/phase/layering/IndexedHeap" "items" "[I" (.ref ti) := (F_items_o0_31).keep Kc38 (ninS ne_o0_ti (ninS ne_o0_tp nin0))
    have F_keys_o0_39 : Fld Z T38.heap o0 "com/example/lean_layers/leanlayers/phase/layering/IndexedHeap" "keys" "[J" (.ref tk) := (F_keys_o0_31).keep Kc38 (ninS ne_o0_ti (ninS ne_o0_tp nin0))
    have F_place_o0_39 : Fld Z T38.heap o0 "com/example/lean_layers/leanlayers/phase/layering/IndexedHeap" "place" "[I" (.ref tp) := (F_place_o0_31).keep Kc38 (ninS ne_o0_ti (ninS ne_o0_tp nin0))
    have E_o0_39 : Exa Z T38.heap o0 "com/example/lean_layers/leanlayers/phase/layering/IndexedHeap" := (E_o0_31).keep Kc38
    have F_size_o0_39 : Fld Z T38.heap o0 "com/example/lean_layers/leanlayers/phase/layering/IndexedHeap" "size" "I" (.int ((n + 1).toInt32)) := (F_size_o0_31).keep Kc38 (ninS ne_o0_ti (ninS ne_o0_tp nin0))
    have A_tk_39 : own_A Z T38.heap tk .long 3 (fun kk => (.long ((own_uk ky xi q2) kk))) := (A_tk_w30u).keep Kc38 (ninS (Ne.symm ne_ti_tk) (ninS ne_tk_tp nin0))
    have SZ40 : h0.size ≤ T38.heap.size := Nat.le_trans SZ32 Kc38.1
    have ZZ40 : n0 ≤ T38.heap.size := Nat.le_trans Z0 SZ40
    have K41 : Keep h0 T38.heap [ti, tk, tp, o0] := (K33).trans Kc38 (allS (Or.inl (List.mem_of_getElem? (i := 0) rfl)) (allS (Or.inl (List.mem_of_getElem? (i := 2) rfl)) all0))
    obtain ⟨T42, X42, e42, st42⟩ := getF X38 hx hZ hown (host := "") (Or.inl (hw _ (List.mem_of_getElem? (i := 15) rfl))) Via.refl rfl F_place_o0_39 (g := (mkF m 58 #[.val (.ref o0), .val (.int (xi.toInt32)), .val (.long q2), .second] [(.ref o0), (.ref o0)])) rfl rfl (hb hby d7_58)
    have qa43 := P38_1
    obtain ⟨c43, Ar43, Sz43, H43⟩ := qa43
    have hi44 : 0 ≤ ((xi.toInt32) : Int32).toInt ∧ ((xi.toInt32) : Int32).toInt < (3 : Nat) := (own_bd (show xi < 3 by omega) (by decide))
    obtain ⟨j45, hj45, hpj45, hij45⟩ := own_IV_held P38_2 hxc (fun z => hh39 ((P38_3 xi hxc).mp z))
    have hl44 : c43.slots[((xi.toInt32) : Int32).toNatClampNeg]? = some (.int (j45.toInt32)) := by rw [show (j45.toInt32) = ((own_pl (pl2_38 ((xi.toInt32) : Int32).toNatClampNeg))) from by rw [own_tn (show xi < 2147483648 by omega), hpj45, own_pl_succ]]; exact H43 _ (own_ix hi44)
    obtain ⟨cq46, q46, q46'⟩ := (E_o0_39).cell
    obtain ⟨_, _, ⟨T46, L46, k46, n46⟩, -, X46, ⟨Lc46, hQ46, l46, y46, z46⟩, st46⟩ := X42.privateBack hx (y := (⟨"com/example/lean_layers/leanlayers/phase/layering/IndexedHeap", "siftDown", "(I)V"⟩ : MethodName)) hown (mvT hZ (hw _ (List.mem_of_getElem? (i := 51) rfl))) (mvT hZ (hw _ (List.mem_of_getElem? (i := 52) rfl))) (own_selp (y := (⟨"com/example/lean_layers/leanlayers/phase/layering/IndexedHeap", "siftDown", "(I)V"⟩ : MethodName)) (mvT hZ (hw _ (List.mem_of_getElem? (i := 1) rfl))) (Cond.privateMethod_at (mvP hZ (hw _ (List.mem_of_getElem? (i := 53) rfl)) (args := #[]))) (mvT hZ (hw _ (List.mem_of_getElem? (i := 52) rfl))) (by decide)) (Cond.privateMethod_at (mvP hZ (hw _ (List.mem_of_getElem? (i := 53) rfl)) (args := #[]))) (mvT hZ (hw _ (List.mem_of_getElem? (i := 54) rfl))) (by decide) (backOf (W := 0) (rm10 l Z a0 hw [] o0 (j45.toInt32) ti tk tp (own_uk ky xi q2) it2_38 pl2_38 (n + 1) j45 T38.heap n0 ZZ40 F_items_o0_39 F_keys_o0_39 F_place_o0_39 E_o0_39 F_size_o0_39 P38_0 A_tk_39 P38_1 g_ti g_tp ne_o0_ti ne_o0_tk ne_o0_tp ne_ti_tk ne_ti_tp ne_tk_tp rfl hj45 P38_2) hZ (hw _ (List.mem_of_getElem? (i := 54) rfl)) (hw _ (List.mem_of_getElem? (i := 2) rfl)) (by decide) (by decide)) (g := (mkF m 63 #[.val (.ref o0), .val (.int (xi.toInt32)), .val (.long q2), .second] [(.int (j45.toInt32)), (.ref o0)])) rfl (by rw [hml]; rfl) (Steps.refl _) (a := o0) (by rw [e42]; exact q46) q46' (argsL := [(.int (j45.toInt32))]) (rest := []) (lenOf pd_3 rfl) rfl (by show 2 * 0 + _ ≤ _; exact Nat.le_of_eq rfl) (hb hby d7_63) (fun _ _ => ⟨rfl, e42, (by decide : 0 + 0 ≤ _), (by decide : 0 + 0 ≤ _)⟩)
    dsimp only [Pt.U, Pt.locs, Pt.cells, Pt.slots] at X46 l46 y46 z46 st46 hQ46
    subst y46 z46
    obtain ⟨it2_46, pl2_46, rfl, N46q, Kc46, P46_0, P46_1, P46_2, P46_3⟩ := hQ46
    have N46 := Fr.app N38 N46q
    rw [← l46] at N46
    have F_items_o0_47 : Fld Z T46.heap o0 "com/example/lean_layers/leanlayers/phase/layering/IndexedHeap" "items" "[I" (.ref ti) := (F_items_o0_39).keep Kc46 (ninS ne_o0_ti (ninS ne_o0_tp nin0))
    have F_keys_o0_47 : Fld Z T46.heap o0 "com/example/lean_layers/leanlayers/phase/layering/IndexedHeap" "keys" "[J" (.ref tk) := (F_keys_o0_39).keep Kc46 (ninS ne_o0_ti (ninS ne_o0_tp nin0))
    have F_place_o0_47 : Fld Z T46.heap o0 "com/example/lean_layers/leanlayers/phase/layering/IndexedHeap" "place" "[I" (.ref tp) := (F_place_o0_39).keep Kc46 (ninS ne_o0_ti (ninS ne_o0_tp nin0))
    have E_o0_47 : Exa Z T46.heap o0 "com/example/lean_layers/leanlayers/phase/layering/IndexedHeap" := (E_o0_39).keep Kc46
    have F_size_o0_47 : Fld Z T46.heap o0 "com/example/lean_layers/leanlayers/phase/layering/IndexedHeap" "size" "I" (.int ((n + 1).toInt32)) := (F_size_o0_39).keep Kc46 (ninS ne_o0_ti (ninS ne_o0_tp nin0))
    have A_tk_47 : own_A Z T46.heap tk .long 3 (fun kk => (.long ((own_uk ky xi q2) kk))) := (A_tk_39).keep Kc46 (ninS (Ne.symm ne_ti_tk) (ninS ne_tk_tp nin0))
    have SZ48 : h0.size ≤ T46.heap.size := Nat.le_trans SZ40 Kc46.1
    have ZZ48 : n0 ≤ T46.heap.size := Nat.le_trans Z0 SZ48
    have K49 : Keep h0 T46.heap [ti, tk, tp, o0] := (K41).trans Kc46 (allS (Or.inl (List.mem_of_getElem? (i := 0) rfl)) (allS (Or.inl (List.mem_of_getElem? (i := 2) rfl)) all0))
    have pre50 : ∀ t, Steps p.tables e below (T46.setTop (mkF m 66 #[.val (.ref o0), .val (.int (xi.toInt32)), .val (.long q2), .second] [])) t → Steps p.tables e below (s₁.setTop (entryFrame m #[(.ref o0), (.int p1), (.long q2)] 4)) t := fun t k => pre6 t (by
      refine XS.ifNo X3.here hx rfl (hb hby d7_6) rfl ((if0 _ _).trans (tlt hs7).2.1) ?_
      show Steps p.tables e below (T3.setTop (mkF m 9 #[.val (.ref o0), .val (.int (xi.toInt32)), .val (.long q2), .second] [])) _
      refine XS.aloadN X3.here hx rfl (hb hby d7_9) rfl rfl ?_
      show Steps p.tables e below (T3.setTop (mkF m 10 #[.val (.ref o0), .val (.int (xi.toInt32)), .val (.long q2), .second] [(.ref o0)])) _
      refine st8 _ ?_
      show Steps p.tables e below (T8.setTop (mkF m 13 #[.val (.ref o0), .val (.int (xi.toInt32)), .val (.long q2), .second] [(.ref tp)])) _
      refine XS.iloadN X8.here hx rfl (hb hby d7_13) rfl ?_
      show Steps p.tables e below (T8.setTop (mkF m 14 #[.val (.ref o0), .val (.int (xi.toInt32)), .val (.long q2), .second] [(.int (xi.toInt32)), (.ref tp)])) _
      refine XS.aloadN X8.here hx rfl (hb hby d7_14) rfl rfl ?_
      show Steps p.tables e below (T8.setTop (mkF m 15 #[.val (.ref o0), .val (.int (xi.toInt32)), .val (.long q2), .second] [(.ref o0), (.int (xi.toInt32)), (.ref tp)])) _
      refine st9 _ ?_
      show Steps p.tables e below (T9.setTop (mkF m 18 #[.val (.ref o0), .val (.int (xi.toInt32)), .val (.long q2), .second] [(.int (n.toInt32)), (.int (xi.toInt32)), (.ref tp)])) _
      refine st11 _ ?_
      show Steps p.tables e below (T11.setTop (mkF m 19 #[.val (.ref o0), .val (.int (xi.toInt32)), .val (.long q2), .second] [])) _
      refine XS.aloadN X11.here hx rfl (hb hby d7_19) rfl rfl ?_
      show Steps p.tables e below (T11.setTop (mkF m 20 #[.val (.ref o0), .val (.int (xi.toInt32)), .val (.long q2), .second] [(.ref o0)])) _
      refine st15 _ ?_
      show Steps p.tables e below (T15.setTop (mkF m 23 #[.val (.ref o0), .val (.int (xi.toInt32)), .val (.long q2), .second] [(.ref ti)])) _
      refine XS.aloadN X15.here hx rfl (hb hby d7_23) rfl rfl ?_
      show Steps p.tables e below (T15.setTop (mkF m 24 #[.val (.ref o0), .val (.int (xi.toInt32)), .val (.long q2), .second] [(.ref o0), (.ref ti)])) _
      refine st16 _ ?_
      show Steps p.tables e below (T16.setTop (mkF m 27 #[.val (.ref o0), .val (.int (xi.toInt32)), .val (.long q2), .second] [(.int (n.toInt32)), (.ref ti)])) _
      refine XS.iloadN X16.here hx rfl (hb hby d7_27) rfl ?_
      show Steps p.tables e below (T16.setTop (mkF m 28 #[.val (.ref o0), .val (.int (xi.toInt32)), .val (.long q2), .second] [(.int (xi.toInt32)), (.int (n.toInt32)), (.ref ti)])) _
      refine st18 _ ?_
      show Steps p.tables e below (T18.setTop (mkF m 29 #[.val (.ref o0), .val (.int (xi.toInt32)), .val (.long q2), .second] [])) _
      refine XS.aloadN X18.here hx rfl (hb hby d7_29) rfl rfl ?_
      show Steps p.tables e below (T18.setTop (mkF m 30 #[.val (.ref o0), .val (.int (xi.toInt32)), .val (.long q2), .second] [(.ref o0)])) _
      refine XS.dup X18.here hx rfl (hb hby d7_30) rfl rfl ?_
      show Steps p.tables e below (T18.setTop (mkF m 31 #[.val (.ref o0), .val (.int (xi.toInt32)), .val (.long q2), .second] [(.ref o0), (.ref o0)])) _
      refine st22 _ ?_
      show Steps p.tables e below (T22.setTop (mkF m 34 #[.val (.ref o0), .val (.int (xi.toInt32)), .val (.long q2), .second] [(.int (n.toInt32)), (.ref o0)])) _
      refine XS.iconst X22.here hx rfl (hb hby d7_34) ?_
      show Steps p.tables e below (T22.setTop (mkF m 35 #[.val (.ref o0), .val (.int (xi.toInt32)), .val (.long q2), .second] [(.int (1 : Int32)), (.int (n.toInt32)), (.ref o0)])) _
      refine XS.iadd X22.here hx rfl (hb hby d7_35) rfl ?_
      show Steps p.tables e below (T22.setTop (mkF m 36 #[.val (.ref o0), .val (.int (xi.toInt32)), .val (.long q2), .second] [(.int ((n.toInt32) + (1 : Int32))), (.ref o0)])) _
      refine st23 _ ?_
      show Steps p.tables e below (T23.setTop (mkF m 39 #[.val (.ref o0), .val (.int (xi.toInt32)), .val (.long q2), .second] [])) _
      refine XS.aloadN X23.here hx rfl (hb hby d7_39) rfl rfl ?_
      show Steps p.tables e below (T23.setTop (mkF m 40 #[.val (.ref o0), .val (.int (xi.toInt32)), .val (.long q2), .second] [(.ref o0)])) _
      refine st28 _ ?_
      show Steps p.tables e below (T28.setTop (mkF m 43 #[.val (.ref o0), .val (.int (xi.toInt32)), .val (.long q2), .second] [(.ref tk)])) _
      refine XS.iloadN X28.here hx rfl (hb hby d7_43) rfl ?_
      show Steps p.tables e below (T28.setTop (mkF m 44 #[.val (.ref o0), .val (.int (xi.toInt32)), .val (.long q2), .second] [(.int (xi.toInt32)), (.ref tk)])) _
      refine XS.lloadN X28.here hx rfl (hb hby d7_44) rfl ?_
      show Steps p.tables e below (T28.setTop (mkF m 45 #[.val (.ref o0), .val (.int (xi.toInt32)), .val (.long q2), .second] [(.long q2), (.int (xi.toInt32)), (.ref tk)])) _
      refine st30 _ ?_
      show Steps p.tables e below (T30.setTop (mkF m 46 #[.val (.ref o0), .val (.int (xi.toInt32)), .val (.long q2), .second] [])) _
      refine XS.aloadN X30.here hx rfl (hb hby d7_46) rfl rfl ?_
      show Steps p.tables e below (T30.setTop (mkF m 47 #[.val (.ref o0), .val (.int (xi.toInt32)), .val (.long q2), .second] [(.ref o0)])) _
      refine XS.aloadN X30.here hx rfl (hb hby d7_47) rfl rfl ?_
      show Steps p.tables e below (T30.setTop (mkF m 48 #[.val (.ref o0), .val (.int (xi.toInt32)), .val (.long q2), .second] [(.ref o0), (.ref o0)])) _
      refine st34 _ ?_
      show Steps p.tables e below (T34.setTop (mkF m 51 #[.val (.ref o0), .val (.int (xi.toInt32)), .val (.long q2), .second] [(.ref tp), (.ref o0)])) _
      refine XS.iloadN X34.here hx rfl (hb hby d7_51) rfl ?_
      show Steps p.tables e below (T34.setTop (mkF m 52 #[.val (.ref o0), .val (.int (xi.toInt32)), .val (.long q2), .second] [(.int (xi.toInt32)), (.ref tp), (.ref o0)])) _
      refine X34.iaload hx (j := (xi.toInt32)) (v := (.int (j37.toInt32))) (by rw [e34]; exact Ar35.1) (State.isArrayOf_alike hZ.alike Ar35.2.1) Ar35.2.2 (own_in Sz35 hi36) hl36 (g := (mkF m 52 #[.val (.ref o0), .val (.int (xi.toInt32)), .val (.long q2), .second] [(.int (xi.toInt32)), (.ref tp), (.ref o0)])) rfl rfl (hb hby d7_52) _ ?_
      show Steps p.tables e below (T34.setTop (mkF m 53 #[.val (.ref o0), .val (.int (xi.toInt32)), .val (.long q2), .second] [(.int (j37.toInt32)), (.ref o0)])) _
      refine st38.trans ?_
      show Steps p.tables e below (T38.setTop (mkF m 56 #[.val (.ref o0), .val (.int (xi.toInt32)), .val (.long q2), .second] [])) _
      refine XS.aloadN X38.here hx rfl (hb hby d7_56) rfl rfl ?_
      show Steps p.tables e below (T38.setTop (mkF m 57 #[.val (.ref o0), .val (.int (xi.toInt32)), .val (.long q2), .second] [(.ref o0)])) _
      refine XS.aloadN X38.here hx rfl (hb hby d7_57) rfl rfl ?_
      show Steps p.tables e below (T38.setTop (mkF m 58 #[.val (.ref o0), .val (.int (xi.toInt32)), .val (.long q2), .second] [(.ref o0), (.ref o0)])) _
      refine st42 _ ?_
      show Steps p.tables e below (T42.setTop (mkF m 61 #[.val (.ref o0), .val (.int (xi.toInt32)), .val (.long q2), .second] [(.ref tp), (.ref o0)])) _
      refine XS.iloadN X42.here hx rfl (hb hby d7_61) rfl ?_
      show Steps p.tables e below (T42.setTop (mkF m 62 #[.val (.ref o0), .val (.int (xi.toInt32)), .val (.long q2), .second] [(.int (xi.toInt32)), (.ref tp), (.ref o0)])) _
      refine X42.iaload hx (j := (xi.toInt32)) (v := (.int (j45.toInt32))) (by rw [e42]; exact Ar43.1) (State.isArrayOf_alike hZ.alike Ar43.2.1) Ar43.2.2 (own_in Sz43 hi44) hl44 (g := (mkF m 62 #[.val (.ref o0), .val (.int (xi.toInt32)), .val (.long q2), .second] [(.int (xi.toInt32)), (.ref tp), (.ref o0)])) rfl rfl (hb hby d7_62) _ ?_
      show Steps p.tables e below (T42.setTop (mkF m 63 #[.val (.ref o0), .val (.int (xi.toInt32)), .val (.long q2), .second] [(.int (j45.toInt32)), (.ref o0)])) _
      refine st46.trans ?_
      show Steps p.tables e below (T46.setTop (mkF m 66 #[.val (.ref o0), .val (.int (xi.toInt32)), .val (.long q2), .second] [])) _
      exact k)
    obtain ⟨fs, hr, hrun, hended, hW, hsame⟩ := X46.leave (v := none) (fun _ => rfl)
    refine ⟨_, _, pre50 _ ?_, hrun, hended, _, _, rfl, ?_, ⟨_, rfl⟩, hW, hsame.mono (by decide) (by decide)⟩
    · exact X46.returnOut hx Bd.returns (hb hby d7_66) hr
    · show Q7 Z o0 p1 q2 ti tk tp ky it pl n xi h0 n0 _ T46.heap _
      skip
      exact ⟨(n + 1), it2_46, pl2_46, rfl, N46, K49, F_size_o0_47, F_items_o0_47, F_keys_o0_47, F_place_o0_47, P46_0, A_tk_47, P46_1, P46_2, (fun y hy => ((P46_3 y hy).trans ((P38_3 y hy).trans ((own_held_put (Nat.succ_ne_zero n)) y hy))))⟩
  · have hz : pl xi ≠ 0 := fun q => hs7 ((own_pl_neg (by omega)).mpr q)
    obtain ⟨T51, X51, e51, st51⟩ := getF X3 hx hZ hown (host := "") (Or.inl (hw _ (List.mem_of_getElem? (i := 13) rfl))) Via.refl e3 F_keys_o0 (g := (mkF m 40 #[.val (.ref o0), .val (.int (xi.toInt32)), .val (.long q2), .second] [(.ref o0)])) rfl rfl (hb hby d7_40)
    have qa52 := A_tk
    obtain ⟨c52, Ar52, Sz52, H52⟩ := qa52
    have hi53 : 0 ≤ ((xi.toInt32) : Int32).toInt ∧ ((xi.toInt32) : Int32).toInt < (3 : Nat) := (own_bd (show xi < 3 by omega) (by decide))
    obtain ⟨T53, h53, X53, e53, W53, st53⟩ := stJ X51 hx hZ e51 Ar52 (j := (xi.toInt32)) (own_in Sz52 hi53) (g := (mkF m 45 #[.val (.ref o0), .val (.int (xi.toInt32)), .val (.long q2), .second] [(.long q2), (.int (xi.toInt32)), (.ref tk)])) rfl rfl (hb hby d7_45)
    have N53 := Fr.snoc X53 N0 g_tk
    have A_tk_w53 : own_A Z h53 tk .long 3 (fun kk => (.long (if kk = ((xi.toInt32) : Int32).toNatClampNeg then q2 else (ky kk)))) := own_A.setJ A_tk W53
    have A_tk_w53u : own_A Z h53 tk .long 3 (fun kk => (.long ((own_uk ky xi q2) kk))) := own_setk A_tk_w53 (show xi < 2147483648 by omega)
    have F_items_o0_54 : Fld Z h53 o0 "com/example/lean_layers/leanlayers/phase/layering/IndexedHeap" "items" "[I" (.ref ti) := (F_items_o0).other W53 (Or.inl ne_o0_tk)
    have F_keys_o0_54 : Fld Z h53 o0 "com/example/lean_layers/leanlayers/phase/layering/IndexedHeap" "keys" "[J" (.ref tk) := (F_keys_o0).other W53 (Or.inl ne_o0_tk)
    have F_place_o0_54 : Fld Z h53 o0 "com/example/lean_layers/leanlayers/phase/layering/IndexedHeap" "place" "[I" (.ref tp) := (F_place_o0).other W53 (Or.inl ne_o0_tk)
    have E_o0_54 : Exa Z h53 o0 "com/example/lean_layers/leanlayers/phase/layering/IndexedHeap" := (E_o0).wr W53
    have F_size_o0_54 : Fld Z h53 o0 "com/example/lean_layers/leanlayers/phase/layering/IndexedHeap" "size" "I" (.int (n.toInt32)) := (F_size_o0).other W53 (Or.inl ne_o0_tk)
    have A_ti_54 : own_A Z h53 ti .int 3 (fun kk => (.int ((it kk).toInt32))) := (A_ti).other W53 ne_ti_tk
    have A_tp_54 : own_A Z h53 tp .int 3 (fun kk => (.int (own_pl (pl kk)))) := (A_tp).other W53 (Ne.symm ne_tk_tp)
    have SZ55 : h0.size ≤ h53.size := by rw [W53.size]; exact (Nat.le_refl _)
    have ZZ55 : n0 ≤ h53.size := Nat.le_trans Z0 SZ55
    have K56 : Keep h0 h53 [ti, tk, tp, o0] := ((Keep.refl h0 [ti, tk, tp, o0])).wr W53 (Or.inl (List.mem_of_getElem? (i := 1) rfl))
    obtain ⟨T57, X57, e57, st57⟩ := getF X53 hx hZ hown (host := "") (Or.inl (hw _ (List.mem_of_getElem? (i := 15) rfl))) Via.refl e53 F_place_o0_54 (g := (mkF m 48 #[.val (.ref o0), .val (.int (xi.toInt32)), .val (.long q2), .second] [(.ref o0), (.ref o0)])) rfl rfl (hb hby d7_48)
    have qa58 := A_tp_54
    obtain ⟨c58, Ar58, Sz58, H58⟩ := qa58
    have hi59 : 0 ≤ ((xi.toInt32) : Int32).toInt ∧ ((xi.toInt32) : Int32).toInt < (3 : Nat) := (own_bd (show xi < 3 by omega) (by decide))
    obtain ⟨j60, hj60, hpj60, hij60⟩ := own_IV_held hIV hxc hz
    have hl59 : c58.slots[((xi.toInt32) : Int32).toNatClampNeg]? = some (.int (j60.toInt32)) := by rw [show (j60.toInt32) = ((own_pl (pl ((xi.toInt32) : Int32).toNatClampNeg))) from by rw [own_tn (show xi < 2147483648 by omega), hpj60, own_pl_succ]]; exact H58 _ (own_ix hi59)
    obtain ⟨cq61, q61, q61'⟩ := (E_o0_54).cell
    obtain ⟨_, _, ⟨T61, L61, k61, n61⟩, -, X61, ⟨Lc61, hQ61, l61, y61, z61⟩, st61⟩ := X57.privateBack hx (y := (⟨"com/example/lean_layers/leanlayers/phase/layering/IndexedHeap", "siftUp", "(I)V"⟩ : MethodName)) hown (mvT hZ (hw _ (List.mem_of_getElem? (i := 43) rfl))) (mvT hZ (hw _ (List.mem_of_getElem? (i := 44) rfl))) (own_selp (y := (⟨"com/example/lean_layers/leanlayers/phase/layering/IndexedHeap", "siftUp", "(I)V"⟩ : MethodName)) (mvT hZ (hw _ (List.mem_of_getElem? (i := 1) rfl))) (Cond.privateMethod_at (mvP hZ (hw _ (List.mem_of_getElem? (i := 45) rfl)) (args := #[]))) (mvT hZ (hw _ (List.mem_of_getElem? (i := 44) rfl))) (by decide)) (Cond.privateMethod_at (mvP hZ (hw _ (List.mem_of_getElem? (i := 45) rfl)) (args := #[]))) (mvT hZ (hw _ (List.mem_of_getElem? (i := 46) rfl))) (by decide) (backOf (W := 0) (rm8 l Z a0 hw [] o0 (j60.toInt32) ti tk tp (own_uk ky xi q2) it pl n j60 h53 n0 ZZ55 F_items_o0_54 F_keys_o0_54 F_place_o0_54 E_o0_54 F_size_o0_54 A_ti_54 A_tk_w53u A_tp_54 g_ti g_tp ne_o0_ti ne_o0_tk ne_o0_tp ne_ti_tk ne_ti_tp ne_tk_tp rfl hj60 hIV) hZ (hw _ (List.mem_of_getElem? (i := 46) rfl)) (hw _ (List.mem_of_getElem? (i := 2) rfl)) (by decide) (by decide)) (g := (mkF m 53 #[.val (.ref o0), .val (.int (xi.toInt32)), .val (.long q2), .second] [(.int (j60.toInt32)), (.ref o0)])) rfl (by rw [hml]; rfl) (Steps.refl _) (a := o0) (by rw [e57]; exact q61) q61' (argsL := [(.int (j60.toInt32))]) (rest := []) (lenOf pd_3 rfl) rfl (by show 2 * 0 + _ ≤ _; exact Nat.le_of_eq rfl) (hb hby d7_53) (fun _ _ => ⟨rfl, e57, (by decide : 0 + 0 ≤ _), (by decide : 0 + 0 ≤ _)⟩)
    dsimp only [Pt.U, Pt.locs, Pt.cells, Pt.slots] at X61 l61 y61 z61 st61 hQ61
    subst y61 z61
    obtain ⟨it2_61, pl2_61, rfl, N61q, Kc61, P61_0, P61_1, P61_2, P61_3⟩ := hQ61
    have N61 := Fr.app N53 N61q
    rw [← l61] at N61
    have F_items_o0_62 : Fld Z T61.heap o0 "com/example/lean_layers/leanlayers/phase/layering/IndexedHeap" "items" "[I" (.ref ti) := (F_items_o0_54).keep Kc61 (ninS ne_o0_ti (ninS ne_o0_tp nin0))
    have F_keys_o0_62 : Fld Z T61.heap o0 "com/example/lean_layers/leanlayers/phase/layering/IndexedHeap" "keys" "[J" (.ref tk) := (F_keys_o0_54).keep Kc61 (ninS ne_o0_ti (ninS ne_o0_tp nin0))
    have F_place_o0_62 : Fld Z T61.heap o0 "com/example/lean_layers/leanlayers/phase/layering/IndexedHeap" "place" "[I" (.ref tp) := (F_place_o0_54).keep Kc61 (ninS ne_o0_ti (ninS ne_o0_tp nin0))
    have E_o0_62 : Exa Z T61.heap o0 "com/example/lean_layers/leanlayers/phase/layering/IndexedHeap" := (E_o0_54).keep Kc61
    have F_size_o0_62 : Fld Z T61.heap o0 "com/example/lean_layers/leanlayers/phase/layering/IndexedHeap" "size" "I" (.int (n.toInt32)) := (F_size_o0_54).keep Kc61 (ninS ne_o0_ti (ninS ne_o0_tp nin0))
    have A_tk_62 : own_A Z T61.heap tk .long 3 (fun kk => (.long ((own_uk ky xi q2) kk))) := (A_tk_w53u).keep Kc61 (ninS (Ne.symm ne_ti_tk) (ninS ne_tk_tp nin0))
    have SZ63 : h0.size ≤ T61.heap.size := Nat.le_trans SZ55 Kc61.1
    have ZZ63 : n0 ≤ T61.heap.size := Nat.le_trans Z0 SZ63
    have K64 : Keep h0 T61.heap [ti, tk, tp, o0] := (K56).trans Kc61 (allS (Or.inl (List.mem_of_getElem? (i := 0) rfl)) (allS (Or.inl (List.mem_of_getElem? (i := 2) rfl)) all0))
    obtain ⟨T65, X65, e65, st65⟩ := getF X61 hx hZ hown (host := "") (Or.inl (hw _ (List.mem_of_getElem? (i := 15) rfl))) Via.refl rfl F_place_o0_62 (g := (mkF m 58 #[.val (.ref o0), .val (.int (xi.toInt32)), .val (.long q2), .second] [(.ref o0), (.ref o0)])) rfl rfl (hb hby d7_58)
    have qa66 := P61_1
    obtain ⟨c66, Ar66, Sz66, H66⟩ := qa66
    have hi67 : 0 ≤ ((xi.toInt32) : Int32).toInt ∧ ((xi.toInt32) : Int32).toInt < (3 : Nat) := (own_bd (show xi < 3 by omega) (by decide))
    obtain ⟨j68, hj68, hpj68, hij68⟩ := own_IV_held P61_2 hxc (fun z => hz ((P61_3 xi hxc).mp z))
    have hl67 : c66.slots[((xi.toInt32) : Int32).toNatClampNeg]? = some (.int (j68.toInt32)) := by rw [show (j68.toInt32) = ((own_pl (pl2_61 ((xi.toInt32) : Int32).toNatClampNeg))) from by rw [own_tn (show xi < 2147483648 by omega), hpj68, own_pl_succ]]; exact H66 _ (own_ix hi67)
    obtain ⟨cq69, q69, q69'⟩ := (E_o0_62).cell
    obtain ⟨_, _, ⟨T69, L69, k69, n69⟩, -, X69, ⟨Lc69, hQ69, l69, y69, z69⟩, st69⟩ := X65.privateBack hx (y := (⟨"com/example/lean_layers/leanlayers/phase/layering/IndexedHeap", "siftDown", "(I)V"⟩ : MethodName)) hown (mvT hZ (hw _ (List.mem_of_getElem? (i := 51) rfl))) (mvT hZ (hw _ (List.mem_of_getElem? (i := 52) rfl))) (own_selp (y := (⟨"com/example/lean_layers/leanlayers/phase/layering/IndexedHeap", "siftDown", "(I)V"⟩ : MethodName)) (mvT hZ (hw _ (List.mem_of_getElem? (i := 1) rfl))) (Cond.privateMethod_at (mvP hZ (hw _ (List.mem_of_getElem? (i := 53) rfl)) (args := #[]))) (mvT hZ (hw _ (List.mem_of_getElem? (i := 52) rfl))) (by decide)) (Cond.privateMethod_at (mvP hZ (hw _ (List.mem_of_getElem? (i := 53) rfl)) (args := #[]))) (mvT hZ (hw _ (List.mem_of_getElem? (i := 54) rfl))) (by decide) (backOf (W := 0) (rm10 l Z a0 hw [] o0 (j68.toInt32) ti tk tp (own_uk ky xi q2) it2_61 pl2_61 n j68 T61.heap n0 ZZ63 F_items_o0_62 F_keys_o0_62 F_place_o0_62 E_o0_62 F_size_o0_62 P61_0 A_tk_62 P61_1 g_ti g_tp ne_o0_ti ne_o0_tk ne_o0_tp ne_ti_tk ne_ti_tp ne_tk_tp rfl hj68 P61_2) hZ (hw _ (List.mem_of_getElem? (i := 54) rfl)) (hw _ (List.mem_of_getElem? (i := 2) rfl)) (by decide) (by decide)) (g := (mkF m 63 #[.val (.ref o0), .val (.int (xi.toInt32)), .val (.long q2), .second] [(.int (j68.toInt32)), (.ref o0)])) rfl (by rw [hml]; rfl) (Steps.refl _) (a := o0) (by rw [e65]; exact q69) q69' (argsL := [(.int (j68.toInt32))]) (rest := []) (lenOf pd_3 rfl) rfl (by show 2 * 0 + _ ≤ _; exact Nat.le_of_eq rfl) (hb hby d7_63) (fun _ _ => ⟨rfl, e65, (by decide : 0 + 0 ≤ _), (by decide : 0 + 0 ≤ _)⟩)
    dsimp only [Pt.U, Pt.locs, Pt.cells, Pt.slots] at X69 l69 y69 z69 st69 hQ69
    subst y69 z69
    obtain ⟨it2_69, pl2_69, rfl, N69q, Kc69, P69_0, P69_1, P69_2, P69_3⟩ := hQ69
    have N69 := Fr.app N61 N69q
    rw [← l69] at N69
    have F_items_o0_70 : Fld Z T69.heap o0 "com/example/lean_layers/leanlayers/phase/layering/IndexedHeap" "items" "[I" (.ref ti) := (F_items_o0_62).keep Kc69 (ninS ne_o0_ti (ninS ne_o0_tp nin0))
    have F_keys_o0_70 : Fld Z T69.heap o0 "com/example/lean_layers/leanlayers/phase/layering/IndexedHeap" "keys" "[J" (.ref tk) := (F_keys_o0_62).keep Kc69 (ninS ne_o0_ti (ninS ne_o0_tp nin0))
    have F_place_o0_70 : Fld Z T69.heap o0 "com/example/lean_layers/leanlayers/phase/layering/IndexedHeap" "place" "[I" (.ref tp) := (F_place_o0_62).keep Kc69 (ninS ne_o0_ti (ninS ne_o0_tp nin0))
    have E_o0_70 : Exa Z T69.heap o0 "com/example/lean_layers/leanlayers/phase/layering/IndexedHeap" := (E_o0_62).keep Kc69
    have F_size_o0_70 : Fld Z T69.heap o0 "com/example/lean_layers/leanlayers/phase/layering/IndexedHeap" "size" "I" (.int (n.toInt32)) := (F_size_o0_62).keep Kc69 (ninS ne_o0_ti (ninS ne_o0_tp nin0))
    have A_tk_70 : own_A Z T69.heap tk .long 3 (fun kk => (.long ((own_uk ky xi q2) kk))) := (A_tk_62).keep Kc69 (ninS (Ne.symm ne_ti_tk) (ninS ne_tk_tp nin0))
    have SZ71 : h0.size ≤ T69.heap.size := Nat.le_trans SZ63 Kc69.1
    have ZZ71 : n0 ≤ T69.heap.size := Nat.le_trans Z0 SZ71
    have K72 : Keep h0 T69.heap [ti, tk, tp, o0] := (K64).trans Kc69 (allS (Or.inl (List.mem_of_getElem? (i := 0) rfl)) (allS (Or.inl (List.mem_of_getElem? (i := 2) rfl)) all0))
    have pre73 : ∀ t, Steps p.tables e below (T69.setTop (mkF m 66 #[.val (.ref o0), .val (.int (xi.toInt32)), .val (.long q2), .second] [])) t → Steps p.tables e below (s₁.setTop (entryFrame m #[(.ref o0), (.int p1), (.long q2)] 4)) t := fun t k => pre6 t (by
      refine XS.ifYes X3.here hx rfl (pc0 := 6) (pc' := 39) rfl (hb hby d7_6) rfl ((if0 _ _).trans (flt hs7).2.1) (by decide) (by decide) ?_
      show Steps p.tables e below (T3.setTop (mkF m 39 #[.val (.ref o0), .val (.int (xi.toInt32)), .val (.long q2), .second] [])) _
      refine XS.aloadN X3.here hx rfl (hb hby d7_39) rfl rfl ?_
      show Steps p.tables e below (T3.setTop (mkF m 40 #[.val (.ref o0), .val (.int (xi.toInt32)), .val (.long q2), .second] [(.ref o0)])) _
      refine st51 _ ?_
      show Steps p.tables e below (T51.setTop (mkF m 43 #[.val (.ref o0), .val (.int (xi.toInt32)), .val (.long q2), .second] [(.ref tk)])) _
      refine XS.iloadN X51.here hx rfl (hb hby d7_43) rfl ?_
      show Steps p.tables e below (T51.setTop (mkF m 44 #[.val (.ref o0), .val (.int (xi.toInt32)), .val (.long q2), .second] [(.int (xi.toInt32)), (.ref tk)])) _
      refine XS.lloadN X51.here hx rfl (hb hby d7_44) rfl ?_
      show Steps p.tables e below (T51.setTop (mkF m 45 #[.val (.ref o0), .val (.int (xi.toInt32)), .val (.long q2), .second] [(.long q2), (.int (xi.toInt32)), (.ref tk)])) _
      refine st53 _ ?_
      show Steps p.tables e below (T53.setTop (mkF m 46 #[.val (.ref o0), .val (.int (xi.toInt32)), .val (.long q2), .second] [])) _
      refine XS.aloadN X53.here hx rfl (hb hby d7_46) rfl rfl ?_
      show Steps p.tables e below (T53.setTop (mkF m 47 #[.val (.ref o0), .val (.int (xi.toInt32)), .val (.long q2), .second] [(.ref o0)])) _
      refine XS.aloadN X53.here hx rfl (hb hby d7_47) rfl rfl ?_
      show Steps p.tables e below (T53.setTop (mkF m 48 #[.val (.ref o0), .val (.int (xi.toInt32)), .val (.long q2), .second] [(.ref o0), (.ref o0)])) _
      refine st57 _ ?_
      show Steps p.tables e below (T57.setTop (mkF m 51 #[.val (.ref o0), .val (.int (xi.toInt32)), .val (.long q2), .second] [(.ref tp), (.ref o0)])) _
      refine XS.iloadN X57.here hx rfl (hb hby d7_51) rfl ?_
      show Steps p.tables e below (T57.setTop (mkF m 52 #[.val (.ref o0), .val (.int (xi.toInt32)), .val (.long q2), .second] [(.int (xi.toInt32)), (.ref tp), (.ref o0)])) _
      refine X57.iaload hx (j := (xi.toInt32)) (v := (.int (j60.toInt32))) (by rw [e57]; exact Ar58.1) (State.isArrayOf_alike hZ.alike Ar58.2.1) Ar58.2.2 (own_in Sz58 hi59) hl59 (g := (mkF m 52 #[.val (.ref o0), .val (.int (xi.toInt32)), .val (.long q2), .second] [(.int (xi.toInt32)), (.ref tp), (.ref o0)])) rfl rfl (hb hby d7_52) _ ?_
      show Steps p.tables e below (T57.setTop (mkF m 53 #[.val (.ref o0), .val (.int (xi.toInt32)), .val (.long q2), .second] [(.int (j60.toInt32)), (.ref o0)])) _
      refine st61.trans ?_
      show Steps p.tables e below (T61.setTop (mkF m 56 #[.val (.ref o0), .val (.int (xi.toInt32)), .val (.long q2), .second] [])) _
      refine XS.aloadN X61.here hx rfl (hb hby d7_56) rfl rfl ?_
      show Steps p.tables e below (T61.setTop (mkF m 57 #[.val (.ref o0), .val (.int (xi.toInt32)), .val (.long q2), .second] [(.ref o0)])) _
      refine XS.aloadN X61.here hx rfl (hb hby d7_57) rfl rfl ?_
      show Steps p.tables e below (T61.setTop (mkF m 58 #[.val (.ref o0), .val (.int (xi.toInt32)), .val (.long q2), .second] [(.ref o0), (.ref o0)])) _
      refine st65 _ ?_
      show Steps p.tables e below (T65.setTop (mkF m 61 #[.val (.ref o0), .val (.int (xi.toInt32)), .val (.long q2), .second] [(.ref tp), (.ref o0)])) _
      refine XS.iloadN X65.here hx rfl (hb hby d7_61) rfl ?_
      show Steps p.tables e below (T65.setTop (mkF m 62 #[.val (.ref o0), .val (.int (xi.toInt32)), .val (.long q2), .second] [(.int (xi.toInt32)), (.ref tp), (.ref o0)])) _
      refine X65.iaload hx (j := (xi.toInt32)) (v := (.int (j68.toInt32))) (by rw [e65]; exact Ar66.1) (State.isArrayOf_alike hZ.alike Ar66.2.1) Ar66.2.2 (own_in Sz66 hi67) hl67 (g := (mkF m 62 #[.val (.ref o0), .val (.int (xi.toInt32)), .val (.long q2), .second] [(.int (xi.toInt32)), (.ref tp), (.ref o0)])) rfl rfl (hb hby d7_62) _ ?_
      show Steps p.tables e below (T65.setTop (mkF m 63 #[.val (.ref o0), .val (.int (xi.toInt32)), .val (.long q2), .second] [(.int (j68.toInt32)), (.ref o0)])) _
      refine st69.trans ?_
      show Steps p.tables e below (T69.setTop (mkF m 66 #[.val (.ref o0), .val (.int (xi.toInt32)), .val (.long q2), .second] [])) _
      exact k)
    obtain ⟨fs, hr, hrun, hended, hW, hsame⟩ := X69.leave (v := none) (fun _ => rfl)
    refine ⟨_, _, pre73 _ ?_, hrun, hended, _, _, rfl, ?_, ⟨_, rfl⟩, hW, hsame.mono (by decide) (by decide)⟩
    · exact X69.returnOut hx Bd.returns (hb hby d7_66) hr
    · show Q7 Z o0 p1 q2 ti tk tp ky it pl n xi h0 n0 _ T69.heap _
      skip
      exact ⟨n, it2_69, pl2_69, rfl, N69, K72, F_size_o0_70, F_items_o0_70, F_keys_o0_70, F_place_o0_70, P69_0, A_tk_70, P69_1, P69_2, (fun y hy => ((P69_3 y hy).trans ((P61_3 y hy).trans ((own_held_old hz) y hy))))⟩
theorem d6_0 : decode prog_55_method_6_code 0 = .ok (.aload_n 0, 1) := by decide +kernel
theorem d6_1 : decode prog_55_method_6_code 1 = .ok (.getfield 17, 3) := by decide +kernel
theorem d6_4 : decode prog_55_method_6_code 4 = .ok (.iload_n 1, 1) := by decide +kernel
theorem d6_5 : decode prog_55_method_6_code 5 = .ok (.iaload, 1) := by decide +kernel
theorem d6_6 : decode prog_55_method_6_code 6 = .ok (.istore_n 2, 1) := by decide +kernel
theorem d6_7 : decode prog_55_method_6_code 7 = .ok (.iload_n 2, 1) := by decide +kernel
theorem d6_8 : decode prog_55_method_6_code 8 = .ok (.ifCond .ge 4, 3) := by decide +kernel
theorem d6_11 : decode prog_55_method_6_code 11 = .ok (.return_, 1) := by decide +kernel
theorem d6_12 : decode prog_55_method_6_code 12 = .ok (.aload_n 0, 1) := by decide +kernel
theorem d6_13 : decode prog_55_method_6_code 13 = .ok (.dup, 1) := by decide +kernel
theorem d6_14 : decode prog_55_method_6_code 14 = .ok (.getfield 26, 3) := by decide +kernel
theorem d6_17 : decode prog_55_method_6_code 17 = .ok (.iconst 1, 1) := by decide +kernel
theorem d6_18 : decode prog_55_method_6_code 18 = .ok (.isub, 1) := by decide +kernel
theorem d6_19 : decode prog_55_method_6_code 19 = .ok (.putfield 26, 3) := by decide +kernel
theorem d6_22 : decode prog_55_method_6_code 22 = .ok (.aload_n 0, 1) := by decide +kernel
theorem d6_23 : decode prog_55_method_6_code 23 = .ok (.getfield 17, 3) := by decide +kernel
theorem d6_26 : decode prog_55_method_6_code 26 = .ok (.iload_n 1, 1) := by decide +kernel
theorem d6_27 : decode prog_55_method_6_code 27 = .ok (.iconst (-1), 1) := by decide +kernel
theorem d6_28 : decode prog_55_method_6_code 28 = .ok (.iastore, 1) := by decide +kernel
theorem d6_29 : decode prog_55_method_6_code 29 = .ok (.iload_n 2, 1) := by decide +kernel
theorem d6_30 : decode prog_55_method_6_code 30 = .ok (.aload_n 0, 1) := by decide +kernel
theorem d6_31 : decode prog_55_method_6_code 31 = .ok (.getfield 26, 3) := by decide +kernel
theorem d6_34 : decode prog_55_method_6_code 34 = .ok (.if_icmp .ge 42, 3) := by decide +kernel
theorem d6_37 : decode prog_55_method_6_code 37 = .ok (.aload_n 0, 1) := by decide +kernel
theorem d6_38 : decode prog_55_method_6_code 38 = .ok (.getfield 7, 3) := by decide +kernel
theorem d6_41 : decode prog_55_method_6_code 41 = .ok (.aload_n 0, 1) := by decide +kernel
theorem d6_42 : decode prog_55_method_6_code 42 = .ok (.getfield 26, 3) := by decide +kernel
theorem d6_45 : decode prog_55_method_6_code 45 = .ok (.iaload, 1) := by decide +kernel
theorem d6_46 : decode prog_55_method_6_code 46 = .ok (.istore_n 3, 1) := by decide +kernel
theorem d6_47 : decode prog_55_method_6_code 47 = .ok (.aload_n 0, 1) := by decide +kernel
theorem d6_48 : decode prog_55_method_6_code 48 = .ok (.getfield 7, 3) := by decide +kernel
theorem d6_51 : decode prog_55_method_6_code 51 = .ok (.iload_n 2, 1) := by decide +kernel
theorem d6_52 : decode prog_55_method_6_code 52 = .ok (.iload_n 3, 1) := by decide +kernel
theorem d6_53 : decode prog_55_method_6_code 53 = .ok (.iastore, 1) := by decide +kernel
theorem d6_54 : decode prog_55_method_6_code 54 = .ok (.aload_n 0, 1) := by decide +kernel
theorem d6_55 : decode prog_55_method_6_code 55 = .ok (.getfield 17, 3) := by decide +kernel
theorem d6_58 : decode prog_55_method_6_code 58 = .ok (.iload_n 3, 1) := by decide +kernel
theorem d6_59 : decode prog_55_method_6_code 59 = .ok (.iload_n 2, 1) := by decide +kernel
theorem d6_60 : decode prog_55_method_6_code 60 = .ok (.iastore, 1) := by decide +kernel
theorem d6_61 : decode prog_55_method_6_code 61 = .ok (.aload_n 0, 1) := by decide +kernel
theorem d6_62 : decode prog_55_method_6_code 62 = .ok (.iload_n 2, 1) := by decide +kernel
theorem d6_63 : decode prog_55_method_6_code 63 = .ok (.invokevirtual 41, 3) := by decide +kernel
theorem d6_66 : decode prog_55_method_6_code 66 = .ok (.aload_n 0, 1) := by decide +kernel
theorem d6_67 : decode prog_55_method_6_code 67 = .ok (.aload_n 0, 1) := by decide +kernel
theorem d6_68 : decode prog_55_method_6_code 68 = .ok (.getfield 17, 3) := by decide +kernel
theorem d6_71 : decode prog_55_method_6_code 71 = .ok (.iload_n 3, 1) := by decide +kernel
theorem d6_72 : decode prog_55_method_6_code 72 = .ok (.iaload, 1) := by decide +kernel
theorem d6_73 : decode prog_55_method_6_code 73 = .ok (.invokevirtual 45, 3) := by decide +kernel
theorem d6_76 : decode prog_55_method_6_code 76 = .ok (.return_, 1) := by decide +kernel
theorem ef_6 (m : MethodId) (o0 : Addr) (p1 : Int32) : entryFrame m #[(.ref o0), (.int p1)] 4 = mkF m 0 #[.val (.ref o0), .val (.int p1), .unset, .unset] [] := by first | (simp [entryFrame, mkF, argsToLocals, Value.category]; done) | rfl

def Q6 (Z : State) (o0 : Addr) (p1 : Int32) (ti tk tp : Addr) (ky : Nat → Int64) (it pl : Nat → Nat) (n xi : Nat) (h0 : Heap) (n0 : Nat) (v : Option Value) (h : Heap) (L : List Loc) : Prop := ∃ (n2 : Nat) (it2 : Nat → Nat) (pl2 : Nat → Nat), v = none ∧ Fr n0 L ∧ Keep h0 h [ti, tp, o0] ∧ (Fld Z h o0 "com/example/lean_layers/leanlayers/phase/layering/IndexedHeap" "size" "I" (.int (n2.toInt32))) ∧ (Fld Z h o0 "com/example/lean_layers/leanlayers/phase/layering/IndexedHeap" "items" "[I" (.ref ti)) ∧ (Fld Z h o0 "com/example/lean_layers/leanlayers/phase/layering/IndexedHeap" "keys" "[J" (.ref tk)) ∧ (Fld Z h o0 "com/example/lean_layers/leanlayers/phase/layering/IndexedHeap" "place" "[I" (.ref tp)) ∧ (own_A Z h ti .int 3 (fun kk => (.int ((it2 kk).toInt32)))) ∧ (own_A Z h tp .int 3 (fun kk => (.int (own_pl (pl2 kk))))) ∧ (own_IV 3 n2 it2 pl2) ∧ (∀ y, y < 3 → (pl2 y = 0 ↔ y = xi ∨ pl y = 0))
set_option maxRecDepth 65536 in
set_option maxHeartbeats 40000000 in
theorem rm6 (l : Launch) (Z : State) (a0 : Array Value) (hw : ∀ d ∈ tables_1, d.before a0 Z = true) (ws : List Jvm.Cond) (o0 : Addr) (p1 : Int32) (ti tk tp : Addr) (ky : Nat → Int64) (it pl : Nat → Nat) (n xi : Nat) (h0 : Heap) (n0 : Nat) (Z0 : n0 ≤ h0.size) (F_items_o0 : Fld Z h0 o0 "com/example/lean_layers/leanlayers/phase/layering/IndexedHeap" "items" "[I" (.ref ti)) (F_keys_o0 : Fld Z h0 o0 "com/example/lean_layers/leanlayers/phase/layering/IndexedHeap" "keys" "[J" (.ref tk)) (F_place_o0 : Fld Z h0 o0 "com/example/lean_layers/leanlayers/phase/layering/IndexedHeap" "place" "[I" (.ref tp)) (E_o0 : Exa Z h0 o0 "com/example/lean_layers/leanlayers/phase/layering/IndexedHeap") (F_size_o0 : Fld Z h0 o0 "com/example/lean_layers/leanlayers/phase/layering/IndexedHeap" "size" "I" (.int (n.toInt32))) (A_ti : own_A Z h0 ti .int 3 (fun kk => (.int ((it kk).toInt32)))) (A_tk : own_A Z h0 tk .long 3 (fun kk => (.long (ky kk)))) (A_tp : own_A Z h0 tp .int 3 (fun kk => (.int (own_pl (pl kk))))) (g_ti : n0 ≤ ti) (g_tp : n0 ≤ tp) (g_o0 : n0 ≤ o0) (ne_o0_ti : o0 ≠ ti) (ne_o0_tk : o0 ≠ tk) (ne_o0_tp : o0 ≠ tp) (ne_ti_tk : ti ≠ tk) (ne_ti_tp : ti ≠ tp) (ne_tk_tp : tk ≠ tp) (hp1 : p1 = (xi.toInt32)) (hxc : xi < 3) (hIV : own_IV 3 n it pl) :
    MetFree l (⟨"com/example/lean_layers/leanlayers/phase/layering/IndexedHeap", "remove", "(I)V"⟩ : MethodName) (head1 (Jvm.Cond.code (⟨"com/example/lean_layers/leanlayers/phase/layering/IndexedHeap", "remove", "(I)V"⟩ : MethodName) prog_55_method_6_code 4 none :: ws) ({ frames := 3, cells := 0, slots := 0, locals := 56 } : Room)) (fun a U => a = #[(.ref o0), (.int p1)] ∧ Z.Warmed39 U.vm ∧ U.heap = h0) (fun _ _ _ _ _ => True) (fun _ U o U' => ∃ v L, o = .returned v ∧ Q6 Z o0 p1 ti tk tp ky it pl n xi h0 n0 v U'.heap L ∧ FrameEnd U o U' L ({ frames := 3, cells := 0, slots := 0, locals := 56 } : Room).cells ({ frames := 3, cells := 0, slots := 0, locals := 56 } : Room).slots) := by
  refine MetFree.of_bodySF (plainFor_of_name pn_1) hisR ?_
  intro p e s m args below meth c s₁ Bd hml0 hP hK
  obtain ⟨rfl, hZ, hh⟩ := hP
  have hx := Bd.exec
  have hby := Bd.bytes
  have hml : c.maxLocals = 4 := hml0
  have hown : s.vm.findClass "com/example/lean_layers/leanlayers/phase/layering/IndexedHeap" = some m.cls := findClass_of_methodNamed Bd.named
  have hnm := (name_of_methodNamed Bd.named Bd.method).1
  have X0 : Stand p l e ({ frames := 3, cells := 0, slots := 0, locals := 56 } : Room) s m #[(.ref o0), (.int p1)] below meth c s₁ [] 0 0 := Stand.of_body Bd
  have e0 : s₁.heap = h0 := by rw [← hh, Bd.state]; rfl
  have N0 := Fr.nil n0
  have pre0 : ∀ t, Steps p.tables e below (s₁.setTop (mkF m 0 #[.val (.ref o0), .val (.int p1), .unset, .unset] [])) t → Steps p.tables e below (s₁.setTop (entryFrame m #[(.ref o0), (.int p1)] 4)) t := fun t k => castTop (ef_6 m o0 p1) k
  have hnc : n ≤ 3 := hIV.1
  have pre1 : ∀ t, Steps p.tables e below (s₁.setTop (mkF m 0 #[.val (.ref o0), .val (.int p1), .unset, .unset] [])) t → Steps p.tables e below (s₁.setTop (entryFrame m #[(.ref o0), (.int p1)] 4)) t := fun t k => pre0 t (by
    show Steps p.tables e below (s₁.setTop (mkF m 0 #[.val (.ref o0), .val (.int p1), .unset, .unset] [])) _
    exact k)
  have hre2 : p1 = (xi.toInt32) := hp1
  have pre2 : ∀ t, Steps p.tables e below (s₁.setTop (mkF m 0 #[.val (.ref o0), .val (.int (xi.toInt32)), .unset, .unset] [])) t → Steps p.tables e below (s₁.setTop (entryFrame m #[(.ref o0), (.int p1)] 4)) t := fun t k => pre1 t (by rw [hre2]; exact k)
  have hplb : pl xi ≤ 3 := by
    rcases hIV.2.2.2 xi hxc with q | ⟨j, j1, j2, -⟩ <;> omega
  obtain ⟨T3, X3, e3, st3⟩ := getF X0 hx hZ hown (host := "") (Or.inl (hw _ (List.mem_of_getElem? (i := 15) rfl))) Via.refl e0 F_place_o0 (g := (mkF m 1 #[.val (.ref o0), .val (.int (xi.toInt32)), .unset, .unset] [(.ref o0)])) rfl rfl (hb hby d6_1)
  have qa4 := A_tp
  obtain ⟨c4, Ar4, Sz4, H4⟩ := qa4
  have hi5 : 0 ≤ ((xi.toInt32) : Int32).toInt ∧ ((xi.toInt32) : Int32).toInt < (3 : Nat) := (own_bd (show xi < 3 by omega) (by decide))
  have hl5 : c4.slots[((xi.toInt32) : Int32).toNatClampNeg]? = some (.int (own_pl (pl xi))) := by rw [show (own_pl (pl xi)) = ((own_pl (pl ((xi.toInt32) : Int32).toNatClampNeg))) from by rw [own_tn (show xi < 2147483648 by omega)]]; exact H4 _ (own_ix hi5)
  have pre6 : ∀ t, Steps p.tables e below (T3.setTop (mkF m 8 #[.val (.ref o0), .val (.int (xi.toInt32)), .val (.int (own_pl (pl xi))), .unset] [(.int (own_pl (pl xi)))])) t → Steps p.tables e below (s₁.setTop (entryFrame m #[(.ref o0), (.int p1)] 4)) t := fun t k => pre2 t (by
    show Steps p.tables e below (s₁.setTop (mkF m 0 #[.val (.ref o0), .val (.int (xi.toInt32)), .unset, .unset] [])) _
    refine XS.aloadN X0.here hx rfl (hb hby d6_0) rfl rfl ?_
    show Steps p.tables e below (s₁.setTop (mkF m 1 #[.val (.ref o0), .val (.int (xi.toInt32)), .unset, .unset] [(.ref o0)])) _
    refine st3 _ ?_
    show Steps p.tables e below (T3.setTop (mkF m 4 #[.val (.ref o0), .val (.int (xi.toInt32)), .unset, .unset] [(.ref tp)])) _
    refine XS.iloadN X3.here hx rfl (hb hby d6_4) rfl ?_
    show Steps p.tables e below (T3.setTop (mkF m 5 #[.val (.ref o0), .val (.int (xi.toInt32)), .unset, .unset] [(.int (xi.toInt32)), (.ref tp)])) _
    refine X3.iaload hx (j := (xi.toInt32)) (v := (.int (own_pl (pl xi)))) (by rw [e3]; exact Ar4.1) (State.isArrayOf_alike hZ.alike Ar4.2.1) Ar4.2.2 (own_in Sz4 hi5) hl5 (g := (mkF m 5 #[.val (.ref o0), .val (.int (xi.toInt32)), .unset, .unset] [(.int (xi.toInt32)), (.ref tp)])) rfl rfl (hb hby d6_5) _ ?_
    show Steps p.tables e below (T3.setTop (mkF m 6 #[.val (.ref o0), .val (.int (xi.toInt32)), .unset, .unset] [(.int (own_pl (pl xi)))])) _
    refine XS.istoreN X3.here hx rfl (hb hby d6_6) rfl (l' := #[.val (.ref o0), .val (.int (xi.toInt32)), .val (.int (own_pl (pl xi))), .unset]) rfl ?_
    show Steps p.tables e below (T3.setTop (mkF m 7 #[.val (.ref o0), .val (.int (xi.toInt32)), .val (.int (own_pl (pl xi))), .unset] [])) _
    refine XS.iloadN X3.here hx rfl (hb hby d6_7) rfl ?_
    show Steps p.tables e below (T3.setTop (mkF m 8 #[.val (.ref o0), .val (.int (xi.toInt32)), .val (.int (own_pl (pl xi))), .unset] [(.int (own_pl (pl xi)))])) _
    exact k)
  by_cases hs7 : (own_pl (pl xi)) < (0 : Int32)
  · have hz : pl xi = 0 := (own_pl_neg (by omega)).mp hs7
    have pre8 : ∀ t, Steps p.tables e below (T3.setTop (mkF m 11 #[.val (.ref o0), .val (.int (xi.toInt32)), .val (.int (own_pl (pl xi))), .unset] [])) t → Steps p.tables e below (s₁.setTop (entryFrame m #[(.ref o0), (.int p1)] 4)) t := fun t k => pre6 t (by
      refine XS.ifNo X3.here hx rfl (hb hby d6_8) rfl ((if0 _ _).trans (tlt hs7).2.1) ?_
      show Steps p.tables e below (T3.setTop (mkF m 11 #[.val (.ref o0), .val (.int (xi.toInt32)), .val (.int (own_pl (pl xi))), .unset] [])) _
      exact k)
    obtain ⟨fs, hr, hrun, hended, hW, hsame⟩ := X3.leave (v := none) (fun _ => rfl)
    refine ⟨_, _, pre8 _ ?_, hrun, hended, _, _, rfl, ?_, ⟨_, rfl⟩, hW, hsame.mono (by decide) (by decide)⟩
    · exact X3.returnOut hx Bd.returns (hb hby d6_11) hr
    · show Q6 Z o0 p1 ti tk tp ky it pl n xi h0 n0 _ T3.heap _
      rw [e3]
      exact ⟨n, it, pl, rfl, N0, (Keep.refl h0 [ti, tp, o0]), F_size_o0, F_items_o0, F_keys_o0, F_place_o0, A_ti, A_tp, hIV, (own_held_non hz)⟩
  · have hz : pl xi ≠ 0 := fun q => hs7 ((own_pl_neg (by omega)).mpr q)
    obtain ⟨j, hjn, hpj, hij⟩ := own_IV_held hIV hxc hz
    have pre9 : ∀ t, Steps p.tables e below (T3.setTop (mkF m 12 #[.val (.ref o0), .val (.int (xi.toInt32)), .val (.int (own_pl (pl xi))), .unset] [])) t → Steps p.tables e below (s₁.setTop (entryFrame m #[(.ref o0), (.int p1)] 4)) t := fun t k => pre6 t (by
      refine XS.ifYes X3.here hx rfl (pc0 := 8) (pc' := 12) rfl (hb hby d6_8) rfl ((if0 _ _).trans (flt hs7).2.1) (by decide) (by decide) ?_
      show Steps p.tables e below (T3.setTop (mkF m 12 #[.val (.ref o0), .val (.int (xi.toInt32)), .val (.int (own_pl (pl xi))), .unset] [])) _
      exact k)
    have hre10 : (own_pl (pl xi)) = (j.toInt32) := by rw [hpj, own_pl_succ]
    have pre10 : ∀ t, Steps p.tables e below (T3.setTop (mkF m 12 #[.val (.ref o0), .val (.int (xi.toInt32)), .val (.int (j.toInt32)), .unset] [])) t → Steps p.tables e below (s₁.setTop (entryFrame m #[(.ref o0), (.int p1)] 4)) t := fun t k => pre9 t (by rw [hre10]; exact k)
    obtain ⟨T11, X11, e11, st11⟩ := getF X3 hx hZ hown (host := "") (Or.inl (hw _ (List.mem_of_getElem? (i := 27) rfl))) Via.refl e3 F_size_o0 (g := (mkF m 14 #[.val (.ref o0), .val (.int (xi.toInt32)), .val (.int (j.toInt32)), .unset] [(.ref o0), (.ref o0)])) rfl rfl (hb hby d6_14)
    obtain ⟨T12, h12, X12, e12, W12, st12⟩ := putF X11 hx hZ hown (host := "") (Or.inl (hw _ (List.mem_of_getElem? (i := 27) rfl))) Via.refl e11 F_size_o0 E_o0 (Or.inl (hw _ (List.mem_of_getElem? (i := 28) rfl))) (hw _ (List.mem_of_getElem? (i := 1) rfl)) (ty := .int) (by decide) rfl rfl (g := (mkF m 19 #[.val (.ref o0), .val (.int (xi.toInt32)), .val (.int (j.toInt32)), .unset] [(.int ((n.toInt32) - (1 : Int32))), (.ref o0)])) rfl rfl (hb hby d6_19)
    have N12 := Fr.snoc X12 N0 g_o0
    have F_size_o0_w12 : Fld Z h12 o0 "com/example/lean_layers/leanlayers/phase/layering/IndexedHeap" "size" "I" (.int ((n.toInt32) - (1 : Int32))) := (F_size_o0).same W12
    have F_items_o0_13 : Fld Z h12 o0 "com/example/lean_layers/leanlayers/phase/layering/IndexedHeap" "items" "[I" (.ref ti) := (F_items_o0).other W12 (Or.inr (slot_ne (Or.inr (hw _ (List.mem_of_getElem? (i := 11) rfl))) (Or.inl (hw _ (List.mem_of_getElem? (i := 28) rfl))) (by decide) (t := (.array .int)) (t' := .int) (by decide) (by decide)))
    have F_keys_o0_13 : Fld Z h12 o0 "com/example/lean_layers/leanlayers/phase/layering/IndexedHeap" "keys" "[J" (.ref tk) := (F_keys_o0).other W12 (Or.inr (slot_ne (Or.inr (hw _ (List.mem_of_getElem? (i := 14) rfl))) (Or.inl (hw _ (List.mem_of_getElem? (i := 28) rfl))) (by decide) (t := (.array .long)) (t' := .int) (by decide) (by decide)))
    have F_place_o0_13 : Fld Z h12 o0 "com/example/lean_layers/leanlayers/phase/layering/IndexedHeap" "place" "[I" (.ref tp) := (F_place_o0).other W12 (Or.inr (slot_ne (Or.inr (hw _ (List.mem_of_getElem? (i := 16) rfl))) (Or.inl (hw _ (List.mem_of_getElem? (i := 28) rfl))) (by decide) (t := (.array .int)) (t' := .int) (by decide) (by decide)))
    have E_o0_13 : Exa Z h12 o0 "com/example/lean_layers/leanlayers/phase/layering/IndexedHeap" := (E_o0).wr W12
    have A_ti_13 : own_A Z h12 ti .int 3 (fun kk => (.int ((it kk).toInt32))) := (A_ti).other W12 (Ne.symm ne_o0_ti)
    have A_tk_13 : own_A Z h12 tk .long 3 (fun kk => (.long (ky kk))) := (A_tk).other W12 (Ne.symm ne_o0_tk)
    have A_tp_13 : own_A Z h12 tp .int 3 (fun kk => (.int (own_pl (pl kk)))) := (A_tp).other W12 (Ne.symm ne_o0_tp)
    have SZ14 : h0.size ≤ h12.size := by rw [W12.size]; exact (Nat.le_refl _)
    have ZZ14 : n0 ≤ h12.size := Nat.le_trans Z0 SZ14
    have K15 : Keep h0 h12 [ti, tp, o0] := ((Keep.refl h0 [ti, tp, o0])).wr W12 (Or.inl (List.mem_of_getElem? (i := 2) rfl))
    have Fz16 : Fld Z h12 o0 "com/example/lean_layers/leanlayers/phase/layering/IndexedHeap" "size" "I" (.int ((n - 1).toInt32)) := own_dec1 (show 0 < n by omega) ▸ F_size_o0_w12
    obtain ⟨T17, X17, e17, st17⟩ := getF X12 hx hZ hown (host := "") (Or.inl (hw _ (List.mem_of_getElem? (i := 15) rfl))) Via.refl e12 F_place_o0_13 (g := (mkF m 23 #[.val (.ref o0), .val (.int (xi.toInt32)), .val (.int (j.toInt32)), .unset] [(.ref o0)])) rfl rfl (hb hby d6_23)
    have qa18 := A_tp_13
    obtain ⟨c18, Ar18, Sz18, H18⟩ := qa18
    have hi19 : 0 ≤ ((xi.toInt32) : Int32).toInt ∧ ((xi.toInt32) : Int32).toInt < (3 : Nat) := (own_bd (show xi < 3 by omega) (by decide))
    obtain ⟨T19, h19, X19, e19, W19, st19⟩ := stI X17 hx hZ e17 Ar18 (j := (xi.toInt32)) (own_in Sz18 hi19) (g := (mkF m 28 #[.val (.ref o0), .val (.int (xi.toInt32)), .val (.int (j.toInt32)), .unset] [(.int (-1 : Int32)), (.int (xi.toInt32)), (.ref tp)])) rfl rfl (hb hby d6_28)
    have N19 := Fr.snoc X19 N12 g_tp
    have A_tp_w19 : own_A Z h19 tp .int 3 (fun kk => (.int (if kk = ((xi.toInt32) : Int32).toNatClampNeg then (-1 : Int32) else (own_pl (pl kk))))) := own_A.setI A_tp_13 W19
    have A_tp_w19u : own_A Z h19 tp .int 3 (fun kk => (.int (own_pl ((own_u pl xi 0) kk)))) := own_setno A_tp_w19 (show xi < 2147483648 by omega)
    have F_items_o0_20 : Fld Z h19 o0 "com/example/lean_layers/leanlayers/phase/layering/IndexedHeap" "items" "[I" (.ref ti) := (F_items_o0_13).other W19 (Or.inl ne_o0_tp)
    have F_keys_o0_20 : Fld Z h19 o0 "com/example/lean_layers/leanlayers/phase/layering/IndexedHeap" "keys" "[J" (.ref tk) := (F_keys_o0_13).other W19 (Or.inl ne_o0_tp)
    have F_place_o0_20 : Fld Z h19 o0 "com/example/lean_layers/leanlayers/phase/layering/IndexedHeap" "place" "[I" (.ref tp) := (F_place_o0_13).other W19 (Or.inl ne_o0_tp)
    have E_o0_20 : Exa Z h19 o0 "com/example/lean_layers/leanlayers/phase/layering/IndexedHeap" := (E_o0_13).wr W19
    have A_ti_20 : own_A Z h19 ti .int 3 (fun kk => (.int ((it kk).toInt32))) := (A_ti_13).other W19 ne_ti_tp
    have A_tk_20 : own_A Z h19 tk .long 3 (fun kk => (.long (ky kk))) := (A_tk_13).other W19 ne_tk_tp
    have F_size_o0_20 : Fld Z h19 o0 "com/example/lean_layers/leanlayers/phase/layering/IndexedHeap" "size" "I" (.int ((n - 1).toInt32)) := (Fz16).other W19 (Or.inl ne_o0_tp)
    have SZ21 : h0.size ≤ h19.size := by rw [W19.size]; exact SZ14
    have ZZ21 : n0 ≤ h19.size := Nat.le_trans Z0 SZ21
    have K22 : Keep h0 h19 [ti, tp, o0] := (K15).wr W19 (Or.inl (List.mem_of_getElem? (i := 1) rfl))
    obtain ⟨T23, X23, e23, st23⟩ := getF X19 hx hZ hown (host := "") (Or.inl (hw _ (List.mem_of_getElem? (i := 27) rfl))) Via.refl e19 F_size_o0_20 (g := (mkF m 31 #[.val (.ref o0), .val (.int (xi.toInt32)), .val (.int (j.toInt32)), .unset] [(.ref o0), (.int (j.toInt32))])) rfl rfl (hb hby d6_31)
    have pre24 : ∀ t, Steps p.tables e below (T23.setTop (mkF m 34 #[.val (.ref o0), .val (.int (xi.toInt32)), .val (.int (j.toInt32)), .unset] [(.int ((n - 1).toInt32)), (.int (j.toInt32))])) t → Steps p.tables e below (s₁.setTop (entryFrame m #[(.ref o0), (.int p1)] 4)) t := fun t k => pre10 t (by
      show Steps p.tables e below (T3.setTop (mkF m 12 #[.val (.ref o0), .val (.int (xi.toInt32)), .val (.int (j.toInt32)), .unset] [])) _
      refine XS.aloadN X3.here hx rfl (hb hby d6_12) rfl rfl ?_
      show Steps p.tables e below (T3.setTop (mkF m 13 #[.val (.ref o0), .val (.int (xi.toInt32)), .val (.int (j.toInt32)), .unset] [(.ref o0)])) _
      refine XS.dup X3.here hx rfl (hb hby d6_13) rfl rfl ?_
      show Steps p.tables e below (T3.setTop (mkF m 14 #[.val (.ref o0), .val (.int (xi.toInt32)), .val (.int (j.toInt32)), .unset] [(.ref o0), (.ref o0)])) _
      refine st11 _ ?_
      show Steps p.tables e below (T11.setTop (mkF m 17 #[.val (.ref o0), .val (.int (xi.toInt32)), .val (.int (j.toInt32)), .unset] [(.int (n.toInt32)), (.ref o0)])) _
      refine XS.iconst X11.here hx rfl (hb hby d6_17) ?_
      show Steps p.tables e below (T11.setTop (mkF m 18 #[.val (.ref o0), .val (.int (xi.toInt32)), .val (.int (j.toInt32)), .unset] [(.int (1 : Int32)), (.int (n.toInt32)), (.ref o0)])) _
      refine XS.isub X11.here hx rfl (hb hby d6_18) rfl ?_
      show Steps p.tables e below (T11.setTop (mkF m 19 #[.val (.ref o0), .val (.int (xi.toInt32)), .val (.int (j.toInt32)), .unset] [(.int ((n.toInt32) - (1 : Int32))), (.ref o0)])) _
      refine st12 _ ?_
      show Steps p.tables e below (T12.setTop (mkF m 22 #[.val (.ref o0), .val (.int (xi.toInt32)), .val (.int (j.toInt32)), .unset] [])) _
      refine XS.aloadN X12.here hx rfl (hb hby d6_22) rfl rfl ?_
      show Steps p.tables e below (T12.setTop (mkF m 23 #[.val (.ref o0), .val (.int (xi.toInt32)), .val (.int (j.toInt32)), .unset] [(.ref o0)])) _
      refine st17 _ ?_
      show Steps p.tables e below (T17.setTop (mkF m 26 #[.val (.ref o0), .val (.int (xi.toInt32)), .val (.int (j.toInt32)), .unset] [(.ref tp)])) _
      refine XS.iloadN X17.here hx rfl (hb hby d6_26) rfl ?_
      show Steps p.tables e below (T17.setTop (mkF m 27 #[.val (.ref o0), .val (.int (xi.toInt32)), .val (.int (j.toInt32)), .unset] [(.int (xi.toInt32)), (.ref tp)])) _
      refine XS.iconst X17.here hx rfl (hb hby d6_27) ?_
      show Steps p.tables e below (T17.setTop (mkF m 28 #[.val (.ref o0), .val (.int (xi.toInt32)), .val (.int (j.toInt32)), .unset] [(.int (-1 : Int32)), (.int (xi.toInt32)), (.ref tp)])) _
      refine st19 _ ?_
      show Steps p.tables e below (T19.setTop (mkF m 29 #[.val (.ref o0), .val (.int (xi.toInt32)), .val (.int (j.toInt32)), .unset] [])) _
      refine XS.iloadN X19.here hx rfl (hb hby d6_29) rfl ?_
      show Steps p.tables e below (T19.setTop (mkF m 30 #[.val (.ref o0), .val (.int (xi.toInt32)), .val (.int (j.toInt32)), .unset] [(.int (j.toInt32))])) _
      refine XS.aloadN X19.here hx rfl (hb hby d6_30) rfl rfl ?_
      show Steps p.tables e below (T19.setTop (mkF m 31 #[.val (.ref o0), .val (.int (xi.toInt32)), .val (.int (j.toInt32)), .unset] [(.ref o0), (.int (j.toInt32))])) _
      refine st23 _ ?_
      show Steps p.tables e below (T23.setTop (mkF m 34 #[.val (.ref o0), .val (.int (xi.toInt32)), .val (.int (j.toInt32)), .unset] [(.int ((n - 1).toInt32)), (.int (j.toInt32))])) _
      exact k)
    by_cases hs25 : (j.toInt32) < ((n - 1).toInt32)
    · have hlt : j < n - 1 := (own_ltn (by omega) (by omega)).mp hs25
      obtain ⟨hlc, hIV1, hHD⟩ := own_IV_rm hIV hxc hpj (show j + 1 < n by omega) hij
      obtain ⟨T26, X26, e26, st26⟩ := getF X23 hx hZ hown (host := "") (Or.inl (hw _ (List.mem_of_getElem? (i := 10) rfl))) Via.refl e23 F_items_o0_20 (g := (mkF m 38 #[.val (.ref o0), .val (.int (xi.toInt32)), .val (.int (j.toInt32)), .unset] [(.ref o0)])) rfl rfl (hb hby d6_38)
      obtain ⟨T27, X27, e27, st27⟩ := getF X26 hx hZ hown (host := "") (Or.inl (hw _ (List.mem_of_getElem? (i := 27) rfl))) Via.refl e26 F_size_o0_20 (g := (mkF m 42 #[.val (.ref o0), .val (.int (xi.toInt32)), .val (.int (j.toInt32)), .unset] [(.ref o0), (.ref ti)])) rfl rfl (hb hby d6_42)
      have qa28 := A_ti_20
      obtain ⟨c28, Ar28, Sz28, H28⟩ := qa28
      have hi29 : 0 ≤ (((n - 1).toInt32) : Int32).toInt ∧ (((n - 1).toInt32) : Int32).toInt < (3 : Nat) := (own_bd (show (n - 1) < 3 by omega) (by decide))
      have hl29 : c28.slots[(((n - 1).toInt32) : Int32).toNatClampNeg]? = some (.int ((it (n - 1)).toInt32)) := by rw [show ((it (n - 1)).toInt32) = (((it (((n - 1).toInt32) : Int32).toNatClampNeg).toInt32)) from by rw [own_tn (show (n - 1) < 2147483648 by omega)]]; exact H28 _ (own_ix hi29)
      obtain ⟨T30, X30, e30, st30⟩ := getF X27 hx hZ hown (host := "") (Or.inl (hw _ (List.mem_of_getElem? (i := 10) rfl))) Via.refl e27 F_items_o0_20 (g := (mkF m 48 #[.val (.ref o0), .val (.int (xi.toInt32)), .val (.int (j.toInt32)), .val (.int ((it (n - 1)).toInt32))] [(.ref o0)])) rfl rfl (hb hby d6_48)
      have qa31 := A_ti_20
      obtain ⟨c31, Ar31, Sz31, H31⟩ := qa31
      have hi32 : 0 ≤ ((j.toInt32) : Int32).toInt ∧ ((j.toInt32) : Int32).toInt < (3 : Nat) := (own_bd (show j < 3 by omega) (by decide))
      obtain ⟨T32, h32, X32, e32, W32, st32⟩ := stI X30 hx hZ e30 Ar31 (j := (j.toInt32)) (own_in Sz31 hi32) (g := (mkF m 53 #[.val (.ref o0), .val (.int (xi.toInt32)), .val (.int (j.toInt32)), .val (.int ((it (n - 1)).toInt32))] [(.int ((it (n - 1)).toInt32)), (.int (j.toInt32)), (.ref ti)])) rfl rfl (hb hby d6_53)
      have N32 := Fr.snoc X32 N19 g_ti
      have A_ti_w32 : own_A Z h32 ti .int 3 (fun kk => (.int (if kk = ((j.toInt32) : Int32).toNatClampNeg then ((it (n - 1)).toInt32) else ((it kk).toInt32)))) := own_A.setI A_ti_20 W32
      have A_ti_w32u : own_A Z h32 ti .int 3 (fun kk => (.int (((own_u it j (it (n - 1))) kk).toInt32))) := own_setit A_ti_w32 (show j < 2147483648 by omega)
      have F_items_o0_33 : Fld Z h32 o0 "com/example/lean_layers/leanlayers/phase/layering/IndexedHeap" "items" "[I" (.ref ti) := (F_items_o0_20).other W32 (Or.inl ne_o0_ti)
      have F_keys_o0_33 : Fld Z h32 o0 "com/example/lean_layers/leanlayers/phase/layering/IndexedHeap" "keys" "[J" (.ref tk) := (F_keys_o0_20).other W32 (Or.inl ne_o0_ti)
      have F_place_o0_33 : Fld Z h32 o0 "com/example/lean_layers/leanlayers/phase/layering/IndexedHeap" "place" "[I" (.ref tp) := (F_place_o0_20).other W32 (Or.inl ne_o0_ti)
      have E_o0_33 : Exa Z h32 o0 "com/example/lean_layers/leanlayers/phase/layering/IndexedHeap" := (E_o0_20).wr W32
      have A_tk_33 : own_A Z h32 tk .long 3 (fun kk => (.long (ky kk))) := (A_tk_20).other W32 (Ne.symm ne_ti_tk)
      have F_size_o0_33 : Fld Z h32 o0 "com/example/lean_layers/leanlayers/phase/layering/IndexedHeap" "size" "I" (.int ((n - 1).toInt32)) := (F_size_o0_20).other W32 (Or.inl ne_o0_ti)
      have A_tp_33 : own_A Z h32 tp .int 3 (fun kk => (.int (own_pl ((own_u pl xi 0) kk)))) := (A_tp_w19u).other W32 (Ne.symm ne_ti_tp)
      have SZ34 : h0.size ≤ h32.size := by rw [W32.size]; exact SZ21
      have ZZ34 : n0 ≤ h32.size := Nat.le_trans Z0 SZ34
      have K35 : Keep h0 h32 [ti, tp, o0] := (K22).wr W32 (Or.inl (List.mem_of_getElem? (i := 0) rfl))
      obtain ⟨T36, X36, e36, st36⟩ := getF X32 hx hZ hown (host := "") (Or.inl (hw _ (List.mem_of_getElem? (i := 15) rfl))) Via.refl e32 F_place_o0_33 (g := (mkF m 55 #[.val (.ref o0), .val (.int (xi.toInt32)), .val (.int (j.toInt32)), .val (.int ((it (n - 1)).toInt32))] [(.ref o0)])) rfl rfl (hb hby d6_55)
      have qa37 := A_tp_33
      obtain ⟨c37, Ar37, Sz37, H37⟩ := qa37
      have hi38 : 0 ≤ (((it (n - 1)).toInt32) : Int32).toInt ∧ (((it (n - 1)).toInt32) : Int32).toInt < (3 : Nat) := (own_bd (show (it (n - 1)) < 3 by omega) (by decide))
      obtain ⟨T38, h38, X38, e38, W38, st38⟩ := stI X36 hx hZ e36 Ar37 (j := ((it (n - 1)).toInt32)) (own_in Sz37 hi38) (g := (mkF m 60 #[.val (.ref o0), .val (.int (xi.toInt32)), .val (.int (j.toInt32)), .val (.int ((it (n - 1)).toInt32))] [(.int (j.toInt32)), (.int ((it (n - 1)).toInt32)), (.ref tp)])) rfl rfl (hb hby d6_60)
      have N38 := Fr.snoc X38 N32 g_tp
      have A_tp_w38 : own_A Z h38 tp .int 3 (fun kk => (.int (if kk = (((it (n - 1)).toInt32) : Int32).toNatClampNeg then (j.toInt32) else (own_pl ((own_u pl xi 0) kk))))) := own_A.setI A_tp_33 W38
      have A_tp_w38u : own_A Z h38 tp .int 3 (fun kk => (.int (own_pl ((own_u (own_u pl xi 0) (it (n - 1)) (j + 1)) kk)))) := own_setpl A_tp_w38 (show (it (n - 1)) < 2147483648 by omega)
      have F_items_o0_39 : Fld Z h38 o0 "com/example/lean_layers/leanlayers/phase/layering/IndexedHeap" "items" "[I" (.ref ti) := (F_items_o0_33).other W38 (Or.inl ne_o0_tp)
      have F_keys_o0_39 : Fld Z h38 o0 "com/example/lean_layers/leanlayers/phase/layering/IndexedHeap" "keys" "[J" (.ref tk) := (F_keys_o0_33).other W38 (Or.inl ne_o0_tp)
      have F_place_o0_39 : Fld Z h38 o0 "com/example/lean_layers/leanlayers/phase/layering/IndexedHeap" "place" "[I" (.ref tp) := (F_place_o0_33).other W38 (Or.inl ne_o0_tp)
      have E_o0_39 : Exa Z h38 o0 "com/example/lean_layers/leanlayers/phase/layering/IndexedHeap" := (E_o0_33).wr W38
      have A_tk_39 : own_A Z h38 tk .long 3 (fun kk => (.long (ky kk))) := (A_tk_33).other W38 ne_tk_tp
      have F_size_o0_39 : Fld Z h38 o0 "com/example/lean_layers/leanlayers/phase/layering/IndexedHeap" "size" "I" (.int ((n - 1).toInt32)) := (F_size_o0_33).other W38 (Or.inl ne_o0_tp)
      have A_ti_39 : own_A Z h38 ti .int 3 (fun kk => (.int (((own_u it j (it (n - 1))) kk).toInt32))) := (A_ti_w32u).other W38 ne_ti_tp
      have SZ40 : h0.size ≤ h38.size := by rw [W38.size]; exact SZ34
      have ZZ40 : n0 ≤ h38.size := Nat.le_trans Z0 SZ40
      have K41 : Keep h0 h38 [ti, tp, o0] := (K35).wr W38 (Or.inl (List.mem_of_getElem? (i := 1) rfl))
      have hh63 : (own_u (own_u pl xi 0) (it (n - 1)) (j + 1)) (it (n - 1)) ≠ 0 := by rw [own_u_same]; exact Nat.succ_ne_zero j
      obtain ⟨cq42, q42, q42'⟩ := (E_o0_39).cell
      obtain ⟨_, _, ⟨T42, L42, k42, n42⟩, -, X42, ⟨Lc42, hQ42, l42, y42, z42⟩, st42⟩ := X38.privateBack hx (y := (⟨"com/example/lean_layers/leanlayers/phase/layering/IndexedHeap", "siftUp", "(I)V"⟩ : MethodName)) hown (mvT hZ (hw _ (List.mem_of_getElem? (i := 43) rfl))) (mvT hZ (hw _ (List.mem_of_getElem? (i := 44) rfl))) (own_selp (y := (⟨"com/example/lean_layers/leanlayers/phase/layering/IndexedHeap", "siftUp", "(I)V"⟩ : MethodName)) (mvT hZ (hw _ (List.mem_of_getElem? (i := 1) rfl))) (Cond.privateMethod_at (mvP hZ (hw _ (List.mem_of_getElem? (i := 45) rfl)) (args := #[]))) (mvT hZ (hw _ (List.mem_of_getElem? (i := 44) rfl))) (by decide)) (Cond.privateMethod_at (mvP hZ (hw _ (List.mem_of_getElem? (i := 45) rfl)) (args := #[]))) (mvT hZ (hw _ (List.mem_of_getElem? (i := 46) rfl))) (by decide) (backOf (W := 0) (rm8 l Z a0 hw [] o0 (j.toInt32) ti tk tp ky (own_u it j (it (n - 1))) (own_u (own_u pl xi 0) (it (n - 1)) (j + 1)) (n - 1) j h38 n0 ZZ40 F_items_o0_39 F_keys_o0_39 F_place_o0_39 E_o0_39 F_size_o0_39 A_ti_39 A_tk_39 A_tp_w38u g_ti g_tp ne_o0_ti ne_o0_tk ne_o0_tp ne_ti_tk ne_ti_tp ne_tk_tp rfl hlt hIV1) hZ (hw _ (List.mem_of_getElem? (i := 46) rfl)) (hw _ (List.mem_of_getElem? (i := 2) rfl)) (by decide) (by decide)) (g := (mkF m 63 #[.val (.ref o0), .val (.int (xi.toInt32)), .val (.int (j.toInt32)), .val (.int ((it (n - 1)).toInt32))] [(.int (j.toInt32)), (.ref o0)])) rfl (by rw [hml]; rfl) (Steps.refl _) (a := o0) (by rw [e38]; exact q42) q42' (argsL := [(.int (j.toInt32))]) (rest := []) (lenOf pd_3 rfl) rfl (by show 2 * 0 + _ ≤ _; exact Nat.le_of_eq rfl) (hb hby d6_63) (fun _ _ => ⟨rfl, e38, (by decide : 0 + 0 ≤ _), (by decide : 0 + 0 ≤ _)⟩)
      dsimp only [Pt.U, Pt.locs, Pt.cells, Pt.slots] at X42 l42 y42 z42 st42 hQ42
      subst y42 z42
      obtain ⟨it2_42, pl2_42, rfl, N42q, Kc42, P42_0, P42_1, P42_2, P42_3⟩ := hQ42
      have N42 := Fr.app N38 N42q
      rw [← l42] at N42
      have F_items_o0_43 : Fld Z T42.heap o0 "com/example/lean_layers/leanlayers/phase/layering/IndexedHeap" "items" "[I" (.ref ti) := (F_items_o0_39).keep Kc42 (ninS ne_o0_ti (ninS ne_o0_tp nin0))
      have F_keys_o0_43 : Fld Z T42.heap o0 "com/example/lean_layers/leanlayers/phase/layering/IndexedHeap" "keys" "[J" (.ref tk) := (F_keys_o0_39).keep Kc42 (ninS ne_o0_ti (ninS ne_o0_tp nin0))
      have F_place_o0_43 : Fld Z T42.heap o0 "com/example/lean_layers/leanlayers/phase/layering/IndexedHeap" "place" "[I" (.ref tp) := (F_place_o0_39).keep Kc42 (ninS ne_o0_ti (ninS ne_o0_tp nin0))
      have E_o0_43 : Exa Z T42.heap o0 "com/example/lean_layers/leanlayers/phase/layering/IndexedHeap" := (E_o0_39).keep Kc42
      have A_tk_43 : own_A Z T42.heap tk .long 3 (fun kk => (.long (ky kk))) := (A_tk_39).keep Kc42 (ninS (Ne.symm ne_ti_tk) (ninS ne_tk_tp nin0))
      have F_size_o0_43 : Fld Z T42.heap o0 "com/example/lean_layers/leanlayers/phase/layering/IndexedHeap" "size" "I" (.int ((n - 1).toInt32)) := (F_size_o0_39).keep Kc42 (ninS ne_o0_ti (ninS ne_o0_tp nin0))
      have SZ44 : h0.size ≤ T42.heap.size := Nat.le_trans SZ40 Kc42.1
      have ZZ44 : n0 ≤ T42.heap.size := Nat.le_trans Z0 SZ44
      have K45 : Keep h0 T42.heap [ti, tp, o0] := (K41).trans Kc42 (allS (Or.inl (List.mem_of_getElem? (i := 0) rfl)) (allS (Or.inl (List.mem_of_getElem? (i := 1) rfl)) all0))
      obtain ⟨T46, X46, e46, st46⟩ := getF X42 hx hZ hown (host := "") (Or.inl (hw _ (List.mem_of_getElem? (i := 15) rfl))) Via.refl rfl F_place_o0_43 (g := (mkF m 68 #[.val (.ref o0), .val (.int (xi.toInt32)), .val (.int (j.toInt32)), .val (.int ((it (n - 1)).toInt32))] [(.ref o0), (.ref o0)])) rfl rfl (hb hby d6_68)
      have qa47 := P42_1
      obtain ⟨c47, Ar47, Sz47, H47⟩ := qa47
      have hi48 : 0 ≤ (((it (n - 1)).toInt32) : Int32).toInt ∧ (((it (n - 1)).toInt32) : Int32).toInt < (3 : Nat) := (own_bd (show (it (n - 1)) < 3 by omega) (by decide))
      obtain ⟨j49, hj49, hpj49, hij49⟩ := own_IV_held P42_2 hlc (fun z => hh63 ((P42_3 (it (n - 1)) hlc).mp z))
      have hl48 : c47.slots[(((it (n - 1)).toInt32) : Int32).toNatClampNeg]? = some (.int (j49.toInt32)) := by rw [show (j49.toInt32) = ((own_pl (pl2_42 (((it (n - 1)).toInt32) : Int32).toNatClampNeg))) from by rw [own_tn (show (it (n - 1)) < 2147483648 by omega), hpj49, own_pl_succ]]; exact H47 _ (own_ix hi48)
      obtain ⟨cq50, q50, q50'⟩ := (E_o0_43).cell
      obtain ⟨_, _, ⟨T50, L50, k50, n50⟩, -, X50, ⟨Lc50, hQ50, l50, y50, z50⟩, st50⟩ := X46.privateBack hx (y := (⟨"com/example/lean_layers/leanlayers/phase/layering/IndexedHeap", "siftDown", "(I)V"⟩ : MethodName)) hown (mvT hZ (hw _ (List.mem_of_getElem? (i := 51) rfl))) (mvT hZ (hw _ (List.mem_of_getElem? (i := 52) rfl))) (own_selp (y := (⟨"com/example/lean_layers/leanlayers/phase/layering/IndexedHeap", "siftDown", "(I)V"⟩ : MethodName)) (mvT hZ (hw _ (List.mem_of_getElem? (i := 1) rfl))) (Cond.privateMethod_at (mvP hZ (hw _ (List.mem_of_getElem? (i := 53) rfl)) (args := #[]))) (mvT hZ (hw _ (List.mem_of_getElem? (i := 52) rfl))) (by decide)) (Cond.privateMethod_at (mvP hZ (hw _ (List.mem_of_getElem? (i := 53) rfl)) (args := #[]))) (mvT hZ (hw _ (List.mem_of_getElem? (i := 54) rfl))) (by decide) (backOf (W := 0) (rm10 l Z a0 hw [] o0 (j49.toInt32) ti tk tp ky it2_42 pl2_42 (n - 1) j49 T42.heap n0 ZZ44 F_items_o0_43 F_keys_o0_43 F_place_o0_43 E_o0_43 F_size_o0_43 P42_0 A_tk_43 P42_1 g_ti g_tp ne_o0_ti ne_o0_tk ne_o0_tp ne_ti_tk ne_ti_tp ne_tk_tp rfl hj49 P42_2) hZ (hw _ (List.mem_of_getElem? (i := 54) rfl)) (hw _ (List.mem_of_getElem? (i := 2) rfl)) (by decide) (by decide)) (g := (mkF m 73 #[.val (.ref o0), .val (.int (xi.toInt32)), .val (.int (j.toInt32)), .val (.int ((it (n - 1)).toInt32))] [(.int (j49.toInt32)), (.ref o0)])) rfl (by rw [hml]; rfl) (Steps.refl _) (a := o0) (by rw [e46]; exact q50) q50' (argsL := [(.int (j49.toInt32))]) (rest := []) (lenOf pd_3 rfl) rfl (by show 2 * 0 + _ ≤ _; exact Nat.le_of_eq rfl) (hb hby d6_73) (fun _ _ => ⟨rfl, e46, (by decide : 0 + 0 ≤ _), (by decide : 0 + 0 ≤ _)⟩)
      dsimp only [Pt.U, Pt.locs, Pt.cells, Pt.slots] at X50 l50 y50 z50 st50 hQ50
      subst y50 z50
      obtain ⟨it2_50, pl2_50, rfl, N50q, Kc50, P50_0, P50_1, P50_2, P50_3⟩ := hQ50
      have N50 := Fr.app N42 N50q
      rw [← l50] at N50
      have F_items_o0_51 : Fld Z T50.heap o0 "com/example/lean_layers/leanlayers/phase/layering/IndexedHeap" "items" "[I" (.ref ti) := (F_items_o0_43).keep Kc50 (ninS ne_o0_ti (ninS ne_o0_tp nin0))
      have F_keys_o0_51 : Fld Z T50.heap o0 "com/example/lean_layers/leanlayers/phase/layering/IndexedHeap" "keys" "[J" (.ref tk) := (F_keys_o0_43).keep Kc50 (ninS ne_o0_ti (ninS ne_o0_tp nin0))
      have F_place_o0_51 : Fld Z T50.heap o0 "com/example/lean_layers/leanlayers/phase/layering/IndexedHeap" "place" "[I" (.ref tp) := (F_place_o0_43).keep Kc50 (ninS ne_o0_ti (ninS ne_o0_tp nin0))
      have E_o0_51 : Exa Z T50.heap o0 "com/example/lean_layers/leanlayers/phase/layering/IndexedHeap" := (E_o0_43).keep Kc50
      have A_tk_51 : own_A Z T50.heap tk .long 3 (fun kk => (.long (ky kk))) := (A_tk_43).keep Kc50 (ninS (Ne.symm ne_ti_tk) (ninS ne_tk_tp nin0))
      have F_size_o0_51 : Fld Z T50.heap o0 "com/example/lean_layers/leanlayers/phase/layering/IndexedHeap" "size" "I" (.int ((n - 1).toInt32)) := (F_size_o0_43).keep Kc50 (ninS ne_o0_ti (ninS ne_o0_tp nin0))
      have SZ52 : h0.size ≤ T50.heap.size := Nat.le_trans SZ44 Kc50.1
      have ZZ52 : n0 ≤ T50.heap.size := Nat.le_trans Z0 SZ52
      have K53 : Keep h0 T50.heap [ti, tp, o0] := (K45).trans Kc50 (allS (Or.inl (List.mem_of_getElem? (i := 0) rfl)) (allS (Or.inl (List.mem_of_getElem? (i := 1) rfl)) all0))
      have pre54 : ∀ t, Steps p.tables e below (T50.setTop (mkF m 76 #[.val (.ref o0), .val (.int (xi.toInt32)), .val (.int (j.toInt32)), .val (.int ((it (n - 1)).toInt32))] [])) t → Steps p.tables e below (s₁.setTop (entryFrame m #[(.ref o0), (.int p1)] 4)) t := fun t k => pre24 t (by
        refine XS.icmpNo X23.here hx rfl (hb hby d6_34) rfl (tlt hs25).2.1 ?_
        show Steps p.tables e below (T23.setTop (mkF m 37 #[.val (.ref o0), .val (.int (xi.toInt32)), .val (.int (j.toInt32)), .unset] [])) _
        refine XS.aloadN X23.here hx rfl (hb hby d6_37) rfl rfl ?_
        show Steps p.tables e below (T23.setTop (mkF m 38 #[.val (.ref o0), .val (.int (xi.toInt32)), .val (.int (j.toInt32)), .unset] [(.ref o0)])) _
        refine st26 _ ?_
        show Steps p.tables e below (T26.setTop (mkF m 41 #[.val (.ref o0), .val (.int (xi.toInt32)), .val (.int (j.toInt32)), .unset] [(.ref ti)])) _
        refine XS.aloadN X26.here hx rfl (hb hby d6_41) rfl rfl ?_
        show Steps p.tables e below (T26.setTop (mkF m 42 #[.val (.ref o0), .val (.int (xi.toInt32)), .val (.int (j.toInt32)), .unset] [(.ref o0), (.ref ti)])) _
        refine st27 _ ?_
        show Steps p.tables e below (T27.setTop (mkF m 45 #[.val (.ref o0), .val (.int (xi.toInt32)), .val (.int (j.toInt32)), .unset] [(.int ((n - 1).toInt32)), (.ref ti)])) _
        refine X27.iaload hx (j := ((n - 1).toInt32)) (v := (.int ((it (n - 1)).toInt32))) (by rw [e27]; exact Ar28.1) (State.isArrayOf_alike hZ.alike Ar28.2.1) Ar28.2.2 (own_in Sz28 hi29) hl29 (g := (mkF m 45 #[.val (.ref o0), .val (.int (xi.toInt32)), .val (.int (j.toInt32)), .unset] [(.int ((n - 1).toInt32)), (.ref ti)])) rfl rfl (hb hby d6_45) _ ?_
        show Steps p.tables e below (T27.setTop (mkF m 46 #[.val (.ref o0), .val (.int (xi.toInt32)), .val (.int (j.toInt32)), .unset] [(.int ((it (n - 1)).toInt32))])) _
        refine XS.istoreN X27.here hx rfl (hb hby d6_46) rfl (l' := #[.val (.ref o0), .val (.int (xi.toInt32)), .val (.int (j.toInt32)), .val (.int ((it (n - 1)).toInt32))]) rfl ?_
        show Steps p.tables e below (T27.setTop (mkF m 47 #[.val (.ref o0), .val (.int (xi.toInt32)), .val (.int (j.toInt32)), .val (.int ((it (n - 1)).toInt32))] [])) _
        refine XS.aloadN X27.here hx rfl (hb hby d6_47) rfl rfl ?_
        show Steps p.tables e below (T27.setTop (mkF m 48 #[.val (.ref o0), .val (.int (xi.toInt32)), .val (.int (j.toInt32)), .val (.int ((it (n - 1)).toInt32))] [(.ref o0)])) _
        refine st30 _ ?_
        show Steps p.tables e below (T30.setTop (mkF m 51 #[.val (.ref o0), .val (.int (xi.toInt32)), .val (.int (j.toInt32)), .val (.int ((it (n - 1)).toInt32))] [(.ref ti)])) _
        refine XS.iloadN X30.here hx rfl (hb hby d6_51) rfl ?_
        show Steps p.tables e below (T30.setTop (mkF m 52 #[.val (.ref o0), .val (.int (xi.toInt32)), .val (.int (j.toInt32)), .val (.int ((it (n - 1)).toInt32))] [(.int (j.toInt32)), (.ref ti)])) _
        refine XS.iloadN X30.here hx rfl (hb hby d6_52) rfl ?_
        show Steps p.tables e below (T30.setTop (mkF m 53 #[.val (.ref o0), .val (.int (xi.toInt32)), .val (.int (j.toInt32)), .val (.int ((it (n - 1)).toInt32))] [(.int ((it (n - 1)).toInt32)), (.int (j.toInt32)), (.ref ti)])) _
        refine st32 _ ?_
        show Steps p.tables e below (T32.setTop (mkF m 54 #[.val (.ref o0), .val (.int (xi.toInt32)), .val (.int (j.toInt32)), .val (.int ((it (n - 1)).toInt32))] [])) _
        refine XS.aloadN X32.here hx rfl (hb hby d6_54) rfl rfl ?_
        show Steps p.tables e below (T32.setTop (mkF m 55 #[.val (.ref o0), .val (.int (xi.toInt32)), .val (.int (j.toInt32)), .val (.int ((it (n - 1)).toInt32))] [(.ref o0)])) _
        refine st36 _ ?_
        show Steps p.tables e below (T36.setTop (mkF m 58 #[.val (.ref o0), .val (.int (xi.toInt32)), .val (.int (j.toInt32)), .val (.int ((it (n - 1)).toInt32))] [(.ref tp)])) _
        refine XS.iloadN X36.here hx rfl (hb hby d6_58) rfl ?_
        show Steps p.tables e below (T36.setTop (mkF m 59 #[.val (.ref o0), .val (.int (xi.toInt32)), .val (.int (j.toInt32)), .val (.int ((it (n - 1)).toInt32))] [(.int ((it (n - 1)).toInt32)), (.ref tp)])) _
        refine XS.iloadN X36.here hx rfl (hb hby d6_59) rfl ?_
        show Steps p.tables e below (T36.setTop (mkF m 60 #[.val (.ref o0), .val (.int (xi.toInt32)), .val (.int (j.toInt32)), .val (.int ((it (n - 1)).toInt32))] [(.int (j.toInt32)), (.int ((it (n - 1)).toInt32)), (.ref tp)])) _
        refine st38 _ ?_
        show Steps p.tables e below (T38.setTop (mkF m 61 #[.val (.ref o0), .val (.int (xi.toInt32)), .val (.int (j.toInt32)), .val (.int ((it (n - 1)).toInt32))] [])) _
        refine XS.aloadN X38.here hx rfl (hb hby d6_61) rfl rfl ?_
        show Steps p.tables e below (T38.setTop (mkF m 62 #[.val (.ref o0), .val (.int (xi.toInt32)), .val (.int (j.toInt32)), .val (.int ((it (n - 1)).toInt32))] [(.ref o0)])) _
        refine XS.iloadN X38.here hx rfl (hb hby d6_62) rfl ?_
        show Steps p.tables e below (T38.setTop (mkF m 63 #[.val (.ref o0), .val (.int (xi.toInt32)), .val (.int (j.toInt32)), .val (.int ((it (n - 1)).toInt32))] [(.int (j.toInt32)), (.ref o0)])) _
        refine st42.trans ?_
        show Steps p.tables e below (T42.setTop (mkF m 66 #[.val (.ref o0), .val (.int (xi.toInt32)), .val (.int (j.toInt32)), .val (.int ((it (n - 1)).toInt32))] [])) _
        refine XS.aloadN X42.here hx rfl (hb hby d6_66) rfl rfl ?_
        show Steps p.tables e below (T42.setTop (mkF m 67 #[.val (.ref o0), .val (.int (xi.toInt32)), .val (.int (j.toInt32)), .val (.int ((it (n - 1)).toInt32))] [(.ref o0)])) _
        refine XS.aloadN X42.here hx rfl (hb hby d6_67) rfl rfl ?_
        show Steps p.tables e below (T42.setTop (mkF m 68 #[.val (.ref o0), .val (.int (xi.toInt32)), .val (.int (j.toInt32)), .val (.int ((it (n - 1)).toInt32))] [(.ref o0), (.ref o0)])) _
        refine st46 _ ?_
        show Steps p.tables e below (T46.setTop (mkF m 71 #[.val (.ref o0), .val (.int (xi.toInt32)), .val (.int (j.toInt32)), .val (.int ((it (n - 1)).toInt32))] [(.ref tp), (.ref o0)])) _
        refine XS.iloadN X46.here hx rfl (hb hby d6_71) rfl ?_
        show Steps p.tables e below (T46.setTop (mkF m 72 #[.val (.ref o0), .val (.int (xi.toInt32)), .val (.int (j.toInt32)), .val (.int ((it (n - 1)).toInt32))] [(.int ((it (n - 1)).toInt32)), (.ref tp), (.ref o0)])) _
        refine X46.iaload hx (j := ((it (n - 1)).toInt32)) (v := (.int (j49.toInt32))) (by rw [e46]; exact Ar47.1) (State.isArrayOf_alike hZ.alike Ar47.2.1) Ar47.2.2 (own_in Sz47 hi48) hl48 (g := (mkF m 72 #[.val (.ref o0), .val (.int (xi.toInt32)), .val (.int (j.toInt32)), .val (.int ((it (n - 1)).toInt32))] [(.int ((it (n - 1)).toInt32)), (.ref tp), (.ref o0)])) rfl rfl (hb hby d6_72) _ ?_
        show Steps p.tables e below (T46.setTop (mkF m 73 #[.val (.ref o0), .val (.int (xi.toInt32)), .val (.int (j.toInt32)), .val (.int ((it (n - 1)).toInt32))] [(.int (j49.toInt32)), (.ref o0)])) _
        refine st50.trans ?_
        show Steps p.tables e below (T50.setTop (mkF m 76 #[.val (.ref o0), .val (.int (xi.toInt32)), .val (.int (j.toInt32)), .val (.int ((it (n - 1)).toInt32))] [])) _
        exact k)
      obtain ⟨fs, hr, hrun, hended, hW, hsame⟩ := X50.leave (v := none) (fun _ => rfl)
      refine ⟨_, _, pre54 _ ?_, hrun, hended, _, _, rfl, ?_, ⟨_, rfl⟩, hW, hsame.mono (by decide) (by decide)⟩
      · exact X50.returnOut hx Bd.returns (hb hby d6_76) hr
      · show Q6 Z o0 p1 ti tk tp ky it pl n xi h0 n0 _ T50.heap _
        skip
        exact ⟨(n - 1), it2_50, pl2_50, rfl, N50, K53, F_size_o0_51, F_items_o0_51, F_keys_o0_51, F_place_o0_51, P50_0, P50_1, P50_2, (fun y hy => ((P50_3 y hy).trans ((P42_3 y hy).trans (hHD y hy))))⟩
    · have hnl : ¬ j < n - 1 := fun q => hs25 ((own_ltn (by omega) (by omega)).mpr q)
      have pre55 : ∀ t, Steps p.tables e below (T23.setTop (mkF m 76 #[.val (.ref o0), .val (.int (xi.toInt32)), .val (.int (j.toInt32)), .unset] [])) t → Steps p.tables e below (s₁.setTop (entryFrame m #[(.ref o0), (.int p1)] 4)) t := fun t k => pre24 t (by
        refine XS.icmpYes X23.here hx rfl (pc0 := 34) (pc' := 76) rfl (hb hby d6_34) rfl (flt hs25).2.1 (by decide) (by decide) ?_
        show Steps p.tables e below (T23.setTop (mkF m 76 #[.val (.ref o0), .val (.int (xi.toInt32)), .val (.int (j.toInt32)), .unset] [])) _
        exact k)
      obtain ⟨fs, hr, hrun, hended, hW, hsame⟩ := X23.leave (v := none) (fun _ => rfl)
      refine ⟨_, _, pre55 _ ?_, hrun, hended, _, _, rfl, ?_, ⟨_, rfl⟩, hW, hsame.mono (by decide) (by decide)⟩
      · exact X23.returnOut hx Bd.returns (hb hby d6_76) hr
      · show Q6 Z o0 p1 ti tk tp ky it pl n xi h0 n0 _ T23.heap _
        rw [e23]
        exact ⟨(n - 1), it, (own_u pl xi 0), rfl, N19, K22, F_size_o0_20, F_items_o0_20, F_keys_o0_20, F_place_o0_20, A_ti_20, A_tp_w19u, (own_IV_rml hIV hxc hpj (show j + 1 = n by omega) hij), own_held_rm⟩

theorem own_it4 (y : Int32) : ∃ k : Nat, k < 4 ∧ (y &&& (3 : Int32)) = k.toInt32 := by
  have e1 : (y &&& (3 : Int32)).toInt = y.toInt % (2 ^ 2 : Nat) := c_mask y 3 2 (by decide) (by decide)
  obtain ⟨n, h⟩ := own_fin (c := y &&& (3 : Int32)) (N := 4) (by omega) (by omega) (by decide)
  exact ⟨n.1, n.2, h⟩
theorem own_rem3 : ∀ k : Fin 4, (k.1.toInt32 % (3 : Int32)) = (k.1 % 3).toInt32 := by decide +kernel
theorem own_it3 (y : Int32) : ∃ k : Nat, k < 3 ∧ ((y &&& (3 : Int32)) % (3 : Int32)) = k.toInt32 := by
  obtain ⟨k, h1, h2⟩ := own_it4 y
  exact ⟨k % 3, by omega, by rw [h2]; exact own_rem3 ⟨k, h1⟩⟩
def own_hd (k : Nat) : Int32 := if k = 0 then 0 else 1
theorem own_hd0 {k : Nat} : own_hd k = (0 : Int32) ↔ k = 0 := by
  unfold own_hd
  by_cases q : k = 0
  · rw [if_pos q]; exact ⟨fun _ => q, fun _ => rfl⟩
  · rw [if_neg q]; exact ⟨fun z => absurd z (by decide), fun z => absurd z q⟩
section OwnHd
variable {Z : State} {h : Heap} {b : Addr} {x n : Nat} {it pl pl2 : Nat → Nat}
theorem own_hput (F : own_A Z h b .boolean 3 (fun kk => (.int (if kk = ((x.toInt32) : Int32).toNatClampNeg then (nar .boolean (1 : Int32)) else (own_hd (pl kk)))))) (hx : x < 2147483648) (H : ∀ y, y < 3 → (pl2 y = 0 ↔ y ≠ x ∧ pl y = 0)) : own_A Z h b .boolean 3 (fun kk => (.int (own_hd (pl2 kk)))) :=
  F.eqv fun j hj => by
    rw [own_tn hx]
    by_cases q : j = x
    · simp only [if_pos q]
      have z : pl2 j ≠ 0 := fun r => ((H j hj).mp r).1 q
      unfold own_hd
      rw [if_neg z]; rfl
    · simp only [if_neg q]
      unfold own_hd
      by_cases z : pl j = 0
      · rw [if_pos z, if_pos ((H j hj).mpr ⟨q, z⟩)]
      · rw [if_neg z, if_neg (fun r => z ((H j hj).mp r).2)]
theorem own_hrem (F : own_A Z h b .boolean 3 (fun kk => (.int (if kk = ((x.toInt32) : Int32).toNatClampNeg then (nar .boolean (0 : Int32)) else (own_hd (pl kk)))))) (hx : x < 2147483648) (H : ∀ y, y < 3 → (pl2 y = 0 ↔ y = x ∨ pl y = 0)) : own_A Z h b .boolean 3 (fun kk => (.int (own_hd (pl2 kk)))) :=
  F.eqv fun j hj => by
    rw [own_tn hx]
    by_cases q : j = x
    · simp only [if_pos q]
      unfold own_hd
      rw [if_pos ((H j hj).mpr (Or.inl q))]; rfl
    · simp only [if_neg q]
      unfold own_hd
      by_cases z : pl j = 0
      · rw [if_pos z, if_pos ((H j hj).mpr (Or.inr z))]
      · rw [if_neg z, if_neg (fun r => ((H j hj).mp r).elim q z)]
theorem own_none (h : own_IV 3 n it pl) (h0 : own_hd (pl 0) = (0 : Int32)) (h1 : own_hd (pl 1) = (0 : Int32)) (h2 : own_hd (pl 2) = (0 : Int32)) : n = 0 :=
  (own_IV_n0 h (by decide)).mpr fun y hy => by
    rcases (show y = 0 ∨ y = 1 ∨ y = 2 by omega) with q | q | q
    · rw [q]; exact own_hd0.mp h0
    · rw [q]; exact own_hd0.mp h1
    · rw [q]; exact own_hd0.mp h2
theorem own_some (h : own_IV 3 n it pl) (k : Nat) (hk : k < 3) (h0 : ¬ own_hd (pl k) = (0 : Int32)) : 0 < n :=
  Nat.pos_of_ne_zero fun q => h0 (own_hd0.mpr ((own_IV_n0 h (by decide)).mp q k hk))
end OwnHd

theorem d5_0 : decode method_3_code 0 = .ok (.iload_n 2, 1) := by decide +kernel
theorem d5_1 : decode method_3_code 1 = .ok (.iconst 1, 1) := by decide +kernel
theorem d5_2 : decode method_3_code 2 = .ok (.iushr, 1) := by decide +kernel
theorem d5_3 : decode method_3_code 3 = .ok (.iconst 3, 1) := by decide +kernel
theorem d5_4 : decode method_3_code 4 = .ok (.iand, 1) := by decide +kernel
theorem d5_5 : decode method_3_code 5 = .ok (.iconst 3, 1) := by decide +kernel
theorem d5_6 : decode method_3_code 6 = .ok (.irem, 1) := by decide +kernel
theorem d5_7 : decode method_3_code 7 = .ok (.istore 5, 2) := by decide +kernel
theorem d5_9 : decode method_3_code 9 = .ok (.iload_n 2, 1) := by decide +kernel
theorem d5_10 : decode method_3_code 10 = .ok (.iconst 1, 1) := by decide +kernel
theorem d5_11 : decode method_3_code 11 = .ok (.iand, 1) := by decide +kernel
theorem d5_12 : decode method_3_code 12 = .ok (.ifCond .eq 18, 3) := by decide +kernel
theorem d5_15 : decode method_3_code 15 = .ok (.aload_n 0, 1) := by decide +kernel
theorem d5_16 : decode method_3_code 16 = .ok (.iload 5, 2) := by decide +kernel
theorem d5_18 : decode method_3_code 18 = .ok (.lload_n 3, 1) := by decide +kernel
theorem d5_19 : decode method_3_code 19 = .ok (.invokevirtual 22, 3) := by decide +kernel
theorem d5_22 : decode method_3_code 22 = .ok (.aload_n 1, 1) := by decide +kernel
theorem d5_23 : decode method_3_code 23 = .ok (.iload 5, 2) := by decide +kernel
theorem d5_25 : decode method_3_code 25 = .ok (.iconst 1, 1) := by decide +kernel
theorem d5_26 : decode method_3_code 26 = .ok (.bastore, 1) := by decide +kernel
theorem d5_27 : decode method_3_code 27 = .ok (.goto 14, 3) := by decide +kernel
theorem d5_30 : decode method_3_code 30 = .ok (.aload_n 0, 1) := by decide +kernel
theorem d5_31 : decode method_3_code 31 = .ok (.iload 5, 2) := by decide +kernel
theorem d5_33 : decode method_3_code 33 = .ok (.invokevirtual 26, 3) := by decide +kernel
theorem d5_36 : decode method_3_code 36 = .ok (.aload_n 1, 1) := by decide +kernel
theorem d5_37 : decode method_3_code 37 = .ok (.iload 5, 2) := by decide +kernel
theorem d5_39 : decode method_3_code 39 = .ok (.iconst 0, 1) := by decide +kernel
theorem d5_40 : decode method_3_code 40 = .ok (.bastore, 1) := by decide +kernel
theorem d5_41 : decode method_3_code 41 = .ok (.aload_n 1, 1) := by decide +kernel
theorem d5_42 : decode method_3_code 42 = .ok (.iconst 0, 1) := by decide +kernel
theorem d5_43 : decode method_3_code 43 = .ok (.baload, 1) := by decide +kernel
theorem d5_44 : decode method_3_code 44 = .ok (.ifCond .ne 19, 3) := by decide +kernel
theorem d5_47 : decode method_3_code 47 = .ok (.aload_n 1, 1) := by decide +kernel
theorem d5_48 : decode method_3_code 48 = .ok (.iconst 1, 1) := by decide +kernel
theorem d5_49 : decode method_3_code 49 = .ok (.baload, 1) := by decide +kernel
theorem d5_50 : decode method_3_code 50 = .ok (.ifCond .ne 13, 3) := by decide +kernel
theorem d5_53 : decode method_3_code 53 = .ok (.aload_n 1, 1) := by decide +kernel
theorem d5_54 : decode method_3_code 54 = .ok (.iconst 2, 1) := by decide +kernel
theorem d5_55 : decode method_3_code 55 = .ok (.baload, 1) := by decide +kernel
theorem d5_56 : decode method_3_code 56 = .ok (.ifCond .ne 7, 3) := by decide +kernel
theorem d5_59 : decode method_3_code 59 = .ok (.iconst 1, 1) := by decide +kernel
theorem d5_60 : decode method_3_code 60 = .ok (.goto 4, 3) := by decide +kernel
theorem d5_63 : decode method_3_code 63 = .ok (.iconst 0, 1) := by decide +kernel
theorem d5_64 : decode method_3_code 64 = .ok (.istore 6, 2) := by decide +kernel
theorem d5_66 : decode method_3_code 66 = .ok (.aload_n 0, 1) := by decide +kernel
theorem d5_67 : decode method_3_code 67 = .ok (.invokevirtual 12, 3) := by decide +kernel
theorem d5_70 : decode method_3_code 70 = .ok (.iload 6, 2) := by decide +kernel
theorem d5_72 : decode method_3_code 72 = .ok (.if_icmp .ne 7, 3) := by decide +kernel
theorem d5_75 : decode method_3_code 75 = .ok (.iconst 1, 1) := by decide +kernel
theorem d5_76 : decode method_3_code 76 = .ok (.goto 4, 3) := by decide +kernel
theorem d5_80 : decode method_3_code 80 = .ok (.ireturn, 1) := by decide +kernel
theorem pn_2 : plainName "com/example/lean_layers/leanlayers/phase/layering/IndexedHeapIsEmptyPinLaw" = true := by first | (simp [plainName, overriddenIn]; done) | decide +kernel
theorem pd_4 : parseMethodDescriptor "()Z" = some ⟨[], some .boolean⟩ := by decide +kernel
theorem pd_5 : parseMethodDescriptor "(IJ)V" = some ⟨[.int, .long], none⟩ := by decide +kernel
theorem ef_5 (m : MethodId) (o0 : Addr) (o1 : Addr) (p2 : Int32) (q3 : Int64) : entryFrame m #[(.ref o0), (.ref o1), (.int p2), (.long q3)] 7 = mkF m 0 #[.val (.ref o0), .val (.ref o1), .val (.int p2), .val (.long q3), .second, .unset, .unset] [] := by first | (simp [entryFrame, mkF, argsToLocals, Value.category]; done) | rfl

def Q5 (Z : State) (o0 : Addr) (o1 : Addr) (p2 : Int32) (q3 : Int64) (ti tk tp : Addr) (ky : Nat → Int64) (it pl : Nat → Nat) (n : Nat) (h0 : Heap) (n0 : Nat) (v : Option Value) (h : Heap) (L : List Loc) : Prop := ∃ (n2 : Nat) (it2 : Nat → Nat) (pl2 : Nat → Nat) (ky2 : Nat → Int64), v = some (.int (1 : Int32)) ∧ Fr n0 L ∧ Keep h0 h [ti, tk, tp, o0, o1] ∧ (Fld Z h o0 "com/example/lean_layers/leanlayers/phase/layering/IndexedHeap" "size" "I" (.int (n2.toInt32))) ∧ (Fld Z h o0 "com/example/lean_layers/leanlayers/phase/layering/IndexedHeap" "items" "[I" (.ref ti)) ∧ (Fld Z h o0 "com/example/lean_layers/leanlayers/phase/layering/IndexedHeap" "keys" "[J" (.ref tk)) ∧ (Fld Z h o0 "com/example/lean_layers/leanlayers/phase/layering/IndexedHeap" "place" "[I" (.ref tp)) ∧ (own_A Z h ti .int 3 (fun kk => (.int ((it2 kk).toInt32)))) ∧ (own_A Z h tk .long 3 (fun kk => (.long (ky2 kk)))) ∧ (own_A Z h tp .int 3 (fun kk => (.int (own_pl (pl2 kk))))) ∧ (own_A Z h o1 .boolean 3 (fun kk => (.int (own_hd (pl2 kk))))) ∧ (own_IV 3 n2 it2 pl2)
set_option maxRecDepth 65536 in
set_option maxHeartbeats 40000000 in
theorem rm5 (l : Launch) (Z : State) (a0 : Array Value) (hw : ∀ d ∈ tables_1, d.before a0 Z = true) (ws : List Jvm.Cond) (o0 : Addr) (o1 : Addr) (p2 : Int32) (q3 : Int64) (ti tk tp : Addr) (ky : Nat → Int64) (it pl : Nat → Nat) (n : Nat) (h0 : Heap) (n0 : Nat) (Z0 : n0 ≤ h0.size) (F_items_o0 : Fld Z h0 o0 "com/example/lean_layers/leanlayers/phase/layering/IndexedHeap" "items" "[I" (.ref ti)) (F_keys_o0 : Fld Z h0 o0 "com/example/lean_layers/leanlayers/phase/layering/IndexedHeap" "keys" "[J" (.ref tk)) (F_place_o0 : Fld Z h0 o0 "com/example/lean_layers/leanlayers/phase/layering/IndexedHeap" "place" "[I" (.ref tp)) (E_o0 : Exa Z h0 o0 "com/example/lean_layers/leanlayers/phase/layering/IndexedHeap") (F_size_o0 : Fld Z h0 o0 "com/example/lean_layers/leanlayers/phase/layering/IndexedHeap" "size" "I" (.int (n.toInt32))) (A_ti : own_A Z h0 ti .int 3 (fun kk => (.int ((it kk).toInt32)))) (A_tk : own_A Z h0 tk .long 3 (fun kk => (.long (ky kk)))) (A_tp : own_A Z h0 tp .int 3 (fun kk => (.int (own_pl (pl kk))))) (A_o1 : own_A Z h0 o1 .boolean 3 (fun kk => (.int (own_hd (pl kk))))) (g_ti : n0 ≤ ti) (g_tk : n0 ≤ tk) (g_tp : n0 ≤ tp) (g_o0 : n0 ≤ o0) (g_o1 : n0 ≤ o1) (ne_o0_ti : o0 ≠ ti) (ne_o0_tk : o0 ≠ tk) (ne_o0_tp : o0 ≠ tp) (ne_ti_tk : ti ≠ tk) (ne_ti_tp : ti ≠ tp) (ne_tk_tp : tk ≠ tp) (ne_o1_o0 : o1 ≠ o0) (ne_o1_ti : o1 ≠ ti) (ne_o1_tk : o1 ≠ tk) (ne_o1_tp : o1 ≠ tp) (hIV : own_IV 3 n it pl) :
    MetFree l (⟨"com/example/lean_layers/leanlayers/phase/layering/IndexedHeapIsEmptyPinLaw", "step", "(Lcom/example/lean_layers/leanlayers/phase/layering/IndexedHeap;[ZIJ)Z"⟩ : MethodName) (head1 (Jvm.Cond.code (⟨"com/example/lean_layers/leanlayers/phase/layering/IndexedHeapIsEmptyPinLaw", "step", "(Lcom/example/lean_layers/leanlayers/phase/layering/IndexedHeap;[ZIJ)Z"⟩ : MethodName) method_3_code 7 (some .boolean) :: ws) ({ frames := 4, cells := 0, slots := 0, locals := 71 } : Room)) (fun a U => a = #[(.ref o0), (.ref o1), (.int p2), (.long q3)] ∧ Z.Warmed39 U.vm ∧ U.heap = h0) (fun _ _ _ _ _ => True) (fun _ U o U' => ∃ v L, o = .returned v ∧ Q5 Z o0 o1 p2 q3 ti tk tp ky it pl n h0 n0 v U'.heap L ∧ FrameEnd U o U' L ({ frames := 4, cells := 0, slots := 0, locals := 71 } : Room).cells ({ frames := 4, cells := 0, slots := 0, locals := 71 } : Room).slots) := by
  refine MetFree.of_bodySF (plainFor_of_name pn_2) hisR ?_
  intro p e s m args below meth c s₁ Bd hml0 hP hK
  obtain ⟨rfl, hZ, hh⟩ := hP
  have hx := Bd.exec
  have hby := Bd.bytes
  have hml : c.maxLocals = 7 := hml0
  have hown : s.vm.findClass "com/example/lean_layers/leanlayers/phase/layering/IndexedHeapIsEmptyPinLaw" = some m.cls := findClass_of_methodNamed Bd.named
  have hnm := (name_of_methodNamed Bd.named Bd.method).1
  have X0 : Stand p l e ({ frames := 4, cells := 0, slots := 0, locals := 71 } : Room) s m #[(.ref o0), (.ref o1), (.int p2), (.long q3)] below meth c s₁ [] 0 0 := Stand.of_body Bd
  have e0 : s₁.heap = h0 := by rw [← hh, Bd.state]; rfl
  have N0 := Fr.nil n0
  have pre0 : ∀ t, Steps p.tables e below (s₁.setTop (mkF m 0 #[.val (.ref o0), .val (.ref o1), .val (.int p2), .val (.long q3), .second, .unset, .unset] [])) t → Steps p.tables e below (s₁.setTop (entryFrame m #[(.ref o0), (.ref o1), (.int p2), (.long q3)] 7)) t := fun t k => castTop (ef_5 m o0 o1 p2 q3) k
  obtain ⟨xi, hxc, hxe⟩ := own_it3 ((p2.toUInt32 >>> ((1 : Int32) &&& 31).toUInt32).toInt32)
  have pre1 : ∀ t, Steps p.tables e below (s₁.setTop (mkF m 9 #[.val (.ref o0), .val (.ref o1), .val (.int p2), .val (.long q3), .second, .val (.int ((((p2.toUInt32 >>> ((1 : Int32) &&& 31).toUInt32).toInt32) &&& (3 : Int32)) % (3 : Int32))), .unset] [])) t → Steps p.tables e below (s₁.setTop (entryFrame m #[(.ref o0), (.ref o1), (.int p2), (.long q3)] 7)) t := fun t k => pre0 t (by
    show Steps p.tables e below (s₁.setTop (mkF m 0 #[.val (.ref o0), .val (.ref o1), .val (.int p2), .val (.long q3), .second, .unset, .unset] [])) _
    refine XS.iloadN X0.here hx rfl (hb hby d5_0) rfl ?_
    show Steps p.tables e below (s₁.setTop (mkF m 1 #[.val (.ref o0), .val (.ref o1), .val (.int p2), .val (.long q3), .second, .unset, .unset] [(.int p2)])) _
    refine XS.iconst X0.here hx rfl (hb hby d5_1) ?_
    show Steps p.tables e below (s₁.setTop (mkF m 2 #[.val (.ref o0), .val (.ref o1), .val (.int p2), .val (.long q3), .second, .unset, .unset] [(.int (1 : Int32)), (.int p2)])) _
    refine XS.iushr X0.here hx rfl (hb hby d5_2) rfl ?_
    show Steps p.tables e below (s₁.setTop (mkF m 3 #[.val (.ref o0), .val (.ref o1), .val (.int p2), .val (.long q3), .second, .unset, .unset] [(.int ((p2.toUInt32 >>> ((1 : Int32) &&& 31).toUInt32).toInt32))])) _
    refine XS.iconst X0.here hx rfl (hb hby d5_3) ?_
    show Steps p.tables e below (s₁.setTop (mkF m 4 #[.val (.ref o0), .val (.ref o1), .val (.int p2), .val (.long q3), .second, .unset, .unset] [(.int (3 : Int32)), (.int ((p2.toUInt32 >>> ((1 : Int32) &&& 31).toUInt32).toInt32))])) _
    refine XS.iand X0.here hx rfl (hb hby d5_4) rfl ?_
    show Steps p.tables e below (s₁.setTop (mkF m 5 #[.val (.ref o0), .val (.ref o1), .val (.int p2), .val (.long q3), .second, .unset, .unset] [(.int (((p2.toUInt32 >>> ((1 : Int32) &&& 31).toUInt32).toInt32) &&& (3 : Int32)))])) _
    refine XS.iconst X0.here hx rfl (hb hby d5_5) ?_
    show Steps p.tables e below (s₁.setTop (mkF m 6 #[.val (.ref o0), .val (.ref o1), .val (.int p2), .val (.long q3), .second, .unset, .unset] [(.int (3 : Int32)), (.int (((p2.toUInt32 >>> ((1 : Int32) &&& 31).toUInt32).toInt32) &&& (3 : Int32)))])) _
    refine iremM (g := (mkF m 6 #[.val (.ref o0), .val (.ref o1), .val (.int p2), .val (.long q3), .second, .unset, .unset] [(.int (3 : Int32)), (.int (((p2.toUInt32 >>> ((1 : Int32) &&& 31).toUInt32).toInt32) &&& (3 : Int32)))])) X0 hx rfl (hb hby d5_6) rfl (by decide) ?_
    show Steps p.tables e below (s₁.setTop (mkF m 7 #[.val (.ref o0), .val (.ref o1), .val (.int p2), .val (.long q3), .second, .unset, .unset] [(.int ((((p2.toUInt32 >>> ((1 : Int32) &&& 31).toUInt32).toInt32) &&& (3 : Int32)) % (3 : Int32)))])) _
    refine XS.istore X0.here hx rfl (hb hby d5_7) rfl (l' := #[.val (.ref o0), .val (.ref o1), .val (.int p2), .val (.long q3), .second, .val (.int ((((p2.toUInt32 >>> ((1 : Int32) &&& 31).toUInt32).toInt32) &&& (3 : Int32)) % (3 : Int32))), .unset]) rfl ?_
    show Steps p.tables e below (s₁.setTop (mkF m 9 #[.val (.ref o0), .val (.ref o1), .val (.int p2), .val (.long q3), .second, .val (.int ((((p2.toUInt32 >>> ((1 : Int32) &&& 31).toUInt32).toInt32) &&& (3 : Int32)) % (3 : Int32))), .unset] [])) _
    exact k)
  have hre2 : ((((p2.toUInt32 >>> ((1 : Int32) &&& 31).toUInt32).toInt32) &&& (3 : Int32)) % (3 : Int32)) = (xi.toInt32) := hxe
  have pre2 : ∀ t, Steps p.tables e below (s₁.setTop (mkF m 9 #[.val (.ref o0), .val (.ref o1), .val (.int p2), .val (.long q3), .second, .val (.int (xi.toInt32)), .unset] [])) t → Steps p.tables e below (s₁.setTop (entryFrame m #[(.ref o0), (.ref o1), (.int p2), (.long q3)] 7)) t := fun t k => pre1 t (by rw [hre2]; exact k)
  have pre3 : ∀ t, Steps p.tables e below (s₁.setTop (mkF m 12 #[.val (.ref o0), .val (.ref o1), .val (.int p2), .val (.long q3), .second, .val (.int (xi.toInt32)), .unset] [(.int (p2 &&& (1 : Int32)))])) t → Steps p.tables e below (s₁.setTop (entryFrame m #[(.ref o0), (.ref o1), (.int p2), (.long q3)] 7)) t := fun t k => pre2 t (by
    show Steps p.tables e below (s₁.setTop (mkF m 9 #[.val (.ref o0), .val (.ref o1), .val (.int p2), .val (.long q3), .second, .val (.int (xi.toInt32)), .unset] [])) _
    refine XS.iloadN X0.here hx rfl (hb hby d5_9) rfl ?_
    show Steps p.tables e below (s₁.setTop (mkF m 10 #[.val (.ref o0), .val (.ref o1), .val (.int p2), .val (.long q3), .second, .val (.int (xi.toInt32)), .unset] [(.int p2)])) _
    refine XS.iconst X0.here hx rfl (hb hby d5_10) ?_
    show Steps p.tables e below (s₁.setTop (mkF m 11 #[.val (.ref o0), .val (.ref o1), .val (.int p2), .val (.long q3), .second, .val (.int (xi.toInt32)), .unset] [(.int (1 : Int32)), (.int p2)])) _
    refine XS.iand X0.here hx rfl (hb hby d5_11) rfl ?_
    show Steps p.tables e below (s₁.setTop (mkF m 12 #[.val (.ref o0), .val (.ref o1), .val (.int p2), .val (.long q3), .second, .val (.int (xi.toInt32)), .unset] [(.int (p2 &&& (1 : Int32)))])) _
    exact k)
  by_cases hs4 : (p2 &&& (1 : Int32)) = (0 : Int32)
  · obtain ⟨cq5, kq5, q5a, q5b, q5c⟩ := isOf hZ e0 (E_o0)
    obtain ⟨_, _, ⟨T5, L5, k5, n5⟩, -, X5, ⟨Lc5, hQ5, l5, y5, z5⟩, st5⟩ := X0.virtualBack hx (y := (⟨"com/example/lean_layers/leanlayers/phase/layering/IndexedHeap", "remove", "(I)V"⟩ : MethodName)) (z := (⟨"com/example/lean_layers/leanlayers/phase/layering/IndexedHeap", "remove", "(I)V"⟩ : MethodName)) hown (mvT hZ (hw _ (List.mem_of_getElem? (i := 33) rfl))) (mvT hZ (hw _ (List.mem_of_getElem? (i := 34) rfl))) (notFace_of_selects (args := #[]) (mvT hZ (hw _ (List.mem_of_getElem? (i := 36) rfl)))) (mvT hZ (hw _ (List.mem_of_getElem? (i := 36) rfl))) (mvT hZ (hw _ (List.mem_of_getElem? (i := 35) rfl))) (by decide) (backOf (W := 0) (rm6 l Z a0 hw [] o0 (xi.toInt32) ti tk tp ky it pl n xi h0 n0 Z0 F_items_o0 F_keys_o0 F_place_o0 E_o0 F_size_o0 A_ti A_tk A_tp g_ti g_tp g_o0 ne_o0_ti ne_o0_tk ne_o0_tp ne_ti_tk ne_ti_tp ne_tk_tp rfl hxc hIV) hZ (hw _ (List.mem_of_getElem? (i := 37) rfl)) (hw _ (List.mem_of_getElem? (i := 2) rfl)) (by decide) (by decide)) q5a q5c (g := (mkF m 33 #[.val (.ref o0), .val (.ref o1), .val (.int p2), .val (.long q3), .second, .val (.int (xi.toInt32)), .unset] [(.int (xi.toInt32)), (.ref o0)])) rfl (by rw [hml]; rfl) (Steps.refl _) (argsL := [(.int (xi.toInt32))]) (rest := []) (lenOf pd_3 rfl) rfl (by show 2 * 0 + _ ≤ _; exact Nat.le_of_eq rfl) (hb hby d5_33) (fun _ _ => ⟨rfl, e0, (by decide : 0 + 0 ≤ _), (by decide : 0 + 0 ≤ _)⟩)
    dsimp only [Pt.U, Pt.locs, Pt.cells, Pt.slots] at X5 l5 y5 z5 st5 hQ5
    subst y5 z5
    obtain ⟨n2_5, it2_5, pl2_5, rfl, N5q, Kc5, P5_0, P5_1, P5_2, P5_3, P5_4, P5_5, P5_6, P5_7⟩ := hQ5
    have N5 := Fr.app N0 N5q
    rw [← l5] at N5
    have E_o0_6 : Exa Z T5.heap o0 "com/example/lean_layers/leanlayers/phase/layering/IndexedHeap" := (E_o0).keep Kc5
    have A_tk_6 : own_A Z T5.heap tk .long 3 (fun kk => (.long (ky kk))) := (A_tk).keep Kc5 (ninS (Ne.symm ne_ti_tk) (ninS ne_tk_tp (ninS (Ne.symm ne_o0_tk) nin0)))
    have A_o1_6 : own_A Z T5.heap o1 .boolean 3 (fun kk => (.int (own_hd (pl kk)))) := (A_o1).keep Kc5 (ninS ne_o1_ti (ninS ne_o1_tp (ninS ne_o1_o0 nin0)))
    have SZ7 : h0.size ≤ T5.heap.size := Nat.le_trans (Nat.le_refl _) Kc5.1
    have ZZ7 : n0 ≤ T5.heap.size := Nat.le_trans Z0 SZ7
    have K8 : Keep h0 T5.heap [ti, tk, tp, o0, o1] := ((Keep.refl h0 [ti, tk, tp, o0, o1])).trans Kc5 (allS (Or.inl (List.mem_of_getElem? (i := 0) rfl)) (allS (Or.inl (List.mem_of_getElem? (i := 2) rfl)) (allS (Or.inl (List.mem_of_getElem? (i := 3) rfl)) all0)))
    have qa9 := A_o1_6
    obtain ⟨c9, Ar9, Sz9, H9⟩ := qa9
    have hi10 : 0 ≤ ((xi.toInt32) : Int32).toInt ∧ ((xi.toInt32) : Int32).toInt < (3 : Nat) := (own_bd (show xi < 3 by omega) (by decide))
    obtain ⟨T10, h10, X10, e10, W10, st10⟩ := stZ X5 hx hZ rfl Ar9 (j := (xi.toInt32)) (own_in Sz9 hi10) (g := (mkF m 40 #[.val (.ref o0), .val (.ref o1), .val (.int p2), .val (.long q3), .second, .val (.int (xi.toInt32)), .unset] [(.int (0 : Int32)), (.int (xi.toInt32)), (.ref o1)])) rfl rfl (hb hby d5_40)
    have N10 := Fr.snoc X10 N5 g_o1
    have A_o1_w10 : own_A Z h10 o1 .boolean 3 (fun kk => (.int (if kk = ((xi.toInt32) : Int32).toNatClampNeg then (nar .boolean (0 : Int32)) else (own_hd (pl kk))))) := own_A.setI A_o1_6 W10
    have A_o1_w10u : own_A Z h10 o1 .boolean 3 (fun kk => (.int (own_hd (pl2_5 kk)))) := own_hrem A_o1_w10 (show xi < 2147483648 by omega) P5_7
    have E_o0_11 : Exa Z h10 o0 "com/example/lean_layers/leanlayers/phase/layering/IndexedHeap" := (E_o0_6).wr W10
    have A_tk_11 : own_A Z h10 tk .long 3 (fun kk => (.long (ky kk))) := (A_tk_6).other W10 (Ne.symm ne_o1_tk)
    have F_size_o0_11 : Fld Z h10 o0 "com/example/lean_layers/leanlayers/phase/layering/IndexedHeap" "size" "I" (.int (n2_5.toInt32)) := (P5_0).other W10 (Or.inl (Ne.symm ne_o1_o0))
    have F_items_o0_11 : Fld Z h10 o0 "com/example/lean_layers/leanlayers/phase/layering/IndexedHeap" "items" "[I" (.ref ti) := (P5_1).other W10 (Or.inl (Ne.symm ne_o1_o0))
    have F_keys_o0_11 : Fld Z h10 o0 "com/example/lean_layers/leanlayers/phase/layering/IndexedHeap" "keys" "[J" (.ref tk) := (P5_2).other W10 (Or.inl (Ne.symm ne_o1_o0))
    have F_place_o0_11 : Fld Z h10 o0 "com/example/lean_layers/leanlayers/phase/layering/IndexedHeap" "place" "[I" (.ref tp) := (P5_3).other W10 (Or.inl (Ne.symm ne_o1_o0))
    have A_ti_11 : own_A Z h10 ti .int 3 (fun kk => (.int ((it2_5 kk).toInt32))) := (P5_4).other W10 (Ne.symm ne_o1_ti)
    have A_tp_11 : own_A Z h10 tp .int 3 (fun kk => (.int (own_pl (pl2_5 kk)))) := (P5_5).other W10 (Ne.symm ne_o1_tp)
    have SZ12 : h0.size ≤ h10.size := by rw [W10.size]; exact SZ7
    have ZZ12 : n0 ≤ h10.size := Nat.le_trans Z0 SZ12
    have K13 : Keep h0 h10 [ti, tk, tp, o0, o1] := (K8).wr W10 (Or.inl (List.mem_of_getElem? (i := 4) rfl))
    have qa14 := A_o1_w10u
    obtain ⟨c14, Ar14, Sz14, H14⟩ := qa14
    have hi15 : 0 ≤ ((0 : Int32) : Int32).toInt ∧ ((0 : Int32) : Int32).toInt < (3 : Nat) := (by decide)
    have hl15 : c14.slots[((0 : Int32) : Int32).toNatClampNeg]? = some (.int (own_hd (pl2_5 0))) := by rw [show (own_hd (pl2_5 0)) = ((own_hd (pl2_5 ((0 : Int32) : Int32).toNatClampNeg))) from rfl]; exact H14 _ (own_ix hi15)
    have pre16 : ∀ t, Steps p.tables e below (T10.setTop (mkF m 44 #[.val (.ref o0), .val (.ref o1), .val (.int p2), .val (.long q3), .second, .val (.int (xi.toInt32)), .unset] [(.int (own_hd (pl2_5 0)))])) t → Steps p.tables e below (s₁.setTop (entryFrame m #[(.ref o0), (.ref o1), (.int p2), (.long q3)] 7)) t := fun t k => pre3 t (by
      refine XS.ifYes X0.here hx rfl (pc0 := 12) (pc' := 30) rfl (hb hby d5_12) rfl ((if0 _ _).trans (teq hs4).1) (by decide) (by decide) ?_
      show Steps p.tables e below (s₁.setTop (mkF m 30 #[.val (.ref o0), .val (.ref o1), .val (.int p2), .val (.long q3), .second, .val (.int (xi.toInt32)), .unset] [])) _
      refine XS.aloadN X0.here hx rfl (hb hby d5_30) rfl rfl ?_
      show Steps p.tables e below (s₁.setTop (mkF m 31 #[.val (.ref o0), .val (.ref o1), .val (.int p2), .val (.long q3), .second, .val (.int (xi.toInt32)), .unset] [(.ref o0)])) _
      refine XS.iload X0.here hx rfl (hb hby d5_31) rfl ?_
      show Steps p.tables e below (s₁.setTop (mkF m 33 #[.val (.ref o0), .val (.ref o1), .val (.int p2), .val (.long q3), .second, .val (.int (xi.toInt32)), .unset] [(.int (xi.toInt32)), (.ref o0)])) _
      refine st5.trans ?_
      show Steps p.tables e below (T5.setTop (mkF m 36 #[.val (.ref o0), .val (.ref o1), .val (.int p2), .val (.long q3), .second, .val (.int (xi.toInt32)), .unset] [])) _
      refine XS.aloadN X5.here hx rfl (hb hby d5_36) rfl rfl ?_
      show Steps p.tables e below (T5.setTop (mkF m 37 #[.val (.ref o0), .val (.ref o1), .val (.int p2), .val (.long q3), .second, .val (.int (xi.toInt32)), .unset] [(.ref o1)])) _
      refine XS.iload X5.here hx rfl (hb hby d5_37) rfl ?_
      show Steps p.tables e below (T5.setTop (mkF m 39 #[.val (.ref o0), .val (.ref o1), .val (.int p2), .val (.long q3), .second, .val (.int (xi.toInt32)), .unset] [(.int (xi.toInt32)), (.ref o1)])) _
      refine XS.iconst X5.here hx rfl (hb hby d5_39) ?_
      show Steps p.tables e below (T5.setTop (mkF m 40 #[.val (.ref o0), .val (.ref o1), .val (.int p2), .val (.long q3), .second, .val (.int (xi.toInt32)), .unset] [(.int (0 : Int32)), (.int (xi.toInt32)), (.ref o1)])) _
      refine st10 _ ?_
      show Steps p.tables e below (T10.setTop (mkF m 41 #[.val (.ref o0), .val (.ref o1), .val (.int p2), .val (.long q3), .second, .val (.int (xi.toInt32)), .unset] [])) _
      refine XS.aloadN X10.here hx rfl (hb hby d5_41) rfl rfl ?_
      show Steps p.tables e below (T10.setTop (mkF m 42 #[.val (.ref o0), .val (.ref o1), .val (.int p2), .val (.long q3), .second, .val (.int (xi.toInt32)), .unset] [(.ref o1)])) _
      refine XS.iconst X10.here hx rfl (hb hby d5_42) ?_
      show Steps p.tables e below (T10.setTop (mkF m 43 #[.val (.ref o0), .val (.ref o1), .val (.int p2), .val (.long q3), .second, .val (.int (xi.toInt32)), .unset] [(.int (0 : Int32)), (.ref o1)])) _
      refine X10.baloadBooleans hx (j := (0 : Int32)) (v := (.int (own_hd (pl2_5 0)))) (by rw [e10]; exact Ar14.1) (State.isArrayOf_alike hZ.alike Ar14.2.1) Ar14.2.2 (own_in Sz14 hi15) hl15 (g := (mkF m 43 #[.val (.ref o0), .val (.ref o1), .val (.int p2), .val (.long q3), .second, .val (.int (xi.toInt32)), .unset] [(.int (0 : Int32)), (.ref o1)])) rfl rfl (hb hby d5_43) _ ?_
      show Steps p.tables e below (T10.setTop (mkF m 44 #[.val (.ref o0), .val (.ref o1), .val (.int p2), .val (.long q3), .second, .val (.int (xi.toInt32)), .unset] [(.int (own_hd (pl2_5 0)))])) _
      exact k)
    by_cases hs17 : (own_hd (pl2_5 0)) = (0 : Int32)
    · have qa18 := A_o1_w10u
      obtain ⟨c18, Ar18, Sz18, H18⟩ := qa18
      have hi19 : 0 ≤ ((1 : Int32) : Int32).toInt ∧ ((1 : Int32) : Int32).toInt < (3 : Nat) := (by decide)
      have hl19 : c18.slots[((1 : Int32) : Int32).toNatClampNeg]? = some (.int (own_hd (pl2_5 1))) := by rw [show (own_hd (pl2_5 1)) = ((own_hd (pl2_5 ((1 : Int32) : Int32).toNatClampNeg))) from rfl]; exact H18 _ (own_ix hi19)
      have pre20 : ∀ t, Steps p.tables e below (T10.setTop (mkF m 50 #[.val (.ref o0), .val (.ref o1), .val (.int p2), .val (.long q3), .second, .val (.int (xi.toInt32)), .unset] [(.int (own_hd (pl2_5 1)))])) t → Steps p.tables e below (s₁.setTop (entryFrame m #[(.ref o0), (.ref o1), (.int p2), (.long q3)] 7)) t := fun t k => pre16 t (by
        refine XS.ifNo X10.here hx rfl (hb hby d5_44) rfl ((if0 _ _).trans (teq hs17).2) ?_
        show Steps p.tables e below (T10.setTop (mkF m 47 #[.val (.ref o0), .val (.ref o1), .val (.int p2), .val (.long q3), .second, .val (.int (xi.toInt32)), .unset] [])) _
        refine XS.aloadN X10.here hx rfl (hb hby d5_47) rfl rfl ?_
        show Steps p.tables e below (T10.setTop (mkF m 48 #[.val (.ref o0), .val (.ref o1), .val (.int p2), .val (.long q3), .second, .val (.int (xi.toInt32)), .unset] [(.ref o1)])) _
        refine XS.iconst X10.here hx rfl (hb hby d5_48) ?_
        show Steps p.tables e below (T10.setTop (mkF m 49 #[.val (.ref o0), .val (.ref o1), .val (.int p2), .val (.long q3), .second, .val (.int (xi.toInt32)), .unset] [(.int (1 : Int32)), (.ref o1)])) _
        refine X10.baloadBooleans hx (j := (1 : Int32)) (v := (.int (own_hd (pl2_5 1)))) (by rw [e10]; exact Ar18.1) (State.isArrayOf_alike hZ.alike Ar18.2.1) Ar18.2.2 (own_in Sz18 hi19) hl19 (g := (mkF m 49 #[.val (.ref o0), .val (.ref o1), .val (.int p2), .val (.long q3), .second, .val (.int (xi.toInt32)), .unset] [(.int (1 : Int32)), (.ref o1)])) rfl rfl (hb hby d5_49) _ ?_
        show Steps p.tables e below (T10.setTop (mkF m 50 #[.val (.ref o0), .val (.ref o1), .val (.int p2), .val (.long q3), .second, .val (.int (xi.toInt32)), .unset] [(.int (own_hd (pl2_5 1)))])) _
        exact k)
      by_cases hs21 : (own_hd (pl2_5 1)) = (0 : Int32)
      · have qa22 := A_o1_w10u
        obtain ⟨c22, Ar22, Sz22, H22⟩ := qa22
        have hi23 : 0 ≤ ((2 : Int32) : Int32).toInt ∧ ((2 : Int32) : Int32).toInt < (3 : Nat) := (by decide)
        have hl23 : c22.slots[((2 : Int32) : Int32).toNatClampNeg]? = some (.int (own_hd (pl2_5 2))) := by rw [show (own_hd (pl2_5 2)) = ((own_hd (pl2_5 ((2 : Int32) : Int32).toNatClampNeg))) from rfl]; exact H22 _ (own_ix hi23)
        have pre24 : ∀ t, Steps p.tables e below (T10.setTop (mkF m 56 #[.val (.ref o0), .val (.ref o1), .val (.int p2), .val (.long q3), .second, .val (.int (xi.toInt32)), .unset] [(.int (own_hd (pl2_5 2)))])) t → Steps p.tables e below (s₁.setTop (entryFrame m #[(.ref o0), (.ref o1), (.int p2), (.long q3)] 7)) t := fun t k => pre20 t (by
          refine XS.ifNo X10.here hx rfl (hb hby d5_50) rfl ((if0 _ _).trans (teq hs21).2) ?_
          show Steps p.tables e below (T10.setTop (mkF m 53 #[.val (.ref o0), .val (.ref o1), .val (.int p2), .val (.long q3), .second, .val (.int (xi.toInt32)), .unset] [])) _
          refine XS.aloadN X10.here hx rfl (hb hby d5_53) rfl rfl ?_
          show Steps p.tables e below (T10.setTop (mkF m 54 #[.val (.ref o0), .val (.ref o1), .val (.int p2), .val (.long q3), .second, .val (.int (xi.toInt32)), .unset] [(.ref o1)])) _
          refine XS.iconst X10.here hx rfl (hb hby d5_54) ?_
          show Steps p.tables e below (T10.setTop (mkF m 55 #[.val (.ref o0), .val (.ref o1), .val (.int p2), .val (.long q3), .second, .val (.int (xi.toInt32)), .unset] [(.int (2 : Int32)), (.ref o1)])) _
          refine X10.baloadBooleans hx (j := (2 : Int32)) (v := (.int (own_hd (pl2_5 2)))) (by rw [e10]; exact Ar22.1) (State.isArrayOf_alike hZ.alike Ar22.2.1) Ar22.2.2 (own_in Sz22 hi23) hl23 (g := (mkF m 55 #[.val (.ref o0), .val (.ref o1), .val (.int p2), .val (.long q3), .second, .val (.int (xi.toInt32)), .unset] [(.int (2 : Int32)), (.ref o1)])) rfl rfl (hb hby d5_55) _ ?_
          show Steps p.tables e below (T10.setTop (mkF m 56 #[.val (.ref o0), .val (.ref o1), .val (.int p2), .val (.long q3), .second, .val (.int (xi.toInt32)), .unset] [(.int (own_hd (pl2_5 2)))])) _
          exact k)
        by_cases hs25 : (own_hd (pl2_5 2)) = (0 : Int32)
        · obtain ⟨cq26, kq26, q26a, q26b, q26c⟩ := isOf hZ e10 (E_o0_11)
          obtain ⟨_, _, ⟨T26, L26, k26, n26⟩, -, X26, ⟨Lc26, hQ26, l26, y26, z26⟩, st26⟩ := X10.virtualBack hx (y := (⟨"com/example/lean_layers/leanlayers/phase/layering/IndexedHeap", "isEmpty", "()Z"⟩ : MethodName)) (z := (⟨"com/example/lean_layers/leanlayers/phase/layering/IndexedHeap", "isEmpty", "()Z"⟩ : MethodName)) hown (mvT hZ (hw _ (List.mem_of_getElem? (i := 22) rfl))) (mvT hZ (hw _ (List.mem_of_getElem? (i := 23) rfl))) (notFace_of_selects (args := #[]) (mvT hZ (hw _ (List.mem_of_getElem? (i := 25) rfl)))) (mvT hZ (hw _ (List.mem_of_getElem? (i := 25) rfl))) (mvT hZ (hw _ (List.mem_of_getElem? (i := 24) rfl))) (by decide) (backOf (W := 0) (rm4 l Z a0 hw [] o0 (n2_5.toInt32) h10 n0 ZZ12 F_size_o0_11) hZ (hw _ (List.mem_of_getElem? (i := 26) rfl)) (hw _ (List.mem_of_getElem? (i := 2) rfl)) (by decide) (by decide)) q26a q26c (g := (mkF m 67 #[.val (.ref o0), .val (.ref o1), .val (.int p2), .val (.long q3), .second, .val (.int (xi.toInt32)), .val (.int (1 : Int32))] [(.ref o0)])) rfl (by rw [hml]; rfl) (Steps.refl _) (argsL := []) (rest := []) (lenOf pd_4 rfl) rfl (by show 2 * 0 + _ ≤ _; exact Nat.le_of_eq rfl) (hb hby d5_67) (fun _ _ => ⟨rfl, e10, (by decide : 0 + 0 ≤ _), (by decide : 0 + 0 ≤ _)⟩)
          dsimp only [Pt.U, Pt.locs, Pt.cells, Pt.slots] at X26 l26 y26 z26 st26 hQ26
          subst y26 z26
          obtain ⟨rfl, N26q, hh26⟩ := hQ26
          have N26 := Fr.app N10 N26q
          rw [← l26] at N26
          have pre27 : ∀ t, Steps p.tables e below (T26.setTop (mkF m 70 #[.val (.ref o0), .val (.ref o1), .val (.int p2), .val (.long q3), .second, .val (.int (xi.toInt32)), .val (.int (1 : Int32))] [(.int ((f4_12 (n2_5.toInt32)) &&& 1))])) t → Steps p.tables e below (s₁.setTop (entryFrame m #[(.ref o0), (.ref o1), (.int p2), (.long q3)] 7)) t := fun t k => pre24 t (by
            refine XS.ifNo X10.here hx rfl (hb hby d5_56) rfl ((if0 _ _).trans (teq hs25).2) ?_
            show Steps p.tables e below (T10.setTop (mkF m 59 #[.val (.ref o0), .val (.ref o1), .val (.int p2), .val (.long q3), .second, .val (.int (xi.toInt32)), .unset] [])) _
            refine XS.iconst X10.here hx rfl (hb hby d5_59) ?_
            show Steps p.tables e below (T10.setTop (mkF m 60 #[.val (.ref o0), .val (.ref o1), .val (.int p2), .val (.long q3), .second, .val (.int (xi.toInt32)), .unset] [(.int (1 : Int32))])) _
            refine XS.goto X10.here hx rfl (pc0 := 60) (pc' := 64) rfl (hb hby d5_60) (by decide) (by decide) ?_
            show Steps p.tables e below (T10.setTop (mkF m 64 #[.val (.ref o0), .val (.ref o1), .val (.int p2), .val (.long q3), .second, .val (.int (xi.toInt32)), .unset] [(.int (1 : Int32))])) _
            refine XS.istore X10.here hx rfl (hb hby d5_64) rfl (l' := #[.val (.ref o0), .val (.ref o1), .val (.int p2), .val (.long q3), .second, .val (.int (xi.toInt32)), .val (.int (1 : Int32))]) rfl ?_
            show Steps p.tables e below (T10.setTop (mkF m 66 #[.val (.ref o0), .val (.ref o1), .val (.int p2), .val (.long q3), .second, .val (.int (xi.toInt32)), .val (.int (1 : Int32))] [])) _
            refine XS.aloadN X10.here hx rfl (hb hby d5_66) rfl rfl ?_
            show Steps p.tables e below (T10.setTop (mkF m 67 #[.val (.ref o0), .val (.ref o1), .val (.int p2), .val (.long q3), .second, .val (.int (xi.toInt32)), .val (.int (1 : Int32))] [(.ref o0)])) _
            refine st26.trans ?_
            show Steps p.tables e below (T26.setTop (mkF m 70 #[.val (.ref o0), .val (.ref o1), .val (.int p2), .val (.long q3), .second, .val (.int (xi.toInt32)), .val (.int (1 : Int32))] [(.int ((f4_12 (n2_5.toInt32)) &&& 1))])) _
            exact k)
          have hre28 : ((f4_12 (n2_5.toInt32)) &&& 1) = (1 : Int32) := own_ie0 (own_none P5_6 hs17 hs21 hs25)
          have pre28 : ∀ t, Steps p.tables e below (T26.setTop (mkF m 70 #[.val (.ref o0), .val (.ref o1), .val (.int p2), .val (.long q3), .second, .val (.int (xi.toInt32)), .val (.int (1 : Int32))] [(.int (1 : Int32))])) t → Steps p.tables e below (s₁.setTop (entryFrame m #[(.ref o0), (.ref o1), (.int p2), (.long q3)] 7)) t := fun t k => pre27 t (by rw [hre28]; exact k)
          have pre29 : ∀ t, Steps p.tables e below (T26.setTop (mkF m 80 #[.val (.ref o0), .val (.ref o1), .val (.int p2), .val (.long q3), .second, .val (.int (xi.toInt32)), .val (.int (1 : Int32))] [(.int (1 : Int32))])) t → Steps p.tables e below (s₁.setTop (entryFrame m #[(.ref o0), (.ref o1), (.int p2), (.long q3)] 7)) t := fun t k => pre28 t (by
            show Steps p.tables e below (T26.setTop (mkF m 70 #[.val (.ref o0), .val (.ref o1), .val (.int p2), .val (.long q3), .second, .val (.int (xi.toInt32)), .val (.int (1 : Int32))] [(.int (1 : Int32))])) _
            refine XS.iload X26.here hx rfl (hb hby d5_70) rfl ?_
            show Steps p.tables e below (T26.setTop (mkF m 72 #[.val (.ref o0), .val (.ref o1), .val (.int p2), .val (.long q3), .second, .val (.int (xi.toInt32)), .val (.int (1 : Int32))] [(.int (1 : Int32)), (.int (1 : Int32))])) _
            refine XS.icmpNo X26.here hx rfl (hb hby d5_72) rfl (teq (show (1 : Int32) = (1 : Int32) by decide)).2 ?_
            show Steps p.tables e below (T26.setTop (mkF m 75 #[.val (.ref o0), .val (.ref o1), .val (.int p2), .val (.long q3), .second, .val (.int (xi.toInt32)), .val (.int (1 : Int32))] [])) _
            refine XS.iconst X26.here hx rfl (hb hby d5_75) ?_
            show Steps p.tables e below (T26.setTop (mkF m 76 #[.val (.ref o0), .val (.ref o1), .val (.int p2), .val (.long q3), .second, .val (.int (xi.toInt32)), .val (.int (1 : Int32))] [(.int (1 : Int32))])) _
            refine XS.goto X26.here hx rfl (pc0 := 76) (pc' := 80) rfl (hb hby d5_76) (by decide) (by decide) ?_
            show Steps p.tables e below (T26.setTop (mkF m 80 #[.val (.ref o0), .val (.ref o1), .val (.int p2), .val (.long q3), .second, .val (.int (xi.toInt32)), .val (.int (1 : Int32))] [(.int (1 : Int32))])) _
            exact k)
          obtain ⟨fs, hr, hrun, hended, hW, hsame⟩ := X26.leave (v := some (.int (1 : Int32))) (fun h => by rw [Bd.returns] at h; cases h)
          refine ⟨_, _, pre29 _ ?_, hrun, hended, _, _, rfl, ?_, ⟨_, rfl⟩, hW, hsame.mono (by decide) (by decide)⟩
          · exact retN X26 hx (t := .boolean) Bd.returns (by simp) (hb hby d5_80) hr
          · show Q5 Z o0 o1 p2 q3 ti tk tp ky it pl n h0 n0 _ T26.heap _
            rw [hh26]
            exact ⟨n2_5, it2_5, pl2_5, ky, rfl, N26, K13, F_size_o0_11, F_items_o0_11, F_keys_o0_11, F_place_o0_11, A_ti_11, A_tk_11, A_tp_11, A_o1_w10u, P5_6⟩
        · obtain ⟨cq30, kq30, q30a, q30b, q30c⟩ := isOf hZ e10 (E_o0_11)
          obtain ⟨_, _, ⟨T30, L30, k30, n30⟩, -, X30, ⟨Lc30, hQ30, l30, y30, z30⟩, st30⟩ := X10.virtualBack hx (y := (⟨"com/example/lean_layers/leanlayers/phase/layering/IndexedHeap", "isEmpty", "()Z"⟩ : MethodName)) (z := (⟨"com/example/lean_layers/leanlayers/phase/layering/IndexedHeap", "isEmpty", "()Z"⟩ : MethodName)) hown (mvT hZ (hw _ (List.mem_of_getElem? (i := 22) rfl))) (mvT hZ (hw _ (List.mem_of_getElem? (i := 23) rfl))) (notFace_of_selects (args := #[]) (mvT hZ (hw _ (List.mem_of_getElem? (i := 25) rfl)))) (mvT hZ (hw _ (List.mem_of_getElem? (i := 25) rfl))) (mvT hZ (hw _ (List.mem_of_getElem? (i := 24) rfl))) (by decide) (backOf (W := 0) (rm4 l Z a0 hw [] o0 (n2_5.toInt32) h10 n0 ZZ12 F_size_o0_11) hZ (hw _ (List.mem_of_getElem? (i := 26) rfl)) (hw _ (List.mem_of_getElem? (i := 2) rfl)) (by decide) (by decide)) q30a q30c (g := (mkF m 67 #[.val (.ref o0), .val (.ref o1), .val (.int p2), .val (.long q3), .second, .val (.int (xi.toInt32)), .val (.int (0 : Int32))] [(.ref o0)])) rfl (by rw [hml]; rfl) (Steps.refl _) (argsL := []) (rest := []) (lenOf pd_4 rfl) rfl (by show 2 * 0 + _ ≤ _; exact Nat.le_of_eq rfl) (hb hby d5_67) (fun _ _ => ⟨rfl, e10, (by decide : 0 + 0 ≤ _), (by decide : 0 + 0 ≤ _)⟩)
          dsimp only [Pt.U, Pt.locs, Pt.cells, Pt.slots] at X30 l30 y30 z30 st30 hQ30
          subst y30 z30
          obtain ⟨rfl, N30q, hh30⟩ := hQ30
          have N30 := Fr.app N10 N30q
          rw [← l30] at N30
          have pre31 : ∀ t, Steps p.tables e below (T30.setTop (mkF m 70 #[.val (.ref o0), .val (.ref o1), .val (.int p2), .val (.long q3), .second, .val (.int (xi.toInt32)), .val (.int (0 : Int32))] [(.int ((f4_12 (n2_5.toInt32)) &&& 1))])) t → Steps p.tables e below (s₁.setTop (entryFrame m #[(.ref o0), (.ref o1), (.int p2), (.long q3)] 7)) t := fun t k => pre24 t (by
            refine XS.ifYes X10.here hx rfl (pc0 := 56) (pc' := 63) rfl (hb hby d5_56) rfl ((if0 _ _).trans (feq hs25).2) (by decide) (by decide) ?_
            show Steps p.tables e below (T10.setTop (mkF m 63 #[.val (.ref o0), .val (.ref o1), .val (.int p2), .val (.long q3), .second, .val (.int (xi.toInt32)), .unset] [])) _
            refine XS.iconst X10.here hx rfl (hb hby d5_63) ?_
            show Steps p.tables e below (T10.setTop (mkF m 64 #[.val (.ref o0), .val (.ref o1), .val (.int p2), .val (.long q3), .second, .val (.int (xi.toInt32)), .unset] [(.int (0 : Int32))])) _
            refine XS.istore X10.here hx rfl (hb hby d5_64) rfl (l' := #[.val (.ref o0), .val (.ref o1), .val (.int p2), .val (.long q3), .second, .val (.int (xi.toInt32)), .val (.int (0 : Int32))]) rfl ?_
            show Steps p.tables e below (T10.setTop (mkF m 66 #[.val (.ref o0), .val (.ref o1), .val (.int p2), .val (.long q3), .second, .val (.int (xi.toInt32)), .val (.int (0 : Int32))] [])) _
            refine XS.aloadN X10.here hx rfl (hb hby d5_66) rfl rfl ?_
            show Steps p.tables e below (T10.setTop (mkF m 67 #[.val (.ref o0), .val (.ref o1), .val (.int p2), .val (.long q3), .second, .val (.int (xi.toInt32)), .val (.int (0 : Int32))] [(.ref o0)])) _
            refine st30.trans ?_
            show Steps p.tables e below (T30.setTop (mkF m 70 #[.val (.ref o0), .val (.ref o1), .val (.int p2), .val (.long q3), .second, .val (.int (xi.toInt32)), .val (.int (0 : Int32))] [(.int ((f4_12 (n2_5.toInt32)) &&& 1))])) _
            exact k)
          have hre32 : ((f4_12 (n2_5.toInt32)) &&& 1) = (0 : Int32) := own_ie1 (own_some P5_6 2 (by decide) hs25) (by have q := (P5_6).1; omega)
          have pre32 : ∀ t, Steps p.tables e below (T30.setTop (mkF m 70 #[.val (.ref o0), .val (.ref o1), .val (.int p2), .val (.long q3), .second, .val (.int (xi.toInt32)), .val (.int (0 : Int32))] [(.int (0 : Int32))])) t → Steps p.tables e below (s₁.setTop (entryFrame m #[(.ref o0), (.ref o1), (.int p2), (.long q3)] 7)) t := fun t k => pre31 t (by rw [hre32]; exact k)
          have pre33 : ∀ t, Steps p.tables e below (T30.setTop (mkF m 80 #[.val (.ref o0), .val (.ref o1), .val (.int p2), .val (.long q3), .second, .val (.int (xi.toInt32)), .val (.int (0 : Int32))] [(.int (1 : Int32))])) t → Steps p.tables e below (s₁.setTop (entryFrame m #[(.ref o0), (.ref o1), (.int p2), (.long q3)] 7)) t := fun t k => pre32 t (by
            show Steps p.tables e below (T30.setTop (mkF m 70 #[.val (.ref o0), .val (.ref o1), .val (.int p2), .val (.long q3), .second, .val (.int (xi.toInt32)), .val (.int (0 : Int32))] [(.int (0 : Int32))])) _
            refine XS.iload X30.here hx rfl (hb hby d5_70) rfl ?_
            show Steps p.tables e below (T30.setTop (mkF m 72 #[.val (.ref o0), .val (.ref o1), .val (.int p2), .val (.long q3), .second, .val (.int (xi.toInt32)), .val (.int (0 : Int32))] [(.int (0 : Int32)), (.int (0 : Int32))])) _
            refine XS.icmpNo X30.here hx rfl (hb hby d5_72) rfl (teq (show (0 : Int32) = (0 : Int32) by decide)).2 ?_
            show Steps p.tables e below (T30.setTop (mkF m 75 #[.val (.ref o0), .val (.ref o1), .val (.int p2), .val (.long q3), .second, .val (.int (xi.toInt32)), .val (.int (0 : Int32))] [])) _
            refine XS.iconst X30.here hx rfl (hb hby d5_75) ?_
            show Steps p.tables e below (T30.setTop (mkF m 76 #[.val (.ref o0), .val (.ref o1), .val (.int p2), .val (.long q3), .second, .val (.int (xi.toInt32)), .val (.int (0 : Int32))] [(.int (1 : Int32))])) _
            refine XS.goto X30.here hx rfl (pc0 := 76) (pc' := 80) rfl (hb hby d5_76) (by decide) (by decide) ?_
            show Steps p.tables e below (T30.setTop (mkF m 80 #[.val (.ref o0), .val (.ref o1), .val (.int p2), .val (.long q3), .second, .val (.int (xi.toInt32)), .val (.int (0 : Int32))] [(.int (1 : Int32))])) _
            exact k)
          obtain ⟨fs, hr, hrun, hended, hW, hsame⟩ := X30.leave (v := some (.int (1 : Int32))) (fun h => by rw [Bd.returns] at h; cases h)
          refine ⟨_, _, pre33 _ ?_, hrun, hended, _, _, rfl, ?_, ⟨_, rfl⟩, hW, hsame.mono (by decide) (by decide)⟩
          · exact retN X30 hx (t := .boolean) Bd.returns (by simp) (hb hby d5_80) hr
          · show Q5 Z o0 o1 p2 q3 ti tk tp ky it pl n h0 n0 _ T30.heap _
            rw [hh30]
            exact ⟨n2_5, it2_5, pl2_5, ky, rfl, N30, K13, F_size_o0_11, F_items_o0_11, F_keys_o0_11, F_place_o0_11, A_ti_11, A_tk_11, A_tp_11, A_o1_w10u, P5_6⟩
      · obtain ⟨cq34, kq34, q34a, q34b, q34c⟩ := isOf hZ e10 (E_o0_11)
        obtain ⟨_, _, ⟨T34, L34, k34, n34⟩, -, X34, ⟨Lc34, hQ34, l34, y34, z34⟩, st34⟩ := X10.virtualBack hx (y := (⟨"com/example/lean_layers/leanlayers/phase/layering/IndexedHeap", "isEmpty", "()Z"⟩ : MethodName)) (z := (⟨"com/example/lean_layers/leanlayers/phase/layering/IndexedHeap", "isEmpty", "()Z"⟩ : MethodName)) hown (mvT hZ (hw _ (List.mem_of_getElem? (i := 22) rfl))) (mvT hZ (hw _ (List.mem_of_getElem? (i := 23) rfl))) (notFace_of_selects (args := #[]) (mvT hZ (hw _ (List.mem_of_getElem? (i := 25) rfl)))) (mvT hZ (hw _ (List.mem_of_getElem? (i := 25) rfl))) (mvT hZ (hw _ (List.mem_of_getElem? (i := 24) rfl))) (by decide) (backOf (W := 0) (rm4 l Z a0 hw [] o0 (n2_5.toInt32) h10 n0 ZZ12 F_size_o0_11) hZ (hw _ (List.mem_of_getElem? (i := 26) rfl)) (hw _ (List.mem_of_getElem? (i := 2) rfl)) (by decide) (by decide)) q34a q34c (g := (mkF m 67 #[.val (.ref o0), .val (.ref o1), .val (.int p2), .val (.long q3), .second, .val (.int (xi.toInt32)), .val (.int (0 : Int32))] [(.ref o0)])) rfl (by rw [hml]; rfl) (Steps.refl _) (argsL := []) (rest := []) (lenOf pd_4 rfl) rfl (by show 2 * 0 + _ ≤ _; exact Nat.le_of_eq rfl) (hb hby d5_67) (fun _ _ => ⟨rfl, e10, (by decide : 0 + 0 ≤ _), (by decide : 0 + 0 ≤ _)⟩)
        dsimp only [Pt.U, Pt.locs, Pt.cells, Pt.slots] at X34 l34 y34 z34 st34 hQ34
        subst y34 z34
        obtain ⟨rfl, N34q, hh34⟩ := hQ34
        have N34 := Fr.app N10 N34q
        rw [← l34] at N34
        have pre35 : ∀ t, Steps p.tables e below (T34.setTop (mkF m 70 #[.val (.ref o0), .val (.ref o1), .val (.int p2), .val (.long q3), .second, .val (.int (xi.toInt32)), .val (.int (0 : Int32))] [(.int ((f4_12 (n2_5.toInt32)) &&& 1))])) t → Steps p.tables e below (s₁.setTop (entryFrame m #[(.ref o0), (.ref o1), (.int p2), (.long q3)] 7)) t := fun t k => pre20 t (by
          refine XS.ifYes X10.here hx rfl (pc0 := 50) (pc' := 63) rfl (hb hby d5_50) rfl ((if0 _ _).trans (feq hs21).2) (by decide) (by decide) ?_
          show Steps p.tables e below (T10.setTop (mkF m 63 #[.val (.ref o0), .val (.ref o1), .val (.int p2), .val (.long q3), .second, .val (.int (xi.toInt32)), .unset] [])) _
          refine XS.iconst X10.here hx rfl (hb hby d5_63) ?_
          show Steps p.tables e below (T10.setTop (mkF m 64 #[.val (.ref o0), .val (.ref o1), .val (.int p2), .val (.long q3), .second, .val (.int (xi.toInt32)), .unset] [(.int (0 : Int32))])) _
          refine XS.istore X10.here hx rfl (hb hby d5_64) rfl (l' := #[.val (.ref o0), .val (.ref o1), .val (.int p2), .val (.long q3), .second, .val (.int (xi.toInt32)), .val (.int (0 : Int32))]) rfl ?_
          show Steps p.tables e below (T10.setTop (mkF m 66 #[.val (.ref o0), .val (.ref o1), .val (.int p2), .val (.long q3), .second, .val (.int (xi.toInt32)), .val (.int (0 : Int32))] [])) _
          refine XS.aloadN X10.here hx rfl (hb hby d5_66) rfl rfl ?_
          show Steps p.tables e below (T10.setTop (mkF m 67 #[.val (.ref o0), .val (.ref o1), .val (.int p2), .val (.long q3), .second, .val (.int (xi.toInt32)), .val (.int (0 : Int32))] [(.ref o0)])) _
          refine st34.trans ?_
          show Steps p.tables e below (T34.setTop (mkF m 70 #[.val (.ref o0), .val (.ref o1), .val (.int p2), .val (.long q3), .second, .val (.int (xi.toInt32)), .val (.int (0 : Int32))] [(.int ((f4_12 (n2_5.toInt32)) &&& 1))])) _
          exact k)
        have hre36 : ((f4_12 (n2_5.toInt32)) &&& 1) = (0 : Int32) := own_ie1 (own_some P5_6 1 (by decide) hs21) (by have q := (P5_6).1; omega)
        have pre36 : ∀ t, Steps p.tables e below (T34.setTop (mkF m 70 #[.val (.ref o0), .val (.ref o1), .val (.int p2), .val (.long q3), .second, .val (.int (xi.toInt32)), .val (.int (0 : Int32))] [(.int (0 : Int32))])) t → Steps p.tables e below (s₁.setTop (entryFrame m #[(.ref o0), (.ref o1), (.int p2), (.long q3)] 7)) t := fun t k => pre35 t (by rw [hre36]; exact k)
        have pre37 : ∀ t, Steps p.tables e below (T34.setTop (mkF m 80 #[.val (.ref o0), .val (.ref o1), .val (.int p2), .val (.long q3), .second, .val (.int (xi.toInt32)), .val (.int (0 : Int32))] [(.int (1 : Int32))])) t → Steps p.tables e below (s₁.setTop (entryFrame m #[(.ref o0), (.ref o1), (.int p2), (.long q3)] 7)) t := fun t k => pre36 t (by
          show Steps p.tables e below (T34.setTop (mkF m 70 #[.val (.ref o0), .val (.ref o1), .val (.int p2), .val (.long q3), .second, .val (.int (xi.toInt32)), .val (.int (0 : Int32))] [(.int (0 : Int32))])) _
          refine XS.iload X34.here hx rfl (hb hby d5_70) rfl ?_
          show Steps p.tables e below (T34.setTop (mkF m 72 #[.val (.ref o0), .val (.ref o1), .val (.int p2), .val (.long q3), .second, .val (.int (xi.toInt32)), .val (.int (0 : Int32))] [(.int (0 : Int32)), (.int (0 : Int32))])) _
          refine XS.icmpNo X34.here hx rfl (hb hby d5_72) rfl (teq (show (0 : Int32) = (0 : Int32) by decide)).2 ?_
          show Steps p.tables e below (T34.setTop (mkF m 75 #[.val (.ref o0), .val (.ref o1), .val (.int p2), .val (.long q3), .second, .val (.int (xi.toInt32)), .val (.int (0 : Int32))] [])) _
          refine XS.iconst X34.here hx rfl (hb hby d5_75) ?_
          show Steps p.tables e below (T34.setTop (mkF m 76 #[.val (.ref o0), .val (.ref o1), .val (.int p2), .val (.long q3), .second, .val (.int (xi.toInt32)), .val (.int (0 : Int32))] [(.int (1 : Int32))])) _
          refine XS.goto X34.here hx rfl (pc0 := 76) (pc' := 80) rfl (hb hby d5_76) (by decide) (by decide) ?_
          show Steps p.tables e below (T34.setTop (mkF m 80 #[.val (.ref o0), .val (.ref o1), .val (.int p2), .val (.long q3), .second, .val (.int (xi.toInt32)), .val (.int (0 : Int32))] [(.int (1 : Int32))])) _
          exact k)
        obtain ⟨fs, hr, hrun, hended, hW, hsame⟩ := X34.leave (v := some (.int (1 : Int32))) (fun h => by rw [Bd.returns] at h; cases h)
        refine ⟨_, _, pre37 _ ?_, hrun, hended, _, _, rfl, ?_, ⟨_, rfl⟩, hW, hsame.mono (by decide) (by decide)⟩
        · exact retN X34 hx (t := .boolean) Bd.returns (by simp) (hb hby d5_80) hr
        · show Q5 Z o0 o1 p2 q3 ti tk tp ky it pl n h0 n0 _ T34.heap _
          rw [hh34]
          exact ⟨n2_5, it2_5, pl2_5, ky, rfl, N34, K13, F_size_o0_11, F_items_o0_11, F_keys_o0_11, F_place_o0_11, A_ti_11, A_tk_11, A_tp_11, A_o1_w10u, P5_6⟩
    · obtain ⟨cq38, kq38, q38a, q38b, q38c⟩ := isOf hZ e10 (E_o0_11)
      obtain ⟨_, _, ⟨T38, L38, k38, n38⟩, -, X38, ⟨Lc38, hQ38, l38, y38, z38⟩, st38⟩ := X10.virtualBack hx (y := (⟨"com/example/lean_layers/leanlayers/phase/layering/IndexedHeap", "isEmpty", "()Z"⟩ : MethodName)) (z := (⟨"com/example/lean_layers/leanlayers/phase/layering/IndexedHeap", "isEmpty", "()Z"⟩ : MethodName)) hown (mvT hZ (hw _ (List.mem_of_getElem? (i := 22) rfl))) (mvT hZ (hw _ (List.mem_of_getElem? (i := 23) rfl))) (notFace_of_selects (args := #[]) (mvT hZ (hw _ (List.mem_of_getElem? (i := 25) rfl)))) (mvT hZ (hw _ (List.mem_of_getElem? (i := 25) rfl))) (mvT hZ (hw _ (List.mem_of_getElem? (i := 24) rfl))) (by decide) (backOf (W := 0) (rm4 l Z a0 hw [] o0 (n2_5.toInt32) h10 n0 ZZ12 F_size_o0_11) hZ (hw _ (List.mem_of_getElem? (i := 26) rfl)) (hw _ (List.mem_of_getElem? (i := 2) rfl)) (by decide) (by decide)) q38a q38c (g := (mkF m 67 #[.val (.ref o0), .val (.ref o1), .val (.int p2), .val (.long q3), .second, .val (.int (xi.toInt32)), .val (.int (0 : Int32))] [(.ref o0)])) rfl (by rw [hml]; rfl) (Steps.refl _) (argsL := []) (rest := []) (lenOf pd_4 rfl) rfl (by show 2 * 0 + _ ≤ _; exact Nat.le_of_eq rfl) (hb hby d5_67) (fun _ _ => ⟨rfl, e10, (by decide : 0 + 0 ≤ _), (by decide : 0 + 0 ≤ _)⟩)
      dsimp only [Pt.U, Pt.locs, Pt.cells, Pt.slots] at X38 l38 y38 z38 st38 hQ38
      subst y38 z38
      obtain ⟨rfl, N38q, hh38⟩ := hQ38
      have N38 := Fr.app N10 N38q
      rw [← l38] at N38
      have pre39 : ∀ t, Steps p.tables e below (T38.setTop (mkF m 70 #[.val (.ref o0), .val (.ref o1), .val (.int p2), .val (.long q3), .second, .val (.int (xi.toInt32)), .val (.int (0 : Int32))] [(.int ((f4_12 (n2_5.toInt32)) &&& 1))])) t → Steps p.tables e below (s₁.setTop (entryFrame m #[(.ref o0), (.ref o1), (.int p2), (.long q3)] 7)) t := fun t k => pre16 t (by
        refine XS.ifYes X10.here hx rfl (pc0 := 44) (pc' := 63) rfl (hb hby d5_44) rfl ((if0 _ _).trans (feq hs17).2) (by decide) (by decide) ?_
        show Steps p.tables e below (T10.setTop (mkF m 63 #[.val (.ref o0), .val (.ref o1), .val (.int p2), .val (.long q3), .second, .val (.int (xi.toInt32)), .unset] [])) _
        refine XS.iconst X10.here hx rfl (hb hby d5_63) ?_
        show Steps p.tables e below (T10.setTop (mkF m 64 #[.val (.ref o0), .val (.ref o1), .val (.int p2), .val (.long q3), .second, .val (.int (xi.toInt32)), .unset] [(.int (0 : Int32))])) _
        refine XS.istore X10.here hx rfl (hb hby d5_64) rfl (l' := #[.val (.ref o0), .val (.ref o1), .val (.int p2), .val (.long q3), .second, .val (.int (xi.toInt32)), .val (.int (0 : Int32))]) rfl ?_
        show Steps p.tables e below (T10.setTop (mkF m 66 #[.val (.ref o0), .val (.ref o1), .val (.int p2), .val (.long q3), .second, .val (.int (xi.toInt32)), .val (.int (0 : Int32))] [])) _
        refine XS.aloadN X10.here hx rfl (hb hby d5_66) rfl rfl ?_
        show Steps p.tables e below (T10.setTop (mkF m 67 #[.val (.ref o0), .val (.ref o1), .val (.int p2), .val (.long q3), .second, .val (.int (xi.toInt32)), .val (.int (0 : Int32))] [(.ref o0)])) _
        refine st38.trans ?_
        show Steps p.tables e below (T38.setTop (mkF m 70 #[.val (.ref o0), .val (.ref o1), .val (.int p2), .val (.long q3), .second, .val (.int (xi.toInt32)), .val (.int (0 : Int32))] [(.int ((f4_12 (n2_5.toInt32)) &&& 1))])) _
        exact k)
      have hre40 : ((f4_12 (n2_5.toInt32)) &&& 1) = (0 : Int32) := own_ie1 (own_some P5_6 0 (by decide) hs17) (by have q := (P5_6).1; omega)
      have pre40 : ∀ t, Steps p.tables e below (T38.setTop (mkF m 70 #[.val (.ref o0), .val (.ref o1), .val (.int p2), .val (.long q3), .second, .val (.int (xi.toInt32)), .val (.int (0 : Int32))] [(.int (0 : Int32))])) t → Steps p.tables e below (s₁.setTop (entryFrame m #[(.ref o0), (.ref o1), (.int p2), (.long q3)] 7)) t := fun t k => pre39 t (by rw [hre40]; exact k)
      have pre41 : ∀ t, Steps p.tables e below (T38.setTop (mkF m 80 #[.val (.ref o0), .val (.ref o1), .val (.int p2), .val (.long q3), .second, .val (.int (xi.toInt32)), .val (.int (0 : Int32))] [(.int (1 : Int32))])) t → Steps p.tables e below (s₁.setTop (entryFrame m #[(.ref o0), (.ref o1), (.int p2), (.long q3)] 7)) t := fun t k => pre40 t (by
        show Steps p.tables e below (T38.setTop (mkF m 70 #[.val (.ref o0), .val (.ref o1), .val (.int p2), .val (.long q3), .second, .val (.int (xi.toInt32)), .val (.int (0 : Int32))] [(.int (0 : Int32))])) _
        refine XS.iload X38.here hx rfl (hb hby d5_70) rfl ?_
        show Steps p.tables e below (T38.setTop (mkF m 72 #[.val (.ref o0), .val (.ref o1), .val (.int p2), .val (.long q3), .second, .val (.int (xi.toInt32)), .val (.int (0 : Int32))] [(.int (0 : Int32)), (.int (0 : Int32))])) _
        refine XS.icmpNo X38.here hx rfl (hb hby d5_72) rfl (teq (show (0 : Int32) = (0 : Int32) by decide)).2 ?_
        show Steps p.tables e below (T38.setTop (mkF m 75 #[.val (.ref o0), .val (.ref o1), .val (.int p2), .val (.long q3), .second, .val (.int (xi.toInt32)), .val (.int (0 : Int32))] [])) _
        refine XS.iconst X38.here hx rfl (hb hby d5_75) ?_
        show Steps p.tables e below (T38.setTop (mkF m 76 #[.val (.ref o0), .val (.ref o1), .val (.int p2), .val (.long q3), .second, .val (.int (xi.toInt32)), .val (.int (0 : Int32))] [(.int (1 : Int32))])) _
        refine XS.goto X38.here hx rfl (pc0 := 76) (pc' := 80) rfl (hb hby d5_76) (by decide) (by decide) ?_
        show Steps p.tables e below (T38.setTop (mkF m 80 #[.val (.ref o0), .val (.ref o1), .val (.int p2), .val (.long q3), .second, .val (.int (xi.toInt32)), .val (.int (0 : Int32))] [(.int (1 : Int32))])) _
        exact k)
      obtain ⟨fs, hr, hrun, hended, hW, hsame⟩ := X38.leave (v := some (.int (1 : Int32))) (fun h => by rw [Bd.returns] at h; cases h)
      refine ⟨_, _, pre41 _ ?_, hrun, hended, _, _, rfl, ?_, ⟨_, rfl⟩, hW, hsame.mono (by decide) (by decide)⟩
      · exact retN X38 hx (t := .boolean) Bd.returns (by simp) (hb hby d5_80) hr
      · show Q5 Z o0 o1 p2 q3 ti tk tp ky it pl n h0 n0 _ T38.heap _
        rw [hh38]
        exact ⟨n2_5, it2_5, pl2_5, ky, rfl, N38, K13, F_size_o0_11, F_items_o0_11, F_keys_o0_11, F_place_o0_11, A_ti_11, A_tk_11, A_tp_11, A_o1_w10u, P5_6⟩
  · obtain ⟨cq42, kq42, q42a, q42b, q42c⟩ := isOf hZ e0 (E_o0)
    obtain ⟨_, _, ⟨T42, L42, k42, n42⟩, -, X42, ⟨Lc42, hQ42, l42, y42, z42⟩, st42⟩ := X0.virtualBack hx (y := (⟨"com/example/lean_layers/leanlayers/phase/layering/IndexedHeap", "put", "(IJ)V"⟩ : MethodName)) (z := (⟨"com/example/lean_layers/leanlayers/phase/layering/IndexedHeap", "put", "(IJ)V"⟩ : MethodName)) hown (mvT hZ (hw _ (List.mem_of_getElem? (i := 38) rfl))) (mvT hZ (hw _ (List.mem_of_getElem? (i := 39) rfl))) (notFace_of_selects (args := #[]) (mvT hZ (hw _ (List.mem_of_getElem? (i := 41) rfl)))) (mvT hZ (hw _ (List.mem_of_getElem? (i := 41) rfl))) (mvT hZ (hw _ (List.mem_of_getElem? (i := 40) rfl))) (by decide) (backOf (W := 0) (rm7 l Z a0 hw [] o0 (xi.toInt32) q3 ti tk tp ky it pl n xi h0 n0 Z0 F_items_o0 F_keys_o0 F_place_o0 E_o0 F_size_o0 A_ti A_tk A_tp g_ti g_tk g_tp g_o0 ne_o0_ti ne_o0_tk ne_o0_tp ne_ti_tk ne_ti_tp ne_tk_tp rfl hxc hIV) hZ (hw _ (List.mem_of_getElem? (i := 42) rfl)) (hw _ (List.mem_of_getElem? (i := 2) rfl)) (by decide) (by decide)) q42a q42c (g := (mkF m 19 #[.val (.ref o0), .val (.ref o1), .val (.int p2), .val (.long q3), .second, .val (.int (xi.toInt32)), .unset] [(.long q3), (.int (xi.toInt32)), (.ref o0)])) rfl (by rw [hml]; rfl) (Steps.refl _) (argsL := [(.int (xi.toInt32)), (.long q3)]) (rest := []) (lenOf pd_5 rfl) rfl (by show 2 * 0 + _ ≤ _; exact Nat.le_of_eq rfl) (hb hby d5_19) (fun _ _ => ⟨rfl, e0, (by decide : 0 + 0 ≤ _), (by decide : 0 + 0 ≤ _)⟩)
    dsimp only [Pt.U, Pt.locs, Pt.cells, Pt.slots] at X42 l42 y42 z42 st42 hQ42
    subst y42 z42
    obtain ⟨n2_42, it2_42, pl2_42, rfl, N42q, Kc42, P42_0, P42_1, P42_2, P42_3, P42_4, P42_5, P42_6, P42_7, P42_8⟩ := hQ42
    have N42 := Fr.app N0 N42q
    rw [← l42] at N42
    have E_o0_43 : Exa Z T42.heap o0 "com/example/lean_layers/leanlayers/phase/layering/IndexedHeap" := (E_o0).keep Kc42
    have A_o1_43 : own_A Z T42.heap o1 .boolean 3 (fun kk => (.int (own_hd (pl kk)))) := (A_o1).keep Kc42 (ninS ne_o1_ti (ninS ne_o1_tk (ninS ne_o1_tp (ninS ne_o1_o0 nin0))))
    have SZ44 : h0.size ≤ T42.heap.size := Nat.le_trans (Nat.le_refl _) Kc42.1
    have ZZ44 : n0 ≤ T42.heap.size := Nat.le_trans Z0 SZ44
    have K45 : Keep h0 T42.heap [ti, tk, tp, o0, o1] := ((Keep.refl h0 [ti, tk, tp, o0, o1])).trans Kc42 (allS (Or.inl (List.mem_of_getElem? (i := 0) rfl)) (allS (Or.inl (List.mem_of_getElem? (i := 1) rfl)) (allS (Or.inl (List.mem_of_getElem? (i := 2) rfl)) (allS (Or.inl (List.mem_of_getElem? (i := 3) rfl)) all0))))
    have qa46 := A_o1_43
    obtain ⟨c46, Ar46, Sz46, H46⟩ := qa46
    have hi47 : 0 ≤ ((xi.toInt32) : Int32).toInt ∧ ((xi.toInt32) : Int32).toInt < (3 : Nat) := (own_bd (show xi < 3 by omega) (by decide))
    obtain ⟨T47, h47, X47, e47, W47, st47⟩ := stZ X42 hx hZ rfl Ar46 (j := (xi.toInt32)) (own_in Sz46 hi47) (g := (mkF m 26 #[.val (.ref o0), .val (.ref o1), .val (.int p2), .val (.long q3), .second, .val (.int (xi.toInt32)), .unset] [(.int (1 : Int32)), (.int (xi.toInt32)), (.ref o1)])) rfl rfl (hb hby d5_26)
    have N47 := Fr.snoc X47 N42 g_o1
    have A_o1_w47 : own_A Z h47 o1 .boolean 3 (fun kk => (.int (if kk = ((xi.toInt32) : Int32).toNatClampNeg then (nar .boolean (1 : Int32)) else (own_hd (pl kk))))) := own_A.setI A_o1_43 W47
    have A_o1_w47u : own_A Z h47 o1 .boolean 3 (fun kk => (.int (own_hd (pl2_42 kk)))) := own_hput A_o1_w47 (show xi < 2147483648 by omega) P42_8
    have E_o0_48 : Exa Z h47 o0 "com/example/lean_layers/leanlayers/phase/layering/IndexedHeap" := (E_o0_43).wr W47
    have F_size_o0_48 : Fld Z h47 o0 "com/example/lean_layers/leanlayers/phase/layering/IndexedHeap" "size" "I" (.int (n2_42.toInt32)) := (P42_0).other W47 (Or.inl (Ne.symm ne_o1_o0))
    have F_items_o0_48 : Fld Z h47 o0 "com/example/lean_layers/leanlayers/phase/layering/IndexedHeap" "items" "[I" (.ref ti) := (P42_1).other W47 (Or.inl (Ne.symm ne_o1_o0))
    have F_keys_o0_48 : Fld Z h47 o0 "com/example/lean_layers/leanlayers/phase/layering/IndexedHeap" "keys" "[J" (.ref tk) := (P42_2).other W47 (Or.inl (Ne.symm ne_o1_o0))
    have F_place_o0_48 : Fld Z h47 o0 "com/example/lean_layers/leanlayers/phase/layering/IndexedHeap" "place" "[I" (.ref tp) := (P42_3).other W47 (Or.inl (Ne.symm ne_o1_o0))
    have A_ti_48 : own_A Z h47 ti .int 3 (fun kk => (.int ((it2_42 kk).toInt32))) := (P42_4).other W47 (Ne.symm ne_o1_ti)
    have A_tk_48 : own_A Z h47 tk .long 3 (fun kk => (.long ((own_uk ky xi q3) kk))) := (P42_5).other W47 (Ne.symm ne_o1_tk)
    have A_tp_48 : own_A Z h47 tp .int 3 (fun kk => (.int (own_pl (pl2_42 kk)))) := (P42_6).other W47 (Ne.symm ne_o1_tp)
    have SZ49 : h0.size ≤ h47.size := by rw [W47.size]; exact SZ44
    have ZZ49 : n0 ≤ h47.size := Nat.le_trans Z0 SZ49
    have K50 : Keep h0 h47 [ti, tk, tp, o0, o1] := (K45).wr W47 (Or.inl (List.mem_of_getElem? (i := 4) rfl))
    have qa51 := A_o1_w47u
    obtain ⟨c51, Ar51, Sz51, H51⟩ := qa51
    have hi52 : 0 ≤ ((0 : Int32) : Int32).toInt ∧ ((0 : Int32) : Int32).toInt < (3 : Nat) := (by decide)
    have hl52 : c51.slots[((0 : Int32) : Int32).toNatClampNeg]? = some (.int (own_hd (pl2_42 0))) := by rw [show (own_hd (pl2_42 0)) = ((own_hd (pl2_42 ((0 : Int32) : Int32).toNatClampNeg))) from rfl]; exact H51 _ (own_ix hi52)
    have pre53 : ∀ t, Steps p.tables e below (T47.setTop (mkF m 44 #[.val (.ref o0), .val (.ref o1), .val (.int p2), .val (.long q3), .second, .val (.int (xi.toInt32)), .unset] [(.int (own_hd (pl2_42 0)))])) t → Steps p.tables e below (s₁.setTop (entryFrame m #[(.ref o0), (.ref o1), (.int p2), (.long q3)] 7)) t := fun t k => pre3 t (by
      refine XS.ifNo X0.here hx rfl (hb hby d5_12) rfl ((if0 _ _).trans (feq hs4).1) ?_
      show Steps p.tables e below (s₁.setTop (mkF m 15 #[.val (.ref o0), .val (.ref o1), .val (.int p2), .val (.long q3), .second, .val (.int (xi.toInt32)), .unset] [])) _
      refine XS.aloadN X0.here hx rfl (hb hby d5_15) rfl rfl ?_
      show Steps p.tables e below (s₁.setTop (mkF m 16 #[.val (.ref o0), .val (.ref o1), .val (.int p2), .val (.long q3), .second, .val (.int (xi.toInt32)), .unset] [(.ref o0)])) _
      refine XS.iload X0.here hx rfl (hb hby d5_16) rfl ?_
      show Steps p.tables e below (s₁.setTop (mkF m 18 #[.val (.ref o0), .val (.ref o1), .val (.int p2), .val (.long q3), .second, .val (.int (xi.toInt32)), .unset] [(.int (xi.toInt32)), (.ref o0)])) _
      refine XS.lloadN X0.here hx rfl (hb hby d5_18) rfl ?_
      show Steps p.tables e below (s₁.setTop (mkF m 19 #[.val (.ref o0), .val (.ref o1), .val (.int p2), .val (.long q3), .second, .val (.int (xi.toInt32)), .unset] [(.long q3), (.int (xi.toInt32)), (.ref o0)])) _
      refine st42.trans ?_
      show Steps p.tables e below (T42.setTop (mkF m 22 #[.val (.ref o0), .val (.ref o1), .val (.int p2), .val (.long q3), .second, .val (.int (xi.toInt32)), .unset] [])) _
      refine XS.aloadN X42.here hx rfl (hb hby d5_22) rfl rfl ?_
      show Steps p.tables e below (T42.setTop (mkF m 23 #[.val (.ref o0), .val (.ref o1), .val (.int p2), .val (.long q3), .second, .val (.int (xi.toInt32)), .unset] [(.ref o1)])) _
      refine XS.iload X42.here hx rfl (hb hby d5_23) rfl ?_
      show Steps p.tables e below (T42.setTop (mkF m 25 #[.val (.ref o0), .val (.ref o1), .val (.int p2), .val (.long q3), .second, .val (.int (xi.toInt32)), .unset] [(.int (xi.toInt32)), (.ref o1)])) _
      refine XS.iconst X42.here hx rfl (hb hby d5_25) ?_
      show Steps p.tables e below (T42.setTop (mkF m 26 #[.val (.ref o0), .val (.ref o1), .val (.int p2), .val (.long q3), .second, .val (.int (xi.toInt32)), .unset] [(.int (1 : Int32)), (.int (xi.toInt32)), (.ref o1)])) _
      refine st47 _ ?_
      show Steps p.tables e below (T47.setTop (mkF m 27 #[.val (.ref o0), .val (.ref o1), .val (.int p2), .val (.long q3), .second, .val (.int (xi.toInt32)), .unset] [])) _
      refine XS.goto X47.here hx rfl (pc0 := 27) (pc' := 41) rfl (hb hby d5_27) (by decide) (by decide) ?_
      show Steps p.tables e below (T47.setTop (mkF m 41 #[.val (.ref o0), .val (.ref o1), .val (.int p2), .val (.long q3), .second, .val (.int (xi.toInt32)), .unset] [])) _
      refine XS.aloadN X47.here hx rfl (hb hby d5_41) rfl rfl ?_
      show Steps p.tables e below (T47.setTop (mkF m 42 #[.val (.ref o0), .val (.ref o1), .val (.int p2), .val (.long q3), .second, .val (.int (xi.toInt32)), .unset] [(.ref o1)])) _
      refine XS.iconst X47.here hx rfl (hb hby d5_42) ?_
      show Steps p.tables e below (T47.setTop (mkF m 43 #[.val (.ref o0), .val (.ref o1), .val (.int p2), .val (.long q3), .second, .val (.int (xi.toInt32)), .unset] [(.int (0 : Int32)), (.ref o1)])) _
      refine X47.baloadBooleans hx (j := (0 : Int32)) (v := (.int (own_hd (pl2_42 0)))) (by rw [e47]; exact Ar51.1) (State.isArrayOf_alike hZ.alike Ar51.2.1) Ar51.2.2 (own_in Sz51 hi52) hl52 (g := (mkF m 43 #[.val (.ref o0), .val (.ref o1), .val (.int p2), .val (.long q3), .second, .val (.int (xi.toInt32)), .unset] [(.int (0 : Int32)), (.ref o1)])) rfl rfl (hb hby d5_43) _ ?_
      show Steps p.tables e below (T47.setTop (mkF m 44 #[.val (.ref o0), .val (.ref o1), .val (.int p2), .val (.long q3), .second, .val (.int (xi.toInt32)), .unset] [(.int (own_hd (pl2_42 0)))])) _
      exact k)
    by_cases hs54 : (own_hd (pl2_42 0)) = (0 : Int32)
    · have qa55 := A_o1_w47u
      obtain ⟨c55, Ar55, Sz55, H55⟩ := qa55
      have hi56 : 0 ≤ ((1 : Int32) : Int32).toInt ∧ ((1 : Int32) : Int32).toInt < (3 : Nat) := (by decide)
      have hl56 : c55.slots[((1 : Int32) : Int32).toNatClampNeg]? = some (.int (own_hd (pl2_42 1))) := by rw [show (own_hd (pl2_42 1)) = ((own_hd (pl2_42 ((1 : Int32) : Int32).toNatClampNeg))) from rfl]; exact H55 _ (own_ix hi56)
      have pre57 : ∀ t, Steps p.tables e below (T47.setTop (mkF m 50 #[.val (.ref o0), .val (.ref o1), .val (.int p2), .val (.long q3), .second, .val (.int (xi.toInt32)), .unset] [(.int (own_hd (pl2_42 1)))])) t → Steps p.tables e below (s₁.setTop (entryFrame m #[(.ref o0), (.ref o1), (.int p2), (.long q3)] 7)) t := fun t k => pre53 t (by
        refine XS.ifNo X47.here hx rfl (hb hby d5_44) rfl ((if0 _ _).trans (teq hs54).2) ?_
        show Steps p.tables e below (T47.setTop (mkF m 47 #[.val (.ref o0), .val (.ref o1), .val (.int p2), .val (.long q3), .second, .val (.int (xi.toInt32)), .unset] [])) _
        refine XS.aloadN X47.here hx rfl (hb hby d5_47) rfl rfl ?_
        show Steps p.tables e below (T47.setTop (mkF m 48 #[.val (.ref o0), .val (.ref o1), .val (.int p2), .val (.long q3), .second, .val (.int (xi.toInt32)), .unset] [(.ref o1)])) _
        refine XS.iconst X47.here hx rfl (hb hby d5_48) ?_
        show Steps p.tables e below (T47.setTop (mkF m 49 #[.val (.ref o0), .val (.ref o1), .val (.int p2), .val (.long q3), .second, .val (.int (xi.toInt32)), .unset] [(.int (1 : Int32)), (.ref o1)])) _
        refine X47.baloadBooleans hx (j := (1 : Int32)) (v := (.int (own_hd (pl2_42 1)))) (by rw [e47]; exact Ar55.1) (State.isArrayOf_alike hZ.alike Ar55.2.1) Ar55.2.2 (own_in Sz55 hi56) hl56 (g := (mkF m 49 #[.val (.ref o0), .val (.ref o1), .val (.int p2), .val (.long q3), .second, .val (.int (xi.toInt32)), .unset] [(.int (1 : Int32)), (.ref o1)])) rfl rfl (hb hby d5_49) _ ?_
        show Steps p.tables e below (T47.setTop (mkF m 50 #[.val (.ref o0), .val (.ref o1), .val (.int p2), .val (.long q3), .second, .val (.int (xi.toInt32)), .unset] [(.int (own_hd (pl2_42 1)))])) _
        exact k)
      by_cases hs58 : (own_hd (pl2_42 1)) = (0 : Int32)
      · have qa59 := A_o1_w47u
        obtain ⟨c59, Ar59, Sz59, H59⟩ := qa59
        have hi60 : 0 ≤ ((2 : Int32) : Int32).toInt ∧ ((2 : Int32) : Int32).toInt < (3 : Nat) := (by decide)
        have hl60 : c59.slots[((2 : Int32) : Int32).toNatClampNeg]? = some (.int (own_hd (pl2_42 2))) := by rw [show (own_hd (pl2_42 2)) = ((own_hd (pl2_42 ((2 : Int32) : Int32).toNatClampNeg))) from rfl]; exact H59 _ (own_ix hi60)
        have pre61 : ∀ t, Steps p.tables e below (T47.setTop (mkF m 56 #[.val (.ref o0), .val (.ref o1), .val (.int p2), .val (.long q3), .second, .val (.int (xi.toInt32)), .unset] [(.int (own_hd (pl2_42 2)))])) t → Steps p.tables e below (s₁.setTop (entryFrame m #[(.ref o0), (.ref o1), (.int p2), (.long q3)] 7)) t := fun t k => pre57 t (by
          refine XS.ifNo X47.here hx rfl (hb hby d5_50) rfl ((if0 _ _).trans (teq hs58).2) ?_
          show Steps p.tables e below (T47.setTop (mkF m 53 #[.val (.ref o0), .val (.ref o1), .val (.int p2), .val (.long q3), .second, .val (.int (xi.toInt32)), .unset] [])) _
          refine XS.aloadN X47.here hx rfl (hb hby d5_53) rfl rfl ?_
          show Steps p.tables e below (T47.setTop (mkF m 54 #[.val (.ref o0), .val (.ref o1), .val (.int p2), .val (.long q3), .second, .val (.int (xi.toInt32)), .unset] [(.ref o1)])) _
          refine XS.iconst X47.here hx rfl (hb hby d5_54) ?_
          show Steps p.tables e below (T47.setTop (mkF m 55 #[.val (.ref o0), .val (.ref o1), .val (.int p2), .val (.long q3), .second, .val (.int (xi.toInt32)), .unset] [(.int (2 : Int32)), (.ref o1)])) _
          refine X47.baloadBooleans hx (j := (2 : Int32)) (v := (.int (own_hd (pl2_42 2)))) (by rw [e47]; exact Ar59.1) (State.isArrayOf_alike hZ.alike Ar59.2.1) Ar59.2.2 (own_in Sz59 hi60) hl60 (g := (mkF m 55 #[.val (.ref o0), .val (.ref o1), .val (.int p2), .val (.long q3), .second, .val (.int (xi.toInt32)), .unset] [(.int (2 : Int32)), (.ref o1)])) rfl rfl (hb hby d5_55) _ ?_
          show Steps p.tables e below (T47.setTop (mkF m 56 #[.val (.ref o0), .val (.ref o1), .val (.int p2), .val (.long q3), .second, .val (.int (xi.toInt32)), .unset] [(.int (own_hd (pl2_42 2)))])) _
          exact k)
        by_cases hs62 : (own_hd (pl2_42 2)) = (0 : Int32)
        · obtain ⟨cq63, kq63, q63a, q63b, q63c⟩ := isOf hZ e47 (E_o0_48)
          obtain ⟨_, _, ⟨T63, L63, k63, n63⟩, -, X63, ⟨Lc63, hQ63, l63, y63, z63⟩, st63⟩ := X47.virtualBack hx (y := (⟨"com/example/lean_layers/leanlayers/phase/layering/IndexedHeap", "isEmpty", "()Z"⟩ : MethodName)) (z := (⟨"com/example/lean_layers/leanlayers/phase/layering/IndexedHeap", "isEmpty", "()Z"⟩ : MethodName)) hown (mvT hZ (hw _ (List.mem_of_getElem? (i := 22) rfl))) (mvT hZ (hw _ (List.mem_of_getElem? (i := 23) rfl))) (notFace_of_selects (args := #[]) (mvT hZ (hw _ (List.mem_of_getElem? (i := 25) rfl)))) (mvT hZ (hw _ (List.mem_of_getElem? (i := 25) rfl))) (mvT hZ (hw _ (List.mem_of_getElem? (i := 24) rfl))) (by decide) (backOf (W := 0) (rm4 l Z a0 hw [] o0 (n2_42.toInt32) h47 n0 ZZ49 F_size_o0_48) hZ (hw _ (List.mem_of_getElem? (i := 26) rfl)) (hw _ (List.mem_of_getElem? (i := 2) rfl)) (by decide) (by decide)) q63a q63c (g := (mkF m 67 #[.val (.ref o0), .val (.ref o1), .val (.int p2), .val (.long q3), .second, .val (.int (xi.toInt32)), .val (.int (1 : Int32))] [(.ref o0)])) rfl (by rw [hml]; rfl) (Steps.refl _) (argsL := []) (rest := []) (lenOf pd_4 rfl) rfl (by show 2 * 0 + _ ≤ _; exact Nat.le_of_eq rfl) (hb hby d5_67) (fun _ _ => ⟨rfl, e47, (by decide : 0 + 0 ≤ _), (by decide : 0 + 0 ≤ _)⟩)
          dsimp only [Pt.U, Pt.locs, Pt.cells, Pt.slots] at X63 l63 y63 z63 st63 hQ63
          subst y63 z63
          obtain ⟨rfl, N63q, hh63⟩ := hQ63
          have N63 := Fr.app N47 N63q
          rw [← l63] at N63
          have pre64 : ∀ t, Steps p.tables e below (T63.setTop (mkF m 70 #[.val (.ref o0), .val (.ref o1), .val (.int p2), .val (.long q3), .second, .val (.int (xi.toInt32)), .val (.int (1 : Int32))] [(.int ((f4_12 (n2_42.toInt32)) &&& 1))])) t → Steps p.tables e below (s₁.setTop (entryFrame m #[(.ref o0), (.ref o1), (.int p2), (.long q3)] 7)) t := fun t k => pre61 t (by
            refine XS.ifNo X47.here hx rfl (hb hby d5_56) rfl ((if0 _ _).trans (teq hs62).2) ?_
            show Steps p.tables e below (T47.setTop (mkF m 59 #[.val (.ref o0), .val (.ref o1), .val (.int p2), .val (.long q3), .second, .val (.int (xi.toInt32)), .unset] [])) _
            refine XS.iconst X47.here hx rfl (hb hby d5_59) ?_
            show Steps p.tables e below (T47.setTop (mkF m 60 #[.val (.ref o0), .val (.ref o1), .val (.int p2), .val (.long q3), .second, .val (.int (xi.toInt32)), .unset] [(.int (1 : Int32))])) _
            refine XS.goto X47.here hx rfl (pc0 := 60) (pc' := 64) rfl (hb hby d5_60) (by decide) (by decide) ?_
            show Steps p.tables e below (T47.setTop (mkF m 64 #[.val (.ref o0), .val (.ref o1), .val (.int p2), .val (.long q3), .second, .val (.int (xi.toInt32)), .unset] [(.int (1 : Int32))])) _
            refine XS.istore X47.here hx rfl (hb hby d5_64) rfl (l' := #[.val (.ref o0), .val (.ref o1), .val (.int p2), .val (.long q3), .second, .val (.int (xi.toInt32)), .val (.int (1 : Int32))]) rfl ?_
            show Steps p.tables e below (T47.setTop (mkF m 66 #[.val (.ref o0), .val (.ref o1), .val (.int p2), .val (.long q3), .second, .val (.int (xi.toInt32)), .val (.int (1 : Int32))] [])) _
            refine XS.aloadN X47.here hx rfl (hb hby d5_66) rfl rfl ?_
            show Steps p.tables e below (T47.setTop (mkF m 67 #[.val (.ref o0), .val (.ref o1), .val (.int p2), .val (.long q3), .second, .val (.int (xi.toInt32)), .val (.int (1 : Int32))] [(.ref o0)])) _
            refine st63.trans ?_
            show Steps p.tables e below (T63.setTop (mkF m 70 #[.val (.ref o0), .val (.ref o1), .val (.int p2), .val (.long q3), .second, .val (.int (xi.toInt32)), .val (.int (1 : Int32))] [(.int ((f4_12 (n2_42.toInt32)) &&& 1))])) _
            exact k)
          have hre65 : ((f4_12 (n2_42.toInt32)) &&& 1) = (1 : Int32) := own_ie0 (own_none P42_7 hs54 hs58 hs62)
          have pre65 : ∀ t, Steps p.tables e below (T63.setTop (mkF m 70 #[.val (.ref o0), .val (.ref o1), .val (.int p2), .val (.long q3), .second, .val (.int (xi.toInt32)), .val (.int (1 : Int32))] [(.int (1 : Int32))])) t → Steps p.tables e below (s₁.setTop (entryFrame m #[(.ref o0), (.ref o1), (.int p2), (.long q3)] 7)) t := fun t k => pre64 t (by rw [hre65]; exact k)
          have pre66 : ∀ t, Steps p.tables e below (T63.setTop (mkF m 80 #[.val (.ref o0), .val (.ref o1), .val (.int p2), .val (.long q3), .second, .val (.int (xi.toInt32)), .val (.int (1 : Int32))] [(.int (1 : Int32))])) t → Steps p.tables e below (s₁.setTop (entryFrame m #[(.ref o0), (.ref o1), (.int p2), (.long q3)] 7)) t := fun t k => pre65 t (by
            show Steps p.tables e below (T63.setTop (mkF m 70 #[.val (.ref o0), .val (.ref o1), .val (.int p2), .val (.long q3), .second, .val (.int (xi.toInt32)), .val (.int (1 : Int32))] [(.int (1 : Int32))])) _
            refine XS.iload X63.here hx rfl (hb hby d5_70) rfl ?_
            show Steps p.tables e below (T63.setTop (mkF m 72 #[.val (.ref o0), .val (.ref o1), .val (.int p2), .val (.long q3), .second, .val (.int (xi.toInt32)), .val (.int (1 : Int32))] [(.int (1 : Int32)), (.int (1 : Int32))])) _
            refine XS.icmpNo X63.here hx rfl (hb hby d5_72) rfl (teq (show (1 : Int32) = (1 : Int32) by decide)).2 ?_
            show Steps p.tables e below (T63.setTop (mkF m 75 #[.val (.ref o0), .val (.ref o1), .val (.int p2), .val (.long q3), .second, .val (.int (xi.toInt32)), .val (.int (1 : Int32))] [])) _
            refine XS.iconst X63.here hx rfl (hb hby d5_75) ?_
            show Steps p.tables e below (T63.setTop (mkF m 76 #[.val (.ref o0), .val (.ref o1), .val (.int p2), .val (.long q3), .second, .val (.int (xi.toInt32)), .val (.int (1 : Int32))] [(.int (1 : Int32))])) _
            refine XS.goto X63.here hx rfl (pc0 := 76) (pc' := 80) rfl (hb hby d5_76) (by decide) (by decide) ?_
            show Steps p.tables e below (T63.setTop (mkF m 80 #[.val (.ref o0), .val (.ref o1), .val (.int p2), .val (.long q3), .second, .val (.int (xi.toInt32)), .val (.int (1 : Int32))] [(.int (1 : Int32))])) _
            exact k)
          obtain ⟨fs, hr, hrun, hended, hW, hsame⟩ := X63.leave (v := some (.int (1 : Int32))) (fun h => by rw [Bd.returns] at h; cases h)
          refine ⟨_, _, pre66 _ ?_, hrun, hended, _, _, rfl, ?_, ⟨_, rfl⟩, hW, hsame.mono (by decide) (by decide)⟩
          · exact retN X63 hx (t := .boolean) Bd.returns (by simp) (hb hby d5_80) hr
          · show Q5 Z o0 o1 p2 q3 ti tk tp ky it pl n h0 n0 _ T63.heap _
            rw [hh63]
            exact ⟨n2_42, it2_42, pl2_42, (own_uk ky xi q3), rfl, N63, K50, F_size_o0_48, F_items_o0_48, F_keys_o0_48, F_place_o0_48, A_ti_48, A_tk_48, A_tp_48, A_o1_w47u, P42_7⟩
        · obtain ⟨cq67, kq67, q67a, q67b, q67c⟩ := isOf hZ e47 (E_o0_48)
          obtain ⟨_, _, ⟨T67, L67, k67, n67⟩, -, X67, ⟨Lc67, hQ67, l67, y67, z67⟩, st67⟩ := X47.virtualBack hx (y := (⟨"com/example/lean_layers/leanlayers/phase/layering/IndexedHeap", "isEmpty", "()Z"⟩ : MethodName)) (z := (⟨"com/example/lean_layers/leanlayers/phase/layering/IndexedHeap", "isEmpty", "()Z"⟩ : MethodName)) hown (mvT hZ (hw _ (List.mem_of_getElem? (i := 22) rfl))) (mvT hZ (hw _ (List.mem_of_getElem? (i := 23) rfl))) (notFace_of_selects (args := #[]) (mvT hZ (hw _ (List.mem_of_getElem? (i := 25) rfl)))) (mvT hZ (hw _ (List.mem_of_getElem? (i := 25) rfl))) (mvT hZ (hw _ (List.mem_of_getElem? (i := 24) rfl))) (by decide) (backOf (W := 0) (rm4 l Z a0 hw [] o0 (n2_42.toInt32) h47 n0 ZZ49 F_size_o0_48) hZ (hw _ (List.mem_of_getElem? (i := 26) rfl)) (hw _ (List.mem_of_getElem? (i := 2) rfl)) (by decide) (by decide)) q67a q67c (g := (mkF m 67 #[.val (.ref o0), .val (.ref o1), .val (.int p2), .val (.long q3), .second, .val (.int (xi.toInt32)), .val (.int (0 : Int32))] [(.ref o0)])) rfl (by rw [hml]; rfl) (Steps.refl _) (argsL := []) (rest := []) (lenOf pd_4 rfl) rfl (by show 2 * 0 + _ ≤ _; exact Nat.le_of_eq rfl) (hb hby d5_67) (fun _ _ => ⟨rfl, e47, (by decide : 0 + 0 ≤ _), (by decide : 0 + 0 ≤ _)⟩)
          dsimp only [Pt.U, Pt.locs, Pt.cells, Pt.slots] at X67 l67 y67 z67 st67 hQ67
          subst y67 z67
          obtain ⟨rfl, N67q, hh67⟩ := hQ67
          have N67 := Fr.app N47 N67q
          rw [← l67] at N67
          have pre68 : ∀ t, Steps p.tables e below (T67.setTop (mkF m 70 #[.val (.ref o0), .val (.ref o1), .val (.int p2), .val (.long q3), .second, .val (.int (xi.toInt32)), .val (.int (0 : Int32))] [(.int ((f4_12 (n2_42.toInt32)) &&& 1))])) t → Steps p.tables e below (s₁.setTop (entryFrame m #[(.ref o0), (.ref o1), (.int p2), (.long q3)] 7)) t := fun t k => pre61 t (by
            refine XS.ifYes X47.here hx rfl (pc0 := 56) (pc' := 63) rfl (hb hby d5_56) rfl ((if0 _ _).trans (feq hs62).2) (by decide) (by decide) ?_
            show Steps p.tables e below (T47.setTop (mkF m 63 #[.val (.ref o0), .val (.ref o1), .val (.int p2), .val (.long q3), .second, .val (.int (xi.toInt32)), .unset] [])) _
            refine XS.iconst X47.here hx rfl (hb hby d5_63) ?_
            show Steps p.tables e below (T47.setTop (mkF m 64 #[.val (.ref o0), .val (.ref o1), .val (.int p2), .val (.long q3), .second, .val (.int (xi.toInt32)), .unset] [(.int (0 : Int32))])) _
            refine XS.istore X47.here hx rfl (hb hby d5_64) rfl (l' := #[.val (.ref o0), .val (.ref o1), .val (.int p2), .val (.long q3), .second, .val (.int (xi.toInt32)), .val (.int (0 : Int32))]) rfl ?_
            show Steps p.tables e below (T47.setTop (mkF m 66 #[.val (.ref o0), .val (.ref o1), .val (.int p2), .val (.long q3), .second, .val (.int (xi.toInt32)), .val (.int (0 : Int32))] [])) _
            refine XS.aloadN X47.here hx rfl (hb hby d5_66) rfl rfl ?_
            show Steps p.tables e below (T47.setTop (mkF m 67 #[.val (.ref o0), .val (.ref o1), .val (.int p2), .val (.long q3), .second, .val (.int (xi.toInt32)), .val (.int (0 : Int32))] [(.ref o0)])) _
            refine st67.trans ?_
            show Steps p.tables e below (T67.setTop (mkF m 70 #[.val (.ref o0), .val (.ref o1), .val (.int p2), .val (.long q3), .second, .val (.int (xi.toInt32)), .val (.int (0 : Int32))] [(.int ((f4_12 (n2_42.toInt32)) &&& 1))])) _
            exact k)
          have hre69 : ((f4_12 (n2_42.toInt32)) &&& 1) = (0 : Int32) := own_ie1 (own_some P42_7 2 (by decide) hs62) (by have q := (P42_7).1; omega)
          have pre69 : ∀ t, Steps p.tables e below (T67.setTop (mkF m 70 #[.val (.ref o0), .val (.ref o1), .val (.int p2), .val (.long q3), .second, .val (.int (xi.toInt32)), .val (.int (0 : Int32))] [(.int (0 : Int32))])) t → Steps p.tables e below (s₁.setTop (entryFrame m #[(.ref o0), (.ref o1), (.int p2), (.long q3)] 7)) t := fun t k => pre68 t (by rw [hre69]; exact k)
          have pre70 : ∀ t, Steps p.tables e below (T67.setTop (mkF m 80 #[.val (.ref o0), .val (.ref o1), .val (.int p2), .val (.long q3), .second, .val (.int (xi.toInt32)), .val (.int (0 : Int32))] [(.int (1 : Int32))])) t → Steps p.tables e below (s₁.setTop (entryFrame m #[(.ref o0), (.ref o1), (.int p2), (.long q3)] 7)) t := fun t k => pre69 t (by
            show Steps p.tables e below (T67.setTop (mkF m 70 #[.val (.ref o0), .val (.ref o1), .val (.int p2), .val (.long q3), .second, .val (.int (xi.toInt32)), .val (.int (0 : Int32))] [(.int (0 : Int32))])) _
            refine XS.iload X67.here hx rfl (hb hby d5_70) rfl ?_
            show Steps p.tables e below (T67.setTop (mkF m 72 #[.val (.ref o0), .val (.ref o1), .val (.int p2), .val (.long q3), .second, .val (.int (xi.toInt32)), .val (.int (0 : Int32))] [(.int (0 : Int32)), (.int (0 : Int32))])) _
            refine XS.icmpNo X67.here hx rfl (hb hby d5_72) rfl (teq (show (0 : Int32) = (0 : Int32) by decide)).2 ?_
            show Steps p.tables e below (T67.setTop (mkF m 75 #[.val (.ref o0), .val (.ref o1), .val (.int p2), .val (.long q3), .second, .val (.int (xi.toInt32)), .val (.int (0 : Int32))] [])) _
            refine XS.iconst X67.here hx rfl (hb hby d5_75) ?_
            show Steps p.tables e below (T67.setTop (mkF m 76 #[.val (.ref o0), .val (.ref o1), .val (.int p2), .val (.long q3), .second, .val (.int (xi.toInt32)), .val (.int (0 : Int32))] [(.int (1 : Int32))])) _
            refine XS.goto X67.here hx rfl (pc0 := 76) (pc' := 80) rfl (hb hby d5_76) (by decide) (by decide) ?_
            show Steps p.tables e below (T67.setTop (mkF m 80 #[.val (.ref o0), .val (.ref o1), .val (.int p2), .val (.long q3), .second, .val (.int (xi.toInt32)), .val (.int (0 : Int32))] [(.int (1 : Int32))])) _
            exact k)
          obtain ⟨fs, hr, hrun, hended, hW, hsame⟩ := X67.leave (v := some (.int (1 : Int32))) (fun h => by rw [Bd.returns] at h; cases h)
          refine ⟨_, _, pre70 _ ?_, hrun, hended, _, _, rfl, ?_, ⟨_, rfl⟩, hW, hsame.mono (by decide) (by decide)⟩
          · exact retN X67 hx (t := .boolean) Bd.returns (by simp) (hb hby d5_80) hr
          · show Q5 Z o0 o1 p2 q3 ti tk tp ky it pl n h0 n0 _ T67.heap _
            rw [hh67]
            exact ⟨n2_42, it2_42, pl2_42, (own_uk ky xi q3), rfl, N67, K50, F_size_o0_48, F_items_o0_48, F_keys_o0_48, F_place_o0_48, A_ti_48, A_tk_48, A_tp_48, A_o1_w47u, P42_7⟩
      · obtain ⟨cq71, kq71, q71a, q71b, q71c⟩ := isOf hZ e47 (E_o0_48)
        obtain ⟨_, _, ⟨T71, L71, k71, n71⟩, -, X71, ⟨Lc71, hQ71, l71, y71, z71⟩, st71⟩ := X47.virtualBack hx (y := (⟨"com/example/lean_layers/leanlayers/phase/layering/IndexedHeap", "isEmpty", "()Z"⟩ : MethodName)) (z := (⟨"com/example/lean_layers/leanlayers/phase/layering/IndexedHeap", "isEmpty", "()Z"⟩ : MethodName)) hown (mvT hZ (hw _ (List.mem_of_getElem? (i := 22) rfl))) (mvT hZ (hw _ (List.mem_of_getElem? (i := 23) rfl))) (notFace_of_selects (args := #[]) (mvT hZ (hw _ (List.mem_of_getElem? (i := 25) rfl)))) (mvT hZ (hw _ (List.mem_of_getElem? (i := 25) rfl))) (mvT hZ (hw _ (List.mem_of_getElem? (i := 24) rfl))) (by decide) (backOf (W := 0) (rm4 l Z a0 hw [] o0 (n2_42.toInt32) h47 n0 ZZ49 F_size_o0_48) hZ (hw _ (List.mem_of_getElem? (i := 26) rfl)) (hw _ (List.mem_of_getElem? (i := 2) rfl)) (by decide) (by decide)) q71a q71c (g := (mkF m 67 #[.val (.ref o0), .val (.ref o1), .val (.int p2), .val (.long q3), .second, .val (.int (xi.toInt32)), .val (.int (0 : Int32))] [(.ref o0)])) rfl (by rw [hml]; rfl) (Steps.refl _) (argsL := []) (rest := []) (lenOf pd_4 rfl) rfl (by show 2 * 0 + _ ≤ _; exact Nat.le_of_eq rfl) (hb hby d5_67) (fun _ _ => ⟨rfl, e47, (by decide : 0 + 0 ≤ _), (by decide : 0 + 0 ≤ _)⟩)
        dsimp only [Pt.U, Pt.locs, Pt.cells, Pt.slots] at X71 l71 y71 z71 st71 hQ71
        subst y71 z71
        obtain ⟨rfl, N71q, hh71⟩ := hQ71
        have N71 := Fr.app N47 N71q
        rw [← l71] at N71
        have pre72 : ∀ t, Steps p.tables e below (T71.setTop (mkF m 70 #[.val (.ref o0), .val (.ref o1), .val (.int p2), .val (.long q3), .second, .val (.int (xi.toInt32)), .val (.int (0 : Int32))] [(.int ((f4_12 (n2_42.toInt32)) &&& 1))])) t → Steps p.tables e below (s₁.setTop (entryFrame m #[(.ref o0), (.ref o1), (.int p2), (.long q3)] 7)) t := fun t k => pre57 t (by
          refine XS.ifYes X47.here hx rfl (pc0 := 50) (pc' := 63) rfl (hb hby d5_50) rfl ((if0 _ _).trans (feq hs58).2) (by decide) (by decide) ?_
          show Steps p.tables e below (T47.setTop (mkF m 63 #[.val (.ref o0), .val (.ref o1), .val (.int p2), .val (.long q3), .second, .val (.int (xi.toInt32)), .unset] [])) _
          refine XS.iconst X47.here hx rfl (hb hby d5_63) ?_
          show Steps p.tables e below (T47.setTop (mkF m 64 #[.val (.ref o0), .val (.ref o1), .val (.int p2), .val (.long q3), .second, .val (.int (xi.toInt32)), .unset] [(.int (0 : Int32))])) _
          refine XS.istore X47.here hx rfl (hb hby d5_64) rfl (l' := #[.val (.ref o0), .val (.ref o1), .val (.int p2), .val (.long q3), .second, .val (.int (xi.toInt32)), .val (.int (0 : Int32))]) rfl ?_
          show Steps p.tables e below (T47.setTop (mkF m 66 #[.val (.ref o0), .val (.ref o1), .val (.int p2), .val (.long q3), .second, .val (.int (xi.toInt32)), .val (.int (0 : Int32))] [])) _
          refine XS.aloadN X47.here hx rfl (hb hby d5_66) rfl rfl ?_
          show Steps p.tables e below (T47.setTop (mkF m 67 #[.val (.ref o0), .val (.ref o1), .val (.int p2), .val (.long q3), .second, .val (.int (xi.toInt32)), .val (.int (0 : Int32))] [(.ref o0)])) _
          refine st71.trans ?_
          show Steps p.tables e below (T71.setTop (mkF m 70 #[.val (.ref o0), .val (.ref o1), .val (.int p2), .val (.long q3), .second, .val (.int (xi.toInt32)), .val (.int (0 : Int32))] [(.int ((f4_12 (n2_42.toInt32)) &&& 1))])) _
          exact k)
        have hre73 : ((f4_12 (n2_42.toInt32)) &&& 1) = (0 : Int32) := own_ie1 (own_some P42_7 1 (by decide) hs58) (by have q := (P42_7).1; omega)
        have pre73 : ∀ t, Steps p.tables e below (T71.setTop (mkF m 70 #[.val (.ref o0), .val (.ref o1), .val (.int p2), .val (.long q3), .second, .val (.int (xi.toInt32)), .val (.int (0 : Int32))] [(.int (0 : Int32))])) t → Steps p.tables e below (s₁.setTop (entryFrame m #[(.ref o0), (.ref o1), (.int p2), (.long q3)] 7)) t := fun t k => pre72 t (by rw [hre73]; exact k)
        have pre74 : ∀ t, Steps p.tables e below (T71.setTop (mkF m 80 #[.val (.ref o0), .val (.ref o1), .val (.int p2), .val (.long q3), .second, .val (.int (xi.toInt32)), .val (.int (0 : Int32))] [(.int (1 : Int32))])) t → Steps p.tables e below (s₁.setTop (entryFrame m #[(.ref o0), (.ref o1), (.int p2), (.long q3)] 7)) t := fun t k => pre73 t (by
          show Steps p.tables e below (T71.setTop (mkF m 70 #[.val (.ref o0), .val (.ref o1), .val (.int p2), .val (.long q3), .second, .val (.int (xi.toInt32)), .val (.int (0 : Int32))] [(.int (0 : Int32))])) _
          refine XS.iload X71.here hx rfl (hb hby d5_70) rfl ?_
          show Steps p.tables e below (T71.setTop (mkF m 72 #[.val (.ref o0), .val (.ref o1), .val (.int p2), .val (.long q3), .second, .val (.int (xi.toInt32)), .val (.int (0 : Int32))] [(.int (0 : Int32)), (.int (0 : Int32))])) _
          refine XS.icmpNo X71.here hx rfl (hb hby d5_72) rfl (teq (show (0 : Int32) = (0 : Int32) by decide)).2 ?_
          show Steps p.tables e below (T71.setTop (mkF m 75 #[.val (.ref o0), .val (.ref o1), .val (.int p2), .val (.long q3), .second, .val (.int (xi.toInt32)), .val (.int (0 : Int32))] [])) _
          refine XS.iconst X71.here hx rfl (hb hby d5_75) ?_
          show Steps p.tables e below (T71.setTop (mkF m 76 #[.val (.ref o0), .val (.ref o1), .val (.int p2), .val (.long q3), .second, .val (.int (xi.toInt32)), .val (.int (0 : Int32))] [(.int (1 : Int32))])) _
          refine XS.goto X71.here hx rfl (pc0 := 76) (pc' := 80) rfl (hb hby d5_76) (by decide) (by decide) ?_
          show Steps p.tables e below (T71.setTop (mkF m 80 #[.val (.ref o0), .val (.ref o1), .val (.int p2), .val (.long q3), .second, .val (.int (xi.toInt32)), .val (.int (0 : Int32))] [(.int (1 : Int32))])) _
          exact k)
        obtain ⟨fs, hr, hrun, hended, hW, hsame⟩ := X71.leave (v := some (.int (1 : Int32))) (fun h => by rw [Bd.returns] at h; cases h)
        refine ⟨_, _, pre74 _ ?_, hrun, hended, _, _, rfl, ?_, ⟨_, rfl⟩, hW, hsame.mono (by decide) (by decide)⟩
        · exact retN X71 hx (t := .boolean) Bd.returns (by simp) (hb hby d5_80) hr
        · show Q5 Z o0 o1 p2 q3 ti tk tp ky it pl n h0 n0 _ T71.heap _
          rw [hh71]
          exact ⟨n2_42, it2_42, pl2_42, (own_uk ky xi q3), rfl, N71, K50, F_size_o0_48, F_items_o0_48, F_keys_o0_48, F_place_o0_48, A_ti_48, A_tk_48, A_tp_48, A_o1_w47u, P42_7⟩
    · obtain ⟨cq75, kq75, q75a, q75b, q75c⟩ := isOf hZ e47 (E_o0_48)
      obtain ⟨_, _, ⟨T75, L75, k75, n75⟩, -, X75, ⟨Lc75, hQ75, l75, y75, z75⟩, st75⟩ := X47.virtualBack hx (y := (⟨"com/example/lean_layers/leanlayers/phase/layering/IndexedHeap", "isEmpty", "()Z"⟩ : MethodName)) (z := (⟨"com/example/lean_layers/leanlayers/phase/layering/IndexedHeap", "isEmpty", "()Z"⟩ : MethodName)) hown (mvT hZ (hw _ (List.mem_of_getElem? (i := 22) rfl))) (mvT hZ (hw _ (List.mem_of_getElem? (i := 23) rfl))) (notFace_of_selects (args := #[]) (mvT hZ (hw _ (List.mem_of_getElem? (i := 25) rfl)))) (mvT hZ (hw _ (List.mem_of_getElem? (i := 25) rfl))) (mvT hZ (hw _ (List.mem_of_getElem? (i := 24) rfl))) (by decide) (backOf (W := 0) (rm4 l Z a0 hw [] o0 (n2_42.toInt32) h47 n0 ZZ49 F_size_o0_48) hZ (hw _ (List.mem_of_getElem? (i := 26) rfl)) (hw _ (List.mem_of_getElem? (i := 2) rfl)) (by decide) (by decide)) q75a q75c (g := (mkF m 67 #[.val (.ref o0), .val (.ref o1), .val (.int p2), .val (.long q3), .second, .val (.int (xi.toInt32)), .val (.int (0 : Int32))] [(.ref o0)])) rfl (by rw [hml]; rfl) (Steps.refl _) (argsL := []) (rest := []) (lenOf pd_4 rfl) rfl (by show 2 * 0 + _ ≤ _; exact Nat.le_of_eq rfl) (hb hby d5_67) (fun _ _ => ⟨rfl, e47, (by decide : 0 + 0 ≤ _), (by decide : 0 + 0 ≤ _)⟩)
      dsimp only [Pt.U, Pt.locs, Pt.cells, Pt.slots] at X75 l75 y75 z75 st75 hQ75
      subst y75 z75
      obtain ⟨rfl, N75q, hh75⟩ := hQ75
      have N75 := Fr.app N47 N75q
      rw [← l75] at N75
      have pre76 : ∀ t, Steps p.tables e below (T75.setTop (mkF m 70 #[.val (.ref o0), .val (.ref o1), .val (.int p2), .val (.long q3), .second, .val (.int (xi.toInt32)), .val (.int (0 : Int32))] [(.int ((f4_12 (n2_42.toInt32)) &&& 1))])) t → Steps p.tables e below (s₁.setTop (entryFrame m #[(.ref o0), (.ref o1), (.int p2), (.long q3)] 7)) t := fun t k => pre53 t (by
        refine XS.ifYes X47.here hx rfl (pc0 := 44) (pc' := 63) rfl (hb hby d5_44) rfl ((if0 _ _).trans (feq hs54).2) (by decide) (by decide) ?_
        show Steps p.tables e below (T47.setTop (mkF m 63 #[.val (.ref o0), .val (.ref o1), .val (.int p2), .val (.long q3), .second, .val (.int (xi.toInt32)), .unset] [])) _
        refine XS.iconst X47.here hx rfl (hb hby d5_63) ?_
        show Steps p.tables e below (T47.setTop (mkF m 64 #[.val (.ref o0), .val (.ref o1), .val (.int p2), .val (.long q3), .second, .val (.int (xi.toInt32)), .unset] [(.int (0 : Int32))])) _
        refine XS.istore X47.here hx rfl (hb hby d5_64) rfl (l' := #[.val (.ref o0), .val (.ref o1), .val (.int p2), .val (.long q3), .second, .val (.int (xi.toInt32)), .val (.int (0 : Int32))]) rfl ?_
        show Steps p.tables e below (T47.setTop (mkF m 66 #[.val (.ref o0), .val (.ref o1), .val (.int p2), .val (.long q3), .second, .val (.int (xi.toInt32)), .val (.int (0 : Int32))] [])) _
        refine XS.aloadN X47.here hx rfl (hb hby d5_66) rfl rfl ?_
        show Steps p.tables e below (T47.setTop (mkF m 67 #[.val (.ref o0), .val (.ref o1), .val (.int p2), .val (.long q3), .second, .val (.int (xi.toInt32)), .val (.int (0 : Int32))] [(.ref o0)])) _
        refine st75.trans ?_
        show Steps p.tables e below (T75.setTop (mkF m 70 #[.val (.ref o0), .val (.ref o1), .val (.int p2), .val (.long q3), .second, .val (.int (xi.toInt32)), .val (.int (0 : Int32))] [(.int ((f4_12 (n2_42.toInt32)) &&& 1))])) _
        exact k)
      have hre77 : ((f4_12 (n2_42.toInt32)) &&& 1) = (0 : Int32) := own_ie1 (own_some P42_7 0 (by decide) hs54) (by have q := (P42_7).1; omega)
      have pre77 : ∀ t, Steps p.tables e below (T75.setTop (mkF m 70 #[.val (.ref o0), .val (.ref o1), .val (.int p2), .val (.long q3), .second, .val (.int (xi.toInt32)), .val (.int (0 : Int32))] [(.int (0 : Int32))])) t → Steps p.tables e below (s₁.setTop (entryFrame m #[(.ref o0), (.ref o1), (.int p2), (.long q3)] 7)) t := fun t k => pre76 t (by rw [hre77]; exact k)
      have pre78 : ∀ t, Steps p.tables e below (T75.setTop (mkF m 80 #[.val (.ref o0), .val (.ref o1), .val (.int p2), .val (.long q3), .second, .val (.int (xi.toInt32)), .val (.int (0 : Int32))] [(.int (1 : Int32))])) t → Steps p.tables e below (s₁.setTop (entryFrame m #[(.ref o0), (.ref o1), (.int p2), (.long q3)] 7)) t := fun t k => pre77 t (by
        show Steps p.tables e below (T75.setTop (mkF m 70 #[.val (.ref o0), .val (.ref o1), .val (.int p2), .val (.long q3), .second, .val (.int (xi.toInt32)), .val (.int (0 : Int32))] [(.int (0 : Int32))])) _
        refine XS.iload X75.here hx rfl (hb hby d5_70) rfl ?_
        show Steps p.tables e below (T75.setTop (mkF m 72 #[.val (.ref o0), .val (.ref o1), .val (.int p2), .val (.long q3), .second, .val (.int (xi.toInt32)), .val (.int (0 : Int32))] [(.int (0 : Int32)), (.int (0 : Int32))])) _
        refine XS.icmpNo X75.here hx rfl (hb hby d5_72) rfl (teq (show (0 : Int32) = (0 : Int32) by decide)).2 ?_
        show Steps p.tables e below (T75.setTop (mkF m 75 #[.val (.ref o0), .val (.ref o1), .val (.int p2), .val (.long q3), .second, .val (.int (xi.toInt32)), .val (.int (0 : Int32))] [])) _
        refine XS.iconst X75.here hx rfl (hb hby d5_75) ?_
        show Steps p.tables e below (T75.setTop (mkF m 76 #[.val (.ref o0), .val (.ref o1), .val (.int p2), .val (.long q3), .second, .val (.int (xi.toInt32)), .val (.int (0 : Int32))] [(.int (1 : Int32))])) _
        refine XS.goto X75.here hx rfl (pc0 := 76) (pc' := 80) rfl (hb hby d5_76) (by decide) (by decide) ?_
        show Steps p.tables e below (T75.setTop (mkF m 80 #[.val (.ref o0), .val (.ref o1), .val (.int p2), .val (.long q3), .second, .val (.int (xi.toInt32)), .val (.int (0 : Int32))] [(.int (1 : Int32))])) _
        exact k)
      obtain ⟨fs, hr, hrun, hended, hW, hsame⟩ := X75.leave (v := some (.int (1 : Int32))) (fun h => by rw [Bd.returns] at h; cases h)
      refine ⟨_, _, pre78 _ ?_, hrun, hended, _, _, rfl, ?_, ⟨_, rfl⟩, hW, hsame.mono (by decide) (by decide)⟩
      · exact retN X75 hx (t := .boolean) Bd.returns (by simp) (hb hby d5_80) hr
      · show Q5 Z o0 o1 p2 q3 ti tk tp ky it pl n h0 n0 _ T75.heap _
        rw [hh75]
        exact ⟨n2_42, it2_42, pl2_42, (own_uk ky xi q3), rfl, N75, K50, F_size_o0_48, F_items_o0_48, F_keys_o0_48, F_place_o0_48, A_ti_48, A_tk_48, A_tp_48, A_o1_w47u, P42_7⟩
theorem pd_6 : parseMethodDescriptor "(Lcom/example/lean_layers/leanlayers/phase/layering/IndexedHeap;[ZIJ)Z" = some ⟨[(.object "com/example/lean_layers/leanlayers/phase/layering/IndexedHeap"), (.array .boolean), .int, .long], some .boolean⟩ := by decide +kernel
theorem ef_0 (m : MethodId) (p0 : Int32) (q1 : Int64) (q2 : Int64) (q3 : Int64) : entryFrame m #[(.int p0), (.long q1), (.long q2), (.long q3)] maxLocals = mkF m 0 #[.val (.int p0), .val (.long q1), .second, .val (.long q2), .second, .val (.long q3), .second, .unset, .unset, .unset] [] := by first | (simp [entryFrame, mkF, argsToLocals, Value.category, maxLocals]; done) | rfl

def Q0 (Z : State) (p0 : Int32) (q1 : Int64) (q2 : Int64) (q3 : Int64) (h0 : Heap) (n0 : Nat) (v : Option Value) (h : Heap) (L : List Loc) : Prop := v = some (.int 1) ∧ Fr n0 L
set_option maxRecDepth 65536 in
set_option maxHeartbeats 40000000 in
theorem rm0 (l : Launch) (Z : State) (a0 : Array Value) (hw : ∀ d ∈ tables_1, d.before a0 Z = true) (ws : List Jvm.Cond) (p0 : Int32) (q1 : Int64) (q2 : Int64) (q3 : Int64) (h0 : Heap) (n0 : Nat) (Z0 : n0 ≤ h0.size)  :
    MetFree l x (head1 (Jvm.Cond.code x code maxLocals ret :: ws) room_1) (fun a U => a = #[(.int p0), (.long q1), (.long q2), (.long q3)] ∧ Z.Warmed39 U.vm ∧ U.heap = h0) (fun _ _ _ _ _ => True) (fun _ U o U' => ∃ v L, o = .returned v ∧ Q0 Z p0 q1 q2 q3 h0 n0 v U'.heap L ∧ FrameEnd U o U' L room_1.cells room_1.slots) := by
  refine MetFree.of_bodySF (plainFor_of_name pn_2) hisR ?_
  intro p e s m args below meth c s₁ Bd hml0 hP hK
  obtain ⟨rfl, hZ, hh⟩ := hP
  have hx := Bd.exec
  have hby := Bd.bytes
  have hml : c.maxLocals = 10 := hml0
  have hown : s.vm.findClass "com/example/lean_layers/leanlayers/phase/layering/IndexedHeapIsEmptyPinLaw" = some m.cls := findClass_of_methodNamed Bd.named
  have hnm := (name_of_methodNamed Bd.named Bd.method).1
  have X0 : Stand p l e room_1 s m #[(.int p0), (.long q1), (.long q2), (.long q3)] below meth c s₁ [] 0 0 := Stand.of_body Bd
  have e0 : s₁.heap = h0 := by rw [← hh, Bd.state]; rfl
  have N0 := Fr.nil n0
  have pre0 : ∀ t, Steps p.tables e below (s₁.setTop (mkF m 0 #[.val (.int p0), .val (.long q1), .second, .val (.long q2), .second, .val (.long q3), .second, .unset, .unset, .unset] [])) t → Steps p.tables e below (s₁.setTop (entryFrame m #[(.int p0), (.long q1), (.long q2), (.long q3)] maxLocals)) t := fun t k => castTop (ef_0 m p0 q1 q2 q3) k
  obtain ⟨T1, h1, X1, e1, Ex1, Ne1, D1, -, st1⟩ := newO X0 hx hZ hown (hw _ (List.mem_of_getElem? (i := 0) rfl)) (hw _ (List.mem_of_getElem? (i := 1) rfl)) (hw _ (List.mem_of_getElem? (i := 2) rfl)) e0 (g := (mkF m 0 #[.val (.int p0), .val (.long q1), .second, .val (.long q2), .second, .val (.long q3), .second, .unset, .unset, .unset] [])) rfl (hb hby at_0) (by decide) (by decide)
  obtain ⟨b1, g1⟩ : ∃ z, z = h0.size := ⟨_, rfl⟩
  rw [← g1] at Ne1 D1 st1
  have g_b1 : n0 ≤ b1 := Nat.le_trans (Nat.le_trans Z0 (Nat.le_refl _)) (Nat.le_of_eq g1.symm)
  have sz_b1 : h0.size ≤ b1 := Nat.le_trans (Nat.le_refl _) (Nat.le_of_eq g1.symm)
  have SZ3 : h0.size ≤ h1.size := Nat.le_trans (Nat.le_refl _) Ex1.1
  have ZZ3 : n0 ≤ h1.size := Nat.le_trans Z0 SZ3
  have K4 : Keep h0 h1 [] := ((Keep.refl h0 [])).ext Ex1
  have F_items_b1_1 : Fld Z h1 b1 "com/example/lean_layers/leanlayers/phase/layering/IndexedHeap" "items" "[I" .null := D1 (Or.inr (hw _ (List.mem_of_getElem? (i := 11) rfl))) (ty := (.array .int)) (by decide)
  have F_keys_b1_1 : Fld Z h1 b1 "com/example/lean_layers/leanlayers/phase/layering/IndexedHeap" "keys" "[J" .null := D1 (Or.inr (hw _ (List.mem_of_getElem? (i := 14) rfl))) (ty := (.array .long)) (by decide)
  have F_place_b1_1 : Fld Z h1 b1 "com/example/lean_layers/leanlayers/phase/layering/IndexedHeap" "place" "[I" .null := D1 (Or.inr (hw _ (List.mem_of_getElem? (i := 16) rfl))) (ty := (.array .int)) (by decide)
  have F_size_b1_1 : Fld Z h1 b1 "com/example/lean_layers/leanlayers/phase/layering/IndexedHeap" "size" "I" (.int (0 : Int32)) := D1 (Or.inl (hw _ (List.mem_of_getElem? (i := 28) rfl))) (ty := .int) (by decide)
  obtain ⟨_, _, ⟨T5, L5, k5, n5⟩, -, X5, ⟨Lc5, hQ5, l5, y5, z5⟩, st5⟩ := X1.specialBack hx (y := (⟨"com/example/lean_layers/leanlayers/phase/layering/IndexedHeap", "<init>", "(I)V"⟩ : MethodName)) rfl hown (mvT hZ (hw _ (List.mem_of_getElem? (i := 3) rfl))) (mvT hZ (hw _ (List.mem_of_getElem? (i := 4) rfl))) (mvT hZ (hw _ (List.mem_of_getElem? (i := 5) rfl))) (by decide) (backOf (W := 1) (rm1 l Z a0 hw [] b1 (3 : Int32) h1 n0 ZZ3 F_items_b1_1 F_keys_b1_1 F_place_b1_1 Ne1 F_size_b1_1 g_b1 rfl) hZ (hw _ (List.mem_of_getElem? (i := 5) rfl)) (hw _ (List.mem_of_getElem? (i := 2) rfl)) (by decide) (by decide)) (g := (mkF m 5 #[.val (.int p0), .val (.long q1), .second, .val (.long q2), .second, .val (.long q3), .second, .unset, .unset, .unset] [(.int (3 : Int32)), (.ref b1), (.ref b1)])) rfl (by rw [hml]; rfl) (Steps.refl _) (a := b1) (argsL := [(.int (3 : Int32))]) (rest := [(.ref b1)]) (lenOf pd_3 rfl) rfl (by show 2 * 0 + _ ≤ _; exact Nat.le_of_eq rfl) (hb hby at_5) (fun _ _ => ⟨rfl, e1, (by decide : 1 + 3 ≤ _), (by decide : 4 + 9 ≤ _)⟩)
  dsimp only [Pt.U, Pt.locs, Pt.cells, Pt.slots] at X5 l5 y5 z5 st5 hQ5
  subst y5 z5
  obtain ⟨ti_5, tk_5, tp_5, rfl, N5q, Kc5, sz_ti_5, sz_tk_5, sz_tp_5, ne_ti_tk_5, ne_ti_tp_5, ne_tk_tp_5, P5_0, P5_1, P5_2, P5_3, P5_4, P5_5, P5_6⟩ := hQ5
  have N5 := Fr.app N0 N5q
  rw [← l5] at N5
  have E_b1_6 : Exa Z T5.heap b1 "com/example/lean_layers/leanlayers/phase/layering/IndexedHeap" := (Ne1).keep Kc5
  have SZ7 : h0.size ≤ T5.heap.size := Nat.le_trans SZ3 Kc5.1
  have ZZ7 : n0 ≤ T5.heap.size := Nat.le_trans Z0 SZ7
  have K8 : Keep h0 T5.heap [] := (K4).trans Kc5 (allS (Or.inr sz_b1) all0)
  have ne_b1_ti_5 : b1 ≠ ti_5 := Nat.ne_of_lt (Nat.lt_of_lt_of_le (Ne1).lt sz_ti_5)
  have g_ti_5 : n0 ≤ ti_5 := Nat.le_trans (Nat.le_trans Z0 SZ3) sz_ti_5
  have szz_ti_5 : h0.size ≤ ti_5 := Nat.le_trans SZ3 sz_ti_5
  have ne_b1_tk_5 : b1 ≠ tk_5 := Nat.ne_of_lt (Nat.lt_of_lt_of_le (Ne1).lt sz_tk_5)
  have g_tk_5 : n0 ≤ tk_5 := Nat.le_trans (Nat.le_trans Z0 SZ3) sz_tk_5
  have szz_tk_5 : h0.size ≤ tk_5 := Nat.le_trans SZ3 sz_tk_5
  have ne_b1_tp_5 : b1 ≠ tp_5 := Nat.ne_of_lt (Nat.lt_of_lt_of_le (Ne1).lt sz_tp_5)
  have g_tp_5 : n0 ≤ tp_5 := Nat.le_trans (Nat.le_trans Z0 SZ3) sz_tp_5
  have szz_tp_5 : h0.size ≤ tp_5 := Nat.le_trans SZ3 sz_tp_5
  obtain ⟨T9, h9, k9, X9, e9, Ex9, Ne9, st9⟩ := newP X5 hx hZ (hw _ (List.mem_of_getElem? (i := 21) rfl)) rfl (g := (mkF m 11 #[.val (.int p0), .val (.long q1), .second, .val (.long q2), .second, .val (.long q3), .second, .val (.ref b1), .unset, .unset] [(.int (3 : Int32))])) rfl (hb hby at_11) rfl (by decide) (cap := 3) (by decide) (by decide) (by decide) (by decide)
  obtain ⟨b9, g9⟩ : ∃ z, z = T5.heap.size := ⟨_, rfl⟩
  rw [← g9] at Ne9 st9
  have ne_b1_b9 : b1 ≠ b9 := by rw [g9]; exact Nat.ne_of_lt (E_b1_6).lt
  have ne_ti_5_b9 : ti_5 ≠ b9 := by rw [g9]; exact Nat.ne_of_lt (P5_4).lt
  have ne_tk_5_b9 : tk_5 ≠ b9 := by rw [g9]; exact Nat.ne_of_lt (P5_5).lt
  have ne_tp_5_b9 : tp_5 ≠ b9 := by rw [g9]; exact Nat.ne_of_lt (P5_6).lt
  have g_b9 : n0 ≤ b9 := Nat.le_trans (Nat.le_trans Z0 SZ7) (Nat.le_of_eq g9.symm)
  have sz_b9 : h0.size ≤ b9 := Nat.le_trans SZ7 (Nat.le_of_eq g9.symm)
  have E_b1_10 : Exa Z h9 b1 "com/example/lean_layers/leanlayers/phase/layering/IndexedHeap" := (E_b1_6).ext Ex9
  have F_items_b1_10 : Fld Z h9 b1 "com/example/lean_layers/leanlayers/phase/layering/IndexedHeap" "items" "[I" (.ref ti_5) := (P5_0).ext Ex9
  have F_keys_b1_10 : Fld Z h9 b1 "com/example/lean_layers/leanlayers/phase/layering/IndexedHeap" "keys" "[J" (.ref tk_5) := (P5_1).ext Ex9
  have F_place_b1_10 : Fld Z h9 b1 "com/example/lean_layers/leanlayers/phase/layering/IndexedHeap" "place" "[I" (.ref tp_5) := (P5_2).ext Ex9
  have F_size_b1_10 : Fld Z h9 b1 "com/example/lean_layers/leanlayers/phase/layering/IndexedHeap" "size" "I" (.int ((0 : Nat).toInt32)) := (P5_3).ext Ex9
  have A_ti_5_10 : own_A Z h9 ti_5 .int 3 (fun kk => (.int ((own_z kk).toInt32))) := (P5_4).ext Ex9
  have A_tk_5_10 : own_A Z h9 tk_5 .long 3 (fun kk => (.long (own_zk kk))) := (P5_5).ext Ex9
  have A_tp_5_10 : own_A Z h9 tp_5 .int 3 (fun kk => (.int (own_pl (own_z kk)))) := (P5_6).ext Ex9
  have SZ11 : h0.size ≤ h9.size := Nat.le_trans SZ7 Ex9.1
  have ZZ11 : n0 ≤ h9.size := Nat.le_trans Z0 SZ11
  have K12 : Keep h0 h9 [] := (K8).ext Ex9
  have A_b9_9 : own_A Z h9 b9 .boolean 3 (fun kk => (.int (0 : Int32))) := own_A.new Ne9
  have Fz13 : own_A Z h9 b9 .boolean 3 (fun kk => (.int (own_hd (own_z kk)))) := own_A.eqv A_b9_9 (fun j _ => rfl)
  obtain ⟨cq14, kq14, q14a, q14b, q14c⟩ := isOf hZ e9 (E_b1_10)
  obtain ⟨_, _, ⟨T14, L14, k14, n14⟩, -, X14, ⟨Lc14, hQ14, l14, y14, z14⟩, st14⟩ := X9.virtualBack hx (y := (⟨"com/example/lean_layers/leanlayers/phase/layering/IndexedHeap", "isEmpty", "()Z"⟩ : MethodName)) (z := (⟨"com/example/lean_layers/leanlayers/phase/layering/IndexedHeap", "isEmpty", "()Z"⟩ : MethodName)) hown (mvT hZ (hw _ (List.mem_of_getElem? (i := 22) rfl))) (mvT hZ (hw _ (List.mem_of_getElem? (i := 23) rfl))) (notFace_of_selects (args := #[]) (mvT hZ (hw _ (List.mem_of_getElem? (i := 25) rfl)))) (mvT hZ (hw _ (List.mem_of_getElem? (i := 25) rfl))) (mvT hZ (hw _ (List.mem_of_getElem? (i := 24) rfl))) (by decide) (backOf (W := 0) (rm4 l Z a0 hw [] b1 ((0 : Nat).toInt32) h9 n0 ZZ11 F_size_b1_10) hZ (hw _ (List.mem_of_getElem? (i := 26) rfl)) (hw _ (List.mem_of_getElem? (i := 2) rfl)) (by decide) (by decide)) q14a q14c (g := (mkF m 17 #[.val (.int p0), .val (.long q1), .second, .val (.long q2), .second, .val (.long q3), .second, .val (.ref b1), .val (.ref b9), .unset] [(.ref b1)])) rfl (by rw [hml]; rfl) (Steps.refl _) (argsL := []) (rest := []) (lenOf pd_4 rfl) rfl (by show 2 * 0 + _ ≤ _; exact Nat.le_of_eq rfl) (hb hby at_17) (fun _ _ => ⟨rfl, e9, (by decide : 5 + 0 ≤ _), (by decide : 16 + 0 ≤ _)⟩)
  dsimp only [Pt.U, Pt.locs, Pt.cells, Pt.slots] at X14 l14 y14 z14 st14 hQ14
  subst y14 z14
  obtain ⟨rfl, N14q, hh14⟩ := hQ14
  have N14 := Fr.app N5 N14q
  rw [← l14] at N14
  have pre15 : ∀ t, Steps p.tables e below (T14.setTop (mkF m 20 #[.val (.int p0), .val (.long q1), .second, .val (.long q2), .second, .val (.long q3), .second, .val (.ref b1), .val (.ref b9), .unset] [(.int ((f4_12 ((0 : Nat).toInt32)) &&& 1))])) t → Steps p.tables e below (s₁.setTop (entryFrame m #[(.int p0), (.long q1), (.long q2), (.long q3)] maxLocals)) t := fun t k => pre0 t (by
    show Steps p.tables e below (s₁.setTop (mkF m 0 #[.val (.int p0), .val (.long q1), .second, .val (.long q2), .second, .val (.long q3), .second, .unset, .unset, .unset] [])) _
    refine st1 _ ?_
    show Steps p.tables e below (T1.setTop (mkF m 3 #[.val (.int p0), .val (.long q1), .second, .val (.long q2), .second, .val (.long q3), .second, .unset, .unset, .unset] [(.ref b1)])) _
    refine XS.dup X1.here hx rfl (hb hby at_3) rfl rfl ?_
    show Steps p.tables e below (T1.setTop (mkF m 4 #[.val (.int p0), .val (.long q1), .second, .val (.long q2), .second, .val (.long q3), .second, .unset, .unset, .unset] [(.ref b1), (.ref b1)])) _
    refine XS.iconst X1.here hx rfl (hb hby at_4) ?_
    show Steps p.tables e below (T1.setTop (mkF m 5 #[.val (.int p0), .val (.long q1), .second, .val (.long q2), .second, .val (.long q3), .second, .unset, .unset, .unset] [(.int (3 : Int32)), (.ref b1), (.ref b1)])) _
    refine st5.trans ?_
    show Steps p.tables e below (T5.setTop (mkF m 8 #[.val (.int p0), .val (.long q1), .second, .val (.long q2), .second, .val (.long q3), .second, .unset, .unset, .unset] [(.ref b1)])) _
    refine XS.astore X5.here hx rfl (hb hby at_8) rfl rfl (l' := #[.val (.int p0), .val (.long q1), .second, .val (.long q2), .second, .val (.long q3), .second, .val (.ref b1), .unset, .unset]) rfl ?_
    show Steps p.tables e below (T5.setTop (mkF m 10 #[.val (.int p0), .val (.long q1), .second, .val (.long q2), .second, .val (.long q3), .second, .val (.ref b1), .unset, .unset] [])) _
    refine XS.iconst X5.here hx rfl (hb hby at_10) ?_
    show Steps p.tables e below (T5.setTop (mkF m 11 #[.val (.int p0), .val (.long q1), .second, .val (.long q2), .second, .val (.long q3), .second, .val (.ref b1), .unset, .unset] [(.int (3 : Int32))])) _
    refine st9 _ ?_
    show Steps p.tables e below (T9.setTop (mkF m 13 #[.val (.int p0), .val (.long q1), .second, .val (.long q2), .second, .val (.long q3), .second, .val (.ref b1), .unset, .unset] [(.ref b9)])) _
    refine XS.astore X9.here hx rfl (hb hby at_13) rfl rfl (l' := #[.val (.int p0), .val (.long q1), .second, .val (.long q2), .second, .val (.long q3), .second, .val (.ref b1), .val (.ref b9), .unset]) rfl ?_
    show Steps p.tables e below (T9.setTop (mkF m 15 #[.val (.int p0), .val (.long q1), .second, .val (.long q2), .second, .val (.long q3), .second, .val (.ref b1), .val (.ref b9), .unset] [])) _
    refine XS.aload X9.here hx rfl (hb hby at_15) rfl rfl ?_
    show Steps p.tables e below (T9.setTop (mkF m 17 #[.val (.int p0), .val (.long q1), .second, .val (.long q2), .second, .val (.long q3), .second, .val (.ref b1), .val (.ref b9), .unset] [(.ref b1)])) _
    refine st14.trans ?_
    show Steps p.tables e below (T14.setTop (mkF m 20 #[.val (.int p0), .val (.long q1), .second, .val (.long q2), .second, .val (.long q3), .second, .val (.ref b1), .val (.ref b9), .unset] [(.int ((f4_12 ((0 : Nat).toInt32)) &&& 1))])) _
    exact k)
  have hre16 : ((f4_12 ((0 : Nat).toInt32)) &&& 1) = (1 : Int32) := own_ie0 rfl
  have pre16 : ∀ t, Steps p.tables e below (T14.setTop (mkF m 20 #[.val (.int p0), .val (.long q1), .second, .val (.long q2), .second, .val (.long q3), .second, .val (.ref b1), .val (.ref b9), .unset] [(.int (1 : Int32))])) t → Steps p.tables e below (s₁.setTop (entryFrame m #[(.int p0), (.long q1), (.long q2), (.long q3)] maxLocals)) t := fun t k => pre15 t (by rw [hre16]; exact k)
  obtain ⟨_, _, ⟨T17, L17, k17, n17⟩, -, X17, ⟨Lc17, hQ17, l17, y17, z17⟩, st17⟩ := Jvm.LawKit.callS X14 hx (y := (⟨"com/example/lean_layers/leanlayers/phase/layering/IndexedHeapIsEmptyPinLaw", "step", "(Lcom/example/lean_layers/leanlayers/phase/layering/IndexedHeap;[ZIJ)Z"⟩ : MethodName)) hown (mvT hZ (hw _ (List.mem_of_getElem? (i := 29) rfl))) (mvT hZ (hw _ (List.mem_of_getElem? (i := 30) rfl))) (mvT hZ (hw _ (List.mem_of_getElem? (i := 31) rfl))) (mvT hZ (hw _ (List.mem_of_getElem? (i := 32) rfl))) (by decide) (backOf (W := 1) (rm5 l Z a0 hw [] b1 b9 p0 q1 ti_5 tk_5 tp_5 own_zk own_z own_z (0 : Nat) h9 n0 ZZ11 F_items_b1_10 F_keys_b1_10 F_place_b1_10 E_b1_10 F_size_b1_10 A_ti_5_10 A_tk_5_10 A_tp_5_10 Fz13 g_ti_5 g_tk_5 g_tp_5 g_b1 g_b9 ne_b1_ti_5 ne_b1_tk_5 ne_b1_tp_5 ne_ti_tk_5 ne_ti_tp_5 ne_tk_tp_5 (Ne.symm ne_b1_b9) (Ne.symm ne_ti_5_b9) (Ne.symm ne_tk_5_b9) (Ne.symm ne_tp_5_b9) (own_IV_new (fun _ _ => rfl) (fun _ _ => (by decide : (0 : Nat) < 3)))) hZ (hw _ (List.mem_of_getElem? (i := 32) rfl)) (hw _ (List.mem_of_getElem? (i := 31) rfl)) (by decide) (by decide)) (g := (mkF m 30 #[.val (.int p0), .val (.long q1), .second, .val (.long q2), .second, .val (.long q3), .second, .val (.ref b1), .val (.ref b9), .val (.int (1 : Int32))] [(.long q1), (.int p0), (.ref b9), (.ref b1), (.int (1 : Int32))])) rfl (by rw [hml]; rfl) (argsL := [(.ref b1), (.ref b9), (.int p0), (.long q1)]) (rest := [(.int (1 : Int32))]) (lenOf pd_6 rfl) rfl (by show 2 * 0 + _ ≤ _; exact Nat.le_of_eq rfl) (hb hby at_30) (fun _ _ => ⟨rfl, hh14, (by decide : 5 + 0 ≤ _), (by decide : 16 + 0 ≤ _)⟩)
  dsimp only [Pt.U, Pt.locs, Pt.cells, Pt.slots] at X17 l17 y17 z17 st17 hQ17
  subst y17 z17
  obtain ⟨n2_17, it2_17, pl2_17, ky2_17, rfl, N17q, Kc17, P17_0, P17_1, P17_2, P17_3, P17_4, P17_5, P17_6, P17_7, P17_8⟩ := hQ17
  have N17 := Fr.app N14 N17q
  rw [← l17] at N17
  have E_b1_18 : Exa Z T17.heap b1 "com/example/lean_layers/leanlayers/phase/layering/IndexedHeap" := (E_b1_10).keep Kc17
  have SZ19 : h0.size ≤ T17.heap.size := Nat.le_trans SZ11 Kc17.1
  have ZZ19 : n0 ≤ T17.heap.size := Nat.le_trans Z0 SZ19
  have K20 : Keep h0 T17.heap [] := (K12).trans Kc17 (allS (Or.inr szz_ti_5) (allS (Or.inr szz_tk_5) (allS (Or.inr szz_tp_5) (allS (Or.inr sz_b1) (allS (Or.inr sz_b9) all0)))))
  obtain ⟨_, _, ⟨T21, L21, k21, n21⟩, -, X21, ⟨Lc21, hQ21, l21, y21, z21⟩, st21⟩ := Jvm.LawKit.callS X17 hx (y := (⟨"com/example/lean_layers/leanlayers/phase/layering/IndexedHeapIsEmptyPinLaw", "step", "(Lcom/example/lean_layers/leanlayers/phase/layering/IndexedHeap;[ZIJ)Z"⟩ : MethodName)) hown (mvT hZ (hw _ (List.mem_of_getElem? (i := 29) rfl))) (mvT hZ (hw _ (List.mem_of_getElem? (i := 30) rfl))) (mvT hZ (hw _ (List.mem_of_getElem? (i := 31) rfl))) (mvT hZ (hw _ (List.mem_of_getElem? (i := 32) rfl))) (by decide) (backOf (W := 1) (rm5 l Z a0 hw [] b1 b9 ((p0.toUInt32 >>> ((3 : Int32) &&& 31).toUInt32).toInt32) q2 ti_5 tk_5 tp_5 ky2_17 it2_17 pl2_17 n2_17 T17.heap n0 ZZ19 P17_1 P17_2 P17_3 E_b1_18 P17_0 P17_4 P17_5 P17_6 P17_7 g_ti_5 g_tk_5 g_tp_5 g_b1 g_b9 ne_b1_ti_5 ne_b1_tk_5 ne_b1_tp_5 ne_ti_tk_5 ne_ti_tp_5 ne_tk_tp_5 (Ne.symm ne_b1_b9) (Ne.symm ne_ti_5_b9) (Ne.symm ne_tk_5_b9) (Ne.symm ne_tp_5_b9) P17_8) hZ (hw _ (List.mem_of_getElem? (i := 32) rfl)) (hw _ (List.mem_of_getElem? (i := 31) rfl)) (by decide) (by decide)) (g := (mkF m 46 #[.val (.int p0), .val (.long q1), .second, .val (.long q2), .second, .val (.long q3), .second, .val (.ref b1), .val (.ref b9), .val (.int ((1 : Int32) &&& (1 : Int32)))] [(.long q2), (.int ((p0.toUInt32 >>> ((3 : Int32) &&& 31).toUInt32).toInt32)), (.ref b9), (.ref b1), (.int ((1 : Int32) &&& (1 : Int32)))])) rfl (by rw [hml]; rfl) (argsL := [(.ref b1), (.ref b9), (.int ((p0.toUInt32 >>> ((3 : Int32) &&& 31).toUInt32).toInt32)), (.long q2)]) (rest := [(.int ((1 : Int32) &&& (1 : Int32)))]) (lenOf pd_6 rfl) rfl (by show 2 * 0 + _ ≤ _; exact Nat.le_of_eq rfl) (hb hby at_46) (fun _ _ => ⟨rfl, rfl, (by decide : 5 + 0 ≤ _), (by decide : 16 + 0 ≤ _)⟩)
  dsimp only [Pt.U, Pt.locs, Pt.cells, Pt.slots] at X21 l21 y21 z21 st21 hQ21
  subst y21 z21
  obtain ⟨n2_21, it2_21, pl2_21, ky2_21, rfl, N21q, Kc21, P21_0, P21_1, P21_2, P21_3, P21_4, P21_5, P21_6, P21_7, P21_8⟩ := hQ21
  have N21 := Fr.app N17 N21q
  rw [← l21] at N21
  have E_b1_22 : Exa Z T21.heap b1 "com/example/lean_layers/leanlayers/phase/layering/IndexedHeap" := (E_b1_18).keep Kc21
  have SZ23 : h0.size ≤ T21.heap.size := Nat.le_trans SZ19 Kc21.1
  have ZZ23 : n0 ≤ T21.heap.size := Nat.le_trans Z0 SZ23
  have K24 : Keep h0 T21.heap [] := (K20).trans Kc21 (allS (Or.inr szz_ti_5) (allS (Or.inr szz_tk_5) (allS (Or.inr szz_tp_5) (allS (Or.inr sz_b1) (allS (Or.inr sz_b9) all0)))))
  obtain ⟨_, _, ⟨T25, L25, k25, n25⟩, -, X25, ⟨Lc25, hQ25, l25, y25, z25⟩, st25⟩ := Jvm.LawKit.callS X21 hx (y := (⟨"com/example/lean_layers/leanlayers/phase/layering/IndexedHeapIsEmptyPinLaw", "step", "(Lcom/example/lean_layers/leanlayers/phase/layering/IndexedHeap;[ZIJ)Z"⟩ : MethodName)) hown (mvT hZ (hw _ (List.mem_of_getElem? (i := 29) rfl))) (mvT hZ (hw _ (List.mem_of_getElem? (i := 30) rfl))) (mvT hZ (hw _ (List.mem_of_getElem? (i := 31) rfl))) (mvT hZ (hw _ (List.mem_of_getElem? (i := 32) rfl))) (by decide) (backOf (W := 1) (rm5 l Z a0 hw [] b1 b9 ((p0.toUInt32 >>> ((6 : Int32) &&& 31).toUInt32).toInt32) q3 ti_5 tk_5 tp_5 ky2_21 it2_21 pl2_21 n2_21 T21.heap n0 ZZ23 P21_1 P21_2 P21_3 E_b1_22 P21_0 P21_4 P21_5 P21_6 P21_7 g_ti_5 g_tk_5 g_tp_5 g_b1 g_b9 ne_b1_ti_5 ne_b1_tk_5 ne_b1_tp_5 ne_ti_tk_5 ne_ti_tp_5 ne_tk_tp_5 (Ne.symm ne_b1_b9) (Ne.symm ne_ti_5_b9) (Ne.symm ne_tk_5_b9) (Ne.symm ne_tp_5_b9) P21_8) hZ (hw _ (List.mem_of_getElem? (i := 32) rfl)) (hw _ (List.mem_of_getElem? (i := 31) rfl)) (by decide) (by decide)) (g := (mkF m 64 #[.val (.int p0), .val (.long q1), .second, .val (.long q2), .second, .val (.long q3), .second, .val (.ref b1), .val (.ref b9), .val (.int (((1 : Int32) &&& (1 : Int32)) &&& (1 : Int32)))] [(.long q3), (.int ((p0.toUInt32 >>> ((6 : Int32) &&& 31).toUInt32).toInt32)), (.ref b9), (.ref b1), (.int (((1 : Int32) &&& (1 : Int32)) &&& (1 : Int32)))])) rfl (by rw [hml]; rfl) (argsL := [(.ref b1), (.ref b9), (.int ((p0.toUInt32 >>> ((6 : Int32) &&& 31).toUInt32).toInt32)), (.long q3)]) (rest := [(.int (((1 : Int32) &&& (1 : Int32)) &&& (1 : Int32)))]) (lenOf pd_6 rfl) rfl (by show 2 * 0 + _ ≤ _; exact Nat.le_of_eq rfl) (hb hby at_64) (fun _ _ => ⟨rfl, rfl, (by decide : 5 + 0 ≤ _), (by decide : 16 + 0 ≤ _)⟩)
  dsimp only [Pt.U, Pt.locs, Pt.cells, Pt.slots] at X25 l25 y25 z25 st25 hQ25
  subst y25 z25
  obtain ⟨n2_25, it2_25, pl2_25, ky2_25, rfl, N25q, Kc25, P25_0, P25_1, P25_2, P25_3, P25_4, P25_5, P25_6, P25_7, P25_8⟩ := hQ25
  have N25 := Fr.app N21 N25q
  rw [← l25] at N25
  have E_b1_26 : Exa Z T25.heap b1 "com/example/lean_layers/leanlayers/phase/layering/IndexedHeap" := (E_b1_22).keep Kc25
  have SZ27 : h0.size ≤ T25.heap.size := Nat.le_trans SZ23 Kc25.1
  have ZZ27 : n0 ≤ T25.heap.size := Nat.le_trans Z0 SZ27
  have K28 : Keep h0 T25.heap [] := (K24).trans Kc25 (allS (Or.inr szz_ti_5) (allS (Or.inr szz_tk_5) (allS (Or.inr szz_tp_5) (allS (Or.inr sz_b1) (allS (Or.inr sz_b9) all0)))))
  obtain ⟨_, _, ⟨T29, L29, k29, n29⟩, -, X29, ⟨Lc29, hQ29, l29, y29, z29⟩, st29⟩ := Jvm.LawKit.callS X25 hx (y := (⟨"com/example/lean_layers/leanlayers/phase/layering/IndexedHeapIsEmptyPinLaw", "step", "(Lcom/example/lean_layers/leanlayers/phase/layering/IndexedHeap;[ZIJ)Z"⟩ : MethodName)) hown (mvT hZ (hw _ (List.mem_of_getElem? (i := 29) rfl))) (mvT hZ (hw _ (List.mem_of_getElem? (i := 30) rfl))) (mvT hZ (hw _ (List.mem_of_getElem? (i := 31) rfl))) (mvT hZ (hw _ (List.mem_of_getElem? (i := 32) rfl))) (by decide) (backOf (W := 1) (rm5 l Z a0 hw [] b1 b9 ((p0.toUInt32 >>> ((9 : Int32) &&& 31).toUInt32).toInt32) (q1 ^^^ q3) ti_5 tk_5 tp_5 ky2_25 it2_25 pl2_25 n2_25 T25.heap n0 ZZ27 P25_1 P25_2 P25_3 E_b1_26 P25_0 P25_4 P25_5 P25_6 P25_7 g_ti_5 g_tk_5 g_tp_5 g_b1 g_b9 ne_b1_ti_5 ne_b1_tk_5 ne_b1_tp_5 ne_ti_tk_5 ne_ti_tp_5 ne_tk_tp_5 (Ne.symm ne_b1_b9) (Ne.symm ne_ti_5_b9) (Ne.symm ne_tk_5_b9) (Ne.symm ne_tp_5_b9) P25_8) hZ (hw _ (List.mem_of_getElem? (i := 32) rfl)) (hw _ (List.mem_of_getElem? (i := 31) rfl)) (by decide) (by decide)) (g := (mkF m 84 #[.val (.int p0), .val (.long q1), .second, .val (.long q2), .second, .val (.long q3), .second, .val (.ref b1), .val (.ref b9), .val (.int ((((1 : Int32) &&& (1 : Int32)) &&& (1 : Int32)) &&& (1 : Int32)))] [(.long (q1 ^^^ q3)), (.int ((p0.toUInt32 >>> ((9 : Int32) &&& 31).toUInt32).toInt32)), (.ref b9), (.ref b1), (.int ((((1 : Int32) &&& (1 : Int32)) &&& (1 : Int32)) &&& (1 : Int32)))])) rfl (by rw [hml]; rfl) (argsL := [(.ref b1), (.ref b9), (.int ((p0.toUInt32 >>> ((9 : Int32) &&& 31).toUInt32).toInt32)), (.long (q1 ^^^ q3))]) (rest := [(.int ((((1 : Int32) &&& (1 : Int32)) &&& (1 : Int32)) &&& (1 : Int32)))]) (lenOf pd_6 rfl) rfl (by show 2 * 0 + _ ≤ _; exact Nat.le_of_eq rfl) (hb hby at_84) (fun _ _ => ⟨rfl, rfl, (by decide : 5 + 0 ≤ _), (by decide : 16 + 0 ≤ _)⟩)
  dsimp only [Pt.U, Pt.locs, Pt.cells, Pt.slots] at X29 l29 y29 z29 st29 hQ29
  subst y29 z29
  obtain ⟨n2_29, it2_29, pl2_29, ky2_29, rfl, N29q, Kc29, P29_0, P29_1, P29_2, P29_3, P29_4, P29_5, P29_6, P29_7, P29_8⟩ := hQ29
  have N29 := Fr.app N25 N29q
  rw [← l29] at N29
  have E_b1_30 : Exa Z T29.heap b1 "com/example/lean_layers/leanlayers/phase/layering/IndexedHeap" := (E_b1_26).keep Kc29
  have SZ31 : h0.size ≤ T29.heap.size := Nat.le_trans SZ27 Kc29.1
  have ZZ31 : n0 ≤ T29.heap.size := Nat.le_trans Z0 SZ31
  have K32 : Keep h0 T29.heap [] := (K28).trans Kc29 (allS (Or.inr szz_ti_5) (allS (Or.inr szz_tk_5) (allS (Or.inr szz_tp_5) (allS (Or.inr sz_b1) (allS (Or.inr sz_b9) all0)))))
  have pre33 : ∀ t, Steps p.tables e below (T29.setTop (mkF m 92 #[.val (.int p0), .val (.long q1), .second, .val (.long q2), .second, .val (.long q3), .second, .val (.ref b1), .val (.ref b9), .val (.int (((((1 : Int32) &&& (1 : Int32)) &&& (1 : Int32)) &&& (1 : Int32)) &&& (1 : Int32)))] [(.int (((((1 : Int32) &&& (1 : Int32)) &&& (1 : Int32)) &&& (1 : Int32)) &&& (1 : Int32)))])) t → Steps p.tables e below (s₁.setTop (entryFrame m #[(.int p0), (.long q1), (.long q2), (.long q3)] maxLocals)) t := fun t k => pre16 t (by
    show Steps p.tables e below (T14.setTop (mkF m 20 #[.val (.int p0), .val (.long q1), .second, .val (.long q2), .second, .val (.long q3), .second, .val (.ref b1), .val (.ref b9), .unset] [(.int (1 : Int32))])) _
    refine XS.istore X14.here hx rfl (hb hby at_20) rfl (l' := #[.val (.int p0), .val (.long q1), .second, .val (.long q2), .second, .val (.long q3), .second, .val (.ref b1), .val (.ref b9), .val (.int (1 : Int32))]) rfl ?_
    show Steps p.tables e below (T14.setTop (mkF m 22 #[.val (.int p0), .val (.long q1), .second, .val (.long q2), .second, .val (.long q3), .second, .val (.ref b1), .val (.ref b9), .val (.int (1 : Int32))] [])) _
    refine XS.iload X14.here hx rfl (hb hby at_22) rfl ?_
    show Steps p.tables e below (T14.setTop (mkF m 24 #[.val (.int p0), .val (.long q1), .second, .val (.long q2), .second, .val (.long q3), .second, .val (.ref b1), .val (.ref b9), .val (.int (1 : Int32))] [(.int (1 : Int32))])) _
    refine XS.aload X14.here hx rfl (hb hby at_24) rfl rfl ?_
    show Steps p.tables e below (T14.setTop (mkF m 26 #[.val (.int p0), .val (.long q1), .second, .val (.long q2), .second, .val (.long q3), .second, .val (.ref b1), .val (.ref b9), .val (.int (1 : Int32))] [(.ref b1), (.int (1 : Int32))])) _
    refine XS.aload X14.here hx rfl (hb hby at_26) rfl rfl ?_
    show Steps p.tables e below (T14.setTop (mkF m 28 #[.val (.int p0), .val (.long q1), .second, .val (.long q2), .second, .val (.long q3), .second, .val (.ref b1), .val (.ref b9), .val (.int (1 : Int32))] [(.ref b9), (.ref b1), (.int (1 : Int32))])) _
    refine XS.iloadN X14.here hx rfl (hb hby at_28) rfl ?_
    show Steps p.tables e below (T14.setTop (mkF m 29 #[.val (.int p0), .val (.long q1), .second, .val (.long q2), .second, .val (.long q3), .second, .val (.ref b1), .val (.ref b9), .val (.int (1 : Int32))] [(.int p0), (.ref b9), (.ref b1), (.int (1 : Int32))])) _
    refine XS.lloadN X14.here hx rfl (hb hby at_29) rfl ?_
    show Steps p.tables e below (T14.setTop (mkF m 30 #[.val (.int p0), .val (.long q1), .second, .val (.long q2), .second, .val (.long q3), .second, .val (.ref b1), .val (.ref b9), .val (.int (1 : Int32))] [(.long q1), (.int p0), (.ref b9), (.ref b1), (.int (1 : Int32))])) _
    refine st17 _ ?_
    show Steps p.tables e below (T17.setTop (mkF m 33 #[.val (.int p0), .val (.long q1), .second, .val (.long q2), .second, .val (.long q3), .second, .val (.ref b1), .val (.ref b9), .val (.int (1 : Int32))] [(.int (1 : Int32)), (.int (1 : Int32))])) _
    refine XS.iand X17.here hx rfl (hb hby at_33) rfl ?_
    show Steps p.tables e below (T17.setTop (mkF m 34 #[.val (.int p0), .val (.long q1), .second, .val (.long q2), .second, .val (.long q3), .second, .val (.ref b1), .val (.ref b9), .val (.int (1 : Int32))] [(.int ((1 : Int32) &&& (1 : Int32)))])) _
    refine XS.istore X17.here hx rfl (hb hby at_34) rfl (l' := #[.val (.int p0), .val (.long q1), .second, .val (.long q2), .second, .val (.long q3), .second, .val (.ref b1), .val (.ref b9), .val (.int ((1 : Int32) &&& (1 : Int32)))]) rfl ?_
    show Steps p.tables e below (T17.setTop (mkF m 36 #[.val (.int p0), .val (.long q1), .second, .val (.long q2), .second, .val (.long q3), .second, .val (.ref b1), .val (.ref b9), .val (.int ((1 : Int32) &&& (1 : Int32)))] [])) _
    refine XS.iload X17.here hx rfl (hb hby at_36) rfl ?_
    show Steps p.tables e below (T17.setTop (mkF m 38 #[.val (.int p0), .val (.long q1), .second, .val (.long q2), .second, .val (.long q3), .second, .val (.ref b1), .val (.ref b9), .val (.int ((1 : Int32) &&& (1 : Int32)))] [(.int ((1 : Int32) &&& (1 : Int32)))])) _
    refine XS.aload X17.here hx rfl (hb hby at_38) rfl rfl ?_
    show Steps p.tables e below (T17.setTop (mkF m 40 #[.val (.int p0), .val (.long q1), .second, .val (.long q2), .second, .val (.long q3), .second, .val (.ref b1), .val (.ref b9), .val (.int ((1 : Int32) &&& (1 : Int32)))] [(.ref b1), (.int ((1 : Int32) &&& (1 : Int32)))])) _
    refine XS.aload X17.here hx rfl (hb hby at_40) rfl rfl ?_
    show Steps p.tables e below (T17.setTop (mkF m 42 #[.val (.int p0), .val (.long q1), .second, .val (.long q2), .second, .val (.long q3), .second, .val (.ref b1), .val (.ref b9), .val (.int ((1 : Int32) &&& (1 : Int32)))] [(.ref b9), (.ref b1), (.int ((1 : Int32) &&& (1 : Int32)))])) _
    refine XS.iloadN X17.here hx rfl (hb hby at_42) rfl ?_
    show Steps p.tables e below (T17.setTop (mkF m 43 #[.val (.int p0), .val (.long q1), .second, .val (.long q2), .second, .val (.long q3), .second, .val (.ref b1), .val (.ref b9), .val (.int ((1 : Int32) &&& (1 : Int32)))] [(.int p0), (.ref b9), (.ref b1), (.int ((1 : Int32) &&& (1 : Int32)))])) _
    refine XS.iconst X17.here hx rfl (hb hby at_43) ?_
    show Steps p.tables e below (T17.setTop (mkF m 44 #[.val (.int p0), .val (.long q1), .second, .val (.long q2), .second, .val (.long q3), .second, .val (.ref b1), .val (.ref b9), .val (.int ((1 : Int32) &&& (1 : Int32)))] [(.int (3 : Int32)), (.int p0), (.ref b9), (.ref b1), (.int ((1 : Int32) &&& (1 : Int32)))])) _
    refine XS.iushr X17.here hx rfl (hb hby at_44) rfl ?_
    show Steps p.tables e below (T17.setTop (mkF m 45 #[.val (.int p0), .val (.long q1), .second, .val (.long q2), .second, .val (.long q3), .second, .val (.ref b1), .val (.ref b9), .val (.int ((1 : Int32) &&& (1 : Int32)))] [(.int ((p0.toUInt32 >>> ((3 : Int32) &&& 31).toUInt32).toInt32)), (.ref b9), (.ref b1), (.int ((1 : Int32) &&& (1 : Int32)))])) _
    refine XS.lloadN X17.here hx rfl (hb hby at_45) rfl ?_
    show Steps p.tables e below (T17.setTop (mkF m 46 #[.val (.int p0), .val (.long q1), .second, .val (.long q2), .second, .val (.long q3), .second, .val (.ref b1), .val (.ref b9), .val (.int ((1 : Int32) &&& (1 : Int32)))] [(.long q2), (.int ((p0.toUInt32 >>> ((3 : Int32) &&& 31).toUInt32).toInt32)), (.ref b9), (.ref b1), (.int ((1 : Int32) &&& (1 : Int32)))])) _
    refine st21 _ ?_
    show Steps p.tables e below (T21.setTop (mkF m 49 #[.val (.int p0), .val (.long q1), .second, .val (.long q2), .second, .val (.long q3), .second, .val (.ref b1), .val (.ref b9), .val (.int ((1 : Int32) &&& (1 : Int32)))] [(.int (1 : Int32)), (.int ((1 : Int32) &&& (1 : Int32)))])) _
    refine XS.iand X21.here hx rfl (hb hby at_49) rfl ?_
    show Steps p.tables e below (T21.setTop (mkF m 50 #[.val (.int p0), .val (.long q1), .second, .val (.long q2), .second, .val (.long q3), .second, .val (.ref b1), .val (.ref b9), .val (.int ((1 : Int32) &&& (1 : Int32)))] [(.int (((1 : Int32) &&& (1 : Int32)) &&& (1 : Int32)))])) _
    refine XS.istore X21.here hx rfl (hb hby at_50) rfl (l' := #[.val (.int p0), .val (.long q1), .second, .val (.long q2), .second, .val (.long q3), .second, .val (.ref b1), .val (.ref b9), .val (.int (((1 : Int32) &&& (1 : Int32)) &&& (1 : Int32)))]) rfl ?_
    show Steps p.tables e below (T21.setTop (mkF m 52 #[.val (.int p0), .val (.long q1), .second, .val (.long q2), .second, .val (.long q3), .second, .val (.ref b1), .val (.ref b9), .val (.int (((1 : Int32) &&& (1 : Int32)) &&& (1 : Int32)))] [])) _
    refine XS.iload X21.here hx rfl (hb hby at_52) rfl ?_
    show Steps p.tables e below (T21.setTop (mkF m 54 #[.val (.int p0), .val (.long q1), .second, .val (.long q2), .second, .val (.long q3), .second, .val (.ref b1), .val (.ref b9), .val (.int (((1 : Int32) &&& (1 : Int32)) &&& (1 : Int32)))] [(.int (((1 : Int32) &&& (1 : Int32)) &&& (1 : Int32)))])) _
    refine XS.aload X21.here hx rfl (hb hby at_54) rfl rfl ?_
    show Steps p.tables e below (T21.setTop (mkF m 56 #[.val (.int p0), .val (.long q1), .second, .val (.long q2), .second, .val (.long q3), .second, .val (.ref b1), .val (.ref b9), .val (.int (((1 : Int32) &&& (1 : Int32)) &&& (1 : Int32)))] [(.ref b1), (.int (((1 : Int32) &&& (1 : Int32)) &&& (1 : Int32)))])) _
    refine XS.aload X21.here hx rfl (hb hby at_56) rfl rfl ?_
    show Steps p.tables e below (T21.setTop (mkF m 58 #[.val (.int p0), .val (.long q1), .second, .val (.long q2), .second, .val (.long q3), .second, .val (.ref b1), .val (.ref b9), .val (.int (((1 : Int32) &&& (1 : Int32)) &&& (1 : Int32)))] [(.ref b9), (.ref b1), (.int (((1 : Int32) &&& (1 : Int32)) &&& (1 : Int32)))])) _
    refine XS.iloadN X21.here hx rfl (hb hby at_58) rfl ?_
    show Steps p.tables e below (T21.setTop (mkF m 59 #[.val (.int p0), .val (.long q1), .second, .val (.long q2), .second, .val (.long q3), .second, .val (.ref b1), .val (.ref b9), .val (.int (((1 : Int32) &&& (1 : Int32)) &&& (1 : Int32)))] [(.int p0), (.ref b9), (.ref b1), (.int (((1 : Int32) &&& (1 : Int32)) &&& (1 : Int32)))])) _
    refine XS.bipush X21.here hx rfl (hb hby at_59) ?_
    show Steps p.tables e below (T21.setTop (mkF m 61 #[.val (.int p0), .val (.long q1), .second, .val (.long q2), .second, .val (.long q3), .second, .val (.ref b1), .val (.ref b9), .val (.int (((1 : Int32) &&& (1 : Int32)) &&& (1 : Int32)))] [(.int (6 : Int32)), (.int p0), (.ref b9), (.ref b1), (.int (((1 : Int32) &&& (1 : Int32)) &&& (1 : Int32)))])) _
    refine XS.iushr X21.here hx rfl (hb hby at_61) rfl ?_
    show Steps p.tables e below (T21.setTop (mkF m 62 #[.val (.int p0), .val (.long q1), .second, .val (.long q2), .second, .val (.long q3), .second, .val (.ref b1), .val (.ref b9), .val (.int (((1 : Int32) &&& (1 : Int32)) &&& (1 : Int32)))] [(.int ((p0.toUInt32 >>> ((6 : Int32) &&& 31).toUInt32).toInt32)), (.ref b9), (.ref b1), (.int (((1 : Int32) &&& (1 : Int32)) &&& (1 : Int32)))])) _
    refine XS.lload X21.here hx rfl (hb hby at_62) rfl ?_
    show Steps p.tables e below (T21.setTop (mkF m 64 #[.val (.int p0), .val (.long q1), .second, .val (.long q2), .second, .val (.long q3), .second, .val (.ref b1), .val (.ref b9), .val (.int (((1 : Int32) &&& (1 : Int32)) &&& (1 : Int32)))] [(.long q3), (.int ((p0.toUInt32 >>> ((6 : Int32) &&& 31).toUInt32).toInt32)), (.ref b9), (.ref b1), (.int (((1 : Int32) &&& (1 : Int32)) &&& (1 : Int32)))])) _
    refine st25 _ ?_
    show Steps p.tables e below (T25.setTop (mkF m 67 #[.val (.int p0), .val (.long q1), .second, .val (.long q2), .second, .val (.long q3), .second, .val (.ref b1), .val (.ref b9), .val (.int (((1 : Int32) &&& (1 : Int32)) &&& (1 : Int32)))] [(.int (1 : Int32)), (.int (((1 : Int32) &&& (1 : Int32)) &&& (1 : Int32)))])) _
    refine XS.iand X25.here hx rfl (hb hby at_67) rfl ?_
    show Steps p.tables e below (T25.setTop (mkF m 68 #[.val (.int p0), .val (.long q1), .second, .val (.long q2), .second, .val (.long q3), .second, .val (.ref b1), .val (.ref b9), .val (.int (((1 : Int32) &&& (1 : Int32)) &&& (1 : Int32)))] [(.int ((((1 : Int32) &&& (1 : Int32)) &&& (1 : Int32)) &&& (1 : Int32)))])) _
    refine XS.istore X25.here hx rfl (hb hby at_68) rfl (l' := #[.val (.int p0), .val (.long q1), .second, .val (.long q2), .second, .val (.long q3), .second, .val (.ref b1), .val (.ref b9), .val (.int ((((1 : Int32) &&& (1 : Int32)) &&& (1 : Int32)) &&& (1 : Int32)))]) rfl ?_
    show Steps p.tables e below (T25.setTop (mkF m 70 #[.val (.int p0), .val (.long q1), .second, .val (.long q2), .second, .val (.long q3), .second, .val (.ref b1), .val (.ref b9), .val (.int ((((1 : Int32) &&& (1 : Int32)) &&& (1 : Int32)) &&& (1 : Int32)))] [])) _
    refine XS.iload X25.here hx rfl (hb hby at_70) rfl ?_
    show Steps p.tables e below (T25.setTop (mkF m 72 #[.val (.int p0), .val (.long q1), .second, .val (.long q2), .second, .val (.long q3), .second, .val (.ref b1), .val (.ref b9), .val (.int ((((1 : Int32) &&& (1 : Int32)) &&& (1 : Int32)) &&& (1 : Int32)))] [(.int ((((1 : Int32) &&& (1 : Int32)) &&& (1 : Int32)) &&& (1 : Int32)))])) _
    refine XS.aload X25.here hx rfl (hb hby at_72) rfl rfl ?_
    show Steps p.tables e below (T25.setTop (mkF m 74 #[.val (.int p0), .val (.long q1), .second, .val (.long q2), .second, .val (.long q3), .second, .val (.ref b1), .val (.ref b9), .val (.int ((((1 : Int32) &&& (1 : Int32)) &&& (1 : Int32)) &&& (1 : Int32)))] [(.ref b1), (.int ((((1 : Int32) &&& (1 : Int32)) &&& (1 : Int32)) &&& (1 : Int32)))])) _
    refine XS.aload X25.here hx rfl (hb hby at_74) rfl rfl ?_
    show Steps p.tables e below (T25.setTop (mkF m 76 #[.val (.int p0), .val (.long q1), .second, .val (.long q2), .second, .val (.long q3), .second, .val (.ref b1), .val (.ref b9), .val (.int ((((1 : Int32) &&& (1 : Int32)) &&& (1 : Int32)) &&& (1 : Int32)))] [(.ref b9), (.ref b1), (.int ((((1 : Int32) &&& (1 : Int32)) &&& (1 : Int32)) &&& (1 : Int32)))])) _
    refine XS.iloadN X25.here hx rfl (hb hby at_76) rfl ?_
    show Steps p.tables e below (T25.setTop (mkF m 77 #[.val (.int p0), .val (.long q1), .second, .val (.long q2), .second, .val (.long q3), .second, .val (.ref b1), .val (.ref b9), .val (.int ((((1 : Int32) &&& (1 : Int32)) &&& (1 : Int32)) &&& (1 : Int32)))] [(.int p0), (.ref b9), (.ref b1), (.int ((((1 : Int32) &&& (1 : Int32)) &&& (1 : Int32)) &&& (1 : Int32)))])) _
    refine XS.bipush X25.here hx rfl (hb hby at_77) ?_
    show Steps p.tables e below (T25.setTop (mkF m 79 #[.val (.int p0), .val (.long q1), .second, .val (.long q2), .second, .val (.long q3), .second, .val (.ref b1), .val (.ref b9), .val (.int ((((1 : Int32) &&& (1 : Int32)) &&& (1 : Int32)) &&& (1 : Int32)))] [(.int (9 : Int32)), (.int p0), (.ref b9), (.ref b1), (.int ((((1 : Int32) &&& (1 : Int32)) &&& (1 : Int32)) &&& (1 : Int32)))])) _
    refine XS.iushr X25.here hx rfl (hb hby at_79) rfl ?_
    show Steps p.tables e below (T25.setTop (mkF m 80 #[.val (.int p0), .val (.long q1), .second, .val (.long q2), .second, .val (.long q3), .second, .val (.ref b1), .val (.ref b9), .val (.int ((((1 : Int32) &&& (1 : Int32)) &&& (1 : Int32)) &&& (1 : Int32)))] [(.int ((p0.toUInt32 >>> ((9 : Int32) &&& 31).toUInt32).toInt32)), (.ref b9), (.ref b1), (.int ((((1 : Int32) &&& (1 : Int32)) &&& (1 : Int32)) &&& (1 : Int32)))])) _
    refine XS.lloadN X25.here hx rfl (hb hby at_80) rfl ?_
    show Steps p.tables e below (T25.setTop (mkF m 81 #[.val (.int p0), .val (.long q1), .second, .val (.long q2), .second, .val (.long q3), .second, .val (.ref b1), .val (.ref b9), .val (.int ((((1 : Int32) &&& (1 : Int32)) &&& (1 : Int32)) &&& (1 : Int32)))] [(.long q1), (.int ((p0.toUInt32 >>> ((9 : Int32) &&& 31).toUInt32).toInt32)), (.ref b9), (.ref b1), (.int ((((1 : Int32) &&& (1 : Int32)) &&& (1 : Int32)) &&& (1 : Int32)))])) _
    refine XS.lload X25.here hx rfl (hb hby at_81) rfl ?_
    show Steps p.tables e below (T25.setTop (mkF m 83 #[.val (.int p0), .val (.long q1), .second, .val (.long q2), .second, .val (.long q3), .second, .val (.ref b1), .val (.ref b9), .val (.int ((((1 : Int32) &&& (1 : Int32)) &&& (1 : Int32)) &&& (1 : Int32)))] [(.long q3), (.long q1), (.int ((p0.toUInt32 >>> ((9 : Int32) &&& 31).toUInt32).toInt32)), (.ref b9), (.ref b1), (.int ((((1 : Int32) &&& (1 : Int32)) &&& (1 : Int32)) &&& (1 : Int32)))])) _
    refine XS.lxor X25.here hx rfl (hb hby at_83) rfl ?_
    show Steps p.tables e below (T25.setTop (mkF m 84 #[.val (.int p0), .val (.long q1), .second, .val (.long q2), .second, .val (.long q3), .second, .val (.ref b1), .val (.ref b9), .val (.int ((((1 : Int32) &&& (1 : Int32)) &&& (1 : Int32)) &&& (1 : Int32)))] [(.long (q1 ^^^ q3)), (.int ((p0.toUInt32 >>> ((9 : Int32) &&& 31).toUInt32).toInt32)), (.ref b9), (.ref b1), (.int ((((1 : Int32) &&& (1 : Int32)) &&& (1 : Int32)) &&& (1 : Int32)))])) _
    refine st29 _ ?_
    show Steps p.tables e below (T29.setTop (mkF m 87 #[.val (.int p0), .val (.long q1), .second, .val (.long q2), .second, .val (.long q3), .second, .val (.ref b1), .val (.ref b9), .val (.int ((((1 : Int32) &&& (1 : Int32)) &&& (1 : Int32)) &&& (1 : Int32)))] [(.int (1 : Int32)), (.int ((((1 : Int32) &&& (1 : Int32)) &&& (1 : Int32)) &&& (1 : Int32)))])) _
    refine XS.iand X29.here hx rfl (hb hby at_87) rfl ?_
    show Steps p.tables e below (T29.setTop (mkF m 88 #[.val (.int p0), .val (.long q1), .second, .val (.long q2), .second, .val (.long q3), .second, .val (.ref b1), .val (.ref b9), .val (.int ((((1 : Int32) &&& (1 : Int32)) &&& (1 : Int32)) &&& (1 : Int32)))] [(.int (((((1 : Int32) &&& (1 : Int32)) &&& (1 : Int32)) &&& (1 : Int32)) &&& (1 : Int32)))])) _
    refine XS.istore X29.here hx rfl (hb hby at_88) rfl (l' := #[.val (.int p0), .val (.long q1), .second, .val (.long q2), .second, .val (.long q3), .second, .val (.ref b1), .val (.ref b9), .val (.int (((((1 : Int32) &&& (1 : Int32)) &&& (1 : Int32)) &&& (1 : Int32)) &&& (1 : Int32)))]) rfl ?_
    show Steps p.tables e below (T29.setTop (mkF m 90 #[.val (.int p0), .val (.long q1), .second, .val (.long q2), .second, .val (.long q3), .second, .val (.ref b1), .val (.ref b9), .val (.int (((((1 : Int32) &&& (1 : Int32)) &&& (1 : Int32)) &&& (1 : Int32)) &&& (1 : Int32)))] [])) _
    refine XS.iload X29.here hx rfl (hb hby at_90) rfl ?_
    show Steps p.tables e below (T29.setTop (mkF m 92 #[.val (.int p0), .val (.long q1), .second, .val (.long q2), .second, .val (.long q3), .second, .val (.ref b1), .val (.ref b9), .val (.int (((((1 : Int32) &&& (1 : Int32)) &&& (1 : Int32)) &&& (1 : Int32)) &&& (1 : Int32)))] [(.int (((((1 : Int32) &&& (1 : Int32)) &&& (1 : Int32)) &&& (1 : Int32)) &&& (1 : Int32)))])) _
    exact k)
  obtain ⟨fs, hr, hrun, hended, hW, hsame⟩ := X29.leave (v := some (.int ((((((1 : Int32) &&& (1 : Int32)) &&& (1 : Int32)) &&& (1 : Int32)) &&& (1 : Int32)) &&& 1))) (fun h => by rw [Bd.returns] at h; cases h)
  refine ⟨_, _, pre33 _ ?_, hrun, hended, _, _, rfl, ?_, ⟨_, rfl⟩, hW, hsame.mono (by decide) (by decide)⟩
  · exact retN X29 hx (t := .boolean) Bd.returns (by simp) (hb hby at_92) hr
  · show Q0 Z p0 q1 q2 q3 h0 n0 _ T29.heap _
    skip
    exact ⟨rfl, N29⟩
set_option maxRecDepth 65536 in
set_option maxHeartbeats 40000000 in
theorem comes_1 {Post : Tables → Env → Array Value → State → Outcome → State → Prop} (hpost : ∀ tb e args s v u, (limb_1_1.after args s (.returned v) u = true ∧ limb_1_2.after args s (.returned v) u = true ∧ True) → FrameEnd s (.returned v) u (Jvm.fieldLocs frame_1_writes args s ++ Jvm.arrayLocs frame_1_arrays args s ++ Jvm.staticLocs frame_1_statics s) 24 128 → Post tb e args s (.returned v) u) :
    ArmFor flags0 classFile x code maxLocals ret World_1 tables_1 room_1 Calls_1 rest_1 Pre_1 Post := by
  intro l hfl _ _ p e ha hc hk s m args below hf hA hF happ hP
  obtain ⟨hcalls, hrest, hpre⟩ := hP
  obtain ⟨-, -, -, hnamed, -, -, -, hat⟩ := (Spec.applies_iff hf).mp happ
  obtain ⟨hg, hn⟩ := and_e (Cond.before_iff.mp (show (Jvm.Cond.and given_1 narrow_1).before args s = true from hpre))
  obtain ⟨h1, g0⟩ := and_e hg
  obtain ⟨u0, g1⟩ := and_e g0
  obtain ⟨u1, g2⟩ := and_e g1
  obtain ⟨u2, g3⟩ := and_e g2
  obtain ⟨w0, w1, w2, w3, rfl⟩ : ∃ w0 w1 w2 w3 : Value, args = #[w0, w1, w2, w3] := by
    have hs : args.size = 4 := by simpa [Cond.value, given_1] using h1
    obtain ⟨L⟩ := args
    match L, hs with
    | [w0, w1, w2, w3], _ => exact ⟨w0, w1, w2, w3, rfl⟩
  have hw := fun d (hd : d ∈ tables_1) => atoms_spec (ws := Jvm.Cond.code x code maxLocals ret :: tables_1) hat d (List.mem_cons_of_mem _ hd)
  have hfit : Fit s := fun {y c} hc i hi => by
    obtain ⟨ha, rfl⟩ := Array.getElem?_eq_some_iff.mp hc
    have q := List.all_eq_true.mp ((Array.all_eq_true_iff_forall_mem.mp hF) _ (Array.getElem_mem ha)) i (List.mem_range.mpr hi)
    simpa [Array.getElem?_eq_getElem hi] using q
  obtain ⟨i0, e0⟩ := is_v u0
  obtain rfl : w0 = (.int i0) := Option.some.inj e0
  obtain ⟨i1, e1⟩ := isL_v u1
  obtain rfl : w1 = (.long i1) := Option.some.inj e1
  obtain ⟨i2, e2⟩ := isL_v u2
  obtain rfl : w2 = (.long i2) := Option.some.inj e2
  obtain ⟨i3, e3⟩ := isL_v g3
  obtain rfl : w3 = (.long i3) := Option.some.inj e3
  obtain ⟨n, o, h1, h2, h3, _, L, rfl, ⟨rfl, N⟩, hq⟩ := rm0 l s _ hw tables_1 i0 i1 i2 i3  s.heap s.heap.size (Nat.le_refl _)  p e ha hc hk s m _ below hf ((Spec.applies_iff_loose hf).mp happ).1 ⟨rfl, State.Warmed39.refl s, rfl⟩ trivial
  refine ⟨n, _, h1, h2, h3, hpost _ _ _ _ _ _ ⟨Cond.after_iff.mpr rfl, Cond.after_iff.mpr (eq_i res_at (Term.int_eval (1)) rfl), trivial⟩ ⟨hq.1, hq.2.1, (hq.2.2.sift fun y hy => Or.inr (N y hy)).mono (by decide) (by decide)⟩⟩
theorem main_1_1 : Claimed_1_1 := comes_1 fun _ _ _ _ _ _ h hF => ⟨h.1, hF⟩
theorem main_1_2 : Claimed_1_2 := comes_1 fun _ _ _ _ _ _ h hF => ⟨h.2.1, hF⟩
end Jvm.Pilot.@@N@@
namespace Jvm.Pilot.@@N@@
open Jvm Jvm.ClassFile Sem Op Lib Jvm.Free Jvm.Stand Jvm.Pilot.@@N@@.Jvm.D
/-! MADE BY PROGRAM (witnessworld.py) out of the Statement's table words and the real class files: 14 classes; the members and pool entries that the words name. The judged class is class 1, her method 1. -/
namespace start1
open Jvm.ClassFile
def u (s : String) : CpInfo := .utf8 (stringToUtf16 s)
/-- a pool by its gaps: so many unusable entries, then the entry; so many at the end -/
def gap : Nat → List CpInfo → List CpInfo
  | 0, r => r
  | n + 1, r => .unusable :: gap n r
def poolList (es : List (Nat × CpInfo)) (last : Nat) : List CpInfo := es.foldr (fun e r => gap e.1 (e.2 :: r)) (gap last [])
def pool (es : List (Nat × CpInfo)) (last : Nat) : Array CpInfo := ⟨poolList es last⟩
def fileOf (pool : Array CpInfo) (this : Nat) (attrs : Array Attribute := #[]) (ms : Array MethodInfo := #[]) (fl : Nat := 33) (sup : Nat := 0) (ifs : Array Nat := #[]) (fds : Array FieldInfo := #[]) : ClassFile where
  minorVersion := 0
  majorVersion := 65
  constantPool := pool
  accessFlags := fl
  thisClass := this
  superClass := sup
  interfaces := ifs
  fields := fds
  methods := ms
  attributes := attrs
def plain (name : String) (sup : Option ClassId) : Class where
  name := name
  kind := .ordinary
  loader := none
  accessFlags := 33
  super := sup
  interfaces := #[]
  cf := none
  fields := #[]
  methods := #[]
  instanceTypes := #[]
  staticTypes := #[]
  resolved := #[]
  callSites := []
  init := .initialized
  statics := none
  mirror := none

def pool0 : Array CpInfo := pool [(5, u "<init>"), (0, u "()V"), (1, .class_ 10), (1, u "java/lang/Object")] 113

def k0c0 : Code := { maxStack := 0, maxLocals := 1, code := object_method_1_code, exceptionTable := #[], attributes := #[] }
def k0m0 : Method := { name := "<init>", desc := "()V", sig := { parameters := [], returnType := none }, accessFlags := 1, code := some k0c0 }
/-- java/lang/Object -/
def k0 : Class := { plain "java/lang/Object" none with
  accessFlags := 33
  interfaces := #[]
  cf := some (fileOf pool0 8 #[] #[{ accessFlags := 1, nameIndex := 5, descriptorIndex := 6, attributes := #[] }] 33 0 #[] #[])
  fields := #[]
  methods := #[k0m0]
  instanceTypes := #[]
  staticTypes := #[]
  resolved := Array.replicate 124 none
  statics := none }

def pool1 : Array CpInfo := pool [(2, .class_ 4), (1, u "java/lang/Object"), (0, u "<init>"), (0, u "()V"), (0, .class_ 8), (0, u "com/example/lean_layers/leanlayers/phase/layering/IndexedHeap"), (0, .methodref 7 10), (0, .nameAndType 5 11), (0, u "(I)V"), (0, .methodref 7 13), (0, .nameAndType 14 15), (0, u "isEmpty"), (0, u "()Z"), (0, .methodref 17 18), (0, .class_ 19), (0, .nameAndType 20 21), (0, u "com/example/lean_layers/leanlayers/phase/layering/IndexedHeapIsEmptyPinLaw"), (0, u "step"), (0, u "(Lcom/example/lean_layers/leanlayers/phase/layering/IndexedHeap;[ZIJ)Z"), (0, .methodref 7 23), (0, .nameAndType 24 25), (0, u "put"), (0, u "(IJ)V"), (0, .methodref 7 27), (0, .nameAndType 28 11), (0, u "remove"), (2, u "law"), (0, u "(IJJJ)Z")] 3

def k1m0 : Method := { name := "<init>", desc := "()V", sig := { parameters := [], returnType := none }, accessFlags := 1, code := none }
def k1c1 : Code := { maxStack := 8, maxLocals := 10, code := code, exceptionTable := #[], attributes := #[] }
def k1m1 : Method := { name := "law", desc := "(IJJJ)Z", sig := { parameters := [.int, .long, .long, .long], returnType := some .boolean }, accessFlags := 9, code := some k1c1 }
def k1c2 : Code := { maxStack := 4, maxLocals := 7, code := method_3_code, exceptionTable := #[], attributes := #[] }
def k1m2 : Method := { name := "step", desc := "(Lcom/example/lean_layers/leanlayers/phase/layering/IndexedHeap;[ZIJ)Z", sig := { parameters := [(.object "com/example/lean_layers/leanlayers/phase/layering/IndexedHeap"), (.array .boolean), .int, .long], returnType := some .boolean }, accessFlags := 10, code := some k1c2 }
/-- com/example/lean_layers/leanlayers/phase/layering/IndexedHeapIsEmptyPinLaw -/
def k1 : Class := { plain "com/example/lean_layers/leanlayers/phase/layering/IndexedHeapIsEmptyPinLaw" (some 0) with
  accessFlags := 49
  interfaces := #[]
  cf := some (fileOf pool1 17 #[] #[{ accessFlags := 1, nameIndex := 5, descriptorIndex := 6, attributes := #[] }, { accessFlags := 9, nameIndex := 31, descriptorIndex := 32, attributes := #[] }, { accessFlags := 10, nameIndex := 20, descriptorIndex := 21, attributes := #[] }] 49 2 #[] #[])
  fields := #[]
  methods := #[k1m0, k1m1, k1m2]
  instanceTypes := #[]
  staticTypes := #[]
  resolved := Array.replicate 36 none
  statics := none }

def pool2 : Array CpInfo := pool [(1, .methodref 2 3), (0, .class_ 4), (0, .nameAndType 5 6), (0, u "java/lang/Object"), (0, u "<init>"), (0, u "()V"), (0, .fieldref 8 9), (0, .class_ 10), (0, .nameAndType 11 12), (0, u "com/example/lean_layers/leanlayers/phase/layering/IndexedHeap"), (0, u "items"), (0, u "[I"), (0, .fieldref 8 14), (0, .nameAndType 15 16), (0, u "keys"), (0, u "[J"), (0, .fieldref 8 18), (0, .nameAndType 19 12), (0, u "place"), (0, .methodref 21 22), (0, .class_ 23), (0, .nameAndType 24 25), (0, u "java/util/Arrays"), (0, u "fill"), (0, u "([II)V"), (0, .fieldref 8 27), (0, .nameAndType 28 29), (0, u "size"), (0, u "I"), (11, .methodref 8 42), (0, .nameAndType 43 44), (0, u "siftUp"), (0, u "(I)V"), (0, .methodref 8 46), (0, .nameAndType 47 44), (0, u "siftDown"), (0, .methodref 8 49), (0, .nameAndType 50 51), (0, u "before"), (0, u "(II)Z"), (0, .methodref 8 53), (0, .nameAndType 54 55), (0, u "setAt"), (0, u "(II)V"), (2, u "isEmpty"), (0, u "()Z"), (3, u "put"), (0, u "(IJ)V"), (0, u "remove")] 3

def k2c0 : Code := { maxStack := 2, maxLocals := 2, code := prog_55_method_1_code, exceptionTable := #[], attributes := #[] }
def k2m0 : Method := { name := "<init>", desc := "(I)V", sig := { parameters := [.int], returnType := none }, accessFlags := 0, code := some k2c0 }
def k2c1 : Code := { maxStack := 1, maxLocals := 1, code := prog_55_method_2_code, exceptionTable := #[], attributes := #[] }
def k2m1 : Method := { name := "isEmpty", desc := "()Z", sig := { parameters := [], returnType := some .boolean }, accessFlags := 0, code := some k2c1 }
def k2c2 : Code := { maxStack := 4, maxLocals := 4, code := prog_55_method_5_code, exceptionTable := #[], attributes := #[] }
def k2m2 : Method := { name := "put", desc := "(IJ)V", sig := { parameters := [.int, .long], returnType := none }, accessFlags := 0, code := some k2c2 }
def k2c3 : Code := { maxStack := 3, maxLocals := 4, code := prog_55_method_6_code, exceptionTable := #[], attributes := #[] }
def k2m3 : Method := { name := "remove", desc := "(I)V", sig := { parameters := [.int], returnType := none }, accessFlags := 0, code := some k2c3 }
def k2c4 : Code := { maxStack := 5, maxLocals := 4, code := prog_55_method_8_code, exceptionTable := #[], attributes := #[] }
def k2m4 : Method := { name := "siftUp", desc := "(I)V", sig := { parameters := [.int], returnType := none }, accessFlags := 2, code := some k2c4 }
def k2c5 : Code := { maxStack := 4, maxLocals := 5, code := prog_55_method_9_code, exceptionTable := #[], attributes := #[] }
def k2m5 : Method := { name := "siftDown", desc := "(I)V", sig := { parameters := [.int], returnType := none }, accessFlags := 2, code := some k2c5 }
def k2c6 : Code := { maxStack := 4, maxLocals := 3, code := prog_55_method_10_code, exceptionTable := #[], attributes := #[] }
def k2m6 : Method := { name := "before", desc := "(II)Z", sig := { parameters := [.int, .int], returnType := some .boolean }, accessFlags := 2, code := some k2c6 }
def k2c7 : Code := { maxStack := 3, maxLocals := 3, code := prog_55_method_11_code, exceptionTable := #[], attributes := #[] }
def k2m7 : Method := { name := "setAt", desc := "(II)V", sig := { parameters := [.int, .int], returnType := none }, accessFlags := 2, code := some k2c7 }
/-- com/example/lean_layers/leanlayers/phase/layering/IndexedHeap -/
def k2 : Class := { plain "com/example/lean_layers/leanlayers/phase/layering/IndexedHeap" (some 0) with
  accessFlags := 48
  interfaces := #[]
  cf := some (fileOf pool2 8 #[] #[{ accessFlags := 0, nameIndex := 5, descriptorIndex := 44, attributes := #[] }, { accessFlags := 0, nameIndex := 58, descriptorIndex := 59, attributes := #[] }, { accessFlags := 0, nameIndex := 63, descriptorIndex := 64, attributes := #[] }, { accessFlags := 0, nameIndex := 65, descriptorIndex := 44, attributes := #[] }, { accessFlags := 2, nameIndex := 43, descriptorIndex := 44, attributes := #[] }, { accessFlags := 2, nameIndex := 47, descriptorIndex := 44, attributes := #[] }, { accessFlags := 2, nameIndex := 50, descriptorIndex := 51, attributes := #[] }, { accessFlags := 2, nameIndex := 54, descriptorIndex := 55, attributes := #[] }] 48 2 #[] #[{ accessFlags := 18, nameIndex := 11, descriptorIndex := 12, attributes := #[] }, { accessFlags := 18, nameIndex := 15, descriptorIndex := 16, attributes := #[] }, { accessFlags := 18, nameIndex := 19, descriptorIndex := 12, attributes := #[] }, { accessFlags := 2, nameIndex := 28, descriptorIndex := 29, attributes := #[] }])
  fields := #[{ name := "items", type := (.array .int), accessFlags := 18, slot := 0, constantValue := 0 }, { name := "keys", type := (.array .long), accessFlags := 18, slot := 1, constantValue := 0 }, { name := "place", type := (.array .int), accessFlags := 18, slot := 2, constantValue := 0 }, { name := "size", type := .int, accessFlags := 2, slot := 3, constantValue := 0 }]
  methods := #[k2m0, k2m1, k2m2, k2m3, k2m4, k2m5, k2m6, k2m7]
  instanceTypes := #[(.array .int), (.array .long), (.array .int), .int]
  staticTypes := #[]
  resolved := Array.replicate 69 none
  statics := none }

def pool3 : Array CpInfo := pool [(2, .class_ 4), (1, u "java/lang/Object"), (0, u "<init>"), (0, u "()V"), (7, .class_ 16), (1, u "java/util/Arrays"), (57, .class_ 76), (1, u "java/util/Arrays$NaturalOrder"), (36, .class_ 115), (1, u "java/util/Arrays$LegacyMergeSort"), (1, u "Z"), (257, .class_ 376), (0, u "java/util/Arrays$ArrayList"), (68, u "$assertionsDisabled"), (269, u "MIN_ARRAY_SORT_GRAN"), (0, u "I"), (2, u "INSERTIONSORT_THRESHOLD"), (120, u "fill"), (4, u "([II)V"), (129, .class_ 976), (0, u "java/util/Arrays$ArrayItr")] 52

def k3m0 : Method := { name := "<init>", desc := "()V", sig := { parameters := [], returnType := none }, accessFlags := 2, code := none }
def k3c1 : Code := { maxStack := 3, maxLocals := 4, code := jdk_65_method_103_code, exceptionTable := #[], attributes := #[] }
def k3m1 : Method := { name := "fill", desc := "([II)V", sig := { parameters := [(.array .int), .int], returnType := none }, accessFlags := 9, code := some k3c1 }
/-- java/util/Arrays -/
def k3 : Class := { plain "java/util/Arrays" (some 0) with
  accessFlags := 49
  interfaces := #[]
  cf := some (fileOf pool3 14 #[.nestMembers #[975, 375, 113, 74]] #[{ accessFlags := 2, nameIndex := 5, descriptorIndex := 6, attributes := #[] }, { accessFlags := 9, nameIndex := 840, descriptorIndex := 845, attributes := #[] }] 49 2 #[] #[{ accessFlags := 26, nameIndex := 715, descriptorIndex := 716, attributes := #[] }, { accessFlags := 26, nameIndex := 719, descriptorIndex := 716, attributes := #[] }, { accessFlags := 4120, nameIndex := 445, descriptorIndex := 117, attributes := #[] }])
  fields := #[{ name := "MIN_ARRAY_SORT_GRAN", type := .int, accessFlags := 26, slot := 0, constantValue := 0 }, { name := "INSERTIONSORT_THRESHOLD", type := .int, accessFlags := 26, slot := 1, constantValue := 0 }, { name := "$assertionsDisabled", type := .boolean, accessFlags := 4120, slot := 2, constantValue := 0 }]
  methods := #[k3m0, k3m1]
  instanceTypes := #[]
  staticTypes := #[.int, .int, .boolean]
  resolved := Array.replicate 1029 none
  statics := none }

def pool4 : Array CpInfo := pool [(1, u "java/lang/Cloneable"), (0, .class_ 1), (0, u "java/lang/Object"), (0, .class_ 3)] 3

/-- java/lang/Cloneable -/
def k4 : Class := { plain "java/lang/Cloneable" (some 0) with
  accessFlags := 1537
  interfaces := #[]
  cf := some (fileOf pool4 2 #[] #[] 1537 4 #[] #[])
  fields := #[]
  methods := #[]
  instanceTypes := #[]
  staticTypes := #[]
  resolved := Array.replicate 8 none
  statics := none }

def pool5 : Array CpInfo := pool [(1, u "java/io/Serializable"), (0, .class_ 1), (0, u "java/lang/Object"), (0, .class_ 3)] 3

/-- java/io/Serializable -/
def k5 : Class := { plain "java/io/Serializable" (some 0) with
  accessFlags := 1537
  interfaces := #[]
  cf := some (fileOf pool5 2 #[] #[] 1537 4 #[] #[])
  fields := #[]
  methods := #[]
  instanceTypes := #[]
  staticTypes := #[]
  resolved := Array.replicate 8 none
  statics := none }

/-- the primitive boolean -/
def k6 : Class := { plain "boolean" none with kind := .primitive 'Z', accessFlags := 0x411 }
/-- [Z -/
def k7 : Class := { plain "[Z" (some 0) with kind := .array 6 .boolean, interfaces := #[4, 5], accessFlags := 1041 }

/-- the primitive byte -/
def k8 : Class := { plain "byte" none with kind := .primitive 'B', accessFlags := 0x411 }
/-- [B -/
def k9 : Class := { plain "[B" (some 0) with kind := .array 8 .byte, interfaces := #[4, 5], accessFlags := 1041 }

/-- the primitive int -/
def k10 : Class := { plain "int" none with kind := .primitive 'I', accessFlags := 0x411 }
/-- [I -/
def k11 : Class := { plain "[I" (some 0) with kind := .array 10 .int, interfaces := #[4, 5], accessFlags := 1041 }

/-- the primitive long -/
def k12 : Class := { plain "long" none with kind := .primitive 'J', accessFlags := 0x411 }
/-- [J -/
def k13 : Class := { plain "[J" (some 0) with kind := .array 12 .long, interfaces := #[4, 5], accessFlags := 1041 }

def heap : Heap := #[]
def classes : Array Class := #[k0, k1, k2, k3, k4, k5, k6, k7, k8, k9, k10, k11, k12, k13]
def interned : List (Array UInt16 × Addr) := []
def slotsUsed : Nat := 0
def theMethod : MethodId := ⟨1, 1⟩
def args0 : Array Value := #[.int 5, .long 7, .long 3, .long 9]
def aboutOver (below : List Frame) : State where
  vm := { classes := classes, interned := interned.toArray }
  heap := heap
  slotsUsed := slotsUsed
  threads := #[{ frames := .invoking theMethod args0 :: below }]
def below0 : List Frame := [.native { method := ⟨0, 0⟩, args := #[] }]
def about1 : State := aboutOver below0
def p0 : Program := .bare "" "" ""
def e0 : Env := launch0.env 0 0 0
theorem w_frames : about1.frames = Frame.invoking theMethod args0 :: below0 := rfl
set_option maxRecDepth 65536 in
theorem w_args : argsFit about1.vm theMethod args0 = true := by decide +kernel
set_option maxRecDepth 65536 in
theorem w_heap : heapFits about1 = true := by decide +kernel
set_option maxRecDepth 65536 in
theorem w_runnable : about1.curStatus? = some .runnable := by decide +kernel
set_option maxRecDepth 65536 in
theorem w_alone : about1.alone = true := by decide +kernel
set_option maxRecDepth 65536 in
theorem w_named : about1.methodNamed? x = some theMethod := by decide +kernel
set_option maxRecDepth 65536 in
theorem w_hears : about1.hears theMethod below0 = true := by decide +kernel
set_option maxRecDepth 65536 in
theorem w_ripe : about1.ripe theMethod args0 below0 = true := by decide +kernel
theorem w_running : about1.status = .running := rfl
set_option maxRecDepth 65536 in
theorem w_room : about1.hasRoom e0.platform room_1 = true :=
  launch0.hasRoom_least _ room_1 (by decide +kernel) (by decide +kernel) (by decide +kernel) (by decide +kernel) (by decide +kernel) (by decide +kernel)
theorem allAtoms_all (ts : List Jvm.Cond) (a : Array Jvm.Value) (st : Jvm.State) : (allAtoms ts).before a st = ts.all (fun c => c.before a st) := by
  induction ts with
  | nil => rfl
  | cons c t ih =>
    show (Jvm.Cond.and c (allAtoms t)).before a st = _
    rw [Jvm.Cond.before_and, ih, List.all_cons]
def words1 : List Jvm.Cond := Jvm.Cond.code x code maxLocals ret :: tables_1
/-- a 'code' word, met by the world's own term for the bytes: nothing is compared byte by byte -/
theorem code_word {y : MethodName} {bytes : ByteArray} {mx : Nat} {rt : Option FieldType} {a : Array Value} {s : State} {m : MethodId} {meth : Method} {c : Code} (h1 : s.methodNamed? y = some m) (h2 : s.vm.method? m = some meth) (h3 : meth.code = some c) (h4 : c.code = bytes)
    (h5 : (c.maxLocals == mx && c.exceptionTable.isEmpty && decide (c.maxStack ≤ mostOperands) && decide (meth.sig.returnType = rt) && !meth.locks && decide (parseMethodDescriptor y.desc = some meth.sig)) = true) : (Jvm.Cond.code y bytes mx rt).before a s = true := by
  simp only [Bool.and_eq_true, beq_iff_eq, Bool.not_eq_true', decide_eq_true_eq] at h5
  obtain ⟨⟨⟨⟨⟨g1, g2⟩, g3⟩, g4⟩, g5⟩, g6⟩ := h5
  simp [Cond.before, Cond.holds, Cond.value, h1, h2, h3, h4, g1, g2, g3, g4, g5, g6]
def isCode : Jvm.Cond → Bool
  | .code _ _ _ _ => true
  | _ => false
theorem all_split {L : List Jvm.Cond} {P : Jvm.Cond → Bool} (h1 : L.all (fun c => isCode c || P c) = true) (h2 : ∀ c ∈ L.filter isCode, P c = true) : L.all P = true := by
  refine List.all_eq_true.mpr fun c hc => ?_
  have h := List.all_eq_true.mp h1 c hc
  rcases Bool.eq_false_or_eq_true (isCode c) with hi | hi
  · exact h2 c (List.mem_filter.mpr ⟨hc, hi⟩)
  · simpa [hi] using h
set_option maxRecDepth 65536 in
theorem w_c0 : (Jvm.Cond.code x code maxLocals ret).before args0 about1 = true := code_word (m := ⟨1, 1⟩) (meth := k1m1) (c := k1c1) (by decide +kernel) rfl rfl rfl (by decide +kernel)
set_option maxRecDepth 65536 in
theorem w_c1 : (Jvm.Cond.code ({ cls := "com/example/lean_layers/leanlayers/phase/layering/IndexedHeap", name := "<init>", desc := "(I)V" } : Jvm.MethodName) prog_55_method_1_code (2 : Nat) (Option.none : Option Jvm.ClassFile.FieldType)).before args0 about1 = true := code_word (m := ⟨2, 0⟩) (meth := k2m0) (c := k2c0) (by decide +kernel) rfl rfl rfl (by decide +kernel)
set_option maxRecDepth 65536 in
theorem w_c2 : (Jvm.Cond.code ({ cls := "java/lang/Object", name := "<init>", desc := "()V" } : Jvm.MethodName) object_method_1_code (1 : Nat) (Option.none : Option Jvm.ClassFile.FieldType)).before args0 about1 = true := code_word (m := ⟨0, 0⟩) (meth := k0m0) (c := k0c0) (by decide +kernel) rfl rfl rfl (by decide +kernel)
set_option maxRecDepth 65536 in
theorem w_c3 : (Jvm.Cond.code ({ cls := "java/util/Arrays", name := "fill", desc := "([II)V" } : Jvm.MethodName) jdk_65_method_103_code (4 : Nat) (Option.none : Option Jvm.ClassFile.FieldType)).before args0 about1 = true := code_word (m := ⟨3, 1⟩) (meth := k3m1) (c := k3c1) (by decide +kernel) rfl rfl rfl (by decide +kernel)
set_option maxRecDepth 65536 in
theorem w_c4 : (Jvm.Cond.code ({ cls := "com/example/lean_layers/leanlayers/phase/layering/IndexedHeap", name := "isEmpty", desc := "()Z" } : Jvm.MethodName) prog_55_method_2_code (1 : Nat) (Option.some Jvm.ClassFile.FieldType.boolean)).before args0 about1 = true := code_word (m := ⟨2, 1⟩) (meth := k2m1) (c := k2c1) (by decide +kernel) rfl rfl rfl (by decide +kernel)
set_option maxRecDepth 65536 in
theorem w_c5 : (Jvm.Cond.code ({ cls := "com/example/lean_layers/leanlayers/phase/layering/IndexedHeapIsEmptyPinLaw", name := "step", desc := "(Lcom/example/lean_layers/leanlayers/phase/layering/IndexedHeap;[ZIJ)Z" } : Jvm.MethodName) method_3_code (7 : Nat) (Option.some Jvm.ClassFile.FieldType.boolean)).before args0 about1 = true := code_word (m := ⟨1, 2⟩) (meth := k1m2) (c := k1c2) (by decide +kernel) rfl rfl rfl (by decide +kernel)
set_option maxRecDepth 65536 in
theorem w_c6 : (Jvm.Cond.code ({ cls := "com/example/lean_layers/leanlayers/phase/layering/IndexedHeap", name := "remove", desc := "(I)V" } : Jvm.MethodName) prog_55_method_6_code (4 : Nat) (Option.none : Option Jvm.ClassFile.FieldType)).before args0 about1 = true := code_word (m := ⟨2, 3⟩) (meth := k2m3) (c := k2c3) (by decide +kernel) rfl rfl rfl (by decide +kernel)
set_option maxRecDepth 65536 in
theorem w_c7 : (Jvm.Cond.code ({ cls := "com/example/lean_layers/leanlayers/phase/layering/IndexedHeap", name := "put", desc := "(IJ)V" } : Jvm.MethodName) prog_55_method_5_code (4 : Nat) (Option.none : Option Jvm.ClassFile.FieldType)).before args0 about1 = true := code_word (m := ⟨2, 2⟩) (meth := k2m2) (c := k2c2) (by decide +kernel) rfl rfl rfl (by decide +kernel)
set_option maxRecDepth 65536 in
theorem w_c8 : (Jvm.Cond.code ({ cls := "com/example/lean_layers/leanlayers/phase/layering/IndexedHeap", name := "siftUp", desc := "(I)V" } : Jvm.MethodName) prog_55_method_8_code (4 : Nat) (Option.none : Option Jvm.ClassFile.FieldType)).before args0 about1 = true := code_word (m := ⟨2, 4⟩) (meth := k2m4) (c := k2c4) (by decide +kernel) rfl rfl rfl (by decide +kernel)
set_option maxRecDepth 65536 in
theorem w_c9 : (Jvm.Cond.code ({ cls := "com/example/lean_layers/leanlayers/phase/layering/IndexedHeap", name := "setAt", desc := "(II)V" } : Jvm.MethodName) prog_55_method_11_code (3 : Nat) (Option.none : Option Jvm.ClassFile.FieldType)).before args0 about1 = true := code_word (m := ⟨2, 7⟩) (meth := k2m7) (c := k2c7) (by decide +kernel) rfl rfl rfl (by decide +kernel)
set_option maxRecDepth 65536 in
theorem w_c10 : (Jvm.Cond.code ({ cls := "com/example/lean_layers/leanlayers/phase/layering/IndexedHeap", name := "siftDown", desc := "(I)V" } : Jvm.MethodName) prog_55_method_9_code (5 : Nat) (Option.none : Option Jvm.ClassFile.FieldType)).before args0 about1 = true := code_word (m := ⟨2, 5⟩) (meth := k2m5) (c := k2c5) (by decide +kernel) rfl rfl rfl (by decide +kernel)
set_option maxRecDepth 65536 in
theorem w_c11 : (Jvm.Cond.code ({ cls := "com/example/lean_layers/leanlayers/phase/layering/IndexedHeap", name := "before", desc := "(II)Z" } : Jvm.MethodName) prog_55_method_10_code (3 : Nat) (Option.some Jvm.ClassFile.FieldType.boolean)).before args0 about1 = true := code_word (m := ⟨2, 6⟩) (meth := k2m6) (c := k2c6) (by decide +kernel) rfl rfl rfl (by decide +kernel)
def codes1 : List Jvm.Cond := [Jvm.Cond.code x code maxLocals ret, Jvm.Cond.code ({ cls := "com/example/lean_layers/leanlayers/phase/layering/IndexedHeap", name := "<init>", desc := "(I)V" } : Jvm.MethodName) prog_55_method_1_code (2 : Nat) (Option.none : Option Jvm.ClassFile.FieldType), Jvm.Cond.code ({ cls := "java/lang/Object", name := "<init>", desc := "()V" } : Jvm.MethodName) object_method_1_code (1 : Nat) (Option.none : Option Jvm.ClassFile.FieldType), Jvm.Cond.code ({ cls := "java/util/Arrays", name := "fill", desc := "([II)V" } : Jvm.MethodName) jdk_65_method_103_code (4 : Nat) (Option.none : Option Jvm.ClassFile.FieldType), Jvm.Cond.code ({ cls := "com/example/lean_layers/leanlayers/phase/layering/IndexedHeap", name := "isEmpty", desc := "()Z" } : Jvm.MethodName) prog_55_method_2_code (1 : Nat) (Option.some Jvm.ClassFile.FieldType.boolean), Jvm.Cond.code ({ cls := "com/example/lean_layers/leanlayers/phase/layering/IndexedHeapIsEmptyPinLaw", name := "step", desc := "(Lcom/example/lean_layers/leanlayers/phase/layering/IndexedHeap;[ZIJ)Z" } : Jvm.MethodName) method_3_code (7 : Nat) (Option.some Jvm.ClassFile.FieldType.boolean), Jvm.Cond.code ({ cls := "com/example/lean_layers/leanlayers/phase/layering/IndexedHeap", name := "remove", desc := "(I)V" } : Jvm.MethodName) prog_55_method_6_code (4 : Nat) (Option.none : Option Jvm.ClassFile.FieldType), Jvm.Cond.code ({ cls := "com/example/lean_layers/leanlayers/phase/layering/IndexedHeap", name := "put", desc := "(IJ)V" } : Jvm.MethodName) prog_55_method_5_code (4 : Nat) (Option.none : Option Jvm.ClassFile.FieldType), Jvm.Cond.code ({ cls := "com/example/lean_layers/leanlayers/phase/layering/IndexedHeap", name := "siftUp", desc := "(I)V" } : Jvm.MethodName) prog_55_method_8_code (4 : Nat) (Option.none : Option Jvm.ClassFile.FieldType), Jvm.Cond.code ({ cls := "com/example/lean_layers/leanlayers/phase/layering/IndexedHeap", name := "setAt", desc := "(II)V" } : Jvm.MethodName) prog_55_method_11_code (3 : Nat) (Option.none : Option Jvm.ClassFile.FieldType), Jvm.Cond.code ({ cls := "com/example/lean_layers/leanlayers/phase/layering/IndexedHeap", name := "siftDown", desc := "(I)V" } : Jvm.MethodName) prog_55_method_9_code (5 : Nat) (Option.none : Option Jvm.ClassFile.FieldType), Jvm.Cond.code ({ cls := "com/example/lean_layers/leanlayers/phase/layering/IndexedHeap", name := "before", desc := "(II)Z" } : Jvm.MethodName) prog_55_method_10_code (3 : Nat) (Option.some Jvm.ClassFile.FieldType.boolean)]
set_option maxRecDepth 65536 in
theorem codes_eq : words1.filter isCode = codes1 := rfl
theorem w_codes : ∀ c ∈ words1.filter isCode, c.before args0 about1 = true := by
  rw [codes_eq]
  intro c hc
  simp only [codes1, List.mem_cons, List.not_mem_nil, or_false] at hc
  rcases hc with rfl | rfl | rfl | rfl | rfl | rfl | rfl | rfl | rfl | rfl | rfl | rfl
  · exact w_c0
  · exact w_c1
  · exact w_c2
  · exact w_c3
  · exact w_c4
  · exact w_c5
  · exact w_c6
  · exact w_c7
  · exact w_c8
  · exact w_c9
  · exact w_c10
  · exact w_c11
set_option maxRecDepth 65536 in
theorem w_t1 : (words1.take 24).all (fun c => isCode c || c.before args0 about1) = true := by decide +kernel
set_option maxRecDepth 65536 in
theorem w_t2 : ((words1.drop 24).take 24).all (fun c => isCode c || c.before args0 about1) = true := by decide +kernel
set_option maxRecDepth 65536 in
theorem w_t3 : ((words1.drop 24).drop 24).all (fun c => isCode c || c.before args0 about1) = true := by decide +kernel
theorem w_tables : (allAtoms (Jvm.Cond.code x code maxLocals ret :: tables_1)).before args0 about1 = true := by
  rw [allAtoms_all]
  show words1.all (fun c => c.before args0 about1) = true
  refine all_split ?_ w_codes
  rw [← List.take_append_drop 24 words1, List.all_append, w_t1, ← List.take_append_drop 24 (words1.drop 24), List.all_append, w_t2, w_t3]
  rfl
set_option maxRecDepth 65536 in
theorem w_case : (Jvm.Cond.and given_1 narrow_1).before args0 about1 = true := by decide +kernel
theorem w_applies : (headSpec (Jvm.Cond.code x code maxLocals ret :: tables_1) room_1).applies x e0.platform about1 = true :=
  (Spec.applies_iff w_frames).mpr ⟨w_running, w_runnable, w_alone, w_named, w_hears, w_ripe, w_room, w_tables⟩
theorem atStart : AtStart classFile x code maxLocals ret World_1 tables_1 room_1 Calls_1 rest_1 Pre_1 launch0 p0 e0 about1 theMethod args0 below0 :=
  ⟨lists_1, trivial, launch0.admits_env _ _ _, launch0.least_env, fairChoices_fair.cas, fairChoices_fair.clock, w_frames, w_args, w_heap, w_applies, trivial, trivial, w_case⟩
end start1
theorem witness_1 : WitnessClaimed_1 := ⟨start1.p0, start1.e0, start1.about1, start1.theMethod, start1.args0, start1.below0, start1.atStart⟩
end Jvm.Pilot.@@N@@
