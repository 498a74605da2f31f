import JvmDerived
import JvmDerived.Pilot.@@N@@Statement
import JvmDerived.Pilot.@@N@@Code
set_option linter.unusedVariables false
set_option linter.unusedSimpArgs false
namespace Jvm.RoadKit
open Sem ClassFile Op Lib Jvm.Stand Jvm.Free Jvm.LawKit
section New
variable {p : Program} {l : Launch} {e : Env} {R : Room} {s : State} {m : MethodId} {args : Array Value} {below : List Frame} {meth : Method} {c : Code} {T : State} {locs : List Loc} {cells slots : Nat}
theorem retI (X : Stand p l e R s m args below meth c T locs cells slots) (hx : p.tables.exec = Jvm.exec) {pc : Nat} {Ls : Array Slot} {z : Int32} {rest : List Value} (hret : meth.sig.returnType = some .int) (hd : decode c.code pc = .ok (.ireturn, 1)) {fs : List Frame}
    (hl : ∀ (f : JFrame) (acts : List Action), f.method = m → f.locked = none → f.entered = [] → (doReturn e (T.setTop f) acts (some (.int z))).1 = T.setFrames fs) : Steps p.tables e below (T.setTop (mkF m pc Ls (.int z :: rest))) (T.setFrames fs) := by
  have hm' : T.vm.method? m = some meth := X.method'
  have hn : narrow .int (.int z) = .int z := rfl
  show Steps p.tables e below (T.setTop { method := m, pc := pc, locals := Ls, stack := _ :: rest, locked := none }) _
  jvm_step X.here [X.here.top, hx, hd, hm', hret, hn]
  first | (intro acts; rw [hl _ acts rfl rfl rfl]) | rw [hl _ _ rfl rfl rfl]
  exact Steps.refl _
end New
end Jvm.RoadKit
namespace Jvm.Pilot.@@N@@
open Jvm Jvm.ClassFile Sem Op Lib Jvm.Free Jvm.Stand Jvm.LawKit Jvm.RoadKit Bundle Jvm.Pilot.@@N@@.Jvm.D
theorem own_selp {s : State} {args : Array Value} {y : MethodName} {n : Nat} (wi : (Jvm.Cond.instantiable y.cls n).before args s = true) (hp : s.PrivateAt y) (hi : (Jvm.Cond.instanceMethod y).before args s = true) (hy : y.cls ≠ "java/lang/invoke/MethodHandle" ∧ y.cls ≠ "java/lang/invoke/VarHandle") : (Jvm.Cond.selects y.cls y y).before args s = true := by
  obtain ⟨c, k, h1, h2, h3, h4, -⟩ := Cond.instantiable_spec wi
  exact selects_self_of_private h1 h2 (Bool.or_eq_false_iff.mp h4).1 hp hi hy
theorem own_cat {v : Value} (h : v.isRef = true) : v.category = 1 := by rcases ref_cases h with rfl | ⟨_, rfl⟩ <;> rfl
theorem own_ltL {x y : Int64} (h : x < y) : ifCond.holds .lt (lcmpW x y) = true ∧ ifCond.holds .ge (lcmpW x y) = false ∧ ifCond.holds .gt (lcmpW y x) = true ∧ ifCond.holds .le (lcmpW y x) = false :=
  ⟨(if0 _ _).trans (tlt ((lw_lt x y).mpr h)).1, (if0 _ _).trans (tlt ((lw_lt x y).mpr h)).2.1, (if0 _ _).trans (tlt ((lw_gt y x).mpr h)).2.2.1, (if0 _ _).trans (tlt ((lw_gt y x).mpr h)).2.2.2⟩
theorem own_fltL {x y : Int64} (h : ¬ x < y) : ifCond.holds .lt (lcmpW x y) = false ∧ ifCond.holds .ge (lcmpW x y) = true ∧ ifCond.holds .gt (lcmpW y x) = false ∧ ifCond.holds .le (lcmpW y x) = true :=
  ⟨(if0 _ _).trans (flt (fun q => h ((lw_lt x y).mp q))).1, (if0 _ _).trans (flt (fun q => h ((lw_lt x y).mp q))).2.1, (if0 _ _).trans (flt (fun q => h ((lw_gt y x).mp q))).2.2.1, (if0 _ _).trans (flt (fun q => h ((lw_gt y x).mp q))).2.2.2⟩
theorem own_eqL {x y : Int64} (h : x = y) : ifCond.holds .eq (lcmpW x y) = true ∧ ifCond.holds .ne (lcmpW x y) = false :=
  ⟨(if0 _ _).trans (teq ((lw_eq x y).mpr h)).1, (if0 _ _).trans (teq ((lw_eq x y).mpr h)).2⟩
theorem own_neL {x y : Int64} (h : ¬ x = y) : ifCond.holds .eq (lcmpW x y) = false ∧ ifCond.holds .ne (lcmpW x y) = true :=
  ⟨(if0 _ _).trans (feq (fun q => h ((lw_eq x y).mp q))).1, (if0 _ _).trans (feq (fun q => h ((lw_eq x y).mp q))).2⟩

theorem own_fin {c : Int32} {N : Nat} (h0 : 0 ≤ c.toInt) (h1 : c.toInt < N) (hN : N ≤ 2147483648) : ∃ n : Fin N, c = n.1.toInt32 := by
  refine ⟨⟨c.toInt.toNat, by omega⟩, ?_⟩
  apply Int32.toInt_inj.mp
  rw [len_toInt (by show c.toInt.toNat < 2 ^ 31; omega)]
  show c.toInt = ((c.toInt.toNat : Nat) : Int)
  omega
theorem own_lt {x y : Int32} (h : x < y) : x.toInt < y.toInt := Int32.lt_iff_toInt_lt.mp h
theorem own_nlt' {x y : Int32} (h : ¬ x < y) : y.toInt ≤ x.toInt := by rw [Int32.lt_iff_toInt_lt] at h; omega
theorem own_nlt {x y : Int32} {k : Int} (h : k ≤ x.toInt) (hk : y.toInt ≤ k) : ¬ x < y := by rw [Int32.lt_iff_toInt_lt]; omega
theorem own_gt {x y : Int32} {k : Int} (h : k ≤ x.toInt) (hk : y.toInt < k) : y < x := by rw [Int32.lt_iff_toInt_lt]; omega
theorem own_ne {x y : Int32} {k : Int} (h : k ≤ x.toInt) (hk : y.toInt < k) : ¬ x = y := by rintro rfl; omega
theorem own_gtn {x y : Int32} {k : Int} (h : x.toInt < k) (hk : k ≤ y.toInt) : x < y := by rw [Int32.lt_iff_toInt_lt]; omega
theorem own_nel {x y : Int32} {k : Int} (h : x.toInt < k) (hk : k ≤ y.toInt) : ¬ x = y := by rintro rfl; omega
theorem own_lt' {x y : Int32} (h : x < y) : x.toInt + 1 ≤ y.toInt := by have := own_lt h; omega
theorem own_le' {x y : Int32} (h : ¬ y < x) : x.toInt < y.toInt + 1 := by have := own_nlt' h; omega

def own_A (Z : State) (h : Heap) (a : Addr) (ty : FieldType) (n : Nat) (f : Nat → Value) : Prop := ∃ c : Cell, Arr Z h a c ty ∧ c.slots.size = n ∧ ∀ j, j < n → c.slots[j]? = some (f j)
section OwnA
variable {Z : State} {h h' : Heap} {a b : Addr} {ty : FieldType} {n sl : Nat} {f : Nat → Value} {v : Value} {ws : List Addr}
theorem own_A.lt (F : own_A Z h a ty n f) : a < h.size := by obtain ⟨c, A, -⟩ := F; exact A.lt
theorem own_A.ext (F : own_A Z h a ty n f) (E : Ext h h') : own_A Z h' a ty n f := by obtain ⟨c, A, r⟩ := F; exact ⟨c, A.ext E, r⟩
theorem own_A.other (F : own_A Z h b ty n f) (W : Wr h h' a sl v) (q : b ≠ a) : own_A Z h' b ty n f := by obtain ⟨c, A, r⟩ := F; exact ⟨c, A.other W q, r⟩
theorem own_A.keep (F : own_A Z h a ty n f) (K : Keep h h' ws) (q : a ∉ ws) : own_A Z h' a ty n f := by obtain ⟨c, A, r⟩ := F; exact ⟨c, ⟨K.2.1 a c A.1 q, A.2⟩, r⟩
theorem own_A.set (F : own_A Z h a ty n f) (W : Wr h h' a sl v) : own_A Z h' a ty n (fun i => if i = sl then v else f i) := by
  obtain ⟨c, A, S, H⟩ := F
  refine ⟨_, A.same W, (sz_set _ _ _).trans S, fun j hj => ?_⟩
  by_cases e : j = sl
  · subst e
    simp only [Cell.setSlot, if_true]
    rw [Array.getElem?_setIfInBounds_self_of_lt (by omega)]
  · simp only [Cell.setSlot, if_neg e]
    rw [Array.getElem?_setIfInBounds_ne (Ne.symm e)]
    exact H j hj
theorem own_A.eqv {g : Nat → Value} (F : own_A Z h a ty n f) (e : ∀ j, j < n → f j = g j) : own_A Z h a ty n g := by
  obtain ⟨c, A, S, H⟩ := F
  exact ⟨c, A, S, fun j hj => (e j hj) ▸ H j hj⟩
theorem own_A.setI {g : Nat → Int32} {x : Int32} (F : own_A Z h a ty n (fun i => .int (g i))) (W : Wr h h' a sl (.int x)) : own_A Z h' a ty n (fun i => .int (if i = sl then x else g i)) :=
  (F.set W).eqv fun j _ => by
    by_cases e : j = sl
    · simp only [if_pos e]
    · simp only [if_neg e]
theorem own_A.setJ {g : Nat → Int64} {x : Int64} (F : own_A Z h a ty n (fun i => .long (g i))) (W : Wr h h' a sl (.long x)) : own_A Z h' a ty n (fun i => .long (if i = sl then x else g i)) :=
  (F.set W).eqv fun j _ => by
    by_cases e : j = sl
    · simp only [if_pos e]
    · simp only [if_neg e]
theorem own_A.new {k : ClassId} {z : Int32} (A : Arr Z h a (newA k ty z) ty) : own_A Z h a ty z.toNatClampNeg (fun _ => defaultValue ty) :=
  ⟨_, A, sz_new _ _ _, fun j hj => by simp [newA, hj]⟩
end OwnA
theorem own_in {c : Cell} {n : Nat} {j : Int32} (S : c.slots.size = n) (h : 0 ≤ j.toInt ∧ j.toInt < n) : ¬ (j < 0 ∨ c.slots.size ≤ j.toNatClampNeg) := by
  rw [S, Int32.lt_iff_toInt_lt, show (0 : Int32).toInt = 0 from rfl]
  have e : j.toNatClampNeg = j.toInt.toNat := rfl
  rw [e]; omega
theorem own_ix {n : Nat} {j : Int32} (h : 0 ≤ j.toInt ∧ j.toInt < n) : j.toNatClampNeg < n := by
  have e : j.toNatClampNeg = j.toInt.toNat := rfl
  rw [e]; omega
theorem own_len {c : Cell} {n : Nat} {z : Int32} (S : c.slots.size = n) (h : n.toInt32 = z) : c.slots.size.toInt32 = z := by rw [S]; exact h
def own_O (Z : State) (h : Heap) (a : Addr) (C : String) : Prop := ∃ c : Cell, h[a]? = some c ∧ Ovr Z c.cls C
theorem own_O.ext {Z : State} {h h' : Heap} {a : Addr} {C : String} (F : own_O Z h a C) (E : Ext h h') : own_O Z h' a C := by obtain ⟨c, h1, o⟩ := F; exact ⟨c, E.2 _ _ h1, o⟩
theorem own_O.wr {Z : State} {h h' : Heap} {a b : Addr} {C : String} {sl : Nat} {v : Value} (F : own_O Z h a C) (W : Wr h h' b sl v) : own_O Z h' a C := by
  obtain ⟨c, h1, o⟩ := F
  obtain ⟨c', e1, e2, -⟩ := wr_at W h1
  exact ⟨c', e1, e2 ▸ o⟩
theorem own_sto {Z : State} {h : Heap} {a y : Addr} {cl : Cell} {ty : FieldType} {C : String} (A : Arr Z h a cl ty) (O : own_O Z h a C) (I : Ins Z h y C true) : Sto Z h a (.ref y) := by
  obtain ⟨c, h1, o⟩ := O
  cases A.1.symm.trans h1
  exact Sto.of A o I

/-! a frontier's entries: (rank, cost, state); 'own_bf a b': a comes out ahead of b -/
abbrev own_E := Int64 × Int32 × Int32
def own_bf (a b : own_E) : Prop := a.1 < b.1 ∨ (a.1 = b.1 ∧ b.2.1 < a.2.1)
theorem own_bfi (a b : own_E) : own_bf a b ↔ (a.1.toInt < b.1.toInt ∨ (a.1.toInt = b.1.toInt ∧ b.2.1.toInt < a.2.1.toInt)) := by
  unfold own_bf
  rw [Int64.lt_iff_toInt_lt, Int32.lt_iff_toInt_lt, ← Int64.toInt_inj]
theorem own_bf_as {a b : own_E} (h : own_bf a b) : ¬ own_bf b a := by rw [own_bfi] at *; omega
theorem own_bf_tr {a b c : own_E} (h : own_bf a b) (g : own_bf b c) : own_bf a c := by rw [own_bfi] at *; omega
theorem own_bf_nt {a b c : own_E} (h : ¬ own_bf a b) (g : ¬ own_bf b c) : ¬ own_bf a c := by rw [own_bfi] at *; omega
theorem own_bf_irr (a : own_E) : ¬ own_bf a a := by rw [own_bfi]; omega
def own_up (e : Nat → own_E) (k : Nat) (x : own_E) : Nat → own_E := fun j => if j = k then x else e j
theorem own_up_same (e : Nat → own_E) (k : Nat) (x : own_E) : own_up e k x k = x := if_pos rfl
theorem own_up_ne {e : Nat → own_E} {k j : Nat} {x : own_E} (h : j ≠ k) : own_up e k x j = e j := if_neg h
def own_heap (n : Nat) (e : Nat → own_E) : Prop := ∀ j, 0 < j → j < n → ¬ own_bf (e j) (e ((j - 1) / 2))
/-- E is E0 with its first n places in another order -/
def own_rr (n : Nat) (E E0 : Nat → own_E) : Prop := ∃ f g : Nat → Nat, (∀ j, j < n → f j < n ∧ g j < n ∧ f (g j) = j ∧ g (f j) = j) ∧ ∀ j, j < n → E j = E0 (f j)
theorem own_rr_refl (n : Nat) (E : Nat → own_E) : own_rr n E E := ⟨id, id, fun _ h => ⟨h, h, rfl, rfl⟩, fun _ _ => rfl⟩
theorem own_rr_eq {n : Nat} {E E' E0 : Nat → own_E} (h : own_rr n E E0) (q : ∀ j, j < n → E' j = E j) : own_rr n E' E0 := by
  obtain ⟨f, g, h1, h2⟩ := h
  exact ⟨f, g, h1, fun j hj => (q j hj).trans (h2 j hj)⟩
theorem own_rr_trans {n : Nat} {E E' E0 : Nat → own_E} (h : own_rr n E E') (k : own_rr n E' E0) : own_rr n E E0 := by
  obtain ⟨f, g, h1, h2⟩ := h
  obtain ⟨f', g', k1, k2⟩ := k
  refine ⟨fun j => f' (f j), fun j => g (g' j), fun j hj => ?_, fun j hj => ?_⟩
  · obtain ⟨a1, a2, a3, a4⟩ := h1 j hj
    obtain ⟨b1, b2, b3, b4⟩ := k1 j hj
    obtain ⟨c1, c2, c3, c4⟩ := h1 _ b2
    obtain ⟨d1, d2, d3, d4⟩ := k1 _ a1
    exact ⟨d1, c2, by show f' (f (g (g' j))) = j; rw [c3, b3], by show g (g' (f' (f j))) = j; rw [d4, a4]⟩
  · rw [h2 j hj, k2 _ (h1 j hj).1]
theorem own_rr_swap {n i p : Nat} {E : Nat → own_E} (hi : i < n) (hp : p < n) : own_rr n (fun j => if j = i then E p else if j = p then E i else E j) E := by
  refine ⟨fun j => if j = i then p else if j = p then i else j, fun j => if j = i then p else if j = p then i else j, fun j hj => ?_, fun j hj => ?_⟩
  · by_cases h1 : j = i
    · subst h1
      by_cases h2 : p = j
      · subst h2; simp [hj]
      · simp [hp, h2]
    · by_cases h2 : j = p
      · subst h2; simp [h1, hi]
      · simp [h1, h2, hj]
  · by_cases h1 : j = i
    · simp [h1]
    · by_cases h2 : j = p
      · subst h2; simp [h1]
      · simp [h1, h2]
/-- the way up: a hole at i, the entry x in hand -/
def own_upI (n i : Nat) (E0 ee : Nat → own_E) (x : own_E) : Prop := i ≤ n ∧ own_rr (n + 1) (own_up ee i x) E0 ∧ (∀ j, 0 < j → j ≤ n → j ≠ i → ¬ own_bf (own_up ee i x j) (own_up ee i x ((j - 1) / 2))) ∧ (∀ j, 0 < j → j ≤ n → (j - 1) / 2 = i → 0 < i → ¬ own_bf (own_up ee i x j) (own_up ee i x ((i - 1) / 2)))
theorem own_up_start {n : Nat} {e : Nat → own_E} (h : own_heap n e) (x : own_E) : own_upI n n (own_up e n x) e x := by
  refine ⟨Nat.le_refl _, own_rr_refl _ _, fun j h0 h1 h2 => ?_, fun j h0 h1 h2 h3 => by omega⟩
  rw [own_up_ne h2, own_up_ne (by omega)]
  exact h j h0 (by omega)
theorem own_up_out {n i : Nat} {E0 ee : Nat → own_E} {x : own_E} (h : own_upI n i E0 ee x) (q : i = 0 ∨ ¬ own_bf x (ee ((i - 1) / 2))) : own_heap (n + 1) (own_up ee i x) ∧ own_rr (n + 1) (own_up ee i x) E0 := by
  obtain ⟨h1, h2, h3, h4⟩ := h
  refine ⟨fun j j0 j1 => ?_, h2⟩
  by_cases e : j = i
  · subst e
    rcases q with q | q
    · omega
    · rw [own_up_same, own_up_ne (by omega)]; exact q
  · exact h3 j j0 (by omega) e
theorem own_up_step {n i : Nat} {E0 ee : Nat → own_E} {x : own_E} (h : own_upI n i E0 ee x) (hi : 0 < i) (q : own_bf x (ee ((i - 1) / 2))) : own_upI n ((i - 1) / 2) E0 (own_up ee i (ee ((i - 1) / 2))) x := by
  obtain ⟨h1, h2, h3, h4⟩ := h
  generalize hp : (i - 1) / 2 = p at *
  have hpi : p < i := by omega
  have key : ∀ j, own_up (own_up ee i (ee p)) p x j = (if j = i then own_up ee i x p else if j = p then own_up ee i x i else own_up ee i x j) := fun j => by
    by_cases e1 : j = i
    · subst e1
      rw [if_pos rfl, own_up_ne (by omega), own_up_same, own_up_ne (by omega)]
    · rw [if_neg e1]
      by_cases e2 : j = p
      · subst e2
        rw [if_pos rfl, own_up_same, own_up_same]
      · rw [if_neg e2, own_up_ne e2, own_up_ne e1, own_up_ne e1]
  have kp : own_up (own_up ee i (ee p)) p x p = x := own_up_same _ _ _
  have ki : own_up (own_up ee i (ee p)) p x i = ee p := by rw [own_up_ne (by omega), own_up_same]
  have ko : ∀ j, j ≠ i → j ≠ p → own_up (own_up ee i (ee p)) p x j = own_up ee i x j := fun j e1 e2 => by rw [key, if_neg e1, if_neg e2]
  have xi : own_up ee i x i = x := own_up_same _ _ _
  have xp : own_up ee i x p = ee p := own_up_ne (by omega)
  refine ⟨by omega, own_rr_trans (own_rr_eq (own_rr_swap (i := i) (p := p) (by omega) (by omega)) fun j _ => key j) h2, fun j j0 j1 j2 => ?_, fun j j0 j1 j2 j3 => ?_⟩
  · by_cases e1 : j = i
    · subst e1
      rw [hp, ki, kp]
      exact own_bf_as q
    · rw [ko j e1 j2]
      by_cases e3 : (j - 1) / 2 = i
      · rw [e3, ki, ← xp]
        exact h4 j j0 j1 e3 hi
      · by_cases e4 : (j - 1) / 2 = p
        · rw [e4, kp]
          intro r
          have g := h3 j j0 j1 e1
          rw [e4, xp] at g
          exact g (own_bf_tr r q)
        · rw [ko _ e3 e4]
          exact h3 j j0 j1 e1
  · have hpp : (p - 1) / 2 ≠ i := by omega
    have hpp2 : (p - 1) / 2 ≠ p := by omega
    rw [ko _ hpp hpp2]
    have gp := h3 p j3 (by omega) (by omega)
    rw [xp] at gp
    by_cases e1 : j = i
    · subst e1
      rw [ki]; exact gp
    · rw [ko j e1 (by omega)]
      have g := h3 j j0 j1 e1
      rw [j2, xp] at g
      exact own_bf_nt g gp
/-- the least stands first -/
theorem own_least {n : Nat} {e : Nat → own_E} (h : own_heap n e) : ∀ j, j < n → ¬ own_bf (e j) (e 0) := fun j => by
  induction j using Nat.strongRecOn with
  | ind j ih =>
    intro hj
    by_cases e0 : j = 0
    · subst e0; exact own_bf_irr _
    · exact own_bf_nt (h j (by omega) hj) (ih ((j - 1) / 2) (by omega) (by omega))
/-- the way down: n places, a hole at i, the entry x in hand -/
def own_dnI (n i : Nat) (E0 ee : Nat → own_E) (x : own_E) : Prop := i < n ∧ own_rr n (own_up ee i x) E0 ∧ (∀ j, 0 < j → j < n → (j - 1) / 2 ≠ i → ¬ own_bf (own_up ee i x j) (own_up ee i x ((j - 1) / 2))) ∧ (∀ j, 0 < j → j < n → (j - 1) / 2 = i → 0 < i → ¬ own_bf (own_up ee i x j) (own_up ee i x ((i - 1) / 2)))
theorem own_dn_start {n : Nat} {e : Nat → own_E} (h : own_heap (n + 1) e) (hn : 0 < n) (x : own_E) : own_dnI n 0 (own_up e 0 x) e x := by
  refine ⟨hn, own_rr_refl _ _, fun j h0 h1 h2 => ?_, fun j h0 h1 h2 h3 => by omega⟩
  rw [own_up_ne (by omega), own_up_ne h2]
  exact h j h0 (by omega)
theorem own_dn_out {n i : Nat} {E0 ee : Nat → own_E} {x : own_E} (h : own_dnI n i E0 ee x) (q : ∀ j, 0 < j → j < n → (j - 1) / 2 = i → ¬ own_bf (ee j) x) : own_heap n (own_up ee i x) ∧ own_rr n (own_up ee i x) E0 := by
  obtain ⟨h1, h2, h3, h4⟩ := h
  refine ⟨fun j j0 j1 => ?_, h2⟩
  by_cases e : (j - 1) / 2 = i
  · have g := q j j0 j1 e
    rw [e, own_up_same, own_up_ne (by omega)]; exact g
  · exact h3 j j0 j1 e
theorem own_dn_step {n i c : Nat} {E0 ee : Nat → own_E} {x : own_E} (h : own_dnI n i E0 ee x) (hc : c < n) (hci : (c - 1) / 2 = i) (h0 : 0 < c) (q : own_bf (ee c) x) (hm : ∀ j, 0 < j → j < n → (j - 1) / 2 = i → ¬ own_bf (ee j) (ee c)) : own_dnI n c E0 (own_up ee i (ee c)) x := by
  obtain ⟨h1, h2, h3, h4⟩ := h
  have hic : i < c := by omega
  have key : ∀ j, own_up (own_up ee i (ee c)) c x j = (if j = i then own_up ee i x c else if j = c then own_up ee i x i else own_up ee i x j) := fun j => by
    by_cases e1 : j = i
    · subst e1
      rw [if_pos rfl, own_up_ne (by omega), own_up_same, own_up_ne (by omega)]
    · rw [if_neg e1]
      by_cases e2 : j = c
      · subst e2
        rw [if_pos rfl, own_up_same, own_up_same]
      · rw [if_neg e2, own_up_ne e2, own_up_ne e1, own_up_ne e1]
  have kc : own_up (own_up ee i (ee c)) c x c = x := own_up_same _ _ _
  have ki : own_up (own_up ee i (ee c)) c x i = ee c := by rw [own_up_ne (by omega), own_up_same]
  have ko : ∀ j, j ≠ i → j ≠ c → own_up (own_up ee i (ee c)) c x j = own_up ee i x j := fun j e1 e2 => by rw [key, if_neg e1, if_neg e2]
  have xi : own_up ee i x i = x := own_up_same _ _ _
  have xo : ∀ j, j ≠ i → own_up ee i x j = ee j := fun j e => own_up_ne e
  refine ⟨hc, own_rr_trans (own_rr_eq (own_rr_swap (i := i) (p := c) (by omega) (by omega)) fun j _ => key j) h2, fun j j0 j1 j2 => ?_, fun j j0 j1 j2 j3 => ?_⟩
  · by_cases e1 : j = i
    · subst e1
      rw [ki, ko _ (by omega) (by omega), ← xo c (by omega)]
      exact h4 c h0 hc hci (by omega)
    · by_cases e2 : j = c
      · subst e2
        rw [kc, hci, ki]
        exact own_bf_as q
      · rw [ko j e1 e2]
        by_cases e3 : (j - 1) / 2 = i
        · rw [e3, ki, xo j e1]
          exact hm j j0 j1 e3
        · rw [ko _ e3 j2]
          exact h3 j j0 j1 e3
  · have jc : j ≠ c := by omega
    have ji : j ≠ i := by omega
    rw [ko j ji jc, hci, ki]
    have g := h3 j j0 j1 (by omega)
    rw [j2, xo c (by omega)] at g
    exact g


theorem own_tn {n : Nat} (h : n < 2147483648) : (n.toInt32).toNatClampNeg = n := by
  simp only [Int32.toNatClampNeg, len_toInt (show n < 2 ^ 31 from h)]; rfl
theorem own_ti {n : Nat} (h : n < 2147483648) : (n.toInt32).toInt = n := len_toInt (show n < 2 ^ 31 from h)
theorem own_ltn {a b : Nat} (ha : a < 2147483648) (hb : b < 2147483648) : a.toInt32 < b.toInt32 ↔ a < b := by
  rw [Int32.lt_iff_toInt_lt, own_ti ha, own_ti hb]; omega
theorem own_bd {n m : Nat} (h : n < m) (hm : m < 2147483648) : 0 ≤ (n.toInt32).toInt ∧ (n.toInt32).toInt < (m : Nat) := by
  rw [own_ti (by omega)]; omega
theorem own_inc (n : Nat) : n.toInt32 + (1 : Int32) = (n + 1).toInt32 := (Int32.ofNat_add n 1).symm
theorem own_dec (n : Nat) : (n + 1).toInt32 - (1 : Int32) = n.toInt32 := by rw [← own_inc, Int32.add_sub_cancel]
theorem own_n64 {n : Nat} (hn : n < 63) : ¬ n.toInt32 = (64 : Int32) := fun q => by
  have h := own_ti (show n < 2147483648 by omega)
  rw [q] at h
  have q2 : (64 : Int32).toInt = 64 := by decide
  omega
theorem own_par64 : ∀ i : Fin 64, 0 < i.1 → (((i.1.toInt32 - (1 : Int32)).toUInt32 >>> ((1 : Int32) &&& 31).toUInt32).toInt32) = ((i.1 - 1) / 2).toInt32 := by decide +kernel
theorem own_half64 : ∀ i : Fin 64, ((i.1.toInt32.toUInt32 >>> ((1 : Int32) &&& 31).toUInt32).toInt32) = (i.1 / 2).toInt32 := by decide +kernel
theorem own_two64 : ∀ i : Fin 64, (((2 : Int32) * i.1.toInt32) + (1 : Int32)) = (2 * i.1 + 1).toInt32 := by decide +kernel


theorem own_up1 (e : Nat → own_E) (k j : Nat) (x : own_E) : (own_up e k x j).1 = if j = k then x.1 else (e j).1 := by unfold own_up; split <;> rfl
theorem own_up2 (e : Nat → own_E) (k j : Nat) (x : own_E) : (own_up e k x j).2.1 = if j = k then x.2.1 else (e j).2.1 := by unfold own_up; split <;> rfl
theorem own_up3 (e : Nat → own_E) (k j : Nat) (x : own_E) : (own_up e k x j).2.2 = if j = k then x.2.2 else (e j).2.2 := by unfold own_up; split <;> rfl

theorem d8_0 : decode prog_53_method_6_code 0 = .ok (.lload_n 0, 1) := by decide +kernel
theorem d8_1 : decode prog_53_method_6_code 1 = .ok (.lload_n 3, 1) := by decide +kernel
theorem d8_2 : decode prog_53_method_6_code 2 = .ok (.lcmp, 1) := by decide +kernel
theorem d8_3 : decode prog_53_method_6_code 3 = .ok (.ifCond .lt 15, 3) := by decide +kernel
theorem d8_6 : decode prog_53_method_6_code 6 = .ok (.lload_n 0, 1) := by decide +kernel
theorem d8_7 : decode prog_53_method_6_code 7 = .ok (.lload_n 3, 1) := by decide +kernel
theorem d8_8 : decode prog_53_method_6_code 8 = .ok (.lcmp, 1) := by decide +kernel
theorem d8_9 : decode prog_53_method_6_code 9 = .ok (.ifCond .ne 13, 3) := by decide +kernel
theorem d8_12 : decode prog_53_method_6_code 12 = .ok (.iload_n 2, 1) := by decide +kernel
theorem d8_13 : decode prog_53_method_6_code 13 = .ok (.iload 5, 2) := by decide +kernel
theorem d8_15 : decode prog_53_method_6_code 15 = .ok (.if_icmp .le 7, 3) := by decide +kernel
theorem d8_18 : decode prog_53_method_6_code 18 = .ok (.iconst 1, 1) := by decide +kernel
theorem d8_19 : decode prog_53_method_6_code 19 = .ok (.goto 4, 3) := by decide +kernel
theorem d8_22 : decode prog_53_method_6_code 22 = .ok (.iconst 0, 1) := by decide +kernel
theorem d8_23 : decode prog_53_method_6_code 23 = .ok (.ireturn, 1) := by decide +kernel
theorem pn_0 : plainName "com/example/brisk_maze/briskmaze/search/RankedFrontier" = true := by first | (simp [plainName, overriddenIn]; done) | decide +kernel
theorem ef_8 (m : MethodId) (q0 : Int64) (p1 : Int32) (q2 : Int64) (p3 : Int32) : entryFrame m #[(.long q0), (.int p1), (.long q2), (.int p3)] 6 = mkF m 0 #[.val (.long q0), .second, .val (.int p1), .val (.long q2), .second, .val (.int p3)] [] := by first | (simp [entryFrame, mkF, argsToLocals, Value.category]; done) | rfl
def f8_23 (q0 : Int64) (p1 : Int32) (q2 : Int64) (p3 : Int32) : Int32 := (if q0 < q2 then (1 : Int32) else (if q0 = q2 then (if p3 < p1 then (1 : Int32) else (0 : Int32)) else (0 : Int32)))
def f8_ret (q0 : Int64) (p1 : Int32) (q2 : Int64) (p3 : Int32) : Int32 := ((f8_23 q0 p1 q2 p3) &&& 1)

def Q8 (Z : State) (q0 : Int64) (p1 : Int32) (q2 : Int64) (p3 : Int32) (h0 : Heap) (n0 : Nat) (v : Option Value) (h : Heap) (L : List Loc) : Prop := v = some (.int (f8_ret q0 p1 q2 p3)) ∧ Fr n0 L ∧ h = h0
set_option maxRecDepth 65536 in
set_option maxHeartbeats 40000000 in
theorem rm8 (l : Launch) (Z : State) (a0 : Array Value) (hw : ∀ d ∈ tables_1, d.before a0 Z = true) (ws : List Jvm.Cond) (q0 : Int64) (p1 : Int32) (q2 : Int64) (p3 : Int32) (h0 : Heap) (n0 : Nat) (Z0 : n0 ≤ h0.size)  :
    MetFree l (⟨"com/example/brisk_maze/briskmaze/search/RankedFrontier", "precedes", "(JIJI)Z"⟩ : MethodName) (head1 (Jvm.Cond.code (⟨"com/example/brisk_maze/briskmaze/search/RankedFrontier", "precedes", "(JIJI)Z"⟩ : MethodName) prog_53_method_6_code 6 (some .boolean) :: ws) ({ frames := 0, cells := 0, slots := 0, locals := 0 } : Room)) (fun a U => a = #[(.long q0), (.int p1), (.long q2), (.int p3)] ∧ Z.Warmed39 U.vm ∧ U.heap = h0) (fun _ _ _ _ _ => True) (fun _ U o U' => ∃ v L, o = .returned v ∧ Q8 Z q0 p1 q2 p3 h0 n0 v U'.heap L ∧ FrameEnd U o U' L ({ frames := 0, cells := 0, slots := 0, locals := 0 } : Room).cells ({ frames := 0, cells := 0, slots := 0, locals := 0 } : Room).slots) := by
  refine MetFree.of_bodySF (plainFor_of_name pn_0) hisR ?_
  intro p e s m args below meth c s₁ Bd hml0 hP hK
  obtain ⟨rfl, hZ, hh⟩ := hP
  have hx := Bd.exec
  have hby := Bd.bytes
  have hml : c.maxLocals = 6 := hml0
  have hown : s.vm.findClass "com/example/brisk_maze/briskmaze/search/RankedFrontier" = some m.cls := findClass_of_methodNamed Bd.named
  have hnm := (name_of_methodNamed Bd.named Bd.method).1
  have X0 : Stand p l e ({ frames := 0, cells := 0, slots := 0, locals := 0 } : Room) s m #[(.long q0), (.int p1), (.long q2), (.int p3)] below meth c s₁ [] 0 0 := Stand.of_body Bd
  have e0 : s₁.heap = h0 := by rw [← hh, Bd.state]; rfl
  have N0 := Fr.nil n0
  have pre0 : ∀ t, Steps p.tables e below (s₁.setTop (mkF m 0 #[.val (.long q0), .second, .val (.int p1), .val (.long q2), .second, .val (.int p3)] [])) t → Steps p.tables e below (s₁.setTop (entryFrame m #[(.long q0), (.int p1), (.long q2), (.int p3)] 6)) t := fun t k => castTop (ef_8 m q0 p1 q2 p3) k
  have pre1 : ∀ t, Steps p.tables e below (s₁.setTop (mkF m 3 #[.val (.long q0), .second, .val (.int p1), .val (.long q2), .second, .val (.int p3)] [(.int (lcmpW q0 q2))])) t → Steps p.tables e below (s₁.setTop (entryFrame m #[(.long q0), (.int p1), (.long q2), (.int p3)] 6)) t := fun t k => pre0 t (by
    show Steps p.tables e below (s₁.setTop (mkF m 0 #[.val (.long q0), .second, .val (.int p1), .val (.long q2), .second, .val (.int p3)] [])) _
    refine XS.lloadN X0.here hx rfl (hb hby d8_0) rfl ?_
    show Steps p.tables e below (s₁.setTop (mkF m 1 #[.val (.long q0), .second, .val (.int p1), .val (.long q2), .second, .val (.int p3)] [(.long q0)])) _
    refine XS.lloadN X0.here hx rfl (hb hby d8_1) rfl ?_
    show Steps p.tables e below (s₁.setTop (mkF m 2 #[.val (.long q0), .second, .val (.int p1), .val (.long q2), .second, .val (.int p3)] [(.long q2), (.long q0)])) _
    refine XS.lcmp X0.here hx rfl (hb hby d8_2) rfl ?_
    show Steps p.tables e below (s₁.setTop (mkF m 3 #[.val (.long q0), .second, .val (.int p1), .val (.long q2), .second, .val (.int p3)] [(.int (lcmpW q0 q2))])) _
    exact k)
  have pre5 : ∀ t, Steps p.tables e below (s₁.setTop (mkF m 23 #[.val (.long q0), .second, .val (.int p1), .val (.long q2), .second, .val (.int p3)] [(.int (f8_23 q0 p1 q2 p3))])) t → Steps p.tables e below (s₁.setTop (entryFrame m #[(.long q0), (.int p1), (.long q2), (.int p3)] 6)) t := fun t k => pre1 t (by
    by_cases hf2 : q0 < q2
    · refine XS.ifYes X0.here hx rfl (pc0 := 3) (pc' := 18) rfl (hb hby d8_3) rfl (own_ltL hf2).1 (by decide) (by decide) ?_
      show Steps p.tables e below (s₁.setTop (mkF m 18 #[.val (.long q0), .second, .val (.int p1), .val (.long q2), .second, .val (.int p3)] [])) _
      refine XS.iconst X0.here hx rfl (hb hby d8_18) ?_
      show Steps p.tables e below (s₁.setTop (mkF m 19 #[.val (.long q0), .second, .val (.int p1), .val (.long q2), .second, .val (.int p3)] [(.int (1 : Int32))])) _
      refine XS.goto X0.here hx rfl (pc0 := 19) (pc' := 23) rfl (hb hby d8_19) (by decide) (by decide) ?_
      show Steps p.tables e below (s₁.setTop (mkF m 23 #[.val (.long q0), .second, .val (.int p1), .val (.long q2), .second, .val (.int p3)] [(.int (1 : Int32))])) _
      rw [show (f8_23 q0 p1 q2 p3) = ((1 : Int32) : Int32) from by simp only [f8_23, if_pos hf2]] at k
      exact k
    · refine XS.ifNo X0.here hx rfl (hb hby d8_3) rfl (own_fltL hf2).1 ?_
      show Steps p.tables e below (s₁.setTop (mkF m 6 #[.val (.long q0), .second, .val (.int p1), .val (.long q2), .second, .val (.int p3)] [])) _
      refine XS.lloadN X0.here hx rfl (hb hby d8_6) rfl ?_
      show Steps p.tables e below (s₁.setTop (mkF m 7 #[.val (.long q0), .second, .val (.int p1), .val (.long q2), .second, .val (.int p3)] [(.long q0)])) _
      refine XS.lloadN X0.here hx rfl (hb hby d8_7) rfl ?_
      show Steps p.tables e below (s₁.setTop (mkF m 8 #[.val (.long q0), .second, .val (.int p1), .val (.long q2), .second, .val (.int p3)] [(.long q2), (.long q0)])) _
      refine XS.lcmp X0.here hx rfl (hb hby d8_8) rfl ?_
      show Steps p.tables e below (s₁.setTop (mkF m 9 #[.val (.long q0), .second, .val (.int p1), .val (.long q2), .second, .val (.int p3)] [(.int (lcmpW q0 q2))])) _
      by_cases hf3 : q0 = q2
      · refine XS.ifNo X0.here hx rfl (hb hby d8_9) rfl (own_eqL hf3).2 ?_
        show Steps p.tables e below (s₁.setTop (mkF m 12 #[.val (.long q0), .second, .val (.int p1), .val (.long q2), .second, .val (.int p3)] [])) _
        refine XS.iloadN X0.here hx rfl (hb hby d8_12) rfl ?_
        show Steps p.tables e below (s₁.setTop (mkF m 13 #[.val (.long q0), .second, .val (.int p1), .val (.long q2), .second, .val (.int p3)] [(.int p1)])) _
        refine XS.iload X0.here hx rfl (hb hby d8_13) rfl ?_
        show Steps p.tables e below (s₁.setTop (mkF m 15 #[.val (.long q0), .second, .val (.int p1), .val (.long q2), .second, .val (.int p3)] [(.int p3), (.int p1)])) _
        by_cases hf4 : p3 < p1
        · refine XS.icmpNo X0.here hx rfl (hb hby d8_15) rfl (tlt hf4).2.2.2 ?_
          show Steps p.tables e below (s₁.setTop (mkF m 18 #[.val (.long q0), .second, .val (.int p1), .val (.long q2), .second, .val (.int p3)] [])) _
          refine XS.iconst X0.here hx rfl (hb hby d8_18) ?_
          show Steps p.tables e below (s₁.setTop (mkF m 19 #[.val (.long q0), .second, .val (.int p1), .val (.long q2), .second, .val (.int p3)] [(.int (1 : Int32))])) _
          refine XS.goto X0.here hx rfl (pc0 := 19) (pc' := 23) rfl (hb hby d8_19) (by decide) (by decide) ?_
          show Steps p.tables e below (s₁.setTop (mkF m 23 #[.val (.long q0), .second, .val (.int p1), .val (.long q2), .second, .val (.int p3)] [(.int (1 : Int32))])) _
          rw [show (f8_23 q0 p1 q2 p3) = ((1 : Int32) : Int32) from by simp only [f8_23, if_neg hf2, if_pos hf3, if_pos hf4]] at k
          exact k
        · refine XS.icmpYes X0.here hx rfl (pc0 := 15) (pc' := 22) rfl (hb hby d8_15) rfl (flt hf4).2.2.2 (by decide) (by decide) ?_
          show Steps p.tables e below (s₁.setTop (mkF m 22 #[.val (.long q0), .second, .val (.int p1), .val (.long q2), .second, .val (.int p3)] [])) _
          refine XS.iconst X0.here hx rfl (hb hby d8_22) ?_
          show Steps p.tables e below (s₁.setTop (mkF m 23 #[.val (.long q0), .second, .val (.int p1), .val (.long q2), .second, .val (.int p3)] [(.int (0 : Int32))])) _
          rw [show (f8_23 q0 p1 q2 p3) = ((0 : Int32) : Int32) from by simp only [f8_23, if_neg hf2, if_pos hf3, if_neg hf4]] at k
          exact k
      · refine XS.ifYes X0.here hx rfl (pc0 := 9) (pc' := 22) rfl (hb hby d8_9) rfl (own_neL hf3).2 (by decide) (by decide) ?_
        show Steps p.tables e below (s₁.setTop (mkF m 22 #[.val (.long q0), .second, .val (.int p1), .val (.long q2), .second, .val (.int p3)] [])) _
        refine XS.iconst X0.here hx rfl (hb hby d8_22) ?_
        show Steps p.tables e below (s₁.setTop (mkF m 23 #[.val (.long q0), .second, .val (.int p1), .val (.long q2), .second, .val (.int p3)] [(.int (0 : Int32))])) _
        rw [show (f8_23 q0 p1 q2 p3) = ((0 : Int32) : Int32) from by simp only [f8_23, if_neg hf2, if_neg hf3]] at k
        exact k)
  obtain ⟨fs, hr, hrun, hended, hW, hsame⟩ := X0.leave (v := some (.int ((f8_23 q0 p1 q2 p3) &&& 1))) (fun h => by rw [Bd.returns] at h; cases h)
  refine ⟨_, _, pre5 _ ?_, hrun, hended, _, _, rfl, ?_, ⟨_, rfl⟩, hW, hsame.mono (by decide) (by decide)⟩
  · exact retN X0 hx (t := .boolean) Bd.returns (by simp) (hb hby d8_23) hr
  · show Q8 Z q0 p1 q2 p3 h0 n0 _ s₁.heap _
    rw [e0]
    exact ⟨rfl, N0, rfl⟩

theorem own_pv (r : Int64) (c : Int32) (st : Int32) (y : own_E) : (((f8_ret r c y.1 y.2.1) &&& 1) = (0 : Int32)) ↔ ¬ own_bf (r, c, st) y := by
  unfold own_bf
  simp only [f8_ret, f8_23]
  by_cases h1 : r < y.1
  · rw [if_pos h1]; simp [h1]
  · rw [if_neg h1]
    by_cases h2 : r = y.1
    · rw [if_pos h2]
      by_cases h3 : y.2.1 < c
      · rw [if_pos h3]; simp [h2, h3]
      · rw [if_neg h3]; simp [h1, h2, h3]
    · rw [if_neg h2]; simp [h1, h2]
theorem own_pvr (x : own_E) (r : Int64) (c : Int32) (st : Int32) : ((f8_ret x.1 x.2.1 r c) = (0 : Int32)) ↔ ¬ own_bf x (r, c, st) := by
  unfold own_bf
  simp only [f8_ret, f8_23]
  by_cases h1 : x.1 < r
  · rw [if_pos h1]; simp [h1]
  · rw [if_neg h1]
    by_cases h2 : x.1 = r
    · rw [if_pos h2]
      by_cases h3 : c < x.2.1
      · rw [if_pos h3]; simp [h2, h3]
      · rw [if_neg h3]; simp [h1, h2, h3]
    · rw [if_neg h2]; simp [h1, h2]

theorem d7_0 : decode prog_53_method_5_code 0 = .ok (.lload_n 1, 1) := by decide +kernel
theorem d7_1 : decode prog_53_method_5_code 1 = .ok (.iload_n 3, 1) := by decide +kernel
theorem d7_2 : decode prog_53_method_5_code 2 = .ok (.aload_n 0, 1) := by decide +kernel
theorem d7_3 : decode prog_53_method_5_code 3 = .ok (.getfield 9, 3) := by decide +kernel
theorem d7_6 : decode prog_53_method_5_code 6 = .ok (.iload 4, 2) := by decide +kernel
theorem d7_8 : decode prog_53_method_5_code 8 = .ok (.laload, 1) := by decide +kernel
theorem d7_9 : decode prog_53_method_5_code 9 = .ok (.aload_n 0, 1) := by decide +kernel
theorem d7_10 : decode prog_53_method_5_code 10 = .ok (.getfield 13, 3) := by decide +kernel
theorem d7_13 : decode prog_53_method_5_code 13 = .ok (.iload 4, 2) := by decide +kernel
theorem d7_15 : decode prog_53_method_5_code 15 = .ok (.iaload, 1) := by decide +kernel
theorem d7_16 : decode prog_53_method_5_code 16 = .ok (.invokestatic 39, 3) := by decide +kernel
theorem d7_19 : decode prog_53_method_5_code 19 = .ok (.ireturn, 1) := by decide +kernel
theorem pd_0 : parseMethodDescriptor "(JIJI)Z" = some ⟨[.long, .int, .long, .int], some .boolean⟩ := by decide +kernel
theorem ef_7 (m : MethodId) (o0 : Addr) (q1 : Int64) (p2 : Int32) (p3 : Int32) : entryFrame m #[(.ref o0), (.long q1), (.int p2), (.int p3)] 5 = mkF m 0 #[.val (.ref o0), .val (.long q1), .second, .val (.int p2), .val (.int p3)] [] := by first | (simp [entryFrame, mkF, argsToLocals, Value.category]; done) | rfl

def Q7 (Z : State) (o0 : Addr) (q1 : Int64) (p2 : Int32) (p3 : Int32) (tr tc : Addr) (fe : Nat → own_E) (h0 : Heap) (n0 : Nat) (v : Option Value) (h : Heap) (L : List Loc) : Prop := v = some (.int ((f8_ret q1 p2 ((fe (p3 : Int32).toNatClampNeg).1) ((fe (p3 : Int32).toNatClampNeg).2.1)) &&& 1)) ∧ Fr n0 L ∧ h = h0
set_option maxRecDepth 65536 in
set_option maxHeartbeats 40000000 in
theorem rm7 (l : Launch) (Z : State) (a0 : Array Value) (hw : ∀ d ∈ tables_1, d.before a0 Z = true) (ws : List Jvm.Cond) (o0 : Addr) (q1 : Int64) (p2 : Int32) (p3 : Int32) (tr tc : Addr) (fe : Nat → own_E) (h0 : Heap) (n0 : Nat) (Z0 : n0 ≤ h0.size) (F_ranks_o0 : Fld Z h0 o0 "com/example/brisk_maze/briskmaze/search/RankedFrontier" "ranks" "[J" (.ref tr)) (F_costs_o0 : Fld Z h0 o0 "com/example/brisk_maze/briskmaze/search/RankedFrontier" "costs" "[I" (.ref tc)) (A_tr : own_A Z h0 tr .long 64 (fun kk => (.long (fe kk).1))) (A_tc : own_A Z h0 tc .int 64 (fun kk => (.int (fe kk).2.1))) (hix : 0 ≤ (p3 : Int32).toInt ∧ (p3 : Int32).toInt < (64 : Nat)) :
    MetFree l (⟨"com/example/brisk_maze/briskmaze/search/RankedFrontier", "precedes", "(JII)Z"⟩ : MethodName) (head1 (Jvm.Cond.code (⟨"com/example/brisk_maze/briskmaze/search/RankedFrontier", "precedes", "(JII)Z"⟩ : MethodName) prog_53_method_5_code 5 (some .boolean) :: ws) ({ frames := 1, cells := 0, slots := 0, locals := 17 } : Room)) (fun a U => a = #[(.ref o0), (.long q1), (.int p2), (.int p3)] ∧ Z.Warmed39 U.vm ∧ U.heap = h0) (fun _ _ _ _ _ => True) (fun _ U o U' => ∃ v L, o = .returned v ∧ Q7 Z o0 q1 p2 p3 tr tc fe h0 n0 v U'.heap L ∧ FrameEnd U o U' L ({ frames := 1, cells := 0, slots := 0, locals := 17 } : Room).cells ({ frames := 1, cells := 0, slots := 0, locals := 17 } : Room).slots) := by
  refine MetFree.of_bodySF (plainFor_of_name pn_0) hisR ?_
  intro p e s m args below meth c s₁ Bd hml0 hP hK
  obtain ⟨rfl, hZ, hh⟩ := hP
  have hx := Bd.exec
  have hby := Bd.bytes
  have hml : c.maxLocals = 5 := hml0
  have hown : s.vm.findClass "com/example/brisk_maze/briskmaze/search/RankedFrontier" = some m.cls := findClass_of_methodNamed Bd.named
  have hnm := (name_of_methodNamed Bd.named Bd.method).1
  have X0 : Stand p l e ({ frames := 1, cells := 0, slots := 0, locals := 17 } : Room) s m #[(.ref o0), (.long q1), (.int p2), (.int p3)] below meth c s₁ [] 0 0 := Stand.of_body Bd
  have e0 : s₁.heap = h0 := by rw [← hh, Bd.state]; rfl
  have N0 := Fr.nil n0
  have pre0 : ∀ t, Steps p.tables e below (s₁.setTop (mkF m 0 #[.val (.ref o0), .val (.long q1), .second, .val (.int p2), .val (.int p3)] [])) t → Steps p.tables e below (s₁.setTop (entryFrame m #[(.ref o0), (.long q1), (.int p2), (.int p3)] 5)) t := fun t k => castTop (ef_7 m o0 q1 p2 p3) k
  obtain ⟨T1, X1, e1, st1⟩ := getF X0 hx hZ hown (host := "") (Or.inl (hw _ (List.mem_of_getElem? (i := 11) rfl))) Via.refl e0 F_ranks_o0 (g := (mkF m 3 #[.val (.ref o0), .val (.long q1), .second, .val (.int p2), .val (.int p3)] [(.ref o0), (.int p2), (.long q1)])) rfl rfl (hb hby d7_3)
  have qa2 := A_tr
  obtain ⟨c2, Ar2, Sz2, H2⟩ := qa2
  have hi3 : 0 ≤ (p3 : Int32).toInt ∧ (p3 : Int32).toInt < (64 : Nat) := hix
  have hl3 : c2.slots[(p3 : Int32).toNatClampNeg]? = some (.long ((fe (p3 : Int32).toNatClampNeg).1)) := H2 _ (own_ix hi3)
  obtain ⟨T4, X4, e4, st4⟩ := getF X1 hx hZ hown (host := "") (Or.inl (hw _ (List.mem_of_getElem? (i := 14) rfl))) Via.refl e1 F_costs_o0 (g := (mkF m 10 #[.val (.ref o0), .val (.long q1), .second, .val (.int p2), .val (.int p3)] [(.ref o0), (.long ((fe (p3 : Int32).toNatClampNeg).1)), (.int p2), (.long q1)])) rfl rfl (hb hby d7_10)
  have qa5 := A_tc
  obtain ⟨c5, Ar5, Sz5, H5⟩ := qa5
  have hi6 : 0 ≤ (p3 : Int32).toInt ∧ (p3 : Int32).toInt < (64 : Nat) := hix
  have hl6 : c5.slots[(p3 : Int32).toNatClampNeg]? = some (.int ((fe (p3 : Int32).toNatClampNeg).2.1)) := H5 _ (own_ix hi6)
  obtain ⟨_, _, ⟨T7, L7, k7, n7⟩, -, X7, ⟨Lc7, hQ7, l7, y7, z7⟩, st7⟩ := Jvm.LawKit.callS X4 hx (y := (⟨"com/example/brisk_maze/briskmaze/search/RankedFrontier", "precedes", "(JIJI)Z"⟩ : MethodName)) hown (mvT hZ (hw _ (List.mem_of_getElem? (i := 43) rfl))) (mvT hZ (hw _ (List.mem_of_getElem? (i := 44) rfl))) (mvT hZ (hw _ (List.mem_of_getElem? (i := 3) rfl))) (mvT hZ (hw _ (List.mem_of_getElem? (i := 45) rfl))) (by decide) (backOf (W := 0) (rm8 l Z a0 hw [] q1 p2 ((fe (p3 : Int32).toNatClampNeg).1) ((fe (p3 : Int32).toNatClampNeg).2.1) h0 n0 Z0) hZ (hw _ (List.mem_of_getElem? (i := 45) rfl)) (hw _ (List.mem_of_getElem? (i := 3) rfl)) (by decide) (by decide)) (g := (mkF m 16 #[.val (.ref o0), .val (.long q1), .second, .val (.int p2), .val (.int p3)] [(.int ((fe (p3 : Int32).toNatClampNeg).2.1)), (.long ((fe (p3 : Int32).toNatClampNeg).1)), (.int p2), (.long q1)])) rfl (by rw [hml]; rfl) (argsL := [(.long q1), (.int p2), (.long ((fe (p3 : Int32).toNatClampNeg).1)), (.int ((fe (p3 : Int32).toNatClampNeg).2.1))]) (rest := []) (lenOf pd_0 rfl) rfl (by show 2 * 0 + _ ≤ _; exact Nat.le_of_eq rfl) (hb hby d7_16) (fun _ _ => ⟨rfl, e4, (by decide : 0 + 0 ≤ _), (by decide : 0 + 0 ≤ _)⟩)
  dsimp only [Pt.U, Pt.locs, Pt.cells, Pt.slots] at X7 l7 y7 z7 st7 hQ7
  subst l7 y7 z7
  obtain ⟨rfl, N7q, hh7⟩ := hQ7
  have N7 := Fr.app N0 N7q
  have pre8 : ∀ t, Steps p.tables e below (T7.setTop (mkF m 19 #[.val (.ref o0), .val (.long q1), .second, .val (.int p2), .val (.int p3)] [(.int (f8_ret q1 p2 ((fe (p3 : Int32).toNatClampNeg).1) ((fe (p3 : Int32).toNatClampNeg).2.1)))])) t → Steps p.tables e below (s₁.setTop (entryFrame m #[(.ref o0), (.long q1), (.int p2), (.int p3)] 5)) t := fun t k => pre0 t (by
    show Steps p.tables e below (s₁.setTop (mkF m 0 #[.val (.ref o0), .val (.long q1), .second, .val (.int p2), .val (.int p3)] [])) _
    refine XS.lloadN X0.here hx rfl (hb hby d7_0) rfl ?_
    show Steps p.tables e below (s₁.setTop (mkF m 1 #[.val (.ref o0), .val (.long q1), .second, .val (.int p2), .val (.int p3)] [(.long q1)])) _
    refine XS.iloadN X0.here hx rfl (hb hby d7_1) rfl ?_
    show Steps p.tables e below (s₁.setTop (mkF m 2 #[.val (.ref o0), .val (.long q1), .second, .val (.int p2), .val (.int p3)] [(.int p2), (.long q1)])) _
    refine XS.aloadN X0.here hx rfl (hb hby d7_2) rfl rfl ?_
    show Steps p.tables e below (s₁.setTop (mkF m 3 #[.val (.ref o0), .val (.long q1), .second, .val (.int p2), .val (.int p3)] [(.ref o0), (.int p2), (.long q1)])) _
    refine st1 _ ?_
    show Steps p.tables e below (T1.setTop (mkF m 6 #[.val (.ref o0), .val (.long q1), .second, .val (.int p2), .val (.int p3)] [(.ref tr), (.int p2), (.long q1)])) _
    refine XS.iload X1.here hx rfl (hb hby d7_6) rfl ?_
    show Steps p.tables e below (T1.setTop (mkF m 8 #[.val (.ref o0), .val (.long q1), .second, .val (.int p2), .val (.int p3)] [(.int p3), (.ref tr), (.int p2), (.long q1)])) _
    refine X1.laload hx (j := p3) (v := (.long ((fe (p3 : Int32).toNatClampNeg).1))) (by rw [e1]; exact Ar2.1) (State.isArrayOf_alike hZ.alike Ar2.2.1) Ar2.2.2 (own_in Sz2 hi3) hl3 (g := (mkF m 8 #[.val (.ref o0), .val (.long q1), .second, .val (.int p2), .val (.int p3)] [(.int p3), (.ref tr), (.int p2), (.long q1)])) rfl rfl (hb hby d7_8) _ ?_
    show Steps p.tables e below (T1.setTop (mkF m 9 #[.val (.ref o0), .val (.long q1), .second, .val (.int p2), .val (.int p3)] [(.long ((fe (p3 : Int32).toNatClampNeg).1)), (.int p2), (.long q1)])) _
    refine XS.aloadN X1.here hx rfl (hb hby d7_9) rfl rfl ?_
    show Steps p.tables e below (T1.setTop (mkF m 10 #[.val (.ref o0), .val (.long q1), .second, .val (.int p2), .val (.int p3)] [(.ref o0), (.long ((fe (p3 : Int32).toNatClampNeg).1)), (.int p2), (.long q1)])) _
    refine st4 _ ?_
    show Steps p.tables e below (T4.setTop (mkF m 13 #[.val (.ref o0), .val (.long q1), .second, .val (.int p2), .val (.int p3)] [(.ref tc), (.long ((fe (p3 : Int32).toNatClampNeg).1)), (.int p2), (.long q1)])) _
    refine XS.iload X4.here hx rfl (hb hby d7_13) rfl ?_
    show Steps p.tables e below (T4.setTop (mkF m 15 #[.val (.ref o0), .val (.long q1), .second, .val (.int p2), .val (.int p3)] [(.int p3), (.ref tc), (.long ((fe (p3 : Int32).toNatClampNeg).1)), (.int p2), (.long q1)])) _
    refine X4.iaload hx (j := p3) (v := (.int ((fe (p3 : Int32).toNatClampNeg).2.1))) (by rw [e4]; exact Ar5.1) (State.isArrayOf_alike hZ.alike Ar5.2.1) Ar5.2.2 (own_in Sz5 hi6) hl6 (g := (mkF m 15 #[.val (.ref o0), .val (.long q1), .second, .val (.int p2), .val (.int p3)] [(.int p3), (.ref tc), (.long ((fe (p3 : Int32).toNatClampNeg).1)), (.int p2), (.long q1)])) rfl rfl (hb hby d7_15) _ ?_
    show Steps p.tables e below (T4.setTop (mkF m 16 #[.val (.ref o0), .val (.long q1), .second, .val (.int p2), .val (.int p3)] [(.int ((fe (p3 : Int32).toNatClampNeg).2.1)), (.long ((fe (p3 : Int32).toNatClampNeg).1)), (.int p2), (.long q1)])) _
    refine st7 _ ?_
    show Steps p.tables e below (T7.setTop (mkF m 19 #[.val (.ref o0), .val (.long q1), .second, .val (.int p2), .val (.int p3)] [(.int (f8_ret q1 p2 ((fe (p3 : Int32).toNatClampNeg).1) ((fe (p3 : Int32).toNatClampNeg).2.1)))])) _
    exact k)
  obtain ⟨fs, hr, hrun, hended, hW, hsame⟩ := X7.leave (v := some (.int ((f8_ret q1 p2 ((fe (p3 : Int32).toNatClampNeg).1) ((fe (p3 : Int32).toNatClampNeg).2.1)) &&& 1))) (fun h => by rw [Bd.returns] at h; cases h)
  refine ⟨_, _, pre8 _ ?_, hrun, hended, _, _, rfl, ?_, ⟨_, rfl⟩, hW, hsame.mono (by decide) (by decide)⟩
  · exact retN X7 hx (t := .boolean) Bd.returns (by simp) (hb hby d7_19) hr
  · show Q7 Z o0 q1 p2 p3 tr tc fe h0 n0 _ T7.heap _
    rw [hh7]
    exact ⟨rfl, N7, rfl⟩
theorem d5_0 : decode prog_53_method_8_code 0 = .ok (.aload_n 0, 1) := by decide +kernel
theorem d5_1 : decode prog_53_method_8_code 1 = .ok (.getfield 9, 3) := by decide +kernel
theorem d5_4 : decode prog_53_method_8_code 4 = .ok (.iload_n 1, 1) := by decide +kernel
theorem d5_5 : decode prog_53_method_8_code 5 = .ok (.lload_n 2, 1) := by decide +kernel
theorem d5_6 : decode prog_53_method_8_code 6 = .ok (.lastore, 1) := by decide +kernel
theorem d5_7 : decode prog_53_method_8_code 7 = .ok (.aload_n 0, 1) := by decide +kernel
theorem d5_8 : decode prog_53_method_8_code 8 = .ok (.getfield 13, 3) := by decide +kernel
theorem d5_11 : decode prog_53_method_8_code 11 = .ok (.iload_n 1, 1) := by decide +kernel
theorem d5_12 : decode prog_53_method_8_code 12 = .ok (.iload 4, 2) := by decide +kernel
theorem d5_14 : decode prog_53_method_8_code 14 = .ok (.iastore, 1) := by decide +kernel
theorem d5_15 : decode prog_53_method_8_code 15 = .ok (.aload_n 0, 1) := by decide +kernel
theorem d5_16 : decode prog_53_method_8_code 16 = .ok (.getfield 17, 3) := by decide +kernel
theorem d5_19 : decode prog_53_method_8_code 19 = .ok (.iload_n 1, 1) := by decide +kernel
theorem d5_20 : decode prog_53_method_8_code 20 = .ok (.iload 5, 2) := by decide +kernel
theorem d5_22 : decode prog_53_method_8_code 22 = .ok (.iastore, 1) := by decide +kernel
theorem d5_23 : decode prog_53_method_8_code 23 = .ok (.return_, 1) := by decide +kernel
theorem ef_5 (m : MethodId) (o0 : Addr) (p1 : Int32) (q2 : Int64) (p3 : Int32) (p4 : Int32) : entryFrame m #[(.ref o0), (.int p1), (.long q2), (.int p3), (.int p4)] 6 = mkF m 0 #[.val (.ref o0), .val (.int p1), .val (.long q2), .second, .val (.int p3), .val (.int p4)] [] := by first | (simp [entryFrame, mkF, argsToLocals, Value.category]; done) | rfl

def Q5 (Z : State) (o0 : Addr) (p1 : Int32) (q2 : Int64) (p3 : Int32) (p4 : Int32) (tr tc ts : Addr) (fe : Nat → own_E) (h0 : Heap) (n0 : Nat) (v : Option Value) (h : Heap) (L : List Loc) : Prop := v = none ∧ Fr n0 L ∧ Keep h0 h [tr, tc, ts] ∧ (own_A Z h tr .long 64 (fun kk => (.long ((own_up fe (p1 : Int32).toNatClampNeg (q2, p3, p4)) kk).1))) ∧ (own_A Z h tc .int 64 (fun kk => (.int ((own_up fe (p1 : Int32).toNatClampNeg (q2, p3, p4)) kk).2.1))) ∧ (own_A Z h ts .int 64 (fun kk => (.int ((own_up fe (p1 : Int32).toNatClampNeg (q2, p3, p4)) kk).2.2)))
set_option maxRecDepth 65536 in
set_option maxHeartbeats 40000000 in
theorem rm5 (l : Launch) (Z : State) (a0 : Array Value) (hw : ∀ d ∈ tables_1, d.before a0 Z = true) (ws : List Jvm.Cond) (o0 : Addr) (p1 : Int32) (q2 : Int64) (p3 : Int32) (p4 : Int32) (tr tc ts : Addr) (fe : Nat → own_E) (h0 : Heap) (n0 : Nat) (Z0 : n0 ≤ h0.size) (F_ranks_o0 : Fld Z h0 o0 "com/example/brisk_maze/briskmaze/search/RankedFrontier" "ranks" "[J" (.ref tr)) (F_costs_o0 : Fld Z h0 o0 "com/example/brisk_maze/briskmaze/search/RankedFrontier" "costs" "[I" (.ref tc)) (F_states_o0 : Fld Z h0 o0 "com/example/brisk_maze/briskmaze/search/RankedFrontier" "states" "[I" (.ref ts)) (A_tr : own_A Z h0 tr .long 64 (fun kk => (.long (fe kk).1))) (A_tc : own_A Z h0 tc .int 64 (fun kk => (.int (fe kk).2.1))) (A_ts : own_A Z h0 ts .int 64 (fun kk => (.int (fe kk).2.2))) (g_tr : n0 ≤ tr) (g_tc : n0 ≤ tc) (g_ts : n0 ≤ ts) (ne_o0_tr : o0 ≠ tr) (ne_o0_tc : o0 ≠ tc) (ne_o0_ts : o0 ≠ ts) (ne_tr_tc : tr ≠ tc) (ne_tr_ts : tr ≠ ts) (ne_tc_ts : tc ≠ ts) (hix : 0 ≤ (p1 : Int32).toInt ∧ (p1 : Int32).toInt < (64 : Nat)) :
    MetFree l (⟨"com/example/brisk_maze/briskmaze/search/RankedFrontier", "place", "(IJII)V"⟩ : MethodName) (head1 (Jvm.Cond.code (⟨"com/example/brisk_maze/briskmaze/search/RankedFrontier", "place", "(IJII)V"⟩ : MethodName) prog_53_method_8_code 6 none :: ws) ({ frames := 0, cells := 0, slots := 0, locals := 0 } : Room)) (fun a U => a = #[(.ref o0), (.int p1), (.long q2), (.int p3), (.int p4)] ∧ Z.Warmed39 U.vm ∧ U.heap = h0) (fun _ _ _ _ _ => True) (fun _ U o U' => ∃ v L, o = .returned v ∧ Q5 Z o0 p1 q2 p3 p4 tr tc ts fe h0 n0 v U'.heap L ∧ FrameEnd U o U' L ({ frames := 0, cells := 0, slots := 0, locals := 0 } : Room).cells ({ frames := 0, cells := 0, slots := 0, locals := 0 } : Room).slots) := by
  refine MetFree.of_bodySF (plainFor_of_name pn_0) hisR ?_
  intro p e s m args below meth c s₁ Bd hml0 hP hK
  obtain ⟨rfl, hZ, hh⟩ := hP
  have hx := Bd.exec
  have hby := Bd.bytes
  have hml : c.maxLocals = 6 := hml0
  have hown : s.vm.findClass "com/example/brisk_maze/briskmaze/search/RankedFrontier" = some m.cls := findClass_of_methodNamed Bd.named
  have hnm := (name_of_methodNamed Bd.named Bd.method).1
  have X0 : Stand p l e ({ frames := 0, cells := 0, slots := 0, locals := 0 } : Room) s m #[(.ref o0), (.int p1), (.long q2), (.int p3), (.int p4)] below meth c s₁ [] 0 0 := Stand.of_body Bd
  have e0 : s₁.heap = h0 := by rw [← hh, Bd.state]; rfl
  have N0 := Fr.nil n0
  have pre0 : ∀ t, Steps p.tables e below (s₁.setTop (mkF m 0 #[.val (.ref o0), .val (.int p1), .val (.long q2), .second, .val (.int p3), .val (.int p4)] [])) t → Steps p.tables e below (s₁.setTop (entryFrame m #[(.ref o0), (.int p1), (.long q2), (.int p3), (.int p4)] 6)) t := fun t k => castTop (ef_5 m o0 p1 q2 p3 p4) k
  obtain ⟨T1, X1, e1, st1⟩ := getF X0 hx hZ hown (host := "") (Or.inl (hw _ (List.mem_of_getElem? (i := 11) rfl))) Via.refl e0 F_ranks_o0 (g := (mkF m 1 #[.val (.ref o0), .val (.int p1), .val (.long q2), .second, .val (.int p3), .val (.int p4)] [(.ref o0)])) rfl rfl (hb hby d5_1)
  have qa2 := A_tr
  obtain ⟨c2, Ar2, Sz2, H2⟩ := qa2
  have hi3 : 0 ≤ (p1 : Int32).toInt ∧ (p1 : Int32).toInt < (64 : Nat) := hix
  obtain ⟨T3, h3, X3, e3, W3, st3⟩ := stJ X1 hx hZ e1 Ar2 (j := p1) (own_in Sz2 hi3) (g := (mkF m 6 #[.val (.ref o0), .val (.int p1), .val (.long q2), .second, .val (.int p3), .val (.int p4)] [(.long q2), (.int p1), (.ref tr)])) rfl rfl (hb hby d5_6)
  have N3 := Fr.snoc X3 N0 g_tr
  have A_tr_w3 : own_A Z h3 tr .long 64 (fun kk => (.long (if kk = (p1 : Int32).toNatClampNeg then q2 else (fe kk).1))) := own_A.setJ A_tr W3
  have F_ranks_o0_4 : Fld Z h3 o0 "com/example/brisk_maze/briskmaze/search/RankedFrontier" "ranks" "[J" (.ref tr) := (F_ranks_o0).other W3 (Or.inl ne_o0_tr)
  have F_costs_o0_4 : Fld Z h3 o0 "com/example/brisk_maze/briskmaze/search/RankedFrontier" "costs" "[I" (.ref tc) := (F_costs_o0).other W3 (Or.inl ne_o0_tr)
  have F_states_o0_4 : Fld Z h3 o0 "com/example/brisk_maze/briskmaze/search/RankedFrontier" "states" "[I" (.ref ts) := (F_states_o0).other W3 (Or.inl ne_o0_tr)
  have A_tc_4 : own_A Z h3 tc .int 64 (fun kk => (.int (fe kk).2.1)) := (A_tc).other W3 (Ne.symm ne_tr_tc)
  have A_ts_4 : own_A Z h3 ts .int 64 (fun kk => (.int (fe kk).2.2)) := (A_ts).other W3 (Ne.symm ne_tr_ts)
  have SZ5 : h0.size ≤ h3.size := by rw [W3.size]; exact (Nat.le_refl _)
  have ZZ5 : n0 ≤ h3.size := Nat.le_trans Z0 SZ5
  have K6 : Keep h0 h3 [tr, tc, ts] := ((Keep.refl h0 [tr, tc, ts])).wr W3 (Or.inl (List.mem_of_getElem? (i := 0) rfl))
  obtain ⟨T7, X7, e7, st7⟩ := getF X3 hx hZ hown (host := "") (Or.inl (hw _ (List.mem_of_getElem? (i := 14) rfl))) Via.refl e3 F_costs_o0_4 (g := (mkF m 8 #[.val (.ref o0), .val (.int p1), .val (.long q2), .second, .val (.int p3), .val (.int p4)] [(.ref o0)])) rfl rfl (hb hby d5_8)
  have qa8 := A_tc_4
  obtain ⟨c8, Ar8, Sz8, H8⟩ := qa8
  have hi9 : 0 ≤ (p1 : Int32).toInt ∧ (p1 : Int32).toInt < (64 : Nat) := hix
  obtain ⟨T9, h9, X9, e9, W9, st9⟩ := stI X7 hx hZ e7 Ar8 (j := p1) (own_in Sz8 hi9) (g := (mkF m 14 #[.val (.ref o0), .val (.int p1), .val (.long q2), .second, .val (.int p3), .val (.int p4)] [(.int p3), (.int p1), (.ref tc)])) rfl rfl (hb hby d5_14)
  have N9 := Fr.snoc X9 N3 g_tc
  have A_tc_w9 : own_A Z h9 tc .int 64 (fun kk => (.int (if kk = (p1 : Int32).toNatClampNeg then p3 else (fe kk).2.1))) := own_A.setI A_tc_4 W9
  have F_ranks_o0_10 : Fld Z h9 o0 "com/example/brisk_maze/briskmaze/search/RankedFrontier" "ranks" "[J" (.ref tr) := (F_ranks_o0_4).other W9 (Or.inl ne_o0_tc)
  have F_costs_o0_10 : Fld Z h9 o0 "com/example/brisk_maze/briskmaze/search/RankedFrontier" "costs" "[I" (.ref tc) := (F_costs_o0_4).other W9 (Or.inl ne_o0_tc)
  have F_states_o0_10 : Fld Z h9 o0 "com/example/brisk_maze/briskmaze/search/RankedFrontier" "states" "[I" (.ref ts) := (F_states_o0_4).other W9 (Or.inl ne_o0_tc)
  have A_ts_10 : own_A Z h9 ts .int 64 (fun kk => (.int (fe kk).2.2)) := (A_ts_4).other W9 (Ne.symm ne_tc_ts)
  have A_tr_10 : own_A Z h9 tr .long 64 (fun kk => (.long (if kk = (p1 : Int32).toNatClampNeg then q2 else (fe kk).1))) := (A_tr_w3).other W9 ne_tr_tc
  have SZ11 : h0.size ≤ h9.size := by rw [W9.size]; exact SZ5
  have ZZ11 : n0 ≤ h9.size := Nat.le_trans Z0 SZ11
  have K12 : Keep h0 h9 [tr, tc, ts] := (K6).wr W9 (Or.inl (List.mem_of_getElem? (i := 1) rfl))
  obtain ⟨T13, X13, e13, st13⟩ := getF X9 hx hZ hown (host := "") (Or.inl (hw _ (List.mem_of_getElem? (i := 16) rfl))) Via.refl e9 F_states_o0_10 (g := (mkF m 16 #[.val (.ref o0), .val (.int p1), .val (.long q2), .second, .val (.int p3), .val (.int p4)] [(.ref o0)])) rfl rfl (hb hby d5_16)
  have qa14 := A_ts_10
  obtain ⟨c14, Ar14, Sz14, H14⟩ := qa14
  have hi15 : 0 ≤ (p1 : Int32).toInt ∧ (p1 : Int32).toInt < (64 : Nat) := hix
  obtain ⟨T15, h15, X15, e15, W15, st15⟩ := stI X13 hx hZ e13 Ar14 (j := p1) (own_in Sz14 hi15) (g := (mkF m 22 #[.val (.ref o0), .val (.int p1), .val (.long q2), .second, .val (.int p3), .val (.int p4)] [(.int p4), (.int p1), (.ref ts)])) rfl rfl (hb hby d5_22)
  have N15 := Fr.snoc X15 N9 g_ts
  have A_ts_w15 : own_A Z h15 ts .int 64 (fun kk => (.int (if kk = (p1 : Int32).toNatClampNeg then p4 else (fe kk).2.2))) := own_A.setI A_ts_10 W15
  have F_ranks_o0_16 : Fld Z h15 o0 "com/example/brisk_maze/briskmaze/search/RankedFrontier" "ranks" "[J" (.ref tr) := (F_ranks_o0_10).other W15 (Or.inl ne_o0_ts)
  have F_costs_o0_16 : Fld Z h15 o0 "com/example/brisk_maze/briskmaze/search/RankedFrontier" "costs" "[I" (.ref tc) := (F_costs_o0_10).other W15 (Or.inl ne_o0_ts)
  have F_states_o0_16 : Fld Z h15 o0 "com/example/brisk_maze/briskmaze/search/RankedFrontier" "states" "[I" (.ref ts) := (F_states_o0_10).other W15 (Or.inl ne_o0_ts)
  have A_tr_16 : own_A Z h15 tr .long 64 (fun kk => (.long (if kk = (p1 : Int32).toNatClampNeg then q2 else (fe kk).1))) := (A_tr_10).other W15 ne_tr_ts
  have A_tc_16 : own_A Z h15 tc .int 64 (fun kk => (.int (if kk = (p1 : Int32).toNatClampNeg then p3 else (fe kk).2.1))) := (A_tc_w9).other W15 ne_tc_ts
  have SZ17 : h0.size ≤ h15.size := by rw [W15.size]; exact SZ11
  have ZZ17 : n0 ≤ h15.size := Nat.le_trans Z0 SZ17
  have K18 : Keep h0 h15 [tr, tc, ts] := (K12).wr W15 (Or.inl (List.mem_of_getElem? (i := 2) rfl))
  have pre19 : ∀ t, Steps p.tables e below (T15.setTop (mkF m 23 #[.val (.ref o0), .val (.int p1), .val (.long q2), .second, .val (.int p3), .val (.int p4)] [])) t → Steps p.tables e below (s₁.setTop (entryFrame m #[(.ref o0), (.int p1), (.long q2), (.int p3), (.int p4)] 6)) t := fun t k => pre0 t (by
    show Steps p.tables e below (s₁.setTop (mkF m 0 #[.val (.ref o0), .val (.int p1), .val (.long q2), .second, .val (.int p3), .val (.int p4)] [])) _
    refine XS.aloadN X0.here hx rfl (hb hby d5_0) rfl rfl ?_
    show Steps p.tables e below (s₁.setTop (mkF m 1 #[.val (.ref o0), .val (.int p1), .val (.long q2), .second, .val (.int p3), .val (.int p4)] [(.ref o0)])) _
    refine st1 _ ?_
    show Steps p.tables e below (T1.setTop (mkF m 4 #[.val (.ref o0), .val (.int p1), .val (.long q2), .second, .val (.int p3), .val (.int p4)] [(.ref tr)])) _
    refine XS.iloadN X1.here hx rfl (hb hby d5_4) rfl ?_
    show Steps p.tables e below (T1.setTop (mkF m 5 #[.val (.ref o0), .val (.int p1), .val (.long q2), .second, .val (.int p3), .val (.int p4)] [(.int p1), (.ref tr)])) _
    refine XS.lloadN X1.here hx rfl (hb hby d5_5) rfl ?_
    show Steps p.tables e below (T1.setTop (mkF m 6 #[.val (.ref o0), .val (.int p1), .val (.long q2), .second, .val (.int p3), .val (.int p4)] [(.long q2), (.int p1), (.ref tr)])) _
    refine st3 _ ?_
    show Steps p.tables e below (T3.setTop (mkF m 7 #[.val (.ref o0), .val (.int p1), .val (.long q2), .second, .val (.int p3), .val (.int p4)] [])) _
    refine XS.aloadN X3.here hx rfl (hb hby d5_7) rfl rfl ?_
    show Steps p.tables e below (T3.setTop (mkF m 8 #[.val (.ref o0), .val (.int p1), .val (.long q2), .second, .val (.int p3), .val (.int p4)] [(.ref o0)])) _
    refine st7 _ ?_
    show Steps p.tables e below (T7.setTop (mkF m 11 #[.val (.ref o0), .val (.int p1), .val (.long q2), .second, .val (.int p3), .val (.int p4)] [(.ref tc)])) _
    refine XS.iloadN X7.here hx rfl (hb hby d5_11) rfl ?_
    show Steps p.tables e below (T7.setTop (mkF m 12 #[.val (.ref o0), .val (.int p1), .val (.long q2), .second, .val (.int p3), .val (.int p4)] [(.int p1), (.ref tc)])) _
    refine XS.iload X7.here hx rfl (hb hby d5_12) rfl ?_
    show Steps p.tables e below (T7.setTop (mkF m 14 #[.val (.ref o0), .val (.int p1), .val (.long q2), .second, .val (.int p3), .val (.int p4)] [(.int p3), (.int p1), (.ref tc)])) _
    refine st9 _ ?_
    show Steps p.tables e below (T9.setTop (mkF m 15 #[.val (.ref o0), .val (.int p1), .val (.long q2), .second, .val (.int p3), .val (.int p4)] [])) _
    refine XS.aloadN X9.here hx rfl (hb hby d5_15) rfl rfl ?_
    show Steps p.tables e below (T9.setTop (mkF m 16 #[.val (.ref o0), .val (.int p1), .val (.long q2), .second, .val (.int p3), .val (.int p4)] [(.ref o0)])) _
    refine st13 _ ?_
    show Steps p.tables e below (T13.setTop (mkF m 19 #[.val (.ref o0), .val (.int p1), .val (.long q2), .second, .val (.int p3), .val (.int p4)] [(.ref ts)])) _
    refine XS.iloadN X13.here hx rfl (hb hby d5_19) rfl ?_
    show Steps p.tables e below (T13.setTop (mkF m 20 #[.val (.ref o0), .val (.int p1), .val (.long q2), .second, .val (.int p3), .val (.int p4)] [(.int p1), (.ref ts)])) _
    refine XS.iload X13.here hx rfl (hb hby d5_20) rfl ?_
    show Steps p.tables e below (T13.setTop (mkF m 22 #[.val (.ref o0), .val (.int p1), .val (.long q2), .second, .val (.int p3), .val (.int p4)] [(.int p4), (.int p1), (.ref ts)])) _
    refine st15 _ ?_
    show Steps p.tables e below (T15.setTop (mkF m 23 #[.val (.ref o0), .val (.int p1), .val (.long q2), .second, .val (.int p3), .val (.int p4)] [])) _
    exact k)
  obtain ⟨fs, hr, hrun, hended, hW, hsame⟩ := X15.leave (v := none) (fun _ => rfl)
  refine ⟨_, _, pre19 _ ?_, hrun, hended, _, _, rfl, ?_, ⟨_, rfl⟩, hW, hsame.mono (by decide) (by decide)⟩
  · exact X15.returnOut hx Bd.returns (hb hby d5_23) hr
  · show Q5 Z o0 p1 q2 p3 p4 tr tc ts fe h0 n0 _ T15.heap _
    rw [e15]
    exact ⟨rfl, N15, K18, (own_A.eqv A_tr_16 (fun j _ => congrArg Value.long (own_up1 fe _ j (q2, p3, p4)).symm)), (own_A.eqv A_tc_16 (fun j _ => congrArg Value.int (own_up2 fe _ j (q2, p3, p4)).symm)), (own_A.eqv A_ts_w15 (fun j _ => congrArg Value.int (own_up3 fe _ j (q2, p3, p4)).symm))⟩
theorem d9_0 : decode prog_53_method_7_code 0 = .ok (.aload_n 0, 1) := by decide +kernel
theorem d9_1 : decode prog_53_method_7_code 1 = .ok (.iload_n 2, 1) := by decide +kernel
theorem d9_2 : decode prog_53_method_7_code 2 = .ok (.aload_n 0, 1) := by decide +kernel
theorem d9_3 : decode prog_53_method_7_code 3 = .ok (.getfield 9, 3) := by decide +kernel
theorem d9_6 : decode prog_53_method_7_code 6 = .ok (.iload_n 1, 1) := by decide +kernel
theorem d9_7 : decode prog_53_method_7_code 7 = .ok (.laload, 1) := by decide +kernel
theorem d9_8 : decode prog_53_method_7_code 8 = .ok (.aload_n 0, 1) := by decide +kernel
theorem d9_9 : decode prog_53_method_7_code 9 = .ok (.getfield 13, 3) := by decide +kernel
theorem d9_12 : decode prog_53_method_7_code 12 = .ok (.iload_n 1, 1) := by decide +kernel
theorem d9_13 : decode prog_53_method_7_code 13 = .ok (.iaload, 1) := by decide +kernel
theorem d9_14 : decode prog_53_method_7_code 14 = .ok (.aload_n 0, 1) := by decide +kernel
theorem d9_15 : decode prog_53_method_7_code 15 = .ok (.getfield 17, 3) := by decide +kernel
theorem d9_18 : decode prog_53_method_7_code 18 = .ok (.iload_n 1, 1) := by decide +kernel
theorem d9_19 : decode prog_53_method_7_code 19 = .ok (.iaload, 1) := by decide +kernel
theorem d9_20 : decode prog_53_method_7_code 20 = .ok (.invokevirtual 35, 3) := by decide +kernel
theorem d9_23 : decode prog_53_method_7_code 23 = .ok (.return_, 1) := by decide +kernel
theorem pd_1 : parseMethodDescriptor "(IJII)V" = some ⟨[.int, .long, .int, .int], none⟩ := by decide +kernel
theorem ef_9 (m : MethodId) (o0 : Addr) (p1 : Int32) (p2 : Int32) : entryFrame m #[(.ref o0), (.int p1), (.int p2)] 3 = mkF m 0 #[.val (.ref o0), .val (.int p1), .val (.int p2)] [] := by first | (simp [entryFrame, mkF, argsToLocals, Value.category]; done) | rfl

def Q9 (Z : State) (o0 : Addr) (p1 : Int32) (p2 : Int32) (tr tc ts : Addr) (fe : Nat → own_E) (h0 : Heap) (n0 : Nat) (v : Option Value) (h : Heap) (L : List Loc) : Prop := v = none ∧ Fr n0 L ∧ Keep h0 h [tr, tc, ts] ∧ (own_A Z h tr .long 64 (fun kk => (.long ((own_up fe (p2 : Int32).toNatClampNeg (fe (p1 : Int32).toNatClampNeg)) kk).1))) ∧ (own_A Z h tc .int 64 (fun kk => (.int ((own_up fe (p2 : Int32).toNatClampNeg (fe (p1 : Int32).toNatClampNeg)) kk).2.1))) ∧ (own_A Z h ts .int 64 (fun kk => (.int ((own_up fe (p2 : Int32).toNatClampNeg (fe (p1 : Int32).toNatClampNeg)) kk).2.2)))
set_option maxRecDepth 65536 in
set_option maxHeartbeats 40000000 in
theorem rm9 (l : Launch) (Z : State) (a0 : Array Value) (hw : ∀ d ∈ tables_1, d.before a0 Z = true) (ws : List Jvm.Cond) (o0 : Addr) (p1 : Int32) (p2 : Int32) (tr tc ts : Addr) (fe : Nat → own_E) (h0 : Heap) (n0 : Nat) (Z0 : n0 ≤ h0.size) (F_ranks_o0 : Fld Z h0 o0 "com/example/brisk_maze/briskmaze/search/RankedFrontier" "ranks" "[J" (.ref tr)) (F_costs_o0 : Fld Z h0 o0 "com/example/brisk_maze/briskmaze/search/RankedFrontier" "costs" "[I" (.ref tc)) (F_states_o0 : Fld Z h0 o0 "com/example/brisk_maze/briskmaze/search/RankedFrontier" "states" "[I" (.ref ts)) (E_o0 : Exa Z h0 o0 "com/example/brisk_maze/briskmaze/search/RankedFrontier") (A_tr : own_A Z h0 tr .long 64 (fun kk => (.long (fe kk).1))) (A_tc : own_A Z h0 tc .int 64 (fun kk => (.int (fe kk).2.1))) (A_ts : own_A Z h0 ts .int 64 (fun kk => (.int (fe kk).2.2))) (g_tr : n0 ≤ tr) (g_tc : n0 ≤ tc) (g_ts : n0 ≤ ts) (ne_o0_tr : o0 ≠ tr) (ne_o0_tc : o0 ≠ tc) (ne_o0_ts : o0 ≠ ts) (ne_tr_tc : tr ≠ tc) (ne_tr_ts : tr ≠ ts) (ne_tc_ts : tc ≠ ts) (hix1 : 0 ≤ (p1 : Int32).toInt ∧ (p1 : Int32).toInt < (64 : Nat)) (hix2 : 0 ≤ (p2 : Int32).toInt ∧ (p2 : Int32).toInt < (64 : Nat)) :
    MetFree l (⟨"com/example/brisk_maze/briskmaze/search/RankedFrontier", "move", "(II)V"⟩ : MethodName) (head1 (Jvm.Cond.code (⟨"com/example/brisk_maze/briskmaze/search/RankedFrontier", "move", "(II)V"⟩ : MethodName) prog_53_method_7_code 3 none :: ws) ({ frames := 1, cells := 0, slots := 0, locals := 17 } : Room)) (fun a U => a = #[(.ref o0), (.int p1), (.int p2)] ∧ Z.Warmed39 U.vm ∧ U.heap = h0) (fun _ _ _ _ _ => True) (fun _ U o U' => ∃ v L, o = .returned v ∧ Q9 Z o0 p1 p2 tr tc ts fe h0 n0 v U'.heap L ∧ FrameEnd U o U' L ({ frames := 1, cells := 0, slots := 0, locals := 17 } : Room).cells ({ frames := 1, cells := 0, slots := 0, locals := 17 } : Room).slots) := by
  refine MetFree.of_bodySF (plainFor_of_name pn_0) hisR ?_
  intro p e s m args below meth c s₁ Bd hml0 hP hK
  obtain ⟨rfl, hZ, hh⟩ := hP
  have hx := Bd.exec
  have hby := Bd.bytes
  have hml : c.maxLocals = 3 := hml0
  have hown : s.vm.findClass "com/example/brisk_maze/briskmaze/search/RankedFrontier" = some m.cls := findClass_of_methodNamed Bd.named
  have hnm := (name_of_methodNamed Bd.named Bd.method).1
  have X0 : Stand p l e ({ frames := 1, cells := 0, slots := 0, locals := 17 } : Room) s m #[(.ref o0), (.int p1), (.int p2)] below meth c s₁ [] 0 0 := Stand.of_body Bd
  have e0 : s₁.heap = h0 := by rw [← hh, Bd.state]; rfl
  have N0 := Fr.nil n0
  have pre0 : ∀ t, Steps p.tables e below (s₁.setTop (mkF m 0 #[.val (.ref o0), .val (.int p1), .val (.int p2)] [])) t → Steps p.tables e below (s₁.setTop (entryFrame m #[(.ref o0), (.int p1), (.int p2)] 3)) t := fun t k => castTop (ef_9 m o0 p1 p2) k
  obtain ⟨T1, X1, e1, st1⟩ := getF X0 hx hZ hown (host := "") (Or.inl (hw _ (List.mem_of_getElem? (i := 11) rfl))) Via.refl e0 F_ranks_o0 (g := (mkF m 3 #[.val (.ref o0), .val (.int p1), .val (.int p2)] [(.ref o0), (.int p2), (.ref o0)])) rfl rfl (hb hby d9_3)
  have qa2 := A_tr
  obtain ⟨c2, Ar2, Sz2, H2⟩ := qa2
  have hi3 : 0 ≤ (p1 : Int32).toInt ∧ (p1 : Int32).toInt < (64 : Nat) := hix1
  have hl3 : c2.slots[(p1 : Int32).toNatClampNeg]? = some (.long ((fe (p1 : Int32).toNatClampNeg).1)) := H2 _ (own_ix hi3)
  obtain ⟨T4, X4, e4, st4⟩ := getF X1 hx hZ hown (host := "") (Or.inl (hw _ (List.mem_of_getElem? (i := 14) rfl))) Via.refl e1 F_costs_o0 (g := (mkF m 9 #[.val (.ref o0), .val (.int p1), .val (.int p2)] [(.ref o0), (.long ((fe (p1 : Int32).toNatClampNeg).1)), (.int p2), (.ref o0)])) rfl rfl (hb hby d9_9)
  have qa5 := A_tc
  obtain ⟨c5, Ar5, Sz5, H5⟩ := qa5
  have hi6 : 0 ≤ (p1 : Int32).toInt ∧ (p1 : Int32).toInt < (64 : Nat) := hix1
  have hl6 : c5.slots[(p1 : Int32).toNatClampNeg]? = some (.int ((fe (p1 : Int32).toNatClampNeg).2.1)) := H5 _ (own_ix hi6)
  obtain ⟨T7, X7, e7, st7⟩ := getF X4 hx hZ hown (host := "") (Or.inl (hw _ (List.mem_of_getElem? (i := 16) rfl))) Via.refl e4 F_states_o0 (g := (mkF m 15 #[.val (.ref o0), .val (.int p1), .val (.int p2)] [(.ref o0), (.int ((fe (p1 : Int32).toNatClampNeg).2.1)), (.long ((fe (p1 : Int32).toNatClampNeg).1)), (.int p2), (.ref o0)])) rfl rfl (hb hby d9_15)
  have qa8 := A_ts
  obtain ⟨c8, Ar8, Sz8, H8⟩ := qa8
  have hi9 : 0 ≤ (p1 : Int32).toInt ∧ (p1 : Int32).toInt < (64 : Nat) := hix1
  have hl9 : c8.slots[(p1 : Int32).toNatClampNeg]? = some (.int ((fe (p1 : Int32).toNatClampNeg).2.2)) := H8 _ (own_ix hi9)
  obtain ⟨cq10, q10, q10'⟩ := (E_o0).cell
  obtain ⟨_, _, ⟨T10, L10, k10, n10⟩, -, X10, ⟨Lc10, hQ10, l10, y10, z10⟩, st10⟩ := X7.privateBack hx (y := (⟨"com/example/brisk_maze/briskmaze/search/RankedFrontier", "place", "(IJII)V"⟩ : MethodName)) hown (mvT hZ (hw _ (List.mem_of_getElem? (i := 30) rfl))) (mvT hZ (hw _ (List.mem_of_getElem? (i := 31) rfl))) (own_selp (y := (⟨"com/example/brisk_maze/briskmaze/search/RankedFrontier", "place", "(IJII)V"⟩ : MethodName)) (mvT hZ (hw _ (List.mem_of_getElem? (i := 2) rfl))) (Cond.privateMethod_at (mvP hZ (hw _ (List.mem_of_getElem? (i := 32) rfl)) (args := #[]))) (mvT hZ (hw _ (List.mem_of_getElem? (i := 31) rfl))) (by decide)) (Cond.privateMethod_at (mvP hZ (hw _ (List.mem_of_getElem? (i := 32) rfl)) (args := #[]))) (mvT hZ (hw _ (List.mem_of_getElem? (i := 33) rfl))) (by decide) (backOf (W := 0) (rm5 l Z a0 hw [] o0 p2 ((fe (p1 : Int32).toNatClampNeg).1) ((fe (p1 : Int32).toNatClampNeg).2.1) ((fe (p1 : Int32).toNatClampNeg).2.2) tr tc ts fe h0 n0 Z0 F_ranks_o0 F_costs_o0 F_states_o0 A_tr A_tc A_ts g_tr g_tc g_ts ne_o0_tr ne_o0_tc ne_o0_ts ne_tr_tc ne_tr_ts ne_tc_ts hix2) hZ (hw _ (List.mem_of_getElem? (i := 33) rfl)) (hw _ (List.mem_of_getElem? (i := 3) rfl)) (by decide) (by decide)) (g := (mkF m 20 #[.val (.ref o0), .val (.int p1), .val (.int p2)] [(.int ((fe (p1 : Int32).toNatClampNeg).2.2)), (.int ((fe (p1 : Int32).toNatClampNeg).2.1)), (.long ((fe (p1 : Int32).toNatClampNeg).1)), (.int p2), (.ref o0)])) rfl (by rw [hml]; rfl) (Steps.refl _) (a := o0) (by rw [e7]; exact q10) q10' (argsL := [(.int p2), (.long ((fe (p1 : Int32).toNatClampNeg).1)), (.int ((fe (p1 : Int32).toNatClampNeg).2.1)), (.int ((fe (p1 : Int32).toNatClampNeg).2.2))]) (rest := []) (lenOf pd_1 rfl) rfl (by show 2 * 0 + _ ≤ _; exact Nat.le_of_eq rfl) (hb hby d9_20) (fun _ _ => ⟨rfl, e7, (by decide : 0 + 0 ≤ _), (by decide : 0 + 0 ≤ _)⟩)
  dsimp only [Pt.U, Pt.locs, Pt.cells, Pt.slots] at X10 l10 y10 z10 st10 hQ10
  subst l10 y10 z10
  obtain ⟨rfl, N10q, Kc10, P10_0, P10_1, P10_2⟩ := hQ10
  have N10 := Fr.app N0 N10q
  have F_ranks_o0_11 : Fld Z T10.heap o0 "com/example/brisk_maze/briskmaze/search/RankedFrontier" "ranks" "[J" (.ref tr) := (F_ranks_o0).keep Kc10 (ninS ne_o0_tr (ninS ne_o0_tc (ninS ne_o0_ts nin0)))
  have F_costs_o0_11 : Fld Z T10.heap o0 "com/example/brisk_maze/briskmaze/search/RankedFrontier" "costs" "[I" (.ref tc) := (F_costs_o0).keep Kc10 (ninS ne_o0_tr (ninS ne_o0_tc (ninS ne_o0_ts nin0)))
  have F_states_o0_11 : Fld Z T10.heap o0 "com/example/brisk_maze/briskmaze/search/RankedFrontier" "states" "[I" (.ref ts) := (F_states_o0).keep Kc10 (ninS ne_o0_tr (ninS ne_o0_tc (ninS ne_o0_ts nin0)))
  have E_o0_11 : Exa Z T10.heap o0 "com/example/brisk_maze/briskmaze/search/RankedFrontier" := (E_o0).keep Kc10
  have SZ12 : h0.size ≤ T10.heap.size := Nat.le_trans (Nat.le_refl _) Kc10.1
  have ZZ12 : n0 ≤ T10.heap.size := Nat.le_trans Z0 SZ12
  have K13 : Keep h0 T10.heap [tr, tc, ts] := ((Keep.refl h0 [tr, tc, ts])).trans Kc10 (allS (Or.inl (List.mem_of_getElem? (i := 0) rfl)) (allS (Or.inl (List.mem_of_getElem? (i := 1) rfl)) (allS (Or.inl (List.mem_of_getElem? (i := 2) rfl)) all0)))
  have pre14 : ∀ t, Steps p.tables e below (T10.setTop (mkF m 23 #[.val (.ref o0), .val (.int p1), .val (.int p2)] [])) t → Steps p.tables e below (s₁.setTop (entryFrame m #[(.ref o0), (.int p1), (.int p2)] 3)) t := fun t k => pre0 t (by
    show Steps p.tables e below (s₁.setTop (mkF m 0 #[.val (.ref o0), .val (.int p1), .val (.int p2)] [])) _
    refine XS.aloadN X0.here hx rfl (hb hby d9_0) rfl rfl ?_
    show Steps p.tables e below (s₁.setTop (mkF m 1 #[.val (.ref o0), .val (.int p1), .val (.int p2)] [(.ref o0)])) _
    refine XS.iloadN X0.here hx rfl (hb hby d9_1) rfl ?_
    show Steps p.tables e below (s₁.setTop (mkF m 2 #[.val (.ref o0), .val (.int p1), .val (.int p2)] [(.int p2), (.ref o0)])) _
    refine XS.aloadN X0.here hx rfl (hb hby d9_2) rfl rfl ?_
    show Steps p.tables e below (s₁.setTop (mkF m 3 #[.val (.ref o0), .val (.int p1), .val (.int p2)] [(.ref o0), (.int p2), (.ref o0)])) _
    refine st1 _ ?_
    show Steps p.tables e below (T1.setTop (mkF m 6 #[.val (.ref o0), .val (.int p1), .val (.int p2)] [(.ref tr), (.int p2), (.ref o0)])) _
    refine XS.iloadN X1.here hx rfl (hb hby d9_6) rfl ?_
    show Steps p.tables e below (T1.setTop (mkF m 7 #[.val (.ref o0), .val (.int p1), .val (.int p2)] [(.int p1), (.ref tr), (.int p2), (.ref o0)])) _
    refine X1.laload hx (j := p1) (v := (.long ((fe (p1 : Int32).toNatClampNeg).1))) (by rw [e1]; exact Ar2.1) (State.isArrayOf_alike hZ.alike Ar2.2.1) Ar2.2.2 (own_in Sz2 hi3) hl3 (g := (mkF m 7 #[.val (.ref o0), .val (.int p1), .val (.int p2)] [(.int p1), (.ref tr), (.int p2), (.ref o0)])) rfl rfl (hb hby d9_7) _ ?_
    show Steps p.tables e below (T1.setTop (mkF m 8 #[.val (.ref o0), .val (.int p1), .val (.int p2)] [(.long ((fe (p1 : Int32).toNatClampNeg).1)), (.int p2), (.ref o0)])) _
    refine XS.aloadN X1.here hx rfl (hb hby d9_8) rfl rfl ?_
    show Steps p.tables e below (T1.setTop (mkF m 9 #[.val (.ref o0), .val (.int p1), .val (.int p2)] [(.ref o0), (.long ((fe (p1 : Int32).toNatClampNeg).1)), (.int p2), (.ref o0)])) _
    refine st4 _ ?_
    show Steps p.tables e below (T4.setTop (mkF m 12 #[.val (.ref o0), .val (.int p1), .val (.int p2)] [(.ref tc), (.long ((fe (p1 : Int32).toNatClampNeg).1)), (.int p2), (.ref o0)])) _
    refine XS.iloadN X4.here hx rfl (hb hby d9_12) rfl ?_
    show Steps p.tables e below (T4.setTop (mkF m 13 #[.val (.ref o0), .val (.int p1), .val (.int p2)] [(.int p1), (.ref tc), (.long ((fe (p1 : Int32).toNatClampNeg).1)), (.int p2), (.ref o0)])) _
    refine X4.iaload hx (j := p1) (v := (.int ((fe (p1 : Int32).toNatClampNeg).2.1))) (by rw [e4]; exact Ar5.1) (State.isArrayOf_alike hZ.alike Ar5.2.1) Ar5.2.2 (own_in Sz5 hi6) hl6 (g := (mkF m 13 #[.val (.ref o0), .val (.int p1), .val (.int p2)] [(.int p1), (.ref tc), (.long ((fe (p1 : Int32).toNatClampNeg).1)), (.int p2), (.ref o0)])) rfl rfl (hb hby d9_13) _ ?_
    show Steps p.tables e below (T4.setTop (mkF m 14 #[.val (.ref o0), .val (.int p1), .val (.int p2)] [(.int ((fe (p1 : Int32).toNatClampNeg).2.1)), (.long ((fe (p1 : Int32).toNatClampNeg).1)), (.int p2), (.ref o0)])) _
    refine XS.aloadN X4.here hx rfl (hb hby d9_14) rfl rfl ?_
    show Steps p.tables e below (T4.setTop (mkF m 15 #[.val (.ref o0), .val (.int p1), .val (.int p2)] [(.ref o0), (.int ((fe (p1 : Int32).toNatClampNeg).2.1)), (.long ((fe (p1 : Int32).toNatClampNeg).1)), (.int p2), (.ref o0)])) _
    refine st7 _ ?_
    show Steps p.tables e below (T7.setTop (mkF m 18 #[.val (.ref o0), .val (.int p1), .val (.int p2)] [(.ref ts), (.int ((fe (p1 : Int32).toNatClampNeg).2.1)), (.long ((fe (p1 : Int32).toNatClampNeg).1)), (.int p2), (.ref o0)])) _
    refine XS.iloadN X7.here hx rfl (hb hby d9_18) rfl ?_
    show Steps p.tables e below (T7.setTop (mkF m 19 #[.val (.ref o0), .val (.int p1), .val (.int p2)] [(.int p1), (.ref ts), (.int ((fe (p1 : Int32).toNatClampNeg).2.1)), (.long ((fe (p1 : Int32).toNatClampNeg).1)), (.int p2), (.ref o0)])) _
    refine X7.iaload hx (j := p1) (v := (.int ((fe (p1 : Int32).toNatClampNeg).2.2))) (by rw [e7]; exact Ar8.1) (State.isArrayOf_alike hZ.alike Ar8.2.1) Ar8.2.2 (own_in Sz8 hi9) hl9 (g := (mkF m 19 #[.val (.ref o0), .val (.int p1), .val (.int p2)] [(.int p1), (.ref ts), (.int ((fe (p1 : Int32).toNatClampNeg).2.1)), (.long ((fe (p1 : Int32).toNatClampNeg).1)), (.int p2), (.ref o0)])) rfl rfl (hb hby d9_19) _ ?_
    show Steps p.tables e below (T7.setTop (mkF m 20 #[.val (.ref o0), .val (.int p1), .val (.int p2)] [(.int ((fe (p1 : Int32).toNatClampNeg).2.2)), (.int ((fe (p1 : Int32).toNatClampNeg).2.1)), (.long ((fe (p1 : Int32).toNatClampNeg).1)), (.int p2), (.ref o0)])) _
    refine st10.trans ?_
    show Steps p.tables e below (T10.setTop (mkF m 23 #[.val (.ref o0), .val (.int p1), .val (.int p2)] [])) _
    exact k)
  obtain ⟨fs, hr, hrun, hended, hW, hsame⟩ := X10.leave (v := none) (fun _ => rfl)
  refine ⟨_, _, pre14 _ ?_, hrun, hended, _, _, rfl, ?_, ⟨_, rfl⟩, hW, hsame.mono (by decide) (by decide)⟩
  · exact X10.returnOut hx Bd.returns (hb hby d9_23) hr
  · show Q9 Z o0 p1 p2 tr tc ts fe h0 n0 _ T10.heap _
    skip
    exact ⟨rfl, N10, K13, P10_0, P10_1, P10_2⟩
theorem d3_0 : decode prog_53_method_2_code 0 = .ok (.aload_n 0, 1) := by decide +kernel
theorem d3_1 : decode prog_53_method_2_code 1 = .ok (.getfield 20, 3) := by decide +kernel
theorem d3_4 : decode prog_53_method_2_code 4 = .ok (.ifCond .ne 7, 3) := by decide +kernel
theorem d3_7 : decode prog_53_method_2_code 7 = .ok (.iconst 1, 1) := by decide +kernel
theorem d3_8 : decode prog_53_method_2_code 8 = .ok (.goto 4, 3) := by decide +kernel
theorem d3_11 : decode prog_53_method_2_code 11 = .ok (.iconst 0, 1) := by decide +kernel
theorem d3_12 : decode prog_53_method_2_code 12 = .ok (.ireturn, 1) := by decide +kernel
theorem ef_3 (m : MethodId) (o0 : Addr) : entryFrame m #[(.ref o0)] 1 = mkF m 0 #[.val (.ref o0)] [] := by first | (simp [entryFrame, mkF, argsToLocals, Value.category]; done) | rfl
def f3_12 (w : Int32) : Int32 := (if w = (0 : Int32) then (1 : Int32) else (0 : Int32))

def Q3 (Z : State) (o0 : Addr) (w : Int32) (h0 : Heap) (n0 : Nat) (v : Option Value) (h : Heap) (L : List Loc) : Prop := v = some (.int ((f3_12 w) &&& 1)) ∧ Fr n0 L ∧ h = h0
set_option maxRecDepth 65536 in
set_option maxHeartbeats 40000000 in
theorem rm3 (l : Launch) (Z : State) (a0 : Array Value) (hw : ∀ d ∈ tables_1, d.before a0 Z = true) (ws : List Jvm.Cond) (o0 : Addr) (w : Int32) (h0 : Heap) (n0 : Nat) (Z0 : n0 ≤ h0.size) (F_size_o0 : Fld Z h0 o0 "com/example/brisk_maze/briskmaze/search/RankedFrontier" "size" "I" (.int w)) :
    MetFree l (⟨"com/example/brisk_maze/briskmaze/search/RankedFrontier", "isEmpty", "()Z"⟩ : MethodName) (head1 (Jvm.Cond.code (⟨"com/example/brisk_maze/briskmaze/search/RankedFrontier", "isEmpty", "()Z"⟩ : MethodName) prog_53_method_2_code 1 (some .boolean) :: ws) ({ frames := 0, cells := 0, slots := 0, locals := 0 } : Room)) (fun a U => a = #[(.ref o0)] ∧ Z.Warmed39 U.vm ∧ U.heap = h0) (fun _ _ _ _ _ => True) (fun _ U o U' => ∃ v L, o = .returned v ∧ Q3 Z o0 w h0 n0 v U'.heap L ∧ FrameEnd U o U' L ({ frames := 0, cells := 0, slots := 0, locals := 0 } : Room).cells ({ frames := 0, cells := 0, slots := 0, locals := 0 } : Room).slots) := by
  refine MetFree.of_bodySF (plainFor_of_name pn_0) hisR ?_
  intro p e s m args below meth c s₁ Bd hml0 hP hK
  obtain ⟨rfl, hZ, hh⟩ := hP
  have hx := Bd.exec
  have hby := Bd.bytes
  have hml : c.maxLocals = 1 := hml0
  have hown : s.vm.findClass "com/example/brisk_maze/briskmaze/search/RankedFrontier" = some m.cls := findClass_of_methodNamed Bd.named
  have hnm := (name_of_methodNamed Bd.named Bd.method).1
  have X0 : Stand p l e ({ frames := 0, cells := 0, slots := 0, locals := 0 } : Room) s m #[(.ref o0)] below meth c s₁ [] 0 0 := Stand.of_body Bd
  have e0 : s₁.heap = h0 := by rw [← hh, Bd.state]; rfl
  have N0 := Fr.nil n0
  have pre0 : ∀ t, Steps p.tables e below (s₁.setTop (mkF m 0 #[.val (.ref o0)] [])) t → Steps p.tables e below (s₁.setTop (entryFrame m #[(.ref o0)] 1)) t := fun t k => castTop (ef_3 m o0) k
  obtain ⟨T1, X1, e1, st1⟩ := getF X0 hx hZ hown (host := "") (Or.inl (hw _ (List.mem_of_getElem? (i := 23) rfl))) Via.refl e0 F_size_o0 (g := (mkF m 1 #[.val (.ref o0)] [(.ref o0)])) rfl rfl (hb hby d3_1)
  have pre2 : ∀ t, Steps p.tables e below (T1.setTop (mkF m 4 #[.val (.ref o0)] [(.int w)])) t → Steps p.tables e below (s₁.setTop (entryFrame m #[(.ref o0)] 1)) t := fun t k => pre0 t (by
    show Steps p.tables e below (s₁.setTop (mkF m 0 #[.val (.ref o0)] [])) _
    refine XS.aloadN X0.here hx rfl (hb hby d3_0) rfl rfl ?_
    show Steps p.tables e below (s₁.setTop (mkF m 1 #[.val (.ref o0)] [(.ref o0)])) _
    refine st1 _ ?_
    show Steps p.tables e below (T1.setTop (mkF m 4 #[.val (.ref o0)] [(.int w)])) _
    exact k)
  have pre4 : ∀ t, Steps p.tables e below (T1.setTop (mkF m 12 #[.val (.ref o0)] [(.int (f3_12 w))])) t → Steps p.tables e below (s₁.setTop (entryFrame m #[(.ref o0)] 1)) t := fun t k => pre2 t (by
    by_cases hf3 : w = (0 : Int32)
    · refine XS.ifNo X1.here hx rfl (hb hby d3_4) rfl ((if0 _ _).trans (teq hf3).2) ?_
      show Steps p.tables e below (T1.setTop (mkF m 7 #[.val (.ref o0)] [])) _
      refine XS.iconst X1.here hx rfl (hb hby d3_7) ?_
      show Steps p.tables e below (T1.setTop (mkF m 8 #[.val (.ref o0)] [(.int (1 : Int32))])) _
      refine XS.goto X1.here hx rfl (pc0 := 8) (pc' := 12) rfl (hb hby d3_8) (by decide) (by decide) ?_
      show Steps p.tables e below (T1.setTop (mkF m 12 #[.val (.ref o0)] [(.int (1 : Int32))])) _
      rw [show (f3_12 w) = ((1 : Int32) : Int32) from by simp only [f3_12, if_pos hf3]] at k
      exact k
    · refine XS.ifYes X1.here hx rfl (pc0 := 4) (pc' := 11) rfl (hb hby d3_4) rfl ((if0 _ _).trans (feq hf3).2) (by decide) (by decide) ?_
      show Steps p.tables e below (T1.setTop (mkF m 11 #[.val (.ref o0)] [])) _
      refine XS.iconst X1.here hx rfl (hb hby d3_11) ?_
      show Steps p.tables e below (T1.setTop (mkF m 12 #[.val (.ref o0)] [(.int (0 : Int32))])) _
      rw [show (f3_12 w) = ((0 : Int32) : Int32) from by simp only [f3_12, if_neg hf3]] at k
      exact k)
  obtain ⟨fs, hr, hrun, hended, hW, hsame⟩ := X1.leave (v := some (.int ((f3_12 w) &&& 1))) (fun h => by rw [Bd.returns] at h; cases h)
  refine ⟨_, _, pre4 _ ?_, hrun, hended, _, _, rfl, ?_, ⟨_, rfl⟩, hW, hsame.mono (by decide) (by decide)⟩
  · exact retN X1 hx (t := .boolean) Bd.returns (by simp) (hb hby d3_12) hr
  · show Q3 Z o0 w h0 n0 _ T1.heap _
    rw [e1]
    exact ⟨rfl, N0, rfl⟩
theorem d1_0 : decode prog_53_method_1_code 0 = .ok (.aload_n 0, 1) := by decide +kernel
theorem d1_1 : decode prog_53_method_1_code 1 = .ok (.invokespecial 1, 3) := by decide +kernel
theorem d1_4 : decode prog_53_method_1_code 4 = .ok (.aload_n 0, 1) := by decide +kernel
theorem d1_5 : decode prog_53_method_1_code 5 = .ok (.bipush 64, 2) := by decide +kernel
theorem d1_7 : decode prog_53_method_1_code 7 = .ok (.newarray .long, 2) := by decide +kernel
theorem d1_9 : decode prog_53_method_1_code 9 = .ok (.putfield 9, 3) := by decide +kernel
theorem d1_12 : decode prog_53_method_1_code 12 = .ok (.aload_n 0, 1) := by decide +kernel
theorem d1_13 : decode prog_53_method_1_code 13 = .ok (.bipush 64, 2) := by decide +kernel
theorem d1_15 : decode prog_53_method_1_code 15 = .ok (.newarray .int, 2) := by decide +kernel
theorem d1_17 : decode prog_53_method_1_code 17 = .ok (.putfield 13, 3) := by decide +kernel
theorem d1_20 : decode prog_53_method_1_code 20 = .ok (.aload_n 0, 1) := by decide +kernel
theorem d1_21 : decode prog_53_method_1_code 21 = .ok (.bipush 64, 2) := by decide +kernel
theorem d1_23 : decode prog_53_method_1_code 23 = .ok (.newarray .int, 2) := by decide +kernel
theorem d1_25 : decode prog_53_method_1_code 25 = .ok (.putfield 17, 3) := by decide +kernel
theorem d1_28 : decode prog_53_method_1_code 28 = .ok (.return_, 1) := by decide +kernel
theorem ef_1 (m : MethodId) (o0 : Addr) : entryFrame m #[(.ref o0)] 1 = mkF m 0 #[.val (.ref o0)] [] := by first | (simp [entryFrame, mkF, argsToLocals, Value.category]; done) | rfl

def Q1 (Z : State) (o0 : Addr) (h0 : Heap) (n0 : Nat) (v : Option Value) (h : Heap) (L : List Loc) : Prop := ∃ (tr : Addr) (tc : Addr) (ts : Addr), v = none ∧ Fr n0 L ∧ Keep h0 h [o0] ∧ h0.size ≤ tr ∧ h0.size ≤ tc ∧ h0.size ≤ ts ∧ tr ≠ tc ∧ tr ≠ ts ∧ tc ≠ ts ∧ (Fld Z h o0 "com/example/brisk_maze/briskmaze/search/RankedFrontier" "ranks" "[J" (.ref tr)) ∧ (Fld Z h o0 "com/example/brisk_maze/briskmaze/search/RankedFrontier" "costs" "[I" (.ref tc)) ∧ (Fld Z h o0 "com/example/brisk_maze/briskmaze/search/RankedFrontier" "states" "[I" (.ref ts)) ∧ (Fld Z h o0 "com/example/brisk_maze/briskmaze/search/RankedFrontier" "size" "I" (.int (0 : Int32))) ∧ (own_A Z h tr .long 64 (fun kk => (.long ((fun _ => ((0 : Int64), (0 : Int32), (0 : Int32))) kk).1))) ∧ (own_A Z h tc .int 64 (fun kk => (.int ((fun _ => ((0 : Int64), (0 : Int32), (0 : Int32))) kk).2.1))) ∧ (own_A Z h ts .int 64 (fun kk => (.int ((fun _ => ((0 : Int64), (0 : Int32), (0 : Int32))) kk).2.2)))
set_option maxRecDepth 65536 in
set_option maxHeartbeats 40000000 in
theorem rm1 (l : Launch) (Z : State) (a0 : Array Value) (hw : ∀ d ∈ tables_1, d.before a0 Z = true) (ws : List Jvm.Cond) (o0 : Addr) (h0 : Heap) (n0 : Nat) (Z0 : n0 ≤ h0.size) (F_ranks_o0 : Fld Z h0 o0 "com/example/brisk_maze/briskmaze/search/RankedFrontier" "ranks" "[J" .null) (F_costs_o0 : Fld Z h0 o0 "com/example/brisk_maze/briskmaze/search/RankedFrontier" "costs" "[I" .null) (F_states_o0 : Fld Z h0 o0 "com/example/brisk_maze/briskmaze/search/RankedFrontier" "states" "[I" .null) (E_o0 : Exa Z h0 o0 "com/example/brisk_maze/briskmaze/search/RankedFrontier") (F_size_o0 : Fld Z h0 o0 "com/example/brisk_maze/briskmaze/search/RankedFrontier" "size" "I" (.int (0 : Int32))) (g_o0 : n0 ≤ o0) :
    MetFree l (⟨"com/example/brisk_maze/briskmaze/search/RankedFrontier", "<init>", "()V"⟩ : MethodName) (head1 (Jvm.Cond.code (⟨"com/example/brisk_maze/briskmaze/search/RankedFrontier", "<init>", "()V"⟩ : MethodName) prog_53_method_1_code 1 none :: ws) ({ frames := 1, cells := 3, slots := 192, locals := 12 } : Room)) (fun a U => a = #[(.ref o0)] ∧ Z.Warmed39 U.vm ∧ U.heap = h0) (fun _ _ _ _ _ => True) (fun _ U o U' => ∃ v L, o = .returned v ∧ Q1 Z o0 h0 n0 v U'.heap L ∧ FrameEnd U o U' L ({ frames := 1, cells := 3, slots := 192, locals := 12 } : Room).cells ({ frames := 1, cells := 3, slots := 192, locals := 12 } : Room).slots) := by
  refine MetFree.of_bodySF (plainFor_of_name pn_0) hisR ?_
  intro p e s m args below meth c s₁ Bd hml0 hP hK
  obtain ⟨rfl, hZ, hh⟩ := hP
  have hx := Bd.exec
  have hby := Bd.bytes
  have hml : c.maxLocals = 1 := hml0
  have hown : s.vm.findClass "com/example/brisk_maze/briskmaze/search/RankedFrontier" = some m.cls := findClass_of_methodNamed Bd.named
  have hnm := (name_of_methodNamed Bd.named Bd.method).1
  have X0 : Stand p l e ({ frames := 1, cells := 3, slots := 192, locals := 12 } : Room) s m #[(.ref o0)] below meth c s₁ [] 0 0 := Stand.of_body Bd
  have e0 : s₁.heap = h0 := by rw [← hh, Bd.state]; rfl
  have N0 := Fr.nil n0
  have pre0 : ∀ t, Steps p.tables e below (s₁.setTop (mkF m 0 #[.val (.ref o0)] [])) t → Steps p.tables e below (s₁.setTop (entryFrame m #[(.ref o0)] 1)) t := fun t k => castTop (ef_1 m o0) k
  obtain ⟨T1, X1, e1, st1⟩ := initO X0 hx hZ hown (hw _ (List.mem_of_getElem? (i := 7) rfl)) (hw _ (List.mem_of_getElem? (i := 8) rfl)) (hw _ (List.mem_of_getElem? (i := 9) rfl)) e0 (g := (mkF m 1 #[.val (.ref o0)] [(.ref o0)])) rfl (by rw [hml]; rfl) rfl (hb hby d1_1) (by decide) (W := 0) (by show 2 * 0 + _ ≤ _; exact Nat.le_of_eq rfl) (by decide)
  obtain ⟨T2, h2, k2, X2, e2, Ex2, Ne2, st2⟩ := newP X1 hx hZ (hw _ (List.mem_of_getElem? (i := 10) rfl)) e1 (g := (mkF m 7 #[.val (.ref o0)] [(.int (64 : Int32)), (.ref o0)])) rfl (hb hby d1_7) rfl (by decide) (cap := 64) (by decide) (by decide) (by decide) (by decide)
  obtain ⟨b2, g2⟩ : ∃ z, z = h0.size := ⟨_, rfl⟩
  rw [← g2] at Ne2 st2
  have ne_o0_b2 : o0 ≠ b2 := by rw [g2]; exact Nat.ne_of_lt (F_ranks_o0).lt
  have g_b2 : n0 ≤ b2 := Nat.le_trans (Nat.le_trans Z0 (Nat.le_refl _)) (Nat.le_of_eq g2.symm)
  have sz_b2 : h0.size ≤ b2 := Nat.le_trans (Nat.le_refl _) (Nat.le_of_eq g2.symm)
  have F_ranks_o0_3 : Fld Z h2 o0 "com/example/brisk_maze/briskmaze/search/RankedFrontier" "ranks" "[J" .null := (F_ranks_o0).ext Ex2
  have F_costs_o0_3 : Fld Z h2 o0 "com/example/brisk_maze/briskmaze/search/RankedFrontier" "costs" "[I" .null := (F_costs_o0).ext Ex2
  have F_states_o0_3 : Fld Z h2 o0 "com/example/brisk_maze/briskmaze/search/RankedFrontier" "states" "[I" .null := (F_states_o0).ext Ex2
  have E_o0_3 : Exa Z h2 o0 "com/example/brisk_maze/briskmaze/search/RankedFrontier" := (E_o0).ext Ex2
  have F_size_o0_3 : Fld Z h2 o0 "com/example/brisk_maze/briskmaze/search/RankedFrontier" "size" "I" (.int (0 : Int32)) := (F_size_o0).ext Ex2
  have SZ4 : h0.size ≤ h2.size := Nat.le_trans (Nat.le_refl _) Ex2.1
  have ZZ4 : n0 ≤ h2.size := Nat.le_trans Z0 SZ4
  have K5 : Keep h0 h2 [o0] := ((Keep.refl h0 [o0])).ext Ex2
  have A_b2_2 : own_A Z h2 b2 .long 64 (fun _ => (.long (0 : Int64))) := own_A.new Ne2
  obtain ⟨T6, h6, X6, e6, W6, st6⟩ := putF X2 hx hZ hown (host := "") (Or.inl (hw _ (List.mem_of_getElem? (i := 11) rfl))) Via.refl e2 F_ranks_o0_3 E_o0_3 (Or.inl (hw _ (List.mem_of_getElem? (i := 12) rfl))) (hw _ (List.mem_of_getElem? (i := 2) rfl)) (ty := (.array .long)) (by decide) rfl rfl (g := (mkF m 9 #[.val (.ref o0)] [(.ref b2), (.ref o0)])) rfl rfl (hb hby d1_9)
  have N6 := Fr.snoc X6 N0 g_o0
  have F_ranks_o0_w6 : Fld Z h6 o0 "com/example/brisk_maze/briskmaze/search/RankedFrontier" "ranks" "[J" (.ref b2) := (F_ranks_o0_3).same W6
  have F_costs_o0_7 : Fld Z h6 o0 "com/example/brisk_maze/briskmaze/search/RankedFrontier" "costs" "[I" .null := (F_costs_o0_3).other W6 (Or.inr (slot_ne (Or.inl (hw _ (List.mem_of_getElem? (i := 15) rfl))) (Or.inl (hw _ (List.mem_of_getElem? (i := 12) rfl))) (by decide) (t := (.array .int)) (t' := (.array .long)) (by decide) (by decide)))
  have F_states_o0_7 : Fld Z h6 o0 "com/example/brisk_maze/briskmaze/search/RankedFrontier" "states" "[I" .null := (F_states_o0_3).other W6 (Or.inr (slot_ne (Or.inl (hw _ (List.mem_of_getElem? (i := 17) rfl))) (Or.inl (hw _ (List.mem_of_getElem? (i := 12) rfl))) (by decide) (t := (.array .int)) (t' := (.array .long)) (by decide) (by decide)))
  have E_o0_7 : Exa Z h6 o0 "com/example/brisk_maze/briskmaze/search/RankedFrontier" := (E_o0_3).wr W6
  have F_size_o0_7 : Fld Z h6 o0 "com/example/brisk_maze/briskmaze/search/RankedFrontier" "size" "I" (.int (0 : Int32)) := (F_size_o0_3).other W6 (Or.inr (slot_ne (Or.inl (hw _ (List.mem_of_getElem? (i := 24) rfl))) (Or.inl (hw _ (List.mem_of_getElem? (i := 12) rfl))) (by decide) (t := .int) (t' := (.array .long)) (by decide) (by decide)))
  have A_b2_7 : own_A Z h6 b2 .long 64 (fun _ => (.long (0 : Int64))) := (A_b2_2).other W6 (Ne.symm ne_o0_b2)
  have SZ8 : h0.size ≤ h6.size := by rw [W6.size]; exact SZ4
  have ZZ8 : n0 ≤ h6.size := Nat.le_trans Z0 SZ8
  have K9 : Keep h0 h6 [o0] := (K5).wr W6 (Or.inl (List.mem_of_getElem? (i := 0) rfl))
  obtain ⟨T10, h10, k10, X10, e10, Ex10, Ne10, st10⟩ := newP X6 hx hZ (hw _ (List.mem_of_getElem? (i := 13) rfl)) e6 (g := (mkF m 15 #[.val (.ref o0)] [(.int (64 : Int32)), (.ref o0)])) rfl (hb hby d1_15) rfl (by decide) (cap := 64) (by decide) (by decide) (by decide) (by decide)
  obtain ⟨b10, g10⟩ : ∃ z, z = h6.size := ⟨_, rfl⟩
  rw [← g10] at Ne10 st10
  have ne_o0_b10 : o0 ≠ b10 := by rw [g10]; exact Nat.ne_of_lt (F_costs_o0_7).lt
  have ne_b2_b10 : b2 ≠ b10 := by rw [g10]; exact Nat.ne_of_lt (A_b2_7).lt
  have g_b10 : n0 ≤ b10 := Nat.le_trans (Nat.le_trans Z0 SZ8) (Nat.le_of_eq g10.symm)
  have sz_b10 : h0.size ≤ b10 := Nat.le_trans SZ8 (Nat.le_of_eq g10.symm)
  have F_costs_o0_11 : Fld Z h10 o0 "com/example/brisk_maze/briskmaze/search/RankedFrontier" "costs" "[I" .null := (F_costs_o0_7).ext Ex10
  have F_states_o0_11 : Fld Z h10 o0 "com/example/brisk_maze/briskmaze/search/RankedFrontier" "states" "[I" .null := (F_states_o0_7).ext Ex10
  have E_o0_11 : Exa Z h10 o0 "com/example/brisk_maze/briskmaze/search/RankedFrontier" := (E_o0_7).ext Ex10
  have F_size_o0_11 : Fld Z h10 o0 "com/example/brisk_maze/briskmaze/search/RankedFrontier" "size" "I" (.int (0 : Int32)) := (F_size_o0_7).ext Ex10
  have A_b2_11 : own_A Z h10 b2 .long 64 (fun _ => (.long (0 : Int64))) := (A_b2_7).ext Ex10
  have F_ranks_o0_11 : Fld Z h10 o0 "com/example/brisk_maze/briskmaze/search/RankedFrontier" "ranks" "[J" (.ref b2) := (F_ranks_o0_w6).ext Ex10
  have SZ12 : h0.size ≤ h10.size := Nat.le_trans SZ8 Ex10.1
  have ZZ12 : n0 ≤ h10.size := Nat.le_trans Z0 SZ12
  have K13 : Keep h0 h10 [o0] := (K9).ext Ex10
  have A_b10_10 : own_A Z h10 b10 .int 64 (fun _ => (.int (0 : Int32))) := own_A.new Ne10
  obtain ⟨T14, h14, X14, e14, W14, st14⟩ := putF X10 hx hZ hown (host := "") (Or.inl (hw _ (List.mem_of_getElem? (i := 14) rfl))) Via.refl e10 F_costs_o0_11 E_o0_11 (Or.inl (hw _ (List.mem_of_getElem? (i := 15) rfl))) (hw _ (List.mem_of_getElem? (i := 2) rfl)) (ty := (.array .int)) (by decide) rfl rfl (g := (mkF m 17 #[.val (.ref o0)] [(.ref b10), (.ref o0)])) rfl rfl (hb hby d1_17)
  have N14 := Fr.snoc X14 N6 g_o0
  have F_costs_o0_w14 : Fld Z h14 o0 "com/example/brisk_maze/briskmaze/search/RankedFrontier" "costs" "[I" (.ref b10) := (F_costs_o0_11).same W14
  have F_states_o0_15 : Fld Z h14 o0 "com/example/brisk_maze/briskmaze/search/RankedFrontier" "states" "[I" .null := (F_states_o0_11).other W14 (Or.inr (slot_ne (Or.inl (hw _ (List.mem_of_getElem? (i := 17) rfl))) (Or.inl (hw _ (List.mem_of_getElem? (i := 15) rfl))) (by decide) (t := (.array .int)) (t' := (.array .int)) (by decide) (by decide)))
  have E_o0_15 : Exa Z h14 o0 "com/example/brisk_maze/briskmaze/search/RankedFrontier" := (E_o0_11).wr W14
  have F_size_o0_15 : Fld Z h14 o0 "com/example/brisk_maze/briskmaze/search/RankedFrontier" "size" "I" (.int (0 : Int32)) := (F_size_o0_11).other W14 (Or.inr (slot_ne (Or.inl (hw _ (List.mem_of_getElem? (i := 24) rfl))) (Or.inl (hw _ (List.mem_of_getElem? (i := 15) rfl))) (by decide) (t := .int) (t' := (.array .int)) (by decide) (by decide)))
  have A_b2_15 : own_A Z h14 b2 .long 64 (fun _ => (.long (0 : Int64))) := (A_b2_11).other W14 (Ne.symm ne_o0_b2)
  have F_ranks_o0_15 : Fld Z h14 o0 "com/example/brisk_maze/briskmaze/search/RankedFrontier" "ranks" "[J" (.ref b2) := (F_ranks_o0_11).other W14 (Or.inr (slot_ne (Or.inl (hw _ (List.mem_of_getElem? (i := 12) rfl))) (Or.inl (hw _ (List.mem_of_getElem? (i := 15) rfl))) (by decide) (t := (.array .long)) (t' := (.array .int)) (by decide) (by decide)))
  have A_b10_15 : own_A Z h14 b10 .int 64 (fun _ => (.int (0 : Int32))) := (A_b10_10).other W14 (Ne.symm ne_o0_b10)
  have SZ16 : h0.size ≤ h14.size := by rw [W14.size]; exact SZ12
  have ZZ16 : n0 ≤ h14.size := Nat.le_trans Z0 SZ16
  have K17 : Keep h0 h14 [o0] := (K13).wr W14 (Or.inl (List.mem_of_getElem? (i := 0) rfl))
  obtain ⟨T18, h18, k18, X18, e18, Ex18, Ne18, st18⟩ := newP X14 hx hZ (hw _ (List.mem_of_getElem? (i := 13) rfl)) e14 (g := (mkF m 23 #[.val (.ref o0)] [(.int (64 : Int32)), (.ref o0)])) rfl (hb hby d1_23) rfl (by decide) (cap := 64) (by decide) (by decide) (by decide) (by decide)
  obtain ⟨b18, g18⟩ : ∃ z, z = h14.size := ⟨_, rfl⟩
  rw [← g18] at Ne18 st18
  have ne_o0_b18 : o0 ≠ b18 := by rw [g18]; exact Nat.ne_of_lt (F_states_o0_15).lt
  have ne_b2_b18 : b2 ≠ b18 := by rw [g18]; exact Nat.ne_of_lt (A_b2_15).lt
  have ne_b10_b18 : b10 ≠ b18 := by rw [g18]; exact Nat.ne_of_lt (A_b10_15).lt
  have g_b18 : n0 ≤ b18 := Nat.le_trans (Nat.le_trans Z0 SZ16) (Nat.le_of_eq g18.symm)
  have sz_b18 : h0.size ≤ b18 := Nat.le_trans SZ16 (Nat.le_of_eq g18.symm)
  have F_states_o0_19 : Fld Z h18 o0 "com/example/brisk_maze/briskmaze/search/RankedFrontier" "states" "[I" .null := (F_states_o0_15).ext Ex18
  have E_o0_19 : Exa Z h18 o0 "com/example/brisk_maze/briskmaze/search/RankedFrontier" := (E_o0_15).ext Ex18
  have F_size_o0_19 : Fld Z h18 o0 "com/example/brisk_maze/briskmaze/search/RankedFrontier" "size" "I" (.int (0 : Int32)) := (F_size_o0_15).ext Ex18
  have A_b2_19 : own_A Z h18 b2 .long 64 (fun _ => (.long (0 : Int64))) := (A_b2_15).ext Ex18
  have F_ranks_o0_19 : Fld Z h18 o0 "com/example/brisk_maze/briskmaze/search/RankedFrontier" "ranks" "[J" (.ref b2) := (F_ranks_o0_15).ext Ex18
  have A_b10_19 : own_A Z h18 b10 .int 64 (fun _ => (.int (0 : Int32))) := (A_b10_15).ext Ex18
  have F_costs_o0_19 : Fld Z h18 o0 "com/example/brisk_maze/briskmaze/search/RankedFrontier" "costs" "[I" (.ref b10) := (F_costs_o0_w14).ext Ex18
  have SZ20 : h0.size ≤ h18.size := Nat.le_trans SZ16 Ex18.1
  have ZZ20 : n0 ≤ h18.size := Nat.le_trans Z0 SZ20
  have K21 : Keep h0 h18 [o0] := (K17).ext Ex18
  have A_b18_18 : own_A Z h18 b18 .int 64 (fun _ => (.int (0 : Int32))) := own_A.new Ne18
  obtain ⟨T22, h22, X22, e22, W22, st22⟩ := putF X18 hx hZ hown (host := "") (Or.inl (hw _ (List.mem_of_getElem? (i := 16) rfl))) Via.refl e18 F_states_o0_19 E_o0_19 (Or.inl (hw _ (List.mem_of_getElem? (i := 17) rfl))) (hw _ (List.mem_of_getElem? (i := 2) rfl)) (ty := (.array .int)) (by decide) rfl rfl (g := (mkF m 25 #[.val (.ref o0)] [(.ref b18), (.ref o0)])) rfl rfl (hb hby d1_25)
  have N22 := Fr.snoc X22 N14 g_o0
  have F_states_o0_w22 : Fld Z h22 o0 "com/example/brisk_maze/briskmaze/search/RankedFrontier" "states" "[I" (.ref b18) := (F_states_o0_19).same W22
  have E_o0_23 : Exa Z h22 o0 "com/example/brisk_maze/briskmaze/search/RankedFrontier" := (E_o0_19).wr W22
  have F_size_o0_23 : Fld Z h22 o0 "com/example/brisk_maze/briskmaze/search/RankedFrontier" "size" "I" (.int (0 : Int32)) := (F_size_o0_19).other W22 (Or.inr (slot_ne (Or.inl (hw _ (List.mem_of_getElem? (i := 24) rfl))) (Or.inl (hw _ (List.mem_of_getElem? (i := 17) rfl))) (by decide) (t := .int) (t' := (.array .int)) (by decide) (by decide)))
  have A_b2_23 : own_A Z h22 b2 .long 64 (fun _ => (.long (0 : Int64))) := (A_b2_19).other W22 (Ne.symm ne_o0_b2)
  have F_ranks_o0_23 : Fld Z h22 o0 "com/example/brisk_maze/briskmaze/search/RankedFrontier" "ranks" "[J" (.ref b2) := (F_ranks_o0_19).other W22 (Or.inr (slot_ne (Or.inl (hw _ (List.mem_of_getElem? (i := 12) rfl))) (Or.inl (hw _ (List.mem_of_getElem? (i := 17) rfl))) (by decide) (t := (.array .long)) (t' := (.array .int)) (by decide) (by decide)))
  have A_b10_23 : own_A Z h22 b10 .int 64 (fun _ => (.int (0 : Int32))) := (A_b10_19).other W22 (Ne.symm ne_o0_b10)
  have F_costs_o0_23 : Fld Z h22 o0 "com/example/brisk_maze/briskmaze/search/RankedFrontier" "costs" "[I" (.ref b10) := (F_costs_o0_19).other W22 (Or.inr (slot_ne (Or.inl (hw _ (List.mem_of_getElem? (i := 15) rfl))) (Or.inl (hw _ (List.mem_of_getElem? (i := 17) rfl))) (by decide) (t := (.array .int)) (t' := (.array .int)) (by decide) (by decide)))
  have A_b18_23 : own_A Z h22 b18 .int 64 (fun _ => (.int (0 : Int32))) := (A_b18_18).other W22 (Ne.symm ne_o0_b18)
  have SZ24 : h0.size ≤ h22.size := by rw [W22.size]; exact SZ20
  have ZZ24 : n0 ≤ h22.size := Nat.le_trans Z0 SZ24
  have K25 : Keep h0 h22 [o0] := (K21).wr W22 (Or.inl (List.mem_of_getElem? (i := 0) rfl))
  have pre26 : ∀ t, Steps p.tables e below (T22.setTop (mkF m 28 #[.val (.ref o0)] [])) t → Steps p.tables e below (s₁.setTop (entryFrame m #[(.ref o0)] 1)) t := fun t k => pre0 t (by
    show Steps p.tables e below (s₁.setTop (mkF m 0 #[.val (.ref o0)] [])) _
    refine XS.aloadN X0.here hx rfl (hb hby d1_0) rfl rfl ?_
    show Steps p.tables e below (s₁.setTop (mkF m 1 #[.val (.ref o0)] [(.ref o0)])) _
    refine st1 _ ?_
    show Steps p.tables e below (T1.setTop (mkF m 4 #[.val (.ref o0)] [])) _
    refine XS.aloadN X1.here hx rfl (hb hby d1_4) rfl rfl ?_
    show Steps p.tables e below (T1.setTop (mkF m 5 #[.val (.ref o0)] [(.ref o0)])) _
    refine XS.bipush X1.here hx rfl (hb hby d1_5) ?_
    show Steps p.tables e below (T1.setTop (mkF m 7 #[.val (.ref o0)] [(.int (64 : Int32)), (.ref o0)])) _
    refine st2 _ ?_
    show Steps p.tables e below (T2.setTop (mkF m 9 #[.val (.ref o0)] [(.ref b2), (.ref o0)])) _
    refine st6 _ ?_
    show Steps p.tables e below (T6.setTop (mkF m 12 #[.val (.ref o0)] [])) _
    refine XS.aloadN X6.here hx rfl (hb hby d1_12) rfl rfl ?_
    show Steps p.tables e below (T6.setTop (mkF m 13 #[.val (.ref o0)] [(.ref o0)])) _
    refine XS.bipush X6.here hx rfl (hb hby d1_13) ?_
    show Steps p.tables e below (T6.setTop (mkF m 15 #[.val (.ref o0)] [(.int (64 : Int32)), (.ref o0)])) _
    refine st10 _ ?_
    show Steps p.tables e below (T10.setTop (mkF m 17 #[.val (.ref o0)] [(.ref b10), (.ref o0)])) _
    refine st14 _ ?_
    show Steps p.tables e below (T14.setTop (mkF m 20 #[.val (.ref o0)] [])) _
    refine XS.aloadN X14.here hx rfl (hb hby d1_20) rfl rfl ?_
    show Steps p.tables e below (T14.setTop (mkF m 21 #[.val (.ref o0)] [(.ref o0)])) _
    refine XS.bipush X14.here hx rfl (hb hby d1_21) ?_
    show Steps p.tables e below (T14.setTop (mkF m 23 #[.val (.ref o0)] [(.int (64 : Int32)), (.ref o0)])) _
    refine st18 _ ?_
    show Steps p.tables e below (T18.setTop (mkF m 25 #[.val (.ref o0)] [(.ref b18), (.ref o0)])) _
    refine st22 _ ?_
    show Steps p.tables e below (T22.setTop (mkF m 28 #[.val (.ref o0)] [])) _
    exact k)
  obtain ⟨fs, hr, hrun, hended, hW, hsame⟩ := X22.leave (v := none) (fun _ => rfl)
  refine ⟨_, _, pre26 _ ?_, hrun, hended, _, _, rfl, ?_, ⟨_, rfl⟩, hW, hsame.mono (by decide) (by decide)⟩
  · exact X22.returnOut hx Bd.returns (hb hby d1_28) hr
  · show Q1 Z o0 h0 n0 _ T22.heap _
    rw [e22]
    exact ⟨b2, b10, b18, rfl, N22, K25, sz_b2, sz_b10, sz_b18, ne_b2_b10, ne_b2_b18, ne_b10_b18, F_ranks_o0_23, F_costs_o0_23, F_states_o0_w22, F_size_o0_23, A_b2_23, A_b10_23, A_b18_23⟩
theorem d4_29 : decode prog_53_method_3_code 29 = .ok (.iload 5, 2) := by decide +kernel
theorem d4_31 : decode prog_53_method_3_code 31 = .ok (.ifCond .le 41, 3) := by decide +kernel
theorem d4_34 : decode prog_53_method_3_code 34 = .ok (.iload 5, 2) := by decide +kernel
theorem d4_36 : decode prog_53_method_3_code 36 = .ok (.iconst 1, 1) := by decide +kernel
theorem d4_37 : decode prog_53_method_3_code 37 = .ok (.isub, 1) := by decide +kernel
theorem d4_38 : decode prog_53_method_3_code 38 = .ok (.iconst 1, 1) := by decide +kernel
theorem d4_39 : decode prog_53_method_3_code 39 = .ok (.iushr, 1) := by decide +kernel
theorem d4_40 : decode prog_53_method_3_code 40 = .ok (.istore 6, 2) := by decide +kernel
theorem d4_42 : decode prog_53_method_3_code 42 = .ok (.aload_n 0, 1) := by decide +kernel
theorem d4_43 : decode prog_53_method_3_code 43 = .ok (.lload_n 2, 1) := by decide +kernel
theorem d4_44 : decode prog_53_method_3_code 44 = .ok (.iload 4, 2) := by decide +kernel
theorem d4_46 : decode prog_53_method_3_code 46 = .ok (.iload 6, 2) := by decide +kernel
theorem d4_48 : decode prog_53_method_3_code 48 = .ok (.invokevirtual 27, 3) := by decide +kernel
theorem d4_51 : decode prog_53_method_3_code 51 = .ok (.ifCond .ne 6, 3) := by decide +kernel
theorem d4_54 : decode prog_53_method_3_code 54 = .ok (.goto 18, 3) := by decide +kernel
theorem d4_57 : decode prog_53_method_3_code 57 = .ok (.aload_n 0, 1) := by decide +kernel
theorem d4_58 : decode prog_53_method_3_code 58 = .ok (.iload 6, 2) := by decide +kernel
theorem d4_60 : decode prog_53_method_3_code 60 = .ok (.iload 5, 2) := by decide +kernel
theorem d4_62 : decode prog_53_method_3_code 62 = .ok (.invokevirtual 31, 3) := by decide +kernel
theorem d4_65 : decode prog_53_method_3_code 65 = .ok (.iload 6, 2) := by decide +kernel
theorem d4_67 : decode prog_53_method_3_code 67 = .ok (.istore 5, 2) := by decide +kernel
theorem d4_69 : decode prog_53_method_3_code 69 = .ok (.goto (-40), 3) := by decide +kernel
theorem pd_2 : parseMethodDescriptor "(JII)Z" = some ⟨[.long, .int, .int], some .boolean⟩ := by decide +kernel
theorem pd_3 : parseMethodDescriptor "(II)V" = some ⟨[.int, .int], none⟩ := by decide +kernel
set_option maxRecDepth 65536 in
set_option maxHeartbeats 40000000 in
theorem loop_add {p : Program} {l : Launch} {e : Env} {s : State} {m : MethodId} {args : Array Value} {below : List Frame} {meth : Method} {c : Code} {Z : State} {a0 : Array Value} (o0 tr tc ts : Addr) (p1 : Int32) (q2 : Int64) (p3 : Int32) (n : Nat) (hn : n < 63) (E0 : Nat → own_E) (n0 : Nat) (g_tr : n0 ≤ tr) (g_tc : n0 ≤ tc) (g_ts : n0 ≤ ts) (ne_o0_tr : o0 ≠ tr) (ne_o0_tc : o0 ≠ tc) (ne_o0_ts : o0 ≠ ts) (ne_tr_tc : tr ≠ tc) (ne_tr_ts : tr ≠ ts) (ne_tc_ts : tc ≠ ts) (hx : p.tables.exec = Jvm.exec) (hZ : Z.Warmed39 s.vm) (hw : ∀ d ∈ tables_1, d.before a0 Z = true) (hby : c.code = prog_53_method_3_code) (hml : c.maxLocals = 7) (hown : s.vm.findClass "com/example/brisk_maze/briskmaze/search/RankedFrontier" = some m.cls) :
    ∀ (i : Nat) (fe : Nat → own_E) (s6 : Slot) (T0 : State) (h0 : Heap) (locs : List Loc), True → One s6 → own_upI n i E0 fe (q2, p3, p1) → Stand p l e ({ frames := 2, cells := 0, slots := 0, locals := 40 } : Room) s m args below meth c T0 locs 0 0 → T0.heap = h0 → Fr n0 locs → n0 ≤ h0.size → Fld Z h0 o0 "com/example/brisk_maze/briskmaze/search/RankedFrontier" "ranks" "[J" (.ref tr) → Fld Z h0 o0 "com/example/brisk_maze/briskmaze/search/RankedFrontier" "costs" "[I" (.ref tc) → Fld Z h0 o0 "com/example/brisk_maze/briskmaze/search/RankedFrontier" "states" "[I" (.ref ts) → Exa Z h0 o0 "com/example/brisk_maze/briskmaze/search/RankedFrontier" → own_A Z h0 tr .long 64 (fun kk => (.long (fe kk).1)) → own_A Z h0 tc .int 64 (fun kk => (.int (fe kk).2.1)) → own_A Z h0 ts .int 64 (fun kk => (.int (fe kk).2.2)) →
      ∃ (T1 : State) (h1 : Heap) (locs1 : List Loc) (i1 : Nat) (f1 : Nat → own_E) (s1 : Slot), Stand p l e ({ frames := 2, cells := 0, slots := 0, locals := 40 } : Room) s m args below meth c T1 locs1 0 0 ∧ T1.heap = h1 ∧ Fr n0 locs1 ∧ Keep h0 h1 [tr, tc, ts] ∧ own_A Z h1 tr .long 64 (fun kk => (.long (f1 kk).1)) ∧ own_A Z h1 tc .int 64 (fun kk => (.int (f1 kk).2.1)) ∧ own_A Z h1 ts .int 64 (fun kk => (.int (f1 kk).2.2)) ∧ i1 < 64 ∧ (own_heap (n + 1) (own_up f1 i1 (q2, p3, p1)) ∧ own_rr (n + 1) (own_up f1 i1 (q2, p3, p1)) E0) ∧ ∀ t, Steps p.tables e below (T1.setTop (mkF m 72 #[.val (.ref o0), .val (.int p1), .val (.long q2), .second, .val (.int p3), .val (.int (i1.toInt32)), s1] [])) t → Steps p.tables e below (T0.setTop (mkF m 29 #[.val (.ref o0), .val (.int p1), .val (.long q2), .second, .val (.int p3), .val (.int (i.toInt32)), s6] [])) t := by
  intro i
  induction i using Nat.strongRecOn with
  | ind i ih =>
    intro fe s6 T0 h0 locs _ hs6 hI X0 e0 N0 Z0 F_ranks_o0 F_costs_o0 F_states_o0 E_o0 A_tr A_tc A_ts
    have hi : i ≤ n := hI.1
    have pre0 : ∀ t, Steps p.tables e below (T0.setTop (mkF m 29 #[.val (.ref o0), .val (.int p1), .val (.long q2), .second, .val (.int p3), .val (.int (i.toInt32)), s6] [])) t → Steps p.tables e below (T0.setTop (mkF m 29 #[.val (.ref o0), .val (.int p1), .val (.long q2), .second, .val (.int p3), .val (.int (i.toInt32)), s6] [])) t := fun t k => k
    have pre1 : ∀ t, Steps p.tables e below (T0.setTop (mkF m 31 #[.val (.ref o0), .val (.int p1), .val (.long q2), .second, .val (.int p3), .val (.int (i.toInt32)), s6] [(.int (i.toInt32))])) t → Steps p.tables e below (T0.setTop (mkF m 29 #[.val (.ref o0), .val (.int p1), .val (.long q2), .second, .val (.int p3), .val (.int (i.toInt32)), s6] [])) t := fun t k => pre0 t (by
      show Steps p.tables e below (T0.setTop (mkF m 29 #[.val (.ref o0), .val (.int p1), .val (.long q2), .second, .val (.int p3), .val (.int (i.toInt32)), s6] [])) _
      refine XS.iload X0.here hx rfl (hb hby d4_29) rfl ?_
      show Steps p.tables e below (T0.setTop (mkF m 31 #[.val (.ref o0), .val (.int p1), .val (.long q2), .second, .val (.int p3), .val (.int (i.toInt32)), s6] [(.int (i.toInt32))])) _
      exact k)
    by_cases hs2 : (0 : Int32) < (i.toInt32)
    · have hpos : 0 < i := (own_ltn (a := 0) (b := i) (by decide) (by omega)).mp hs2
      have pre3 : ∀ t, Steps p.tables e below (T0.setTop (mkF m 42 #[.val (.ref o0), .val (.int p1), .val (.long q2), .second, .val (.int p3), .val (.int (i.toInt32)), .val (.int ((((i.toInt32) - (1 : Int32)).toUInt32 >>> ((1 : Int32) &&& 31).toUInt32).toInt32))] [])) t → Steps p.tables e below (T0.setTop (mkF m 29 #[.val (.ref o0), .val (.int p1), .val (.long q2), .second, .val (.int p3), .val (.int (i.toInt32)), s6] [])) t := fun t k => pre1 t (by
        refine XS.ifNo X0.here hx rfl (hb hby d4_31) rfl ((if0 _ _).trans (tlt hs2).2.2.2) ?_
        show Steps p.tables e below (T0.setTop (mkF m 34 #[.val (.ref o0), .val (.int p1), .val (.long q2), .second, .val (.int p3), .val (.int (i.toInt32)), s6] [])) _
        refine XS.iload X0.here hx rfl (hb hby d4_34) rfl ?_
        show Steps p.tables e below (T0.setTop (mkF m 36 #[.val (.ref o0), .val (.int p1), .val (.long q2), .second, .val (.int p3), .val (.int (i.toInt32)), s6] [(.int (i.toInt32))])) _
        refine XS.iconst X0.here hx rfl (hb hby d4_36) ?_
        show Steps p.tables e below (T0.setTop (mkF m 37 #[.val (.ref o0), .val (.int p1), .val (.long q2), .second, .val (.int p3), .val (.int (i.toInt32)), s6] [(.int (1 : Int32)), (.int (i.toInt32))])) _
        refine XS.isub X0.here hx rfl (hb hby d4_37) rfl ?_
        show Steps p.tables e below (T0.setTop (mkF m 38 #[.val (.ref o0), .val (.int p1), .val (.long q2), .second, .val (.int p3), .val (.int (i.toInt32)), s6] [(.int ((i.toInt32) - (1 : Int32)))])) _
        refine XS.iconst X0.here hx rfl (hb hby d4_38) ?_
        show Steps p.tables e below (T0.setTop (mkF m 39 #[.val (.ref o0), .val (.int p1), .val (.long q2), .second, .val (.int p3), .val (.int (i.toInt32)), s6] [(.int (1 : Int32)), (.int ((i.toInt32) - (1 : Int32)))])) _
        refine XS.iushr X0.here hx rfl (hb hby d4_39) rfl ?_
        show Steps p.tables e below (T0.setTop (mkF m 40 #[.val (.ref o0), .val (.int p1), .val (.long q2), .second, .val (.int p3), .val (.int (i.toInt32)), s6] [(.int ((((i.toInt32) - (1 : Int32)).toUInt32 >>> ((1 : Int32) &&& 31).toUInt32).toInt32))])) _
        refine XS.istore X0.here hx rfl (hb hby d4_40) rfl (l' := #[.val (.ref o0), .val (.int p1), .val (.long q2), .second, .val (.int p3), .val (.int (i.toInt32)), .val (.int ((((i.toInt32) - (1 : Int32)).toUInt32 >>> ((1 : Int32) &&& 31).toUInt32).toInt32))]) (XS.store1 rfl hs6 rfl) ?_
        show Steps p.tables e below (T0.setTop (mkF m 42 #[.val (.ref o0), .val (.int p1), .val (.long q2), .second, .val (.int p3), .val (.int (i.toInt32)), .val (.int ((((i.toInt32) - (1 : Int32)).toUInt32 >>> ((1 : Int32) &&& 31).toUInt32).toInt32))] [])) _
        exact k)
      have hre4 : ((((i.toInt32) - (1 : Int32)).toUInt32 >>> ((1 : Int32) &&& 31).toUInt32).toInt32) = (((i - 1) / 2).toInt32) := own_par64 ⟨i, by omega⟩ hpos
      have pre4 : ∀ t, Steps p.tables e below (T0.setTop (mkF m 42 #[.val (.ref o0), .val (.int p1), .val (.long q2), .second, .val (.int p3), .val (.int (i.toInt32)), .val (.int (((i - 1) / 2).toInt32))] [])) t → Steps p.tables e below (T0.setTop (mkF m 29 #[.val (.ref o0), .val (.int p1), .val (.long q2), .second, .val (.int p3), .val (.int (i.toInt32)), s6] [])) t := fun t k => pre3 t (by rw [hre4]; exact k)
      obtain ⟨cq5, q5, q5'⟩ := (E_o0).cell
      obtain ⟨_, _, ⟨T5, L5, k5, n5⟩, -, X5, ⟨Lc5, hQ5, l5, y5, z5⟩, st5⟩ := X0.privateBack hx (y := (⟨"com/example/brisk_maze/briskmaze/search/RankedFrontier", "precedes", "(JII)Z"⟩ : MethodName)) hown (mvT hZ (hw _ (List.mem_of_getElem? (i := 39) rfl))) (mvT hZ (hw _ (List.mem_of_getElem? (i := 40) rfl))) (own_selp (y := (⟨"com/example/brisk_maze/briskmaze/search/RankedFrontier", "precedes", "(JII)Z"⟩ : MethodName)) (mvT hZ (hw _ (List.mem_of_getElem? (i := 2) rfl))) (Cond.privateMethod_at (mvP hZ (hw _ (List.mem_of_getElem? (i := 41) rfl)) (args := #[]))) (mvT hZ (hw _ (List.mem_of_getElem? (i := 40) rfl))) (by decide)) (Cond.privateMethod_at (mvP hZ (hw _ (List.mem_of_getElem? (i := 41) rfl)) (args := #[]))) (mvT hZ (hw _ (List.mem_of_getElem? (i := 42) rfl))) (by decide) (backOf (W := 0) (rm7 l Z a0 hw [] o0 q2 p3 (((i - 1) / 2).toInt32) tr tc fe h0 n0 Z0 F_ranks_o0 F_costs_o0 A_tr A_tc (own_bd (show ((i - 1) / 2) < 64 by omega) (by decide))) hZ (hw _ (List.mem_of_getElem? (i := 42) rfl)) (hw _ (List.mem_of_getElem? (i := 3) rfl)) (by decide) (by decide)) (g := (mkF m 48 #[.val (.ref o0), .val (.int p1), .val (.long q2), .second, .val (.int p3), .val (.int (i.toInt32)), .val (.int (((i - 1) / 2).toInt32))] [(.int (((i - 1) / 2).toInt32)), (.int p3), (.long q2), (.ref o0)])) rfl (by rw [hml]; rfl) (Steps.refl _) (a := o0) (by rw [e0]; exact q5) q5' (argsL := [(.long q2), (.int p3), (.int (((i - 1) / 2).toInt32))]) (rest := []) (lenOf pd_2 rfl) rfl (by show 2 * 0 + _ ≤ _; exact Nat.le_of_eq rfl) (hb hby d4_48) (fun _ _ => ⟨rfl, e0, (by decide : 0 + 0 ≤ _), (by decide : 0 + 0 ≤ _)⟩)
      dsimp only [Pt.U, Pt.locs, Pt.cells, Pt.slots] at X5 l5 y5 z5 st5 hQ5
      subst l5 y5 z5
      obtain ⟨rfl, N5q, hh5⟩ := hQ5
      have N5 := Fr.app N0 N5q
      have pre6 : ∀ t, Steps p.tables e below (T5.setTop (mkF m 51 #[.val (.ref o0), .val (.int p1), .val (.long q2), .second, .val (.int p3), .val (.int (i.toInt32)), .val (.int (((i - 1) / 2).toInt32))] [(.int ((f8_ret q2 p3 ((fe ((((i - 1) / 2).toInt32) : Int32).toNatClampNeg).1) ((fe ((((i - 1) / 2).toInt32) : Int32).toNatClampNeg).2.1)) &&& 1))])) t → Steps p.tables e below (T0.setTop (mkF m 29 #[.val (.ref o0), .val (.int p1), .val (.long q2), .second, .val (.int p3), .val (.int (i.toInt32)), s6] [])) t := fun t k => pre4 t (by
        show Steps p.tables e below (T0.setTop (mkF m 42 #[.val (.ref o0), .val (.int p1), .val (.long q2), .second, .val (.int p3), .val (.int (i.toInt32)), .val (.int (((i - 1) / 2).toInt32))] [])) _
        refine XS.aloadN X0.here hx rfl (hb hby d4_42) rfl rfl ?_
        show Steps p.tables e below (T0.setTop (mkF m 43 #[.val (.ref o0), .val (.int p1), .val (.long q2), .second, .val (.int p3), .val (.int (i.toInt32)), .val (.int (((i - 1) / 2).toInt32))] [(.ref o0)])) _
        refine XS.lloadN X0.here hx rfl (hb hby d4_43) rfl ?_
        show Steps p.tables e below (T0.setTop (mkF m 44 #[.val (.ref o0), .val (.int p1), .val (.long q2), .second, .val (.int p3), .val (.int (i.toInt32)), .val (.int (((i - 1) / 2).toInt32))] [(.long q2), (.ref o0)])) _
        refine XS.iload X0.here hx rfl (hb hby d4_44) rfl ?_
        show Steps p.tables e below (T0.setTop (mkF m 46 #[.val (.ref o0), .val (.int p1), .val (.long q2), .second, .val (.int p3), .val (.int (i.toInt32)), .val (.int (((i - 1) / 2).toInt32))] [(.int p3), (.long q2), (.ref o0)])) _
        refine XS.iload X0.here hx rfl (hb hby d4_46) rfl ?_
        show Steps p.tables e below (T0.setTop (mkF m 48 #[.val (.ref o0), .val (.int p1), .val (.long q2), .second, .val (.int p3), .val (.int (i.toInt32)), .val (.int (((i - 1) / 2).toInt32))] [(.int (((i - 1) / 2).toInt32)), (.int p3), (.long q2), (.ref o0)])) _
        refine st5.trans ?_
        show Steps p.tables e below (T5.setTop (mkF m 51 #[.val (.ref o0), .val (.int p1), .val (.long q2), .second, .val (.int p3), .val (.int (i.toInt32)), .val (.int (((i - 1) / 2).toInt32))] [(.int ((f8_ret q2 p3 ((fe ((((i - 1) / 2).toInt32) : Int32).toNatClampNeg).1) ((fe ((((i - 1) / 2).toInt32) : Int32).toNatClampNeg).2.1)) &&& 1))])) _
        exact k)
      by_cases hs7 : ((f8_ret q2 p3 ((fe ((((i - 1) / 2).toInt32) : Int32).toNatClampNeg).1) ((fe ((((i - 1) / 2).toInt32) : Int32).toNatClampNeg).2.1)) &&& 1) = (0 : Int32)
      · have pre8 : ∀ t, Steps p.tables e below (T5.setTop (mkF m 72 #[.val (.ref o0), .val (.int p1), .val (.long q2), .second, .val (.int p3), .val (.int (i.toInt32)), .val (.int (((i - 1) / 2).toInt32))] [])) t → Steps p.tables e below (T0.setTop (mkF m 29 #[.val (.ref o0), .val (.int p1), .val (.long q2), .second, .val (.int p3), .val (.int (i.toInt32)), s6] [])) t := fun t k => pre6 t (by
          refine XS.ifNo X5.here hx rfl (hb hby d4_51) rfl ((if0 _ _).trans (teq hs7).2) ?_
          show Steps p.tables e below (T5.setTop (mkF m 54 #[.val (.ref o0), .val (.int p1), .val (.long q2), .second, .val (.int p3), .val (.int (i.toInt32)), .val (.int (((i - 1) / 2).toInt32))] [])) _
          refine XS.goto X5.here hx rfl (pc0 := 54) (pc' := 72) rfl (hb hby d4_54) (by decide) (by decide) ?_
          show Steps p.tables e below (T5.setTop (mkF m 72 #[.val (.ref o0), .val (.int p1), .val (.long q2), .second, .val (.int p3), .val (.int (i.toInt32)), .val (.int (((i - 1) / 2).toInt32))] [])) _
          exact k)
        exact ⟨_, _, _, i, fe, _, X5, hh5, N5, (Keep.refl h0 [tr, tc, ts]), A_tr, A_tc, A_ts, (by omega), own_up_out hI (Or.inr (by have q := (own_pv q2 p3 p1 _).mp hs7; rw [own_tn (show ((i - 1) / 2) < 2147483648 by omega)] at q; exact q)), pre8⟩
      · obtain ⟨cq9, q9, q9'⟩ := (E_o0).cell
        obtain ⟨_, _, ⟨T9, L9, k9, n9⟩, -, X9, ⟨Lc9, hQ9, l9, y9, z9⟩, st9⟩ := X5.privateBack hx (y := (⟨"com/example/brisk_maze/briskmaze/search/RankedFrontier", "move", "(II)V"⟩ : MethodName)) hown (mvT hZ (hw _ (List.mem_of_getElem? (i := 46) rfl))) (mvT hZ (hw _ (List.mem_of_getElem? (i := 47) rfl))) (own_selp (y := (⟨"com/example/brisk_maze/briskmaze/search/RankedFrontier", "move", "(II)V"⟩ : MethodName)) (mvT hZ (hw _ (List.mem_of_getElem? (i := 2) rfl))) (Cond.privateMethod_at (mvP hZ (hw _ (List.mem_of_getElem? (i := 48) rfl)) (args := #[]))) (mvT hZ (hw _ (List.mem_of_getElem? (i := 47) rfl))) (by decide)) (Cond.privateMethod_at (mvP hZ (hw _ (List.mem_of_getElem? (i := 48) rfl)) (args := #[]))) (mvT hZ (hw _ (List.mem_of_getElem? (i := 49) rfl))) (by decide) (backOf (W := 0) (rm9 l Z a0 hw [] o0 (((i - 1) / 2).toInt32) (i.toInt32) tr tc ts fe h0 n0 Z0 F_ranks_o0 F_costs_o0 F_states_o0 E_o0 A_tr A_tc A_ts g_tr g_tc g_ts ne_o0_tr ne_o0_tc ne_o0_ts ne_tr_tc ne_tr_ts ne_tc_ts (own_bd (show ((i - 1) / 2) < 64 by omega) (by decide)) (own_bd (show i < 64 by omega) (by decide))) hZ (hw _ (List.mem_of_getElem? (i := 49) rfl)) (hw _ (List.mem_of_getElem? (i := 3) rfl)) (by decide) (by decide)) (g := (mkF m 62 #[.val (.ref o0), .val (.int p1), .val (.long q2), .second, .val (.int p3), .val (.int (i.toInt32)), .val (.int (((i - 1) / 2).toInt32))] [(.int (i.toInt32)), (.int (((i - 1) / 2).toInt32)), (.ref o0)])) rfl (by rw [hml]; rfl) (Steps.refl _) (a := o0) (by rw [hh5]; exact q9) q9' (argsL := [(.int (((i - 1) / 2).toInt32)), (.int (i.toInt32))]) (rest := []) (lenOf pd_3 rfl) rfl (by show 2 * 0 + _ ≤ _; exact Nat.le_of_eq rfl) (hb hby d4_62) (fun _ _ => ⟨rfl, hh5, (by decide : 0 + 0 ≤ _), (by decide : 0 + 0 ≤ _)⟩)
        dsimp only [Pt.U, Pt.locs, Pt.cells, Pt.slots] at X9 l9 y9 z9 st9 hQ9
        subst l9 y9 z9
        obtain ⟨rfl, N9q, Kc9, P9_0, P9_1, P9_2⟩ := hQ9
        have N9 := Fr.app N5 N9q
        have F_ranks_o0_10 : Fld Z T9.heap o0 "com/example/brisk_maze/briskmaze/search/RankedFrontier" "ranks" "[J" (.ref tr) := (F_ranks_o0).keep Kc9 (ninS ne_o0_tr (ninS ne_o0_tc (ninS ne_o0_ts nin0)))
        have F_costs_o0_10 : Fld Z T9.heap o0 "com/example/brisk_maze/briskmaze/search/RankedFrontier" "costs" "[I" (.ref tc) := (F_costs_o0).keep Kc9 (ninS ne_o0_tr (ninS ne_o0_tc (ninS ne_o0_ts nin0)))
        have F_states_o0_10 : Fld Z T9.heap o0 "com/example/brisk_maze/briskmaze/search/RankedFrontier" "states" "[I" (.ref ts) := (F_states_o0).keep Kc9 (ninS ne_o0_tr (ninS ne_o0_tc (ninS ne_o0_ts nin0)))
        have E_o0_10 : Exa Z T9.heap o0 "com/example/brisk_maze/briskmaze/search/RankedFrontier" := (E_o0).keep Kc9
        have SZ11 : h0.size ≤ T9.heap.size := Nat.le_trans (Nat.le_refl _) Kc9.1
        have ZZ11 : n0 ≤ T9.heap.size := Nat.le_trans Z0 SZ11
        have K12 : Keep h0 T9.heap [tr, tc, ts] := ((Keep.refl h0 [tr, tc, ts])).trans Kc9 (allS (Or.inl (List.mem_of_getElem? (i := 0) rfl)) (allS (Or.inl (List.mem_of_getElem? (i := 1) rfl)) (allS (Or.inl (List.mem_of_getElem? (i := 2) rfl)) all0)))
        have pre13 : ∀ t, Steps p.tables e below (T9.setTop (mkF m 29 #[.val (.ref o0), .val (.int p1), .val (.long q2), .second, .val (.int p3), .val (.int (((i - 1) / 2).toInt32)), .val (.int (((i - 1) / 2).toInt32))] [])) t → Steps p.tables e below (T0.setTop (mkF m 29 #[.val (.ref o0), .val (.int p1), .val (.long q2), .second, .val (.int p3), .val (.int (i.toInt32)), s6] [])) t := fun t k => pre6 t (by
          refine XS.ifYes X5.here hx rfl (pc0 := 51) (pc' := 57) rfl (hb hby d4_51) rfl ((if0 _ _).trans (feq hs7).2) (by decide) (by decide) ?_
          show Steps p.tables e below (T5.setTop (mkF m 57 #[.val (.ref o0), .val (.int p1), .val (.long q2), .second, .val (.int p3), .val (.int (i.toInt32)), .val (.int (((i - 1) / 2).toInt32))] [])) _
          refine XS.aloadN X5.here hx rfl (hb hby d4_57) rfl rfl ?_
          show Steps p.tables e below (T5.setTop (mkF m 58 #[.val (.ref o0), .val (.int p1), .val (.long q2), .second, .val (.int p3), .val (.int (i.toInt32)), .val (.int (((i - 1) / 2).toInt32))] [(.ref o0)])) _
          refine XS.iload X5.here hx rfl (hb hby d4_58) rfl ?_
          show Steps p.tables e below (T5.setTop (mkF m 60 #[.val (.ref o0), .val (.int p1), .val (.long q2), .second, .val (.int p3), .val (.int (i.toInt32)), .val (.int (((i - 1) / 2).toInt32))] [(.int (((i - 1) / 2).toInt32)), (.ref o0)])) _
          refine XS.iload X5.here hx rfl (hb hby d4_60) rfl ?_
          show Steps p.tables e below (T5.setTop (mkF m 62 #[.val (.ref o0), .val (.int p1), .val (.long q2), .second, .val (.int p3), .val (.int (i.toInt32)), .val (.int (((i - 1) / 2).toInt32))] [(.int (i.toInt32)), (.int (((i - 1) / 2).toInt32)), (.ref o0)])) _
          refine st9.trans ?_
          show Steps p.tables e below (T9.setTop (mkF m 65 #[.val (.ref o0), .val (.int p1), .val (.long q2), .second, .val (.int p3), .val (.int (i.toInt32)), .val (.int (((i - 1) / 2).toInt32))] [])) _
          refine XS.iload X9.here hx rfl (hb hby d4_65) rfl ?_
          show Steps p.tables e below (T9.setTop (mkF m 67 #[.val (.ref o0), .val (.int p1), .val (.long q2), .second, .val (.int p3), .val (.int (i.toInt32)), .val (.int (((i - 1) / 2).toInt32))] [(.int (((i - 1) / 2).toInt32))])) _
          refine XS.istore X9.here hx rfl (hb hby d4_67) rfl (l' := #[.val (.ref o0), .val (.int p1), .val (.long q2), .second, .val (.int p3), .val (.int (((i - 1) / 2).toInt32)), .val (.int (((i - 1) / 2).toInt32))]) rfl ?_
          show Steps p.tables e below (T9.setTop (mkF m 69 #[.val (.ref o0), .val (.int p1), .val (.long q2), .second, .val (.int p3), .val (.int (((i - 1) / 2).toInt32)), .val (.int (((i - 1) / 2).toInt32))] [])) _
          refine XS.goto X9.here hx rfl (pc0 := 69) (pc' := 29) rfl (hb hby d4_69) (by decide) (by decide) ?_
          show Steps p.tables e below (T9.setTop (mkF m 29 #[.val (.ref o0), .val (.int p1), .val (.long q2), .second, .val (.int p3), .val (.int (((i - 1) / 2).toInt32)), .val (.int (((i - 1) / 2).toInt32))] [])) _
          exact k)
        have hb : own_bf (q2, p3, p1) (fe ((i - 1) / 2)) := by
          have q := Classical.byContradiction fun q => hs7 ((own_pv q2 p3 p1 _).mpr q)
          rw [own_tn (show ((i - 1) / 2) < 2147483648 by omega)] at q
          exact q
        obtain ⟨T1, h1, locs1, i1, f1, s1, Y1, Y2, Y3, Y4, Y5, Y6, Y7, Y8, Y9, Y10⟩ := ih ((i - 1) / 2) (by omega) (own_up fe ((i.toInt32) : Int32).toNatClampNeg (fe ((((i - 1) / 2).toInt32) : Int32).toNatClampNeg)) (.val (.int (((i - 1) / 2).toInt32))) _ _ _ trivial (One.val rfl) (by rw [own_tn (show i < 2147483648 by omega), own_tn (show ((i - 1) / 2) < 2147483648 by omega)]; exact own_up_step hI hpos hb) X9 rfl N9 ZZ11 F_ranks_o0_10 F_costs_o0_10 F_states_o0_10 E_o0_10 P9_0 P9_1 P9_2
        exact ⟨T1, h1, locs1, i1, f1, s1, Y1, Y2, Y3, K12.trans Y4 (fun x hx => Or.inl hx), Y5, Y6, Y7, Y8, Y9, fun t k => pre13 t (Y10 t k)⟩
    · have pre14 : ∀ t, Steps p.tables e below (T0.setTop (mkF m 72 #[.val (.ref o0), .val (.int p1), .val (.long q2), .second, .val (.int p3), .val (.int (i.toInt32)), s6] [])) t → Steps p.tables e below (T0.setTop (mkF m 29 #[.val (.ref o0), .val (.int p1), .val (.long q2), .second, .val (.int p3), .val (.int (i.toInt32)), s6] [])) t := fun t k => pre1 t (by
        refine XS.ifYes X0.here hx rfl (pc0 := 31) (pc' := 72) rfl (hb hby d4_31) rfl ((if0 _ _).trans (flt hs2).2.2.2) (by decide) (by decide) ?_
        show Steps p.tables e below (T0.setTop (mkF m 72 #[.val (.ref o0), .val (.int p1), .val (.long q2), .second, .val (.int p3), .val (.int (i.toInt32)), s6] [])) _
        exact k)
      exact ⟨_, _, _, i, fe, _, X0, e0, N0, (Keep.refl h0 [tr, tc, ts]), A_tr, A_tc, A_ts, (by omega), own_up_out hI (Or.inl (by have q := mt (own_ltn (a := 0) (b := i) (by decide) (by omega)).mpr hs2; omega)), pre14⟩
theorem d4_0 : decode prog_53_method_3_code 0 = .ok (.aload_n 0, 1) := by decide +kernel
theorem d4_1 : decode prog_53_method_3_code 1 = .ok (.getfield 20, 3) := by decide +kernel
theorem d4_4 : decode prog_53_method_3_code 4 = .ok (.aload_n 0, 1) := by decide +kernel
theorem d4_5 : decode prog_53_method_3_code 5 = .ok (.getfield 9, 3) := by decide +kernel
theorem d4_8 : decode prog_53_method_3_code 8 = .ok (.arraylength, 1) := by decide +kernel
theorem d4_9 : decode prog_53_method_3_code 9 = .ok (.if_icmp .ne 7, 3) := by decide +kernel
theorem d4_16 : decode prog_53_method_3_code 16 = .ok (.aload_n 0, 1) := by decide +kernel
theorem d4_17 : decode prog_53_method_3_code 17 = .ok (.dup, 1) := by decide +kernel
theorem d4_18 : decode prog_53_method_3_code 18 = .ok (.getfield 20, 3) := by decide +kernel
theorem d4_21 : decode prog_53_method_3_code 21 = .ok (.dup_x1, 1) := by decide +kernel
theorem d4_22 : decode prog_53_method_3_code 22 = .ok (.iconst 1, 1) := by decide +kernel
theorem d4_23 : decode prog_53_method_3_code 23 = .ok (.iadd, 1) := by decide +kernel
theorem d4_24 : decode prog_53_method_3_code 24 = .ok (.putfield 20, 3) := by decide +kernel
theorem d4_27 : decode prog_53_method_3_code 27 = .ok (.istore 5, 2) := by decide +kernel
theorem d4_72 : decode prog_53_method_3_code 72 = .ok (.aload_n 0, 1) := by decide +kernel
theorem d4_73 : decode prog_53_method_3_code 73 = .ok (.iload 5, 2) := by decide +kernel
theorem d4_75 : decode prog_53_method_3_code 75 = .ok (.lload_n 2, 1) := by decide +kernel
theorem d4_76 : decode prog_53_method_3_code 76 = .ok (.iload 4, 2) := by decide +kernel
theorem d4_78 : decode prog_53_method_3_code 78 = .ok (.iload_n 1, 1) := by decide +kernel
theorem d4_79 : decode prog_53_method_3_code 79 = .ok (.invokevirtual 35, 3) := by decide +kernel
theorem d4_82 : decode prog_53_method_3_code 82 = .ok (.return_, 1) := by decide +kernel
theorem ef_4 (m : MethodId) (o0 : Addr) (p1 : Int32) (q2 : Int64) (p3 : Int32) : entryFrame m #[(.ref o0), (.int p1), (.long q2), (.int p3)] 7 = mkF m 0 #[.val (.ref o0), .val (.int p1), .val (.long q2), .second, .val (.int p3), .unset, .unset] [] := by first | (simp [entryFrame, mkF, argsToLocals, Value.category]; done) | rfl

def Q4 (Z : State) (o0 : Addr) (p1 : Int32) (q2 : Int64) (p3 : Int32) (tr tc ts : Addr) (fe : Nat → own_E) (n : Nat) (h0 : Heap) (n0 : Nat) (v : Option Value) (h : Heap) (L : List Loc) : Prop := ∃ (f2 : Nat → own_E), v = none ∧ Fr n0 L ∧ Keep h0 h [tr, tc, ts, o0] ∧ (Fld Z h o0 "com/example/brisk_maze/briskmaze/search/RankedFrontier" "size" "I" (.int ((n + 1).toInt32))) ∧ (Fld Z h o0 "com/example/brisk_maze/briskmaze/search/RankedFrontier" "ranks" "[J" (.ref tr)) ∧ (Fld Z h o0 "com/example/brisk_maze/briskmaze/search/RankedFrontier" "costs" "[I" (.ref tc)) ∧ (Fld Z h o0 "com/example/brisk_maze/briskmaze/search/RankedFrontier" "states" "[I" (.ref ts)) ∧ (own_A Z h tr .long 64 (fun kk => (.long (f2 kk).1))) ∧ (own_A Z h tc .int 64 (fun kk => (.int (f2 kk).2.1))) ∧ (own_A Z h ts .int 64 (fun kk => (.int (f2 kk).2.2))) ∧ (own_heap (n + 1) f2) ∧ (own_rr (n + 1) f2 (own_up fe n (q2, p3, p1)))
set_option maxRecDepth 65536 in
set_option maxHeartbeats 40000000 in
theorem rm4 (l : Launch) (Z : State) (a0 : Array Value) (hw : ∀ d ∈ tables_1, d.before a0 Z = true) (ws : List Jvm.Cond) (o0 : Addr) (p1 : Int32) (q2 : Int64) (p3 : Int32) (tr tc ts : Addr) (fe : Nat → own_E) (n : Nat) (h0 : Heap) (n0 : Nat) (Z0 : n0 ≤ h0.size) (F_ranks_o0 : Fld Z h0 o0 "com/example/brisk_maze/briskmaze/search/RankedFrontier" "ranks" "[J" (.ref tr)) (F_costs_o0 : Fld Z h0 o0 "com/example/brisk_maze/briskmaze/search/RankedFrontier" "costs" "[I" (.ref tc)) (F_states_o0 : Fld Z h0 o0 "com/example/brisk_maze/briskmaze/search/RankedFrontier" "states" "[I" (.ref ts)) (E_o0 : Exa Z h0 o0 "com/example/brisk_maze/briskmaze/search/RankedFrontier") (F_size_o0 : Fld Z h0 o0 "com/example/brisk_maze/briskmaze/search/RankedFrontier" "size" "I" (.int (n.toInt32))) (A_tr : own_A Z h0 tr .long 64 (fun kk => (.long (fe kk).1))) (A_tc : own_A Z h0 tc .int 64 (fun kk => (.int (fe kk).2.1))) (A_ts : own_A Z h0 ts .int 64 (fun kk => (.int (fe kk).2.2))) (g_tr : n0 ≤ tr) (g_tc : n0 ≤ tc) (g_ts : n0 ≤ ts) (g_o0 : n0 ≤ o0) (ne_o0_tr : o0 ≠ tr) (ne_o0_tc : o0 ≠ tc) (ne_o0_ts : o0 ≠ ts) (ne_tr_tc : tr ≠ tc) (ne_tr_ts : tr ≠ ts) (ne_tc_ts : tc ≠ ts) (hn : n < 63) (hH : own_heap n fe) :
    MetFree l (⟨"com/example/brisk_maze/briskmaze/search/RankedFrontier", "add", "(IJI)V"⟩ : MethodName) (head1 (Jvm.Cond.code (⟨"com/example/brisk_maze/briskmaze/search/RankedFrontier", "add", "(IJI)V"⟩ : MethodName) prog_53_method_3_code 7 none :: ws) ({ frames := 2, cells := 0, slots := 0, locals := 40 } : Room)) (fun a U => a = #[(.ref o0), (.int p1), (.long q2), (.int p3)] ∧ Z.Warmed39 U.vm ∧ U.heap = h0) (fun _ _ _ _ _ => True) (fun _ U o U' => ∃ v L, o = .returned v ∧ Q4 Z o0 p1 q2 p3 tr tc ts fe n h0 n0 v U'.heap L ∧ FrameEnd U o U' L ({ frames := 2, cells := 0, slots := 0, locals := 40 } : Room).cells ({ frames := 2, cells := 0, slots := 0, locals := 40 } : Room).slots) := by
  refine MetFree.of_bodySF (plainFor_of_name pn_0) hisR ?_
  intro p e s m args below meth c s₁ Bd hml0 hP hK
  obtain ⟨rfl, hZ, hh⟩ := hP
  have hx := Bd.exec
  have hby := Bd.bytes
  have hml : c.maxLocals = 7 := hml0
  have hown : s.vm.findClass "com/example/brisk_maze/briskmaze/search/RankedFrontier" = some m.cls := findClass_of_methodNamed Bd.named
  have hnm := (name_of_methodNamed Bd.named Bd.method).1
  have X0 : Stand p l e ({ frames := 2, cells := 0, slots := 0, locals := 40 } : Room) s m #[(.ref o0), (.int p1), (.long q2), (.int p3)] below meth c s₁ [] 0 0 := Stand.of_body Bd
  have e0 : s₁.heap = h0 := by rw [← hh, Bd.state]; rfl
  have N0 := Fr.nil n0
  have pre0 : ∀ t, Steps p.tables e below (s₁.setTop (mkF m 0 #[.val (.ref o0), .val (.int p1), .val (.long q2), .second, .val (.int p3), .unset, .unset] [])) t → Steps p.tables e below (s₁.setTop (entryFrame m #[(.ref o0), (.int p1), (.long q2), (.int p3)] 7)) t := fun t k => castTop (ef_4 m o0 p1 q2 p3) k
  obtain ⟨T1, X1, e1, st1⟩ := getF X0 hx hZ hown (host := "") (Or.inl (hw _ (List.mem_of_getElem? (i := 23) rfl))) Via.refl e0 F_size_o0 (g := (mkF m 1 #[.val (.ref o0), .val (.int p1), .val (.long q2), .second, .val (.int p3), .unset, .unset] [(.ref o0)])) rfl rfl (hb hby d4_1)
  obtain ⟨T2, X2, e2, st2⟩ := getF X1 hx hZ hown (host := "") (Or.inl (hw _ (List.mem_of_getElem? (i := 11) rfl))) Via.refl e1 F_ranks_o0 (g := (mkF m 5 #[.val (.ref o0), .val (.int p1), .val (.long q2), .second, .val (.int p3), .unset, .unset] [(.ref o0), (.int (n.toInt32))])) rfl rfl (hb hby d4_5)
  have qa3 := A_tr
  obtain ⟨c3, Ar3, Sz3, H3⟩ := qa3
  obtain ⟨T4, X4, e4, st4⟩ := getF X2 hx hZ hown (host := "") (Or.inl (hw _ (List.mem_of_getElem? (i := 23) rfl))) Via.refl e2 F_size_o0 (g := (mkF m 18 #[.val (.ref o0), .val (.int p1), .val (.long q2), .second, .val (.int p3), .unset, .unset] [(.ref o0), (.ref o0)])) rfl rfl (hb hby d4_18)
  obtain ⟨T5, h5, X5, e5, W5, st5⟩ := putF X4 hx hZ hown (host := "") (Or.inl (hw _ (List.mem_of_getElem? (i := 23) rfl))) Via.refl e4 F_size_o0 E_o0 (Or.inl (hw _ (List.mem_of_getElem? (i := 24) rfl))) (hw _ (List.mem_of_getElem? (i := 2) rfl)) (ty := .int) (by decide) rfl rfl (g := (mkF m 24 #[.val (.ref o0), .val (.int p1), .val (.long q2), .second, .val (.int p3), .unset, .unset] [(.int ((n.toInt32) + (1 : Int32))), (.ref o0), (.int (n.toInt32))])) rfl rfl (hb hby d4_24)
  have N5 := Fr.snoc X5 N0 g_o0
  have F_size_o0_w5 : Fld Z h5 o0 "com/example/brisk_maze/briskmaze/search/RankedFrontier" "size" "I" (.int ((n.toInt32) + (1 : Int32))) := (F_size_o0).same W5
  have F_ranks_o0_6 : Fld Z h5 o0 "com/example/brisk_maze/briskmaze/search/RankedFrontier" "ranks" "[J" (.ref tr) := (F_ranks_o0).other W5 (Or.inr (slot_ne (Or.inl (hw _ (List.mem_of_getElem? (i := 12) rfl))) (Or.inl (hw _ (List.mem_of_getElem? (i := 24) rfl))) (by decide) (t := (.array .long)) (t' := .int) (by decide) (by decide)))
  have F_costs_o0_6 : Fld Z h5 o0 "com/example/brisk_maze/briskmaze/search/RankedFrontier" "costs" "[I" (.ref tc) := (F_costs_o0).other W5 (Or.inr (slot_ne (Or.inl (hw _ (List.mem_of_getElem? (i := 15) rfl))) (Or.inl (hw _ (List.mem_of_getElem? (i := 24) rfl))) (by decide) (t := (.array .int)) (t' := .int) (by decide) (by decide)))
  have F_states_o0_6 : Fld Z h5 o0 "com/example/brisk_maze/briskmaze/search/RankedFrontier" "states" "[I" (.ref ts) := (F_states_o0).other W5 (Or.inr (slot_ne (Or.inl (hw _ (List.mem_of_getElem? (i := 17) rfl))) (Or.inl (hw _ (List.mem_of_getElem? (i := 24) rfl))) (by decide) (t := (.array .int)) (t' := .int) (by decide) (by decide)))
  have E_o0_6 : Exa Z h5 o0 "com/example/brisk_maze/briskmaze/search/RankedFrontier" := (E_o0).wr W5
  have A_tr_6 : own_A Z h5 tr .long 64 (fun kk => (.long (fe kk).1)) := (A_tr).other W5 (Ne.symm ne_o0_tr)
  have A_tc_6 : own_A Z h5 tc .int 64 (fun kk => (.int (fe kk).2.1)) := (A_tc).other W5 (Ne.symm ne_o0_tc)
  have A_ts_6 : own_A Z h5 ts .int 64 (fun kk => (.int (fe kk).2.2)) := (A_ts).other W5 (Ne.symm ne_o0_ts)
  have SZ7 : h0.size ≤ h5.size := by rw [W5.size]; exact (Nat.le_refl _)
  have ZZ7 : n0 ≤ h5.size := Nat.le_trans Z0 SZ7
  have K8 : Keep h0 h5 [tr, tc, ts, o0] := ((Keep.refl h0 [tr, tc, ts, o0])).wr W5 (Or.inl (List.mem_of_getElem? (i := 3) rfl))
  obtain ⟨T9, h9, L9, i9, f9, s9, X9, e9, N9, Kc9, Pa9, Pb9, Pc9, hi9, hh9, st9⟩ := loop_add o0 tr tc ts p1 q2 p3 n hn (own_up fe n (q2, p3, p1)) n0 g_tr g_tc g_ts ne_o0_tr ne_o0_tc ne_o0_ts ne_tr_tc ne_tr_ts ne_tc_ts hx hZ hw hby hml hown n fe .unset _ _ _ trivial One.u (own_up_start hH _) X5 e5 N5 ZZ7 F_ranks_o0_6 F_costs_o0_6 F_states_o0_6 E_o0_6 A_tr_6 A_tc_6 A_ts_6
  have F_ranks_o0_10 : Fld Z h9 o0 "com/example/brisk_maze/briskmaze/search/RankedFrontier" "ranks" "[J" (.ref tr) := (F_ranks_o0_6).keep Kc9 (ninS ne_o0_tr (ninS ne_o0_tc (ninS ne_o0_ts nin0)))
  have F_costs_o0_10 : Fld Z h9 o0 "com/example/brisk_maze/briskmaze/search/RankedFrontier" "costs" "[I" (.ref tc) := (F_costs_o0_6).keep Kc9 (ninS ne_o0_tr (ninS ne_o0_tc (ninS ne_o0_ts nin0)))
  have F_states_o0_10 : Fld Z h9 o0 "com/example/brisk_maze/briskmaze/search/RankedFrontier" "states" "[I" (.ref ts) := (F_states_o0_6).keep Kc9 (ninS ne_o0_tr (ninS ne_o0_tc (ninS ne_o0_ts nin0)))
  have E_o0_10 : Exa Z h9 o0 "com/example/brisk_maze/briskmaze/search/RankedFrontier" := (E_o0_6).keep Kc9
  have F_size_o0_10 : Fld Z h9 o0 "com/example/brisk_maze/briskmaze/search/RankedFrontier" "size" "I" (.int ((n.toInt32) + (1 : Int32))) := (F_size_o0_w5).keep Kc9 (ninS ne_o0_tr (ninS ne_o0_tc (ninS ne_o0_ts nin0)))
  have SZ11 : h0.size ≤ h9.size := Nat.le_trans SZ7 Kc9.1
  have ZZ11 : n0 ≤ h9.size := Nat.le_trans Z0 SZ11
  have K12 : Keep h0 h9 [tr, tc, ts, o0] := (K8).trans Kc9 (allS (Or.inl (List.mem_of_getElem? (i := 0) rfl)) (allS (Or.inl (List.mem_of_getElem? (i := 1) rfl)) (allS (Or.inl (List.mem_of_getElem? (i := 2) rfl)) all0)))
  obtain ⟨cq13, q13, q13'⟩ := (E_o0_10).cell
  obtain ⟨_, _, ⟨T13, L13, k13, n13⟩, -, X13, ⟨Lc13, hQ13, l13, y13, z13⟩, st13⟩ := X9.privateBack hx (y := (⟨"com/example/brisk_maze/briskmaze/search/RankedFrontier", "place", "(IJII)V"⟩ : MethodName)) hown (mvT hZ (hw _ (List.mem_of_getElem? (i := 30) rfl))) (mvT hZ (hw _ (List.mem_of_getElem? (i := 31) rfl))) (own_selp (y := (⟨"com/example/brisk_maze/briskmaze/search/RankedFrontier", "place", "(IJII)V"⟩ : MethodName)) (mvT hZ (hw _ (List.mem_of_getElem? (i := 2) rfl))) (Cond.privateMethod_at (mvP hZ (hw _ (List.mem_of_getElem? (i := 32) rfl)) (args := #[]))) (mvT hZ (hw _ (List.mem_of_getElem? (i := 31) rfl))) (by decide)) (Cond.privateMethod_at (mvP hZ (hw _ (List.mem_of_getElem? (i := 32) rfl)) (args := #[]))) (mvT hZ (hw _ (List.mem_of_getElem? (i := 33) rfl))) (by decide) (backOf (W := 0) (rm5 l Z a0 hw [] o0 (i9.toInt32) q2 p3 p1 tr tc ts f9 h9 n0 ZZ11 F_ranks_o0_10 F_costs_o0_10 F_states_o0_10 Pa9 Pb9 Pc9 g_tr g_tc g_ts ne_o0_tr ne_o0_tc ne_o0_ts ne_tr_tc ne_tr_ts ne_tc_ts (own_bd (show i9 < 64 from hi9) (by decide))) hZ (hw _ (List.mem_of_getElem? (i := 33) rfl)) (hw _ (List.mem_of_getElem? (i := 3) rfl)) (by decide) (by decide)) (g := (mkF m 79 #[.val (.ref o0), .val (.int p1), .val (.long q2), .second, .val (.int p3), .val (.int (i9.toInt32)), s9] [(.int p1), (.int p3), (.long q2), (.int (i9.toInt32)), (.ref o0)])) rfl (by rw [hml]; rfl) (Steps.refl _) (a := o0) (by rw [e9]; exact q13) q13' (argsL := [(.int (i9.toInt32)), (.long q2), (.int p3), (.int p1)]) (rest := []) (lenOf pd_1 rfl) rfl (by show 2 * 0 + _ ≤ _; exact Nat.le_of_eq rfl) (hb hby d4_79) (fun _ _ => ⟨rfl, e9, (by decide : 0 + 0 ≤ _), (by decide : 0 + 0 ≤ _)⟩)
  dsimp only [Pt.U, Pt.locs, Pt.cells, Pt.slots] at X13 l13 y13 z13 st13 hQ13
  subst l13 y13 z13
  obtain ⟨rfl, N13q, Kc13, P13_0, P13_1, P13_2⟩ := hQ13
  have N13 := Fr.app N9 N13q
  have F_ranks_o0_14 : Fld Z T13.heap o0 "com/example/brisk_maze/briskmaze/search/RankedFrontier" "ranks" "[J" (.ref tr) := (F_ranks_o0_10).keep Kc13 (ninS ne_o0_tr (ninS ne_o0_tc (ninS ne_o0_ts nin0)))
  have F_costs_o0_14 : Fld Z T13.heap o0 "com/example/brisk_maze/briskmaze/search/RankedFrontier" "costs" "[I" (.ref tc) := (F_costs_o0_10).keep Kc13 (ninS ne_o0_tr (ninS ne_o0_tc (ninS ne_o0_ts nin0)))
  have F_states_o0_14 : Fld Z T13.heap o0 "com/example/brisk_maze/briskmaze/search/RankedFrontier" "states" "[I" (.ref ts) := (F_states_o0_10).keep Kc13 (ninS ne_o0_tr (ninS ne_o0_tc (ninS ne_o0_ts nin0)))
  have E_o0_14 : Exa Z T13.heap o0 "com/example/brisk_maze/briskmaze/search/RankedFrontier" := (E_o0_10).keep Kc13
  have F_size_o0_14 : Fld Z T13.heap o0 "com/example/brisk_maze/briskmaze/search/RankedFrontier" "size" "I" (.int ((n.toInt32) + (1 : Int32))) := (F_size_o0_10).keep Kc13 (ninS ne_o0_tr (ninS ne_o0_tc (ninS ne_o0_ts nin0)))
  have SZ15 : h0.size ≤ T13.heap.size := Nat.le_trans SZ11 Kc13.1
  have ZZ15 : n0 ≤ T13.heap.size := Nat.le_trans Z0 SZ15
  have K16 : Keep h0 T13.heap [tr, tc, ts, o0] := (K12).trans Kc13 (allS (Or.inl (List.mem_of_getElem? (i := 0) rfl)) (allS (Or.inl (List.mem_of_getElem? (i := 1) rfl)) (allS (Or.inl (List.mem_of_getElem? (i := 2) rfl)) all0)))
  have hfin9 : own_heap (n + 1) (own_up f9 ((i9.toInt32) : Int32).toNatClampNeg (q2, p3, p1)) ∧ own_rr (n + 1) (own_up f9 ((i9.toInt32) : Int32).toNatClampNeg (q2, p3, p1)) (own_up fe n (q2, p3, p1)) := by rw [own_tn (show i9 < 2147483648 by omega)]; exact hh9
  have pre17 : ∀ t, Steps p.tables e below (T13.setTop (mkF m 82 #[.val (.ref o0), .val (.int p1), .val (.long q2), .second, .val (.int p3), .val (.int (i9.toInt32)), s9] [])) t → Steps p.tables e below (s₁.setTop (entryFrame m #[(.ref o0), (.int p1), (.long q2), (.int p3)] 7)) t := fun t k => pre0 t (by
    show Steps p.tables e below (s₁.setTop (mkF m 0 #[.val (.ref o0), .val (.int p1), .val (.long q2), .second, .val (.int p3), .unset, .unset] [])) _
    refine XS.aloadN X0.here hx rfl (hb hby d4_0) rfl rfl ?_
    show Steps p.tables e below (s₁.setTop (mkF m 1 #[.val (.ref o0), .val (.int p1), .val (.long q2), .second, .val (.int p3), .unset, .unset] [(.ref o0)])) _
    refine st1 _ ?_
    show Steps p.tables e below (T1.setTop (mkF m 4 #[.val (.ref o0), .val (.int p1), .val (.long q2), .second, .val (.int p3), .unset, .unset] [(.int (n.toInt32))])) _
    refine XS.aloadN X1.here hx rfl (hb hby d4_4) rfl rfl ?_
    show Steps p.tables e below (T1.setTop (mkF m 5 #[.val (.ref o0), .val (.int p1), .val (.long q2), .second, .val (.int p3), .unset, .unset] [(.ref o0), (.int (n.toInt32))])) _
    refine st2 _ ?_
    show Steps p.tables e below (T2.setTop (mkF m 8 #[.val (.ref o0), .val (.int p1), .val (.long q2), .second, .val (.int p3), .unset, .unset] [(.ref tr), (.int (n.toInt32))])) _
    refine X2.arraylength hx (by rw [e2]; exact Ar3.1) (State.isArrayOf_alike hZ.alike Ar3.2.1) (g := (mkF m 8 #[.val (.ref o0), .val (.int p1), .val (.long q2), .second, .val (.int p3), .unset, .unset] [(.ref tr), (.int (n.toInt32))])) rfl rfl (hb hby d4_8) _ ?_
    rw [own_len Sz3 (z := (64 : Int32)) rfl]
    show Steps p.tables e below (T2.setTop (mkF m 9 #[.val (.ref o0), .val (.int p1), .val (.long q2), .second, .val (.int p3), .unset, .unset] [(.int (64 : Int32)), (.int (n.toInt32))])) _
    refine XS.icmpYes X2.here hx rfl (pc0 := 9) (pc' := 16) rfl (hb hby d4_9) rfl (feq (show ¬ ((n.toInt32) = (64 : Int32)) from own_n64 hn)).2 (by decide) (by decide) ?_
    show Steps p.tables e below (T2.setTop (mkF m 16 #[.val (.ref o0), .val (.int p1), .val (.long q2), .second, .val (.int p3), .unset, .unset] [])) _
    refine XS.aloadN X2.here hx rfl (hb hby d4_16) rfl rfl ?_
    show Steps p.tables e below (T2.setTop (mkF m 17 #[.val (.ref o0), .val (.int p1), .val (.long q2), .second, .val (.int p3), .unset, .unset] [(.ref o0)])) _
    refine XS.dup X2.here hx rfl (hb hby d4_17) rfl rfl ?_
    show Steps p.tables e below (T2.setTop (mkF m 18 #[.val (.ref o0), .val (.int p1), .val (.long q2), .second, .val (.int p3), .unset, .unset] [(.ref o0), (.ref o0)])) _
    refine st4 _ ?_
    show Steps p.tables e below (T4.setTop (mkF m 21 #[.val (.ref o0), .val (.int p1), .val (.long q2), .second, .val (.int p3), .unset, .unset] [(.int (n.toInt32)), (.ref o0)])) _
    refine XS.dupX1 X4.here hx rfl (hb hby d4_21) rfl rfl rfl ?_
    show Steps p.tables e below (T4.setTop (mkF m 22 #[.val (.ref o0), .val (.int p1), .val (.long q2), .second, .val (.int p3), .unset, .unset] [(.int (n.toInt32)), (.ref o0), (.int (n.toInt32))])) _
    refine XS.iconst X4.here hx rfl (hb hby d4_22) ?_
    show Steps p.tables e below (T4.setTop (mkF m 23 #[.val (.ref o0), .val (.int p1), .val (.long q2), .second, .val (.int p3), .unset, .unset] [(.int (1 : Int32)), (.int (n.toInt32)), (.ref o0), (.int (n.toInt32))])) _
    refine XS.iadd X4.here hx rfl (hb hby d4_23) rfl ?_
    show Steps p.tables e below (T4.setTop (mkF m 24 #[.val (.ref o0), .val (.int p1), .val (.long q2), .second, .val (.int p3), .unset, .unset] [(.int ((n.toInt32) + (1 : Int32))), (.ref o0), (.int (n.toInt32))])) _
    refine st5 _ ?_
    show Steps p.tables e below (T5.setTop (mkF m 27 #[.val (.ref o0), .val (.int p1), .val (.long q2), .second, .val (.int p3), .unset, .unset] [(.int (n.toInt32))])) _
    refine XS.istore X5.here hx rfl (hb hby d4_27) rfl (l' := #[.val (.ref o0), .val (.int p1), .val (.long q2), .second, .val (.int p3), .val (.int (n.toInt32)), .unset]) rfl ?_
    show Steps p.tables e below (T5.setTop (mkF m 29 #[.val (.ref o0), .val (.int p1), .val (.long q2), .second, .val (.int p3), .val (.int (n.toInt32)), .unset] [])) _
    refine st9 _ ?_
    show Steps p.tables e below (T9.setTop (mkF m 72 #[.val (.ref o0), .val (.int p1), .val (.long q2), .second, .val (.int p3), .val (.int (i9.toInt32)), s9] [])) _
    refine XS.aloadN X9.here hx rfl (hb hby d4_72) rfl rfl ?_
    show Steps p.tables e below (T9.setTop (mkF m 73 #[.val (.ref o0), .val (.int p1), .val (.long q2), .second, .val (.int p3), .val (.int (i9.toInt32)), s9] [(.ref o0)])) _
    refine XS.iload X9.here hx rfl (hb hby d4_73) rfl ?_
    show Steps p.tables e below (T9.setTop (mkF m 75 #[.val (.ref o0), .val (.int p1), .val (.long q2), .second, .val (.int p3), .val (.int (i9.toInt32)), s9] [(.int (i9.toInt32)), (.ref o0)])) _
    refine XS.lloadN X9.here hx rfl (hb hby d4_75) rfl ?_
    show Steps p.tables e below (T9.setTop (mkF m 76 #[.val (.ref o0), .val (.int p1), .val (.long q2), .second, .val (.int p3), .val (.int (i9.toInt32)), s9] [(.long q2), (.int (i9.toInt32)), (.ref o0)])) _
    refine XS.iload X9.here hx rfl (hb hby d4_76) rfl ?_
    show Steps p.tables e below (T9.setTop (mkF m 78 #[.val (.ref o0), .val (.int p1), .val (.long q2), .second, .val (.int p3), .val (.int (i9.toInt32)), s9] [(.int p3), (.long q2), (.int (i9.toInt32)), (.ref o0)])) _
    refine XS.iloadN X9.here hx rfl (hb hby d4_78) rfl ?_
    show Steps p.tables e below (T9.setTop (mkF m 79 #[.val (.ref o0), .val (.int p1), .val (.long q2), .second, .val (.int p3), .val (.int (i9.toInt32)), s9] [(.int p1), (.int p3), (.long q2), (.int (i9.toInt32)), (.ref o0)])) _
    refine st13.trans ?_
    show Steps p.tables e below (T13.setTop (mkF m 82 #[.val (.ref o0), .val (.int p1), .val (.long q2), .second, .val (.int p3), .val (.int (i9.toInt32)), s9] [])) _
    exact k)
  obtain ⟨fs, hr, hrun, hended, hW, hsame⟩ := X13.leave (v := none) (fun _ => rfl)
  refine ⟨_, _, pre17 _ ?_, hrun, hended, _, _, rfl, ?_, ⟨_, rfl⟩, hW, hsame.mono (by decide) (by decide)⟩
  · exact X13.returnOut hx Bd.returns (hb hby d4_82) hr
  · show Q4 Z o0 p1 q2 p3 tr tc ts fe n h0 n0 _ T13.heap _
    skip
    exact ⟨(own_up f9 ((i9.toInt32) : Int32).toNatClampNeg (q2, p3, p1)), rfl, N13, K16, (own_inc n ▸ F_size_o0_14), F_ranks_o0_14, F_costs_o0_14, F_states_o0_14, P13_0, P13_1, P13_2, hfin9.1, hfin9.2⟩
theorem d6_60 : decode prog_53_method_4_code 60 = .ok (.iload 6, 2) := by decide +kernel
theorem d6_62 : decode prog_53_method_4_code 62 = .ok (.iload 7, 2) := by decide +kernel
theorem d6_64 : decode prog_53_method_4_code 64 = .ok (.if_icmp .ge 93, 3) := by decide +kernel
theorem d6_67 : decode prog_53_method_4_code 67 = .ok (.iconst 2, 1) := by decide +kernel
theorem d6_68 : decode prog_53_method_4_code 68 = .ok (.iload 6, 2) := by decide +kernel
theorem d6_70 : decode prog_53_method_4_code 70 = .ok (.imul, 1) := by decide +kernel
theorem d6_71 : decode prog_53_method_4_code 71 = .ok (.iconst 1, 1) := by decide +kernel
theorem d6_72 : decode prog_53_method_4_code 72 = .ok (.iadd, 1) := by decide +kernel
theorem d6_73 : decode prog_53_method_4_code 73 = .ok (.istore 8, 2) := by decide +kernel
theorem d6_75 : decode prog_53_method_4_code 75 = .ok (.iload 8, 2) := by decide +kernel
theorem d6_77 : decode prog_53_method_4_code 77 = .ok (.iconst 1, 1) := by decide +kernel
theorem d6_78 : decode prog_53_method_4_code 78 = .ok (.iadd, 1) := by decide +kernel
theorem d6_79 : decode prog_53_method_4_code 79 = .ok (.aload_n 0, 1) := by decide +kernel
theorem d6_80 : decode prog_53_method_4_code 80 = .ok (.getfield 20, 3) := by decide +kernel
theorem d6_83 : decode prog_53_method_4_code 83 = .ok (.if_icmp .ge 33, 3) := by decide +kernel
theorem d6_86 : decode prog_53_method_4_code 86 = .ok (.aload_n 0, 1) := by decide +kernel
theorem d6_87 : decode prog_53_method_4_code 87 = .ok (.aload_n 0, 1) := by decide +kernel
theorem d6_88 : decode prog_53_method_4_code 88 = .ok (.getfield 9, 3) := by decide +kernel
theorem d6_91 : decode prog_53_method_4_code 91 = .ok (.iload 8, 2) := by decide +kernel
theorem d6_93 : decode prog_53_method_4_code 93 = .ok (.iconst 1, 1) := by decide +kernel
theorem d6_94 : decode prog_53_method_4_code 94 = .ok (.iadd, 1) := by decide +kernel
theorem d6_95 : decode prog_53_method_4_code 95 = .ok (.laload, 1) := by decide +kernel
theorem d6_96 : decode prog_53_method_4_code 96 = .ok (.aload_n 0, 1) := by decide +kernel
theorem d6_97 : decode prog_53_method_4_code 97 = .ok (.getfield 13, 3) := by decide +kernel
theorem d6_100 : decode prog_53_method_4_code 100 = .ok (.iload 8, 2) := by decide +kernel
theorem d6_102 : decode prog_53_method_4_code 102 = .ok (.iconst 1, 1) := by decide +kernel
theorem d6_103 : decode prog_53_method_4_code 103 = .ok (.iadd, 1) := by decide +kernel
theorem d6_104 : decode prog_53_method_4_code 104 = .ok (.iaload, 1) := by decide +kernel
theorem d6_105 : decode prog_53_method_4_code 105 = .ok (.iload 8, 2) := by decide +kernel
theorem d6_107 : decode prog_53_method_4_code 107 = .ok (.invokevirtual 27, 3) := by decide +kernel
theorem d6_110 : decode prog_53_method_4_code 110 = .ok (.ifCond .eq 6, 3) := by decide +kernel
theorem d6_113 : decode prog_53_method_4_code 113 = .ok (.iinc 8 1, 3) := by decide +kernel
theorem d6_116 : decode prog_53_method_4_code 116 = .ok (.aload_n 0, 1) := by decide +kernel
theorem d6_117 : decode prog_53_method_4_code 117 = .ok (.getfield 9, 3) := by decide +kernel
theorem d6_120 : decode prog_53_method_4_code 120 = .ok (.iload 8, 2) := by decide +kernel
theorem d6_122 : decode prog_53_method_4_code 122 = .ok (.laload, 1) := by decide +kernel
theorem d6_123 : decode prog_53_method_4_code 123 = .ok (.aload_n 0, 1) := by decide +kernel
theorem d6_124 : decode prog_53_method_4_code 124 = .ok (.getfield 13, 3) := by decide +kernel
theorem d6_127 : decode prog_53_method_4_code 127 = .ok (.iload 8, 2) := by decide +kernel
theorem d6_129 : decode prog_53_method_4_code 129 = .ok (.iaload, 1) := by decide +kernel
theorem d6_130 : decode prog_53_method_4_code 130 = .ok (.lload_n 2, 1) := by decide +kernel
theorem d6_131 : decode prog_53_method_4_code 131 = .ok (.iload 4, 2) := by decide +kernel
theorem d6_133 : decode prog_53_method_4_code 133 = .ok (.invokestatic 39, 3) := by decide +kernel
theorem d6_136 : decode prog_53_method_4_code 136 = .ok (.ifCond .ne 6, 3) := by decide +kernel
theorem d6_139 : decode prog_53_method_4_code 139 = .ok (.goto 18, 3) := by decide +kernel
theorem d6_142 : decode prog_53_method_4_code 142 = .ok (.aload_n 0, 1) := by decide +kernel
theorem d6_143 : decode prog_53_method_4_code 143 = .ok (.iload 8, 2) := by decide +kernel
theorem d6_145 : decode prog_53_method_4_code 145 = .ok (.iload 6, 2) := by decide +kernel
theorem d6_147 : decode prog_53_method_4_code 147 = .ok (.invokevirtual 31, 3) := by decide +kernel
theorem d6_150 : decode prog_53_method_4_code 150 = .ok (.iload 8, 2) := by decide +kernel
theorem d6_152 : decode prog_53_method_4_code 152 = .ok (.istore 6, 2) := by decide +kernel
theorem d6_154 : decode prog_53_method_4_code 154 = .ok (.goto (-94), 3) := by decide +kernel
set_option maxRecDepth 65536 in
set_option maxHeartbeats 40000000 in
theorem loop_rem {p : Program} {l : Launch} {e : Env} {s : State} {m : MethodId} {args : Array Value} {below : List Frame} {meth : Method} {c : Code} {Z : State} {a0 : Array Value} (o0 tr tc ts : Addr) (p1 : Int32) (q2 : Int64) (p4 p5 : Int32) (n : Nat) (hn : n < 63) (E0 : Nat → own_E) (n0 : Nat) (g_tr : n0 ≤ tr) (g_tc : n0 ≤ tc) (g_ts : n0 ≤ ts) (ne_o0_tr : o0 ≠ tr) (ne_o0_tc : o0 ≠ tc) (ne_o0_ts : o0 ≠ ts) (ne_tr_tc : tr ≠ tc) (ne_tr_ts : tr ≠ ts) (ne_tc_ts : tc ≠ ts) (hx : p.tables.exec = Jvm.exec) (hZ : Z.Warmed39 s.vm) (hw : ∀ d ∈ tables_1, d.before a0 Z = true) (hby : c.code = prog_53_method_4_code) (hml : c.maxLocals = 9) (hown : s.vm.findClass "com/example/brisk_maze/briskmaze/search/RankedFrontier" = some m.cls) :
    ∀ (k i : Nat) (fe : Nat → own_E) (s8 : Slot) (T0 : State) (h0 : Heap) (locs : List Loc), n - i = k → One s8 → (n = 0 ∧ i = 0) ∨ own_dnI n i E0 fe (q2, p4, p5) → Stand p l e ({ frames := 2, cells := 0, slots := 0, locals := 40 } : Room) s m args below meth c T0 locs 0 0 → T0.heap = h0 → Fr n0 locs → n0 ≤ h0.size → Fld Z h0 o0 "com/example/brisk_maze/briskmaze/search/RankedFrontier" "ranks" "[J" (.ref tr) → Fld Z h0 o0 "com/example/brisk_maze/briskmaze/search/RankedFrontier" "costs" "[I" (.ref tc) → Fld Z h0 o0 "com/example/brisk_maze/briskmaze/search/RankedFrontier" "states" "[I" (.ref ts) → Exa Z h0 o0 "com/example/brisk_maze/briskmaze/search/RankedFrontier" → Fld Z h0 o0 "com/example/brisk_maze/briskmaze/search/RankedFrontier" "size" "I" (.int (n.toInt32)) → own_A Z h0 tr .long 64 (fun kk => (.long (fe kk).1)) → own_A Z h0 tc .int 64 (fun kk => (.int (fe kk).2.1)) → own_A Z h0 ts .int 64 (fun kk => (.int (fe kk).2.2)) →
      ∃ (T1 : State) (h1 : Heap) (locs1 : List Loc) (i1 : Nat) (f1 : Nat → own_E) (s1 : Slot), Stand p l e ({ frames := 2, cells := 0, slots := 0, locals := 40 } : Room) s m args below meth c T1 locs1 0 0 ∧ T1.heap = h1 ∧ Fr n0 locs1 ∧ Keep h0 h1 [tr, tc, ts] ∧ own_A Z h1 tr .long 64 (fun kk => (.long (f1 kk).1)) ∧ own_A Z h1 tc .int 64 (fun kk => (.int (f1 kk).2.1)) ∧ own_A Z h1 ts .int 64 (fun kk => (.int (f1 kk).2.2)) ∧ i1 < 64 ∧ (own_heap n (own_up f1 i1 (q2, p4, p5)) ∧ own_rr n (own_up f1 i1 (q2, p4, p5)) E0) ∧ ∀ t, Steps p.tables e below (T1.setTop (mkF m 157 #[.val (.ref o0), .val (.int p1), .val (.long q2), .second, .val (.int p4), .val (.int p5), .val (.int (i1.toInt32)), .val (.int ((n / 2).toInt32)), s1] [])) t → Steps p.tables e below (T0.setTop (mkF m 60 #[.val (.ref o0), .val (.int p1), .val (.long q2), .second, .val (.int p4), .val (.int p5), .val (.int (i.toInt32)), .val (.int ((n / 2).toInt32)), s8] [])) t := by
  intro k
  induction k using Nat.strongRecOn with
  | ind k ih =>
    intro i fe s8 T0 h0 locs hk hs8 hI0 X0 e0 N0 Z0 F_ranks_o0 F_costs_o0 F_states_o0 E_o0 F_size_o0 A_tr A_tc A_ts
    have hin : i ≤ n := hI0.elim (fun q => by omega) (fun q => Nat.le_of_lt q.1)
    have pre0 : ∀ t, Steps p.tables e below (T0.setTop (mkF m 60 #[.val (.ref o0), .val (.int p1), .val (.long q2), .second, .val (.int p4), .val (.int p5), .val (.int (i.toInt32)), .val (.int ((n / 2).toInt32)), s8] [])) t → Steps p.tables e below (T0.setTop (mkF m 60 #[.val (.ref o0), .val (.int p1), .val (.long q2), .second, .val (.int p4), .val (.int p5), .val (.int (i.toInt32)), .val (.int ((n / 2).toInt32)), s8] [])) t := fun t k => k
    have pre1 : ∀ t, Steps p.tables e below (T0.setTop (mkF m 64 #[.val (.ref o0), .val (.int p1), .val (.long q2), .second, .val (.int p4), .val (.int p5), .val (.int (i.toInt32)), .val (.int ((n / 2).toInt32)), s8] [(.int ((n / 2).toInt32)), (.int (i.toInt32))])) t → Steps p.tables e below (T0.setTop (mkF m 60 #[.val (.ref o0), .val (.int p1), .val (.long q2), .second, .val (.int p4), .val (.int p5), .val (.int (i.toInt32)), .val (.int ((n / 2).toInt32)), s8] [])) t := fun t k => pre0 t (by
      show Steps p.tables e below (T0.setTop (mkF m 60 #[.val (.ref o0), .val (.int p1), .val (.long q2), .second, .val (.int p4), .val (.int p5), .val (.int (i.toInt32)), .val (.int ((n / 2).toInt32)), s8] [])) _
      refine XS.iload X0.here hx rfl (hb hby d6_60) rfl ?_
      show Steps p.tables e below (T0.setTop (mkF m 62 #[.val (.ref o0), .val (.int p1), .val (.long q2), .second, .val (.int p4), .val (.int p5), .val (.int (i.toInt32)), .val (.int ((n / 2).toInt32)), s8] [(.int (i.toInt32))])) _
      refine XS.iload X0.here hx rfl (hb hby d6_62) rfl ?_
      show Steps p.tables e below (T0.setTop (mkF m 64 #[.val (.ref o0), .val (.int p1), .val (.long q2), .second, .val (.int p4), .val (.int p5), .val (.int (i.toInt32)), .val (.int ((n / 2).toInt32)), s8] [(.int ((n / 2).toInt32)), (.int (i.toInt32))])) _
      exact k)
    by_cases hs2 : (i.toInt32) < ((n / 2).toInt32)
    · have hlt : i < n / 2 := (own_ltn (by omega) (by omega)).mp hs2
      have hI : own_dnI n i E0 fe (q2, p4, p5) := by
        rcases hI0 with q | q
        · omega
        · exact q
      have pre3 : ∀ t, Steps p.tables e below (T0.setTop (mkF m 75 #[.val (.ref o0), .val (.int p1), .val (.long q2), .second, .val (.int p4), .val (.int p5), .val (.int (i.toInt32)), .val (.int ((n / 2).toInt32)), .val (.int (((2 : Int32) * (i.toInt32)) + (1 : Int32)))] [])) t → Steps p.tables e below (T0.setTop (mkF m 60 #[.val (.ref o0), .val (.int p1), .val (.long q2), .second, .val (.int p4), .val (.int p5), .val (.int (i.toInt32)), .val (.int ((n / 2).toInt32)), s8] [])) t := fun t k => pre1 t (by
        refine XS.icmpNo X0.here hx rfl (hb hby d6_64) rfl (tlt hs2).2.1 ?_
        show Steps p.tables e below (T0.setTop (mkF m 67 #[.val (.ref o0), .val (.int p1), .val (.long q2), .second, .val (.int p4), .val (.int p5), .val (.int (i.toInt32)), .val (.int ((n / 2).toInt32)), s8] [])) _
        refine XS.iconst X0.here hx rfl (hb hby d6_67) ?_
        show Steps p.tables e below (T0.setTop (mkF m 68 #[.val (.ref o0), .val (.int p1), .val (.long q2), .second, .val (.int p4), .val (.int p5), .val (.int (i.toInt32)), .val (.int ((n / 2).toInt32)), s8] [(.int (2 : Int32))])) _
        refine XS.iload X0.here hx rfl (hb hby d6_68) rfl ?_
        show Steps p.tables e below (T0.setTop (mkF m 70 #[.val (.ref o0), .val (.int p1), .val (.long q2), .second, .val (.int p4), .val (.int p5), .val (.int (i.toInt32)), .val (.int ((n / 2).toInt32)), s8] [(.int (i.toInt32)), (.int (2 : Int32))])) _
        refine XS.imul X0.here hx rfl (hb hby d6_70) rfl ?_
        show Steps p.tables e below (T0.setTop (mkF m 71 #[.val (.ref o0), .val (.int p1), .val (.long q2), .second, .val (.int p4), .val (.int p5), .val (.int (i.toInt32)), .val (.int ((n / 2).toInt32)), s8] [(.int ((2 : Int32) * (i.toInt32)))])) _
        refine XS.iconst X0.here hx rfl (hb hby d6_71) ?_
        show Steps p.tables e below (T0.setTop (mkF m 72 #[.val (.ref o0), .val (.int p1), .val (.long q2), .second, .val (.int p4), .val (.int p5), .val (.int (i.toInt32)), .val (.int ((n / 2).toInt32)), s8] [(.int (1 : Int32)), (.int ((2 : Int32) * (i.toInt32)))])) _
        refine XS.iadd X0.here hx rfl (hb hby d6_72) rfl ?_
        show Steps p.tables e below (T0.setTop (mkF m 73 #[.val (.ref o0), .val (.int p1), .val (.long q2), .second, .val (.int p4), .val (.int p5), .val (.int (i.toInt32)), .val (.int ((n / 2).toInt32)), s8] [(.int (((2 : Int32) * (i.toInt32)) + (1 : Int32)))])) _
        refine XS.istore X0.here hx rfl (hb hby d6_73) rfl (l' := #[.val (.ref o0), .val (.int p1), .val (.long q2), .second, .val (.int p4), .val (.int p5), .val (.int (i.toInt32)), .val (.int ((n / 2).toInt32)), .val (.int (((2 : Int32) * (i.toInt32)) + (1 : Int32)))]) (XS.store1 rfl hs8 rfl) ?_
        show Steps p.tables e below (T0.setTop (mkF m 75 #[.val (.ref o0), .val (.int p1), .val (.long q2), .second, .val (.int p4), .val (.int p5), .val (.int (i.toInt32)), .val (.int ((n / 2).toInt32)), .val (.int (((2 : Int32) * (i.toInt32)) + (1 : Int32)))] [])) _
        exact k)
      have hre4 : (((2 : Int32) * (i.toInt32)) + (1 : Int32)) = ((2 * i + 1).toInt32) := own_two64 ⟨i, by omega⟩
      have pre4 : ∀ t, Steps p.tables e below (T0.setTop (mkF m 75 #[.val (.ref o0), .val (.int p1), .val (.long q2), .second, .val (.int p4), .val (.int p5), .val (.int (i.toInt32)), .val (.int ((n / 2).toInt32)), .val (.int ((2 * i + 1).toInt32))] [])) t → Steps p.tables e below (T0.setTop (mkF m 60 #[.val (.ref o0), .val (.int p1), .val (.long q2), .second, .val (.int p4), .val (.int p5), .val (.int (i.toInt32)), .val (.int ((n / 2).toInt32)), s8] [])) t := fun t k => pre3 t (by rw [hre4]; exact k)
      obtain ⟨T5, X5, e5, st5⟩ := getF X0 hx hZ hown (host := "") (Or.inl (hw _ (List.mem_of_getElem? (i := 23) rfl))) Via.refl e0 F_size_o0 (g := (mkF m 80 #[.val (.ref o0), .val (.int p1), .val (.long q2), .second, .val (.int p4), .val (.int p5), .val (.int (i.toInt32)), .val (.int ((n / 2).toInt32)), .val (.int ((2 * i + 1).toInt32))] [(.ref o0), (.int (((2 * i + 1).toInt32) + (1 : Int32)))])) rfl rfl (hb hby d6_80)
      have pre6 : ∀ t, Steps p.tables e below (T5.setTop (mkF m 83 #[.val (.ref o0), .val (.int p1), .val (.long q2), .second, .val (.int p4), .val (.int p5), .val (.int (i.toInt32)), .val (.int ((n / 2).toInt32)), .val (.int ((2 * i + 1).toInt32))] [(.int (n.toInt32)), (.int (((2 * i + 1).toInt32) + (1 : Int32)))])) t → Steps p.tables e below (T0.setTop (mkF m 60 #[.val (.ref o0), .val (.int p1), .val (.long q2), .second, .val (.int p4), .val (.int p5), .val (.int (i.toInt32)), .val (.int ((n / 2).toInt32)), s8] [])) t := fun t k => pre4 t (by
        show Steps p.tables e below (T0.setTop (mkF m 75 #[.val (.ref o0), .val (.int p1), .val (.long q2), .second, .val (.int p4), .val (.int p5), .val (.int (i.toInt32)), .val (.int ((n / 2).toInt32)), .val (.int ((2 * i + 1).toInt32))] [])) _
        refine XS.iload X0.here hx rfl (hb hby d6_75) rfl ?_
        show Steps p.tables e below (T0.setTop (mkF m 77 #[.val (.ref o0), .val (.int p1), .val (.long q2), .second, .val (.int p4), .val (.int p5), .val (.int (i.toInt32)), .val (.int ((n / 2).toInt32)), .val (.int ((2 * i + 1).toInt32))] [(.int ((2 * i + 1).toInt32))])) _
        refine XS.iconst X0.here hx rfl (hb hby d6_77) ?_
        show Steps p.tables e below (T0.setTop (mkF m 78 #[.val (.ref o0), .val (.int p1), .val (.long q2), .second, .val (.int p4), .val (.int p5), .val (.int (i.toInt32)), .val (.int ((n / 2).toInt32)), .val (.int ((2 * i + 1).toInt32))] [(.int (1 : Int32)), (.int ((2 * i + 1).toInt32))])) _
        refine XS.iadd X0.here hx rfl (hb hby d6_78) rfl ?_
        show Steps p.tables e below (T0.setTop (mkF m 79 #[.val (.ref o0), .val (.int p1), .val (.long q2), .second, .val (.int p4), .val (.int p5), .val (.int (i.toInt32)), .val (.int ((n / 2).toInt32)), .val (.int ((2 * i + 1).toInt32))] [(.int (((2 * i + 1).toInt32) + (1 : Int32)))])) _
        refine XS.aloadN X0.here hx rfl (hb hby d6_79) rfl rfl ?_
        show Steps p.tables e below (T0.setTop (mkF m 80 #[.val (.ref o0), .val (.int p1), .val (.long q2), .second, .val (.int p4), .val (.int p5), .val (.int (i.toInt32)), .val (.int ((n / 2).toInt32)), .val (.int ((2 * i + 1).toInt32))] [(.ref o0), (.int (((2 * i + 1).toInt32) + (1 : Int32)))])) _
        refine st5 _ ?_
        show Steps p.tables e below (T5.setTop (mkF m 83 #[.val (.ref o0), .val (.int p1), .val (.long q2), .second, .val (.int p4), .val (.int p5), .val (.int (i.toInt32)), .val (.int ((n / 2).toInt32)), .val (.int ((2 * i + 1).toInt32))] [(.int (n.toInt32)), (.int (((2 * i + 1).toInt32) + (1 : Int32)))])) _
        exact k)
      by_cases hs7 : (((2 * i + 1).toInt32) + (1 : Int32)) < (n.toInt32)
      · obtain ⟨T8, X8, e8, st8⟩ := getF X5 hx hZ hown (host := "") (Or.inl (hw _ (List.mem_of_getElem? (i := 11) rfl))) Via.refl e5 F_ranks_o0 (g := (mkF m 88 #[.val (.ref o0), .val (.int p1), .val (.long q2), .second, .val (.int p4), .val (.int p5), .val (.int (i.toInt32)), .val (.int ((n / 2).toInt32)), .val (.int ((2 * i + 1).toInt32))] [(.ref o0), (.ref o0)])) rfl rfl (hb hby d6_88)
        have qa9 := A_tr
        obtain ⟨c9, Ar9, Sz9, H9⟩ := qa9
        have hi10 : 0 ≤ ((((2 * i + 1).toInt32) + (1 : Int32)) : Int32).toInt ∧ ((((2 * i + 1).toInt32) + (1 : Int32)) : Int32).toInt < (64 : Nat) := (by rw [own_inc]; exact own_bd (show 2 * i + 1 + 1 < 64 by have q := hs7; rw [own_inc] at q; have r := (own_ltn (by omega) (by omega)).mp q; omega) (by decide))
        have hl10 : c9.slots[((((2 * i + 1).toInt32) + (1 : Int32)) : Int32).toNatClampNeg]? = some (.long ((fe ((((2 * i + 1).toInt32) + (1 : Int32)) : Int32).toNatClampNeg).1)) := H9 _ (own_ix hi10)
        obtain ⟨T11, X11, e11, st11⟩ := getF X8 hx hZ hown (host := "") (Or.inl (hw _ (List.mem_of_getElem? (i := 14) rfl))) Via.refl e8 F_costs_o0 (g := (mkF m 97 #[.val (.ref o0), .val (.int p1), .val (.long q2), .second, .val (.int p4), .val (.int p5), .val (.int (i.toInt32)), .val (.int ((n / 2).toInt32)), .val (.int ((2 * i + 1).toInt32))] [(.ref o0), (.long ((fe ((((2 * i + 1).toInt32) + (1 : Int32)) : Int32).toNatClampNeg).1)), (.ref o0)])) rfl rfl (hb hby d6_97)
        have qa12 := A_tc
        obtain ⟨c12, Ar12, Sz12, H12⟩ := qa12
        have hi13 : 0 ≤ ((((2 * i + 1).toInt32) + (1 : Int32)) : Int32).toInt ∧ ((((2 * i + 1).toInt32) + (1 : Int32)) : Int32).toInt < (64 : Nat) := (by rw [own_inc]; exact own_bd (show 2 * i + 1 + 1 < 64 by have q := hs7; rw [own_inc] at q; have r := (own_ltn (by omega) (by omega)).mp q; omega) (by decide))
        have hl13 : c12.slots[((((2 * i + 1).toInt32) + (1 : Int32)) : Int32).toNatClampNeg]? = some (.int ((fe ((((2 * i + 1).toInt32) + (1 : Int32)) : Int32).toNatClampNeg).2.1)) := H12 _ (own_ix hi13)
        obtain ⟨cq14, q14, q14'⟩ := (E_o0).cell
        obtain ⟨_, _, ⟨T14, L14, k14, n14⟩, -, X14, ⟨Lc14, hQ14, l14, y14, z14⟩, st14⟩ := X11.privateBack hx (y := (⟨"com/example/brisk_maze/briskmaze/search/RankedFrontier", "precedes", "(JII)Z"⟩ : MethodName)) hown (mvT hZ (hw _ (List.mem_of_getElem? (i := 39) rfl))) (mvT hZ (hw _ (List.mem_of_getElem? (i := 40) rfl))) (own_selp (y := (⟨"com/example/brisk_maze/briskmaze/search/RankedFrontier", "precedes", "(JII)Z"⟩ : MethodName)) (mvT hZ (hw _ (List.mem_of_getElem? (i := 2) rfl))) (Cond.privateMethod_at (mvP hZ (hw _ (List.mem_of_getElem? (i := 41) rfl)) (args := #[]))) (mvT hZ (hw _ (List.mem_of_getElem? (i := 40) rfl))) (by decide)) (Cond.privateMethod_at (mvP hZ (hw _ (List.mem_of_getElem? (i := 41) rfl)) (args := #[]))) (mvT hZ (hw _ (List.mem_of_getElem? (i := 42) rfl))) (by decide) (backOf (W := 0) (rm7 l Z a0 hw [] o0 ((fe ((((2 * i + 1).toInt32) + (1 : Int32)) : Int32).toNatClampNeg).1) ((fe ((((2 * i + 1).toInt32) + (1 : Int32)) : Int32).toNatClampNeg).2.1) ((2 * i + 1).toInt32) tr tc fe h0 n0 Z0 F_ranks_o0 F_costs_o0 A_tr A_tc (own_bd (show 2 * i + 1 < 64 by omega) (by decide))) hZ (hw _ (List.mem_of_getElem? (i := 42) rfl)) (hw _ (List.mem_of_getElem? (i := 3) rfl)) (by decide) (by decide)) (g := (mkF m 107 #[.val (.ref o0), .val (.int p1), .val (.long q2), .second, .val (.int p4), .val (.int p5), .val (.int (i.toInt32)), .val (.int ((n / 2).toInt32)), .val (.int ((2 * i + 1).toInt32))] [(.int ((2 * i + 1).toInt32)), (.int ((fe ((((2 * i + 1).toInt32) + (1 : Int32)) : Int32).toNatClampNeg).2.1)), (.long ((fe ((((2 * i + 1).toInt32) + (1 : Int32)) : Int32).toNatClampNeg).1)), (.ref o0)])) rfl (by rw [hml]; rfl) (Steps.refl _) (a := o0) (by rw [e11]; exact q14) q14' (argsL := [(.long ((fe ((((2 * i + 1).toInt32) + (1 : Int32)) : Int32).toNatClampNeg).1)), (.int ((fe ((((2 * i + 1).toInt32) + (1 : Int32)) : Int32).toNatClampNeg).2.1)), (.int ((2 * i + 1).toInt32))]) (rest := []) (lenOf pd_2 rfl) rfl (by show 2 * 0 + _ ≤ _; exact Nat.le_of_eq rfl) (hb hby d6_107) (fun _ _ => ⟨rfl, e11, (by decide : 0 + 0 ≤ _), (by decide : 0 + 0 ≤ _)⟩)
        dsimp only [Pt.U, Pt.locs, Pt.cells, Pt.slots] at X14 l14 y14 z14 st14 hQ14
        subst l14 y14 z14
        obtain ⟨rfl, N14q, hh14⟩ := hQ14
        have N14 := Fr.app N0 N14q
        have pre15 : ∀ t, Steps p.tables e below (T14.setTop (mkF m 110 #[.val (.ref o0), .val (.int p1), .val (.long q2), .second, .val (.int p4), .val (.int p5), .val (.int (i.toInt32)), .val (.int ((n / 2).toInt32)), .val (.int ((2 * i + 1).toInt32))] [(.int ((f8_ret ((fe ((((2 * i + 1).toInt32) + (1 : Int32)) : Int32).toNatClampNeg).1) ((fe ((((2 * i + 1).toInt32) + (1 : Int32)) : Int32).toNatClampNeg).2.1) ((fe (((2 * i + 1).toInt32) : Int32).toNatClampNeg).1) ((fe (((2 * i + 1).toInt32) : Int32).toNatClampNeg).2.1)) &&& 1))])) t → Steps p.tables e below (T0.setTop (mkF m 60 #[.val (.ref o0), .val (.int p1), .val (.long q2), .second, .val (.int p4), .val (.int p5), .val (.int (i.toInt32)), .val (.int ((n / 2).toInt32)), s8] [])) t := fun t k => pre6 t (by
          refine XS.icmpNo X5.here hx rfl (hb hby d6_83) rfl (tlt hs7).2.1 ?_
          show Steps p.tables e below (T5.setTop (mkF m 86 #[.val (.ref o0), .val (.int p1), .val (.long q2), .second, .val (.int p4), .val (.int p5), .val (.int (i.toInt32)), .val (.int ((n / 2).toInt32)), .val (.int ((2 * i + 1).toInt32))] [])) _
          refine XS.aloadN X5.here hx rfl (hb hby d6_86) rfl rfl ?_
          show Steps p.tables e below (T5.setTop (mkF m 87 #[.val (.ref o0), .val (.int p1), .val (.long q2), .second, .val (.int p4), .val (.int p5), .val (.int (i.toInt32)), .val (.int ((n / 2).toInt32)), .val (.int ((2 * i + 1).toInt32))] [(.ref o0)])) _
          refine XS.aloadN X5.here hx rfl (hb hby d6_87) rfl rfl ?_
          show Steps p.tables e below (T5.setTop (mkF m 88 #[.val (.ref o0), .val (.int p1), .val (.long q2), .second, .val (.int p4), .val (.int p5), .val (.int (i.toInt32)), .val (.int ((n / 2).toInt32)), .val (.int ((2 * i + 1).toInt32))] [(.ref o0), (.ref o0)])) _
          refine st8 _ ?_
          show Steps p.tables e below (T8.setTop (mkF m 91 #[.val (.ref o0), .val (.int p1), .val (.long q2), .second, .val (.int p4), .val (.int p5), .val (.int (i.toInt32)), .val (.int ((n / 2).toInt32)), .val (.int ((2 * i + 1).toInt32))] [(.ref tr), (.ref o0)])) _
          refine XS.iload X8.here hx rfl (hb hby d6_91) rfl ?_
          show Steps p.tables e below (T8.setTop (mkF m 93 #[.val (.ref o0), .val (.int p1), .val (.long q2), .second, .val (.int p4), .val (.int p5), .val (.int (i.toInt32)), .val (.int ((n / 2).toInt32)), .val (.int ((2 * i + 1).toInt32))] [(.int ((2 * i + 1).toInt32)), (.ref tr), (.ref o0)])) _
          refine XS.iconst X8.here hx rfl (hb hby d6_93) ?_
          show Steps p.tables e below (T8.setTop (mkF m 94 #[.val (.ref o0), .val (.int p1), .val (.long q2), .second, .val (.int p4), .val (.int p5), .val (.int (i.toInt32)), .val (.int ((n / 2).toInt32)), .val (.int ((2 * i + 1).toInt32))] [(.int (1 : Int32)), (.int ((2 * i + 1).toInt32)), (.ref tr), (.ref o0)])) _
          refine XS.iadd X8.here hx rfl (hb hby d6_94) rfl ?_
          show Steps p.tables e below (T8.setTop (mkF m 95 #[.val (.ref o0), .val (.int p1), .val (.long q2), .second, .val (.int p4), .val (.int p5), .val (.int (i.toInt32)), .val (.int ((n / 2).toInt32)), .val (.int ((2 * i + 1).toInt32))] [(.int (((2 * i + 1).toInt32) + (1 : Int32))), (.ref tr), (.ref o0)])) _
          refine X8.laload hx (j := (((2 * i + 1).toInt32) + (1 : Int32))) (v := (.long ((fe ((((2 * i + 1).toInt32) + (1 : Int32)) : Int32).toNatClampNeg).1))) (by rw [e8]; exact Ar9.1) (State.isArrayOf_alike hZ.alike Ar9.2.1) Ar9.2.2 (own_in Sz9 hi10) hl10 (g := (mkF m 95 #[.val (.ref o0), .val (.int p1), .val (.long q2), .second, .val (.int p4), .val (.int p5), .val (.int (i.toInt32)), .val (.int ((n / 2).toInt32)), .val (.int ((2 * i + 1).toInt32))] [(.int (((2 * i + 1).toInt32) + (1 : Int32))), (.ref tr), (.ref o0)])) rfl rfl (hb hby d6_95) _ ?_
          show Steps p.tables e below (T8.setTop (mkF m 96 #[.val (.ref o0), .val (.int p1), .val (.long q2), .second, .val (.int p4), .val (.int p5), .val (.int (i.toInt32)), .val (.int ((n / 2).toInt32)), .val (.int ((2 * i + 1).toInt32))] [(.long ((fe ((((2 * i + 1).toInt32) + (1 : Int32)) : Int32).toNatClampNeg).1)), (.ref o0)])) _
          refine XS.aloadN X8.here hx rfl (hb hby d6_96) rfl rfl ?_
          show Steps p.tables e below (T8.setTop (mkF m 97 #[.val (.ref o0), .val (.int p1), .val (.long q2), .second, .val (.int p4), .val (.int p5), .val (.int (i.toInt32)), .val (.int ((n / 2).toInt32)), .val (.int ((2 * i + 1).toInt32))] [(.ref o0), (.long ((fe ((((2 * i + 1).toInt32) + (1 : Int32)) : Int32).toNatClampNeg).1)), (.ref o0)])) _
          refine st11 _ ?_
          show Steps p.tables e below (T11.setTop (mkF m 100 #[.val (.ref o0), .val (.int p1), .val (.long q2), .second, .val (.int p4), .val (.int p5), .val (.int (i.toInt32)), .val (.int ((n / 2).toInt32)), .val (.int ((2 * i + 1).toInt32))] [(.ref tc), (.long ((fe ((((2 * i + 1).toInt32) + (1 : Int32)) : Int32).toNatClampNeg).1)), (.ref o0)])) _
          refine XS.iload X11.here hx rfl (hb hby d6_100) rfl ?_
          show Steps p.tables e below (T11.setTop (mkF m 102 #[.val (.ref o0), .val (.int p1), .val (.long q2), .second, .val (.int p4), .val (.int p5), .val (.int (i.toInt32)), .val (.int ((n / 2).toInt32)), .val (.int ((2 * i + 1).toInt32))] [(.int ((2 * i + 1).toInt32)), (.ref tc), (.long ((fe ((((2 * i + 1).toInt32) + (1 : Int32)) : Int32).toNatClampNeg).1)), (.ref o0)])) _
          refine XS.iconst X11.here hx rfl (hb hby d6_102) ?_
          show Steps p.tables e below (T11.setTop (mkF m 103 #[.val (.ref o0), .val (.int p1), .val (.long q2), .second, .val (.int p4), .val (.int p5), .val (.int (i.toInt32)), .val (.int ((n / 2).toInt32)), .val (.int ((2 * i + 1).toInt32))] [(.int (1 : Int32)), (.int ((2 * i + 1).toInt32)), (.ref tc), (.long ((fe ((((2 * i + 1).toInt32) + (1 : Int32)) : Int32).toNatClampNeg).1)), (.ref o0)])) _
          refine XS.iadd X11.here hx rfl (hb hby d6_103) rfl ?_
          show Steps p.tables e below (T11.setTop (mkF m 104 #[.val (.ref o0), .val (.int p1), .val (.long q2), .second, .val (.int p4), .val (.int p5), .val (.int (i.toInt32)), .val (.int ((n / 2).toInt32)), .val (.int ((2 * i + 1).toInt32))] [(.int (((2 * i + 1).toInt32) + (1 : Int32))), (.ref tc), (.long ((fe ((((2 * i + 1).toInt32) + (1 : Int32)) : Int32).toNatClampNeg).1)), (.ref o0)])) _
          refine X11.iaload hx (j := (((2 * i + 1).toInt32) + (1 : Int32))) (v := (.int ((fe ((((2 * i + 1).toInt32) + (1 : Int32)) : Int32).toNatClampNeg).2.1))) (by rw [e11]; exact Ar12.1) (State.isArrayOf_alike hZ.alike Ar12.2.1) Ar12.2.2 (own_in Sz12 hi13) hl13 (g := (mkF m 104 #[.val (.ref o0), .val (.int p1), .val (.long q2), .second, .val (.int p4), .val (.int p5), .val (.int (i.toInt32)), .val (.int ((n / 2).toInt32)), .val (.int ((2 * i + 1).toInt32))] [(.int (((2 * i + 1).toInt32) + (1 : Int32))), (.ref tc), (.long ((fe ((((2 * i + 1).toInt32) + (1 : Int32)) : Int32).toNatClampNeg).1)), (.ref o0)])) rfl rfl (hb hby d6_104) _ ?_
          show Steps p.tables e below (T11.setTop (mkF m 105 #[.val (.ref o0), .val (.int p1), .val (.long q2), .second, .val (.int p4), .val (.int p5), .val (.int (i.toInt32)), .val (.int ((n / 2).toInt32)), .val (.int ((2 * i + 1).toInt32))] [(.int ((fe ((((2 * i + 1).toInt32) + (1 : Int32)) : Int32).toNatClampNeg).2.1)), (.long ((fe ((((2 * i + 1).toInt32) + (1 : Int32)) : Int32).toNatClampNeg).1)), (.ref o0)])) _
          refine XS.iload X11.here hx rfl (hb hby d6_105) rfl ?_
          show Steps p.tables e below (T11.setTop (mkF m 107 #[.val (.ref o0), .val (.int p1), .val (.long q2), .second, .val (.int p4), .val (.int p5), .val (.int (i.toInt32)), .val (.int ((n / 2).toInt32)), .val (.int ((2 * i + 1).toInt32))] [(.int ((2 * i + 1).toInt32)), (.int ((fe ((((2 * i + 1).toInt32) + (1 : Int32)) : Int32).toNatClampNeg).2.1)), (.long ((fe ((((2 * i + 1).toInt32) + (1 : Int32)) : Int32).toNatClampNeg).1)), (.ref o0)])) _
          refine st14.trans ?_
          show Steps p.tables e below (T14.setTop (mkF m 110 #[.val (.ref o0), .val (.int p1), .val (.long q2), .second, .val (.int p4), .val (.int p5), .val (.int (i.toInt32)), .val (.int ((n / 2).toInt32)), .val (.int ((2 * i + 1).toInt32))] [(.int ((f8_ret ((fe ((((2 * i + 1).toInt32) + (1 : Int32)) : Int32).toNatClampNeg).1) ((fe ((((2 * i + 1).toInt32) + (1 : Int32)) : Int32).toNatClampNeg).2.1) ((fe (((2 * i + 1).toInt32) : Int32).toNatClampNeg).1) ((fe (((2 * i + 1).toInt32) : Int32).toNatClampNeg).2.1)) &&& 1))])) _
          exact k)
        by_cases hs16 : ((f8_ret ((fe ((((2 * i + 1).toInt32) + (1 : Int32)) : Int32).toNatClampNeg).1) ((fe ((((2 * i + 1).toInt32) + (1 : Int32)) : Int32).toNatClampNeg).2.1) ((fe (((2 * i + 1).toInt32) : Int32).toNatClampNeg).1) ((fe (((2 * i + 1).toInt32) : Int32).toNatClampNeg).2.1)) &&& 1) = (0 : Int32)
        · have h83 : 2 * i + 2 < n := (own_ltn (by omega) (by omega)).mp (by have q := hs7; rw [own_inc] at q; exact q)
          have hnb : ¬ own_bf (fe (2 * i + 2)) (fe (2 * i + 1)) := (own_pv (fe (2 * i + 2)).1 (fe (2 * i + 2)).2.1 (fe (2 * i + 2)).2.2 (fe (2 * i + 1))).mp (by have q := hs16; rw [own_inc, own_tn (show 2 * i + 1 + 1 < 2147483648 by omega), own_tn (show 2 * i + 1 < 2147483648 by omega)] at q; exact q)
          have hm : ∀ j, 0 < j → j < n → (j - 1) / 2 = i → ¬ own_bf (fe j) (fe (2 * i + 1)) := fun j j0 j1 j2 => by
            rcases (show j = 2 * i + 1 ∨ j = 2 * i + 2 by omega) with q | q
            · rw [q]; exact own_bf_irr _
            · rw [q]; exact hnb
          have hcn : (2 * i + 1) < n := by omega
          obtain ⟨T17, X17, e17, st17⟩ := getF X14 hx hZ hown (host := "") (Or.inl (hw _ (List.mem_of_getElem? (i := 11) rfl))) Via.refl hh14 F_ranks_o0 (g := (mkF m 117 #[.val (.ref o0), .val (.int p1), .val (.long q2), .second, .val (.int p4), .val (.int p5), .val (.int (i.toInt32)), .val (.int ((n / 2).toInt32)), .val (.int ((2 * i + 1).toInt32))] [(.ref o0)])) rfl rfl (hb hby d6_117)
          have qa18 := A_tr
          obtain ⟨c18, Ar18, Sz18, H18⟩ := qa18
          have hi19 : 0 ≤ (((2 * i + 1).toInt32) : Int32).toInt ∧ (((2 * i + 1).toInt32) : Int32).toInt < (64 : Nat) := (own_bd (show (2 * i + 1) < 64 by omega) (by decide))
          have hl19 : c18.slots[(((2 * i + 1).toInt32) : Int32).toNatClampNeg]? = some (.long ((fe (((2 * i + 1).toInt32) : Int32).toNatClampNeg).1)) := H18 _ (own_ix hi19)
          obtain ⟨T20, X20, e20, st20⟩ := getF X17 hx hZ hown (host := "") (Or.inl (hw _ (List.mem_of_getElem? (i := 14) rfl))) Via.refl e17 F_costs_o0 (g := (mkF m 124 #[.val (.ref o0), .val (.int p1), .val (.long q2), .second, .val (.int p4), .val (.int p5), .val (.int (i.toInt32)), .val (.int ((n / 2).toInt32)), .val (.int ((2 * i + 1).toInt32))] [(.ref o0), (.long ((fe (((2 * i + 1).toInt32) : Int32).toNatClampNeg).1))])) rfl rfl (hb hby d6_124)
          have qa21 := A_tc
          obtain ⟨c21, Ar21, Sz21, H21⟩ := qa21
          have hi22 : 0 ≤ (((2 * i + 1).toInt32) : Int32).toInt ∧ (((2 * i + 1).toInt32) : Int32).toInt < (64 : Nat) := (own_bd (show (2 * i + 1) < 64 by omega) (by decide))
          have hl22 : c21.slots[(((2 * i + 1).toInt32) : Int32).toNatClampNeg]? = some (.int ((fe (((2 * i + 1).toInt32) : Int32).toNatClampNeg).2.1)) := H21 _ (own_ix hi22)
          obtain ⟨_, _, ⟨T23, L23, k23, n23⟩, -, X23, ⟨Lc23, hQ23, l23, y23, z23⟩, st23⟩ := Jvm.LawKit.callS X20 hx (y := (⟨"com/example/brisk_maze/briskmaze/search/RankedFrontier", "precedes", "(JIJI)Z"⟩ : MethodName)) hown (mvT hZ (hw _ (List.mem_of_getElem? (i := 43) rfl))) (mvT hZ (hw _ (List.mem_of_getElem? (i := 44) rfl))) (mvT hZ (hw _ (List.mem_of_getElem? (i := 3) rfl))) (mvT hZ (hw _ (List.mem_of_getElem? (i := 45) rfl))) (by decide) (backOf (W := 0) (rm8 l Z a0 hw [] ((fe (((2 * i + 1).toInt32) : Int32).toNatClampNeg).1) ((fe (((2 * i + 1).toInt32) : Int32).toNatClampNeg).2.1) q2 p4 h0 n0 Z0) hZ (hw _ (List.mem_of_getElem? (i := 45) rfl)) (hw _ (List.mem_of_getElem? (i := 3) rfl)) (by decide) (by decide)) (g := (mkF m 133 #[.val (.ref o0), .val (.int p1), .val (.long q2), .second, .val (.int p4), .val (.int p5), .val (.int (i.toInt32)), .val (.int ((n / 2).toInt32)), .val (.int ((2 * i + 1).toInt32))] [(.int p4), (.long q2), (.int ((fe (((2 * i + 1).toInt32) : Int32).toNatClampNeg).2.1)), (.long ((fe (((2 * i + 1).toInt32) : Int32).toNatClampNeg).1))])) rfl (by rw [hml]; rfl) (argsL := [(.long ((fe (((2 * i + 1).toInt32) : Int32).toNatClampNeg).1)), (.int ((fe (((2 * i + 1).toInt32) : Int32).toNatClampNeg).2.1)), (.long q2), (.int p4)]) (rest := []) (lenOf pd_0 rfl) rfl (by show 2 * 0 + _ ≤ _; exact Nat.le_of_eq rfl) (hb hby d6_133) (fun _ _ => ⟨rfl, e20, (by decide : 0 + 0 ≤ _), (by decide : 0 + 0 ≤ _)⟩)
          dsimp only [Pt.U, Pt.locs, Pt.cells, Pt.slots] at X23 l23 y23 z23 st23 hQ23
          subst l23 y23 z23
          obtain ⟨rfl, N23q, hh23⟩ := hQ23
          have N23 := Fr.app N14 N23q
          have pre24 : ∀ t, Steps p.tables e below (T23.setTop (mkF m 136 #[.val (.ref o0), .val (.int p1), .val (.long q2), .second, .val (.int p4), .val (.int p5), .val (.int (i.toInt32)), .val (.int ((n / 2).toInt32)), .val (.int ((2 * i + 1).toInt32))] [(.int (f8_ret ((fe (((2 * i + 1).toInt32) : Int32).toNatClampNeg).1) ((fe (((2 * i + 1).toInt32) : Int32).toNatClampNeg).2.1) q2 p4))])) t → Steps p.tables e below (T0.setTop (mkF m 60 #[.val (.ref o0), .val (.int p1), .val (.long q2), .second, .val (.int p4), .val (.int p5), .val (.int (i.toInt32)), .val (.int ((n / 2).toInt32)), s8] [])) t := fun t k => pre15 t (by
            refine XS.ifYes X14.here hx rfl (pc0 := 110) (pc' := 116) rfl (hb hby d6_110) rfl ((if0 _ _).trans (teq hs16).1) (by decide) (by decide) ?_
            show Steps p.tables e below (T14.setTop (mkF m 116 #[.val (.ref o0), .val (.int p1), .val (.long q2), .second, .val (.int p4), .val (.int p5), .val (.int (i.toInt32)), .val (.int ((n / 2).toInt32)), .val (.int ((2 * i + 1).toInt32))] [])) _
            refine XS.aloadN X14.here hx rfl (hb hby d6_116) rfl rfl ?_
            show Steps p.tables e below (T14.setTop (mkF m 117 #[.val (.ref o0), .val (.int p1), .val (.long q2), .second, .val (.int p4), .val (.int p5), .val (.int (i.toInt32)), .val (.int ((n / 2).toInt32)), .val (.int ((2 * i + 1).toInt32))] [(.ref o0)])) _
            refine st17 _ ?_
            show Steps p.tables e below (T17.setTop (mkF m 120 #[.val (.ref o0), .val (.int p1), .val (.long q2), .second, .val (.int p4), .val (.int p5), .val (.int (i.toInt32)), .val (.int ((n / 2).toInt32)), .val (.int ((2 * i + 1).toInt32))] [(.ref tr)])) _
            refine XS.iload X17.here hx rfl (hb hby d6_120) rfl ?_
            show Steps p.tables e below (T17.setTop (mkF m 122 #[.val (.ref o0), .val (.int p1), .val (.long q2), .second, .val (.int p4), .val (.int p5), .val (.int (i.toInt32)), .val (.int ((n / 2).toInt32)), .val (.int ((2 * i + 1).toInt32))] [(.int ((2 * i + 1).toInt32)), (.ref tr)])) _
            refine X17.laload hx (j := ((2 * i + 1).toInt32)) (v := (.long ((fe (((2 * i + 1).toInt32) : Int32).toNatClampNeg).1))) (by rw [e17]; exact Ar18.1) (State.isArrayOf_alike hZ.alike Ar18.2.1) Ar18.2.2 (own_in Sz18 hi19) hl19 (g := (mkF m 122 #[.val (.ref o0), .val (.int p1), .val (.long q2), .second, .val (.int p4), .val (.int p5), .val (.int (i.toInt32)), .val (.int ((n / 2).toInt32)), .val (.int ((2 * i + 1).toInt32))] [(.int ((2 * i + 1).toInt32)), (.ref tr)])) rfl rfl (hb hby d6_122) _ ?_
            show Steps p.tables e below (T17.setTop (mkF m 123 #[.val (.ref o0), .val (.int p1), .val (.long q2), .second, .val (.int p4), .val (.int p5), .val (.int (i.toInt32)), .val (.int ((n / 2).toInt32)), .val (.int ((2 * i + 1).toInt32))] [(.long ((fe (((2 * i + 1).toInt32) : Int32).toNatClampNeg).1))])) _
            refine XS.aloadN X17.here hx rfl (hb hby d6_123) rfl rfl ?_
            show Steps p.tables e below (T17.setTop (mkF m 124 #[.val (.ref o0), .val (.int p1), .val (.long q2), .second, .val (.int p4), .val (.int p5), .val (.int (i.toInt32)), .val (.int ((n / 2).toInt32)), .val (.int ((2 * i + 1).toInt32))] [(.ref o0), (.long ((fe (((2 * i + 1).toInt32) : Int32).toNatClampNeg).1))])) _
            refine st20 _ ?_
            show Steps p.tables e below (T20.setTop (mkF m 127 #[.val (.ref o0), .val (.int p1), .val (.long q2), .second, .val (.int p4), .val (.int p5), .val (.int (i.toInt32)), .val (.int ((n / 2).toInt32)), .val (.int ((2 * i + 1).toInt32))] [(.ref tc), (.long ((fe (((2 * i + 1).toInt32) : Int32).toNatClampNeg).1))])) _
            refine XS.iload X20.here hx rfl (hb hby d6_127) rfl ?_
            show Steps p.tables e below (T20.setTop (mkF m 129 #[.val (.ref o0), .val (.int p1), .val (.long q2), .second, .val (.int p4), .val (.int p5), .val (.int (i.toInt32)), .val (.int ((n / 2).toInt32)), .val (.int ((2 * i + 1).toInt32))] [(.int ((2 * i + 1).toInt32)), (.ref tc), (.long ((fe (((2 * i + 1).toInt32) : Int32).toNatClampNeg).1))])) _
            refine X20.iaload hx (j := ((2 * i + 1).toInt32)) (v := (.int ((fe (((2 * i + 1).toInt32) : Int32).toNatClampNeg).2.1))) (by rw [e20]; exact Ar21.1) (State.isArrayOf_alike hZ.alike Ar21.2.1) Ar21.2.2 (own_in Sz21 hi22) hl22 (g := (mkF m 129 #[.val (.ref o0), .val (.int p1), .val (.long q2), .second, .val (.int p4), .val (.int p5), .val (.int (i.toInt32)), .val (.int ((n / 2).toInt32)), .val (.int ((2 * i + 1).toInt32))] [(.int ((2 * i + 1).toInt32)), (.ref tc), (.long ((fe (((2 * i + 1).toInt32) : Int32).toNatClampNeg).1))])) rfl rfl (hb hby d6_129) _ ?_
            show Steps p.tables e below (T20.setTop (mkF m 130 #[.val (.ref o0), .val (.int p1), .val (.long q2), .second, .val (.int p4), .val (.int p5), .val (.int (i.toInt32)), .val (.int ((n / 2).toInt32)), .val (.int ((2 * i + 1).toInt32))] [(.int ((fe (((2 * i + 1).toInt32) : Int32).toNatClampNeg).2.1)), (.long ((fe (((2 * i + 1).toInt32) : Int32).toNatClampNeg).1))])) _
            refine XS.lloadN X20.here hx rfl (hb hby d6_130) rfl ?_
            show Steps p.tables e below (T20.setTop (mkF m 131 #[.val (.ref o0), .val (.int p1), .val (.long q2), .second, .val (.int p4), .val (.int p5), .val (.int (i.toInt32)), .val (.int ((n / 2).toInt32)), .val (.int ((2 * i + 1).toInt32))] [(.long q2), (.int ((fe (((2 * i + 1).toInt32) : Int32).toNatClampNeg).2.1)), (.long ((fe (((2 * i + 1).toInt32) : Int32).toNatClampNeg).1))])) _
            refine XS.iload X20.here hx rfl (hb hby d6_131) rfl ?_
            show Steps p.tables e below (T20.setTop (mkF m 133 #[.val (.ref o0), .val (.int p1), .val (.long q2), .second, .val (.int p4), .val (.int p5), .val (.int (i.toInt32)), .val (.int ((n / 2).toInt32)), .val (.int ((2 * i + 1).toInt32))] [(.int p4), (.long q2), (.int ((fe (((2 * i + 1).toInt32) : Int32).toNatClampNeg).2.1)), (.long ((fe (((2 * i + 1).toInt32) : Int32).toNatClampNeg).1))])) _
            refine st23 _ ?_
            show Steps p.tables e below (T23.setTop (mkF m 136 #[.val (.ref o0), .val (.int p1), .val (.long q2), .second, .val (.int p4), .val (.int p5), .val (.int (i.toInt32)), .val (.int ((n / 2).toInt32)), .val (.int ((2 * i + 1).toInt32))] [(.int (f8_ret ((fe (((2 * i + 1).toInt32) : Int32).toNatClampNeg).1) ((fe (((2 * i + 1).toInt32) : Int32).toNatClampNeg).2.1) q2 p4))])) _
            exact k)
          by_cases hs25 : (f8_ret ((fe (((2 * i + 1).toInt32) : Int32).toNatClampNeg).1) ((fe (((2 * i + 1).toInt32) : Int32).toNatClampNeg).2.1) q2 p4) = (0 : Int32)
          · have hnx : ¬ own_bf (fe (2 * i + 1)) (q2, p4, p5) := (own_pvr _ q2 p4 p5).mp (by have q := hs25; rw [own_tn (show (2 * i + 1) < 2147483648 by omega)] at q; exact q)
            have pre26 : ∀ t, Steps p.tables e below (T23.setTop (mkF m 157 #[.val (.ref o0), .val (.int p1), .val (.long q2), .second, .val (.int p4), .val (.int p5), .val (.int (i.toInt32)), .val (.int ((n / 2).toInt32)), .val (.int ((2 * i + 1).toInt32))] [])) t → Steps p.tables e below (T0.setTop (mkF m 60 #[.val (.ref o0), .val (.int p1), .val (.long q2), .second, .val (.int p4), .val (.int p5), .val (.int (i.toInt32)), .val (.int ((n / 2).toInt32)), s8] [])) t := fun t k => pre24 t (by
              refine XS.ifNo X23.here hx rfl (hb hby d6_136) rfl ((if0 _ _).trans (teq hs25).2) ?_
              show Steps p.tables e below (T23.setTop (mkF m 139 #[.val (.ref o0), .val (.int p1), .val (.long q2), .second, .val (.int p4), .val (.int p5), .val (.int (i.toInt32)), .val (.int ((n / 2).toInt32)), .val (.int ((2 * i + 1).toInt32))] [])) _
              refine XS.goto X23.here hx rfl (pc0 := 139) (pc' := 157) rfl (hb hby d6_139) (by decide) (by decide) ?_
              show Steps p.tables e below (T23.setTop (mkF m 157 #[.val (.ref o0), .val (.int p1), .val (.long q2), .second, .val (.int p4), .val (.int p5), .val (.int (i.toInt32)), .val (.int ((n / 2).toInt32)), .val (.int ((2 * i + 1).toInt32))] [])) _
              exact k)
            exact ⟨_, _, _, i, fe, _, X23, hh23, N23, (Keep.refl h0 [tr, tc, ts]), A_tr, A_tc, A_ts, (by omega), (own_dn_out hI (fun j j0 j1 j2 => own_bf_nt (hm j j0 j1 j2) hnx)), pre26⟩
          · obtain ⟨cq27, q27, q27'⟩ := (E_o0).cell
            obtain ⟨_, _, ⟨T27, L27, k27, n27⟩, -, X27, ⟨Lc27, hQ27, l27, y27, z27⟩, st27⟩ := X23.privateBack hx (y := (⟨"com/example/brisk_maze/briskmaze/search/RankedFrontier", "move", "(II)V"⟩ : MethodName)) hown (mvT hZ (hw _ (List.mem_of_getElem? (i := 46) rfl))) (mvT hZ (hw _ (List.mem_of_getElem? (i := 47) rfl))) (own_selp (y := (⟨"com/example/brisk_maze/briskmaze/search/RankedFrontier", "move", "(II)V"⟩ : MethodName)) (mvT hZ (hw _ (List.mem_of_getElem? (i := 2) rfl))) (Cond.privateMethod_at (mvP hZ (hw _ (List.mem_of_getElem? (i := 48) rfl)) (args := #[]))) (mvT hZ (hw _ (List.mem_of_getElem? (i := 47) rfl))) (by decide)) (Cond.privateMethod_at (mvP hZ (hw _ (List.mem_of_getElem? (i := 48) rfl)) (args := #[]))) (mvT hZ (hw _ (List.mem_of_getElem? (i := 49) rfl))) (by decide) (backOf (W := 0) (rm9 l Z a0 hw [] o0 ((2 * i + 1).toInt32) (i.toInt32) tr tc ts fe h0 n0 Z0 F_ranks_o0 F_costs_o0 F_states_o0 E_o0 A_tr A_tc A_ts g_tr g_tc g_ts ne_o0_tr ne_o0_tc ne_o0_ts ne_tr_tc ne_tr_ts ne_tc_ts (own_bd (show (2 * i + 1) < 64 by omega) (by decide)) (own_bd (show i < 64 by omega) (by decide))) hZ (hw _ (List.mem_of_getElem? (i := 49) rfl)) (hw _ (List.mem_of_getElem? (i := 3) rfl)) (by decide) (by decide)) (g := (mkF m 147 #[.val (.ref o0), .val (.int p1), .val (.long q2), .second, .val (.int p4), .val (.int p5), .val (.int (i.toInt32)), .val (.int ((n / 2).toInt32)), .val (.int ((2 * i + 1).toInt32))] [(.int (i.toInt32)), (.int ((2 * i + 1).toInt32)), (.ref o0)])) rfl (by rw [hml]; rfl) (Steps.refl _) (a := o0) (by rw [hh23]; exact q27) q27' (argsL := [(.int ((2 * i + 1).toInt32)), (.int (i.toInt32))]) (rest := []) (lenOf pd_3 rfl) rfl (by show 2 * 0 + _ ≤ _; exact Nat.le_of_eq rfl) (hb hby d6_147) (fun _ _ => ⟨rfl, hh23, (by decide : 0 + 0 ≤ _), (by decide : 0 + 0 ≤ _)⟩)
            dsimp only [Pt.U, Pt.locs, Pt.cells, Pt.slots] at X27 l27 y27 z27 st27 hQ27
            subst l27 y27 z27
            obtain ⟨rfl, N27q, Kc27, P27_0, P27_1, P27_2⟩ := hQ27
            have N27 := Fr.app N23 N27q
            have F_ranks_o0_28 : Fld Z T27.heap o0 "com/example/brisk_maze/briskmaze/search/RankedFrontier" "ranks" "[J" (.ref tr) := (F_ranks_o0).keep Kc27 (ninS ne_o0_tr (ninS ne_o0_tc (ninS ne_o0_ts nin0)))
            have F_costs_o0_28 : Fld Z T27.heap o0 "com/example/brisk_maze/briskmaze/search/RankedFrontier" "costs" "[I" (.ref tc) := (F_costs_o0).keep Kc27 (ninS ne_o0_tr (ninS ne_o0_tc (ninS ne_o0_ts nin0)))
            have F_states_o0_28 : Fld Z T27.heap o0 "com/example/brisk_maze/briskmaze/search/RankedFrontier" "states" "[I" (.ref ts) := (F_states_o0).keep Kc27 (ninS ne_o0_tr (ninS ne_o0_tc (ninS ne_o0_ts nin0)))
            have E_o0_28 : Exa Z T27.heap o0 "com/example/brisk_maze/briskmaze/search/RankedFrontier" := (E_o0).keep Kc27
            have F_size_o0_28 : Fld Z T27.heap o0 "com/example/brisk_maze/briskmaze/search/RankedFrontier" "size" "I" (.int (n.toInt32)) := (F_size_o0).keep Kc27 (ninS ne_o0_tr (ninS ne_o0_tc (ninS ne_o0_ts nin0)))
            have SZ29 : h0.size ≤ T27.heap.size := Nat.le_trans (Nat.le_refl _) Kc27.1
            have ZZ29 : n0 ≤ T27.heap.size := Nat.le_trans Z0 SZ29
            have K30 : Keep h0 T27.heap [tr, tc, ts] := ((Keep.refl h0 [tr, tc, ts])).trans Kc27 (allS (Or.inl (List.mem_of_getElem? (i := 0) rfl)) (allS (Or.inl (List.mem_of_getElem? (i := 1) rfl)) (allS (Or.inl (List.mem_of_getElem? (i := 2) rfl)) all0)))
            have pre31 : ∀ t, Steps p.tables e below (T27.setTop (mkF m 60 #[.val (.ref o0), .val (.int p1), .val (.long q2), .second, .val (.int p4), .val (.int p5), .val (.int ((2 * i + 1).toInt32)), .val (.int ((n / 2).toInt32)), .val (.int ((2 * i + 1).toInt32))] [])) t → Steps p.tables e below (T0.setTop (mkF m 60 #[.val (.ref o0), .val (.int p1), .val (.long q2), .second, .val (.int p4), .val (.int p5), .val (.int (i.toInt32)), .val (.int ((n / 2).toInt32)), s8] [])) t := fun t k => pre24 t (by
              refine XS.ifYes X23.here hx rfl (pc0 := 136) (pc' := 142) rfl (hb hby d6_136) rfl ((if0 _ _).trans (feq hs25).2) (by decide) (by decide) ?_
              show Steps p.tables e below (T23.setTop (mkF m 142 #[.val (.ref o0), .val (.int p1), .val (.long q2), .second, .val (.int p4), .val (.int p5), .val (.int (i.toInt32)), .val (.int ((n / 2).toInt32)), .val (.int ((2 * i + 1).toInt32))] [])) _
              refine XS.aloadN X23.here hx rfl (hb hby d6_142) rfl rfl ?_
              show Steps p.tables e below (T23.setTop (mkF m 143 #[.val (.ref o0), .val (.int p1), .val (.long q2), .second, .val (.int p4), .val (.int p5), .val (.int (i.toInt32)), .val (.int ((n / 2).toInt32)), .val (.int ((2 * i + 1).toInt32))] [(.ref o0)])) _
              refine XS.iload X23.here hx rfl (hb hby d6_143) rfl ?_
              show Steps p.tables e below (T23.setTop (mkF m 145 #[.val (.ref o0), .val (.int p1), .val (.long q2), .second, .val (.int p4), .val (.int p5), .val (.int (i.toInt32)), .val (.int ((n / 2).toInt32)), .val (.int ((2 * i + 1).toInt32))] [(.int ((2 * i + 1).toInt32)), (.ref o0)])) _
              refine XS.iload X23.here hx rfl (hb hby d6_145) rfl ?_
              show Steps p.tables e below (T23.setTop (mkF m 147 #[.val (.ref o0), .val (.int p1), .val (.long q2), .second, .val (.int p4), .val (.int p5), .val (.int (i.toInt32)), .val (.int ((n / 2).toInt32)), .val (.int ((2 * i + 1).toInt32))] [(.int (i.toInt32)), (.int ((2 * i + 1).toInt32)), (.ref o0)])) _
              refine st27.trans ?_
              show Steps p.tables e below (T27.setTop (mkF m 150 #[.val (.ref o0), .val (.int p1), .val (.long q2), .second, .val (.int p4), .val (.int p5), .val (.int (i.toInt32)), .val (.int ((n / 2).toInt32)), .val (.int ((2 * i + 1).toInt32))] [])) _
              refine XS.iload X27.here hx rfl (hb hby d6_150) rfl ?_
              show Steps p.tables e below (T27.setTop (mkF m 152 #[.val (.ref o0), .val (.int p1), .val (.long q2), .second, .val (.int p4), .val (.int p5), .val (.int (i.toInt32)), .val (.int ((n / 2).toInt32)), .val (.int ((2 * i + 1).toInt32))] [(.int ((2 * i + 1).toInt32))])) _
              refine XS.istore X27.here hx rfl (hb hby d6_152) rfl (l' := #[.val (.ref o0), .val (.int p1), .val (.long q2), .second, .val (.int p4), .val (.int p5), .val (.int ((2 * i + 1).toInt32)), .val (.int ((n / 2).toInt32)), .val (.int ((2 * i + 1).toInt32))]) rfl ?_
              show Steps p.tables e below (T27.setTop (mkF m 154 #[.val (.ref o0), .val (.int p1), .val (.long q2), .second, .val (.int p4), .val (.int p5), .val (.int ((2 * i + 1).toInt32)), .val (.int ((n / 2).toInt32)), .val (.int ((2 * i + 1).toInt32))] [])) _
              refine XS.goto X27.here hx rfl (pc0 := 154) (pc' := 60) rfl (hb hby d6_154) (by decide) (by decide) ?_
              show Steps p.tables e below (T27.setTop (mkF m 60 #[.val (.ref o0), .val (.int p1), .val (.long q2), .second, .val (.int p4), .val (.int p5), .val (.int ((2 * i + 1).toInt32)), .val (.int ((n / 2).toInt32)), .val (.int ((2 * i + 1).toInt32))] [])) _
              exact k)
            have hyx : own_bf (fe (2 * i + 1)) (q2, p4, p5) := Classical.byContradiction fun q0 => (show ¬ _ from (by have q := hs25; rw [own_tn (show (2 * i + 1) < 2147483648 by omega)] at q; exact q)) ((own_pvr _ q2 p4 p5).mpr q0)
            obtain ⟨T1, h1, locs1, i1, f1, s1, Y1, Y2, Y3, Y4, Y5, Y6, Y7, Y8, Y9, Y10⟩ := ih (n - (2 * i + 1)) (by omega) (2 * i + 1) (own_up fe ((i.toInt32) : Int32).toNatClampNeg (fe (((2 * i + 1).toInt32) : Int32).toNatClampNeg)) (.val (.int ((2 * i + 1).toInt32))) _ _ _ rfl (One.val rfl) (Or.inr (by rw [own_tn (show i < 2147483648 by omega), own_tn (show (2 * i + 1) < 2147483648 by omega)]; exact own_dn_step hI hcn (by omega) (by omega) hyx hm)) X27 rfl N27 ZZ29 F_ranks_o0_28 F_costs_o0_28 F_states_o0_28 E_o0_28 F_size_o0_28 P27_0 P27_1 P27_2
            exact ⟨T1, h1, locs1, i1, f1, s1, Y1, Y2, Y3, K30.trans Y4 (fun x hx => Or.inl hx), Y5, Y6, Y7, Y8, Y9, fun t k => pre31 t (Y10 t k)⟩
        · have h83 : 2 * i + 2 < n := (own_ltn (by omega) (by omega)).mp (by have q := hs7; rw [own_inc] at q; exact q)
          have hyb : own_bf (fe (2 * i + 2)) (fe (2 * i + 1)) := Classical.byContradiction fun q0 => (show ¬ _ from (by have q := hs16; rw [own_inc, own_tn (show 2 * i + 1 + 1 < 2147483648 by omega), own_tn (show 2 * i + 1 < 2147483648 by omega)] at q; exact q)) ((own_pv (fe (2 * i + 2)).1 (fe (2 * i + 2)).2.1 (fe (2 * i + 2)).2.2 (fe (2 * i + 1))).mpr q0)
          have hm : ∀ j, 0 < j → j < n → (j - 1) / 2 = i → ¬ own_bf (fe j) (fe (2 * i + 2)) := fun j j0 j1 j2 => by
            rcases (show j = 2 * i + 1 ∨ j = 2 * i + 2 by omega) with q | q
            · rw [q]; exact own_bf_as hyb
            · rw [q]; exact own_bf_irr _
          have pre32 : ∀ t, Steps p.tables e below (T14.setTop (mkF m 116 #[.val (.ref o0), .val (.int p1), .val (.long q2), .second, .val (.int p4), .val (.int p5), .val (.int (i.toInt32)), .val (.int ((n / 2).toInt32)), .val (.int (((2 * i + 1).toInt32) + (1 : Int32)))] [])) t → Steps p.tables e below (T0.setTop (mkF m 60 #[.val (.ref o0), .val (.int p1), .val (.long q2), .second, .val (.int p4), .val (.int p5), .val (.int (i.toInt32)), .val (.int ((n / 2).toInt32)), s8] [])) t := fun t k => pre15 t (by
            refine XS.ifNo X14.here hx rfl (hb hby d6_110) rfl ((if0 _ _).trans (feq hs16).1) ?_
            show Steps p.tables e below (T14.setTop (mkF m 113 #[.val (.ref o0), .val (.int p1), .val (.long q2), .second, .val (.int p4), .val (.int p5), .val (.int (i.toInt32)), .val (.int ((n / 2).toInt32)), .val (.int ((2 * i + 1).toInt32))] [])) _
            refine XS.iinc X14.here hx rfl (hb hby d6_113) rfl (l' := #[.val (.ref o0), .val (.int p1), .val (.long q2), .second, .val (.int p4), .val (.int p5), .val (.int (i.toInt32)), .val (.int ((n / 2).toInt32)), .val (.int (((2 * i + 1).toInt32) + (1 : Int32)))]) rfl ?_
            show Steps p.tables e below (T14.setTop (mkF m 116 #[.val (.ref o0), .val (.int p1), .val (.long q2), .second, .val (.int p4), .val (.int p5), .val (.int (i.toInt32)), .val (.int ((n / 2).toInt32)), .val (.int (((2 * i + 1).toInt32) + (1 : Int32)))] [])) _
            exact k)
          have hre33 : (((2 * i + 1).toInt32) + (1 : Int32)) = ((2 * i + 2).toInt32) := own_inc (2 * i + 1)
          have pre33 : ∀ t, Steps p.tables e below (T14.setTop (mkF m 116 #[.val (.ref o0), .val (.int p1), .val (.long q2), .second, .val (.int p4), .val (.int p5), .val (.int (i.toInt32)), .val (.int ((n / 2).toInt32)), .val (.int ((2 * i + 2).toInt32))] [])) t → Steps p.tables e below (T0.setTop (mkF m 60 #[.val (.ref o0), .val (.int p1), .val (.long q2), .second, .val (.int p4), .val (.int p5), .val (.int (i.toInt32)), .val (.int ((n / 2).toInt32)), s8] [])) t := fun t k => pre32 t (by rw [hre33]; exact k)
          have hcn : (2 * i + 2) < n := by omega
          obtain ⟨T34, X34, e34, st34⟩ := getF X14 hx hZ hown (host := "") (Or.inl (hw _ (List.mem_of_getElem? (i := 11) rfl))) Via.refl hh14 F_ranks_o0 (g := (mkF m 117 #[.val (.ref o0), .val (.int p1), .val (.long q2), .second, .val (.int p4), .val (.int p5), .val (.int (i.toInt32)), .val (.int ((n / 2).toInt32)), .val (.int ((2 * i + 2).toInt32))] [(.ref o0)])) rfl rfl (hb hby d6_117)
          have qa35 := A_tr
          obtain ⟨c35, Ar35, Sz35, H35⟩ := qa35
          have hi36 : 0 ≤ (((2 * i + 2).toInt32) : Int32).toInt ∧ (((2 * i + 2).toInt32) : Int32).toInt < (64 : Nat) := (own_bd (show (2 * i + 2) < 64 by omega) (by decide))
          have hl36 : c35.slots[(((2 * i + 2).toInt32) : Int32).toNatClampNeg]? = some (.long ((fe (((2 * i + 2).toInt32) : Int32).toNatClampNeg).1)) := H35 _ (own_ix hi36)
          obtain ⟨T37, X37, e37, st37⟩ := getF X34 hx hZ hown (host := "") (Or.inl (hw _ (List.mem_of_getElem? (i := 14) rfl))) Via.refl e34 F_costs_o0 (g := (mkF m 124 #[.val (.ref o0), .val (.int p1), .val (.long q2), .second, .val (.int p4), .val (.int p5), .val (.int (i.toInt32)), .val (.int ((n / 2).toInt32)), .val (.int ((2 * i + 2).toInt32))] [(.ref o0), (.long ((fe (((2 * i + 2).toInt32) : Int32).toNatClampNeg).1))])) rfl rfl (hb hby d6_124)
          have qa38 := A_tc
          obtain ⟨c38, Ar38, Sz38, H38⟩ := qa38
          have hi39 : 0 ≤ (((2 * i + 2).toInt32) : Int32).toInt ∧ (((2 * i + 2).toInt32) : Int32).toInt < (64 : Nat) := (own_bd (show (2 * i + 2) < 64 by omega) (by decide))
          have hl39 : c38.slots[(((2 * i + 2).toInt32) : Int32).toNatClampNeg]? = some (.int ((fe (((2 * i + 2).toInt32) : Int32).toNatClampNeg).2.1)) := H38 _ (own_ix hi39)
          obtain ⟨_, _, ⟨T40, L40, k40, n40⟩, -, X40, ⟨Lc40, hQ40, l40, y40, z40⟩, st40⟩ := Jvm.LawKit.callS X37 hx (y := (⟨"com/example/brisk_maze/briskmaze/search/RankedFrontier", "precedes", "(JIJI)Z"⟩ : MethodName)) hown (mvT hZ (hw _ (List.mem_of_getElem? (i := 43) rfl))) (mvT hZ (hw _ (List.mem_of_getElem? (i := 44) rfl))) (mvT hZ (hw _ (List.mem_of_getElem? (i := 3) rfl))) (mvT hZ (hw _ (List.mem_of_getElem? (i := 45) rfl))) (by decide) (backOf (W := 0) (rm8 l Z a0 hw [] ((fe (((2 * i + 2).toInt32) : Int32).toNatClampNeg).1) ((fe (((2 * i + 2).toInt32) : Int32).toNatClampNeg).2.1) q2 p4 h0 n0 Z0) hZ (hw _ (List.mem_of_getElem? (i := 45) rfl)) (hw _ (List.mem_of_getElem? (i := 3) rfl)) (by decide) (by decide)) (g := (mkF m 133 #[.val (.ref o0), .val (.int p1), .val (.long q2), .second, .val (.int p4), .val (.int p5), .val (.int (i.toInt32)), .val (.int ((n / 2).toInt32)), .val (.int ((2 * i + 2).toInt32))] [(.int p4), (.long q2), (.int ((fe (((2 * i + 2).toInt32) : Int32).toNatClampNeg).2.1)), (.long ((fe (((2 * i + 2).toInt32) : Int32).toNatClampNeg).1))])) rfl (by rw [hml]; rfl) (argsL := [(.long ((fe (((2 * i + 2).toInt32) : Int32).toNatClampNeg).1)), (.int ((fe (((2 * i + 2).toInt32) : Int32).toNatClampNeg).2.1)), (.long q2), (.int p4)]) (rest := []) (lenOf pd_0 rfl) rfl (by show 2 * 0 + _ ≤ _; exact Nat.le_of_eq rfl) (hb hby d6_133) (fun _ _ => ⟨rfl, e37, (by decide : 0 + 0 ≤ _), (by decide : 0 + 0 ≤ _)⟩)
          dsimp only [Pt.U, Pt.locs, Pt.cells, Pt.slots] at X40 l40 y40 z40 st40 hQ40
          subst l40 y40 z40
          obtain ⟨rfl, N40q, hh40⟩ := hQ40
          have N40 := Fr.app N14 N40q
          have pre41 : ∀ t, Steps p.tables e below (T40.setTop (mkF m 136 #[.val (.ref o0), .val (.int p1), .val (.long q2), .second, .val (.int p4), .val (.int p5), .val (.int (i.toInt32)), .val (.int ((n / 2).toInt32)), .val (.int ((2 * i + 2).toInt32))] [(.int (f8_ret ((fe (((2 * i + 2).toInt32) : Int32).toNatClampNeg).1) ((fe (((2 * i + 2).toInt32) : Int32).toNatClampNeg).2.1) q2 p4))])) t → Steps p.tables e below (T0.setTop (mkF m 60 #[.val (.ref o0), .val (.int p1), .val (.long q2), .second, .val (.int p4), .val (.int p5), .val (.int (i.toInt32)), .val (.int ((n / 2).toInt32)), s8] [])) t := fun t k => pre33 t (by
            show Steps p.tables e below (T14.setTop (mkF m 116 #[.val (.ref o0), .val (.int p1), .val (.long q2), .second, .val (.int p4), .val (.int p5), .val (.int (i.toInt32)), .val (.int ((n / 2).toInt32)), .val (.int ((2 * i + 2).toInt32))] [])) _
            refine XS.aloadN X14.here hx rfl (hb hby d6_116) rfl rfl ?_
            show Steps p.tables e below (T14.setTop (mkF m 117 #[.val (.ref o0), .val (.int p1), .val (.long q2), .second, .val (.int p4), .val (.int p5), .val (.int (i.toInt32)), .val (.int ((n / 2).toInt32)), .val (.int ((2 * i + 2).toInt32))] [(.ref o0)])) _
            refine st34 _ ?_
            show Steps p.tables e below (T34.setTop (mkF m 120 #[.val (.ref o0), .val (.int p1), .val (.long q2), .second, .val (.int p4), .val (.int p5), .val (.int (i.toInt32)), .val (.int ((n / 2).toInt32)), .val (.int ((2 * i + 2).toInt32))] [(.ref tr)])) _
            refine XS.iload X34.here hx rfl (hb hby d6_120) rfl ?_
            show Steps p.tables e below (T34.setTop (mkF m 122 #[.val (.ref o0), .val (.int p1), .val (.long q2), .second, .val (.int p4), .val (.int p5), .val (.int (i.toInt32)), .val (.int ((n / 2).toInt32)), .val (.int ((2 * i + 2).toInt32))] [(.int ((2 * i + 2).toInt32)), (.ref tr)])) _
            refine X34.laload hx (j := ((2 * i + 2).toInt32)) (v := (.long ((fe (((2 * i + 2).toInt32) : Int32).toNatClampNeg).1))) (by rw [e34]; exact Ar35.1) (State.isArrayOf_alike hZ.alike Ar35.2.1) Ar35.2.2 (own_in Sz35 hi36) hl36 (g := (mkF m 122 #[.val (.ref o0), .val (.int p1), .val (.long q2), .second, .val (.int p4), .val (.int p5), .val (.int (i.toInt32)), .val (.int ((n / 2).toInt32)), .val (.int ((2 * i + 2).toInt32))] [(.int ((2 * i + 2).toInt32)), (.ref tr)])) rfl rfl (hb hby d6_122) _ ?_
            show Steps p.tables e below (T34.setTop (mkF m 123 #[.val (.ref o0), .val (.int p1), .val (.long q2), .second, .val (.int p4), .val (.int p5), .val (.int (i.toInt32)), .val (.int ((n / 2).toInt32)), .val (.int ((2 * i + 2).toInt32))] [(.long ((fe (((2 * i + 2).toInt32) : Int32).toNatClampNeg).1))])) _
            refine XS.aloadN X34.here hx rfl (hb hby d6_123) rfl rfl ?_
            show Steps p.tables e below (T34.setTop (mkF m 124 #[.val (.ref o0), .val (.int p1), .val (.long q2), .second, .val (.int p4), .val (.int p5), .val (.int (i.toInt32)), .val (.int ((n / 2).toInt32)), .val (.int ((2 * i + 2).toInt32))] [(.ref o0), (.long ((fe (((2 * i + 2).toInt32) : Int32).toNatClampNeg).1))])) _
            refine st37 _ ?_
            show Steps p.tables e below (T37.setTop (mkF m 127 #[.val (.ref o0), .val (.int p1), .val (.long q2), .second, .val (.int p4), .val (.int p5), .val (.int (i.toInt32)), .val (.int ((n / 2).toInt32)), .val (.int ((2 * i + 2).toInt32))] [(.ref tc), (.long ((fe (((2 * i + 2).toInt32) : Int32).toNatClampNeg).1))])) _
            refine XS.iload X37.here hx rfl (hb hby d6_127) rfl ?_
            show Steps p.tables e below (T37.setTop (mkF m 129 #[.val (.ref o0), .val (.int p1), .val (.long q2), .second, .val (.int p4), .val (.int p5), .val (.int (i.toInt32)), .val (.int ((n / 2).toInt32)), .val (.int ((2 * i + 2).toInt32))] [(.int ((2 * i + 2).toInt32)), (.ref tc), (.long ((fe (((2 * i + 2).toInt32) : Int32).toNatClampNeg).1))])) _
            refine X37.iaload hx (j := ((2 * i + 2).toInt32)) (v := (.int ((fe (((2 * i + 2).toInt32) : Int32).toNatClampNeg).2.1))) (by rw [e37]; exact Ar38.1) (State.isArrayOf_alike hZ.alike Ar38.2.1) Ar38.2.2 (own_in Sz38 hi39) hl39 (g := (mkF m 129 #[.val (.ref o0), .val (.int p1), .val (.long q2), .second, .val (.int p4), .val (.int p5), .val (.int (i.toInt32)), .val (.int ((n / 2).toInt32)), .val (.int ((2 * i + 2).toInt32))] [(.int ((2 * i + 2).toInt32)), (.ref tc), (.long ((fe (((2 * i + 2).toInt32) : Int32).toNatClampNeg).1))])) rfl rfl (hb hby d6_129) _ ?_
            show Steps p.tables e below (T37.setTop (mkF m 130 #[.val (.ref o0), .val (.int p1), .val (.long q2), .second, .val (.int p4), .val (.int p5), .val (.int (i.toInt32)), .val (.int ((n / 2).toInt32)), .val (.int ((2 * i + 2).toInt32))] [(.int ((fe (((2 * i + 2).toInt32) : Int32).toNatClampNeg).2.1)), (.long ((fe (((2 * i + 2).toInt32) : Int32).toNatClampNeg).1))])) _
            refine XS.lloadN X37.here hx rfl (hb hby d6_130) rfl ?_
            show Steps p.tables e below (T37.setTop (mkF m 131 #[.val (.ref o0), .val (.int p1), .val (.long q2), .second, .val (.int p4), .val (.int p5), .val (.int (i.toInt32)), .val (.int ((n / 2).toInt32)), .val (.int ((2 * i + 2).toInt32))] [(.long q2), (.int ((fe (((2 * i + 2).toInt32) : Int32).toNatClampNeg).2.1)), (.long ((fe (((2 * i + 2).toInt32) : Int32).toNatClampNeg).1))])) _
            refine XS.iload X37.here hx rfl (hb hby d6_131) rfl ?_
            show Steps p.tables e below (T37.setTop (mkF m 133 #[.val (.ref o0), .val (.int p1), .val (.long q2), .second, .val (.int p4), .val (.int p5), .val (.int (i.toInt32)), .val (.int ((n / 2).toInt32)), .val (.int ((2 * i + 2).toInt32))] [(.int p4), (.long q2), (.int ((fe (((2 * i + 2).toInt32) : Int32).toNatClampNeg).2.1)), (.long ((fe (((2 * i + 2).toInt32) : Int32).toNatClampNeg).1))])) _
            refine st40 _ ?_
            show Steps p.tables e below (T40.setTop (mkF m 136 #[.val (.ref o0), .val (.int p1), .val (.long q2), .second, .val (.int p4), .val (.int p5), .val (.int (i.toInt32)), .val (.int ((n / 2).toInt32)), .val (.int ((2 * i + 2).toInt32))] [(.int (f8_ret ((fe (((2 * i + 2).toInt32) : Int32).toNatClampNeg).1) ((fe (((2 * i + 2).toInt32) : Int32).toNatClampNeg).2.1) q2 p4))])) _
            exact k)
          by_cases hs42 : (f8_ret ((fe (((2 * i + 2).toInt32) : Int32).toNatClampNeg).1) ((fe (((2 * i + 2).toInt32) : Int32).toNatClampNeg).2.1) q2 p4) = (0 : Int32)
          · have hnx : ¬ own_bf (fe (2 * i + 2)) (q2, p4, p5) := (own_pvr _ q2 p4 p5).mp (by have q := hs42; rw [own_tn (show (2 * i + 2) < 2147483648 by omega)] at q; exact q)
            have pre43 : ∀ t, Steps p.tables e below (T40.setTop (mkF m 157 #[.val (.ref o0), .val (.int p1), .val (.long q2), .second, .val (.int p4), .val (.int p5), .val (.int (i.toInt32)), .val (.int ((n / 2).toInt32)), .val (.int ((2 * i + 2).toInt32))] [])) t → Steps p.tables e below (T0.setTop (mkF m 60 #[.val (.ref o0), .val (.int p1), .val (.long q2), .second, .val (.int p4), .val (.int p5), .val (.int (i.toInt32)), .val (.int ((n / 2).toInt32)), s8] [])) t := fun t k => pre41 t (by
              refine XS.ifNo X40.here hx rfl (hb hby d6_136) rfl ((if0 _ _).trans (teq hs42).2) ?_
              show Steps p.tables e below (T40.setTop (mkF m 139 #[.val (.ref o0), .val (.int p1), .val (.long q2), .second, .val (.int p4), .val (.int p5), .val (.int (i.toInt32)), .val (.int ((n / 2).toInt32)), .val (.int ((2 * i + 2).toInt32))] [])) _
              refine XS.goto X40.here hx rfl (pc0 := 139) (pc' := 157) rfl (hb hby d6_139) (by decide) (by decide) ?_
              show Steps p.tables e below (T40.setTop (mkF m 157 #[.val (.ref o0), .val (.int p1), .val (.long q2), .second, .val (.int p4), .val (.int p5), .val (.int (i.toInt32)), .val (.int ((n / 2).toInt32)), .val (.int ((2 * i + 2).toInt32))] [])) _
              exact k)
            exact ⟨_, _, _, i, fe, _, X40, hh40, N40, (Keep.refl h0 [tr, tc, ts]), A_tr, A_tc, A_ts, (by omega), (own_dn_out hI (fun j j0 j1 j2 => own_bf_nt (hm j j0 j1 j2) hnx)), pre43⟩
          · obtain ⟨cq44, q44, q44'⟩ := (E_o0).cell
            obtain ⟨_, _, ⟨T44, L44, k44, n44⟩, -, X44, ⟨Lc44, hQ44, l44, y44, z44⟩, st44⟩ := X40.privateBack hx (y := (⟨"com/example/brisk_maze/briskmaze/search/RankedFrontier", "move", "(II)V"⟩ : MethodName)) hown (mvT hZ (hw _ (List.mem_of_getElem? (i := 46) rfl))) (mvT hZ (hw _ (List.mem_of_getElem? (i := 47) rfl))) (own_selp (y := (⟨"com/example/brisk_maze/briskmaze/search/RankedFrontier", "move", "(II)V"⟩ : MethodName)) (mvT hZ (hw _ (List.mem_of_getElem? (i := 2) rfl))) (Cond.privateMethod_at (mvP hZ (hw _ (List.mem_of_getElem? (i := 48) rfl)) (args := #[]))) (mvT hZ (hw _ (List.mem_of_getElem? (i := 47) rfl))) (by decide)) (Cond.privateMethod_at (mvP hZ (hw _ (List.mem_of_getElem? (i := 48) rfl)) (args := #[]))) (mvT hZ (hw _ (List.mem_of_getElem? (i := 49) rfl))) (by decide) (backOf (W := 0) (rm9 l Z a0 hw [] o0 ((2 * i + 2).toInt32) (i.toInt32) tr tc ts fe h0 n0 Z0 F_ranks_o0 F_costs_o0 F_states_o0 E_o0 A_tr A_tc A_ts g_tr g_tc g_ts ne_o0_tr ne_o0_tc ne_o0_ts ne_tr_tc ne_tr_ts ne_tc_ts (own_bd (show (2 * i + 2) < 64 by omega) (by decide)) (own_bd (show i < 64 by omega) (by decide))) hZ (hw _ (List.mem_of_getElem? (i := 49) rfl)) (hw _ (List.mem_of_getElem? (i := 3) rfl)) (by decide) (by decide)) (g := (mkF m 147 #[.val (.ref o0), .val (.int p1), .val (.long q2), .second, .val (.int p4), .val (.int p5), .val (.int (i.toInt32)), .val (.int ((n / 2).toInt32)), .val (.int ((2 * i + 2).toInt32))] [(.int (i.toInt32)), (.int ((2 * i + 2).toInt32)), (.ref o0)])) rfl (by rw [hml]; rfl) (Steps.refl _) (a := o0) (by rw [hh40]; exact q44) q44' (argsL := [(.int ((2 * i + 2).toInt32)), (.int (i.toInt32))]) (rest := []) (lenOf pd_3 rfl) rfl (by show 2 * 0 + _ ≤ _; exact Nat.le_of_eq rfl) (hb hby d6_147) (fun _ _ => ⟨rfl, hh40, (by decide : 0 + 0 ≤ _), (by decide : 0 + 0 ≤ _)⟩)
            dsimp only [Pt.U, Pt.locs, Pt.cells, Pt.slots] at X44 l44 y44 z44 st44 hQ44
            subst l44 y44 z44
            obtain ⟨rfl, N44q, Kc44, P44_0, P44_1, P44_2⟩ := hQ44
            have N44 := Fr.app N40 N44q
            have F_ranks_o0_45 : Fld Z T44.heap o0 "com/example/brisk_maze/briskmaze/search/RankedFrontier" "ranks" "[J" (.ref tr) := (F_ranks_o0).keep Kc44 (ninS ne_o0_tr (ninS ne_o0_tc (ninS ne_o0_ts nin0)))
            have F_costs_o0_45 : Fld Z T44.heap o0 "com/example/brisk_maze/briskmaze/search/RankedFrontier" "costs" "[I" (.ref tc) := (F_costs_o0).keep Kc44 (ninS ne_o0_tr (ninS ne_o0_tc (ninS ne_o0_ts nin0)))
            have F_states_o0_45 : Fld Z T44.heap o0 "com/example/brisk_maze/briskmaze/search/RankedFrontier" "states" "[I" (.ref ts) := (F_states_o0).keep Kc44 (ninS ne_o0_tr (ninS ne_o0_tc (ninS ne_o0_ts nin0)))
            have E_o0_45 : Exa Z T44.heap o0 "com/example/brisk_maze/briskmaze/search/RankedFrontier" := (E_o0).keep Kc44
            have F_size_o0_45 : Fld Z T44.heap o0 "com/example/brisk_maze/briskmaze/search/RankedFrontier" "size" "I" (.int (n.toInt32)) := (F_size_o0).keep Kc44 (ninS ne_o0_tr (ninS ne_o0_tc (ninS ne_o0_ts nin0)))
            have SZ46 : h0.size ≤ T44.heap.size := Nat.le_trans (Nat.le_refl _) Kc44.1
            have ZZ46 : n0 ≤ T44.heap.size := Nat.le_trans Z0 SZ46
            have K47 : Keep h0 T44.heap [tr, tc, ts] := ((Keep.refl h0 [tr, tc, ts])).trans Kc44 (allS (Or.inl (List.mem_of_getElem? (i := 0) rfl)) (allS (Or.inl (List.mem_of_getElem? (i := 1) rfl)) (allS (Or.inl (List.mem_of_getElem? (i := 2) rfl)) all0)))
            have pre48 : ∀ t, Steps p.tables e below (T44.setTop (mkF m 60 #[.val (.ref o0), .val (.int p1), .val (.long q2), .second, .val (.int p4), .val (.int p5), .val (.int ((2 * i + 2).toInt32)), .val (.int ((n / 2).toInt32)), .val (.int ((2 * i + 2).toInt32))] [])) t → Steps p.tables e below (T0.setTop (mkF m 60 #[.val (.ref o0), .val (.int p1), .val (.long q2), .second, .val (.int p4), .val (.int p5), .val (.int (i.toInt32)), .val (.int ((n / 2).toInt32)), s8] [])) t := fun t k => pre41 t (by
              refine XS.ifYes X40.here hx rfl (pc0 := 136) (pc' := 142) rfl (hb hby d6_136) rfl ((if0 _ _).trans (feq hs42).2) (by decide) (by decide) ?_
              show Steps p.tables e below (T40.setTop (mkF m 142 #[.val (.ref o0), .val (.int p1), .val (.long q2), .second, .val (.int p4), .val (.int p5), .val (.int (i.toInt32)), .val (.int ((n / 2).toInt32)), .val (.int ((2 * i + 2).toInt32))] [])) _
              refine XS.aloadN X40.here hx rfl (hb hby d6_142) rfl rfl ?_
              show Steps p.tables e below (T40.setTop (mkF m 143 #[.val (.ref o0), .val (.int p1), .val (.long q2), .second, .val (.int p4), .val (.int p5), .val (.int (i.toInt32)), .val (.int ((n / 2).toInt32)), .val (.int ((2 * i + 2).toInt32))] [(.ref o0)])) _
              refine XS.iload X40.here hx rfl (hb hby d6_143) rfl ?_
              show Steps p.tables e below (T40.setTop (mkF m 145 #[.val (.ref o0), .val (.int p1), .val (.long q2), .second, .val (.int p4), .val (.int p5), .val (.int (i.toInt32)), .val (.int ((n / 2).toInt32)), .val (.int ((2 * i + 2).toInt32))] [(.int ((2 * i + 2).toInt32)), (.ref o0)])) _
              refine XS.iload X40.here hx rfl (hb hby d6_145) rfl ?_
              show Steps p.tables e below (T40.setTop (mkF m 147 #[.val (.ref o0), .val (.int p1), .val (.long q2), .second, .val (.int p4), .val (.int p5), .val (.int (i.toInt32)), .val (.int ((n / 2).toInt32)), .val (.int ((2 * i + 2).toInt32))] [(.int (i.toInt32)), (.int ((2 * i + 2).toInt32)), (.ref o0)])) _
              refine st44.trans ?_
              show Steps p.tables e below (T44.setTop (mkF m 150 #[.val (.ref o0), .val (.int p1), .val (.long q2), .second, .val (.int p4), .val (.int p5), .val (.int (i.toInt32)), .val (.int ((n / 2).toInt32)), .val (.int ((2 * i + 2).toInt32))] [])) _
              refine XS.iload X44.here hx rfl (hb hby d6_150) rfl ?_
              show Steps p.tables e below (T44.setTop (mkF m 152 #[.val (.ref o0), .val (.int p1), .val (.long q2), .second, .val (.int p4), .val (.int p5), .val (.int (i.toInt32)), .val (.int ((n / 2).toInt32)), .val (.int ((2 * i + 2).toInt32))] [(.int ((2 * i + 2).toInt32))])) _
              refine XS.istore X44.here hx rfl (hb hby d6_152) rfl (l' := #[.val (.ref o0), .val (.int p1), .val (.long q2), .second, .val (.int p4), .val (.int p5), .val (.int ((2 * i + 2).toInt32)), .val (.int ((n / 2).toInt32)), .val (.int ((2 * i + 2).toInt32))]) rfl ?_
              show Steps p.tables e below (T44.setTop (mkF m 154 #[.val (.ref o0), .val (.int p1), .val (.long q2), .second, .val (.int p4), .val (.int p5), .val (.int ((2 * i + 2).toInt32)), .val (.int ((n / 2).toInt32)), .val (.int ((2 * i + 2).toInt32))] [])) _
              refine XS.goto X44.here hx rfl (pc0 := 154) (pc' := 60) rfl (hb hby d6_154) (by decide) (by decide) ?_
              show Steps p.tables e below (T44.setTop (mkF m 60 #[.val (.ref o0), .val (.int p1), .val (.long q2), .second, .val (.int p4), .val (.int p5), .val (.int ((2 * i + 2).toInt32)), .val (.int ((n / 2).toInt32)), .val (.int ((2 * i + 2).toInt32))] [])) _
              exact k)
            have hyx : own_bf (fe (2 * i + 2)) (q2, p4, p5) := Classical.byContradiction fun q0 => (show ¬ _ from (by have q := hs42; rw [own_tn (show (2 * i + 2) < 2147483648 by omega)] at q; exact q)) ((own_pvr _ q2 p4 p5).mpr q0)
            obtain ⟨T1, h1, locs1, i1, f1, s1, Y1, Y2, Y3, Y4, Y5, Y6, Y7, Y8, Y9, Y10⟩ := ih (n - (2 * i + 2)) (by omega) (2 * i + 2) (own_up fe ((i.toInt32) : Int32).toNatClampNeg (fe (((2 * i + 2).toInt32) : Int32).toNatClampNeg)) (.val (.int ((2 * i + 2).toInt32))) _ _ _ rfl (One.val rfl) (Or.inr (by rw [own_tn (show i < 2147483648 by omega), own_tn (show (2 * i + 2) < 2147483648 by omega)]; exact own_dn_step hI hcn (by omega) (by omega) hyx hm)) X44 rfl N44 ZZ46 F_ranks_o0_45 F_costs_o0_45 F_states_o0_45 E_o0_45 F_size_o0_45 P44_0 P44_1 P44_2
            exact ⟨T1, h1, locs1, i1, f1, s1, Y1, Y2, Y3, K47.trans Y4 (fun x hx => Or.inl hx), Y5, Y6, Y7, Y8, Y9, fun t k => pre48 t (Y10 t k)⟩
      · have h83 : ¬ 2 * i + 2 < n := fun q => hs7 (by rw [own_inc]; exact (own_ltn (by omega) (by omega)).mpr q)
        have hm : ∀ j, 0 < j → j < n → (j - 1) / 2 = i → ¬ own_bf (fe j) (fe (2 * i + 1)) := fun j j0 j1 j2 => by
          have q : j = 2 * i + 1 := by omega
          rw [q]; exact own_bf_irr _
        have hcn : (2 * i + 1) < n := by omega
        obtain ⟨T49, X49, e49, st49⟩ := getF X5 hx hZ hown (host := "") (Or.inl (hw _ (List.mem_of_getElem? (i := 11) rfl))) Via.refl e5 F_ranks_o0 (g := (mkF m 117 #[.val (.ref o0), .val (.int p1), .val (.long q2), .second, .val (.int p4), .val (.int p5), .val (.int (i.toInt32)), .val (.int ((n / 2).toInt32)), .val (.int ((2 * i + 1).toInt32))] [(.ref o0)])) rfl rfl (hb hby d6_117)
        have qa50 := A_tr
        obtain ⟨c50, Ar50, Sz50, H50⟩ := qa50
        have hi51 : 0 ≤ (((2 * i + 1).toInt32) : Int32).toInt ∧ (((2 * i + 1).toInt32) : Int32).toInt < (64 : Nat) := (own_bd (show (2 * i + 1) < 64 by omega) (by decide))
        have hl51 : c50.slots[(((2 * i + 1).toInt32) : Int32).toNatClampNeg]? = some (.long ((fe (((2 * i + 1).toInt32) : Int32).toNatClampNeg).1)) := H50 _ (own_ix hi51)
        obtain ⟨T52, X52, e52, st52⟩ := getF X49 hx hZ hown (host := "") (Or.inl (hw _ (List.mem_of_getElem? (i := 14) rfl))) Via.refl e49 F_costs_o0 (g := (mkF m 124 #[.val (.ref o0), .val (.int p1), .val (.long q2), .second, .val (.int p4), .val (.int p5), .val (.int (i.toInt32)), .val (.int ((n / 2).toInt32)), .val (.int ((2 * i + 1).toInt32))] [(.ref o0), (.long ((fe (((2 * i + 1).toInt32) : Int32).toNatClampNeg).1))])) rfl rfl (hb hby d6_124)
        have qa53 := A_tc
        obtain ⟨c53, Ar53, Sz53, H53⟩ := qa53
        have hi54 : 0 ≤ (((2 * i + 1).toInt32) : Int32).toInt ∧ (((2 * i + 1).toInt32) : Int32).toInt < (64 : Nat) := (own_bd (show (2 * i + 1) < 64 by omega) (by decide))
        have hl54 : c53.slots[(((2 * i + 1).toInt32) : Int32).toNatClampNeg]? = some (.int ((fe (((2 * i + 1).toInt32) : Int32).toNatClampNeg).2.1)) := H53 _ (own_ix hi54)
        obtain ⟨_, _, ⟨T55, L55, k55, n55⟩, -, X55, ⟨Lc55, hQ55, l55, y55, z55⟩, st55⟩ := Jvm.LawKit.callS X52 hx (y := (⟨"com/example/brisk_maze/briskmaze/search/RankedFrontier", "precedes", "(JIJI)Z"⟩ : MethodName)) hown (mvT hZ (hw _ (List.mem_of_getElem? (i := 43) rfl))) (mvT hZ (hw _ (List.mem_of_getElem? (i := 44) rfl))) (mvT hZ (hw _ (List.mem_of_getElem? (i := 3) rfl))) (mvT hZ (hw _ (List.mem_of_getElem? (i := 45) rfl))) (by decide) (backOf (W := 0) (rm8 l Z a0 hw [] ((fe (((2 * i + 1).toInt32) : Int32).toNatClampNeg).1) ((fe (((2 * i + 1).toInt32) : Int32).toNatClampNeg).2.1) q2 p4 h0 n0 Z0) hZ (hw _ (List.mem_of_getElem? (i := 45) rfl)) (hw _ (List.mem_of_getElem? (i := 3) rfl)) (by decide) (by decide)) (g := (mkF m 133 #[.val (.ref o0), .val (.int p1), .val (.long q2), .second, .val (.int p4), .val (.int p5), .val (.int (i.toInt32)), .val (.int ((n / 2).toInt32)), .val (.int ((2 * i + 1).toInt32))] [(.int p4), (.long q2), (.int ((fe (((2 * i + 1).toInt32) : Int32).toNatClampNeg).2.1)), (.long ((fe (((2 * i + 1).toInt32) : Int32).toNatClampNeg).1))])) rfl (by rw [hml]; rfl) (argsL := [(.long ((fe (((2 * i + 1).toInt32) : Int32).toNatClampNeg).1)), (.int ((fe (((2 * i + 1).toInt32) : Int32).toNatClampNeg).2.1)), (.long q2), (.int p4)]) (rest := []) (lenOf pd_0 rfl) rfl (by show 2 * 0 + _ ≤ _; exact Nat.le_of_eq rfl) (hb hby d6_133) (fun _ _ => ⟨rfl, e52, (by decide : 0 + 0 ≤ _), (by decide : 0 + 0 ≤ _)⟩)
        dsimp only [Pt.U, Pt.locs, Pt.cells, Pt.slots] at X55 l55 y55 z55 st55 hQ55
        subst l55 y55 z55
        obtain ⟨rfl, N55q, hh55⟩ := hQ55
        have N55 := Fr.app N0 N55q
        have pre56 : ∀ t, Steps p.tables e below (T55.setTop (mkF m 136 #[.val (.ref o0), .val (.int p1), .val (.long q2), .second, .val (.int p4), .val (.int p5), .val (.int (i.toInt32)), .val (.int ((n / 2).toInt32)), .val (.int ((2 * i + 1).toInt32))] [(.int (f8_ret ((fe (((2 * i + 1).toInt32) : Int32).toNatClampNeg).1) ((fe (((2 * i + 1).toInt32) : Int32).toNatClampNeg).2.1) q2 p4))])) t → Steps p.tables e below (T0.setTop (mkF m 60 #[.val (.ref o0), .val (.int p1), .val (.long q2), .second, .val (.int p4), .val (.int p5), .val (.int (i.toInt32)), .val (.int ((n / 2).toInt32)), s8] [])) t := fun t k => pre6 t (by
          refine XS.icmpYes X5.here hx rfl (pc0 := 83) (pc' := 116) rfl (hb hby d6_83) rfl (flt hs7).2.1 (by decide) (by decide) ?_
          show Steps p.tables e below (T5.setTop (mkF m 116 #[.val (.ref o0), .val (.int p1), .val (.long q2), .second, .val (.int p4), .val (.int p5), .val (.int (i.toInt32)), .val (.int ((n / 2).toInt32)), .val (.int ((2 * i + 1).toInt32))] [])) _
          refine XS.aloadN X5.here hx rfl (hb hby d6_116) rfl rfl ?_
          show Steps p.tables e below (T5.setTop (mkF m 117 #[.val (.ref o0), .val (.int p1), .val (.long q2), .second, .val (.int p4), .val (.int p5), .val (.int (i.toInt32)), .val (.int ((n / 2).toInt32)), .val (.int ((2 * i + 1).toInt32))] [(.ref o0)])) _
          refine st49 _ ?_
          show Steps p.tables e below (T49.setTop (mkF m 120 #[.val (.ref o0), .val (.int p1), .val (.long q2), .second, .val (.int p4), .val (.int p5), .val (.int (i.toInt32)), .val (.int ((n / 2).toInt32)), .val (.int ((2 * i + 1).toInt32))] [(.ref tr)])) _
          refine XS.iload X49.here hx rfl (hb hby d6_120) rfl ?_
          show Steps p.tables e below (T49.setTop (mkF m 122 #[.val (.ref o0), .val (.int p1), .val (.long q2), .second, .val (.int p4), .val (.int p5), .val (.int (i.toInt32)), .val (.int ((n / 2).toInt32)), .val (.int ((2 * i + 1).toInt32))] [(.int ((2 * i + 1).toInt32)), (.ref tr)])) _
          refine X49.laload hx (j := ((2 * i + 1).toInt32)) (v := (.long ((fe (((2 * i + 1).toInt32) : Int32).toNatClampNeg).1))) (by rw [e49]; exact Ar50.1) (State.isArrayOf_alike hZ.alike Ar50.2.1) Ar50.2.2 (own_in Sz50 hi51) hl51 (g := (mkF m 122 #[.val (.ref o0), .val (.int p1), .val (.long q2), .second, .val (.int p4), .val (.int p5), .val (.int (i.toInt32)), .val (.int ((n / 2).toInt32)), .val (.int ((2 * i + 1).toInt32))] [(.int ((2 * i + 1).toInt32)), (.ref tr)])) rfl rfl (hb hby d6_122) _ ?_
          show Steps p.tables e below (T49.setTop (mkF m 123 #[.val (.ref o0), .val (.int p1), .val (.long q2), .second, .val (.int p4), .val (.int p5), .val (.int (i.toInt32)), .val (.int ((n / 2).toInt32)), .val (.int ((2 * i + 1).toInt32))] [(.long ((fe (((2 * i + 1).toInt32) : Int32).toNatClampNeg).1))])) _
          refine XS.aloadN X49.here hx rfl (hb hby d6_123) rfl rfl ?_
          show Steps p.tables e below (T49.setTop (mkF m 124 #[.val (.ref o0), .val (.int p1), .val (.long q2), .second, .val (.int p4), .val (.int p5), .val (.int (i.toInt32)), .val (.int ((n / 2).toInt32)), .val (.int ((2 * i + 1).toInt32))] [(.ref o0), (.long ((fe (((2 * i + 1).toInt32) : Int32).toNatClampNeg).1))])) _
          refine st52 _ ?_
          show Steps p.tables e below (T52.setTop (mkF m 127 #[.val (.ref o0), .val (.int p1), .val (.long q2), .second, .val (.int p4), .val (.int p5), .val (.int (i.toInt32)), .val (.int ((n / 2).toInt32)), .val (.int ((2 * i + 1).toInt32))] [(.ref tc), (.long ((fe (((2 * i + 1).toInt32) : Int32).toNatClampNeg).1))])) _
          refine XS.iload X52.here hx rfl (hb hby d6_127) rfl ?_
          show Steps p.tables e below (T52.setTop (mkF m 129 #[.val (.ref o0), .val (.int p1), .val (.long q2), .second, .val (.int p4), .val (.int p5), .val (.int (i.toInt32)), .val (.int ((n / 2).toInt32)), .val (.int ((2 * i + 1).toInt32))] [(.int ((2 * i + 1).toInt32)), (.ref tc), (.long ((fe (((2 * i + 1).toInt32) : Int32).toNatClampNeg).1))])) _
          refine X52.iaload hx (j := ((2 * i + 1).toInt32)) (v := (.int ((fe (((2 * i + 1).toInt32) : Int32).toNatClampNeg).2.1))) (by rw [e52]; exact Ar53.1) (State.isArrayOf_alike hZ.alike Ar53.2.1) Ar53.2.2 (own_in Sz53 hi54) hl54 (g := (mkF m 129 #[.val (.ref o0), .val (.int p1), .val (.long q2), .second, .val (.int p4), .val (.int p5), .val (.int (i.toInt32)), .val (.int ((n / 2).toInt32)), .val (.int ((2 * i + 1).toInt32))] [(.int ((2 * i + 1).toInt32)), (.ref tc), (.long ((fe (((2 * i + 1).toInt32) : Int32).toNatClampNeg).1))])) rfl rfl (hb hby d6_129) _ ?_
          show Steps p.tables e below (T52.setTop (mkF m 130 #[.val (.ref o0), .val (.int p1), .val (.long q2), .second, .val (.int p4), .val (.int p5), .val (.int (i.toInt32)), .val (.int ((n / 2).toInt32)), .val (.int ((2 * i + 1).toInt32))] [(.int ((fe (((2 * i + 1).toInt32) : Int32).toNatClampNeg).2.1)), (.long ((fe (((2 * i + 1).toInt32) : Int32).toNatClampNeg).1))])) _
          refine XS.lloadN X52.here hx rfl (hb hby d6_130) rfl ?_
          show Steps p.tables e below (T52.setTop (mkF m 131 #[.val (.ref o0), .val (.int p1), .val (.long q2), .second, .val (.int p4), .val (.int p5), .val (.int (i.toInt32)), .val (.int ((n / 2).toInt32)), .val (.int ((2 * i + 1).toInt32))] [(.long q2), (.int ((fe (((2 * i + 1).toInt32) : Int32).toNatClampNeg).2.1)), (.long ((fe (((2 * i + 1).toInt32) : Int32).toNatClampNeg).1))])) _
          refine XS.iload X52.here hx rfl (hb hby d6_131) rfl ?_
          show Steps p.tables e below (T52.setTop (mkF m 133 #[.val (.ref o0), .val (.int p1), .val (.long q2), .second, .val (.int p4), .val (.int p5), .val (.int (i.toInt32)), .val (.int ((n / 2).toInt32)), .val (.int ((2 * i + 1).toInt32))] [(.int p4), (.long q2), (.int ((fe (((2 * i + 1).toInt32) : Int32).toNatClampNeg).2.1)), (.long ((fe (((2 * i + 1).toInt32) : Int32).toNatClampNeg).1))])) _
          refine st55 _ ?_
          show Steps p.tables e below (T55.setTop (mkF m 136 #[.val (.ref o0), .val (.int p1), .val (.long q2), .second, .val (.int p4), .val (.int p5), .val (.int (i.toInt32)), .val (.int ((n / 2).toInt32)), .val (.int ((2 * i + 1).toInt32))] [(.int (f8_ret ((fe (((2 * i + 1).toInt32) : Int32).toNatClampNeg).1) ((fe (((2 * i + 1).toInt32) : Int32).toNatClampNeg).2.1) q2 p4))])) _
          exact k)
        by_cases hs57 : (f8_ret ((fe (((2 * i + 1).toInt32) : Int32).toNatClampNeg).1) ((fe (((2 * i + 1).toInt32) : Int32).toNatClampNeg).2.1) q2 p4) = (0 : Int32)
        · have hnx : ¬ own_bf (fe (2 * i + 1)) (q2, p4, p5) := (own_pvr _ q2 p4 p5).mp (by have q := hs57; rw [own_tn (show (2 * i + 1) < 2147483648 by omega)] at q; exact q)
          have pre58 : ∀ t, Steps p.tables e below (T55.setTop (mkF m 157 #[.val (.ref o0), .val (.int p1), .val (.long q2), .second, .val (.int p4), .val (.int p5), .val (.int (i.toInt32)), .val (.int ((n / 2).toInt32)), .val (.int ((2 * i + 1).toInt32))] [])) t → Steps p.tables e below (T0.setTop (mkF m 60 #[.val (.ref o0), .val (.int p1), .val (.long q2), .second, .val (.int p4), .val (.int p5), .val (.int (i.toInt32)), .val (.int ((n / 2).toInt32)), s8] [])) t := fun t k => pre56 t (by
            refine XS.ifNo X55.here hx rfl (hb hby d6_136) rfl ((if0 _ _).trans (teq hs57).2) ?_
            show Steps p.tables e below (T55.setTop (mkF m 139 #[.val (.ref o0), .val (.int p1), .val (.long q2), .second, .val (.int p4), .val (.int p5), .val (.int (i.toInt32)), .val (.int ((n / 2).toInt32)), .val (.int ((2 * i + 1).toInt32))] [])) _
            refine XS.goto X55.here hx rfl (pc0 := 139) (pc' := 157) rfl (hb hby d6_139) (by decide) (by decide) ?_
            show Steps p.tables e below (T55.setTop (mkF m 157 #[.val (.ref o0), .val (.int p1), .val (.long q2), .second, .val (.int p4), .val (.int p5), .val (.int (i.toInt32)), .val (.int ((n / 2).toInt32)), .val (.int ((2 * i + 1).toInt32))] [])) _
            exact k)
          exact ⟨_, _, _, i, fe, _, X55, hh55, N55, (Keep.refl h0 [tr, tc, ts]), A_tr, A_tc, A_ts, (by omega), (own_dn_out hI (fun j j0 j1 j2 => own_bf_nt (hm j j0 j1 j2) hnx)), pre58⟩
        · obtain ⟨cq59, q59, q59'⟩ := (E_o0).cell
          obtain ⟨_, _, ⟨T59, L59, k59, n59⟩, -, X59, ⟨Lc59, hQ59, l59, y59, z59⟩, st59⟩ := X55.privateBack hx (y := (⟨"com/example/brisk_maze/briskmaze/search/RankedFrontier", "move", "(II)V"⟩ : MethodName)) hown (mvT hZ (hw _ (List.mem_of_getElem? (i := 46) rfl))) (mvT hZ (hw _ (List.mem_of_getElem? (i := 47) rfl))) (own_selp (y := (⟨"com/example/brisk_maze/briskmaze/search/RankedFrontier", "move", "(II)V"⟩ : MethodName)) (mvT hZ (hw _ (List.mem_of_getElem? (i := 2) rfl))) (Cond.privateMethod_at (mvP hZ (hw _ (List.mem_of_getElem? (i := 48) rfl)) (args := #[]))) (mvT hZ (hw _ (List.mem_of_getElem? (i := 47) rfl))) (by decide)) (Cond.privateMethod_at (mvP hZ (hw _ (List.mem_of_getElem? (i := 48) rfl)) (args := #[]))) (mvT hZ (hw _ (List.mem_of_getElem? (i := 49) rfl))) (by decide) (backOf (W := 0) (rm9 l Z a0 hw [] o0 ((2 * i + 1).toInt32) (i.toInt32) tr tc ts fe h0 n0 Z0 F_ranks_o0 F_costs_o0 F_states_o0 E_o0 A_tr A_tc A_ts g_tr g_tc g_ts ne_o0_tr ne_o0_tc ne_o0_ts ne_tr_tc ne_tr_ts ne_tc_ts (own_bd (show (2 * i + 1) < 64 by omega) (by decide)) (own_bd (show i < 64 by omega) (by decide))) hZ (hw _ (List.mem_of_getElem? (i := 49) rfl)) (hw _ (List.mem_of_getElem? (i := 3) rfl)) (by decide) (by decide)) (g := (mkF m 147 #[.val (.ref o0), .val (.int p1), .val (.long q2), .second, .val (.int p4), .val (.int p5), .val (.int (i.toInt32)), .val (.int ((n / 2).toInt32)), .val (.int ((2 * i + 1).toInt32))] [(.int (i.toInt32)), (.int ((2 * i + 1).toInt32)), (.ref o0)])) rfl (by rw [hml]; rfl) (Steps.refl _) (a := o0) (by rw [hh55]; exact q59) q59' (argsL := [(.int ((2 * i + 1).toInt32)), (.int (i.toInt32))]) (rest := []) (lenOf pd_3 rfl) rfl (by show 2 * 0 + _ ≤ _; exact Nat.le_of_eq rfl) (hb hby d6_147) (fun _ _ => ⟨rfl, hh55, (by decide : 0 + 0 ≤ _), (by decide : 0 + 0 ≤ _)⟩)
          dsimp only [Pt.U, Pt.locs, Pt.cells, Pt.slots] at X59 l59 y59 z59 st59 hQ59
          subst l59 y59 z59
          obtain ⟨rfl, N59q, Kc59, P59_0, P59_1, P59_2⟩ := hQ59
          have N59 := Fr.app N55 N59q
          have F_ranks_o0_60 : Fld Z T59.heap o0 "com/example/brisk_maze/briskmaze/search/RankedFrontier" "ranks" "[J" (.ref tr) := (F_ranks_o0).keep Kc59 (ninS ne_o0_tr (ninS ne_o0_tc (ninS ne_o0_ts nin0)))
          have F_costs_o0_60 : Fld Z T59.heap o0 "com/example/brisk_maze/briskmaze/search/RankedFrontier" "costs" "[I" (.ref tc) := (F_costs_o0).keep Kc59 (ninS ne_o0_tr (ninS ne_o0_tc (ninS ne_o0_ts nin0)))
          have F_states_o0_60 : Fld Z T59.heap o0 "com/example/brisk_maze/briskmaze/search/RankedFrontier" "states" "[I" (.ref ts) := (F_states_o0).keep Kc59 (ninS ne_o0_tr (ninS ne_o0_tc (ninS ne_o0_ts nin0)))
          have E_o0_60 : Exa Z T59.heap o0 "com/example/brisk_maze/briskmaze/search/RankedFrontier" := (E_o0).keep Kc59
          have F_size_o0_60 : Fld Z T59.heap o0 "com/example/brisk_maze/briskmaze/search/RankedFrontier" "size" "I" (.int (n.toInt32)) := (F_size_o0).keep Kc59 (ninS ne_o0_tr (ninS ne_o0_tc (ninS ne_o0_ts nin0)))
          have SZ61 : h0.size ≤ T59.heap.size := Nat.le_trans (Nat.le_refl _) Kc59.1
          have ZZ61 : n0 ≤ T59.heap.size := Nat.le_trans Z0 SZ61
          have K62 : Keep h0 T59.heap [tr, tc, ts] := ((Keep.refl h0 [tr, tc, ts])).trans Kc59 (allS (Or.inl (List.mem_of_getElem? (i := 0) rfl)) (allS (Or.inl (List.mem_of_getElem? (i := 1) rfl)) (allS (Or.inl (List.mem_of_getElem? (i := 2) rfl)) all0)))
          have pre63 : ∀ t, Steps p.tables e below (T59.setTop (mkF m 60 #[.val (.ref o0), .val (.int p1), .val (.long q2), .second, .val (.int p4), .val (.int p5), .val (.int ((2 * i + 1).toInt32)), .val (.int ((n / 2).toInt32)), .val (.int ((2 * i + 1).toInt32))] [])) t → Steps p.tables e below (T0.setTop (mkF m 60 #[.val (.ref o0), .val (.int p1), .val (.long q2), .second, .val (.int p4), .val (.int p5), .val (.int (i.toInt32)), .val (.int ((n / 2).toInt32)), s8] [])) t := fun t k => pre56 t (by
            refine XS.ifYes X55.here hx rfl (pc0 := 136) (pc' := 142) rfl (hb hby d6_136) rfl ((if0 _ _).trans (feq hs57).2) (by decide) (by decide) ?_
            show Steps p.tables e below (T55.setTop (mkF m 142 #[.val (.ref o0), .val (.int p1), .val (.long q2), .second, .val (.int p4), .val (.int p5), .val (.int (i.toInt32)), .val (.int ((n / 2).toInt32)), .val (.int ((2 * i + 1).toInt32))] [])) _
            refine XS.aloadN X55.here hx rfl (hb hby d6_142) rfl rfl ?_
            show Steps p.tables e below (T55.setTop (mkF m 143 #[.val (.ref o0), .val (.int p1), .val (.long q2), .second, .val (.int p4), .val (.int p5), .val (.int (i.toInt32)), .val (.int ((n / 2).toInt32)), .val (.int ((2 * i + 1).toInt32))] [(.ref o0)])) _
            refine XS.iload X55.here hx rfl (hb hby d6_143) rfl ?_
            show Steps p.tables e below (T55.setTop (mkF m 145 #[.val (.ref o0), .val (.int p1), .val (.long q2), .second, .val (.int p4), .val (.int p5), .val (.int (i.toInt32)), .val (.int ((n / 2).toInt32)), .val (.int ((2 * i + 1).toInt32))] [(.int ((2 * i + 1).toInt32)), (.ref o0)])) _
            refine XS.iload X55.here hx rfl (hb hby d6_145) rfl ?_
            show Steps p.tables e below (T55.setTop (mkF m 147 #[.val (.ref o0), .val (.int p1), .val (.long q2), .second, .val (.int p4), .val (.int p5), .val (.int (i.toInt32)), .val (.int ((n / 2).toInt32)), .val (.int ((2 * i + 1).toInt32))] [(.int (i.toInt32)), (.int ((2 * i + 1).toInt32)), (.ref o0)])) _
            refine st59.trans ?_
            show Steps p.tables e below (T59.setTop (mkF m 150 #[.val (.ref o0), .val (.int p1), .val (.long q2), .second, .val (.int p4), .val (.int p5), .val (.int (i.toInt32)), .val (.int ((n / 2).toInt32)), .val (.int ((2 * i + 1).toInt32))] [])) _
            refine XS.iload X59.here hx rfl (hb hby d6_150) rfl ?_
            show Steps p.tables e below (T59.setTop (mkF m 152 #[.val (.ref o0), .val (.int p1), .val (.long q2), .second, .val (.int p4), .val (.int p5), .val (.int (i.toInt32)), .val (.int ((n / 2).toInt32)), .val (.int ((2 * i + 1).toInt32))] [(.int ((2 * i + 1).toInt32))])) _
            refine XS.istore X59.here hx rfl (hb hby d6_152) rfl (l' := #[.val (.ref o0), .val (.int p1), .val (.long q2), .second, .val (.int p4), .val (.int p5), .val (.int ((2 * i + 1).toInt32)), .val (.int ((n / 2).toInt32)), .val (.int ((2 * i + 1).toInt32))]) rfl ?_
            show Steps p.tables e below (T59.setTop (mkF m 154 #[.val (.ref o0), .val (.int p1), .val (.long q2), .second, .val (.int p4), .val (.int p5), .val (.int ((2 * i + 1).toInt32)), .val (.int ((n / 2).toInt32)), .val (.int ((2 * i + 1).toInt32))] [])) _
            refine XS.goto X59.here hx rfl (pc0 := 154) (pc' := 60) rfl (hb hby d6_154) (by decide) (by decide) ?_
            show Steps p.tables e below (T59.setTop (mkF m 60 #[.val (.ref o0), .val (.int p1), .val (.long q2), .second, .val (.int p4), .val (.int p5), .val (.int ((2 * i + 1).toInt32)), .val (.int ((n / 2).toInt32)), .val (.int ((2 * i + 1).toInt32))] [])) _
            exact k)
          have hyx : own_bf (fe (2 * i + 1)) (q2, p4, p5) := Classical.byContradiction fun q0 => (show ¬ _ from (by have q := hs57; rw [own_tn (show (2 * i + 1) < 2147483648 by omega)] at q; exact q)) ((own_pvr _ q2 p4 p5).mpr q0)
          obtain ⟨T1, h1, locs1, i1, f1, s1, Y1, Y2, Y3, Y4, Y5, Y6, Y7, Y8, Y9, Y10⟩ := ih (n - (2 * i + 1)) (by omega) (2 * i + 1) (own_up fe ((i.toInt32) : Int32).toNatClampNeg (fe (((2 * i + 1).toInt32) : Int32).toNatClampNeg)) (.val (.int ((2 * i + 1).toInt32))) _ _ _ rfl (One.val rfl) (Or.inr (by rw [own_tn (show i < 2147483648 by omega), own_tn (show (2 * i + 1) < 2147483648 by omega)]; exact own_dn_step hI hcn (by omega) (by omega) hyx hm)) X59 rfl N59 ZZ61 F_ranks_o0_60 F_costs_o0_60 F_states_o0_60 E_o0_60 F_size_o0_60 P59_0 P59_1 P59_2
          exact ⟨T1, h1, locs1, i1, f1, s1, Y1, Y2, Y3, K62.trans Y4 (fun x hx => Or.inl hx), Y5, Y6, Y7, Y8, Y9, fun t k => pre63 t (Y10 t k)⟩
    · have hge : ¬ i < n / 2 := fun q => hs2 ((own_ltn (by omega) (by omega)).mpr q)
      have pre64 : ∀ t, Steps p.tables e below (T0.setTop (mkF m 157 #[.val (.ref o0), .val (.int p1), .val (.long q2), .second, .val (.int p4), .val (.int p5), .val (.int (i.toInt32)), .val (.int ((n / 2).toInt32)), s8] [])) t → Steps p.tables e below (T0.setTop (mkF m 60 #[.val (.ref o0), .val (.int p1), .val (.long q2), .second, .val (.int p4), .val (.int p5), .val (.int (i.toInt32)), .val (.int ((n / 2).toInt32)), s8] [])) t := fun t k => pre1 t (by
        refine XS.icmpYes X0.here hx rfl (pc0 := 64) (pc' := 157) rfl (hb hby d6_64) rfl (flt hs2).2.1 (by decide) (by decide) ?_
        show Steps p.tables e below (T0.setTop (mkF m 157 #[.val (.ref o0), .val (.int p1), .val (.long q2), .second, .val (.int p4), .val (.int p5), .val (.int (i.toInt32)), .val (.int ((n / 2).toInt32)), s8] [])) _
        exact k)
      exact ⟨_, _, _, i, fe, _, X0, e0, N0, (Keep.refl h0 [tr, tc, ts]), A_tr, A_tc, A_ts, (by omega), (by
            rcases hI0 with ⟨q, r⟩ | q
            · subst q; exact ⟨fun j _ j1 => absurd j1 (by omega), ⟨id, id, fun j j1 => absurd j1 (by omega), fun j j1 => absurd j1 (by omega)⟩⟩
            · exact own_dn_out q (fun j j0 j1 j2 => absurd j2 (by omega))), pre64⟩
theorem d6_0 : decode prog_53_method_4_code 0 = .ok (.aload_n 0, 1) := by decide +kernel
theorem d6_1 : decode prog_53_method_4_code 1 = .ok (.getfield 17, 3) := by decide +kernel
theorem d6_4 : decode prog_53_method_4_code 4 = .ok (.iconst 0, 1) := by decide +kernel
theorem d6_5 : decode prog_53_method_4_code 5 = .ok (.iaload, 1) := by decide +kernel
theorem d6_6 : decode prog_53_method_4_code 6 = .ok (.istore_n 1, 1) := by decide +kernel
theorem d6_7 : decode prog_53_method_4_code 7 = .ok (.aload_n 0, 1) := by decide +kernel
theorem d6_8 : decode prog_53_method_4_code 8 = .ok (.dup, 1) := by decide +kernel
theorem d6_9 : decode prog_53_method_4_code 9 = .ok (.getfield 20, 3) := by decide +kernel
theorem d6_12 : decode prog_53_method_4_code 12 = .ok (.iconst 1, 1) := by decide +kernel
theorem d6_13 : decode prog_53_method_4_code 13 = .ok (.isub, 1) := by decide +kernel
theorem d6_14 : decode prog_53_method_4_code 14 = .ok (.putfield 20, 3) := by decide +kernel
theorem d6_17 : decode prog_53_method_4_code 17 = .ok (.aload_n 0, 1) := by decide +kernel
theorem d6_18 : decode prog_53_method_4_code 18 = .ok (.getfield 9, 3) := by decide +kernel
theorem d6_21 : decode prog_53_method_4_code 21 = .ok (.aload_n 0, 1) := by decide +kernel
theorem d6_22 : decode prog_53_method_4_code 22 = .ok (.getfield 20, 3) := by decide +kernel
theorem d6_25 : decode prog_53_method_4_code 25 = .ok (.laload, 1) := by decide +kernel
theorem d6_26 : decode prog_53_method_4_code 26 = .ok (.lstore_n 2, 1) := by decide +kernel
theorem d6_27 : decode prog_53_method_4_code 27 = .ok (.aload_n 0, 1) := by decide +kernel
theorem d6_28 : decode prog_53_method_4_code 28 = .ok (.getfield 13, 3) := by decide +kernel
theorem d6_31 : decode prog_53_method_4_code 31 = .ok (.aload_n 0, 1) := by decide +kernel
theorem d6_32 : decode prog_53_method_4_code 32 = .ok (.getfield 20, 3) := by decide +kernel
theorem d6_35 : decode prog_53_method_4_code 35 = .ok (.iaload, 1) := by decide +kernel
theorem d6_36 : decode prog_53_method_4_code 36 = .ok (.istore 4, 2) := by decide +kernel
theorem d6_38 : decode prog_53_method_4_code 38 = .ok (.aload_n 0, 1) := by decide +kernel
theorem d6_39 : decode prog_53_method_4_code 39 = .ok (.getfield 17, 3) := by decide +kernel
theorem d6_42 : decode prog_53_method_4_code 42 = .ok (.aload_n 0, 1) := by decide +kernel
theorem d6_43 : decode prog_53_method_4_code 43 = .ok (.getfield 20, 3) := by decide +kernel
theorem d6_46 : decode prog_53_method_4_code 46 = .ok (.iaload, 1) := by decide +kernel
theorem d6_47 : decode prog_53_method_4_code 47 = .ok (.istore 5, 2) := by decide +kernel
theorem d6_49 : decode prog_53_method_4_code 49 = .ok (.iconst 0, 1) := by decide +kernel
theorem d6_50 : decode prog_53_method_4_code 50 = .ok (.istore 6, 2) := by decide +kernel
theorem d6_52 : decode prog_53_method_4_code 52 = .ok (.aload_n 0, 1) := by decide +kernel
theorem d6_53 : decode prog_53_method_4_code 53 = .ok (.getfield 20, 3) := by decide +kernel
theorem d6_56 : decode prog_53_method_4_code 56 = .ok (.iconst 1, 1) := by decide +kernel
theorem d6_57 : decode prog_53_method_4_code 57 = .ok (.iushr, 1) := by decide +kernel
theorem d6_58 : decode prog_53_method_4_code 58 = .ok (.istore 7, 2) := by decide +kernel
theorem d6_157 : decode prog_53_method_4_code 157 = .ok (.aload_n 0, 1) := by decide +kernel
theorem d6_158 : decode prog_53_method_4_code 158 = .ok (.iload 6, 2) := by decide +kernel
theorem d6_160 : decode prog_53_method_4_code 160 = .ok (.lload_n 2, 1) := by decide +kernel
theorem d6_161 : decode prog_53_method_4_code 161 = .ok (.iload 4, 2) := by decide +kernel
theorem d6_163 : decode prog_53_method_4_code 163 = .ok (.iload 5, 2) := by decide +kernel
theorem d6_165 : decode prog_53_method_4_code 165 = .ok (.invokevirtual 35, 3) := by decide +kernel
theorem d6_168 : decode prog_53_method_4_code 168 = .ok (.iload_n 1, 1) := by decide +kernel
theorem d6_169 : decode prog_53_method_4_code 169 = .ok (.ireturn, 1) := by decide +kernel
theorem ef_6 (m : MethodId) (o0 : Addr) : entryFrame m #[(.ref o0)] 9 = mkF m 0 #[.val (.ref o0), .unset, .unset, .unset, .unset, .unset, .unset, .unset, .unset] [] := by first | (simp [entryFrame, mkF, argsToLocals, Value.category]; done) | rfl

def Q6 (Z : State) (o0 : Addr) (tr tc ts : Addr) (fe : Nat → own_E) (n : Nat) (h0 : Heap) (n0 : Nat) (v : Option Value) (h : Heap) (L : List Loc) : Prop := ∃ (f2 : Nat → own_E), v = some (.int ((fe 0).2.2)) ∧ Fr n0 L ∧ Keep h0 h [tr, tc, ts, o0] ∧ (Fld Z h o0 "com/example/brisk_maze/briskmaze/search/RankedFrontier" "size" "I" (.int (n.toInt32))) ∧ (Fld Z h o0 "com/example/brisk_maze/briskmaze/search/RankedFrontier" "ranks" "[J" (.ref tr)) ∧ (Fld Z h o0 "com/example/brisk_maze/briskmaze/search/RankedFrontier" "costs" "[I" (.ref tc)) ∧ (Fld Z h o0 "com/example/brisk_maze/briskmaze/search/RankedFrontier" "states" "[I" (.ref ts)) ∧ (own_A Z h tr .long 64 (fun kk => (.long (f2 kk).1))) ∧ (own_A Z h tc .int 64 (fun kk => (.int (f2 kk).2.1))) ∧ (own_A Z h ts .int 64 (fun kk => (.int (f2 kk).2.2))) ∧ (own_heap n f2) ∧ (own_rr n f2 (own_up fe 0 (fe n)))
set_option maxRecDepth 65536 in
set_option maxHeartbeats 40000000 in
theorem rm6 (l : Launch) (Z : State) (a0 : Array Value) (hw : ∀ d ∈ tables_1, d.before a0 Z = true) (ws : List Jvm.Cond) (o0 : Addr) (tr tc ts : Addr) (fe : Nat → own_E) (n : Nat) (h0 : Heap) (n0 : Nat) (Z0 : n0 ≤ h0.size) (F_ranks_o0 : Fld Z h0 o0 "com/example/brisk_maze/briskmaze/search/RankedFrontier" "ranks" "[J" (.ref tr)) (F_costs_o0 : Fld Z h0 o0 "com/example/brisk_maze/briskmaze/search/RankedFrontier" "costs" "[I" (.ref tc)) (F_states_o0 : Fld Z h0 o0 "com/example/brisk_maze/briskmaze/search/RankedFrontier" "states" "[I" (.ref ts)) (E_o0 : Exa Z h0 o0 "com/example/brisk_maze/briskmaze/search/RankedFrontier") (F_size_o0 : Fld Z h0 o0 "com/example/brisk_maze/briskmaze/search/RankedFrontier" "size" "I" (.int ((n + 1).toInt32))) (A_tr : own_A Z h0 tr .long 64 (fun kk => (.long (fe kk).1))) (A_tc : own_A Z h0 tc .int 64 (fun kk => (.int (fe kk).2.1))) (A_ts : own_A Z h0 ts .int 64 (fun kk => (.int (fe kk).2.2))) (g_tr : n0 ≤ tr) (g_tc : n0 ≤ tc) (g_ts : n0 ≤ ts) (g_o0 : n0 ≤ o0) (ne_o0_tr : o0 ≠ tr) (ne_o0_tc : o0 ≠ tc) (ne_o0_ts : o0 ≠ ts) (ne_tr_tc : tr ≠ tc) (ne_tr_ts : tr ≠ ts) (ne_tc_ts : tc ≠ ts) (hn : n < 63) (hH : own_heap (n + 1) fe) :
    MetFree l (⟨"com/example/brisk_maze/briskmaze/search/RankedFrontier", "removeFirst", "()I"⟩ : MethodName) (head1 (Jvm.Cond.code (⟨"com/example/brisk_maze/briskmaze/search/RankedFrontier", "removeFirst", "()I"⟩ : MethodName) prog_53_method_4_code 9 (some .int) :: ws) ({ frames := 2, cells := 0, slots := 0, locals := 40 } : Room)) (fun a U => a = #[(.ref o0)] ∧ Z.Warmed39 U.vm ∧ U.heap = h0) (fun _ _ _ _ _ => True) (fun _ U o U' => ∃ v L, o = .returned v ∧ Q6 Z o0 tr tc ts fe n h0 n0 v U'.heap L ∧ FrameEnd U o U' L ({ frames := 2, cells := 0, slots := 0, locals := 40 } : Room).cells ({ frames := 2, cells := 0, slots := 0, locals := 40 } : Room).slots) := by
  refine MetFree.of_bodySF (plainFor_of_name pn_0) hisR ?_
  intro p e s m args below meth c s₁ Bd hml0 hP hK
  obtain ⟨rfl, hZ, hh⟩ := hP
  have hx := Bd.exec
  have hby := Bd.bytes
  have hml : c.maxLocals = 9 := hml0
  have hown : s.vm.findClass "com/example/brisk_maze/briskmaze/search/RankedFrontier" = some m.cls := findClass_of_methodNamed Bd.named
  have hnm := (name_of_methodNamed Bd.named Bd.method).1
  have X0 : Stand p l e ({ frames := 2, cells := 0, slots := 0, locals := 40 } : Room) s m #[(.ref o0)] below meth c s₁ [] 0 0 := Stand.of_body Bd
  have e0 : s₁.heap = h0 := by rw [← hh, Bd.state]; rfl
  have N0 := Fr.nil n0
  have pre0 : ∀ t, Steps p.tables e below (s₁.setTop (mkF m 0 #[.val (.ref o0), .unset, .unset, .unset, .unset, .unset, .unset, .unset, .unset] [])) t → Steps p.tables e below (s₁.setTop (entryFrame m #[(.ref o0)] 9)) t := fun t k => castTop (ef_6 m o0) k
  obtain ⟨T1, X1, e1, st1⟩ := getF X0 hx hZ hown (host := "") (Or.inl (hw _ (List.mem_of_getElem? (i := 16) rfl))) Via.refl e0 F_states_o0 (g := (mkF m 1 #[.val (.ref o0), .unset, .unset, .unset, .unset, .unset, .unset, .unset, .unset] [(.ref o0)])) rfl rfl (hb hby d6_1)
  have qa2 := A_ts
  obtain ⟨c2, Ar2, Sz2, H2⟩ := qa2
  have hi3 : 0 ≤ ((0 : Int32) : Int32).toInt ∧ ((0 : Int32) : Int32).toInt < (64 : Nat) := (by decide)
  have hl3 : c2.slots[((0 : Int32) : Int32).toNatClampNeg]? = some (.int ((fe ((0 : Int32) : Int32).toNatClampNeg).2.2)) := H2 _ (own_ix hi3)
  obtain ⟨T4, X4, e4, st4⟩ := getF X1 hx hZ hown (host := "") (Or.inl (hw _ (List.mem_of_getElem? (i := 23) rfl))) Via.refl e1 F_size_o0 (g := (mkF m 9 #[.val (.ref o0), .val (.int ((fe ((0 : Int32) : Int32).toNatClampNeg).2.2)), .unset, .unset, .unset, .unset, .unset, .unset, .unset] [(.ref o0), (.ref o0)])) rfl rfl (hb hby d6_9)
  obtain ⟨T5, h5, X5, e5, W5, st5⟩ := putF X4 hx hZ hown (host := "") (Or.inl (hw _ (List.mem_of_getElem? (i := 23) rfl))) Via.refl e4 F_size_o0 E_o0 (Or.inl (hw _ (List.mem_of_getElem? (i := 24) rfl))) (hw _ (List.mem_of_getElem? (i := 2) rfl)) (ty := .int) (by decide) rfl rfl (g := (mkF m 14 #[.val (.ref o0), .val (.int ((fe ((0 : Int32) : Int32).toNatClampNeg).2.2)), .unset, .unset, .unset, .unset, .unset, .unset, .unset] [(.int (((n + 1).toInt32) - (1 : Int32))), (.ref o0)])) rfl rfl (hb hby d6_14)
  have N5 := Fr.snoc X5 N0 g_o0
  have F_size_o0_w5 : Fld Z h5 o0 "com/example/brisk_maze/briskmaze/search/RankedFrontier" "size" "I" (.int (((n + 1).toInt32) - (1 : Int32))) := (F_size_o0).same W5
  have F_ranks_o0_6 : Fld Z h5 o0 "com/example/brisk_maze/briskmaze/search/RankedFrontier" "ranks" "[J" (.ref tr) := (F_ranks_o0).other W5 (Or.inr (slot_ne (Or.inl (hw _ (List.mem_of_getElem? (i := 12) rfl))) (Or.inl (hw _ (List.mem_of_getElem? (i := 24) rfl))) (by decide) (t := (.array .long)) (t' := .int) (by decide) (by decide)))
  have F_costs_o0_6 : Fld Z h5 o0 "com/example/brisk_maze/briskmaze/search/RankedFrontier" "costs" "[I" (.ref tc) := (F_costs_o0).other W5 (Or.inr (slot_ne (Or.inl (hw _ (List.mem_of_getElem? (i := 15) rfl))) (Or.inl (hw _ (List.mem_of_getElem? (i := 24) rfl))) (by decide) (t := (.array .int)) (t' := .int) (by decide) (by decide)))
  have F_states_o0_6 : Fld Z h5 o0 "com/example/brisk_maze/briskmaze/search/RankedFrontier" "states" "[I" (.ref ts) := (F_states_o0).other W5 (Or.inr (slot_ne (Or.inl (hw _ (List.mem_of_getElem? (i := 17) rfl))) (Or.inl (hw _ (List.mem_of_getElem? (i := 24) rfl))) (by decide) (t := (.array .int)) (t' := .int) (by decide) (by decide)))
  have E_o0_6 : Exa Z h5 o0 "com/example/brisk_maze/briskmaze/search/RankedFrontier" := (E_o0).wr W5
  have A_tr_6 : own_A Z h5 tr .long 64 (fun kk => (.long (fe kk).1)) := (A_tr).other W5 (Ne.symm ne_o0_tr)
  have A_tc_6 : own_A Z h5 tc .int 64 (fun kk => (.int (fe kk).2.1)) := (A_tc).other W5 (Ne.symm ne_o0_tc)
  have A_ts_6 : own_A Z h5 ts .int 64 (fun kk => (.int (fe kk).2.2)) := (A_ts).other W5 (Ne.symm ne_o0_ts)
  have SZ7 : h0.size ≤ h5.size := by rw [W5.size]; exact (Nat.le_refl _)
  have ZZ7 : n0 ≤ h5.size := Nat.le_trans Z0 SZ7
  have K8 : Keep h0 h5 [tr, tc, ts, o0] := ((Keep.refl h0 [tr, tc, ts, o0])).wr W5 (Or.inl (List.mem_of_getElem? (i := 3) rfl))
  have Fz9 : Fld Z h5 o0 "com/example/brisk_maze/briskmaze/search/RankedFrontier" "size" "I" (.int (n.toInt32)) := own_dec n ▸ F_size_o0_w5
  obtain ⟨T10, X10, e10, st10⟩ := getF X5 hx hZ hown (host := "") (Or.inl (hw _ (List.mem_of_getElem? (i := 11) rfl))) Via.refl e5 F_ranks_o0_6 (g := (mkF m 18 #[.val (.ref o0), .val (.int ((fe ((0 : Int32) : Int32).toNatClampNeg).2.2)), .unset, .unset, .unset, .unset, .unset, .unset, .unset] [(.ref o0)])) rfl rfl (hb hby d6_18)
  obtain ⟨T11, X11, e11, st11⟩ := getF X10 hx hZ hown (host := "") (Or.inl (hw _ (List.mem_of_getElem? (i := 23) rfl))) Via.refl e10 Fz9 (g := (mkF m 22 #[.val (.ref o0), .val (.int ((fe ((0 : Int32) : Int32).toNatClampNeg).2.2)), .unset, .unset, .unset, .unset, .unset, .unset, .unset] [(.ref o0), (.ref tr)])) rfl rfl (hb hby d6_22)
  have qa12 := A_tr_6
  obtain ⟨c12, Ar12, Sz12, H12⟩ := qa12
  have hi13 : 0 ≤ ((n.toInt32) : Int32).toInt ∧ ((n.toInt32) : Int32).toInt < (64 : Nat) := (own_bd (show n < 64 by omega) (by decide))
  have hl13 : c12.slots[((n.toInt32) : Int32).toNatClampNeg]? = some (.long ((fe ((n.toInt32) : Int32).toNatClampNeg).1)) := H12 _ (own_ix hi13)
  obtain ⟨T14, X14, e14, st14⟩ := getF X11 hx hZ hown (host := "") (Or.inl (hw _ (List.mem_of_getElem? (i := 14) rfl))) Via.refl e11 F_costs_o0_6 (g := (mkF m 28 #[.val (.ref o0), .val (.int ((fe ((0 : Int32) : Int32).toNatClampNeg).2.2)), .val (.long ((fe ((n.toInt32) : Int32).toNatClampNeg).1)), .second, .unset, .unset, .unset, .unset, .unset] [(.ref o0)])) rfl rfl (hb hby d6_28)
  obtain ⟨T15, X15, e15, st15⟩ := getF X14 hx hZ hown (host := "") (Or.inl (hw _ (List.mem_of_getElem? (i := 23) rfl))) Via.refl e14 Fz9 (g := (mkF m 32 #[.val (.ref o0), .val (.int ((fe ((0 : Int32) : Int32).toNatClampNeg).2.2)), .val (.long ((fe ((n.toInt32) : Int32).toNatClampNeg).1)), .second, .unset, .unset, .unset, .unset, .unset] [(.ref o0), (.ref tc)])) rfl rfl (hb hby d6_32)
  have qa16 := A_tc_6
  obtain ⟨c16, Ar16, Sz16, H16⟩ := qa16
  have hi17 : 0 ≤ ((n.toInt32) : Int32).toInt ∧ ((n.toInt32) : Int32).toInt < (64 : Nat) := (own_bd (show n < 64 by omega) (by decide))
  have hl17 : c16.slots[((n.toInt32) : Int32).toNatClampNeg]? = some (.int ((fe ((n.toInt32) : Int32).toNatClampNeg).2.1)) := H16 _ (own_ix hi17)
  obtain ⟨T18, X18, e18, st18⟩ := getF X15 hx hZ hown (host := "") (Or.inl (hw _ (List.mem_of_getElem? (i := 16) rfl))) Via.refl e15 F_states_o0_6 (g := (mkF m 39 #[.val (.ref o0), .val (.int ((fe ((0 : Int32) : Int32).toNatClampNeg).2.2)), .val (.long ((fe ((n.toInt32) : Int32).toNatClampNeg).1)), .second, .val (.int ((fe ((n.toInt32) : Int32).toNatClampNeg).2.1)), .unset, .unset, .unset, .unset] [(.ref o0)])) rfl rfl (hb hby d6_39)
  obtain ⟨T19, X19, e19, st19⟩ := getF X18 hx hZ hown (host := "") (Or.inl (hw _ (List.mem_of_getElem? (i := 23) rfl))) Via.refl e18 Fz9 (g := (mkF m 43 #[.val (.ref o0), .val (.int ((fe ((0 : Int32) : Int32).toNatClampNeg).2.2)), .val (.long ((fe ((n.toInt32) : Int32).toNatClampNeg).1)), .second, .val (.int ((fe ((n.toInt32) : Int32).toNatClampNeg).2.1)), .unset, .unset, .unset, .unset] [(.ref o0), (.ref ts)])) rfl rfl (hb hby d6_43)
  have qa20 := A_ts_6
  obtain ⟨c20, Ar20, Sz20, H20⟩ := qa20
  have hi21 : 0 ≤ ((n.toInt32) : Int32).toInt ∧ ((n.toInt32) : Int32).toInt < (64 : Nat) := (own_bd (show n < 64 by omega) (by decide))
  have hl21 : c20.slots[((n.toInt32) : Int32).toNatClampNeg]? = some (.int ((fe ((n.toInt32) : Int32).toNatClampNeg).2.2)) := H20 _ (own_ix hi21)
  obtain ⟨T22, X22, e22, st22⟩ := getF X19 hx hZ hown (host := "") (Or.inl (hw _ (List.mem_of_getElem? (i := 23) rfl))) Via.refl e19 Fz9 (g := (mkF m 53 #[.val (.ref o0), .val (.int ((fe ((0 : Int32) : Int32).toNatClampNeg).2.2)), .val (.long ((fe ((n.toInt32) : Int32).toNatClampNeg).1)), .second, .val (.int ((fe ((n.toInt32) : Int32).toNatClampNeg).2.1)), .val (.int ((fe ((n.toInt32) : Int32).toNatClampNeg).2.2)), .val (.int (0 : Int32)), .unset, .unset] [(.ref o0)])) rfl rfl (hb hby d6_53)
  have pre23 : ∀ t, Steps p.tables e below (T22.setTop (mkF m 60 #[.val (.ref o0), .val (.int ((fe ((0 : Int32) : Int32).toNatClampNeg).2.2)), .val (.long ((fe ((n.toInt32) : Int32).toNatClampNeg).1)), .second, .val (.int ((fe ((n.toInt32) : Int32).toNatClampNeg).2.1)), .val (.int ((fe ((n.toInt32) : Int32).toNatClampNeg).2.2)), .val (.int (0 : Int32)), .val (.int (((n.toInt32).toUInt32 >>> ((1 : Int32) &&& 31).toUInt32).toInt32)), .unset] [])) t → Steps p.tables e below (s₁.setTop (entryFrame m #[(.ref o0)] 9)) t := fun t k => pre0 t (by
    show Steps p.tables e below (s₁.setTop (mkF m 0 #[.val (.ref o0), .unset, .unset, .unset, .unset, .unset, .unset, .unset, .unset] [])) _
    refine XS.aloadN X0.here hx rfl (hb hby d6_0) rfl rfl ?_
    show Steps p.tables e below (s₁.setTop (mkF m 1 #[.val (.ref o0), .unset, .unset, .unset, .unset, .unset, .unset, .unset, .unset] [(.ref o0)])) _
    refine st1 _ ?_
    show Steps p.tables e below (T1.setTop (mkF m 4 #[.val (.ref o0), .unset, .unset, .unset, .unset, .unset, .unset, .unset, .unset] [(.ref ts)])) _
    refine XS.iconst X1.here hx rfl (hb hby d6_4) ?_
    show Steps p.tables e below (T1.setTop (mkF m 5 #[.val (.ref o0), .unset, .unset, .unset, .unset, .unset, .unset, .unset, .unset] [(.int (0 : Int32)), (.ref ts)])) _
    refine X1.iaload hx (j := (0 : Int32)) (v := (.int ((fe ((0 : Int32) : Int32).toNatClampNeg).2.2))) (by rw [e1]; exact Ar2.1) (State.isArrayOf_alike hZ.alike Ar2.2.1) Ar2.2.2 (own_in Sz2 hi3) hl3 (g := (mkF m 5 #[.val (.ref o0), .unset, .unset, .unset, .unset, .unset, .unset, .unset, .unset] [(.int (0 : Int32)), (.ref ts)])) rfl rfl (hb hby d6_5) _ ?_
    show Steps p.tables e below (T1.setTop (mkF m 6 #[.val (.ref o0), .unset, .unset, .unset, .unset, .unset, .unset, .unset, .unset] [(.int ((fe ((0 : Int32) : Int32).toNatClampNeg).2.2))])) _
    refine XS.istoreN X1.here hx rfl (hb hby d6_6) rfl (l' := #[.val (.ref o0), .val (.int ((fe ((0 : Int32) : Int32).toNatClampNeg).2.2)), .unset, .unset, .unset, .unset, .unset, .unset, .unset]) rfl ?_
    show Steps p.tables e below (T1.setTop (mkF m 7 #[.val (.ref o0), .val (.int ((fe ((0 : Int32) : Int32).toNatClampNeg).2.2)), .unset, .unset, .unset, .unset, .unset, .unset, .unset] [])) _
    refine XS.aloadN X1.here hx rfl (hb hby d6_7) rfl rfl ?_
    show Steps p.tables e below (T1.setTop (mkF m 8 #[.val (.ref o0), .val (.int ((fe ((0 : Int32) : Int32).toNatClampNeg).2.2)), .unset, .unset, .unset, .unset, .unset, .unset, .unset] [(.ref o0)])) _
    refine XS.dup X1.here hx rfl (hb hby d6_8) rfl rfl ?_
    show Steps p.tables e below (T1.setTop (mkF m 9 #[.val (.ref o0), .val (.int ((fe ((0 : Int32) : Int32).toNatClampNeg).2.2)), .unset, .unset, .unset, .unset, .unset, .unset, .unset] [(.ref o0), (.ref o0)])) _
    refine st4 _ ?_
    show Steps p.tables e below (T4.setTop (mkF m 12 #[.val (.ref o0), .val (.int ((fe ((0 : Int32) : Int32).toNatClampNeg).2.2)), .unset, .unset, .unset, .unset, .unset, .unset, .unset] [(.int ((n + 1).toInt32)), (.ref o0)])) _
    refine XS.iconst X4.here hx rfl (hb hby d6_12) ?_
    show Steps p.tables e below (T4.setTop (mkF m 13 #[.val (.ref o0), .val (.int ((fe ((0 : Int32) : Int32).toNatClampNeg).2.2)), .unset, .unset, .unset, .unset, .unset, .unset, .unset] [(.int (1 : Int32)), (.int ((n + 1).toInt32)), (.ref o0)])) _
    refine XS.isub X4.here hx rfl (hb hby d6_13) rfl ?_
    show Steps p.tables e below (T4.setTop (mkF m 14 #[.val (.ref o0), .val (.int ((fe ((0 : Int32) : Int32).toNatClampNeg).2.2)), .unset, .unset, .unset, .unset, .unset, .unset, .unset] [(.int (((n + 1).toInt32) - (1 : Int32))), (.ref o0)])) _
    refine st5 _ ?_
    show Steps p.tables e below (T5.setTop (mkF m 17 #[.val (.ref o0), .val (.int ((fe ((0 : Int32) : Int32).toNatClampNeg).2.2)), .unset, .unset, .unset, .unset, .unset, .unset, .unset] [])) _
    refine XS.aloadN X5.here hx rfl (hb hby d6_17) rfl rfl ?_
    show Steps p.tables e below (T5.setTop (mkF m 18 #[.val (.ref o0), .val (.int ((fe ((0 : Int32) : Int32).toNatClampNeg).2.2)), .unset, .unset, .unset, .unset, .unset, .unset, .unset] [(.ref o0)])) _
    refine st10 _ ?_
    show Steps p.tables e below (T10.setTop (mkF m 21 #[.val (.ref o0), .val (.int ((fe ((0 : Int32) : Int32).toNatClampNeg).2.2)), .unset, .unset, .unset, .unset, .unset, .unset, .unset] [(.ref tr)])) _
    refine XS.aloadN X10.here hx rfl (hb hby d6_21) rfl rfl ?_
    show Steps p.tables e below (T10.setTop (mkF m 22 #[.val (.ref o0), .val (.int ((fe ((0 : Int32) : Int32).toNatClampNeg).2.2)), .unset, .unset, .unset, .unset, .unset, .unset, .unset] [(.ref o0), (.ref tr)])) _
    refine st11 _ ?_
    show Steps p.tables e below (T11.setTop (mkF m 25 #[.val (.ref o0), .val (.int ((fe ((0 : Int32) : Int32).toNatClampNeg).2.2)), .unset, .unset, .unset, .unset, .unset, .unset, .unset] [(.int (n.toInt32)), (.ref tr)])) _
    refine X11.laload hx (j := (n.toInt32)) (v := (.long ((fe ((n.toInt32) : Int32).toNatClampNeg).1))) (by rw [e11]; exact Ar12.1) (State.isArrayOf_alike hZ.alike Ar12.2.1) Ar12.2.2 (own_in Sz12 hi13) hl13 (g := (mkF m 25 #[.val (.ref o0), .val (.int ((fe ((0 : Int32) : Int32).toNatClampNeg).2.2)), .unset, .unset, .unset, .unset, .unset, .unset, .unset] [(.int (n.toInt32)), (.ref tr)])) rfl rfl (hb hby d6_25) _ ?_
    show Steps p.tables e below (T11.setTop (mkF m 26 #[.val (.ref o0), .val (.int ((fe ((0 : Int32) : Int32).toNatClampNeg).2.2)), .unset, .unset, .unset, .unset, .unset, .unset, .unset] [(.long ((fe ((n.toInt32) : Int32).toNatClampNeg).1))])) _
    refine XS.lstoreN X11.here hx rfl (hb hby d6_26) rfl (l' := #[.val (.ref o0), .val (.int ((fe ((0 : Int32) : Int32).toNatClampNeg).2.2)), .val (.long ((fe ((n.toInt32) : Int32).toNatClampNeg).1)), .second, .unset, .unset, .unset, .unset, .unset]) rfl ?_
    show Steps p.tables e below (T11.setTop (mkF m 27 #[.val (.ref o0), .val (.int ((fe ((0 : Int32) : Int32).toNatClampNeg).2.2)), .val (.long ((fe ((n.toInt32) : Int32).toNatClampNeg).1)), .second, .unset, .unset, .unset, .unset, .unset] [])) _
    refine XS.aloadN X11.here hx rfl (hb hby d6_27) rfl rfl ?_
    show Steps p.tables e below (T11.setTop (mkF m 28 #[.val (.ref o0), .val (.int ((fe ((0 : Int32) : Int32).toNatClampNeg).2.2)), .val (.long ((fe ((n.toInt32) : Int32).toNatClampNeg).1)), .second, .unset, .unset, .unset, .unset, .unset] [(.ref o0)])) _
    refine st14 _ ?_
    show Steps p.tables e below (T14.setTop (mkF m 31 #[.val (.ref o0), .val (.int ((fe ((0 : Int32) : Int32).toNatClampNeg).2.2)), .val (.long ((fe ((n.toInt32) : Int32).toNatClampNeg).1)), .second, .unset, .unset, .unset, .unset, .unset] [(.ref tc)])) _
    refine XS.aloadN X14.here hx rfl (hb hby d6_31) rfl rfl ?_
    show Steps p.tables e below (T14.setTop (mkF m 32 #[.val (.ref o0), .val (.int ((fe ((0 : Int32) : Int32).toNatClampNeg).2.2)), .val (.long ((fe ((n.toInt32) : Int32).toNatClampNeg).1)), .second, .unset, .unset, .unset, .unset, .unset] [(.ref o0), (.ref tc)])) _
    refine st15 _ ?_
    show Steps p.tables e below (T15.setTop (mkF m 35 #[.val (.ref o0), .val (.int ((fe ((0 : Int32) : Int32).toNatClampNeg).2.2)), .val (.long ((fe ((n.toInt32) : Int32).toNatClampNeg).1)), .second, .unset, .unset, .unset, .unset, .unset] [(.int (n.toInt32)), (.ref tc)])) _
    refine X15.iaload hx (j := (n.toInt32)) (v := (.int ((fe ((n.toInt32) : Int32).toNatClampNeg).2.1))) (by rw [e15]; exact Ar16.1) (State.isArrayOf_alike hZ.alike Ar16.2.1) Ar16.2.2 (own_in Sz16 hi17) hl17 (g := (mkF m 35 #[.val (.ref o0), .val (.int ((fe ((0 : Int32) : Int32).toNatClampNeg).2.2)), .val (.long ((fe ((n.toInt32) : Int32).toNatClampNeg).1)), .second, .unset, .unset, .unset, .unset, .unset] [(.int (n.toInt32)), (.ref tc)])) rfl rfl (hb hby d6_35) _ ?_
    show Steps p.tables e below (T15.setTop (mkF m 36 #[.val (.ref o0), .val (.int ((fe ((0 : Int32) : Int32).toNatClampNeg).2.2)), .val (.long ((fe ((n.toInt32) : Int32).toNatClampNeg).1)), .second, .unset, .unset, .unset, .unset, .unset] [(.int ((fe ((n.toInt32) : Int32).toNatClampNeg).2.1))])) _
    refine XS.istore X15.here hx rfl (hb hby d6_36) rfl (l' := #[.val (.ref o0), .val (.int ((fe ((0 : Int32) : Int32).toNatClampNeg).2.2)), .val (.long ((fe ((n.toInt32) : Int32).toNatClampNeg).1)), .second, .val (.int ((fe ((n.toInt32) : Int32).toNatClampNeg).2.1)), .unset, .unset, .unset, .unset]) rfl ?_
    show Steps p.tables e below (T15.setTop (mkF m 38 #[.val (.ref o0), .val (.int ((fe ((0 : Int32) : Int32).toNatClampNeg).2.2)), .val (.long ((fe ((n.toInt32) : Int32).toNatClampNeg).1)), .second, .val (.int ((fe ((n.toInt32) : Int32).toNatClampNeg).2.1)), .unset, .unset, .unset, .unset] [])) _
    refine XS.aloadN X15.here hx rfl (hb hby d6_38) rfl rfl ?_
    show Steps p.tables e below (T15.setTop (mkF m 39 #[.val (.ref o0), .val (.int ((fe ((0 : Int32) : Int32).toNatClampNeg).2.2)), .val (.long ((fe ((n.toInt32) : Int32).toNatClampNeg).1)), .second, .val (.int ((fe ((n.toInt32) : Int32).toNatClampNeg).2.1)), .unset, .unset, .unset, .unset] [(.ref o0)])) _
    refine st18 _ ?_
    show Steps p.tables e below (T18.setTop (mkF m 42 #[.val (.ref o0), .val (.int ((fe ((0 : Int32) : Int32).toNatClampNeg).2.2)), .val (.long ((fe ((n.toInt32) : Int32).toNatClampNeg).1)), .second, .val (.int ((fe ((n.toInt32) : Int32).toNatClampNeg).2.1)), .unset, .unset, .unset, .unset] [(.ref ts)])) _
    refine XS.aloadN X18.here hx rfl (hb hby d6_42) rfl rfl ?_
    show Steps p.tables e below (T18.setTop (mkF m 43 #[.val (.ref o0), .val (.int ((fe ((0 : Int32) : Int32).toNatClampNeg).2.2)), .val (.long ((fe ((n.toInt32) : Int32).toNatClampNeg).1)), .second, .val (.int ((fe ((n.toInt32) : Int32).toNatClampNeg).2.1)), .unset, .unset, .unset, .unset] [(.ref o0), (.ref ts)])) _
    refine st19 _ ?_
    show Steps p.tables e below (T19.setTop (mkF m 46 #[.val (.ref o0), .val (.int ((fe ((0 : Int32) : Int32).toNatClampNeg).2.2)), .val (.long ((fe ((n.toInt32) : Int32).toNatClampNeg).1)), .second, .val (.int ((fe ((n.toInt32) : Int32).toNatClampNeg).2.1)), .unset, .unset, .unset, .unset] [(.int (n.toInt32)), (.ref ts)])) _
    refine X19.iaload hx (j := (n.toInt32)) (v := (.int ((fe ((n.toInt32) : Int32).toNatClampNeg).2.2))) (by rw [e19]; exact Ar20.1) (State.isArrayOf_alike hZ.alike Ar20.2.1) Ar20.2.2 (own_in Sz20 hi21) hl21 (g := (mkF m 46 #[.val (.ref o0), .val (.int ((fe ((0 : Int32) : Int32).toNatClampNeg).2.2)), .val (.long ((fe ((n.toInt32) : Int32).toNatClampNeg).1)), .second, .val (.int ((fe ((n.toInt32) : Int32).toNatClampNeg).2.1)), .unset, .unset, .unset, .unset] [(.int (n.toInt32)), (.ref ts)])) rfl rfl (hb hby d6_46) _ ?_
    show Steps p.tables e below (T19.setTop (mkF m 47 #[.val (.ref o0), .val (.int ((fe ((0 : Int32) : Int32).toNatClampNeg).2.2)), .val (.long ((fe ((n.toInt32) : Int32).toNatClampNeg).1)), .second, .val (.int ((fe ((n.toInt32) : Int32).toNatClampNeg).2.1)), .unset, .unset, .unset, .unset] [(.int ((fe ((n.toInt32) : Int32).toNatClampNeg).2.2))])) _
    refine XS.istore X19.here hx rfl (hb hby d6_47) rfl (l' := #[.val (.ref o0), .val (.int ((fe ((0 : Int32) : Int32).toNatClampNeg).2.2)), .val (.long ((fe ((n.toInt32) : Int32).toNatClampNeg).1)), .second, .val (.int ((fe ((n.toInt32) : Int32).toNatClampNeg).2.1)), .val (.int ((fe ((n.toInt32) : Int32).toNatClampNeg).2.2)), .unset, .unset, .unset]) rfl ?_
    show Steps p.tables e below (T19.setTop (mkF m 49 #[.val (.ref o0), .val (.int ((fe ((0 : Int32) : Int32).toNatClampNeg).2.2)), .val (.long ((fe ((n.toInt32) : Int32).toNatClampNeg).1)), .second, .val (.int ((fe ((n.toInt32) : Int32).toNatClampNeg).2.1)), .val (.int ((fe ((n.toInt32) : Int32).toNatClampNeg).2.2)), .unset, .unset, .unset] [])) _
    refine XS.iconst X19.here hx rfl (hb hby d6_49) ?_
    show Steps p.tables e below (T19.setTop (mkF m 50 #[.val (.ref o0), .val (.int ((fe ((0 : Int32) : Int32).toNatClampNeg).2.2)), .val (.long ((fe ((n.toInt32) : Int32).toNatClampNeg).1)), .second, .val (.int ((fe ((n.toInt32) : Int32).toNatClampNeg).2.1)), .val (.int ((fe ((n.toInt32) : Int32).toNatClampNeg).2.2)), .unset, .unset, .unset] [(.int (0 : Int32))])) _
    refine XS.istore X19.here hx rfl (hb hby d6_50) rfl (l' := #[.val (.ref o0), .val (.int ((fe ((0 : Int32) : Int32).toNatClampNeg).2.2)), .val (.long ((fe ((n.toInt32) : Int32).toNatClampNeg).1)), .second, .val (.int ((fe ((n.toInt32) : Int32).toNatClampNeg).2.1)), .val (.int ((fe ((n.toInt32) : Int32).toNatClampNeg).2.2)), .val (.int (0 : Int32)), .unset, .unset]) rfl ?_
    show Steps p.tables e below (T19.setTop (mkF m 52 #[.val (.ref o0), .val (.int ((fe ((0 : Int32) : Int32).toNatClampNeg).2.2)), .val (.long ((fe ((n.toInt32) : Int32).toNatClampNeg).1)), .second, .val (.int ((fe ((n.toInt32) : Int32).toNatClampNeg).2.1)), .val (.int ((fe ((n.toInt32) : Int32).toNatClampNeg).2.2)), .val (.int (0 : Int32)), .unset, .unset] [])) _
    refine XS.aloadN X19.here hx rfl (hb hby d6_52) rfl rfl ?_
    show Steps p.tables e below (T19.setTop (mkF m 53 #[.val (.ref o0), .val (.int ((fe ((0 : Int32) : Int32).toNatClampNeg).2.2)), .val (.long ((fe ((n.toInt32) : Int32).toNatClampNeg).1)), .second, .val (.int ((fe ((n.toInt32) : Int32).toNatClampNeg).2.1)), .val (.int ((fe ((n.toInt32) : Int32).toNatClampNeg).2.2)), .val (.int (0 : Int32)), .unset, .unset] [(.ref o0)])) _
    refine st22 _ ?_
    show Steps p.tables e below (T22.setTop (mkF m 56 #[.val (.ref o0), .val (.int ((fe ((0 : Int32) : Int32).toNatClampNeg).2.2)), .val (.long ((fe ((n.toInt32) : Int32).toNatClampNeg).1)), .second, .val (.int ((fe ((n.toInt32) : Int32).toNatClampNeg).2.1)), .val (.int ((fe ((n.toInt32) : Int32).toNatClampNeg).2.2)), .val (.int (0 : Int32)), .unset, .unset] [(.int (n.toInt32))])) _
    refine XS.iconst X22.here hx rfl (hb hby d6_56) ?_
    show Steps p.tables e below (T22.setTop (mkF m 57 #[.val (.ref o0), .val (.int ((fe ((0 : Int32) : Int32).toNatClampNeg).2.2)), .val (.long ((fe ((n.toInt32) : Int32).toNatClampNeg).1)), .second, .val (.int ((fe ((n.toInt32) : Int32).toNatClampNeg).2.1)), .val (.int ((fe ((n.toInt32) : Int32).toNatClampNeg).2.2)), .val (.int (0 : Int32)), .unset, .unset] [(.int (1 : Int32)), (.int (n.toInt32))])) _
    refine XS.iushr X22.here hx rfl (hb hby d6_57) rfl ?_
    show Steps p.tables e below (T22.setTop (mkF m 58 #[.val (.ref o0), .val (.int ((fe ((0 : Int32) : Int32).toNatClampNeg).2.2)), .val (.long ((fe ((n.toInt32) : Int32).toNatClampNeg).1)), .second, .val (.int ((fe ((n.toInt32) : Int32).toNatClampNeg).2.1)), .val (.int ((fe ((n.toInt32) : Int32).toNatClampNeg).2.2)), .val (.int (0 : Int32)), .unset, .unset] [(.int (((n.toInt32).toUInt32 >>> ((1 : Int32) &&& 31).toUInt32).toInt32))])) _
    refine XS.istore X22.here hx rfl (hb hby d6_58) rfl (l' := #[.val (.ref o0), .val (.int ((fe ((0 : Int32) : Int32).toNatClampNeg).2.2)), .val (.long ((fe ((n.toInt32) : Int32).toNatClampNeg).1)), .second, .val (.int ((fe ((n.toInt32) : Int32).toNatClampNeg).2.1)), .val (.int ((fe ((n.toInt32) : Int32).toNatClampNeg).2.2)), .val (.int (0 : Int32)), .val (.int (((n.toInt32).toUInt32 >>> ((1 : Int32) &&& 31).toUInt32).toInt32)), .unset]) rfl ?_
    show Steps p.tables e below (T22.setTop (mkF m 60 #[.val (.ref o0), .val (.int ((fe ((0 : Int32) : Int32).toNatClampNeg).2.2)), .val (.long ((fe ((n.toInt32) : Int32).toNatClampNeg).1)), .second, .val (.int ((fe ((n.toInt32) : Int32).toNatClampNeg).2.1)), .val (.int ((fe ((n.toInt32) : Int32).toNatClampNeg).2.2)), .val (.int (0 : Int32)), .val (.int (((n.toInt32).toUInt32 >>> ((1 : Int32) &&& 31).toUInt32).toInt32)), .unset] [])) _
    exact k)
  have hre24 : (((n.toInt32).toUInt32 >>> ((1 : Int32) &&& 31).toUInt32).toInt32) = ((n / 2).toInt32) := own_half64 ⟨n, by omega⟩
  have pre24 : ∀ t, Steps p.tables e below (T22.setTop (mkF m 60 #[.val (.ref o0), .val (.int ((fe ((0 : Int32) : Int32).toNatClampNeg).2.2)), .val (.long ((fe ((n.toInt32) : Int32).toNatClampNeg).1)), .second, .val (.int ((fe ((n.toInt32) : Int32).toNatClampNeg).2.1)), .val (.int ((fe ((n.toInt32) : Int32).toNatClampNeg).2.2)), .val (.int (0 : Int32)), .val (.int ((n / 2).toInt32)), .unset] [])) t → Steps p.tables e below (s₁.setTop (entryFrame m #[(.ref o0)] 9)) t := fun t k => pre23 t (by rw [hre24]; exact k)
  have htn : (n.toInt32 : Int32).toNatClampNeg = n := own_tn (by omega)
  have hst : (n = 0 ∧ 0 = 0) ∨ own_dnI n 0 (own_up fe 0 (fe n)) fe (((fe ((n.toInt32) : Int32).toNatClampNeg).1), ((fe ((n.toInt32) : Int32).toNatClampNeg).2.1), ((fe ((n.toInt32) : Int32).toNatClampNeg).2.2)) := by
    rw [htn]
    rcases Nat.eq_zero_or_pos n with q | q
    · exact Or.inl ⟨q, rfl⟩
    · exact Or.inr (own_dn_start hH q _)
  obtain ⟨T25, h25, L25, i25, f25, s25, X25, e25, N25, Kc25, Pa25, Pb25, Pc25, hi25, hh25, st25⟩ := loop_rem o0 tr tc ts ((fe ((0 : Int32) : Int32).toNatClampNeg).2.2) ((fe ((n.toInt32) : Int32).toNatClampNeg).1) ((fe ((n.toInt32) : Int32).toNatClampNeg).2.1) ((fe ((n.toInt32) : Int32).toNatClampNeg).2.2) n hn (own_up fe 0 (fe n)) n0 g_tr g_tc g_ts ne_o0_tr ne_o0_tc ne_o0_ts ne_tr_tc ne_tr_ts ne_tc_ts hx hZ hw hby hml hown _ 0 fe .unset _ _ _ rfl One.u hst X22 e22 N5 ZZ7 F_ranks_o0_6 F_costs_o0_6 F_states_o0_6 E_o0_6 Fz9 A_tr_6 A_tc_6 A_ts_6
  have F_ranks_o0_26 : Fld Z h25 o0 "com/example/brisk_maze/briskmaze/search/RankedFrontier" "ranks" "[J" (.ref tr) := (F_ranks_o0_6).keep Kc25 (ninS ne_o0_tr (ninS ne_o0_tc (ninS ne_o0_ts nin0)))
  have F_costs_o0_26 : Fld Z h25 o0 "com/example/brisk_maze/briskmaze/search/RankedFrontier" "costs" "[I" (.ref tc) := (F_costs_o0_6).keep Kc25 (ninS ne_o0_tr (ninS ne_o0_tc (ninS ne_o0_ts nin0)))
  have F_states_o0_26 : Fld Z h25 o0 "com/example/brisk_maze/briskmaze/search/RankedFrontier" "states" "[I" (.ref ts) := (F_states_o0_6).keep Kc25 (ninS ne_o0_tr (ninS ne_o0_tc (ninS ne_o0_ts nin0)))
  have E_o0_26 : Exa Z h25 o0 "com/example/brisk_maze/briskmaze/search/RankedFrontier" := (E_o0_6).keep Kc25
  have F_size_o0_26 : Fld Z h25 o0 "com/example/brisk_maze/briskmaze/search/RankedFrontier" "size" "I" (.int (n.toInt32)) := (Fz9).keep Kc25 (ninS ne_o0_tr (ninS ne_o0_tc (ninS ne_o0_ts nin0)))
  have SZ27 : h0.size ≤ h25.size := Nat.le_trans SZ7 Kc25.1
  have ZZ27 : n0 ≤ h25.size := Nat.le_trans Z0 SZ27
  have K28 : Keep h0 h25 [tr, tc, ts, o0] := (K8).trans Kc25 (allS (Or.inl (List.mem_of_getElem? (i := 0) rfl)) (allS (Or.inl (List.mem_of_getElem? (i := 1) rfl)) (allS (Or.inl (List.mem_of_getElem? (i := 2) rfl)) all0)))
  obtain ⟨cq29, q29, q29'⟩ := (E_o0_26).cell
  obtain ⟨_, _, ⟨T29, L29, k29, n29⟩, -, X29, ⟨Lc29, hQ29, l29, y29, z29⟩, st29⟩ := X25.privateBack hx (y := (⟨"com/example/brisk_maze/briskmaze/search/RankedFrontier", "place", "(IJII)V"⟩ : MethodName)) hown (mvT hZ (hw _ (List.mem_of_getElem? (i := 30) rfl))) (mvT hZ (hw _ (List.mem_of_getElem? (i := 31) rfl))) (own_selp (y := (⟨"com/example/brisk_maze/briskmaze/search/RankedFrontier", "place", "(IJII)V"⟩ : MethodName)) (mvT hZ (hw _ (List.mem_of_getElem? (i := 2) rfl))) (Cond.privateMethod_at (mvP hZ (hw _ (List.mem_of_getElem? (i := 32) rfl)) (args := #[]))) (mvT hZ (hw _ (List.mem_of_getElem? (i := 31) rfl))) (by decide)) (Cond.privateMethod_at (mvP hZ (hw _ (List.mem_of_getElem? (i := 32) rfl)) (args := #[]))) (mvT hZ (hw _ (List.mem_of_getElem? (i := 33) rfl))) (by decide) (backOf (W := 0) (rm5 l Z a0 hw [] o0 (i25.toInt32) ((fe ((n.toInt32) : Int32).toNatClampNeg).1) ((fe ((n.toInt32) : Int32).toNatClampNeg).2.1) ((fe ((n.toInt32) : Int32).toNatClampNeg).2.2) tr tc ts f25 h25 n0 ZZ27 F_ranks_o0_26 F_costs_o0_26 F_states_o0_26 Pa25 Pb25 Pc25 g_tr g_tc g_ts ne_o0_tr ne_o0_tc ne_o0_ts ne_tr_tc ne_tr_ts ne_tc_ts (own_bd (show i25 < 64 from hi25) (by decide))) hZ (hw _ (List.mem_of_getElem? (i := 33) rfl)) (hw _ (List.mem_of_getElem? (i := 3) rfl)) (by decide) (by decide)) (g := (mkF m 165 #[.val (.ref o0), .val (.int ((fe ((0 : Int32) : Int32).toNatClampNeg).2.2)), .val (.long ((fe ((n.toInt32) : Int32).toNatClampNeg).1)), .second, .val (.int ((fe ((n.toInt32) : Int32).toNatClampNeg).2.1)), .val (.int ((fe ((n.toInt32) : Int32).toNatClampNeg).2.2)), .val (.int (i25.toInt32)), .val (.int ((n / 2).toInt32)), s25] [(.int ((fe ((n.toInt32) : Int32).toNatClampNeg).2.2)), (.int ((fe ((n.toInt32) : Int32).toNatClampNeg).2.1)), (.long ((fe ((n.toInt32) : Int32).toNatClampNeg).1)), (.int (i25.toInt32)), (.ref o0)])) rfl (by rw [hml]; rfl) (Steps.refl _) (a := o0) (by rw [e25]; exact q29) q29' (argsL := [(.int (i25.toInt32)), (.long ((fe ((n.toInt32) : Int32).toNatClampNeg).1)), (.int ((fe ((n.toInt32) : Int32).toNatClampNeg).2.1)), (.int ((fe ((n.toInt32) : Int32).toNatClampNeg).2.2))]) (rest := []) (lenOf pd_1 rfl) rfl (by show 2 * 0 + _ ≤ _; exact Nat.le_of_eq rfl) (hb hby d6_165) (fun _ _ => ⟨rfl, e25, (by decide : 0 + 0 ≤ _), (by decide : 0 + 0 ≤ _)⟩)
  dsimp only [Pt.U, Pt.locs, Pt.cells, Pt.slots] at X29 l29 y29 z29 st29 hQ29
  subst l29 y29 z29
  obtain ⟨rfl, N29q, Kc29, P29_0, P29_1, P29_2⟩ := hQ29
  have N29 := Fr.app N25 N29q
  have F_ranks_o0_30 : Fld Z T29.heap o0 "com/example/brisk_maze/briskmaze/search/RankedFrontier" "ranks" "[J" (.ref tr) := (F_ranks_o0_26).keep Kc29 (ninS ne_o0_tr (ninS ne_o0_tc (ninS ne_o0_ts nin0)))
  have F_costs_o0_30 : Fld Z T29.heap o0 "com/example/brisk_maze/briskmaze/search/RankedFrontier" "costs" "[I" (.ref tc) := (F_costs_o0_26).keep Kc29 (ninS ne_o0_tr (ninS ne_o0_tc (ninS ne_o0_ts nin0)))
  have F_states_o0_30 : Fld Z T29.heap o0 "com/example/brisk_maze/briskmaze/search/RankedFrontier" "states" "[I" (.ref ts) := (F_states_o0_26).keep Kc29 (ninS ne_o0_tr (ninS ne_o0_tc (ninS ne_o0_ts nin0)))
  have E_o0_30 : Exa Z T29.heap o0 "com/example/brisk_maze/briskmaze/search/RankedFrontier" := (E_o0_26).keep Kc29
  have F_size_o0_30 : Fld Z T29.heap o0 "com/example/brisk_maze/briskmaze/search/RankedFrontier" "size" "I" (.int (n.toInt32)) := (F_size_o0_26).keep Kc29 (ninS ne_o0_tr (ninS ne_o0_tc (ninS ne_o0_ts nin0)))
  have SZ31 : h0.size ≤ T29.heap.size := Nat.le_trans SZ27 Kc29.1
  have ZZ31 : n0 ≤ T29.heap.size := Nat.le_trans Z0 SZ31
  have K32 : Keep h0 T29.heap [tr, tc, ts, o0] := (K28).trans Kc29 (allS (Or.inl (List.mem_of_getElem? (i := 0) rfl)) (allS (Or.inl (List.mem_of_getElem? (i := 1) rfl)) (allS (Or.inl (List.mem_of_getElem? (i := 2) rfl)) all0)))
  have hfin25 : own_heap n (own_up f25 ((i25.toInt32) : Int32).toNatClampNeg (((fe ((n.toInt32) : Int32).toNatClampNeg).1), ((fe ((n.toInt32) : Int32).toNatClampNeg).2.1), ((fe ((n.toInt32) : Int32).toNatClampNeg).2.2))) ∧ own_rr n (own_up f25 ((i25.toInt32) : Int32).toNatClampNeg (((fe ((n.toInt32) : Int32).toNatClampNeg).1), ((fe ((n.toInt32) : Int32).toNatClampNeg).2.1), ((fe ((n.toInt32) : Int32).toNatClampNeg).2.2))) (own_up fe 0 (fe n)) := by rw [own_tn (show i25 < 2147483648 by omega)]; exact hh25
  have pre33 : ∀ t, Steps p.tables e below (T29.setTop (mkF m 169 #[.val (.ref o0), .val (.int ((fe ((0 : Int32) : Int32).toNatClampNeg).2.2)), .val (.long ((fe ((n.toInt32) : Int32).toNatClampNeg).1)), .second, .val (.int ((fe ((n.toInt32) : Int32).toNatClampNeg).2.1)), .val (.int ((fe ((n.toInt32) : Int32).toNatClampNeg).2.2)), .val (.int (i25.toInt32)), .val (.int ((n / 2).toInt32)), s25] [(.int ((fe ((0 : Int32) : Int32).toNatClampNeg).2.2))])) t → Steps p.tables e below (s₁.setTop (entryFrame m #[(.ref o0)] 9)) t := fun t k => pre24 t (by
    show Steps p.tables e below (T22.setTop (mkF m 60 #[.val (.ref o0), .val (.int ((fe ((0 : Int32) : Int32).toNatClampNeg).2.2)), .val (.long ((fe ((n.toInt32) : Int32).toNatClampNeg).1)), .second, .val (.int ((fe ((n.toInt32) : Int32).toNatClampNeg).2.1)), .val (.int ((fe ((n.toInt32) : Int32).toNatClampNeg).2.2)), .val (.int (0 : Int32)), .val (.int ((n / 2).toInt32)), .unset] [])) _
    refine st25 _ ?_
    show Steps p.tables e below (T25.setTop (mkF m 157 #[.val (.ref o0), .val (.int ((fe ((0 : Int32) : Int32).toNatClampNeg).2.2)), .val (.long ((fe ((n.toInt32) : Int32).toNatClampNeg).1)), .second, .val (.int ((fe ((n.toInt32) : Int32).toNatClampNeg).2.1)), .val (.int ((fe ((n.toInt32) : Int32).toNatClampNeg).2.2)), .val (.int (i25.toInt32)), .val (.int ((n / 2).toInt32)), s25] [])) _
    refine XS.aloadN X25.here hx rfl (hb hby d6_157) rfl rfl ?_
    show Steps p.tables e below (T25.setTop (mkF m 158 #[.val (.ref o0), .val (.int ((fe ((0 : Int32) : Int32).toNatClampNeg).2.2)), .val (.long ((fe ((n.toInt32) : Int32).toNatClampNeg).1)), .second, .val (.int ((fe ((n.toInt32) : Int32).toNatClampNeg).2.1)), .val (.int ((fe ((n.toInt32) : Int32).toNatClampNeg).2.2)), .val (.int (i25.toInt32)), .val (.int ((n / 2).toInt32)), s25] [(.ref o0)])) _
    refine XS.iload X25.here hx rfl (hb hby d6_158) rfl ?_
    show Steps p.tables e below (T25.setTop (mkF m 160 #[.val (.ref o0), .val (.int ((fe ((0 : Int32) : Int32).toNatClampNeg).2.2)), .val (.long ((fe ((n.toInt32) : Int32).toNatClampNeg).1)), .second, .val (.int ((fe ((n.toInt32) : Int32).toNatClampNeg).2.1)), .val (.int ((fe ((n.toInt32) : Int32).toNatClampNeg).2.2)), .val (.int (i25.toInt32)), .val (.int ((n / 2).toInt32)), s25] [(.int (i25.toInt32)), (.ref o0)])) _
    refine XS.lloadN X25.here hx rfl (hb hby d6_160) rfl ?_
    show Steps p.tables e below (T25.setTop (mkF m 161 #[.val (.ref o0), .val (.int ((fe ((0 : Int32) : Int32).toNatClampNeg).2.2)), .val (.long ((fe ((n.toInt32) : Int32).toNatClampNeg).1)), .second, .val (.int ((fe ((n.toInt32) : Int32).toNatClampNeg).2.1)), .val (.int ((fe ((n.toInt32) : Int32).toNatClampNeg).2.2)), .val (.int (i25.toInt32)), .val (.int ((n / 2).toInt32)), s25] [(.long ((fe ((n.toInt32) : Int32).toNatClampNeg).1)), (.int (i25.toInt32)), (.ref o0)])) _
    refine XS.iload X25.here hx rfl (hb hby d6_161) rfl ?_
    show Steps p.tables e below (T25.setTop (mkF m 163 #[.val (.ref o0), .val (.int ((fe ((0 : Int32) : Int32).toNatClampNeg).2.2)), .val (.long ((fe ((n.toInt32) : Int32).toNatClampNeg).1)), .second, .val (.int ((fe ((n.toInt32) : Int32).toNatClampNeg).2.1)), .val (.int ((fe ((n.toInt32) : Int32).toNatClampNeg).2.2)), .val (.int (i25.toInt32)), .val (.int ((n / 2).toInt32)), s25] [(.int ((fe ((n.toInt32) : Int32).toNatClampNeg).2.1)), (.long ((fe ((n.toInt32) : Int32).toNatClampNeg).1)), (.int (i25.toInt32)), (.ref o0)])) _
    refine XS.iload X25.here hx rfl (hb hby d6_163) rfl ?_
    show Steps p.tables e below (T25.setTop (mkF m 165 #[.val (.ref o0), .val (.int ((fe ((0 : Int32) : Int32).toNatClampNeg).2.2)), .val (.long ((fe ((n.toInt32) : Int32).toNatClampNeg).1)), .second, .val (.int ((fe ((n.toInt32) : Int32).toNatClampNeg).2.1)), .val (.int ((fe ((n.toInt32) : Int32).toNatClampNeg).2.2)), .val (.int (i25.toInt32)), .val (.int ((n / 2).toInt32)), s25] [(.int ((fe ((n.toInt32) : Int32).toNatClampNeg).2.2)), (.int ((fe ((n.toInt32) : Int32).toNatClampNeg).2.1)), (.long ((fe ((n.toInt32) : Int32).toNatClampNeg).1)), (.int (i25.toInt32)), (.ref o0)])) _
    refine st29.trans ?_
    show Steps p.tables e below (T29.setTop (mkF m 168 #[.val (.ref o0), .val (.int ((fe ((0 : Int32) : Int32).toNatClampNeg).2.2)), .val (.long ((fe ((n.toInt32) : Int32).toNatClampNeg).1)), .second, .val (.int ((fe ((n.toInt32) : Int32).toNatClampNeg).2.1)), .val (.int ((fe ((n.toInt32) : Int32).toNatClampNeg).2.2)), .val (.int (i25.toInt32)), .val (.int ((n / 2).toInt32)), s25] [])) _
    refine XS.iloadN X29.here hx rfl (hb hby d6_168) rfl ?_
    show Steps p.tables e below (T29.setTop (mkF m 169 #[.val (.ref o0), .val (.int ((fe ((0 : Int32) : Int32).toNatClampNeg).2.2)), .val (.long ((fe ((n.toInt32) : Int32).toNatClampNeg).1)), .second, .val (.int ((fe ((n.toInt32) : Int32).toNatClampNeg).2.1)), .val (.int ((fe ((n.toInt32) : Int32).toNatClampNeg).2.2)), .val (.int (i25.toInt32)), .val (.int ((n / 2).toInt32)), s25] [(.int ((fe ((0 : Int32) : Int32).toNatClampNeg).2.2))])) _
    exact k)
  obtain ⟨fs, hr, hrun, hended, hW, hsame⟩ := X29.leave (v := some (.int ((fe ((0 : Int32) : Int32).toNatClampNeg).2.2))) (fun h => by rw [Bd.returns] at h; cases h)
  refine ⟨_, _, pre33 _ ?_, hrun, hended, _, _, rfl, ?_, ⟨_, rfl⟩, hW, hsame.mono (by decide) (by decide)⟩
  · exact retI X29 hx Bd.returns (hb hby d6_169) hr
  · show Q6 Z o0 tr tc ts fe n h0 n0 _ T29.heap _
    skip
    exact ⟨(own_up f25 ((i25.toInt32) : Int32).toNatClampNeg (((fe ((n.toInt32) : Int32).toNatClampNeg).1), ((fe ((n.toInt32) : Int32).toNatClampNeg).2.1), ((fe ((n.toInt32) : Int32).toNatClampNeg).2.2))), rfl, N29, K32, F_size_o0_30, F_ranks_o0_30, F_costs_o0_30, F_states_o0_30, P29_0, P29_1, P29_2, hfin25.1, hfin25.2⟩
theorem pn_1 : plainName "com/example/brisk_maze/briskmaze/search/RankedFrontierIsEmptyPinLaw" = true := by first | (simp [plainName, overriddenIn]; done) | decide +kernel
theorem pd_4 : parseMethodDescriptor "()V" = some ⟨[], none⟩ := by decide +kernel
theorem pd_5 : parseMethodDescriptor "()Z" = some ⟨[], some .boolean⟩ := by decide +kernel
theorem pd_6 : parseMethodDescriptor "(IJI)V" = some ⟨[.int, .long, .int], none⟩ := by decide +kernel
theorem pd_7 : parseMethodDescriptor "()I" = some ⟨[], some .int⟩ := by decide +kernel
theorem ef_0 (m : MethodId) (p0 : Int32) (q1 : Int64) (p2 : Int32) (p3 : Int32) (p4 : Int32) (q5 : Int64) : entryFrame m #[(.int p0), (.long q1), (.int p2), (.int p3), (.int p4), (.long q5)] maxLocals = mkF m 0 #[.val (.int p0), .val (.long q1), .second, .val (.int p2), .val (.int p3), .val (.int p4), .val (.long q5), .second, .unset, .unset, .unset, .unset, .unset, .unset] [] := by first | (simp [entryFrame, mkF, argsToLocals, Value.category, maxLocals]; done) | rfl

theorem own_k4 (p3 : Int32) : (p3 &&& (3 : Int32)) = (0 : Int32) ∨ (p3 &&& (3 : Int32)) = (1 : Int32) ∨ (p3 &&& (3 : Int32)) = (2 : Int32) ∨ (p3 &&& (3 : Int32)) = (3 : Int32) := by
  obtain ⟨h0, h1⟩ := c_and p3 3 (by decide)
  have e : (3 : Int32).toInt = 3 := by decide
  obtain ⟨n, h⟩ := own_fin (c := p3 &&& (3 : Int32)) (N := 4) h0 (by omega) (by decide)
  rw [h]
  clear h0 h1 h
  revert n
  decide

theorem own_rm1 (p4 : Int32) : ((p4 &&& (2147483647 : Int32)) % (1 : Int32)) = (0 : Int32) := by
  have e1 : (p4 &&& (2147483647 : Int32)).toInt = p4.toInt % (2 ^ 31 : Nat) := c_mask p4 2147483647 31 (by decide) (by decide)
  have e2 := (c_irem (p4 &&& (2147483647 : Int32)) (1 : Int32) 1 (by decide)).1 (by omega)
  obtain ⟨n, h⟩ := own_fin (c := ((p4 &&& (2147483647 : Int32)) % (1 : Int32))) (N := 1) (by omega) (by omega) (by decide)
  rw [h]
  clear e1 e2 h
  revert n
  decide

theorem own_rm2 (p4 : Int32) : ((p4 &&& (2147483647 : Int32)) % (2 : Int32)) = (0 : Int32) ∨ ((p4 &&& (2147483647 : Int32)) % (2 : Int32)) = (1 : Int32) := by
  have e1 : (p4 &&& (2147483647 : Int32)).toInt = p4.toInt % (2 ^ 31 : Nat) := c_mask p4 2147483647 31 (by decide) (by decide)
  have e2 := (c_irem (p4 &&& (2147483647 : Int32)) (2 : Int32) 2 (by decide)).1 (by omega)
  obtain ⟨n, h⟩ := own_fin (c := ((p4 &&& (2147483647 : Int32)) % (2 : Int32))) (N := 2) (by omega) (by omega) (by decide)
  rw [h]
  clear e1 e2 h
  revert n
  decide

theorem own_rm3 (p4 : Int32) : ((p4 &&& (2147483647 : Int32)) % (3 : Int32)) = (0 : Int32) ∨ ((p4 &&& (2147483647 : Int32)) % (3 : Int32)) = (1 : Int32) ∨ ((p4 &&& (2147483647 : Int32)) % (3 : Int32)) = (2 : Int32) := by
  have e1 : (p4 &&& (2147483647 : Int32)).toInt = p4.toInt % (2 ^ 31 : Nat) := c_mask p4 2147483647 31 (by decide) (by decide)
  have e2 := (c_irem (p4 &&& (2147483647 : Int32)) (3 : Int32) 3 (by decide)).1 (by omega)
  obtain ⟨n, h⟩ := own_fin (c := ((p4 &&& (2147483647 : Int32)) % (3 : Int32))) (N := 3) (by omega) (by omega) (by decide)
  rw [h]
  clear e1 e2 h
  revert n
  decide

theorem own_rm4 (p4 : Int32) : ((p4 &&& (2147483647 : Int32)) % (4 : Int32)) = (0 : Int32) ∨ ((p4 &&& (2147483647 : Int32)) % (4 : Int32)) = (1 : Int32) ∨ ((p4 &&& (2147483647 : Int32)) % (4 : Int32)) = (2 : Int32) ∨ ((p4 &&& (2147483647 : Int32)) % (4 : Int32)) = (3 : Int32) := by
  have e1 : (p4 &&& (2147483647 : Int32)).toInt = p4.toInt % (2 ^ 31 : Nat) := c_mask p4 2147483647 31 (by decide) (by decide)
  have e2 := (c_irem (p4 &&& (2147483647 : Int32)) (4 : Int32) 4 (by decide)).1 (by omega)
  obtain ⟨n, h⟩ := own_fin (c := ((p4 &&& (2147483647 : Int32)) % (4 : Int32))) (N := 4) (by omega) (by omega) (by decide)
  rw [h]
  clear e1 e2 h
  revert n
  decide

def Q0 (Z : State) (p0 : Int32) (q1 : Int64) (p2 : Int32) (p3 : Int32) (p4 : Int32) (q5 : Int64) (h0 : Heap) (n0 : Nat) (v : Option Value) (h : Heap) (L : List Loc) : Prop := v = some (.int 1) ∧ Fr n0 L
set_option maxRecDepth 65536 in
set_option maxHeartbeats 40000000 in
theorem rm0 (l : Launch) (Z : State) (a0 : Array Value) (hw : ∀ d ∈ tables_1, d.before a0 Z = true) (ws : List Jvm.Cond) (p0 : Int32) (q1 : Int64) (p2 : Int32) (p3 : Int32) (p4 : Int32) (q5 : Int64) (h0 : Heap) (n0 : Nat) (Z0 : n0 ≤ h0.size)  :
    MetFree l x (head1 (Jvm.Cond.code x code maxLocals ret :: ws) room_1) (fun a U => a = #[(.int p0), (.long q1), (.int p2), (.int p3), (.int p4), (.long q5)] ∧ Z.Warmed39 U.vm ∧ U.heap = h0) (fun _ _ _ _ _ => True) (fun _ U o U' => ∃ v L, o = .returned v ∧ Q0 Z p0 q1 p2 p3 p4 q5 h0 n0 v U'.heap L ∧ FrameEnd U o U' L room_1.cells room_1.slots) := by
  refine MetFree.of_bodySF (plainFor_of_name pn_1) hisR ?_
  intro p e s m args below meth c s₁ Bd hml0 hP hK
  obtain ⟨rfl, hZ, hh⟩ := hP
  have hx := Bd.exec
  have hby := Bd.bytes
  have hml : c.maxLocals = 14 := hml0
  have hown : s.vm.findClass "com/example/brisk_maze/briskmaze/search/RankedFrontierIsEmptyPinLaw" = some m.cls := findClass_of_methodNamed Bd.named
  have hnm := (name_of_methodNamed Bd.named Bd.method).1
  have X0 : Stand p l e room_1 s m #[(.int p0), (.long q1), (.int p2), (.int p3), (.int p4), (.long q5)] below meth c s₁ [] 0 0 := Stand.of_body Bd
  have e0 : s₁.heap = h0 := by rw [← hh, Bd.state]; rfl
  have N0 := Fr.nil n0
  have pre0 : ∀ t, Steps p.tables e below (s₁.setTop (mkF m 0 #[.val (.int p0), .val (.long q1), .second, .val (.int p2), .val (.int p3), .val (.int p4), .val (.long q5), .second, .unset, .unset, .unset, .unset, .unset, .unset] [])) t → Steps p.tables e below (s₁.setTop (entryFrame m #[(.int p0), (.long q1), (.int p2), (.int p3), (.int p4), (.long q5)] maxLocals)) t := fun t k => castTop (ef_0 m p0 q1 p2 p3 p4 q5) k
  have pre1 : ∀ t, Steps p.tables e below (s₁.setTop (mkF m 6 #[.val (.int p0), .val (.long q1), .second, .val (.int p2), .val (.int p3), .val (.int p4), .val (.long q5), .second, .val (.int (p3 &&& (3 : Int32))), .unset, .unset, .unset, .unset, .unset] [])) t → Steps p.tables e below (s₁.setTop (entryFrame m #[(.int p0), (.long q1), (.int p2), (.int p3), (.int p4), (.long q5)] maxLocals)) t := fun t k => pre0 t (by
    show Steps p.tables e below (s₁.setTop (mkF m 0 #[.val (.int p0), .val (.long q1), .second, .val (.int p2), .val (.int p3), .val (.int p4), .val (.long q5), .second, .unset, .unset, .unset, .unset, .unset, .unset] [])) _
    refine XS.iload X0.here hx rfl (hb hby at_0) rfl ?_
    show Steps p.tables e below (s₁.setTop (mkF m 2 #[.val (.int p0), .val (.long q1), .second, .val (.int p2), .val (.int p3), .val (.int p4), .val (.long q5), .second, .unset, .unset, .unset, .unset, .unset, .unset] [(.int p3)])) _
    refine XS.iconst X0.here hx rfl (hb hby at_2) ?_
    show Steps p.tables e below (s₁.setTop (mkF m 3 #[.val (.int p0), .val (.long q1), .second, .val (.int p2), .val (.int p3), .val (.int p4), .val (.long q5), .second, .unset, .unset, .unset, .unset, .unset, .unset] [(.int (3 : Int32)), (.int p3)])) _
    refine XS.iand X0.here hx rfl (hb hby at_3) rfl ?_
    show Steps p.tables e below (s₁.setTop (mkF m 4 #[.val (.int p0), .val (.long q1), .second, .val (.int p2), .val (.int p3), .val (.int p4), .val (.long q5), .second, .unset, .unset, .unset, .unset, .unset, .unset] [(.int (p3 &&& (3 : Int32)))])) _
    refine XS.istore X0.here hx rfl (hb hby at_4) rfl (l' := #[.val (.int p0), .val (.long q1), .second, .val (.int p2), .val (.int p3), .val (.int p4), .val (.long q5), .second, .val (.int (p3 &&& (3 : Int32))), .unset, .unset, .unset, .unset, .unset]) rfl ?_
    show Steps p.tables e below (s₁.setTop (mkF m 6 #[.val (.int p0), .val (.long q1), .second, .val (.int p2), .val (.int p3), .val (.int p4), .val (.long q5), .second, .val (.int (p3 &&& (3 : Int32))), .unset, .unset, .unset, .unset, .unset] [])) _
    exact k)
  rcases own_k4 p3 with hk | hk | hk | hk
  · have pre2 : ∀ t, Steps p.tables e below (s₁.setTop (mkF m 6 #[.val (.int p0), .val (.long q1), .second, .val (.int p2), .val (.int p3), .val (.int p4), .val (.long q5), .second, .val (.int (0 : Int32)), .unset, .unset, .unset, .unset, .unset] [])) t → Steps p.tables e below (s₁.setTop (entryFrame m #[(.int p0), (.long q1), (.int p2), (.int p3), (.int p4), (.long q5)] maxLocals)) t := fun t k => pre1 t (by rw [hk]; exact k)
    have pre3 : ∀ t, Steps p.tables e below (s₁.setTop (mkF m 18 #[.val (.int p0), .val (.long q1), .second, .val (.int p2), .val (.int p3), .val (.int p4), .val (.long q5), .second, .val (.int (0 : Int32)), .val (.int ((p4 &&& (2147483647 : Int32)) % (1 : Int32))), .unset, .unset, .unset, .unset] [])) t → Steps p.tables e below (s₁.setTop (entryFrame m #[(.int p0), (.long q1), (.int p2), (.int p3), (.int p4), (.long q5)] maxLocals)) t := fun t k => pre2 t (by
      show Steps p.tables e below (s₁.setTop (mkF m 6 #[.val (.int p0), .val (.long q1), .second, .val (.int p2), .val (.int p3), .val (.int p4), .val (.long q5), .second, .val (.int (0 : Int32)), .unset, .unset, .unset, .unset, .unset] [])) _
      refine XS.iload X0.here hx rfl (hb hby at_6) rfl ?_
      show Steps p.tables e below (s₁.setTop (mkF m 8 #[.val (.int p0), .val (.long q1), .second, .val (.int p2), .val (.int p3), .val (.int p4), .val (.long q5), .second, .val (.int (0 : Int32)), .unset, .unset, .unset, .unset, .unset] [(.int p4)])) _
      refine X0.ldcInt hx hown (mvT hZ (hw _ (List.mem_of_getElem? (i := 0) rfl))) (g := (mkF m 8 #[.val (.int p0), .val (.long q1), .second, .val (.int p2), .val (.int p3), .val (.int p4), .val (.long q5), .second, .val (.int (0 : Int32)), .unset, .unset, .unset, .unset, .unset] [(.int p4)])) rfl (hb hby at_8) _ ?_
      show Steps p.tables e below (s₁.setTop (mkF m 10 #[.val (.int p0), .val (.long q1), .second, .val (.int p2), .val (.int p3), .val (.int p4), .val (.long q5), .second, .val (.int (0 : Int32)), .unset, .unset, .unset, .unset, .unset] [(.int (2147483647 : Int32)), (.int p4)])) _
      refine XS.iand X0.here hx rfl (hb hby at_10) rfl ?_
      show Steps p.tables e below (s₁.setTop (mkF m 11 #[.val (.int p0), .val (.long q1), .second, .val (.int p2), .val (.int p3), .val (.int p4), .val (.long q5), .second, .val (.int (0 : Int32)), .unset, .unset, .unset, .unset, .unset] [(.int (p4 &&& (2147483647 : Int32)))])) _
      refine XS.iload X0.here hx rfl (hb hby at_11) rfl ?_
      show Steps p.tables e below (s₁.setTop (mkF m 13 #[.val (.int p0), .val (.long q1), .second, .val (.int p2), .val (.int p3), .val (.int p4), .val (.long q5), .second, .val (.int (0 : Int32)), .unset, .unset, .unset, .unset, .unset] [(.int (0 : Int32)), (.int (p4 &&& (2147483647 : Int32)))])) _
      refine XS.iconst X0.here hx rfl (hb hby at_13) ?_
      show Steps p.tables e below (s₁.setTop (mkF m 14 #[.val (.int p0), .val (.long q1), .second, .val (.int p2), .val (.int p3), .val (.int p4), .val (.long q5), .second, .val (.int (0 : Int32)), .unset, .unset, .unset, .unset, .unset] [(.int (1 : Int32)), (.int (0 : Int32)), (.int (p4 &&& (2147483647 : Int32)))])) _
      refine XS.iadd X0.here hx rfl (hb hby at_14) rfl ?_
      show Steps p.tables e below (s₁.setTop (mkF m 15 #[.val (.int p0), .val (.long q1), .second, .val (.int p2), .val (.int p3), .val (.int p4), .val (.long q5), .second, .val (.int (0 : Int32)), .unset, .unset, .unset, .unset, .unset] [(.int (1 : Int32)), (.int (p4 &&& (2147483647 : Int32)))])) _
      refine iremM (g := (mkF m 15 #[.val (.int p0), .val (.long q1), .second, .val (.int p2), .val (.int p3), .val (.int p4), .val (.long q5), .second, .val (.int (0 : Int32)), .unset, .unset, .unset, .unset, .unset] [(.int (1 : Int32)), (.int (p4 &&& (2147483647 : Int32)))])) X0 hx rfl (hb hby at_15) rfl (by decide) ?_
      show Steps p.tables e below (s₁.setTop (mkF m 16 #[.val (.int p0), .val (.long q1), .second, .val (.int p2), .val (.int p3), .val (.int p4), .val (.long q5), .second, .val (.int (0 : Int32)), .unset, .unset, .unset, .unset, .unset] [(.int ((p4 &&& (2147483647 : Int32)) % (1 : Int32)))])) _
      refine XS.istore X0.here hx rfl (hb hby at_16) rfl (l' := #[.val (.int p0), .val (.long q1), .second, .val (.int p2), .val (.int p3), .val (.int p4), .val (.long q5), .second, .val (.int (0 : Int32)), .val (.int ((p4 &&& (2147483647 : Int32)) % (1 : Int32))), .unset, .unset, .unset, .unset]) rfl ?_
      show Steps p.tables e below (s₁.setTop (mkF m 18 #[.val (.int p0), .val (.long q1), .second, .val (.int p2), .val (.int p3), .val (.int p4), .val (.long q5), .second, .val (.int (0 : Int32)), .val (.int ((p4 &&& (2147483647 : Int32)) % (1 : Int32))), .unset, .unset, .unset, .unset] [])) _
      exact k)
    rcases own_rm1 p4 with hk
    · have pre4 : ∀ t, Steps p.tables e below (s₁.setTop (mkF m 18 #[.val (.int p0), .val (.long q1), .second, .val (.int p2), .val (.int p3), .val (.int p4), .val (.long q5), .second, .val (.int (0 : Int32)), .val (.int (0 : Int32)), .unset, .unset, .unset, .unset] [])) t → Steps p.tables e below (s₁.setTop (entryFrame m #[(.int p0), (.long q1), (.int p2), (.int p3), (.int p4), (.long q5)] maxLocals)) t := fun t k => pre3 t (by rw [hk]; exact k)
      obtain ⟨T5, h5, X5, e5, Ex5, Ne5, D5, -, st5⟩ := newO X0 hx hZ hown (hw _ (List.mem_of_getElem? (i := 1) rfl)) (hw _ (List.mem_of_getElem? (i := 2) rfl)) (hw _ (List.mem_of_getElem? (i := 3) rfl)) e0 (g := (mkF m 18 #[.val (.int p0), .val (.long q1), .second, .val (.int p2), .val (.int p3), .val (.int p4), .val (.long q5), .second, .val (.int (0 : Int32)), .val (.int (0 : Int32)), .unset, .unset, .unset, .unset] [])) rfl (hb hby at_18) (by decide) (by decide)
      obtain ⟨b5, g5⟩ : ∃ z, z = h0.size := ⟨_, rfl⟩
      rw [← g5] at Ne5 D5 st5
      have g_b5 : n0 ≤ b5 := Nat.le_trans (Nat.le_trans Z0 (Nat.le_refl _)) (Nat.le_of_eq g5.symm)
      have sz_b5 : h0.size ≤ b5 := Nat.le_trans (Nat.le_refl _) (Nat.le_of_eq g5.symm)
      have SZ7 : h0.size ≤ h5.size := Nat.le_trans (Nat.le_refl _) Ex5.1
      have ZZ7 : n0 ≤ h5.size := Nat.le_trans Z0 SZ7
      have K8 : Keep h0 h5 [] := ((Keep.refl h0 [])).ext Ex5
      have F_ranks_b5_5 : Fld Z h5 b5 "com/example/brisk_maze/briskmaze/search/RankedFrontier" "ranks" "[J" .null := D5 (Or.inl (hw _ (List.mem_of_getElem? (i := 12) rfl))) (ty := (.array .long)) (by decide)
      have F_costs_b5_5 : Fld Z h5 b5 "com/example/brisk_maze/briskmaze/search/RankedFrontier" "costs" "[I" .null := D5 (Or.inl (hw _ (List.mem_of_getElem? (i := 15) rfl))) (ty := (.array .int)) (by decide)
      have F_states_b5_5 : Fld Z h5 b5 "com/example/brisk_maze/briskmaze/search/RankedFrontier" "states" "[I" .null := D5 (Or.inl (hw _ (List.mem_of_getElem? (i := 17) rfl))) (ty := (.array .int)) (by decide)
      have F_size_b5_5 : Fld Z h5 b5 "com/example/brisk_maze/briskmaze/search/RankedFrontier" "size" "I" (.int (0 : Int32)) := D5 (Or.inl (hw _ (List.mem_of_getElem? (i := 24) rfl))) (ty := .int) (by decide)
      obtain ⟨_, _, ⟨T9, L9, k9, n9⟩, -, X9, ⟨Lc9, hQ9, l9, y9, z9⟩, st9⟩ := X5.specialBack hx (y := (⟨"com/example/brisk_maze/briskmaze/search/RankedFrontier", "<init>", "()V"⟩ : MethodName)) rfl hown (mvT hZ (hw _ (List.mem_of_getElem? (i := 4) rfl))) (mvT hZ (hw _ (List.mem_of_getElem? (i := 5) rfl))) (mvT hZ (hw _ (List.mem_of_getElem? (i := 6) rfl))) (by decide) (backOf (W := 1) (rm1 l Z a0 hw [] b5 h5 n0 ZZ7 F_ranks_b5_5 F_costs_b5_5 F_states_b5_5 Ne5 F_size_b5_5 g_b5) hZ (hw _ (List.mem_of_getElem? (i := 6) rfl)) (hw _ (List.mem_of_getElem? (i := 3) rfl)) (by decide) (by decide)) (g := (mkF m 22 #[.val (.int p0), .val (.long q1), .second, .val (.int p2), .val (.int p3), .val (.int p4), .val (.long q5), .second, .val (.int (0 : Int32)), .val (.int (0 : Int32)), .unset, .unset, .unset, .unset] [(.ref b5), (.ref b5)])) rfl (by rw [hml]; rfl) (Steps.refl _) (a := b5) (argsL := []) (rest := [(.ref b5)]) (lenOf pd_4 rfl) rfl (by show 2 * 0 + _ ≤ _; exact Nat.le_of_eq rfl) (hb hby at_22) (fun _ _ => ⟨rfl, e5, (by decide : 1 + 3 ≤ _), (by decide : 4 + 192 ≤ _)⟩)
      dsimp only [Pt.U, Pt.locs, Pt.cells, Pt.slots] at X9 l9 y9 z9 st9 hQ9
      subst l9 y9 z9
      obtain ⟨tr_9, tc_9, ts_9, rfl, N9q, Kc9, sz_tr_9, sz_tc_9, sz_ts_9, ne_tr_tc_9, ne_tr_ts_9, ne_tc_ts_9, P9_0, P9_1, P9_2, P9_3, P9_4, P9_5, P9_6⟩ := hQ9
      have N9 := Fr.app N0 N9q
      have E_b5_10 : Exa Z T9.heap b5 "com/example/brisk_maze/briskmaze/search/RankedFrontier" := (Ne5).keep Kc9
      have SZ11 : h0.size ≤ T9.heap.size := Nat.le_trans SZ7 Kc9.1
      have ZZ11 : n0 ≤ T9.heap.size := Nat.le_trans Z0 SZ11
      have K12 : Keep h0 T9.heap [] := (K8).trans Kc9 (allS (Or.inr sz_b5) all0)
      have ne_b5_tr_9 : b5 ≠ tr_9 := Nat.ne_of_lt (Nat.lt_of_lt_of_le (Ne5).lt sz_tr_9)
      have g_tr_9 : n0 ≤ tr_9 := Nat.le_trans (Nat.le_trans Z0 SZ7) sz_tr_9
      have szz_tr_9 : h0.size ≤ tr_9 := Nat.le_trans SZ7 sz_tr_9
      have ne_b5_tc_9 : b5 ≠ tc_9 := Nat.ne_of_lt (Nat.lt_of_lt_of_le (Ne5).lt sz_tc_9)
      have g_tc_9 : n0 ≤ tc_9 := Nat.le_trans (Nat.le_trans Z0 SZ7) sz_tc_9
      have szz_tc_9 : h0.size ≤ tc_9 := Nat.le_trans SZ7 sz_tc_9
      have ne_b5_ts_9 : b5 ≠ ts_9 := Nat.ne_of_lt (Nat.lt_of_lt_of_le (Ne5).lt sz_ts_9)
      have g_ts_9 : n0 ≤ ts_9 := Nat.le_trans (Nat.le_trans Z0 SZ7) sz_ts_9
      have szz_ts_9 : h0.size ≤ ts_9 := Nat.le_trans SZ7 sz_ts_9
      obtain ⟨cq13, kq13, q13a, q13b, q13c⟩ := isOf hZ rfl (E_b5_10)
      obtain ⟨_, _, ⟨T13, L13, k13, n13⟩, -, X13, ⟨Lc13, hQ13, l13, y13, z13⟩, st13⟩ := X9.virtualBack hx (y := (⟨"com/example/brisk_maze/briskmaze/search/RankedFrontier", "isEmpty", "()Z"⟩ : MethodName)) (z := (⟨"com/example/brisk_maze/briskmaze/search/RankedFrontier", "isEmpty", "()Z"⟩ : MethodName)) hown (mvT hZ (hw _ (List.mem_of_getElem? (i := 18) rfl))) (mvT hZ (hw _ (List.mem_of_getElem? (i := 19) rfl))) (notFace_of_selects (args := #[]) (mvT hZ (hw _ (List.mem_of_getElem? (i := 21) rfl)))) (mvT hZ (hw _ (List.mem_of_getElem? (i := 21) rfl))) (mvT hZ (hw _ (List.mem_of_getElem? (i := 20) rfl))) (by decide) (backOf (W := 0) (rm3 l Z a0 hw [] b5 (0 : Int32) T9.heap n0 ZZ11 P9_3) hZ (hw _ (List.mem_of_getElem? (i := 22) rfl)) (hw _ (List.mem_of_getElem? (i := 3) rfl)) (by decide) (by decide)) q13a q13c (g := (mkF m 29 #[.val (.int p0), .val (.long q1), .second, .val (.int p2), .val (.int p3), .val (.int p4), .val (.long q5), .second, .val (.int (0 : Int32)), .val (.int (0 : Int32)), .val (.ref b5), .unset, .unset, .unset] [(.ref b5)])) rfl (by rw [hml]; rfl) (Steps.refl _) (argsL := []) (rest := []) (lenOf pd_5 rfl) rfl (by show 2 * 0 + _ ≤ _; exact Nat.le_of_eq rfl) (hb hby at_29) (fun _ _ => ⟨rfl, rfl, (by decide : 4 + 0 ≤ _), (by decide : 196 + 0 ≤ _)⟩)
      dsimp only [Pt.U, Pt.locs, Pt.cells, Pt.slots] at X13 l13 y13 z13 st13 hQ13
      subst l13 y13 z13
      obtain ⟨rfl, N13q, hh13⟩ := hQ13
      have N13 := Fr.app N9 N13q
      obtain ⟨cq14, kq14, q14a, q14b, q14c⟩ := isOf hZ hh13 (E_b5_10)
      obtain ⟨_, _, ⟨T14, L14, k14, n14⟩, -, X14, ⟨Lc14, hQ14, l14, y14, z14⟩, st14⟩ := X13.virtualBack hx (y := (⟨"com/example/brisk_maze/briskmaze/search/RankedFrontier", "isEmpty", "()Z"⟩ : MethodName)) (z := (⟨"com/example/brisk_maze/briskmaze/search/RankedFrontier", "isEmpty", "()Z"⟩ : MethodName)) hown (mvT hZ (hw _ (List.mem_of_getElem? (i := 18) rfl))) (mvT hZ (hw _ (List.mem_of_getElem? (i := 19) rfl))) (notFace_of_selects (args := #[]) (mvT hZ (hw _ (List.mem_of_getElem? (i := 21) rfl)))) (mvT hZ (hw _ (List.mem_of_getElem? (i := 21) rfl))) (mvT hZ (hw _ (List.mem_of_getElem? (i := 20) rfl))) (by decide) (backOf (W := 0) (rm3 l Z a0 hw [] b5 (0 : Int32) T9.heap n0 ZZ11 P9_3) hZ (hw _ (List.mem_of_getElem? (i := 22) rfl)) (hw _ (List.mem_of_getElem? (i := 3) rfl)) (by decide) (by decide)) q14a q14c (g := (mkF m 84 #[.val (.int p0), .val (.long q1), .second, .val (.int p2), .val (.int p3), .val (.int p4), .val (.long q5), .second, .val (.int (0 : Int32)), .val (.int (0 : Int32)), .val (.ref b5), .val (.int ((f3_12 (0 : Int32)) &&& 1)), .unset, .unset] [(.ref b5)])) rfl (by rw [hml]; rfl) (Steps.refl _) (argsL := []) (rest := []) (lenOf pd_5 rfl) rfl (by show 2 * 0 + _ ≤ _; exact Nat.le_of_eq rfl) (hb hby at_84) (fun _ _ => ⟨rfl, hh13, (by decide : 4 + 0 ≤ _), (by decide : 196 + 0 ≤ _)⟩)
      dsimp only [Pt.U, Pt.locs, Pt.cells, Pt.slots] at X14 l14 y14 z14 st14 hQ14
      subst l14 y14 z14
      obtain ⟨rfl, N14q, hh14⟩ := hQ14
      have N14 := Fr.app N13 N14q
      obtain ⟨cq15, kq15, q15a, q15b, q15c⟩ := isOf hZ hh14 (E_b5_10)
      obtain ⟨_, _, ⟨T15, L15, k15, n15⟩, -, X15, ⟨Lc15, hQ15, l15, y15, z15⟩, st15⟩ := X14.virtualBack hx (y := (⟨"com/example/brisk_maze/briskmaze/search/RankedFrontier", "isEmpty", "()Z"⟩ : MethodName)) (z := (⟨"com/example/brisk_maze/briskmaze/search/RankedFrontier", "isEmpty", "()Z"⟩ : MethodName)) hown (mvT hZ (hw _ (List.mem_of_getElem? (i := 18) rfl))) (mvT hZ (hw _ (List.mem_of_getElem? (i := 19) rfl))) (notFace_of_selects (args := #[]) (mvT hZ (hw _ (List.mem_of_getElem? (i := 21) rfl)))) (mvT hZ (hw _ (List.mem_of_getElem? (i := 21) rfl))) (mvT hZ (hw _ (List.mem_of_getElem? (i := 20) rfl))) (by decide) (backOf (W := 0) (rm3 l Z a0 hw [] b5 (0 : Int32) T9.heap n0 ZZ11 P9_3) hZ (hw _ (List.mem_of_getElem? (i := 22) rfl)) (hw _ (List.mem_of_getElem? (i := 3) rfl)) (by decide) (by decide)) q15a q15c (g := (mkF m 127 #[.val (.int p0), .val (.long q1), .second, .val (.int p2), .val (.int p3), .val (.int p4), .val (.long q5), .second, .val (.int (0 : Int32)), .val (.int (0 : Int32)), .val (.ref b5), .val (.int ((f3_12 (0 : Int32)) &&& 1)), .val (.int ((f3_12 (0 : Int32)) &&& 1)), .unset] [(.ref b5)])) rfl (by rw [hml]; rfl) (Steps.refl _) (argsL := []) (rest := []) (lenOf pd_5 rfl) rfl (by show 2 * 0 + _ ≤ _; exact Nat.le_of_eq rfl) (hb hby at_127) (fun _ _ => ⟨rfl, hh14, (by decide : 4 + 0 ≤ _), (by decide : 196 + 0 ≤ _)⟩)
      dsimp only [Pt.U, Pt.locs, Pt.cells, Pt.slots] at X15 l15 y15 z15 st15 hQ15
      subst l15 y15 z15
      obtain ⟨rfl, N15q, hh15⟩ := hQ15
      have N15 := Fr.app N14 N15q
      have pre16 : ∀ t, Steps p.tables e below (T15.setTop (mkF m 174 #[.val (.int p0), .val (.long q1), .second, .val (.int p2), .val (.int p3), .val (.int p4), .val (.long q5), .second, .val (.int (0 : Int32)), .val (.int (0 : Int32)), .val (.ref b5), .val (.int ((f3_12 (0 : Int32)) &&& 1)), .val (.int ((f3_12 (0 : Int32)) &&& 1)), .val (.int ((f3_12 (0 : Int32)) &&& 1))] [(.int (1 : Int32))])) t → Steps p.tables e below (s₁.setTop (entryFrame m #[(.int p0), (.long q1), (.int p2), (.int p3), (.int p4), (.long q5)] maxLocals)) t := fun t k => pre4 t (by
        show Steps p.tables e below (s₁.setTop (mkF m 18 #[.val (.int p0), .val (.long q1), .second, .val (.int p2), .val (.int p3), .val (.int p4), .val (.long q5), .second, .val (.int (0 : Int32)), .val (.int (0 : Int32)), .unset, .unset, .unset, .unset] [])) _
        refine st5 _ ?_
        show Steps p.tables e below (T5.setTop (mkF m 21 #[.val (.int p0), .val (.long q1), .second, .val (.int p2), .val (.int p3), .val (.int p4), .val (.long q5), .second, .val (.int (0 : Int32)), .val (.int (0 : Int32)), .unset, .unset, .unset, .unset] [(.ref b5)])) _
        refine XS.dup X5.here hx rfl (hb hby at_21) rfl rfl ?_
        show Steps p.tables e below (T5.setTop (mkF m 22 #[.val (.int p0), .val (.long q1), .second, .val (.int p2), .val (.int p3), .val (.int p4), .val (.long q5), .second, .val (.int (0 : Int32)), .val (.int (0 : Int32)), .unset, .unset, .unset, .unset] [(.ref b5), (.ref b5)])) _
        refine st9.trans ?_
        show Steps p.tables e below (T9.setTop (mkF m 25 #[.val (.int p0), .val (.long q1), .second, .val (.int p2), .val (.int p3), .val (.int p4), .val (.long q5), .second, .val (.int (0 : Int32)), .val (.int (0 : Int32)), .unset, .unset, .unset, .unset] [(.ref b5)])) _
        refine XS.astore X9.here hx rfl (hb hby at_25) rfl rfl (l' := #[.val (.int p0), .val (.long q1), .second, .val (.int p2), .val (.int p3), .val (.int p4), .val (.long q5), .second, .val (.int (0 : Int32)), .val (.int (0 : Int32)), .val (.ref b5), .unset, .unset, .unset]) rfl ?_
        show Steps p.tables e below (T9.setTop (mkF m 27 #[.val (.int p0), .val (.long q1), .second, .val (.int p2), .val (.int p3), .val (.int p4), .val (.long q5), .second, .val (.int (0 : Int32)), .val (.int (0 : Int32)), .val (.ref b5), .unset, .unset, .unset] [])) _
        refine XS.aload X9.here hx rfl (hb hby at_27) rfl rfl ?_
        show Steps p.tables e below (T9.setTop (mkF m 29 #[.val (.int p0), .val (.long q1), .second, .val (.int p2), .val (.int p3), .val (.int p4), .val (.long q5), .second, .val (.int (0 : Int32)), .val (.int (0 : Int32)), .val (.ref b5), .unset, .unset, .unset] [(.ref b5)])) _
        refine st13.trans ?_
        show Steps p.tables e below (T13.setTop (mkF m 32 #[.val (.int p0), .val (.long q1), .second, .val (.int p2), .val (.int p3), .val (.int p4), .val (.long q5), .second, .val (.int (0 : Int32)), .val (.int (0 : Int32)), .val (.ref b5), .unset, .unset, .unset] [(.int ((f3_12 (0 : Int32)) &&& 1))])) _
        refine XS.istore X13.here hx rfl (hb hby at_32) rfl (l' := #[.val (.int p0), .val (.long q1), .second, .val (.int p2), .val (.int p3), .val (.int p4), .val (.long q5), .second, .val (.int (0 : Int32)), .val (.int (0 : Int32)), .val (.ref b5), .val (.int ((f3_12 (0 : Int32)) &&& 1)), .unset, .unset]) rfl ?_
        show Steps p.tables e below (T13.setTop (mkF m 34 #[.val (.int p0), .val (.long q1), .second, .val (.int p2), .val (.int p3), .val (.int p4), .val (.long q5), .second, .val (.int (0 : Int32)), .val (.int (0 : Int32)), .val (.ref b5), .val (.int ((f3_12 (0 : Int32)) &&& 1)), .unset, .unset] [])) _
        refine XS.iload X13.here hx rfl (hb hby at_34) rfl ?_
        show Steps p.tables e below (T13.setTop (mkF m 36 #[.val (.int p0), .val (.long q1), .second, .val (.int p2), .val (.int p3), .val (.int p4), .val (.long q5), .second, .val (.int (0 : Int32)), .val (.int (0 : Int32)), .val (.ref b5), .val (.int ((f3_12 (0 : Int32)) &&& 1)), .unset, .unset] [(.int (0 : Int32))])) _
        refine XS.iconst X13.here hx rfl (hb hby at_36) ?_
        show Steps p.tables e below (T13.setTop (mkF m 37 #[.val (.int p0), .val (.long q1), .second, .val (.int p2), .val (.int p3), .val (.int p4), .val (.long q5), .second, .val (.int (0 : Int32)), .val (.int (0 : Int32)), .val (.ref b5), .val (.int ((f3_12 (0 : Int32)) &&& 1)), .unset, .unset] [(.int (1 : Int32)), (.int (0 : Int32))])) _
        refine XS.icmpYes X13.here hx rfl (pc0 := 37) (pc' := 48) rfl (hb hby at_37) rfl (tlt (show (0 : Int32) < (1 : Int32) by decide)).1 (by decide) (by decide) ?_
        show Steps p.tables e below (T13.setTop (mkF m 48 #[.val (.int p0), .val (.long q1), .second, .val (.int p2), .val (.int p3), .val (.int p4), .val (.long q5), .second, .val (.int (0 : Int32)), .val (.int (0 : Int32)), .val (.ref b5), .val (.int ((f3_12 (0 : Int32)) &&& 1)), .unset, .unset] [])) _
        refine XS.iload X13.here hx rfl (hb hby at_48) rfl ?_
        show Steps p.tables e below (T13.setTop (mkF m 50 #[.val (.int p0), .val (.long q1), .second, .val (.int p2), .val (.int p3), .val (.int p4), .val (.long q5), .second, .val (.int (0 : Int32)), .val (.int (0 : Int32)), .val (.ref b5), .val (.int ((f3_12 (0 : Int32)) &&& 1)), .unset, .unset] [(.int (0 : Int32))])) _
        refine XS.iconst X13.here hx rfl (hb hby at_50) ?_
        show Steps p.tables e below (T13.setTop (mkF m 51 #[.val (.int p0), .val (.long q1), .second, .val (.int p2), .val (.int p3), .val (.int p4), .val (.long q5), .second, .val (.int (0 : Int32)), .val (.int (0 : Int32)), .val (.ref b5), .val (.int ((f3_12 (0 : Int32)) &&& 1)), .unset, .unset] [(.int (2 : Int32)), (.int (0 : Int32))])) _
        refine XS.icmpYes X13.here hx rfl (pc0 := 51) (pc' := 63) rfl (hb hby at_51) rfl (tlt (show (0 : Int32) < (2 : Int32) by decide)).1 (by decide) (by decide) ?_
        show Steps p.tables e below (T13.setTop (mkF m 63 #[.val (.int p0), .val (.long q1), .second, .val (.int p2), .val (.int p3), .val (.int p4), .val (.long q5), .second, .val (.int (0 : Int32)), .val (.int (0 : Int32)), .val (.ref b5), .val (.int ((f3_12 (0 : Int32)) &&& 1)), .unset, .unset] [])) _
        refine XS.iload X13.here hx rfl (hb hby at_63) rfl ?_
        show Steps p.tables e below (T13.setTop (mkF m 65 #[.val (.int p0), .val (.long q1), .second, .val (.int p2), .val (.int p3), .val (.int p4), .val (.long q5), .second, .val (.int (0 : Int32)), .val (.int (0 : Int32)), .val (.ref b5), .val (.int ((f3_12 (0 : Int32)) &&& 1)), .unset, .unset] [(.int (0 : Int32))])) _
        refine XS.iconst X13.here hx rfl (hb hby at_65) ?_
        show Steps p.tables e below (T13.setTop (mkF m 66 #[.val (.int p0), .val (.long q1), .second, .val (.int p2), .val (.int p3), .val (.int p4), .val (.long q5), .second, .val (.int (0 : Int32)), .val (.int (0 : Int32)), .val (.ref b5), .val (.int ((f3_12 (0 : Int32)) &&& 1)), .unset, .unset] [(.int (3 : Int32)), (.int (0 : Int32))])) _
        refine XS.icmpYes X13.here hx rfl (pc0 := 66) (pc' := 82) rfl (hb hby at_66) rfl (tlt (show (0 : Int32) < (3 : Int32) by decide)).1 (by decide) (by decide) ?_
        show Steps p.tables e below (T13.setTop (mkF m 82 #[.val (.int p0), .val (.long q1), .second, .val (.int p2), .val (.int p3), .val (.int p4), .val (.long q5), .second, .val (.int (0 : Int32)), .val (.int (0 : Int32)), .val (.ref b5), .val (.int ((f3_12 (0 : Int32)) &&& 1)), .unset, .unset] [])) _
        refine XS.aload X13.here hx rfl (hb hby at_82) rfl rfl ?_
        show Steps p.tables e below (T13.setTop (mkF m 84 #[.val (.int p0), .val (.long q1), .second, .val (.int p2), .val (.int p3), .val (.int p4), .val (.long q5), .second, .val (.int (0 : Int32)), .val (.int (0 : Int32)), .val (.ref b5), .val (.int ((f3_12 (0 : Int32)) &&& 1)), .unset, .unset] [(.ref b5)])) _
        refine st14.trans ?_
        show Steps p.tables e below (T14.setTop (mkF m 87 #[.val (.int p0), .val (.long q1), .second, .val (.int p2), .val (.int p3), .val (.int p4), .val (.long q5), .second, .val (.int (0 : Int32)), .val (.int (0 : Int32)), .val (.ref b5), .val (.int ((f3_12 (0 : Int32)) &&& 1)), .unset, .unset] [(.int ((f3_12 (0 : Int32)) &&& 1))])) _
        refine XS.istore X14.here hx rfl (hb hby at_87) rfl (l' := #[.val (.int p0), .val (.long q1), .second, .val (.int p2), .val (.int p3), .val (.int p4), .val (.long q5), .second, .val (.int (0 : Int32)), .val (.int (0 : Int32)), .val (.ref b5), .val (.int ((f3_12 (0 : Int32)) &&& 1)), .val (.int ((f3_12 (0 : Int32)) &&& 1)), .unset]) rfl ?_
        show Steps p.tables e below (T14.setTop (mkF m 89 #[.val (.int p0), .val (.long q1), .second, .val (.int p2), .val (.int p3), .val (.int p4), .val (.long q5), .second, .val (.int (0 : Int32)), .val (.int (0 : Int32)), .val (.ref b5), .val (.int ((f3_12 (0 : Int32)) &&& 1)), .val (.int ((f3_12 (0 : Int32)) &&& 1)), .unset] [])) _
        refine XS.iload X14.here hx rfl (hb hby at_89) rfl ?_
        show Steps p.tables e below (T14.setTop (mkF m 91 #[.val (.int p0), .val (.long q1), .second, .val (.int p2), .val (.int p3), .val (.int p4), .val (.long q5), .second, .val (.int (0 : Int32)), .val (.int (0 : Int32)), .val (.ref b5), .val (.int ((f3_12 (0 : Int32)) &&& 1)), .val (.int ((f3_12 (0 : Int32)) &&& 1)), .unset] [(.int (0 : Int32))])) _
        refine XS.iconst X14.here hx rfl (hb hby at_91) ?_
        show Steps p.tables e below (T14.setTop (mkF m 92 #[.val (.int p0), .val (.long q1), .second, .val (.int p2), .val (.int p3), .val (.int p4), .val (.long q5), .second, .val (.int (0 : Int32)), .val (.int (0 : Int32)), .val (.ref b5), .val (.int ((f3_12 (0 : Int32)) &&& 1)), .val (.int ((f3_12 (0 : Int32)) &&& 1)), .unset] [(.int (1 : Int32)), (.int (0 : Int32))])) _
        refine XS.icmpYes X14.here hx rfl (pc0 := 92) (pc' := 101) rfl (hb hby at_92) rfl (tlt (show (0 : Int32) < (1 : Int32) by decide)).1 (by decide) (by decide) ?_
        show Steps p.tables e below (T14.setTop (mkF m 101 #[.val (.int p0), .val (.long q1), .second, .val (.int p2), .val (.int p3), .val (.int p4), .val (.long q5), .second, .val (.int (0 : Int32)), .val (.int (0 : Int32)), .val (.ref b5), .val (.int ((f3_12 (0 : Int32)) &&& 1)), .val (.int ((f3_12 (0 : Int32)) &&& 1)), .unset] [])) _
        refine XS.iload X14.here hx rfl (hb hby at_101) rfl ?_
        show Steps p.tables e below (T14.setTop (mkF m 103 #[.val (.int p0), .val (.long q1), .second, .val (.int p2), .val (.int p3), .val (.int p4), .val (.long q5), .second, .val (.int (0 : Int32)), .val (.int (0 : Int32)), .val (.ref b5), .val (.int ((f3_12 (0 : Int32)) &&& 1)), .val (.int ((f3_12 (0 : Int32)) &&& 1)), .unset] [(.int (0 : Int32))])) _
        refine XS.iconst X14.here hx rfl (hb hby at_103) ?_
        show Steps p.tables e below (T14.setTop (mkF m 104 #[.val (.int p0), .val (.long q1), .second, .val (.int p2), .val (.int p3), .val (.int p4), .val (.long q5), .second, .val (.int (0 : Int32)), .val (.int (0 : Int32)), .val (.ref b5), .val (.int ((f3_12 (0 : Int32)) &&& 1)), .val (.int ((f3_12 (0 : Int32)) &&& 1)), .unset] [(.int (2 : Int32)), (.int (0 : Int32))])) _
        refine XS.icmpYes X14.here hx rfl (pc0 := 104) (pc' := 113) rfl (hb hby at_104) rfl (tlt (show (0 : Int32) < (2 : Int32) by decide)).1 (by decide) (by decide) ?_
        show Steps p.tables e below (T14.setTop (mkF m 113 #[.val (.int p0), .val (.long q1), .second, .val (.int p2), .val (.int p3), .val (.int p4), .val (.long q5), .second, .val (.int (0 : Int32)), .val (.int (0 : Int32)), .val (.ref b5), .val (.int ((f3_12 (0 : Int32)) &&& 1)), .val (.int ((f3_12 (0 : Int32)) &&& 1)), .unset] [])) _
        refine XS.iload X14.here hx rfl (hb hby at_113) rfl ?_
        show Steps p.tables e below (T14.setTop (mkF m 115 #[.val (.int p0), .val (.long q1), .second, .val (.int p2), .val (.int p3), .val (.int p4), .val (.long q5), .second, .val (.int (0 : Int32)), .val (.int (0 : Int32)), .val (.ref b5), .val (.int ((f3_12 (0 : Int32)) &&& 1)), .val (.int ((f3_12 (0 : Int32)) &&& 1)), .unset] [(.int (0 : Int32))])) _
        refine XS.iconst X14.here hx rfl (hb hby at_115) ?_
        show Steps p.tables e below (T14.setTop (mkF m 116 #[.val (.int p0), .val (.long q1), .second, .val (.int p2), .val (.int p3), .val (.int p4), .val (.long q5), .second, .val (.int (0 : Int32)), .val (.int (0 : Int32)), .val (.ref b5), .val (.int ((f3_12 (0 : Int32)) &&& 1)), .val (.int ((f3_12 (0 : Int32)) &&& 1)), .unset] [(.int (3 : Int32)), (.int (0 : Int32))])) _
        refine XS.icmpYes X14.here hx rfl (pc0 := 116) (pc' := 125) rfl (hb hby at_116) rfl (tlt (show (0 : Int32) < (3 : Int32) by decide)).1 (by decide) (by decide) ?_
        show Steps p.tables e below (T14.setTop (mkF m 125 #[.val (.int p0), .val (.long q1), .second, .val (.int p2), .val (.int p3), .val (.int p4), .val (.long q5), .second, .val (.int (0 : Int32)), .val (.int (0 : Int32)), .val (.ref b5), .val (.int ((f3_12 (0 : Int32)) &&& 1)), .val (.int ((f3_12 (0 : Int32)) &&& 1)), .unset] [])) _
        refine XS.aload X14.here hx rfl (hb hby at_125) rfl rfl ?_
        show Steps p.tables e below (T14.setTop (mkF m 127 #[.val (.int p0), .val (.long q1), .second, .val (.int p2), .val (.int p3), .val (.int p4), .val (.long q5), .second, .val (.int (0 : Int32)), .val (.int (0 : Int32)), .val (.ref b5), .val (.int ((f3_12 (0 : Int32)) &&& 1)), .val (.int ((f3_12 (0 : Int32)) &&& 1)), .unset] [(.ref b5)])) _
        refine st15.trans ?_
        show Steps p.tables e below (T15.setTop (mkF m 130 #[.val (.int p0), .val (.long q1), .second, .val (.int p2), .val (.int p3), .val (.int p4), .val (.long q5), .second, .val (.int (0 : Int32)), .val (.int (0 : Int32)), .val (.ref b5), .val (.int ((f3_12 (0 : Int32)) &&& 1)), .val (.int ((f3_12 (0 : Int32)) &&& 1)), .unset] [(.int ((f3_12 (0 : Int32)) &&& 1))])) _
        refine XS.istore X15.here hx rfl (hb hby at_130) rfl (l' := #[.val (.int p0), .val (.long q1), .second, .val (.int p2), .val (.int p3), .val (.int p4), .val (.long q5), .second, .val (.int (0 : Int32)), .val (.int (0 : Int32)), .val (.ref b5), .val (.int ((f3_12 (0 : Int32)) &&& 1)), .val (.int ((f3_12 (0 : Int32)) &&& 1)), .val (.int ((f3_12 (0 : Int32)) &&& 1))]) rfl ?_
        show Steps p.tables e below (T15.setTop (mkF m 132 #[.val (.int p0), .val (.long q1), .second, .val (.int p2), .val (.int p3), .val (.int p4), .val (.long q5), .second, .val (.int (0 : Int32)), .val (.int (0 : Int32)), .val (.ref b5), .val (.int ((f3_12 (0 : Int32)) &&& 1)), .val (.int ((f3_12 (0 : Int32)) &&& 1)), .val (.int ((f3_12 (0 : Int32)) &&& 1))] [])) _
        refine XS.iload X15.here hx rfl (hb hby at_132) rfl ?_
        show Steps p.tables e below (T15.setTop (mkF m 134 #[.val (.int p0), .val (.long q1), .second, .val (.int p2), .val (.int p3), .val (.int p4), .val (.long q5), .second, .val (.int (0 : Int32)), .val (.int (0 : Int32)), .val (.ref b5), .val (.int ((f3_12 (0 : Int32)) &&& 1)), .val (.int ((f3_12 (0 : Int32)) &&& 1)), .val (.int ((f3_12 (0 : Int32)) &&& 1))] [(.int ((f3_12 (0 : Int32)) &&& 1))])) _
        refine XS.ifNo X15.here hx rfl (hb hby at_134) rfl ((if0 _ _).trans (feq (show ¬ (((f3_12 (0 : Int32)) &&& 1) = (0 : Int32)) from by decide)).1) ?_
        show Steps p.tables e below (T15.setTop (mkF m 137 #[.val (.int p0), .val (.long q1), .second, .val (.int p2), .val (.int p3), .val (.int p4), .val (.long q5), .second, .val (.int (0 : Int32)), .val (.int (0 : Int32)), .val (.ref b5), .val (.int ((f3_12 (0 : Int32)) &&& 1)), .val (.int ((f3_12 (0 : Int32)) &&& 1)), .val (.int ((f3_12 (0 : Int32)) &&& 1))] [])) _
        refine XS.iload X15.here hx rfl (hb hby at_137) rfl ?_
        show Steps p.tables e below (T15.setTop (mkF m 139 #[.val (.int p0), .val (.long q1), .second, .val (.int p2), .val (.int p3), .val (.int p4), .val (.long q5), .second, .val (.int (0 : Int32)), .val (.int (0 : Int32)), .val (.ref b5), .val (.int ((f3_12 (0 : Int32)) &&& 1)), .val (.int ((f3_12 (0 : Int32)) &&& 1)), .val (.int ((f3_12 (0 : Int32)) &&& 1))] [(.int ((f3_12 (0 : Int32)) &&& 1))])) _
        refine XS.iload X15.here hx rfl (hb hby at_139) rfl ?_
        show Steps p.tables e below (T15.setTop (mkF m 141 #[.val (.int p0), .val (.long q1), .second, .val (.int p2), .val (.int p3), .val (.int p4), .val (.long q5), .second, .val (.int (0 : Int32)), .val (.int (0 : Int32)), .val (.ref b5), .val (.int ((f3_12 (0 : Int32)) &&& 1)), .val (.int ((f3_12 (0 : Int32)) &&& 1)), .val (.int ((f3_12 (0 : Int32)) &&& 1))] [(.int (0 : Int32)), (.int ((f3_12 (0 : Int32)) &&& 1))])) _
        refine XS.ifNo X15.here hx rfl (hb hby at_141) rfl ((if0 _ _).trans (teq (show (0 : Int32) = (0 : Int32) by decide)).2) ?_
        show Steps p.tables e below (T15.setTop (mkF m 144 #[.val (.int p0), .val (.long q1), .second, .val (.int p2), .val (.int p3), .val (.int p4), .val (.long q5), .second, .val (.int (0 : Int32)), .val (.int (0 : Int32)), .val (.ref b5), .val (.int ((f3_12 (0 : Int32)) &&& 1)), .val (.int ((f3_12 (0 : Int32)) &&& 1)), .val (.int ((f3_12 (0 : Int32)) &&& 1))] [(.int ((f3_12 (0 : Int32)) &&& 1))])) _
        refine XS.iconst X15.here hx rfl (hb hby at_144) ?_
        show Steps p.tables e below (T15.setTop (mkF m 145 #[.val (.int p0), .val (.long q1), .second, .val (.int p2), .val (.int p3), .val (.int p4), .val (.long q5), .second, .val (.int (0 : Int32)), .val (.int (0 : Int32)), .val (.ref b5), .val (.int ((f3_12 (0 : Int32)) &&& 1)), .val (.int ((f3_12 (0 : Int32)) &&& 1)), .val (.int ((f3_12 (0 : Int32)) &&& 1))] [(.int (1 : Int32)), (.int ((f3_12 (0 : Int32)) &&& 1))])) _
        refine XS.goto X15.here hx rfl (pc0 := 145) (pc' := 149) rfl (hb hby at_145) (by decide) (by decide) ?_
        show Steps p.tables e below (T15.setTop (mkF m 149 #[.val (.int p0), .val (.long q1), .second, .val (.int p2), .val (.int p3), .val (.int p4), .val (.long q5), .second, .val (.int (0 : Int32)), .val (.int (0 : Int32)), .val (.ref b5), .val (.int ((f3_12 (0 : Int32)) &&& 1)), .val (.int ((f3_12 (0 : Int32)) &&& 1)), .val (.int ((f3_12 (0 : Int32)) &&& 1))] [(.int (1 : Int32)), (.int ((f3_12 (0 : Int32)) &&& 1))])) _
        refine XS.icmpNo X15.here hx rfl (hb hby at_149) rfl (teq (show ((f3_12 (0 : Int32)) &&& 1) = (1 : Int32) from by decide)).2 ?_
        show Steps p.tables e below (T15.setTop (mkF m 152 #[.val (.int p0), .val (.long q1), .second, .val (.int p2), .val (.int p3), .val (.int p4), .val (.long q5), .second, .val (.int (0 : Int32)), .val (.int (0 : Int32)), .val (.ref b5), .val (.int ((f3_12 (0 : Int32)) &&& 1)), .val (.int ((f3_12 (0 : Int32)) &&& 1)), .val (.int ((f3_12 (0 : Int32)) &&& 1))] [])) _
        refine XS.iload X15.here hx rfl (hb hby at_152) rfl ?_
        show Steps p.tables e below (T15.setTop (mkF m 154 #[.val (.int p0), .val (.long q1), .second, .val (.int p2), .val (.int p3), .val (.int p4), .val (.long q5), .second, .val (.int (0 : Int32)), .val (.int (0 : Int32)), .val (.ref b5), .val (.int ((f3_12 (0 : Int32)) &&& 1)), .val (.int ((f3_12 (0 : Int32)) &&& 1)), .val (.int ((f3_12 (0 : Int32)) &&& 1))] [(.int ((f3_12 (0 : Int32)) &&& 1))])) _
        refine XS.iload X15.here hx rfl (hb hby at_154) rfl ?_
        show Steps p.tables e below (T15.setTop (mkF m 156 #[.val (.int p0), .val (.long q1), .second, .val (.int p2), .val (.int p3), .val (.int p4), .val (.long q5), .second, .val (.int (0 : Int32)), .val (.int (0 : Int32)), .val (.ref b5), .val (.int ((f3_12 (0 : Int32)) &&& 1)), .val (.int ((f3_12 (0 : Int32)) &&& 1)), .val (.int ((f3_12 (0 : Int32)) &&& 1))] [(.int (0 : Int32)), (.int ((f3_12 (0 : Int32)) &&& 1))])) _
        refine XS.iload X15.here hx rfl (hb hby at_156) rfl ?_
        show Steps p.tables e below (T15.setTop (mkF m 158 #[.val (.int p0), .val (.long q1), .second, .val (.int p2), .val (.int p3), .val (.int p4), .val (.long q5), .second, .val (.int (0 : Int32)), .val (.int (0 : Int32)), .val (.ref b5), .val (.int ((f3_12 (0 : Int32)) &&& 1)), .val (.int ((f3_12 (0 : Int32)) &&& 1)), .val (.int ((f3_12 (0 : Int32)) &&& 1))] [(.int (0 : Int32)), (.int (0 : Int32)), (.int ((f3_12 (0 : Int32)) &&& 1))])) _
        refine XS.icmpNo X15.here hx rfl (hb hby at_158) rfl (teq (show (0 : Int32) = (0 : Int32) by decide)).2 ?_
        show Steps p.tables e below (T15.setTop (mkF m 161 #[.val (.int p0), .val (.long q1), .second, .val (.int p2), .val (.int p3), .val (.int p4), .val (.long q5), .second, .val (.int (0 : Int32)), .val (.int (0 : Int32)), .val (.ref b5), .val (.int ((f3_12 (0 : Int32)) &&& 1)), .val (.int ((f3_12 (0 : Int32)) &&& 1)), .val (.int ((f3_12 (0 : Int32)) &&& 1))] [(.int ((f3_12 (0 : Int32)) &&& 1))])) _
        refine XS.iconst X15.here hx rfl (hb hby at_161) ?_
        show Steps p.tables e below (T15.setTop (mkF m 162 #[.val (.int p0), .val (.long q1), .second, .val (.int p2), .val (.int p3), .val (.int p4), .val (.long q5), .second, .val (.int (0 : Int32)), .val (.int (0 : Int32)), .val (.ref b5), .val (.int ((f3_12 (0 : Int32)) &&& 1)), .val (.int ((f3_12 (0 : Int32)) &&& 1)), .val (.int ((f3_12 (0 : Int32)) &&& 1))] [(.int (1 : Int32)), (.int ((f3_12 (0 : Int32)) &&& 1))])) _
        refine XS.goto X15.here hx rfl (pc0 := 162) (pc' := 166) rfl (hb hby at_162) (by decide) (by decide) ?_
        show Steps p.tables e below (T15.setTop (mkF m 166 #[.val (.int p0), .val (.long q1), .second, .val (.int p2), .val (.int p3), .val (.int p4), .val (.long q5), .second, .val (.int (0 : Int32)), .val (.int (0 : Int32)), .val (.ref b5), .val (.int ((f3_12 (0 : Int32)) &&& 1)), .val (.int ((f3_12 (0 : Int32)) &&& 1)), .val (.int ((f3_12 (0 : Int32)) &&& 1))] [(.int (1 : Int32)), (.int ((f3_12 (0 : Int32)) &&& 1))])) _
        refine XS.icmpNo X15.here hx rfl (hb hby at_166) rfl (teq (show ((f3_12 (0 : Int32)) &&& 1) = (1 : Int32) from by decide)).2 ?_
        show Steps p.tables e below (T15.setTop (mkF m 169 #[.val (.int p0), .val (.long q1), .second, .val (.int p2), .val (.int p3), .val (.int p4), .val (.long q5), .second, .val (.int (0 : Int32)), .val (.int (0 : Int32)), .val (.ref b5), .val (.int ((f3_12 (0 : Int32)) &&& 1)), .val (.int ((f3_12 (0 : Int32)) &&& 1)), .val (.int ((f3_12 (0 : Int32)) &&& 1))] [])) _
        refine XS.iconst X15.here hx rfl (hb hby at_169) ?_
        show Steps p.tables e below (T15.setTop (mkF m 170 #[.val (.int p0), .val (.long q1), .second, .val (.int p2), .val (.int p3), .val (.int p4), .val (.long q5), .second, .val (.int (0 : Int32)), .val (.int (0 : Int32)), .val (.ref b5), .val (.int ((f3_12 (0 : Int32)) &&& 1)), .val (.int ((f3_12 (0 : Int32)) &&& 1)), .val (.int ((f3_12 (0 : Int32)) &&& 1))] [(.int (1 : Int32))])) _
        refine XS.goto X15.here hx rfl (pc0 := 170) (pc' := 174) rfl (hb hby at_170) (by decide) (by decide) ?_
        show Steps p.tables e below (T15.setTop (mkF m 174 #[.val (.int p0), .val (.long q1), .second, .val (.int p2), .val (.int p3), .val (.int p4), .val (.long q5), .second, .val (.int (0 : Int32)), .val (.int (0 : Int32)), .val (.ref b5), .val (.int ((f3_12 (0 : Int32)) &&& 1)), .val (.int ((f3_12 (0 : Int32)) &&& 1)), .val (.int ((f3_12 (0 : Int32)) &&& 1))] [(.int (1 : Int32))])) _
        exact k)
      obtain ⟨fs, hr, hrun, hended, hW, hsame⟩ := X15.leave (v := some (.int (1 : Int32))) (fun h => by rw [Bd.returns] at h; cases h)
      refine ⟨_, _, pre16 _ ?_, hrun, hended, _, _, rfl, ?_, ⟨_, rfl⟩, hW, hsame.mono (by decide) (by decide)⟩
      · exact retN X15 hx (t := .boolean) Bd.returns (by simp) (hb hby at_174) hr
      · show Q0 Z p0 q1 p2 p3 p4 q5 h0 n0 _ T15.heap _
        rw [hh15]
        exact ⟨rfl, N15⟩
  · have pre17 : ∀ t, Steps p.tables e below (s₁.setTop (mkF m 6 #[.val (.int p0), .val (.long q1), .second, .val (.int p2), .val (.int p3), .val (.int p4), .val (.long q5), .second, .val (.int (1 : Int32)), .unset, .unset, .unset, .unset, .unset] [])) t → Steps p.tables e below (s₁.setTop (entryFrame m #[(.int p0), (.long q1), (.int p2), (.int p3), (.int p4), (.long q5)] maxLocals)) t := fun t k => pre1 t (by rw [hk]; exact k)
    have pre18 : ∀ t, Steps p.tables e below (s₁.setTop (mkF m 18 #[.val (.int p0), .val (.long q1), .second, .val (.int p2), .val (.int p3), .val (.int p4), .val (.long q5), .second, .val (.int (1 : Int32)), .val (.int ((p4 &&& (2147483647 : Int32)) % (2 : Int32))), .unset, .unset, .unset, .unset] [])) t → Steps p.tables e below (s₁.setTop (entryFrame m #[(.int p0), (.long q1), (.int p2), (.int p3), (.int p4), (.long q5)] maxLocals)) t := fun t k => pre17 t (by
      show Steps p.tables e below (s₁.setTop (mkF m 6 #[.val (.int p0), .val (.long q1), .second, .val (.int p2), .val (.int p3), .val (.int p4), .val (.long q5), .second, .val (.int (1 : Int32)), .unset, .unset, .unset, .unset, .unset] [])) _
      refine XS.iload X0.here hx rfl (hb hby at_6) rfl ?_
      show Steps p.tables e below (s₁.setTop (mkF m 8 #[.val (.int p0), .val (.long q1), .second, .val (.int p2), .val (.int p3), .val (.int p4), .val (.long q5), .second, .val (.int (1 : Int32)), .unset, .unset, .unset, .unset, .unset] [(.int p4)])) _
      refine X0.ldcInt hx hown (mvT hZ (hw _ (List.mem_of_getElem? (i := 0) rfl))) (g := (mkF m 8 #[.val (.int p0), .val (.long q1), .second, .val (.int p2), .val (.int p3), .val (.int p4), .val (.long q5), .second, .val (.int (1 : Int32)), .unset, .unset, .unset, .unset, .unset] [(.int p4)])) rfl (hb hby at_8) _ ?_
      show Steps p.tables e below (s₁.setTop (mkF m 10 #[.val (.int p0), .val (.long q1), .second, .val (.int p2), .val (.int p3), .val (.int p4), .val (.long q5), .second, .val (.int (1 : Int32)), .unset, .unset, .unset, .unset, .unset] [(.int (2147483647 : Int32)), (.int p4)])) _
      refine XS.iand X0.here hx rfl (hb hby at_10) rfl ?_
      show Steps p.tables e below (s₁.setTop (mkF m 11 #[.val (.int p0), .val (.long q1), .second, .val (.int p2), .val (.int p3), .val (.int p4), .val (.long q5), .second, .val (.int (1 : Int32)), .unset, .unset, .unset, .unset, .unset] [(.int (p4 &&& (2147483647 : Int32)))])) _
      refine XS.iload X0.here hx rfl (hb hby at_11) rfl ?_
      show Steps p.tables e below (s₁.setTop (mkF m 13 #[.val (.int p0), .val (.long q1), .second, .val (.int p2), .val (.int p3), .val (.int p4), .val (.long q5), .second, .val (.int (1 : Int32)), .unset, .unset, .unset, .unset, .unset] [(.int (1 : Int32)), (.int (p4 &&& (2147483647 : Int32)))])) _
      refine XS.iconst X0.here hx rfl (hb hby at_13) ?_
      show Steps p.tables e below (s₁.setTop (mkF m 14 #[.val (.int p0), .val (.long q1), .second, .val (.int p2), .val (.int p3), .val (.int p4), .val (.long q5), .second, .val (.int (1 : Int32)), .unset, .unset, .unset, .unset, .unset] [(.int (1 : Int32)), (.int (1 : Int32)), (.int (p4 &&& (2147483647 : Int32)))])) _
      refine XS.iadd X0.here hx rfl (hb hby at_14) rfl ?_
      show Steps p.tables e below (s₁.setTop (mkF m 15 #[.val (.int p0), .val (.long q1), .second, .val (.int p2), .val (.int p3), .val (.int p4), .val (.long q5), .second, .val (.int (1 : Int32)), .unset, .unset, .unset, .unset, .unset] [(.int (2 : Int32)), (.int (p4 &&& (2147483647 : Int32)))])) _
      refine iremM (g := (mkF m 15 #[.val (.int p0), .val (.long q1), .second, .val (.int p2), .val (.int p3), .val (.int p4), .val (.long q5), .second, .val (.int (1 : Int32)), .unset, .unset, .unset, .unset, .unset] [(.int (2 : Int32)), (.int (p4 &&& (2147483647 : Int32)))])) X0 hx rfl (hb hby at_15) rfl (by decide) ?_
      show Steps p.tables e below (s₁.setTop (mkF m 16 #[.val (.int p0), .val (.long q1), .second, .val (.int p2), .val (.int p3), .val (.int p4), .val (.long q5), .second, .val (.int (1 : Int32)), .unset, .unset, .unset, .unset, .unset] [(.int ((p4 &&& (2147483647 : Int32)) % (2 : Int32)))])) _
      refine XS.istore X0.here hx rfl (hb hby at_16) rfl (l' := #[.val (.int p0), .val (.long q1), .second, .val (.int p2), .val (.int p3), .val (.int p4), .val (.long q5), .second, .val (.int (1 : Int32)), .val (.int ((p4 &&& (2147483647 : Int32)) % (2 : Int32))), .unset, .unset, .unset, .unset]) rfl ?_
      show Steps p.tables e below (s₁.setTop (mkF m 18 #[.val (.int p0), .val (.long q1), .second, .val (.int p2), .val (.int p3), .val (.int p4), .val (.long q5), .second, .val (.int (1 : Int32)), .val (.int ((p4 &&& (2147483647 : Int32)) % (2 : Int32))), .unset, .unset, .unset, .unset] [])) _
      exact k)
    rcases own_rm2 p4 with hk | hk
    · have pre19 : ∀ t, Steps p.tables e below (s₁.setTop (mkF m 18 #[.val (.int p0), .val (.long q1), .second, .val (.int p2), .val (.int p3), .val (.int p4), .val (.long q5), .second, .val (.int (1 : Int32)), .val (.int (0 : Int32)), .unset, .unset, .unset, .unset] [])) t → Steps p.tables e below (s₁.setTop (entryFrame m #[(.int p0), (.long q1), (.int p2), (.int p3), (.int p4), (.long q5)] maxLocals)) t := fun t k => pre18 t (by rw [hk]; exact k)
      obtain ⟨T20, h20, X20, e20, Ex20, Ne20, D20, -, st20⟩ := newO X0 hx hZ hown (hw _ (List.mem_of_getElem? (i := 1) rfl)) (hw _ (List.mem_of_getElem? (i := 2) rfl)) (hw _ (List.mem_of_getElem? (i := 3) rfl)) e0 (g := (mkF m 18 #[.val (.int p0), .val (.long q1), .second, .val (.int p2), .val (.int p3), .val (.int p4), .val (.long q5), .second, .val (.int (1 : Int32)), .val (.int (0 : Int32)), .unset, .unset, .unset, .unset] [])) rfl (hb hby at_18) (by decide) (by decide)
      obtain ⟨b20, g20⟩ : ∃ z, z = h0.size := ⟨_, rfl⟩
      rw [← g20] at Ne20 D20 st20
      have g_b20 : n0 ≤ b20 := Nat.le_trans (Nat.le_trans Z0 (Nat.le_refl _)) (Nat.le_of_eq g20.symm)
      have sz_b20 : h0.size ≤ b20 := Nat.le_trans (Nat.le_refl _) (Nat.le_of_eq g20.symm)
      have SZ22 : h0.size ≤ h20.size := Nat.le_trans (Nat.le_refl _) Ex20.1
      have ZZ22 : n0 ≤ h20.size := Nat.le_trans Z0 SZ22
      have K23 : Keep h0 h20 [] := ((Keep.refl h0 [])).ext Ex20
      have F_ranks_b20_20 : Fld Z h20 b20 "com/example/brisk_maze/briskmaze/search/RankedFrontier" "ranks" "[J" .null := D20 (Or.inl (hw _ (List.mem_of_getElem? (i := 12) rfl))) (ty := (.array .long)) (by decide)
      have F_costs_b20_20 : Fld Z h20 b20 "com/example/brisk_maze/briskmaze/search/RankedFrontier" "costs" "[I" .null := D20 (Or.inl (hw _ (List.mem_of_getElem? (i := 15) rfl))) (ty := (.array .int)) (by decide)
      have F_states_b20_20 : Fld Z h20 b20 "com/example/brisk_maze/briskmaze/search/RankedFrontier" "states" "[I" .null := D20 (Or.inl (hw _ (List.mem_of_getElem? (i := 17) rfl))) (ty := (.array .int)) (by decide)
      have F_size_b20_20 : Fld Z h20 b20 "com/example/brisk_maze/briskmaze/search/RankedFrontier" "size" "I" (.int (0 : Int32)) := D20 (Or.inl (hw _ (List.mem_of_getElem? (i := 24) rfl))) (ty := .int) (by decide)
      obtain ⟨_, _, ⟨T24, L24, k24, n24⟩, -, X24, ⟨Lc24, hQ24, l24, y24, z24⟩, st24⟩ := X20.specialBack hx (y := (⟨"com/example/brisk_maze/briskmaze/search/RankedFrontier", "<init>", "()V"⟩ : MethodName)) rfl hown (mvT hZ (hw _ (List.mem_of_getElem? (i := 4) rfl))) (mvT hZ (hw _ (List.mem_of_getElem? (i := 5) rfl))) (mvT hZ (hw _ (List.mem_of_getElem? (i := 6) rfl))) (by decide) (backOf (W := 1) (rm1 l Z a0 hw [] b20 h20 n0 ZZ22 F_ranks_b20_20 F_costs_b20_20 F_states_b20_20 Ne20 F_size_b20_20 g_b20) hZ (hw _ (List.mem_of_getElem? (i := 6) rfl)) (hw _ (List.mem_of_getElem? (i := 3) rfl)) (by decide) (by decide)) (g := (mkF m 22 #[.val (.int p0), .val (.long q1), .second, .val (.int p2), .val (.int p3), .val (.int p4), .val (.long q5), .second, .val (.int (1 : Int32)), .val (.int (0 : Int32)), .unset, .unset, .unset, .unset] [(.ref b20), (.ref b20)])) rfl (by rw [hml]; rfl) (Steps.refl _) (a := b20) (argsL := []) (rest := [(.ref b20)]) (lenOf pd_4 rfl) rfl (by show 2 * 0 + _ ≤ _; exact Nat.le_of_eq rfl) (hb hby at_22) (fun _ _ => ⟨rfl, e20, (by decide : 1 + 3 ≤ _), (by decide : 4 + 192 ≤ _)⟩)
      dsimp only [Pt.U, Pt.locs, Pt.cells, Pt.slots] at X24 l24 y24 z24 st24 hQ24
      subst l24 y24 z24
      obtain ⟨tr_24, tc_24, ts_24, rfl, N24q, Kc24, sz_tr_24, sz_tc_24, sz_ts_24, ne_tr_tc_24, ne_tr_ts_24, ne_tc_ts_24, P24_0, P24_1, P24_2, P24_3, P24_4, P24_5, P24_6⟩ := hQ24
      have N24 := Fr.app N0 N24q
      have E_b20_25 : Exa Z T24.heap b20 "com/example/brisk_maze/briskmaze/search/RankedFrontier" := (Ne20).keep Kc24
      have SZ26 : h0.size ≤ T24.heap.size := Nat.le_trans SZ22 Kc24.1
      have ZZ26 : n0 ≤ T24.heap.size := Nat.le_trans Z0 SZ26
      have K27 : Keep h0 T24.heap [] := (K23).trans Kc24 (allS (Or.inr sz_b20) all0)
      have ne_b20_tr_24 : b20 ≠ tr_24 := Nat.ne_of_lt (Nat.lt_of_lt_of_le (Ne20).lt sz_tr_24)
      have g_tr_24 : n0 ≤ tr_24 := Nat.le_trans (Nat.le_trans Z0 SZ22) sz_tr_24
      have szz_tr_24 : h0.size ≤ tr_24 := Nat.le_trans SZ22 sz_tr_24
      have ne_b20_tc_24 : b20 ≠ tc_24 := Nat.ne_of_lt (Nat.lt_of_lt_of_le (Ne20).lt sz_tc_24)
      have g_tc_24 : n0 ≤ tc_24 := Nat.le_trans (Nat.le_trans Z0 SZ22) sz_tc_24
      have szz_tc_24 : h0.size ≤ tc_24 := Nat.le_trans SZ22 sz_tc_24
      have ne_b20_ts_24 : b20 ≠ ts_24 := Nat.ne_of_lt (Nat.lt_of_lt_of_le (Ne20).lt sz_ts_24)
      have g_ts_24 : n0 ≤ ts_24 := Nat.le_trans (Nat.le_trans Z0 SZ22) sz_ts_24
      have szz_ts_24 : h0.size ≤ ts_24 := Nat.le_trans SZ22 sz_ts_24
      obtain ⟨cq28, kq28, q28a, q28b, q28c⟩ := isOf hZ rfl (E_b20_25)
      obtain ⟨_, _, ⟨T28, L28, k28, n28⟩, -, X28, ⟨Lc28, hQ28, l28, y28, z28⟩, st28⟩ := X24.virtualBack hx (y := (⟨"com/example/brisk_maze/briskmaze/search/RankedFrontier", "isEmpty", "()Z"⟩ : MethodName)) (z := (⟨"com/example/brisk_maze/briskmaze/search/RankedFrontier", "isEmpty", "()Z"⟩ : MethodName)) hown (mvT hZ (hw _ (List.mem_of_getElem? (i := 18) rfl))) (mvT hZ (hw _ (List.mem_of_getElem? (i := 19) rfl))) (notFace_of_selects (args := #[]) (mvT hZ (hw _ (List.mem_of_getElem? (i := 21) rfl)))) (mvT hZ (hw _ (List.mem_of_getElem? (i := 21) rfl))) (mvT hZ (hw _ (List.mem_of_getElem? (i := 20) rfl))) (by decide) (backOf (W := 0) (rm3 l Z a0 hw [] b20 (0 : Int32) T24.heap n0 ZZ26 P24_3) hZ (hw _ (List.mem_of_getElem? (i := 22) rfl)) (hw _ (List.mem_of_getElem? (i := 3) rfl)) (by decide) (by decide)) q28a q28c (g := (mkF m 29 #[.val (.int p0), .val (.long q1), .second, .val (.int p2), .val (.int p3), .val (.int p4), .val (.long q5), .second, .val (.int (1 : Int32)), .val (.int (0 : Int32)), .val (.ref b20), .unset, .unset, .unset] [(.ref b20)])) rfl (by rw [hml]; rfl) (Steps.refl _) (argsL := []) (rest := []) (lenOf pd_5 rfl) rfl (by show 2 * 0 + _ ≤ _; exact Nat.le_of_eq rfl) (hb hby at_29) (fun _ _ => ⟨rfl, rfl, (by decide : 4 + 0 ≤ _), (by decide : 196 + 0 ≤ _)⟩)
      dsimp only [Pt.U, Pt.locs, Pt.cells, Pt.slots] at X28 l28 y28 z28 st28 hQ28
      subst l28 y28 z28
      obtain ⟨rfl, N28q, hh28⟩ := hQ28
      have N28 := Fr.app N24 N28q
      obtain ⟨cq29, kq29, q29a, q29b, q29c⟩ := isOf hZ hh28 (E_b20_25)
      obtain ⟨_, _, ⟨T29, L29, k29, n29⟩, -, X29, ⟨Lc29, hQ29, l29, y29, z29⟩, st29⟩ := X28.virtualBack hx (y := (⟨"com/example/brisk_maze/briskmaze/search/RankedFrontier", "add", "(IJI)V"⟩ : MethodName)) (z := (⟨"com/example/brisk_maze/briskmaze/search/RankedFrontier", "add", "(IJI)V"⟩ : MethodName)) hown (mvT hZ (hw _ (List.mem_of_getElem? (i := 25) rfl))) (mvT hZ (hw _ (List.mem_of_getElem? (i := 26) rfl))) (notFace_of_selects (args := #[]) (mvT hZ (hw _ (List.mem_of_getElem? (i := 28) rfl)))) (mvT hZ (hw _ (List.mem_of_getElem? (i := 28) rfl))) (mvT hZ (hw _ (List.mem_of_getElem? (i := 27) rfl))) (by decide) (backOf (W := 0) (rm4 l Z a0 hw [] b20 p0 q1 p2 tr_24 tc_24 ts_24 (fun _ => ((0 : Int64), (0 : Int32), (0 : Int32))) (0 : Nat) T24.heap n0 ZZ26 P24_0 P24_1 P24_2 E_b20_25 P24_3 P24_4 P24_5 P24_6 g_tr_24 g_tc_24 g_ts_24 g_b20 ne_b20_tr_24 ne_b20_tc_24 ne_b20_ts_24 ne_tr_tc_24 ne_tr_ts_24 ne_tc_ts_24 (by decide) (fun j _ j1 => absurd j1 (Nat.not_lt_zero _))) hZ (hw _ (List.mem_of_getElem? (i := 29) rfl)) (hw _ (List.mem_of_getElem? (i := 3) rfl)) (by decide) (by decide)) q29a q29c (g := (mkF m 45 #[.val (.int p0), .val (.long q1), .second, .val (.int p2), .val (.int p3), .val (.int p4), .val (.long q5), .second, .val (.int (1 : Int32)), .val (.int (0 : Int32)), .val (.ref b20), .val (.int ((f3_12 (0 : Int32)) &&& 1)), .unset, .unset] [(.int p2), (.long q1), (.int p0), (.ref b20)])) rfl (by rw [hml]; rfl) (Steps.refl _) (argsL := [(.int p0), (.long q1), (.int p2)]) (rest := []) (lenOf pd_6 rfl) rfl (by show 2 * 0 + _ ≤ _; exact Nat.le_of_eq rfl) (hb hby at_45) (fun _ _ => ⟨rfl, hh28, (by decide : 4 + 0 ≤ _), (by decide : 196 + 0 ≤ _)⟩)
      dsimp only [Pt.U, Pt.locs, Pt.cells, Pt.slots] at X29 l29 y29 z29 st29 hQ29
      subst l29 y29 z29
      obtain ⟨f2_29, rfl, N29q, Kc29, P29_0, P29_1, P29_2, P29_3, P29_4, P29_5, P29_6, P29_7, P29_8⟩ := hQ29
      have N29 := Fr.app N28 N29q
      have E_b20_30 : Exa Z T29.heap b20 "com/example/brisk_maze/briskmaze/search/RankedFrontier" := (E_b20_25).keep Kc29
      have SZ31 : h0.size ≤ T29.heap.size := Nat.le_trans SZ26 Kc29.1
      have ZZ31 : n0 ≤ T29.heap.size := Nat.le_trans Z0 SZ31
      have K32 : Keep h0 T29.heap [] := (K27).trans Kc29 (allS (Or.inr szz_tr_24) (allS (Or.inr szz_tc_24) (allS (Or.inr szz_ts_24) (allS (Or.inr sz_b20) all0))))
      obtain ⟨cq33, kq33, q33a, q33b, q33c⟩ := isOf hZ rfl (E_b20_30)
      obtain ⟨_, _, ⟨T33, L33, k33, n33⟩, -, X33, ⟨Lc33, hQ33, l33, y33, z33⟩, st33⟩ := X29.virtualBack hx (y := (⟨"com/example/brisk_maze/briskmaze/search/RankedFrontier", "isEmpty", "()Z"⟩ : MethodName)) (z := (⟨"com/example/brisk_maze/briskmaze/search/RankedFrontier", "isEmpty", "()Z"⟩ : MethodName)) hown (mvT hZ (hw _ (List.mem_of_getElem? (i := 18) rfl))) (mvT hZ (hw _ (List.mem_of_getElem? (i := 19) rfl))) (notFace_of_selects (args := #[]) (mvT hZ (hw _ (List.mem_of_getElem? (i := 21) rfl)))) (mvT hZ (hw _ (List.mem_of_getElem? (i := 21) rfl))) (mvT hZ (hw _ (List.mem_of_getElem? (i := 20) rfl))) (by decide) (backOf (W := 0) (rm3 l Z a0 hw [] b20 (((0 : Nat) + 1).toInt32) T29.heap n0 ZZ31 P29_0) hZ (hw _ (List.mem_of_getElem? (i := 22) rfl)) (hw _ (List.mem_of_getElem? (i := 3) rfl)) (by decide) (by decide)) q33a q33c (g := (mkF m 84 #[.val (.int p0), .val (.long q1), .second, .val (.int p2), .val (.int p3), .val (.int p4), .val (.long q5), .second, .val (.int (1 : Int32)), .val (.int (0 : Int32)), .val (.ref b20), .val (.int ((f3_12 (0 : Int32)) &&& 1)), .unset, .unset] [(.ref b20)])) rfl (by rw [hml]; rfl) (Steps.refl _) (argsL := []) (rest := []) (lenOf pd_5 rfl) rfl (by show 2 * 0 + _ ≤ _; exact Nat.le_of_eq rfl) (hb hby at_84) (fun _ _ => ⟨rfl, rfl, (by decide : 4 + 0 ≤ _), (by decide : 196 + 0 ≤ _)⟩)
      dsimp only [Pt.U, Pt.locs, Pt.cells, Pt.slots] at X33 l33 y33 z33 st33 hQ33
      subst l33 y33 z33
      obtain ⟨rfl, N33q, hh33⟩ := hQ33
      have N33 := Fr.app N29 N33q
      obtain ⟨cq34, kq34, q34a, q34b, q34c⟩ := isOf hZ hh33 (E_b20_30)
      obtain ⟨_, _, ⟨T34, L34, k34, n34⟩, -, X34, ⟨Lc34, hQ34, l34, y34, z34⟩, st34⟩ := X33.virtualBack hx (y := (⟨"com/example/brisk_maze/briskmaze/search/RankedFrontier", "isEmpty", "()Z"⟩ : MethodName)) (z := (⟨"com/example/brisk_maze/briskmaze/search/RankedFrontier", "isEmpty", "()Z"⟩ : MethodName)) hown (mvT hZ (hw _ (List.mem_of_getElem? (i := 18) rfl))) (mvT hZ (hw _ (List.mem_of_getElem? (i := 19) rfl))) (notFace_of_selects (args := #[]) (mvT hZ (hw _ (List.mem_of_getElem? (i := 21) rfl)))) (mvT hZ (hw _ (List.mem_of_getElem? (i := 21) rfl))) (mvT hZ (hw _ (List.mem_of_getElem? (i := 20) rfl))) (by decide) (backOf (W := 0) (rm3 l Z a0 hw [] b20 (((0 : Nat) + 1).toInt32) T29.heap n0 ZZ31 P29_0) hZ (hw _ (List.mem_of_getElem? (i := 22) rfl)) (hw _ (List.mem_of_getElem? (i := 3) rfl)) (by decide) (by decide)) q34a q34c (g := (mkF m 127 #[.val (.int p0), .val (.long q1), .second, .val (.int p2), .val (.int p3), .val (.int p4), .val (.long q5), .second, .val (.int (1 : Int32)), .val (.int (0 : Int32)), .val (.ref b20), .val (.int ((f3_12 (0 : Int32)) &&& 1)), .val (.int ((f3_12 (((0 : Nat) + 1).toInt32)) &&& 1)), .unset] [(.ref b20)])) rfl (by rw [hml]; rfl) (Steps.refl _) (argsL := []) (rest := []) (lenOf pd_5 rfl) rfl (by show 2 * 0 + _ ≤ _; exact Nat.le_of_eq rfl) (hb hby at_127) (fun _ _ => ⟨rfl, hh33, (by decide : 4 + 0 ≤ _), (by decide : 196 + 0 ≤ _)⟩)
      dsimp only [Pt.U, Pt.locs, Pt.cells, Pt.slots] at X34 l34 y34 z34 st34 hQ34
      subst l34 y34 z34
      obtain ⟨rfl, N34q, hh34⟩ := hQ34
      have N34 := Fr.app N33 N34q
      have pre35 : ∀ t, Steps p.tables e below (T34.setTop (mkF m 174 #[.val (.int p0), .val (.long q1), .second, .val (.int p2), .val (.int p3), .val (.int p4), .val (.long q5), .second, .val (.int (1 : Int32)), .val (.int (0 : Int32)), .val (.ref b20), .val (.int ((f3_12 (0 : Int32)) &&& 1)), .val (.int ((f3_12 (((0 : Nat) + 1).toInt32)) &&& 1)), .val (.int ((f3_12 (((0 : Nat) + 1).toInt32)) &&& 1))] [(.int (1 : Int32))])) t → Steps p.tables e below (s₁.setTop (entryFrame m #[(.int p0), (.long q1), (.int p2), (.int p3), (.int p4), (.long q5)] maxLocals)) t := fun t k => pre19 t (by
        show Steps p.tables e below (s₁.setTop (mkF m 18 #[.val (.int p0), .val (.long q1), .second, .val (.int p2), .val (.int p3), .val (.int p4), .val (.long q5), .second, .val (.int (1 : Int32)), .val (.int (0 : Int32)), .unset, .unset, .unset, .unset] [])) _
        refine st20 _ ?_
        show Steps p.tables e below (T20.setTop (mkF m 21 #[.val (.int p0), .val (.long q1), .second, .val (.int p2), .val (.int p3), .val (.int p4), .val (.long q5), .second, .val (.int (1 : Int32)), .val (.int (0 : Int32)), .unset, .unset, .unset, .unset] [(.ref b20)])) _
        refine XS.dup X20.here hx rfl (hb hby at_21) rfl rfl ?_
        show Steps p.tables e below (T20.setTop (mkF m 22 #[.val (.int p0), .val (.long q1), .second, .val (.int p2), .val (.int p3), .val (.int p4), .val (.long q5), .second, .val (.int (1 : Int32)), .val (.int (0 : Int32)), .unset, .unset, .unset, .unset] [(.ref b20), (.ref b20)])) _
        refine st24.trans ?_
        show Steps p.tables e below (T24.setTop (mkF m 25 #[.val (.int p0), .val (.long q1), .second, .val (.int p2), .val (.int p3), .val (.int p4), .val (.long q5), .second, .val (.int (1 : Int32)), .val (.int (0 : Int32)), .unset, .unset, .unset, .unset] [(.ref b20)])) _
        refine XS.astore X24.here hx rfl (hb hby at_25) rfl rfl (l' := #[.val (.int p0), .val (.long q1), .second, .val (.int p2), .val (.int p3), .val (.int p4), .val (.long q5), .second, .val (.int (1 : Int32)), .val (.int (0 : Int32)), .val (.ref b20), .unset, .unset, .unset]) rfl ?_
        show Steps p.tables e below (T24.setTop (mkF m 27 #[.val (.int p0), .val (.long q1), .second, .val (.int p2), .val (.int p3), .val (.int p4), .val (.long q5), .second, .val (.int (1 : Int32)), .val (.int (0 : Int32)), .val (.ref b20), .unset, .unset, .unset] [])) _
        refine XS.aload X24.here hx rfl (hb hby at_27) rfl rfl ?_
        show Steps p.tables e below (T24.setTop (mkF m 29 #[.val (.int p0), .val (.long q1), .second, .val (.int p2), .val (.int p3), .val (.int p4), .val (.long q5), .second, .val (.int (1 : Int32)), .val (.int (0 : Int32)), .val (.ref b20), .unset, .unset, .unset] [(.ref b20)])) _
        refine st28.trans ?_
        show Steps p.tables e below (T28.setTop (mkF m 32 #[.val (.int p0), .val (.long q1), .second, .val (.int p2), .val (.int p3), .val (.int p4), .val (.long q5), .second, .val (.int (1 : Int32)), .val (.int (0 : Int32)), .val (.ref b20), .unset, .unset, .unset] [(.int ((f3_12 (0 : Int32)) &&& 1))])) _
        refine XS.istore X28.here hx rfl (hb hby at_32) rfl (l' := #[.val (.int p0), .val (.long q1), .second, .val (.int p2), .val (.int p3), .val (.int p4), .val (.long q5), .second, .val (.int (1 : Int32)), .val (.int (0 : Int32)), .val (.ref b20), .val (.int ((f3_12 (0 : Int32)) &&& 1)), .unset, .unset]) rfl ?_
        show Steps p.tables e below (T28.setTop (mkF m 34 #[.val (.int p0), .val (.long q1), .second, .val (.int p2), .val (.int p3), .val (.int p4), .val (.long q5), .second, .val (.int (1 : Int32)), .val (.int (0 : Int32)), .val (.ref b20), .val (.int ((f3_12 (0 : Int32)) &&& 1)), .unset, .unset] [])) _
        refine XS.iload X28.here hx rfl (hb hby at_34) rfl ?_
        show Steps p.tables e below (T28.setTop (mkF m 36 #[.val (.int p0), .val (.long q1), .second, .val (.int p2), .val (.int p3), .val (.int p4), .val (.long q5), .second, .val (.int (1 : Int32)), .val (.int (0 : Int32)), .val (.ref b20), .val (.int ((f3_12 (0 : Int32)) &&& 1)), .unset, .unset] [(.int (1 : Int32))])) _
        refine XS.iconst X28.here hx rfl (hb hby at_36) ?_
        show Steps p.tables e below (T28.setTop (mkF m 37 #[.val (.int p0), .val (.long q1), .second, .val (.int p2), .val (.int p3), .val (.int p4), .val (.long q5), .second, .val (.int (1 : Int32)), .val (.int (0 : Int32)), .val (.ref b20), .val (.int ((f3_12 (0 : Int32)) &&& 1)), .unset, .unset] [(.int (1 : Int32)), (.int (1 : Int32))])) _
        refine XS.icmpNo X28.here hx rfl (hb hby at_37) rfl (flt (show ¬ ((1 : Int32) < (1 : Int32)) by decide)).1 ?_
        show Steps p.tables e below (T28.setTop (mkF m 40 #[.val (.int p0), .val (.long q1), .second, .val (.int p2), .val (.int p3), .val (.int p4), .val (.long q5), .second, .val (.int (1 : Int32)), .val (.int (0 : Int32)), .val (.ref b20), .val (.int ((f3_12 (0 : Int32)) &&& 1)), .unset, .unset] [])) _
        refine XS.aload X28.here hx rfl (hb hby at_40) rfl rfl ?_
        show Steps p.tables e below (T28.setTop (mkF m 42 #[.val (.int p0), .val (.long q1), .second, .val (.int p2), .val (.int p3), .val (.int p4), .val (.long q5), .second, .val (.int (1 : Int32)), .val (.int (0 : Int32)), .val (.ref b20), .val (.int ((f3_12 (0 : Int32)) &&& 1)), .unset, .unset] [(.ref b20)])) _
        refine XS.iloadN X28.here hx rfl (hb hby at_42) rfl ?_
        show Steps p.tables e below (T28.setTop (mkF m 43 #[.val (.int p0), .val (.long q1), .second, .val (.int p2), .val (.int p3), .val (.int p4), .val (.long q5), .second, .val (.int (1 : Int32)), .val (.int (0 : Int32)), .val (.ref b20), .val (.int ((f3_12 (0 : Int32)) &&& 1)), .unset, .unset] [(.int p0), (.ref b20)])) _
        refine XS.lloadN X28.here hx rfl (hb hby at_43) rfl ?_
        show Steps p.tables e below (T28.setTop (mkF m 44 #[.val (.int p0), .val (.long q1), .second, .val (.int p2), .val (.int p3), .val (.int p4), .val (.long q5), .second, .val (.int (1 : Int32)), .val (.int (0 : Int32)), .val (.ref b20), .val (.int ((f3_12 (0 : Int32)) &&& 1)), .unset, .unset] [(.long q1), (.int p0), (.ref b20)])) _
        refine XS.iloadN X28.here hx rfl (hb hby at_44) rfl ?_
        show Steps p.tables e below (T28.setTop (mkF m 45 #[.val (.int p0), .val (.long q1), .second, .val (.int p2), .val (.int p3), .val (.int p4), .val (.long q5), .second, .val (.int (1 : Int32)), .val (.int (0 : Int32)), .val (.ref b20), .val (.int ((f3_12 (0 : Int32)) &&& 1)), .unset, .unset] [(.int p2), (.long q1), (.int p0), (.ref b20)])) _
        refine st29.trans ?_
        show Steps p.tables e below (T29.setTop (mkF m 48 #[.val (.int p0), .val (.long q1), .second, .val (.int p2), .val (.int p3), .val (.int p4), .val (.long q5), .second, .val (.int (1 : Int32)), .val (.int (0 : Int32)), .val (.ref b20), .val (.int ((f3_12 (0 : Int32)) &&& 1)), .unset, .unset] [])) _
        refine XS.iload X29.here hx rfl (hb hby at_48) rfl ?_
        show Steps p.tables e below (T29.setTop (mkF m 50 #[.val (.int p0), .val (.long q1), .second, .val (.int p2), .val (.int p3), .val (.int p4), .val (.long q5), .second, .val (.int (1 : Int32)), .val (.int (0 : Int32)), .val (.ref b20), .val (.int ((f3_12 (0 : Int32)) &&& 1)), .unset, .unset] [(.int (1 : Int32))])) _
        refine XS.iconst X29.here hx rfl (hb hby at_50) ?_
        show Steps p.tables e below (T29.setTop (mkF m 51 #[.val (.int p0), .val (.long q1), .second, .val (.int p2), .val (.int p3), .val (.int p4), .val (.long q5), .second, .val (.int (1 : Int32)), .val (.int (0 : Int32)), .val (.ref b20), .val (.int ((f3_12 (0 : Int32)) &&& 1)), .unset, .unset] [(.int (2 : Int32)), (.int (1 : Int32))])) _
        refine XS.icmpYes X29.here hx rfl (pc0 := 51) (pc' := 63) rfl (hb hby at_51) rfl (tlt (show (1 : Int32) < (2 : Int32) by decide)).1 (by decide) (by decide) ?_
        show Steps p.tables e below (T29.setTop (mkF m 63 #[.val (.int p0), .val (.long q1), .second, .val (.int p2), .val (.int p3), .val (.int p4), .val (.long q5), .second, .val (.int (1 : Int32)), .val (.int (0 : Int32)), .val (.ref b20), .val (.int ((f3_12 (0 : Int32)) &&& 1)), .unset, .unset] [])) _
        refine XS.iload X29.here hx rfl (hb hby at_63) rfl ?_
        show Steps p.tables e below (T29.setTop (mkF m 65 #[.val (.int p0), .val (.long q1), .second, .val (.int p2), .val (.int p3), .val (.int p4), .val (.long q5), .second, .val (.int (1 : Int32)), .val (.int (0 : Int32)), .val (.ref b20), .val (.int ((f3_12 (0 : Int32)) &&& 1)), .unset, .unset] [(.int (1 : Int32))])) _
        refine XS.iconst X29.here hx rfl (hb hby at_65) ?_
        show Steps p.tables e below (T29.setTop (mkF m 66 #[.val (.int p0), .val (.long q1), .second, .val (.int p2), .val (.int p3), .val (.int p4), .val (.long q5), .second, .val (.int (1 : Int32)), .val (.int (0 : Int32)), .val (.ref b20), .val (.int ((f3_12 (0 : Int32)) &&& 1)), .unset, .unset] [(.int (3 : Int32)), (.int (1 : Int32))])) _
        refine XS.icmpYes X29.here hx rfl (pc0 := 66) (pc' := 82) rfl (hb hby at_66) rfl (tlt (show (1 : Int32) < (3 : Int32) by decide)).1 (by decide) (by decide) ?_
        show Steps p.tables e below (T29.setTop (mkF m 82 #[.val (.int p0), .val (.long q1), .second, .val (.int p2), .val (.int p3), .val (.int p4), .val (.long q5), .second, .val (.int (1 : Int32)), .val (.int (0 : Int32)), .val (.ref b20), .val (.int ((f3_12 (0 : Int32)) &&& 1)), .unset, .unset] [])) _
        refine XS.aload X29.here hx rfl (hb hby at_82) rfl rfl ?_
        show Steps p.tables e below (T29.setTop (mkF m 84 #[.val (.int p0), .val (.long q1), .second, .val (.int p2), .val (.int p3), .val (.int p4), .val (.long q5), .second, .val (.int (1 : Int32)), .val (.int (0 : Int32)), .val (.ref b20), .val (.int ((f3_12 (0 : Int32)) &&& 1)), .unset, .unset] [(.ref b20)])) _
        refine st33.trans ?_
        show Steps p.tables e below (T33.setTop (mkF m 87 #[.val (.int p0), .val (.long q1), .second, .val (.int p2), .val (.int p3), .val (.int p4), .val (.long q5), .second, .val (.int (1 : Int32)), .val (.int (0 : Int32)), .val (.ref b20), .val (.int ((f3_12 (0 : Int32)) &&& 1)), .unset, .unset] [(.int ((f3_12 (((0 : Nat) + 1).toInt32)) &&& 1))])) _
        refine XS.istore X33.here hx rfl (hb hby at_87) rfl (l' := #[.val (.int p0), .val (.long q1), .second, .val (.int p2), .val (.int p3), .val (.int p4), .val (.long q5), .second, .val (.int (1 : Int32)), .val (.int (0 : Int32)), .val (.ref b20), .val (.int ((f3_12 (0 : Int32)) &&& 1)), .val (.int ((f3_12 (((0 : Nat) + 1).toInt32)) &&& 1)), .unset]) rfl ?_
        show Steps p.tables e below (T33.setTop (mkF m 89 #[.val (.int p0), .val (.long q1), .second, .val (.int p2), .val (.int p3), .val (.int p4), .val (.long q5), .second, .val (.int (1 : Int32)), .val (.int (0 : Int32)), .val (.ref b20), .val (.int ((f3_12 (0 : Int32)) &&& 1)), .val (.int ((f3_12 (((0 : Nat) + 1).toInt32)) &&& 1)), .unset] [])) _
        refine XS.iload X33.here hx rfl (hb hby at_89) rfl ?_
        show Steps p.tables e below (T33.setTop (mkF m 91 #[.val (.int p0), .val (.long q1), .second, .val (.int p2), .val (.int p3), .val (.int p4), .val (.long q5), .second, .val (.int (1 : Int32)), .val (.int (0 : Int32)), .val (.ref b20), .val (.int ((f3_12 (0 : Int32)) &&& 1)), .val (.int ((f3_12 (((0 : Nat) + 1).toInt32)) &&& 1)), .unset] [(.int (0 : Int32))])) _
        refine XS.iconst X33.here hx rfl (hb hby at_91) ?_
        show Steps p.tables e below (T33.setTop (mkF m 92 #[.val (.int p0), .val (.long q1), .second, .val (.int p2), .val (.int p3), .val (.int p4), .val (.long q5), .second, .val (.int (1 : Int32)), .val (.int (0 : Int32)), .val (.ref b20), .val (.int ((f3_12 (0 : Int32)) &&& 1)), .val (.int ((f3_12 (((0 : Nat) + 1).toInt32)) &&& 1)), .unset] [(.int (1 : Int32)), (.int (0 : Int32))])) _
        refine XS.icmpYes X33.here hx rfl (pc0 := 92) (pc' := 101) rfl (hb hby at_92) rfl (tlt (show (0 : Int32) < (1 : Int32) by decide)).1 (by decide) (by decide) ?_
        show Steps p.tables e below (T33.setTop (mkF m 101 #[.val (.int p0), .val (.long q1), .second, .val (.int p2), .val (.int p3), .val (.int p4), .val (.long q5), .second, .val (.int (1 : Int32)), .val (.int (0 : Int32)), .val (.ref b20), .val (.int ((f3_12 (0 : Int32)) &&& 1)), .val (.int ((f3_12 (((0 : Nat) + 1).toInt32)) &&& 1)), .unset] [])) _
        refine XS.iload X33.here hx rfl (hb hby at_101) rfl ?_
        show Steps p.tables e below (T33.setTop (mkF m 103 #[.val (.int p0), .val (.long q1), .second, .val (.int p2), .val (.int p3), .val (.int p4), .val (.long q5), .second, .val (.int (1 : Int32)), .val (.int (0 : Int32)), .val (.ref b20), .val (.int ((f3_12 (0 : Int32)) &&& 1)), .val (.int ((f3_12 (((0 : Nat) + 1).toInt32)) &&& 1)), .unset] [(.int (0 : Int32))])) _
        refine XS.iconst X33.here hx rfl (hb hby at_103) ?_
        show Steps p.tables e below (T33.setTop (mkF m 104 #[.val (.int p0), .val (.long q1), .second, .val (.int p2), .val (.int p3), .val (.int p4), .val (.long q5), .second, .val (.int (1 : Int32)), .val (.int (0 : Int32)), .val (.ref b20), .val (.int ((f3_12 (0 : Int32)) &&& 1)), .val (.int ((f3_12 (((0 : Nat) + 1).toInt32)) &&& 1)), .unset] [(.int (2 : Int32)), (.int (0 : Int32))])) _
        refine XS.icmpYes X33.here hx rfl (pc0 := 104) (pc' := 113) rfl (hb hby at_104) rfl (tlt (show (0 : Int32) < (2 : Int32) by decide)).1 (by decide) (by decide) ?_
        show Steps p.tables e below (T33.setTop (mkF m 113 #[.val (.int p0), .val (.long q1), .second, .val (.int p2), .val (.int p3), .val (.int p4), .val (.long q5), .second, .val (.int (1 : Int32)), .val (.int (0 : Int32)), .val (.ref b20), .val (.int ((f3_12 (0 : Int32)) &&& 1)), .val (.int ((f3_12 (((0 : Nat) + 1).toInt32)) &&& 1)), .unset] [])) _
        refine XS.iload X33.here hx rfl (hb hby at_113) rfl ?_
        show Steps p.tables e below (T33.setTop (mkF m 115 #[.val (.int p0), .val (.long q1), .second, .val (.int p2), .val (.int p3), .val (.int p4), .val (.long q5), .second, .val (.int (1 : Int32)), .val (.int (0 : Int32)), .val (.ref b20), .val (.int ((f3_12 (0 : Int32)) &&& 1)), .val (.int ((f3_12 (((0 : Nat) + 1).toInt32)) &&& 1)), .unset] [(.int (0 : Int32))])) _
        refine XS.iconst X33.here hx rfl (hb hby at_115) ?_
        show Steps p.tables e below (T33.setTop (mkF m 116 #[.val (.int p0), .val (.long q1), .second, .val (.int p2), .val (.int p3), .val (.int p4), .val (.long q5), .second, .val (.int (1 : Int32)), .val (.int (0 : Int32)), .val (.ref b20), .val (.int ((f3_12 (0 : Int32)) &&& 1)), .val (.int ((f3_12 (((0 : Nat) + 1).toInt32)) &&& 1)), .unset] [(.int (3 : Int32)), (.int (0 : Int32))])) _
        refine XS.icmpYes X33.here hx rfl (pc0 := 116) (pc' := 125) rfl (hb hby at_116) rfl (tlt (show (0 : Int32) < (3 : Int32) by decide)).1 (by decide) (by decide) ?_
        show Steps p.tables e below (T33.setTop (mkF m 125 #[.val (.int p0), .val (.long q1), .second, .val (.int p2), .val (.int p3), .val (.int p4), .val (.long q5), .second, .val (.int (1 : Int32)), .val (.int (0 : Int32)), .val (.ref b20), .val (.int ((f3_12 (0 : Int32)) &&& 1)), .val (.int ((f3_12 (((0 : Nat) + 1).toInt32)) &&& 1)), .unset] [])) _
        refine XS.aload X33.here hx rfl (hb hby at_125) rfl rfl ?_
        show Steps p.tables e below (T33.setTop (mkF m 127 #[.val (.int p0), .val (.long q1), .second, .val (.int p2), .val (.int p3), .val (.int p4), .val (.long q5), .second, .val (.int (1 : Int32)), .val (.int (0 : Int32)), .val (.ref b20), .val (.int ((f3_12 (0 : Int32)) &&& 1)), .val (.int ((f3_12 (((0 : Nat) + 1).toInt32)) &&& 1)), .unset] [(.ref b20)])) _
        refine st34.trans ?_
        show Steps p.tables e below (T34.setTop (mkF m 130 #[.val (.int p0), .val (.long q1), .second, .val (.int p2), .val (.int p3), .val (.int p4), .val (.long q5), .second, .val (.int (1 : Int32)), .val (.int (0 : Int32)), .val (.ref b20), .val (.int ((f3_12 (0 : Int32)) &&& 1)), .val (.int ((f3_12 (((0 : Nat) + 1).toInt32)) &&& 1)), .unset] [(.int ((f3_12 (((0 : Nat) + 1).toInt32)) &&& 1))])) _
        refine XS.istore X34.here hx rfl (hb hby at_130) rfl (l' := #[.val (.int p0), .val (.long q1), .second, .val (.int p2), .val (.int p3), .val (.int p4), .val (.long q5), .second, .val (.int (1 : Int32)), .val (.int (0 : Int32)), .val (.ref b20), .val (.int ((f3_12 (0 : Int32)) &&& 1)), .val (.int ((f3_12 (((0 : Nat) + 1).toInt32)) &&& 1)), .val (.int ((f3_12 (((0 : Nat) + 1).toInt32)) &&& 1))]) rfl ?_
        show Steps p.tables e below (T34.setTop (mkF m 132 #[.val (.int p0), .val (.long q1), .second, .val (.int p2), .val (.int p3), .val (.int p4), .val (.long q5), .second, .val (.int (1 : Int32)), .val (.int (0 : Int32)), .val (.ref b20), .val (.int ((f3_12 (0 : Int32)) &&& 1)), .val (.int ((f3_12 (((0 : Nat) + 1).toInt32)) &&& 1)), .val (.int ((f3_12 (((0 : Nat) + 1).toInt32)) &&& 1))] [])) _
        refine XS.iload X34.here hx rfl (hb hby at_132) rfl ?_
        show Steps p.tables e below (T34.setTop (mkF m 134 #[.val (.int p0), .val (.long q1), .second, .val (.int p2), .val (.int p3), .val (.int p4), .val (.long q5), .second, .val (.int (1 : Int32)), .val (.int (0 : Int32)), .val (.ref b20), .val (.int ((f3_12 (0 : Int32)) &&& 1)), .val (.int ((f3_12 (((0 : Nat) + 1).toInt32)) &&& 1)), .val (.int ((f3_12 (((0 : Nat) + 1).toInt32)) &&& 1))] [(.int ((f3_12 (0 : Int32)) &&& 1))])) _
        refine XS.ifNo X34.here hx rfl (hb hby at_134) rfl ((if0 _ _).trans (feq (show ¬ (((f3_12 (0 : Int32)) &&& 1) = (0 : Int32)) from by decide)).1) ?_
        show Steps p.tables e below (T34.setTop (mkF m 137 #[.val (.int p0), .val (.long q1), .second, .val (.int p2), .val (.int p3), .val (.int p4), .val (.long q5), .second, .val (.int (1 : Int32)), .val (.int (0 : Int32)), .val (.ref b20), .val (.int ((f3_12 (0 : Int32)) &&& 1)), .val (.int ((f3_12 (((0 : Nat) + 1).toInt32)) &&& 1)), .val (.int ((f3_12 (((0 : Nat) + 1).toInt32)) &&& 1))] [])) _
        refine XS.iload X34.here hx rfl (hb hby at_137) rfl ?_
        show Steps p.tables e below (T34.setTop (mkF m 139 #[.val (.int p0), .val (.long q1), .second, .val (.int p2), .val (.int p3), .val (.int p4), .val (.long q5), .second, .val (.int (1 : Int32)), .val (.int (0 : Int32)), .val (.ref b20), .val (.int ((f3_12 (0 : Int32)) &&& 1)), .val (.int ((f3_12 (((0 : Nat) + 1).toInt32)) &&& 1)), .val (.int ((f3_12 (((0 : Nat) + 1).toInt32)) &&& 1))] [(.int ((f3_12 (((0 : Nat) + 1).toInt32)) &&& 1))])) _
        refine XS.iload X34.here hx rfl (hb hby at_139) rfl ?_
        show Steps p.tables e below (T34.setTop (mkF m 141 #[.val (.int p0), .val (.long q1), .second, .val (.int p2), .val (.int p3), .val (.int p4), .val (.long q5), .second, .val (.int (1 : Int32)), .val (.int (0 : Int32)), .val (.ref b20), .val (.int ((f3_12 (0 : Int32)) &&& 1)), .val (.int ((f3_12 (((0 : Nat) + 1).toInt32)) &&& 1)), .val (.int ((f3_12 (((0 : Nat) + 1).toInt32)) &&& 1))] [(.int (1 : Int32)), (.int ((f3_12 (((0 : Nat) + 1).toInt32)) &&& 1))])) _
        refine XS.ifYes X34.here hx rfl (pc0 := 141) (pc' := 148) rfl (hb hby at_141) rfl ((if0 _ _).trans (feq (show ¬ ((1 : Int32) = (0 : Int32)) by decide)).2) (by decide) (by decide) ?_
        show Steps p.tables e below (T34.setTop (mkF m 148 #[.val (.int p0), .val (.long q1), .second, .val (.int p2), .val (.int p3), .val (.int p4), .val (.long q5), .second, .val (.int (1 : Int32)), .val (.int (0 : Int32)), .val (.ref b20), .val (.int ((f3_12 (0 : Int32)) &&& 1)), .val (.int ((f3_12 (((0 : Nat) + 1).toInt32)) &&& 1)), .val (.int ((f3_12 (((0 : Nat) + 1).toInt32)) &&& 1))] [(.int ((f3_12 (((0 : Nat) + 1).toInt32)) &&& 1))])) _
        refine XS.iconst X34.here hx rfl (hb hby at_148) ?_
        show Steps p.tables e below (T34.setTop (mkF m 149 #[.val (.int p0), .val (.long q1), .second, .val (.int p2), .val (.int p3), .val (.int p4), .val (.long q5), .second, .val (.int (1 : Int32)), .val (.int (0 : Int32)), .val (.ref b20), .val (.int ((f3_12 (0 : Int32)) &&& 1)), .val (.int ((f3_12 (((0 : Nat) + 1).toInt32)) &&& 1)), .val (.int ((f3_12 (((0 : Nat) + 1).toInt32)) &&& 1))] [(.int (0 : Int32)), (.int ((f3_12 (((0 : Nat) + 1).toInt32)) &&& 1))])) _
        refine XS.icmpNo X34.here hx rfl (hb hby at_149) rfl (teq (show ((f3_12 (((0 : Nat) + 1).toInt32)) &&& 1) = (0 : Int32) from by decide)).2 ?_
        show Steps p.tables e below (T34.setTop (mkF m 152 #[.val (.int p0), .val (.long q1), .second, .val (.int p2), .val (.int p3), .val (.int p4), .val (.long q5), .second, .val (.int (1 : Int32)), .val (.int (0 : Int32)), .val (.ref b20), .val (.int ((f3_12 (0 : Int32)) &&& 1)), .val (.int ((f3_12 (((0 : Nat) + 1).toInt32)) &&& 1)), .val (.int ((f3_12 (((0 : Nat) + 1).toInt32)) &&& 1))] [])) _
        refine XS.iload X34.here hx rfl (hb hby at_152) rfl ?_
        show Steps p.tables e below (T34.setTop (mkF m 154 #[.val (.int p0), .val (.long q1), .second, .val (.int p2), .val (.int p3), .val (.int p4), .val (.long q5), .second, .val (.int (1 : Int32)), .val (.int (0 : Int32)), .val (.ref b20), .val (.int ((f3_12 (0 : Int32)) &&& 1)), .val (.int ((f3_12 (((0 : Nat) + 1).toInt32)) &&& 1)), .val (.int ((f3_12 (((0 : Nat) + 1).toInt32)) &&& 1))] [(.int ((f3_12 (((0 : Nat) + 1).toInt32)) &&& 1))])) _
        refine XS.iload X34.here hx rfl (hb hby at_154) rfl ?_
        show Steps p.tables e below (T34.setTop (mkF m 156 #[.val (.int p0), .val (.long q1), .second, .val (.int p2), .val (.int p3), .val (.int p4), .val (.long q5), .second, .val (.int (1 : Int32)), .val (.int (0 : Int32)), .val (.ref b20), .val (.int ((f3_12 (0 : Int32)) &&& 1)), .val (.int ((f3_12 (((0 : Nat) + 1).toInt32)) &&& 1)), .val (.int ((f3_12 (((0 : Nat) + 1).toInt32)) &&& 1))] [(.int (0 : Int32)), (.int ((f3_12 (((0 : Nat) + 1).toInt32)) &&& 1))])) _
        refine XS.iload X34.here hx rfl (hb hby at_156) rfl ?_
        show Steps p.tables e below (T34.setTop (mkF m 158 #[.val (.int p0), .val (.long q1), .second, .val (.int p2), .val (.int p3), .val (.int p4), .val (.long q5), .second, .val (.int (1 : Int32)), .val (.int (0 : Int32)), .val (.ref b20), .val (.int ((f3_12 (0 : Int32)) &&& 1)), .val (.int ((f3_12 (((0 : Nat) + 1).toInt32)) &&& 1)), .val (.int ((f3_12 (((0 : Nat) + 1).toInt32)) &&& 1))] [(.int (1 : Int32)), (.int (0 : Int32)), (.int ((f3_12 (((0 : Nat) + 1).toInt32)) &&& 1))])) _
        refine XS.icmpYes X34.here hx rfl (pc0 := 158) (pc' := 165) rfl (hb hby at_158) rfl (feq (show ¬ ((0 : Int32) = (1 : Int32)) by decide)).2 (by decide) (by decide) ?_
        show Steps p.tables e below (T34.setTop (mkF m 165 #[.val (.int p0), .val (.long q1), .second, .val (.int p2), .val (.int p3), .val (.int p4), .val (.long q5), .second, .val (.int (1 : Int32)), .val (.int (0 : Int32)), .val (.ref b20), .val (.int ((f3_12 (0 : Int32)) &&& 1)), .val (.int ((f3_12 (((0 : Nat) + 1).toInt32)) &&& 1)), .val (.int ((f3_12 (((0 : Nat) + 1).toInt32)) &&& 1))] [(.int ((f3_12 (((0 : Nat) + 1).toInt32)) &&& 1))])) _
        refine XS.iconst X34.here hx rfl (hb hby at_165) ?_
        show Steps p.tables e below (T34.setTop (mkF m 166 #[.val (.int p0), .val (.long q1), .second, .val (.int p2), .val (.int p3), .val (.int p4), .val (.long q5), .second, .val (.int (1 : Int32)), .val (.int (0 : Int32)), .val (.ref b20), .val (.int ((f3_12 (0 : Int32)) &&& 1)), .val (.int ((f3_12 (((0 : Nat) + 1).toInt32)) &&& 1)), .val (.int ((f3_12 (((0 : Nat) + 1).toInt32)) &&& 1))] [(.int (0 : Int32)), (.int ((f3_12 (((0 : Nat) + 1).toInt32)) &&& 1))])) _
        refine XS.icmpNo X34.here hx rfl (hb hby at_166) rfl (teq (show ((f3_12 (((0 : Nat) + 1).toInt32)) &&& 1) = (0 : Int32) from by decide)).2 ?_
        show Steps p.tables e below (T34.setTop (mkF m 169 #[.val (.int p0), .val (.long q1), .second, .val (.int p2), .val (.int p3), .val (.int p4), .val (.long q5), .second, .val (.int (1 : Int32)), .val (.int (0 : Int32)), .val (.ref b20), .val (.int ((f3_12 (0 : Int32)) &&& 1)), .val (.int ((f3_12 (((0 : Nat) + 1).toInt32)) &&& 1)), .val (.int ((f3_12 (((0 : Nat) + 1).toInt32)) &&& 1))] [])) _
        refine XS.iconst X34.here hx rfl (hb hby at_169) ?_
        show Steps p.tables e below (T34.setTop (mkF m 170 #[.val (.int p0), .val (.long q1), .second, .val (.int p2), .val (.int p3), .val (.int p4), .val (.long q5), .second, .val (.int (1 : Int32)), .val (.int (0 : Int32)), .val (.ref b20), .val (.int ((f3_12 (0 : Int32)) &&& 1)), .val (.int ((f3_12 (((0 : Nat) + 1).toInt32)) &&& 1)), .val (.int ((f3_12 (((0 : Nat) + 1).toInt32)) &&& 1))] [(.int (1 : Int32))])) _
        refine XS.goto X34.here hx rfl (pc0 := 170) (pc' := 174) rfl (hb hby at_170) (by decide) (by decide) ?_
        show Steps p.tables e below (T34.setTop (mkF m 174 #[.val (.int p0), .val (.long q1), .second, .val (.int p2), .val (.int p3), .val (.int p4), .val (.long q5), .second, .val (.int (1 : Int32)), .val (.int (0 : Int32)), .val (.ref b20), .val (.int ((f3_12 (0 : Int32)) &&& 1)), .val (.int ((f3_12 (((0 : Nat) + 1).toInt32)) &&& 1)), .val (.int ((f3_12 (((0 : Nat) + 1).toInt32)) &&& 1))] [(.int (1 : Int32))])) _
        exact k)
      obtain ⟨fs, hr, hrun, hended, hW, hsame⟩ := X34.leave (v := some (.int (1 : Int32))) (fun h => by rw [Bd.returns] at h; cases h)
      refine ⟨_, _, pre35 _ ?_, hrun, hended, _, _, rfl, ?_, ⟨_, rfl⟩, hW, hsame.mono (by decide) (by decide)⟩
      · exact retN X34 hx (t := .boolean) Bd.returns (by simp) (hb hby at_174) hr
      · show Q0 Z p0 q1 p2 p3 p4 q5 h0 n0 _ T34.heap _
        rw [hh34]
        exact ⟨rfl, N34⟩
    · have pre36 : ∀ t, Steps p.tables e below (s₁.setTop (mkF m 18 #[.val (.int p0), .val (.long q1), .second, .val (.int p2), .val (.int p3), .val (.int p4), .val (.long q5), .second, .val (.int (1 : Int32)), .val (.int (1 : Int32)), .unset, .unset, .unset, .unset] [])) t → Steps p.tables e below (s₁.setTop (entryFrame m #[(.int p0), (.long q1), (.int p2), (.int p3), (.int p4), (.long q5)] maxLocals)) t := fun t k => pre18 t (by rw [hk]; exact k)
      obtain ⟨T37, h37, X37, e37, Ex37, Ne37, D37, -, st37⟩ := newO X0 hx hZ hown (hw _ (List.mem_of_getElem? (i := 1) rfl)) (hw _ (List.mem_of_getElem? (i := 2) rfl)) (hw _ (List.mem_of_getElem? (i := 3) rfl)) e0 (g := (mkF m 18 #[.val (.int p0), .val (.long q1), .second, .val (.int p2), .val (.int p3), .val (.int p4), .val (.long q5), .second, .val (.int (1 : Int32)), .val (.int (1 : Int32)), .unset, .unset, .unset, .unset] [])) rfl (hb hby at_18) (by decide) (by decide)
      obtain ⟨b37, g37⟩ : ∃ z, z = h0.size := ⟨_, rfl⟩
      rw [← g37] at Ne37 D37 st37
      have g_b37 : n0 ≤ b37 := Nat.le_trans (Nat.le_trans Z0 (Nat.le_refl _)) (Nat.le_of_eq g37.symm)
      have sz_b37 : h0.size ≤ b37 := Nat.le_trans (Nat.le_refl _) (Nat.le_of_eq g37.symm)
      have SZ39 : h0.size ≤ h37.size := Nat.le_trans (Nat.le_refl _) Ex37.1
      have ZZ39 : n0 ≤ h37.size := Nat.le_trans Z0 SZ39
      have K40 : Keep h0 h37 [] := ((Keep.refl h0 [])).ext Ex37
      have F_ranks_b37_37 : Fld Z h37 b37 "com/example/brisk_maze/briskmaze/search/RankedFrontier" "ranks" "[J" .null := D37 (Or.inl (hw _ (List.mem_of_getElem? (i := 12) rfl))) (ty := (.array .long)) (by decide)
      have F_costs_b37_37 : Fld Z h37 b37 "com/example/brisk_maze/briskmaze/search/RankedFrontier" "costs" "[I" .null := D37 (Or.inl (hw _ (List.mem_of_getElem? (i := 15) rfl))) (ty := (.array .int)) (by decide)
      have F_states_b37_37 : Fld Z h37 b37 "com/example/brisk_maze/briskmaze/search/RankedFrontier" "states" "[I" .null := D37 (Or.inl (hw _ (List.mem_of_getElem? (i := 17) rfl))) (ty := (.array .int)) (by decide)
      have F_size_b37_37 : Fld Z h37 b37 "com/example/brisk_maze/briskmaze/search/RankedFrontier" "size" "I" (.int (0 : Int32)) := D37 (Or.inl (hw _ (List.mem_of_getElem? (i := 24) rfl))) (ty := .int) (by decide)
      obtain ⟨_, _, ⟨T41, L41, k41, n41⟩, -, X41, ⟨Lc41, hQ41, l41, y41, z41⟩, st41⟩ := X37.specialBack hx (y := (⟨"com/example/brisk_maze/briskmaze/search/RankedFrontier", "<init>", "()V"⟩ : MethodName)) rfl hown (mvT hZ (hw _ (List.mem_of_getElem? (i := 4) rfl))) (mvT hZ (hw _ (List.mem_of_getElem? (i := 5) rfl))) (mvT hZ (hw _ (List.mem_of_getElem? (i := 6) rfl))) (by decide) (backOf (W := 1) (rm1 l Z a0 hw [] b37 h37 n0 ZZ39 F_ranks_b37_37 F_costs_b37_37 F_states_b37_37 Ne37 F_size_b37_37 g_b37) hZ (hw _ (List.mem_of_getElem? (i := 6) rfl)) (hw _ (List.mem_of_getElem? (i := 3) rfl)) (by decide) (by decide)) (g := (mkF m 22 #[.val (.int p0), .val (.long q1), .second, .val (.int p2), .val (.int p3), .val (.int p4), .val (.long q5), .second, .val (.int (1 : Int32)), .val (.int (1 : Int32)), .unset, .unset, .unset, .unset] [(.ref b37), (.ref b37)])) rfl (by rw [hml]; rfl) (Steps.refl _) (a := b37) (argsL := []) (rest := [(.ref b37)]) (lenOf pd_4 rfl) rfl (by show 2 * 0 + _ ≤ _; exact Nat.le_of_eq rfl) (hb hby at_22) (fun _ _ => ⟨rfl, e37, (by decide : 1 + 3 ≤ _), (by decide : 4 + 192 ≤ _)⟩)
      dsimp only [Pt.U, Pt.locs, Pt.cells, Pt.slots] at X41 l41 y41 z41 st41 hQ41
      subst l41 y41 z41
      obtain ⟨tr_41, tc_41, ts_41, rfl, N41q, Kc41, sz_tr_41, sz_tc_41, sz_ts_41, ne_tr_tc_41, ne_tr_ts_41, ne_tc_ts_41, P41_0, P41_1, P41_2, P41_3, P41_4, P41_5, P41_6⟩ := hQ41
      have N41 := Fr.app N0 N41q
      have E_b37_42 : Exa Z T41.heap b37 "com/example/brisk_maze/briskmaze/search/RankedFrontier" := (Ne37).keep Kc41
      have SZ43 : h0.size ≤ T41.heap.size := Nat.le_trans SZ39 Kc41.1
      have ZZ43 : n0 ≤ T41.heap.size := Nat.le_trans Z0 SZ43
      have K44 : Keep h0 T41.heap [] := (K40).trans Kc41 (allS (Or.inr sz_b37) all0)
      have ne_b37_tr_41 : b37 ≠ tr_41 := Nat.ne_of_lt (Nat.lt_of_lt_of_le (Ne37).lt sz_tr_41)
      have g_tr_41 : n0 ≤ tr_41 := Nat.le_trans (Nat.le_trans Z0 SZ39) sz_tr_41
      have szz_tr_41 : h0.size ≤ tr_41 := Nat.le_trans SZ39 sz_tr_41
      have ne_b37_tc_41 : b37 ≠ tc_41 := Nat.ne_of_lt (Nat.lt_of_lt_of_le (Ne37).lt sz_tc_41)
      have g_tc_41 : n0 ≤ tc_41 := Nat.le_trans (Nat.le_trans Z0 SZ39) sz_tc_41
      have szz_tc_41 : h0.size ≤ tc_41 := Nat.le_trans SZ39 sz_tc_41
      have ne_b37_ts_41 : b37 ≠ ts_41 := Nat.ne_of_lt (Nat.lt_of_lt_of_le (Ne37).lt sz_ts_41)
      have g_ts_41 : n0 ≤ ts_41 := Nat.le_trans (Nat.le_trans Z0 SZ39) sz_ts_41
      have szz_ts_41 : h0.size ≤ ts_41 := Nat.le_trans SZ39 sz_ts_41
      obtain ⟨cq45, kq45, q45a, q45b, q45c⟩ := isOf hZ rfl (E_b37_42)
      obtain ⟨_, _, ⟨T45, L45, k45, n45⟩, -, X45, ⟨Lc45, hQ45, l45, y45, z45⟩, st45⟩ := X41.virtualBack hx (y := (⟨"com/example/brisk_maze/briskmaze/search/RankedFrontier", "isEmpty", "()Z"⟩ : MethodName)) (z := (⟨"com/example/brisk_maze/briskmaze/search/RankedFrontier", "isEmpty", "()Z"⟩ : MethodName)) hown (mvT hZ (hw _ (List.mem_of_getElem? (i := 18) rfl))) (mvT hZ (hw _ (List.mem_of_getElem? (i := 19) rfl))) (notFace_of_selects (args := #[]) (mvT hZ (hw _ (List.mem_of_getElem? (i := 21) rfl)))) (mvT hZ (hw _ (List.mem_of_getElem? (i := 21) rfl))) (mvT hZ (hw _ (List.mem_of_getElem? (i := 20) rfl))) (by decide) (backOf (W := 0) (rm3 l Z a0 hw [] b37 (0 : Int32) T41.heap n0 ZZ43 P41_3) hZ (hw _ (List.mem_of_getElem? (i := 22) rfl)) (hw _ (List.mem_of_getElem? (i := 3) rfl)) (by decide) (by decide)) q45a q45c (g := (mkF m 29 #[.val (.int p0), .val (.long q1), .second, .val (.int p2), .val (.int p3), .val (.int p4), .val (.long q5), .second, .val (.int (1 : Int32)), .val (.int (1 : Int32)), .val (.ref b37), .unset, .unset, .unset] [(.ref b37)])) rfl (by rw [hml]; rfl) (Steps.refl _) (argsL := []) (rest := []) (lenOf pd_5 rfl) rfl (by show 2 * 0 + _ ≤ _; exact Nat.le_of_eq rfl) (hb hby at_29) (fun _ _ => ⟨rfl, rfl, (by decide : 4 + 0 ≤ _), (by decide : 196 + 0 ≤ _)⟩)
      dsimp only [Pt.U, Pt.locs, Pt.cells, Pt.slots] at X45 l45 y45 z45 st45 hQ45
      subst l45 y45 z45
      obtain ⟨rfl, N45q, hh45⟩ := hQ45
      have N45 := Fr.app N41 N45q
      obtain ⟨cq46, kq46, q46a, q46b, q46c⟩ := isOf hZ hh45 (E_b37_42)
      obtain ⟨_, _, ⟨T46, L46, k46, n46⟩, -, X46, ⟨Lc46, hQ46, l46, y46, z46⟩, st46⟩ := X45.virtualBack hx (y := (⟨"com/example/brisk_maze/briskmaze/search/RankedFrontier", "add", "(IJI)V"⟩ : MethodName)) (z := (⟨"com/example/brisk_maze/briskmaze/search/RankedFrontier", "add", "(IJI)V"⟩ : MethodName)) hown (mvT hZ (hw _ (List.mem_of_getElem? (i := 25) rfl))) (mvT hZ (hw _ (List.mem_of_getElem? (i := 26) rfl))) (notFace_of_selects (args := #[]) (mvT hZ (hw _ (List.mem_of_getElem? (i := 28) rfl)))) (mvT hZ (hw _ (List.mem_of_getElem? (i := 28) rfl))) (mvT hZ (hw _ (List.mem_of_getElem? (i := 27) rfl))) (by decide) (backOf (W := 0) (rm4 l Z a0 hw [] b37 p0 q1 p2 tr_41 tc_41 ts_41 (fun _ => ((0 : Int64), (0 : Int32), (0 : Int32))) (0 : Nat) T41.heap n0 ZZ43 P41_0 P41_1 P41_2 E_b37_42 P41_3 P41_4 P41_5 P41_6 g_tr_41 g_tc_41 g_ts_41 g_b37 ne_b37_tr_41 ne_b37_tc_41 ne_b37_ts_41 ne_tr_tc_41 ne_tr_ts_41 ne_tc_ts_41 (by decide) (fun j _ j1 => absurd j1 (Nat.not_lt_zero _))) hZ (hw _ (List.mem_of_getElem? (i := 29) rfl)) (hw _ (List.mem_of_getElem? (i := 3) rfl)) (by decide) (by decide)) q46a q46c (g := (mkF m 45 #[.val (.int p0), .val (.long q1), .second, .val (.int p2), .val (.int p3), .val (.int p4), .val (.long q5), .second, .val (.int (1 : Int32)), .val (.int (1 : Int32)), .val (.ref b37), .val (.int ((f3_12 (0 : Int32)) &&& 1)), .unset, .unset] [(.int p2), (.long q1), (.int p0), (.ref b37)])) rfl (by rw [hml]; rfl) (Steps.refl _) (argsL := [(.int p0), (.long q1), (.int p2)]) (rest := []) (lenOf pd_6 rfl) rfl (by show 2 * 0 + _ ≤ _; exact Nat.le_of_eq rfl) (hb hby at_45) (fun _ _ => ⟨rfl, hh45, (by decide : 4 + 0 ≤ _), (by decide : 196 + 0 ≤ _)⟩)
      dsimp only [Pt.U, Pt.locs, Pt.cells, Pt.slots] at X46 l46 y46 z46 st46 hQ46
      subst l46 y46 z46
      obtain ⟨f2_46, rfl, N46q, Kc46, P46_0, P46_1, P46_2, P46_3, P46_4, P46_5, P46_6, P46_7, P46_8⟩ := hQ46
      have N46 := Fr.app N45 N46q
      have E_b37_47 : Exa Z T46.heap b37 "com/example/brisk_maze/briskmaze/search/RankedFrontier" := (E_b37_42).keep Kc46
      have SZ48 : h0.size ≤ T46.heap.size := Nat.le_trans SZ43 Kc46.1
      have ZZ48 : n0 ≤ T46.heap.size := Nat.le_trans Z0 SZ48
      have K49 : Keep h0 T46.heap [] := (K44).trans Kc46 (allS (Or.inr szz_tr_41) (allS (Or.inr szz_tc_41) (allS (Or.inr szz_ts_41) (allS (Or.inr sz_b37) all0))))
      obtain ⟨cq50, kq50, q50a, q50b, q50c⟩ := isOf hZ rfl (E_b37_47)
      obtain ⟨_, _, ⟨T50, L50, k50, n50⟩, -, X50, ⟨Lc50, hQ50, l50, y50, z50⟩, st50⟩ := X46.virtualBack hx (y := (⟨"com/example/brisk_maze/briskmaze/search/RankedFrontier", "isEmpty", "()Z"⟩ : MethodName)) (z := (⟨"com/example/brisk_maze/briskmaze/search/RankedFrontier", "isEmpty", "()Z"⟩ : MethodName)) hown (mvT hZ (hw _ (List.mem_of_getElem? (i := 18) rfl))) (mvT hZ (hw _ (List.mem_of_getElem? (i := 19) rfl))) (notFace_of_selects (args := #[]) (mvT hZ (hw _ (List.mem_of_getElem? (i := 21) rfl)))) (mvT hZ (hw _ (List.mem_of_getElem? (i := 21) rfl))) (mvT hZ (hw _ (List.mem_of_getElem? (i := 20) rfl))) (by decide) (backOf (W := 0) (rm3 l Z a0 hw [] b37 (((0 : Nat) + 1).toInt32) T46.heap n0 ZZ48 P46_0) hZ (hw _ (List.mem_of_getElem? (i := 22) rfl)) (hw _ (List.mem_of_getElem? (i := 3) rfl)) (by decide) (by decide)) q50a q50c (g := (mkF m 84 #[.val (.int p0), .val (.long q1), .second, .val (.int p2), .val (.int p3), .val (.int p4), .val (.long q5), .second, .val (.int (1 : Int32)), .val (.int (1 : Int32)), .val (.ref b37), .val (.int ((f3_12 (0 : Int32)) &&& 1)), .unset, .unset] [(.ref b37)])) rfl (by rw [hml]; rfl) (Steps.refl _) (argsL := []) (rest := []) (lenOf pd_5 rfl) rfl (by show 2 * 0 + _ ≤ _; exact Nat.le_of_eq rfl) (hb hby at_84) (fun _ _ => ⟨rfl, rfl, (by decide : 4 + 0 ≤ _), (by decide : 196 + 0 ≤ _)⟩)
      dsimp only [Pt.U, Pt.locs, Pt.cells, Pt.slots] at X50 l50 y50 z50 st50 hQ50
      subst l50 y50 z50
      obtain ⟨rfl, N50q, hh50⟩ := hQ50
      have N50 := Fr.app N46 N50q
      obtain ⟨cq51, kq51, q51a, q51b, q51c⟩ := isOf hZ hh50 (E_b37_47)
      obtain ⟨_, _, ⟨T51, L51, k51, n51⟩, -, X51, ⟨Lc51, hQ51, l51, y51, z51⟩, st51⟩ := X50.virtualBack hx (y := (⟨"com/example/brisk_maze/briskmaze/search/RankedFrontier", "removeFirst", "()I"⟩ : MethodName)) (z := (⟨"com/example/brisk_maze/briskmaze/search/RankedFrontier", "removeFirst", "()I"⟩ : MethodName)) hown (mvT hZ (hw _ (List.mem_of_getElem? (i := 34) rfl))) (mvT hZ (hw _ (List.mem_of_getElem? (i := 35) rfl))) (notFace_of_selects (args := #[]) (mvT hZ (hw _ (List.mem_of_getElem? (i := 37) rfl)))) (mvT hZ (hw _ (List.mem_of_getElem? (i := 37) rfl))) (mvT hZ (hw _ (List.mem_of_getElem? (i := 36) rfl))) (by decide) (backOf (W := 0) (rm6 l Z a0 hw [] b37 tr_41 tc_41 ts_41 f2_46 (0 : Nat) T46.heap n0 ZZ48 P46_1 P46_2 P46_3 E_b37_47 P46_0 P46_4 P46_5 P46_6 g_tr_41 g_tc_41 g_ts_41 g_b37 ne_b37_tr_41 ne_b37_tc_41 ne_b37_ts_41 ne_tr_tc_41 ne_tr_ts_41 ne_tc_ts_41 (by decide) P46_7) hZ (hw _ (List.mem_of_getElem? (i := 38) rfl)) (hw _ (List.mem_of_getElem? (i := 3) rfl)) (by decide) (by decide)) q51a q51c (g := (mkF m 97 #[.val (.int p0), .val (.long q1), .second, .val (.int p2), .val (.int p3), .val (.int p4), .val (.long q5), .second, .val (.int (1 : Int32)), .val (.int (1 : Int32)), .val (.ref b37), .val (.int ((f3_12 (0 : Int32)) &&& 1)), .val (.int ((f3_12 (((0 : Nat) + 1).toInt32)) &&& 1)), .unset] [(.ref b37)])) rfl (by rw [hml]; rfl) (Steps.refl _) (argsL := []) (rest := []) (lenOf pd_7 rfl) rfl (by show 2 * 0 + _ ≤ _; exact Nat.le_of_eq rfl) (hb hby at_97) (fun _ _ => ⟨rfl, hh50, (by decide : 4 + 0 ≤ _), (by decide : 196 + 0 ≤ _)⟩)
      dsimp only [Pt.U, Pt.locs, Pt.cells, Pt.slots] at X51 l51 y51 z51 st51 hQ51
      subst l51 y51 z51
      obtain ⟨f2_51, rfl, N51q, Kc51, P51_0, P51_1, P51_2, P51_3, P51_4, P51_5, P51_6, P51_7, P51_8⟩ := hQ51
      have N51 := Fr.app N50 N51q
      have E_b37_52 : Exa Z T51.heap b37 "com/example/brisk_maze/briskmaze/search/RankedFrontier" := (E_b37_47).keep Kc51
      have SZ53 : h0.size ≤ T51.heap.size := Nat.le_trans SZ48 Kc51.1
      have ZZ53 : n0 ≤ T51.heap.size := Nat.le_trans Z0 SZ53
      have K54 : Keep h0 T51.heap [] := (K49).trans Kc51 (allS (Or.inr szz_tr_41) (allS (Or.inr szz_tc_41) (allS (Or.inr szz_ts_41) (allS (Or.inr sz_b37) all0))))
      obtain ⟨cq55, kq55, q55a, q55b, q55c⟩ := isOf hZ rfl (E_b37_52)
      obtain ⟨_, _, ⟨T55, L55, k55, n55⟩, -, X55, ⟨Lc55, hQ55, l55, y55, z55⟩, st55⟩ := X51.virtualBack hx (y := (⟨"com/example/brisk_maze/briskmaze/search/RankedFrontier", "isEmpty", "()Z"⟩ : MethodName)) (z := (⟨"com/example/brisk_maze/briskmaze/search/RankedFrontier", "isEmpty", "()Z"⟩ : MethodName)) hown (mvT hZ (hw _ (List.mem_of_getElem? (i := 18) rfl))) (mvT hZ (hw _ (List.mem_of_getElem? (i := 19) rfl))) (notFace_of_selects (args := #[]) (mvT hZ (hw _ (List.mem_of_getElem? (i := 21) rfl)))) (mvT hZ (hw _ (List.mem_of_getElem? (i := 21) rfl))) (mvT hZ (hw _ (List.mem_of_getElem? (i := 20) rfl))) (by decide) (backOf (W := 0) (rm3 l Z a0 hw [] b37 ((0 : Nat).toInt32) T51.heap n0 ZZ53 P51_0) hZ (hw _ (List.mem_of_getElem? (i := 22) rfl)) (hw _ (List.mem_of_getElem? (i := 3) rfl)) (by decide) (by decide)) q55a q55c (g := (mkF m 127 #[.val (.int p0), .val (.long q1), .second, .val (.int p2), .val (.int p3), .val (.int p4), .val (.long q5), .second, .val (.int (1 : Int32)), .val (.int (1 : Int32)), .val (.ref b37), .val (.int ((f3_12 (0 : Int32)) &&& 1)), .val (.int ((f3_12 (((0 : Nat) + 1).toInt32)) &&& 1)), .unset] [(.ref b37)])) rfl (by rw [hml]; rfl) (Steps.refl _) (argsL := []) (rest := []) (lenOf pd_5 rfl) rfl (by show 2 * 0 + _ ≤ _; exact Nat.le_of_eq rfl) (hb hby at_127) (fun _ _ => ⟨rfl, rfl, (by decide : 4 + 0 ≤ _), (by decide : 196 + 0 ≤ _)⟩)
      dsimp only [Pt.U, Pt.locs, Pt.cells, Pt.slots] at X55 l55 y55 z55 st55 hQ55
      subst l55 y55 z55
      obtain ⟨rfl, N55q, hh55⟩ := hQ55
      have N55 := Fr.app N51 N55q
      have pre56 : ∀ t, Steps p.tables e below (T55.setTop (mkF m 174 #[.val (.int p0), .val (.long q1), .second, .val (.int p2), .val (.int p3), .val (.int p4), .val (.long q5), .second, .val (.int (1 : Int32)), .val (.int (1 : Int32)), .val (.ref b37), .val (.int ((f3_12 (0 : Int32)) &&& 1)), .val (.int ((f3_12 (((0 : Nat) + 1).toInt32)) &&& 1)), .val (.int ((f3_12 ((0 : Nat).toInt32)) &&& 1))] [(.int (1 : Int32))])) t → Steps p.tables e below (s₁.setTop (entryFrame m #[(.int p0), (.long q1), (.int p2), (.int p3), (.int p4), (.long q5)] maxLocals)) t := fun t k => pre36 t (by
        show Steps p.tables e below (s₁.setTop (mkF m 18 #[.val (.int p0), .val (.long q1), .second, .val (.int p2), .val (.int p3), .val (.int p4), .val (.long q5), .second, .val (.int (1 : Int32)), .val (.int (1 : Int32)), .unset, .unset, .unset, .unset] [])) _
        refine st37 _ ?_
        show Steps p.tables e below (T37.setTop (mkF m 21 #[.val (.int p0), .val (.long q1), .second, .val (.int p2), .val (.int p3), .val (.int p4), .val (.long q5), .second, .val (.int (1 : Int32)), .val (.int (1 : Int32)), .unset, .unset, .unset, .unset] [(.ref b37)])) _
        refine XS.dup X37.here hx rfl (hb hby at_21) rfl rfl ?_
        show Steps p.tables e below (T37.setTop (mkF m 22 #[.val (.int p0), .val (.long q1), .second, .val (.int p2), .val (.int p3), .val (.int p4), .val (.long q5), .second, .val (.int (1 : Int32)), .val (.int (1 : Int32)), .unset, .unset, .unset, .unset] [(.ref b37), (.ref b37)])) _
        refine st41.trans ?_
        show Steps p.tables e below (T41.setTop (mkF m 25 #[.val (.int p0), .val (.long q1), .second, .val (.int p2), .val (.int p3), .val (.int p4), .val (.long q5), .second, .val (.int (1 : Int32)), .val (.int (1 : Int32)), .unset, .unset, .unset, .unset] [(.ref b37)])) _
        refine XS.astore X41.here hx rfl (hb hby at_25) rfl rfl (l' := #[.val (.int p0), .val (.long q1), .second, .val (.int p2), .val (.int p3), .val (.int p4), .val (.long q5), .second, .val (.int (1 : Int32)), .val (.int (1 : Int32)), .val (.ref b37), .unset, .unset, .unset]) rfl ?_
        show Steps p.tables e below (T41.setTop (mkF m 27 #[.val (.int p0), .val (.long q1), .second, .val (.int p2), .val (.int p3), .val (.int p4), .val (.long q5), .second, .val (.int (1 : Int32)), .val (.int (1 : Int32)), .val (.ref b37), .unset, .unset, .unset] [])) _
        refine XS.aload X41.here hx rfl (hb hby at_27) rfl rfl ?_
        show Steps p.tables e below (T41.setTop (mkF m 29 #[.val (.int p0), .val (.long q1), .second, .val (.int p2), .val (.int p3), .val (.int p4), .val (.long q5), .second, .val (.int (1 : Int32)), .val (.int (1 : Int32)), .val (.ref b37), .unset, .unset, .unset] [(.ref b37)])) _
        refine st45.trans ?_
        show Steps p.tables e below (T45.setTop (mkF m 32 #[.val (.int p0), .val (.long q1), .second, .val (.int p2), .val (.int p3), .val (.int p4), .val (.long q5), .second, .val (.int (1 : Int32)), .val (.int (1 : Int32)), .val (.ref b37), .unset, .unset, .unset] [(.int ((f3_12 (0 : Int32)) &&& 1))])) _
        refine XS.istore X45.here hx rfl (hb hby at_32) rfl (l' := #[.val (.int p0), .val (.long q1), .second, .val (.int p2), .val (.int p3), .val (.int p4), .val (.long q5), .second, .val (.int (1 : Int32)), .val (.int (1 : Int32)), .val (.ref b37), .val (.int ((f3_12 (0 : Int32)) &&& 1)), .unset, .unset]) rfl ?_
        show Steps p.tables e below (T45.setTop (mkF m 34 #[.val (.int p0), .val (.long q1), .second, .val (.int p2), .val (.int p3), .val (.int p4), .val (.long q5), .second, .val (.int (1 : Int32)), .val (.int (1 : Int32)), .val (.ref b37), .val (.int ((f3_12 (0 : Int32)) &&& 1)), .unset, .unset] [])) _
        refine XS.iload X45.here hx rfl (hb hby at_34) rfl ?_
        show Steps p.tables e below (T45.setTop (mkF m 36 #[.val (.int p0), .val (.long q1), .second, .val (.int p2), .val (.int p3), .val (.int p4), .val (.long q5), .second, .val (.int (1 : Int32)), .val (.int (1 : Int32)), .val (.ref b37), .val (.int ((f3_12 (0 : Int32)) &&& 1)), .unset, .unset] [(.int (1 : Int32))])) _
        refine XS.iconst X45.here hx rfl (hb hby at_36) ?_
        show Steps p.tables e below (T45.setTop (mkF m 37 #[.val (.int p0), .val (.long q1), .second, .val (.int p2), .val (.int p3), .val (.int p4), .val (.long q5), .second, .val (.int (1 : Int32)), .val (.int (1 : Int32)), .val (.ref b37), .val (.int ((f3_12 (0 : Int32)) &&& 1)), .unset, .unset] [(.int (1 : Int32)), (.int (1 : Int32))])) _
        refine XS.icmpNo X45.here hx rfl (hb hby at_37) rfl (flt (show ¬ ((1 : Int32) < (1 : Int32)) by decide)).1 ?_
        show Steps p.tables e below (T45.setTop (mkF m 40 #[.val (.int p0), .val (.long q1), .second, .val (.int p2), .val (.int p3), .val (.int p4), .val (.long q5), .second, .val (.int (1 : Int32)), .val (.int (1 : Int32)), .val (.ref b37), .val (.int ((f3_12 (0 : Int32)) &&& 1)), .unset, .unset] [])) _
        refine XS.aload X45.here hx rfl (hb hby at_40) rfl rfl ?_
        show Steps p.tables e below (T45.setTop (mkF m 42 #[.val (.int p0), .val (.long q1), .second, .val (.int p2), .val (.int p3), .val (.int p4), .val (.long q5), .second, .val (.int (1 : Int32)), .val (.int (1 : Int32)), .val (.ref b37), .val (.int ((f3_12 (0 : Int32)) &&& 1)), .unset, .unset] [(.ref b37)])) _
        refine XS.iloadN X45.here hx rfl (hb hby at_42) rfl ?_
        show Steps p.tables e below (T45.setTop (mkF m 43 #[.val (.int p0), .val (.long q1), .second, .val (.int p2), .val (.int p3), .val (.int p4), .val (.long q5), .second, .val (.int (1 : Int32)), .val (.int (1 : Int32)), .val (.ref b37), .val (.int ((f3_12 (0 : Int32)) &&& 1)), .unset, .unset] [(.int p0), (.ref b37)])) _
        refine XS.lloadN X45.here hx rfl (hb hby at_43) rfl ?_
        show Steps p.tables e below (T45.setTop (mkF m 44 #[.val (.int p0), .val (.long q1), .second, .val (.int p2), .val (.int p3), .val (.int p4), .val (.long q5), .second, .val (.int (1 : Int32)), .val (.int (1 : Int32)), .val (.ref b37), .val (.int ((f3_12 (0 : Int32)) &&& 1)), .unset, .unset] [(.long q1), (.int p0), (.ref b37)])) _
        refine XS.iloadN X45.here hx rfl (hb hby at_44) rfl ?_
        show Steps p.tables e below (T45.setTop (mkF m 45 #[.val (.int p0), .val (.long q1), .second, .val (.int p2), .val (.int p3), .val (.int p4), .val (.long q5), .second, .val (.int (1 : Int32)), .val (.int (1 : Int32)), .val (.ref b37), .val (.int ((f3_12 (0 : Int32)) &&& 1)), .unset, .unset] [(.int p2), (.long q1), (.int p0), (.ref b37)])) _
        refine st46.trans ?_
        show Steps p.tables e below (T46.setTop (mkF m 48 #[.val (.int p0), .val (.long q1), .second, .val (.int p2), .val (.int p3), .val (.int p4), .val (.long q5), .second, .val (.int (1 : Int32)), .val (.int (1 : Int32)), .val (.ref b37), .val (.int ((f3_12 (0 : Int32)) &&& 1)), .unset, .unset] [])) _
        refine XS.iload X46.here hx rfl (hb hby at_48) rfl ?_
        show Steps p.tables e below (T46.setTop (mkF m 50 #[.val (.int p0), .val (.long q1), .second, .val (.int p2), .val (.int p3), .val (.int p4), .val (.long q5), .second, .val (.int (1 : Int32)), .val (.int (1 : Int32)), .val (.ref b37), .val (.int ((f3_12 (0 : Int32)) &&& 1)), .unset, .unset] [(.int (1 : Int32))])) _
        refine XS.iconst X46.here hx rfl (hb hby at_50) ?_
        show Steps p.tables e below (T46.setTop (mkF m 51 #[.val (.int p0), .val (.long q1), .second, .val (.int p2), .val (.int p3), .val (.int p4), .val (.long q5), .second, .val (.int (1 : Int32)), .val (.int (1 : Int32)), .val (.ref b37), .val (.int ((f3_12 (0 : Int32)) &&& 1)), .unset, .unset] [(.int (2 : Int32)), (.int (1 : Int32))])) _
        refine XS.icmpYes X46.here hx rfl (pc0 := 51) (pc' := 63) rfl (hb hby at_51) rfl (tlt (show (1 : Int32) < (2 : Int32) by decide)).1 (by decide) (by decide) ?_
        show Steps p.tables e below (T46.setTop (mkF m 63 #[.val (.int p0), .val (.long q1), .second, .val (.int p2), .val (.int p3), .val (.int p4), .val (.long q5), .second, .val (.int (1 : Int32)), .val (.int (1 : Int32)), .val (.ref b37), .val (.int ((f3_12 (0 : Int32)) &&& 1)), .unset, .unset] [])) _
        refine XS.iload X46.here hx rfl (hb hby at_63) rfl ?_
        show Steps p.tables e below (T46.setTop (mkF m 65 #[.val (.int p0), .val (.long q1), .second, .val (.int p2), .val (.int p3), .val (.int p4), .val (.long q5), .second, .val (.int (1 : Int32)), .val (.int (1 : Int32)), .val (.ref b37), .val (.int ((f3_12 (0 : Int32)) &&& 1)), .unset, .unset] [(.int (1 : Int32))])) _
        refine XS.iconst X46.here hx rfl (hb hby at_65) ?_
        show Steps p.tables e below (T46.setTop (mkF m 66 #[.val (.int p0), .val (.long q1), .second, .val (.int p2), .val (.int p3), .val (.int p4), .val (.long q5), .second, .val (.int (1 : Int32)), .val (.int (1 : Int32)), .val (.ref b37), .val (.int ((f3_12 (0 : Int32)) &&& 1)), .unset, .unset] [(.int (3 : Int32)), (.int (1 : Int32))])) _
        refine XS.icmpYes X46.here hx rfl (pc0 := 66) (pc' := 82) rfl (hb hby at_66) rfl (tlt (show (1 : Int32) < (3 : Int32) by decide)).1 (by decide) (by decide) ?_
        show Steps p.tables e below (T46.setTop (mkF m 82 #[.val (.int p0), .val (.long q1), .second, .val (.int p2), .val (.int p3), .val (.int p4), .val (.long q5), .second, .val (.int (1 : Int32)), .val (.int (1 : Int32)), .val (.ref b37), .val (.int ((f3_12 (0 : Int32)) &&& 1)), .unset, .unset] [])) _
        refine XS.aload X46.here hx rfl (hb hby at_82) rfl rfl ?_
        show Steps p.tables e below (T46.setTop (mkF m 84 #[.val (.int p0), .val (.long q1), .second, .val (.int p2), .val (.int p3), .val (.int p4), .val (.long q5), .second, .val (.int (1 : Int32)), .val (.int (1 : Int32)), .val (.ref b37), .val (.int ((f3_12 (0 : Int32)) &&& 1)), .unset, .unset] [(.ref b37)])) _
        refine st50.trans ?_
        show Steps p.tables e below (T50.setTop (mkF m 87 #[.val (.int p0), .val (.long q1), .second, .val (.int p2), .val (.int p3), .val (.int p4), .val (.long q5), .second, .val (.int (1 : Int32)), .val (.int (1 : Int32)), .val (.ref b37), .val (.int ((f3_12 (0 : Int32)) &&& 1)), .unset, .unset] [(.int ((f3_12 (((0 : Nat) + 1).toInt32)) &&& 1))])) _
        refine XS.istore X50.here hx rfl (hb hby at_87) rfl (l' := #[.val (.int p0), .val (.long q1), .second, .val (.int p2), .val (.int p3), .val (.int p4), .val (.long q5), .second, .val (.int (1 : Int32)), .val (.int (1 : Int32)), .val (.ref b37), .val (.int ((f3_12 (0 : Int32)) &&& 1)), .val (.int ((f3_12 (((0 : Nat) + 1).toInt32)) &&& 1)), .unset]) rfl ?_
        show Steps p.tables e below (T50.setTop (mkF m 89 #[.val (.int p0), .val (.long q1), .second, .val (.int p2), .val (.int p3), .val (.int p4), .val (.long q5), .second, .val (.int (1 : Int32)), .val (.int (1 : Int32)), .val (.ref b37), .val (.int ((f3_12 (0 : Int32)) &&& 1)), .val (.int ((f3_12 (((0 : Nat) + 1).toInt32)) &&& 1)), .unset] [])) _
        refine XS.iload X50.here hx rfl (hb hby at_89) rfl ?_
        show Steps p.tables e below (T50.setTop (mkF m 91 #[.val (.int p0), .val (.long q1), .second, .val (.int p2), .val (.int p3), .val (.int p4), .val (.long q5), .second, .val (.int (1 : Int32)), .val (.int (1 : Int32)), .val (.ref b37), .val (.int ((f3_12 (0 : Int32)) &&& 1)), .val (.int ((f3_12 (((0 : Nat) + 1).toInt32)) &&& 1)), .unset] [(.int (1 : Int32))])) _
        refine XS.iconst X50.here hx rfl (hb hby at_91) ?_
        show Steps p.tables e below (T50.setTop (mkF m 92 #[.val (.int p0), .val (.long q1), .second, .val (.int p2), .val (.int p3), .val (.int p4), .val (.long q5), .second, .val (.int (1 : Int32)), .val (.int (1 : Int32)), .val (.ref b37), .val (.int ((f3_12 (0 : Int32)) &&& 1)), .val (.int ((f3_12 (((0 : Nat) + 1).toInt32)) &&& 1)), .unset] [(.int (1 : Int32)), (.int (1 : Int32))])) _
        refine XS.icmpNo X50.here hx rfl (hb hby at_92) rfl (flt (show ¬ ((1 : Int32) < (1 : Int32)) by decide)).1 ?_
        show Steps p.tables e below (T50.setTop (mkF m 95 #[.val (.int p0), .val (.long q1), .second, .val (.int p2), .val (.int p3), .val (.int p4), .val (.long q5), .second, .val (.int (1 : Int32)), .val (.int (1 : Int32)), .val (.ref b37), .val (.int ((f3_12 (0 : Int32)) &&& 1)), .val (.int ((f3_12 (((0 : Nat) + 1).toInt32)) &&& 1)), .unset] [])) _
        refine XS.aload X50.here hx rfl (hb hby at_95) rfl rfl ?_
        show Steps p.tables e below (T50.setTop (mkF m 97 #[.val (.int p0), .val (.long q1), .second, .val (.int p2), .val (.int p3), .val (.int p4), .val (.long q5), .second, .val (.int (1 : Int32)), .val (.int (1 : Int32)), .val (.ref b37), .val (.int ((f3_12 (0 : Int32)) &&& 1)), .val (.int ((f3_12 (((0 : Nat) + 1).toInt32)) &&& 1)), .unset] [(.ref b37)])) _
        refine st51.trans ?_
        show Steps p.tables e below (T51.setTop (mkF m 100 #[.val (.int p0), .val (.long q1), .second, .val (.int p2), .val (.int p3), .val (.int p4), .val (.long q5), .second, .val (.int (1 : Int32)), .val (.int (1 : Int32)), .val (.ref b37), .val (.int ((f3_12 (0 : Int32)) &&& 1)), .val (.int ((f3_12 (((0 : Nat) + 1).toInt32)) &&& 1)), .unset] [(.int ((f2_46 0).2.2))])) _
        refine XS.pop X51.here hx rfl (hb hby at_100) rfl rfl ?_
        show Steps p.tables e below (T51.setTop (mkF m 101 #[.val (.int p0), .val (.long q1), .second, .val (.int p2), .val (.int p3), .val (.int p4), .val (.long q5), .second, .val (.int (1 : Int32)), .val (.int (1 : Int32)), .val (.ref b37), .val (.int ((f3_12 (0 : Int32)) &&& 1)), .val (.int ((f3_12 (((0 : Nat) + 1).toInt32)) &&& 1)), .unset] [])) _
        refine XS.iload X51.here hx rfl (hb hby at_101) rfl ?_
        show Steps p.tables e below (T51.setTop (mkF m 103 #[.val (.int p0), .val (.long q1), .second, .val (.int p2), .val (.int p3), .val (.int p4), .val (.long q5), .second, .val (.int (1 : Int32)), .val (.int (1 : Int32)), .val (.ref b37), .val (.int ((f3_12 (0 : Int32)) &&& 1)), .val (.int ((f3_12 (((0 : Nat) + 1).toInt32)) &&& 1)), .unset] [(.int (1 : Int32))])) _
        refine XS.iconst X51.here hx rfl (hb hby at_103) ?_
        show Steps p.tables e below (T51.setTop (mkF m 104 #[.val (.int p0), .val (.long q1), .second, .val (.int p2), .val (.int p3), .val (.int p4), .val (.long q5), .second, .val (.int (1 : Int32)), .val (.int (1 : Int32)), .val (.ref b37), .val (.int ((f3_12 (0 : Int32)) &&& 1)), .val (.int ((f3_12 (((0 : Nat) + 1).toInt32)) &&& 1)), .unset] [(.int (2 : Int32)), (.int (1 : Int32))])) _
        refine XS.icmpYes X51.here hx rfl (pc0 := 104) (pc' := 113) rfl (hb hby at_104) rfl (tlt (show (1 : Int32) < (2 : Int32) by decide)).1 (by decide) (by decide) ?_
        show Steps p.tables e below (T51.setTop (mkF m 113 #[.val (.int p0), .val (.long q1), .second, .val (.int p2), .val (.int p3), .val (.int p4), .val (.long q5), .second, .val (.int (1 : Int32)), .val (.int (1 : Int32)), .val (.ref b37), .val (.int ((f3_12 (0 : Int32)) &&& 1)), .val (.int ((f3_12 (((0 : Nat) + 1).toInt32)) &&& 1)), .unset] [])) _
        refine XS.iload X51.here hx rfl (hb hby at_113) rfl ?_
        show Steps p.tables e below (T51.setTop (mkF m 115 #[.val (.int p0), .val (.long q1), .second, .val (.int p2), .val (.int p3), .val (.int p4), .val (.long q5), .second, .val (.int (1 : Int32)), .val (.int (1 : Int32)), .val (.ref b37), .val (.int ((f3_12 (0 : Int32)) &&& 1)), .val (.int ((f3_12 (((0 : Nat) + 1).toInt32)) &&& 1)), .unset] [(.int (1 : Int32))])) _
        refine XS.iconst X51.here hx rfl (hb hby at_115) ?_
        show Steps p.tables e below (T51.setTop (mkF m 116 #[.val (.int p0), .val (.long q1), .second, .val (.int p2), .val (.int p3), .val (.int p4), .val (.long q5), .second, .val (.int (1 : Int32)), .val (.int (1 : Int32)), .val (.ref b37), .val (.int ((f3_12 (0 : Int32)) &&& 1)), .val (.int ((f3_12 (((0 : Nat) + 1).toInt32)) &&& 1)), .unset] [(.int (3 : Int32)), (.int (1 : Int32))])) _
        refine XS.icmpYes X51.here hx rfl (pc0 := 116) (pc' := 125) rfl (hb hby at_116) rfl (tlt (show (1 : Int32) < (3 : Int32) by decide)).1 (by decide) (by decide) ?_
        show Steps p.tables e below (T51.setTop (mkF m 125 #[.val (.int p0), .val (.long q1), .second, .val (.int p2), .val (.int p3), .val (.int p4), .val (.long q5), .second, .val (.int (1 : Int32)), .val (.int (1 : Int32)), .val (.ref b37), .val (.int ((f3_12 (0 : Int32)) &&& 1)), .val (.int ((f3_12 (((0 : Nat) + 1).toInt32)) &&& 1)), .unset] [])) _
        refine XS.aload X51.here hx rfl (hb hby at_125) rfl rfl ?_
        show Steps p.tables e below (T51.setTop (mkF m 127 #[.val (.int p0), .val (.long q1), .second, .val (.int p2), .val (.int p3), .val (.int p4), .val (.long q5), .second, .val (.int (1 : Int32)), .val (.int (1 : Int32)), .val (.ref b37), .val (.int ((f3_12 (0 : Int32)) &&& 1)), .val (.int ((f3_12 (((0 : Nat) + 1).toInt32)) &&& 1)), .unset] [(.ref b37)])) _
        refine st55.trans ?_
        show Steps p.tables e below (T55.setTop (mkF m 130 #[.val (.int p0), .val (.long q1), .second, .val (.int p2), .val (.int p3), .val (.int p4), .val (.long q5), .second, .val (.int (1 : Int32)), .val (.int (1 : Int32)), .val (.ref b37), .val (.int ((f3_12 (0 : Int32)) &&& 1)), .val (.int ((f3_12 (((0 : Nat) + 1).toInt32)) &&& 1)), .unset] [(.int ((f3_12 ((0 : Nat).toInt32)) &&& 1))])) _
        refine XS.istore X55.here hx rfl (hb hby at_130) rfl (l' := #[.val (.int p0), .val (.long q1), .second, .val (.int p2), .val (.int p3), .val (.int p4), .val (.long q5), .second, .val (.int (1 : Int32)), .val (.int (1 : Int32)), .val (.ref b37), .val (.int ((f3_12 (0 : Int32)) &&& 1)), .val (.int ((f3_12 (((0 : Nat) + 1).toInt32)) &&& 1)), .val (.int ((f3_12 ((0 : Nat).toInt32)) &&& 1))]) rfl ?_
        show Steps p.tables e below (T55.setTop (mkF m 132 #[.val (.int p0), .val (.long q1), .second, .val (.int p2), .val (.int p3), .val (.int p4), .val (.long q5), .second, .val (.int (1 : Int32)), .val (.int (1 : Int32)), .val (.ref b37), .val (.int ((f3_12 (0 : Int32)) &&& 1)), .val (.int ((f3_12 (((0 : Nat) + 1).toInt32)) &&& 1)), .val (.int ((f3_12 ((0 : Nat).toInt32)) &&& 1))] [])) _
        refine XS.iload X55.here hx rfl (hb hby at_132) rfl ?_
        show Steps p.tables e below (T55.setTop (mkF m 134 #[.val (.int p0), .val (.long q1), .second, .val (.int p2), .val (.int p3), .val (.int p4), .val (.long q5), .second, .val (.int (1 : Int32)), .val (.int (1 : Int32)), .val (.ref b37), .val (.int ((f3_12 (0 : Int32)) &&& 1)), .val (.int ((f3_12 (((0 : Nat) + 1).toInt32)) &&& 1)), .val (.int ((f3_12 ((0 : Nat).toInt32)) &&& 1))] [(.int ((f3_12 (0 : Int32)) &&& 1))])) _
        refine XS.ifNo X55.here hx rfl (hb hby at_134) rfl ((if0 _ _).trans (feq (show ¬ (((f3_12 (0 : Int32)) &&& 1) = (0 : Int32)) from by decide)).1) ?_
        show Steps p.tables e below (T55.setTop (mkF m 137 #[.val (.int p0), .val (.long q1), .second, .val (.int p2), .val (.int p3), .val (.int p4), .val (.long q5), .second, .val (.int (1 : Int32)), .val (.int (1 : Int32)), .val (.ref b37), .val (.int ((f3_12 (0 : Int32)) &&& 1)), .val (.int ((f3_12 (((0 : Nat) + 1).toInt32)) &&& 1)), .val (.int ((f3_12 ((0 : Nat).toInt32)) &&& 1))] [])) _
        refine XS.iload X55.here hx rfl (hb hby at_137) rfl ?_
        show Steps p.tables e below (T55.setTop (mkF m 139 #[.val (.int p0), .val (.long q1), .second, .val (.int p2), .val (.int p3), .val (.int p4), .val (.long q5), .second, .val (.int (1 : Int32)), .val (.int (1 : Int32)), .val (.ref b37), .val (.int ((f3_12 (0 : Int32)) &&& 1)), .val (.int ((f3_12 (((0 : Nat) + 1).toInt32)) &&& 1)), .val (.int ((f3_12 ((0 : Nat).toInt32)) &&& 1))] [(.int ((f3_12 (((0 : Nat) + 1).toInt32)) &&& 1))])) _
        refine XS.iload X55.here hx rfl (hb hby at_139) rfl ?_
        show Steps p.tables e below (T55.setTop (mkF m 141 #[.val (.int p0), .val (.long q1), .second, .val (.int p2), .val (.int p3), .val (.int p4), .val (.long q5), .second, .val (.int (1 : Int32)), .val (.int (1 : Int32)), .val (.ref b37), .val (.int ((f3_12 (0 : Int32)) &&& 1)), .val (.int ((f3_12 (((0 : Nat) + 1).toInt32)) &&& 1)), .val (.int ((f3_12 ((0 : Nat).toInt32)) &&& 1))] [(.int (1 : Int32)), (.int ((f3_12 (((0 : Nat) + 1).toInt32)) &&& 1))])) _
        refine XS.ifYes X55.here hx rfl (pc0 := 141) (pc' := 148) rfl (hb hby at_141) rfl ((if0 _ _).trans (feq (show ¬ ((1 : Int32) = (0 : Int32)) by decide)).2) (by decide) (by decide) ?_
        show Steps p.tables e below (T55.setTop (mkF m 148 #[.val (.int p0), .val (.long q1), .second, .val (.int p2), .val (.int p3), .val (.int p4), .val (.long q5), .second, .val (.int (1 : Int32)), .val (.int (1 : Int32)), .val (.ref b37), .val (.int ((f3_12 (0 : Int32)) &&& 1)), .val (.int ((f3_12 (((0 : Nat) + 1).toInt32)) &&& 1)), .val (.int ((f3_12 ((0 : Nat).toInt32)) &&& 1))] [(.int ((f3_12 (((0 : Nat) + 1).toInt32)) &&& 1))])) _
        refine XS.iconst X55.here hx rfl (hb hby at_148) ?_
        show Steps p.tables e below (T55.setTop (mkF m 149 #[.val (.int p0), .val (.long q1), .second, .val (.int p2), .val (.int p3), .val (.int p4), .val (.long q5), .second, .val (.int (1 : Int32)), .val (.int (1 : Int32)), .val (.ref b37), .val (.int ((f3_12 (0 : Int32)) &&& 1)), .val (.int ((f3_12 (((0 : Nat) + 1).toInt32)) &&& 1)), .val (.int ((f3_12 ((0 : Nat).toInt32)) &&& 1))] [(.int (0 : Int32)), (.int ((f3_12 (((0 : Nat) + 1).toInt32)) &&& 1))])) _
        refine XS.icmpNo X55.here hx rfl (hb hby at_149) rfl (teq (show ((f3_12 (((0 : Nat) + 1).toInt32)) &&& 1) = (0 : Int32) from by decide)).2 ?_
        show Steps p.tables e below (T55.setTop (mkF m 152 #[.val (.int p0), .val (.long q1), .second, .val (.int p2), .val (.int p3), .val (.int p4), .val (.long q5), .second, .val (.int (1 : Int32)), .val (.int (1 : Int32)), .val (.ref b37), .val (.int ((f3_12 (0 : Int32)) &&& 1)), .val (.int ((f3_12 (((0 : Nat) + 1).toInt32)) &&& 1)), .val (.int ((f3_12 ((0 : Nat).toInt32)) &&& 1))] [])) _
        refine XS.iload X55.here hx rfl (hb hby at_152) rfl ?_
        show Steps p.tables e below (T55.setTop (mkF m 154 #[.val (.int p0), .val (.long q1), .second, .val (.int p2), .val (.int p3), .val (.int p4), .val (.long q5), .second, .val (.int (1 : Int32)), .val (.int (1 : Int32)), .val (.ref b37), .val (.int ((f3_12 (0 : Int32)) &&& 1)), .val (.int ((f3_12 (((0 : Nat) + 1).toInt32)) &&& 1)), .val (.int ((f3_12 ((0 : Nat).toInt32)) &&& 1))] [(.int ((f3_12 ((0 : Nat).toInt32)) &&& 1))])) _
        refine XS.iload X55.here hx rfl (hb hby at_154) rfl ?_
        show Steps p.tables e below (T55.setTop (mkF m 156 #[.val (.int p0), .val (.long q1), .second, .val (.int p2), .val (.int p3), .val (.int p4), .val (.long q5), .second, .val (.int (1 : Int32)), .val (.int (1 : Int32)), .val (.ref b37), .val (.int ((f3_12 (0 : Int32)) &&& 1)), .val (.int ((f3_12 (((0 : Nat) + 1).toInt32)) &&& 1)), .val (.int ((f3_12 ((0 : Nat).toInt32)) &&& 1))] [(.int (1 : Int32)), (.int ((f3_12 ((0 : Nat).toInt32)) &&& 1))])) _
        refine XS.iload X55.here hx rfl (hb hby at_156) rfl ?_
        show Steps p.tables e below (T55.setTop (mkF m 158 #[.val (.int p0), .val (.long q1), .second, .val (.int p2), .val (.int p3), .val (.int p4), .val (.long q5), .second, .val (.int (1 : Int32)), .val (.int (1 : Int32)), .val (.ref b37), .val (.int ((f3_12 (0 : Int32)) &&& 1)), .val (.int ((f3_12 (((0 : Nat) + 1).toInt32)) &&& 1)), .val (.int ((f3_12 ((0 : Nat).toInt32)) &&& 1))] [(.int (1 : Int32)), (.int (1 : Int32)), (.int ((f3_12 ((0 : Nat).toInt32)) &&& 1))])) _
        refine XS.icmpNo X55.here hx rfl (hb hby at_158) rfl (teq (show (1 : Int32) = (1 : Int32) by decide)).2 ?_
        show Steps p.tables e below (T55.setTop (mkF m 161 #[.val (.int p0), .val (.long q1), .second, .val (.int p2), .val (.int p3), .val (.int p4), .val (.long q5), .second, .val (.int (1 : Int32)), .val (.int (1 : Int32)), .val (.ref b37), .val (.int ((f3_12 (0 : Int32)) &&& 1)), .val (.int ((f3_12 (((0 : Nat) + 1).toInt32)) &&& 1)), .val (.int ((f3_12 ((0 : Nat).toInt32)) &&& 1))] [(.int ((f3_12 ((0 : Nat).toInt32)) &&& 1))])) _
        refine XS.iconst X55.here hx rfl (hb hby at_161) ?_
        show Steps p.tables e below (T55.setTop (mkF m 162 #[.val (.int p0), .val (.long q1), .second, .val (.int p2), .val (.int p3), .val (.int p4), .val (.long q5), .second, .val (.int (1 : Int32)), .val (.int (1 : Int32)), .val (.ref b37), .val (.int ((f3_12 (0 : Int32)) &&& 1)), .val (.int ((f3_12 (((0 : Nat) + 1).toInt32)) &&& 1)), .val (.int ((f3_12 ((0 : Nat).toInt32)) &&& 1))] [(.int (1 : Int32)), (.int ((f3_12 ((0 : Nat).toInt32)) &&& 1))])) _
        refine XS.goto X55.here hx rfl (pc0 := 162) (pc' := 166) rfl (hb hby at_162) (by decide) (by decide) ?_
        show Steps p.tables e below (T55.setTop (mkF m 166 #[.val (.int p0), .val (.long q1), .second, .val (.int p2), .val (.int p3), .val (.int p4), .val (.long q5), .second, .val (.int (1 : Int32)), .val (.int (1 : Int32)), .val (.ref b37), .val (.int ((f3_12 (0 : Int32)) &&& 1)), .val (.int ((f3_12 (((0 : Nat) + 1).toInt32)) &&& 1)), .val (.int ((f3_12 ((0 : Nat).toInt32)) &&& 1))] [(.int (1 : Int32)), (.int ((f3_12 ((0 : Nat).toInt32)) &&& 1))])) _
        refine XS.icmpNo X55.here hx rfl (hb hby at_166) rfl (teq (show ((f3_12 ((0 : Nat).toInt32)) &&& 1) = (1 : Int32) from by decide)).2 ?_
        show Steps p.tables e below (T55.setTop (mkF m 169 #[.val (.int p0), .val (.long q1), .second, .val (.int p2), .val (.int p3), .val (.int p4), .val (.long q5), .second, .val (.int (1 : Int32)), .val (.int (1 : Int32)), .val (.ref b37), .val (.int ((f3_12 (0 : Int32)) &&& 1)), .val (.int ((f3_12 (((0 : Nat) + 1).toInt32)) &&& 1)), .val (.int ((f3_12 ((0 : Nat).toInt32)) &&& 1))] [])) _
        refine XS.iconst X55.here hx rfl (hb hby at_169) ?_
        show Steps p.tables e below (T55.setTop (mkF m 170 #[.val (.int p0), .val (.long q1), .second, .val (.int p2), .val (.int p3), .val (.int p4), .val (.long q5), .second, .val (.int (1 : Int32)), .val (.int (1 : Int32)), .val (.ref b37), .val (.int ((f3_12 (0 : Int32)) &&& 1)), .val (.int ((f3_12 (((0 : Nat) + 1).toInt32)) &&& 1)), .val (.int ((f3_12 ((0 : Nat).toInt32)) &&& 1))] [(.int (1 : Int32))])) _
        refine XS.goto X55.here hx rfl (pc0 := 170) (pc' := 174) rfl (hb hby at_170) (by decide) (by decide) ?_
        show Steps p.tables e below (T55.setTop (mkF m 174 #[.val (.int p0), .val (.long q1), .second, .val (.int p2), .val (.int p3), .val (.int p4), .val (.long q5), .second, .val (.int (1 : Int32)), .val (.int (1 : Int32)), .val (.ref b37), .val (.int ((f3_12 (0 : Int32)) &&& 1)), .val (.int ((f3_12 (((0 : Nat) + 1).toInt32)) &&& 1)), .val (.int ((f3_12 ((0 : Nat).toInt32)) &&& 1))] [(.int (1 : Int32))])) _
        exact k)
      obtain ⟨fs, hr, hrun, hended, hW, hsame⟩ := X55.leave (v := some (.int (1 : Int32))) (fun h => by rw [Bd.returns] at h; cases h)
      refine ⟨_, _, pre56 _ ?_, hrun, hended, _, _, rfl, ?_, ⟨_, rfl⟩, hW, hsame.mono (by decide) (by decide)⟩
      · exact retN X55 hx (t := .boolean) Bd.returns (by simp) (hb hby at_174) hr
      · show Q0 Z p0 q1 p2 p3 p4 q5 h0 n0 _ T55.heap _
        rw [hh55]
        exact ⟨rfl, N55⟩
  · have pre57 : ∀ t, Steps p.tables e below (s₁.setTop (mkF m 6 #[.val (.int p0), .val (.long q1), .second, .val (.int p2), .val (.int p3), .val (.int p4), .val (.long q5), .second, .val (.int (2 : Int32)), .unset, .unset, .unset, .unset, .unset] [])) t → Steps p.tables e below (s₁.setTop (entryFrame m #[(.int p0), (.long q1), (.int p2), (.int p3), (.int p4), (.long q5)] maxLocals)) t := fun t k => pre1 t (by rw [hk]; exact k)
    have pre58 : ∀ t, Steps p.tables e below (s₁.setTop (mkF m 18 #[.val (.int p0), .val (.long q1), .second, .val (.int p2), .val (.int p3), .val (.int p4), .val (.long q5), .second, .val (.int (2 : Int32)), .val (.int ((p4 &&& (2147483647 : Int32)) % (3 : Int32))), .unset, .unset, .unset, .unset] [])) t → Steps p.tables e below (s₁.setTop (entryFrame m #[(.int p0), (.long q1), (.int p2), (.int p3), (.int p4), (.long q5)] maxLocals)) t := fun t k => pre57 t (by
      show Steps p.tables e below (s₁.setTop (mkF m 6 #[.val (.int p0), .val (.long q1), .second, .val (.int p2), .val (.int p3), .val (.int p4), .val (.long q5), .second, .val (.int (2 : Int32)), .unset, .unset, .unset, .unset, .unset] [])) _
      refine XS.iload X0.here hx rfl (hb hby at_6) rfl ?_
      show Steps p.tables e below (s₁.setTop (mkF m 8 #[.val (.int p0), .val (.long q1), .second, .val (.int p2), .val (.int p3), .val (.int p4), .val (.long q5), .second, .val (.int (2 : Int32)), .unset, .unset, .unset, .unset, .unset] [(.int p4)])) _
      refine X0.ldcInt hx hown (mvT hZ (hw _ (List.mem_of_getElem? (i := 0) rfl))) (g := (mkF m 8 #[.val (.int p0), .val (.long q1), .second, .val (.int p2), .val (.int p3), .val (.int p4), .val (.long q5), .second, .val (.int (2 : Int32)), .unset, .unset, .unset, .unset, .unset] [(.int p4)])) rfl (hb hby at_8) _ ?_
      show Steps p.tables e below (s₁.setTop (mkF m 10 #[.val (.int p0), .val (.long q1), .second, .val (.int p2), .val (.int p3), .val (.int p4), .val (.long q5), .second, .val (.int (2 : Int32)), .unset, .unset, .unset, .unset, .unset] [(.int (2147483647 : Int32)), (.int p4)])) _
      refine XS.iand X0.here hx rfl (hb hby at_10) rfl ?_
      show Steps p.tables e below (s₁.setTop (mkF m 11 #[.val (.int p0), .val (.long q1), .second, .val (.int p2), .val (.int p3), .val (.int p4), .val (.long q5), .second, .val (.int (2 : Int32)), .unset, .unset, .unset, .unset, .unset] [(.int (p4 &&& (2147483647 : Int32)))])) _
      refine XS.iload X0.here hx rfl (hb hby at_11) rfl ?_
      show Steps p.tables e below (s₁.setTop (mkF m 13 #[.val (.int p0), .val (.long q1), .second, .val (.int p2), .val (.int p3), .val (.int p4), .val (.long q5), .second, .val (.int (2 : Int32)), .unset, .unset, .unset, .unset, .unset] [(.int (2 : Int32)), (.int (p4 &&& (2147483647 : Int32)))])) _
      refine XS.iconst X0.here hx rfl (hb hby at_13) ?_
      show Steps p.tables e below (s₁.setTop (mkF m 14 #[.val (.int p0), .val (.long q1), .second, .val (.int p2), .val (.int p3), .val (.int p4), .val (.long q5), .second, .val (.int (2 : Int32)), .unset, .unset, .unset, .unset, .unset] [(.int (1 : Int32)), (.int (2 : Int32)), (.int (p4 &&& (2147483647 : Int32)))])) _
      refine XS.iadd X0.here hx rfl (hb hby at_14) rfl ?_
      show Steps p.tables e below (s₁.setTop (mkF m 15 #[.val (.int p0), .val (.long q1), .second, .val (.int p2), .val (.int p3), .val (.int p4), .val (.long q5), .second, .val (.int (2 : Int32)), .unset, .unset, .unset, .unset, .unset] [(.int (3 : Int32)), (.int (p4 &&& (2147483647 : Int32)))])) _
      refine iremM (g := (mkF m 15 #[.val (.int p0), .val (.long q1), .second, .val (.int p2), .val (.int p3), .val (.int p4), .val (.long q5), .second, .val (.int (2 : Int32)), .unset, .unset, .unset, .unset, .unset] [(.int (3 : Int32)), (.int (p4 &&& (2147483647 : Int32)))])) X0 hx rfl (hb hby at_15) rfl (by decide) ?_
      show Steps p.tables e below (s₁.setTop (mkF m 16 #[.val (.int p0), .val (.long q1), .second, .val (.int p2), .val (.int p3), .val (.int p4), .val (.long q5), .second, .val (.int (2 : Int32)), .unset, .unset, .unset, .unset, .unset] [(.int ((p4 &&& (2147483647 : Int32)) % (3 : Int32)))])) _
      refine XS.istore X0.here hx rfl (hb hby at_16) rfl (l' := #[.val (.int p0), .val (.long q1), .second, .val (.int p2), .val (.int p3), .val (.int p4), .val (.long q5), .second, .val (.int (2 : Int32)), .val (.int ((p4 &&& (2147483647 : Int32)) % (3 : Int32))), .unset, .unset, .unset, .unset]) rfl ?_
      show Steps p.tables e below (s₁.setTop (mkF m 18 #[.val (.int p0), .val (.long q1), .second, .val (.int p2), .val (.int p3), .val (.int p4), .val (.long q5), .second, .val (.int (2 : Int32)), .val (.int ((p4 &&& (2147483647 : Int32)) % (3 : Int32))), .unset, .unset, .unset, .unset] [])) _
      exact k)
    rcases own_rm3 p4 with hk | hk | hk
    · have pre59 : ∀ t, Steps p.tables e below (s₁.setTop (mkF m 18 #[.val (.int p0), .val (.long q1), .second, .val (.int p2), .val (.int p3), .val (.int p4), .val (.long q5), .second, .val (.int (2 : Int32)), .val (.int (0 : Int32)), .unset, .unset, .unset, .unset] [])) t → Steps p.tables e below (s₁.setTop (entryFrame m #[(.int p0), (.long q1), (.int p2), (.int p3), (.int p4), (.long q5)] maxLocals)) t := fun t k => pre58 t (by rw [hk]; exact k)
      obtain ⟨T60, h60, X60, e60, Ex60, Ne60, D60, -, st60⟩ := newO X0 hx hZ hown (hw _ (List.mem_of_getElem? (i := 1) rfl)) (hw _ (List.mem_of_getElem? (i := 2) rfl)) (hw _ (List.mem_of_getElem? (i := 3) rfl)) e0 (g := (mkF m 18 #[.val (.int p0), .val (.long q1), .second, .val (.int p2), .val (.int p3), .val (.int p4), .val (.long q5), .second, .val (.int (2 : Int32)), .val (.int (0 : Int32)), .unset, .unset, .unset, .unset] [])) rfl (hb hby at_18) (by decide) (by decide)
      obtain ⟨b60, g60⟩ : ∃ z, z = h0.size := ⟨_, rfl⟩
      rw [← g60] at Ne60 D60 st60
      have g_b60 : n0 ≤ b60 := Nat.le_trans (Nat.le_trans Z0 (Nat.le_refl _)) (Nat.le_of_eq g60.symm)
      have sz_b60 : h0.size ≤ b60 := Nat.le_trans (Nat.le_refl _) (Nat.le_of_eq g60.symm)
      have SZ62 : h0.size ≤ h60.size := Nat.le_trans (Nat.le_refl _) Ex60.1
      have ZZ62 : n0 ≤ h60.size := Nat.le_trans Z0 SZ62
      have K63 : Keep h0 h60 [] := ((Keep.refl h0 [])).ext Ex60
      have F_ranks_b60_60 : Fld Z h60 b60 "com/example/brisk_maze/briskmaze/search/RankedFrontier" "ranks" "[J" .null := D60 (Or.inl (hw _ (List.mem_of_getElem? (i := 12) rfl))) (ty := (.array .long)) (by decide)
      have F_costs_b60_60 : Fld Z h60 b60 "com/example/brisk_maze/briskmaze/search/RankedFrontier" "costs" "[I" .null := D60 (Or.inl (hw _ (List.mem_of_getElem? (i := 15) rfl))) (ty := (.array .int)) (by decide)
      have F_states_b60_60 : Fld Z h60 b60 "com/example/brisk_maze/briskmaze/search/RankedFrontier" "states" "[I" .null := D60 (Or.inl (hw _ (List.mem_of_getElem? (i := 17) rfl))) (ty := (.array .int)) (by decide)
      have F_size_b60_60 : Fld Z h60 b60 "com/example/brisk_maze/briskmaze/search/RankedFrontier" "size" "I" (.int (0 : Int32)) := D60 (Or.inl (hw _ (List.mem_of_getElem? (i := 24) rfl))) (ty := .int) (by decide)
      obtain ⟨_, _, ⟨T64, L64, k64, n64⟩, -, X64, ⟨Lc64, hQ64, l64, y64, z64⟩, st64⟩ := X60.specialBack hx (y := (⟨"com/example/brisk_maze/briskmaze/search/RankedFrontier", "<init>", "()V"⟩ : MethodName)) rfl hown (mvT hZ (hw _ (List.mem_of_getElem? (i := 4) rfl))) (mvT hZ (hw _ (List.mem_of_getElem? (i := 5) rfl))) (mvT hZ (hw _ (List.mem_of_getElem? (i := 6) rfl))) (by decide) (backOf (W := 1) (rm1 l Z a0 hw [] b60 h60 n0 ZZ62 F_ranks_b60_60 F_costs_b60_60 F_states_b60_60 Ne60 F_size_b60_60 g_b60) hZ (hw _ (List.mem_of_getElem? (i := 6) rfl)) (hw _ (List.mem_of_getElem? (i := 3) rfl)) (by decide) (by decide)) (g := (mkF m 22 #[.val (.int p0), .val (.long q1), .second, .val (.int p2), .val (.int p3), .val (.int p4), .val (.long q5), .second, .val (.int (2 : Int32)), .val (.int (0 : Int32)), .unset, .unset, .unset, .unset] [(.ref b60), (.ref b60)])) rfl (by rw [hml]; rfl) (Steps.refl _) (a := b60) (argsL := []) (rest := [(.ref b60)]) (lenOf pd_4 rfl) rfl (by show 2 * 0 + _ ≤ _; exact Nat.le_of_eq rfl) (hb hby at_22) (fun _ _ => ⟨rfl, e60, (by decide : 1 + 3 ≤ _), (by decide : 4 + 192 ≤ _)⟩)
      dsimp only [Pt.U, Pt.locs, Pt.cells, Pt.slots] at X64 l64 y64 z64 st64 hQ64
      subst l64 y64 z64
      obtain ⟨tr_64, tc_64, ts_64, rfl, N64q, Kc64, sz_tr_64, sz_tc_64, sz_ts_64, ne_tr_tc_64, ne_tr_ts_64, ne_tc_ts_64, P64_0, P64_1, P64_2, P64_3, P64_4, P64_5, P64_6⟩ := hQ64
      have N64 := Fr.app N0 N64q
      have E_b60_65 : Exa Z T64.heap b60 "com/example/brisk_maze/briskmaze/search/RankedFrontier" := (Ne60).keep Kc64
      have SZ66 : h0.size ≤ T64.heap.size := Nat.le_trans SZ62 Kc64.1
      have ZZ66 : n0 ≤ T64.heap.size := Nat.le_trans Z0 SZ66
      have K67 : Keep h0 T64.heap [] := (K63).trans Kc64 (allS (Or.inr sz_b60) all0)
      have ne_b60_tr_64 : b60 ≠ tr_64 := Nat.ne_of_lt (Nat.lt_of_lt_of_le (Ne60).lt sz_tr_64)
      have g_tr_64 : n0 ≤ tr_64 := Nat.le_trans (Nat.le_trans Z0 SZ62) sz_tr_64
      have szz_tr_64 : h0.size ≤ tr_64 := Nat.le_trans SZ62 sz_tr_64
      have ne_b60_tc_64 : b60 ≠ tc_64 := Nat.ne_of_lt (Nat.lt_of_lt_of_le (Ne60).lt sz_tc_64)
      have g_tc_64 : n0 ≤ tc_64 := Nat.le_trans (Nat.le_trans Z0 SZ62) sz_tc_64
      have szz_tc_64 : h0.size ≤ tc_64 := Nat.le_trans SZ62 sz_tc_64
      have ne_b60_ts_64 : b60 ≠ ts_64 := Nat.ne_of_lt (Nat.lt_of_lt_of_le (Ne60).lt sz_ts_64)
      have g_ts_64 : n0 ≤ ts_64 := Nat.le_trans (Nat.le_trans Z0 SZ62) sz_ts_64
      have szz_ts_64 : h0.size ≤ ts_64 := Nat.le_trans SZ62 sz_ts_64
      obtain ⟨cq68, kq68, q68a, q68b, q68c⟩ := isOf hZ rfl (E_b60_65)
      obtain ⟨_, _, ⟨T68, L68, k68, n68⟩, -, X68, ⟨Lc68, hQ68, l68, y68, z68⟩, st68⟩ := X64.virtualBack hx (y := (⟨"com/example/brisk_maze/briskmaze/search/RankedFrontier", "isEmpty", "()Z"⟩ : MethodName)) (z := (⟨"com/example/brisk_maze/briskmaze/search/RankedFrontier", "isEmpty", "()Z"⟩ : MethodName)) hown (mvT hZ (hw _ (List.mem_of_getElem? (i := 18) rfl))) (mvT hZ (hw _ (List.mem_of_getElem? (i := 19) rfl))) (notFace_of_selects (args := #[]) (mvT hZ (hw _ (List.mem_of_getElem? (i := 21) rfl)))) (mvT hZ (hw _ (List.mem_of_getElem? (i := 21) rfl))) (mvT hZ (hw _ (List.mem_of_getElem? (i := 20) rfl))) (by decide) (backOf (W := 0) (rm3 l Z a0 hw [] b60 (0 : Int32) T64.heap n0 ZZ66 P64_3) hZ (hw _ (List.mem_of_getElem? (i := 22) rfl)) (hw _ (List.mem_of_getElem? (i := 3) rfl)) (by decide) (by decide)) q68a q68c (g := (mkF m 29 #[.val (.int p0), .val (.long q1), .second, .val (.int p2), .val (.int p3), .val (.int p4), .val (.long q5), .second, .val (.int (2 : Int32)), .val (.int (0 : Int32)), .val (.ref b60), .unset, .unset, .unset] [(.ref b60)])) rfl (by rw [hml]; rfl) (Steps.refl _) (argsL := []) (rest := []) (lenOf pd_5 rfl) rfl (by show 2 * 0 + _ ≤ _; exact Nat.le_of_eq rfl) (hb hby at_29) (fun _ _ => ⟨rfl, rfl, (by decide : 4 + 0 ≤ _), (by decide : 196 + 0 ≤ _)⟩)
      dsimp only [Pt.U, Pt.locs, Pt.cells, Pt.slots] at X68 l68 y68 z68 st68 hQ68
      subst l68 y68 z68
      obtain ⟨rfl, N68q, hh68⟩ := hQ68
      have N68 := Fr.app N64 N68q
      obtain ⟨cq69, kq69, q69a, q69b, q69c⟩ := isOf hZ hh68 (E_b60_65)
      obtain ⟨_, _, ⟨T69, L69, k69, n69⟩, -, X69, ⟨Lc69, hQ69, l69, y69, z69⟩, st69⟩ := X68.virtualBack hx (y := (⟨"com/example/brisk_maze/briskmaze/search/RankedFrontier", "add", "(IJI)V"⟩ : MethodName)) (z := (⟨"com/example/brisk_maze/briskmaze/search/RankedFrontier", "add", "(IJI)V"⟩ : MethodName)) hown (mvT hZ (hw _ (List.mem_of_getElem? (i := 25) rfl))) (mvT hZ (hw _ (List.mem_of_getElem? (i := 26) rfl))) (notFace_of_selects (args := #[]) (mvT hZ (hw _ (List.mem_of_getElem? (i := 28) rfl)))) (mvT hZ (hw _ (List.mem_of_getElem? (i := 28) rfl))) (mvT hZ (hw _ (List.mem_of_getElem? (i := 27) rfl))) (by decide) (backOf (W := 0) (rm4 l Z a0 hw [] b60 p0 q1 p2 tr_64 tc_64 ts_64 (fun _ => ((0 : Int64), (0 : Int32), (0 : Int32))) (0 : Nat) T64.heap n0 ZZ66 P64_0 P64_1 P64_2 E_b60_65 P64_3 P64_4 P64_5 P64_6 g_tr_64 g_tc_64 g_ts_64 g_b60 ne_b60_tr_64 ne_b60_tc_64 ne_b60_ts_64 ne_tr_tc_64 ne_tr_ts_64 ne_tc_ts_64 (by decide) (fun j _ j1 => absurd j1 (Nat.not_lt_zero _))) hZ (hw _ (List.mem_of_getElem? (i := 29) rfl)) (hw _ (List.mem_of_getElem? (i := 3) rfl)) (by decide) (by decide)) q69a q69c (g := (mkF m 45 #[.val (.int p0), .val (.long q1), .second, .val (.int p2), .val (.int p3), .val (.int p4), .val (.long q5), .second, .val (.int (2 : Int32)), .val (.int (0 : Int32)), .val (.ref b60), .val (.int ((f3_12 (0 : Int32)) &&& 1)), .unset, .unset] [(.int p2), (.long q1), (.int p0), (.ref b60)])) rfl (by rw [hml]; rfl) (Steps.refl _) (argsL := [(.int p0), (.long q1), (.int p2)]) (rest := []) (lenOf pd_6 rfl) rfl (by show 2 * 0 + _ ≤ _; exact Nat.le_of_eq rfl) (hb hby at_45) (fun _ _ => ⟨rfl, hh68, (by decide : 4 + 0 ≤ _), (by decide : 196 + 0 ≤ _)⟩)
      dsimp only [Pt.U, Pt.locs, Pt.cells, Pt.slots] at X69 l69 y69 z69 st69 hQ69
      subst l69 y69 z69
      obtain ⟨f2_69, rfl, N69q, Kc69, P69_0, P69_1, P69_2, P69_3, P69_4, P69_5, P69_6, P69_7, P69_8⟩ := hQ69
      have N69 := Fr.app N68 N69q
      have E_b60_70 : Exa Z T69.heap b60 "com/example/brisk_maze/briskmaze/search/RankedFrontier" := (E_b60_65).keep Kc69
      have SZ71 : h0.size ≤ T69.heap.size := Nat.le_trans SZ66 Kc69.1
      have ZZ71 : n0 ≤ T69.heap.size := Nat.le_trans Z0 SZ71
      have K72 : Keep h0 T69.heap [] := (K67).trans Kc69 (allS (Or.inr szz_tr_64) (allS (Or.inr szz_tc_64) (allS (Or.inr szz_ts_64) (allS (Or.inr sz_b60) all0))))
      obtain ⟨cq73, kq73, q73a, q73b, q73c⟩ := isOf hZ rfl (E_b60_70)
      obtain ⟨_, _, ⟨T73, L73, k73, n73⟩, -, X73, ⟨Lc73, hQ73, l73, y73, z73⟩, st73⟩ := X69.virtualBack hx (y := (⟨"com/example/brisk_maze/briskmaze/search/RankedFrontier", "add", "(IJI)V"⟩ : MethodName)) (z := (⟨"com/example/brisk_maze/briskmaze/search/RankedFrontier", "add", "(IJI)V"⟩ : MethodName)) hown (mvT hZ (hw _ (List.mem_of_getElem? (i := 25) rfl))) (mvT hZ (hw _ (List.mem_of_getElem? (i := 26) rfl))) (notFace_of_selects (args := #[]) (mvT hZ (hw _ (List.mem_of_getElem? (i := 28) rfl)))) (mvT hZ (hw _ (List.mem_of_getElem? (i := 28) rfl))) (mvT hZ (hw _ (List.mem_of_getElem? (i := 27) rfl))) (by decide) (backOf (W := 0) (rm4 l Z a0 hw [] b60 p2 q5 p0 tr_64 tc_64 ts_64 f2_69 (1 : Nat) T69.heap n0 ZZ71 P69_1 P69_2 P69_3 E_b60_70 P69_0 P69_4 P69_5 P69_6 g_tr_64 g_tc_64 g_ts_64 g_b60 ne_b60_tr_64 ne_b60_tc_64 ne_b60_ts_64 ne_tr_tc_64 ne_tr_ts_64 ne_tc_ts_64 (by decide) P69_7) hZ (hw _ (List.mem_of_getElem? (i := 29) rfl)) (hw _ (List.mem_of_getElem? (i := 3) rfl)) (by decide) (by decide)) q73a q73c (g := (mkF m 60 #[.val (.int p0), .val (.long q1), .second, .val (.int p2), .val (.int p3), .val (.int p4), .val (.long q5), .second, .val (.int (2 : Int32)), .val (.int (0 : Int32)), .val (.ref b60), .val (.int ((f3_12 (0 : Int32)) &&& 1)), .unset, .unset] [(.int p0), (.long q5), (.int p2), (.ref b60)])) rfl (by rw [hml]; rfl) (Steps.refl _) (argsL := [(.int p2), (.long q5), (.int p0)]) (rest := []) (lenOf pd_6 rfl) rfl (by show 2 * 0 + _ ≤ _; exact Nat.le_of_eq rfl) (hb hby at_60) (fun _ _ => ⟨rfl, rfl, (by decide : 4 + 0 ≤ _), (by decide : 196 + 0 ≤ _)⟩)
      dsimp only [Pt.U, Pt.locs, Pt.cells, Pt.slots] at X73 l73 y73 z73 st73 hQ73
      subst l73 y73 z73
      obtain ⟨f2_73, rfl, N73q, Kc73, P73_0, P73_1, P73_2, P73_3, P73_4, P73_5, P73_6, P73_7, P73_8⟩ := hQ73
      have N73 := Fr.app N69 N73q
      have E_b60_74 : Exa Z T73.heap b60 "com/example/brisk_maze/briskmaze/search/RankedFrontier" := (E_b60_70).keep Kc73
      have SZ75 : h0.size ≤ T73.heap.size := Nat.le_trans SZ71 Kc73.1
      have ZZ75 : n0 ≤ T73.heap.size := Nat.le_trans Z0 SZ75
      have K76 : Keep h0 T73.heap [] := (K72).trans Kc73 (allS (Or.inr szz_tr_64) (allS (Or.inr szz_tc_64) (allS (Or.inr szz_ts_64) (allS (Or.inr sz_b60) all0))))
      obtain ⟨cq77, kq77, q77a, q77b, q77c⟩ := isOf hZ rfl (E_b60_74)
      obtain ⟨_, _, ⟨T77, L77, k77, n77⟩, -, X77, ⟨Lc77, hQ77, l77, y77, z77⟩, st77⟩ := X73.virtualBack hx (y := (⟨"com/example/brisk_maze/briskmaze/search/RankedFrontier", "isEmpty", "()Z"⟩ : MethodName)) (z := (⟨"com/example/brisk_maze/briskmaze/search/RankedFrontier", "isEmpty", "()Z"⟩ : MethodName)) hown (mvT hZ (hw _ (List.mem_of_getElem? (i := 18) rfl))) (mvT hZ (hw _ (List.mem_of_getElem? (i := 19) rfl))) (notFace_of_selects (args := #[]) (mvT hZ (hw _ (List.mem_of_getElem? (i := 21) rfl)))) (mvT hZ (hw _ (List.mem_of_getElem? (i := 21) rfl))) (mvT hZ (hw _ (List.mem_of_getElem? (i := 20) rfl))) (by decide) (backOf (W := 0) (rm3 l Z a0 hw [] b60 (((1 : Nat) + 1).toInt32) T73.heap n0 ZZ75 P73_0) hZ (hw _ (List.mem_of_getElem? (i := 22) rfl)) (hw _ (List.mem_of_getElem? (i := 3) rfl)) (by decide) (by decide)) q77a q77c (g := (mkF m 84 #[.val (.int p0), .val (.long q1), .second, .val (.int p2), .val (.int p3), .val (.int p4), .val (.long q5), .second, .val (.int (2 : Int32)), .val (.int (0 : Int32)), .val (.ref b60), .val (.int ((f3_12 (0 : Int32)) &&& 1)), .unset, .unset] [(.ref b60)])) rfl (by rw [hml]; rfl) (Steps.refl _) (argsL := []) (rest := []) (lenOf pd_5 rfl) rfl (by show 2 * 0 + _ ≤ _; exact Nat.le_of_eq rfl) (hb hby at_84) (fun _ _ => ⟨rfl, rfl, (by decide : 4 + 0 ≤ _), (by decide : 196 + 0 ≤ _)⟩)
      dsimp only [Pt.U, Pt.locs, Pt.cells, Pt.slots] at X77 l77 y77 z77 st77 hQ77
      subst l77 y77 z77
      obtain ⟨rfl, N77q, hh77⟩ := hQ77
      have N77 := Fr.app N73 N77q
      obtain ⟨cq78, kq78, q78a, q78b, q78c⟩ := isOf hZ hh77 (E_b60_74)
      obtain ⟨_, _, ⟨T78, L78, k78, n78⟩, -, X78, ⟨Lc78, hQ78, l78, y78, z78⟩, st78⟩ := X77.virtualBack hx (y := (⟨"com/example/brisk_maze/briskmaze/search/RankedFrontier", "isEmpty", "()Z"⟩ : MethodName)) (z := (⟨"com/example/brisk_maze/briskmaze/search/RankedFrontier", "isEmpty", "()Z"⟩ : MethodName)) hown (mvT hZ (hw _ (List.mem_of_getElem? (i := 18) rfl))) (mvT hZ (hw _ (List.mem_of_getElem? (i := 19) rfl))) (notFace_of_selects (args := #[]) (mvT hZ (hw _ (List.mem_of_getElem? (i := 21) rfl)))) (mvT hZ (hw _ (List.mem_of_getElem? (i := 21) rfl))) (mvT hZ (hw _ (List.mem_of_getElem? (i := 20) rfl))) (by decide) (backOf (W := 0) (rm3 l Z a0 hw [] b60 (((1 : Nat) + 1).toInt32) T73.heap n0 ZZ75 P73_0) hZ (hw _ (List.mem_of_getElem? (i := 22) rfl)) (hw _ (List.mem_of_getElem? (i := 3) rfl)) (by decide) (by decide)) q78a q78c (g := (mkF m 127 #[.val (.int p0), .val (.long q1), .second, .val (.int p2), .val (.int p3), .val (.int p4), .val (.long q5), .second, .val (.int (2 : Int32)), .val (.int (0 : Int32)), .val (.ref b60), .val (.int ((f3_12 (0 : Int32)) &&& 1)), .val (.int ((f3_12 (((1 : Nat) + 1).toInt32)) &&& 1)), .unset] [(.ref b60)])) rfl (by rw [hml]; rfl) (Steps.refl _) (argsL := []) (rest := []) (lenOf pd_5 rfl) rfl (by show 2 * 0 + _ ≤ _; exact Nat.le_of_eq rfl) (hb hby at_127) (fun _ _ => ⟨rfl, hh77, (by decide : 4 + 0 ≤ _), (by decide : 196 + 0 ≤ _)⟩)
      dsimp only [Pt.U, Pt.locs, Pt.cells, Pt.slots] at X78 l78 y78 z78 st78 hQ78
      subst l78 y78 z78
      obtain ⟨rfl, N78q, hh78⟩ := hQ78
      have N78 := Fr.app N77 N78q
      have pre79 : ∀ t, Steps p.tables e below (T78.setTop (mkF m 174 #[.val (.int p0), .val (.long q1), .second, .val (.int p2), .val (.int p3), .val (.int p4), .val (.long q5), .second, .val (.int (2 : Int32)), .val (.int (0 : Int32)), .val (.ref b60), .val (.int ((f3_12 (0 : Int32)) &&& 1)), .val (.int ((f3_12 (((1 : Nat) + 1).toInt32)) &&& 1)), .val (.int ((f3_12 (((1 : Nat) + 1).toInt32)) &&& 1))] [(.int (1 : Int32))])) t → Steps p.tables e below (s₁.setTop (entryFrame m #[(.int p0), (.long q1), (.int p2), (.int p3), (.int p4), (.long q5)] maxLocals)) t := fun t k => pre59 t (by
        show Steps p.tables e below (s₁.setTop (mkF m 18 #[.val (.int p0), .val (.long q1), .second, .val (.int p2), .val (.int p3), .val (.int p4), .val (.long q5), .second, .val (.int (2 : Int32)), .val (.int (0 : Int32)), .unset, .unset, .unset, .unset] [])) _
        refine st60 _ ?_
        show Steps p.tables e below (T60.setTop (mkF m 21 #[.val (.int p0), .val (.long q1), .second, .val (.int p2), .val (.int p3), .val (.int p4), .val (.long q5), .second, .val (.int (2 : Int32)), .val (.int (0 : Int32)), .unset, .unset, .unset, .unset] [(.ref b60)])) _
        refine XS.dup X60.here hx rfl (hb hby at_21) rfl rfl ?_
        show Steps p.tables e below (T60.setTop (mkF m 22 #[.val (.int p0), .val (.long q1), .second, .val (.int p2), .val (.int p3), .val (.int p4), .val (.long q5), .second, .val (.int (2 : Int32)), .val (.int (0 : Int32)), .unset, .unset, .unset, .unset] [(.ref b60), (.ref b60)])) _
        refine st64.trans ?_
        show Steps p.tables e below (T64.setTop (mkF m 25 #[.val (.int p0), .val (.long q1), .second, .val (.int p2), .val (.int p3), .val (.int p4), .val (.long q5), .second, .val (.int (2 : Int32)), .val (.int (0 : Int32)), .unset, .unset, .unset, .unset] [(.ref b60)])) _
        refine XS.astore X64.here hx rfl (hb hby at_25) rfl rfl (l' := #[.val (.int p0), .val (.long q1), .second, .val (.int p2), .val (.int p3), .val (.int p4), .val (.long q5), .second, .val (.int (2 : Int32)), .val (.int (0 : Int32)), .val (.ref b60), .unset, .unset, .unset]) rfl ?_
        show Steps p.tables e below (T64.setTop (mkF m 27 #[.val (.int p0), .val (.long q1), .second, .val (.int p2), .val (.int p3), .val (.int p4), .val (.long q5), .second, .val (.int (2 : Int32)), .val (.int (0 : Int32)), .val (.ref b60), .unset, .unset, .unset] [])) _
        refine XS.aload X64.here hx rfl (hb hby at_27) rfl rfl ?_
        show Steps p.tables e below (T64.setTop (mkF m 29 #[.val (.int p0), .val (.long q1), .second, .val (.int p2), .val (.int p3), .val (.int p4), .val (.long q5), .second, .val (.int (2 : Int32)), .val (.int (0 : Int32)), .val (.ref b60), .unset, .unset, .unset] [(.ref b60)])) _
        refine st68.trans ?_
        show Steps p.tables e below (T68.setTop (mkF m 32 #[.val (.int p0), .val (.long q1), .second, .val (.int p2), .val (.int p3), .val (.int p4), .val (.long q5), .second, .val (.int (2 : Int32)), .val (.int (0 : Int32)), .val (.ref b60), .unset, .unset, .unset] [(.int ((f3_12 (0 : Int32)) &&& 1))])) _
        refine XS.istore X68.here hx rfl (hb hby at_32) rfl (l' := #[.val (.int p0), .val (.long q1), .second, .val (.int p2), .val (.int p3), .val (.int p4), .val (.long q5), .second, .val (.int (2 : Int32)), .val (.int (0 : Int32)), .val (.ref b60), .val (.int ((f3_12 (0 : Int32)) &&& 1)), .unset, .unset]) rfl ?_
        show Steps p.tables e below (T68.setTop (mkF m 34 #[.val (.int p0), .val (.long q1), .second, .val (.int p2), .val (.int p3), .val (.int p4), .val (.long q5), .second, .val (.int (2 : Int32)), .val (.int (0 : Int32)), .val (.ref b60), .val (.int ((f3_12 (0 : Int32)) &&& 1)), .unset, .unset] [])) _
        refine XS.iload X68.here hx rfl (hb hby at_34) rfl ?_
        show Steps p.tables e below (T68.setTop (mkF m 36 #[.val (.int p0), .val (.long q1), .second, .val (.int p2), .val (.int p3), .val (.int p4), .val (.long q5), .second, .val (.int (2 : Int32)), .val (.int (0 : Int32)), .val (.ref b60), .val (.int ((f3_12 (0 : Int32)) &&& 1)), .unset, .unset] [(.int (2 : Int32))])) _
        refine XS.iconst X68.here hx rfl (hb hby at_36) ?_
        show Steps p.tables e below (T68.setTop (mkF m 37 #[.val (.int p0), .val (.long q1), .second, .val (.int p2), .val (.int p3), .val (.int p4), .val (.long q5), .second, .val (.int (2 : Int32)), .val (.int (0 : Int32)), .val (.ref b60), .val (.int ((f3_12 (0 : Int32)) &&& 1)), .unset, .unset] [(.int (1 : Int32)), (.int (2 : Int32))])) _
        refine XS.icmpNo X68.here hx rfl (hb hby at_37) rfl (flt (show ¬ ((2 : Int32) < (1 : Int32)) by decide)).1 ?_
        show Steps p.tables e below (T68.setTop (mkF m 40 #[.val (.int p0), .val (.long q1), .second, .val (.int p2), .val (.int p3), .val (.int p4), .val (.long q5), .second, .val (.int (2 : Int32)), .val (.int (0 : Int32)), .val (.ref b60), .val (.int ((f3_12 (0 : Int32)) &&& 1)), .unset, .unset] [])) _
        refine XS.aload X68.here hx rfl (hb hby at_40) rfl rfl ?_
        show Steps p.tables e below (T68.setTop (mkF m 42 #[.val (.int p0), .val (.long q1), .second, .val (.int p2), .val (.int p3), .val (.int p4), .val (.long q5), .second, .val (.int (2 : Int32)), .val (.int (0 : Int32)), .val (.ref b60), .val (.int ((f3_12 (0 : Int32)) &&& 1)), .unset, .unset] [(.ref b60)])) _
        refine XS.iloadN X68.here hx rfl (hb hby at_42) rfl ?_
        show Steps p.tables e below (T68.setTop (mkF m 43 #[.val (.int p0), .val (.long q1), .second, .val (.int p2), .val (.int p3), .val (.int p4), .val (.long q5), .second, .val (.int (2 : Int32)), .val (.int (0 : Int32)), .val (.ref b60), .val (.int ((f3_12 (0 : Int32)) &&& 1)), .unset, .unset] [(.int p0), (.ref b60)])) _
        refine XS.lloadN X68.here hx rfl (hb hby at_43) rfl ?_
        show Steps p.tables e below (T68.setTop (mkF m 44 #[.val (.int p0), .val (.long q1), .second, .val (.int p2), .val (.int p3), .val (.int p4), .val (.long q5), .second, .val (.int (2 : Int32)), .val (.int (0 : Int32)), .val (.ref b60), .val (.int ((f3_12 (0 : Int32)) &&& 1)), .unset, .unset] [(.long q1), (.int p0), (.ref b60)])) _
        refine XS.iloadN X68.here hx rfl (hb hby at_44) rfl ?_
        show Steps p.tables e below (T68.setTop (mkF m 45 #[.val (.int p0), .val (.long q1), .second, .val (.int p2), .val (.int p3), .val (.int p4), .val (.long q5), .second, .val (.int (2 : Int32)), .val (.int (0 : Int32)), .val (.ref b60), .val (.int ((f3_12 (0 : Int32)) &&& 1)), .unset, .unset] [(.int p2), (.long q1), (.int p0), (.ref b60)])) _
        refine st69.trans ?_
        show Steps p.tables e below (T69.setTop (mkF m 48 #[.val (.int p0), .val (.long q1), .second, .val (.int p2), .val (.int p3), .val (.int p4), .val (.long q5), .second, .val (.int (2 : Int32)), .val (.int (0 : Int32)), .val (.ref b60), .val (.int ((f3_12 (0 : Int32)) &&& 1)), .unset, .unset] [])) _
        refine XS.iload X69.here hx rfl (hb hby at_48) rfl ?_
        show Steps p.tables e below (T69.setTop (mkF m 50 #[.val (.int p0), .val (.long q1), .second, .val (.int p2), .val (.int p3), .val (.int p4), .val (.long q5), .second, .val (.int (2 : Int32)), .val (.int (0 : Int32)), .val (.ref b60), .val (.int ((f3_12 (0 : Int32)) &&& 1)), .unset, .unset] [(.int (2 : Int32))])) _
        refine XS.iconst X69.here hx rfl (hb hby at_50) ?_
        show Steps p.tables e below (T69.setTop (mkF m 51 #[.val (.int p0), .val (.long q1), .second, .val (.int p2), .val (.int p3), .val (.int p4), .val (.long q5), .second, .val (.int (2 : Int32)), .val (.int (0 : Int32)), .val (.ref b60), .val (.int ((f3_12 (0 : Int32)) &&& 1)), .unset, .unset] [(.int (2 : Int32)), (.int (2 : Int32))])) _
        refine XS.icmpNo X69.here hx rfl (hb hby at_51) rfl (flt (show ¬ ((2 : Int32) < (2 : Int32)) by decide)).1 ?_
        show Steps p.tables e below (T69.setTop (mkF m 54 #[.val (.int p0), .val (.long q1), .second, .val (.int p2), .val (.int p3), .val (.int p4), .val (.long q5), .second, .val (.int (2 : Int32)), .val (.int (0 : Int32)), .val (.ref b60), .val (.int ((f3_12 (0 : Int32)) &&& 1)), .unset, .unset] [])) _
        refine XS.aload X69.here hx rfl (hb hby at_54) rfl rfl ?_
        show Steps p.tables e below (T69.setTop (mkF m 56 #[.val (.int p0), .val (.long q1), .second, .val (.int p2), .val (.int p3), .val (.int p4), .val (.long q5), .second, .val (.int (2 : Int32)), .val (.int (0 : Int32)), .val (.ref b60), .val (.int ((f3_12 (0 : Int32)) &&& 1)), .unset, .unset] [(.ref b60)])) _
        refine XS.iloadN X69.here hx rfl (hb hby at_56) rfl ?_
        show Steps p.tables e below (T69.setTop (mkF m 57 #[.val (.int p0), .val (.long q1), .second, .val (.int p2), .val (.int p3), .val (.int p4), .val (.long q5), .second, .val (.int (2 : Int32)), .val (.int (0 : Int32)), .val (.ref b60), .val (.int ((f3_12 (0 : Int32)) &&& 1)), .unset, .unset] [(.int p2), (.ref b60)])) _
        refine XS.lload X69.here hx rfl (hb hby at_57) rfl ?_
        show Steps p.tables e below (T69.setTop (mkF m 59 #[.val (.int p0), .val (.long q1), .second, .val (.int p2), .val (.int p3), .val (.int p4), .val (.long q5), .second, .val (.int (2 : Int32)), .val (.int (0 : Int32)), .val (.ref b60), .val (.int ((f3_12 (0 : Int32)) &&& 1)), .unset, .unset] [(.long q5), (.int p2), (.ref b60)])) _
        refine XS.iloadN X69.here hx rfl (hb hby at_59) rfl ?_
        show Steps p.tables e below (T69.setTop (mkF m 60 #[.val (.int p0), .val (.long q1), .second, .val (.int p2), .val (.int p3), .val (.int p4), .val (.long q5), .second, .val (.int (2 : Int32)), .val (.int (0 : Int32)), .val (.ref b60), .val (.int ((f3_12 (0 : Int32)) &&& 1)), .unset, .unset] [(.int p0), (.long q5), (.int p2), (.ref b60)])) _
        refine st73.trans ?_
        show Steps p.tables e below (T73.setTop (mkF m 63 #[.val (.int p0), .val (.long q1), .second, .val (.int p2), .val (.int p3), .val (.int p4), .val (.long q5), .second, .val (.int (2 : Int32)), .val (.int (0 : Int32)), .val (.ref b60), .val (.int ((f3_12 (0 : Int32)) &&& 1)), .unset, .unset] [])) _
        refine XS.iload X73.here hx rfl (hb hby at_63) rfl ?_
        show Steps p.tables e below (T73.setTop (mkF m 65 #[.val (.int p0), .val (.long q1), .second, .val (.int p2), .val (.int p3), .val (.int p4), .val (.long q5), .second, .val (.int (2 : Int32)), .val (.int (0 : Int32)), .val (.ref b60), .val (.int ((f3_12 (0 : Int32)) &&& 1)), .unset, .unset] [(.int (2 : Int32))])) _
        refine XS.iconst X73.here hx rfl (hb hby at_65) ?_
        show Steps p.tables e below (T73.setTop (mkF m 66 #[.val (.int p0), .val (.long q1), .second, .val (.int p2), .val (.int p3), .val (.int p4), .val (.long q5), .second, .val (.int (2 : Int32)), .val (.int (0 : Int32)), .val (.ref b60), .val (.int ((f3_12 (0 : Int32)) &&& 1)), .unset, .unset] [(.int (3 : Int32)), (.int (2 : Int32))])) _
        refine XS.icmpYes X73.here hx rfl (pc0 := 66) (pc' := 82) rfl (hb hby at_66) rfl (tlt (show (2 : Int32) < (3 : Int32) by decide)).1 (by decide) (by decide) ?_
        show Steps p.tables e below (T73.setTop (mkF m 82 #[.val (.int p0), .val (.long q1), .second, .val (.int p2), .val (.int p3), .val (.int p4), .val (.long q5), .second, .val (.int (2 : Int32)), .val (.int (0 : Int32)), .val (.ref b60), .val (.int ((f3_12 (0 : Int32)) &&& 1)), .unset, .unset] [])) _
        refine XS.aload X73.here hx rfl (hb hby at_82) rfl rfl ?_
        show Steps p.tables e below (T73.setTop (mkF m 84 #[.val (.int p0), .val (.long q1), .second, .val (.int p2), .val (.int p3), .val (.int p4), .val (.long q5), .second, .val (.int (2 : Int32)), .val (.int (0 : Int32)), .val (.ref b60), .val (.int ((f3_12 (0 : Int32)) &&& 1)), .unset, .unset] [(.ref b60)])) _
        refine st77.trans ?_
        show Steps p.tables e below (T77.setTop (mkF m 87 #[.val (.int p0), .val (.long q1), .second, .val (.int p2), .val (.int p3), .val (.int p4), .val (.long q5), .second, .val (.int (2 : Int32)), .val (.int (0 : Int32)), .val (.ref b60), .val (.int ((f3_12 (0 : Int32)) &&& 1)), .unset, .unset] [(.int ((f3_12 (((1 : Nat) + 1).toInt32)) &&& 1))])) _
        refine XS.istore X77.here hx rfl (hb hby at_87) rfl (l' := #[.val (.int p0), .val (.long q1), .second, .val (.int p2), .val (.int p3), .val (.int p4), .val (.long q5), .second, .val (.int (2 : Int32)), .val (.int (0 : Int32)), .val (.ref b60), .val (.int ((f3_12 (0 : Int32)) &&& 1)), .val (.int ((f3_12 (((1 : Nat) + 1).toInt32)) &&& 1)), .unset]) rfl ?_
        show Steps p.tables e below (T77.setTop (mkF m 89 #[.val (.int p0), .val (.long q1), .second, .val (.int p2), .val (.int p3), .val (.int p4), .val (.long q5), .second, .val (.int (2 : Int32)), .val (.int (0 : Int32)), .val (.ref b60), .val (.int ((f3_12 (0 : Int32)) &&& 1)), .val (.int ((f3_12 (((1 : Nat) + 1).toInt32)) &&& 1)), .unset] [])) _
        refine XS.iload X77.here hx rfl (hb hby at_89) rfl ?_
        show Steps p.tables e below (T77.setTop (mkF m 91 #[.val (.int p0), .val (.long q1), .second, .val (.int p2), .val (.int p3), .val (.int p4), .val (.long q5), .second, .val (.int (2 : Int32)), .val (.int (0 : Int32)), .val (.ref b60), .val (.int ((f3_12 (0 : Int32)) &&& 1)), .val (.int ((f3_12 (((1 : Nat) + 1).toInt32)) &&& 1)), .unset] [(.int (0 : Int32))])) _
        refine XS.iconst X77.here hx rfl (hb hby at_91) ?_
        show Steps p.tables e below (T77.setTop (mkF m 92 #[.val (.int p0), .val (.long q1), .second, .val (.int p2), .val (.int p3), .val (.int p4), .val (.long q5), .second, .val (.int (2 : Int32)), .val (.int (0 : Int32)), .val (.ref b60), .val (.int ((f3_12 (0 : Int32)) &&& 1)), .val (.int ((f3_12 (((1 : Nat) + 1).toInt32)) &&& 1)), .unset] [(.int (1 : Int32)), (.int (0 : Int32))])) _
        refine XS.icmpYes X77.here hx rfl (pc0 := 92) (pc' := 101) rfl (hb hby at_92) rfl (tlt (show (0 : Int32) < (1 : Int32) by decide)).1 (by decide) (by decide) ?_
        show Steps p.tables e below (T77.setTop (mkF m 101 #[.val (.int p0), .val (.long q1), .second, .val (.int p2), .val (.int p3), .val (.int p4), .val (.long q5), .second, .val (.int (2 : Int32)), .val (.int (0 : Int32)), .val (.ref b60), .val (.int ((f3_12 (0 : Int32)) &&& 1)), .val (.int ((f3_12 (((1 : Nat) + 1).toInt32)) &&& 1)), .unset] [])) _
        refine XS.iload X77.here hx rfl (hb hby at_101) rfl ?_
        show Steps p.tables e below (T77.setTop (mkF m 103 #[.val (.int p0), .val (.long q1), .second, .val (.int p2), .val (.int p3), .val (.int p4), .val (.long q5), .second, .val (.int (2 : Int32)), .val (.int (0 : Int32)), .val (.ref b60), .val (.int ((f3_12 (0 : Int32)) &&& 1)), .val (.int ((f3_12 (((1 : Nat) + 1).toInt32)) &&& 1)), .unset] [(.int (0 : Int32))])) _
        refine XS.iconst X77.here hx rfl (hb hby at_103) ?_
        show Steps p.tables e below (T77.setTop (mkF m 104 #[.val (.int p0), .val (.long q1), .second, .val (.int p2), .val (.int p3), .val (.int p4), .val (.long q5), .second, .val (.int (2 : Int32)), .val (.int (0 : Int32)), .val (.ref b60), .val (.int ((f3_12 (0 : Int32)) &&& 1)), .val (.int ((f3_12 (((1 : Nat) + 1).toInt32)) &&& 1)), .unset] [(.int (2 : Int32)), (.int (0 : Int32))])) _
        refine XS.icmpYes X77.here hx rfl (pc0 := 104) (pc' := 113) rfl (hb hby at_104) rfl (tlt (show (0 : Int32) < (2 : Int32) by decide)).1 (by decide) (by decide) ?_
        show Steps p.tables e below (T77.setTop (mkF m 113 #[.val (.int p0), .val (.long q1), .second, .val (.int p2), .val (.int p3), .val (.int p4), .val (.long q5), .second, .val (.int (2 : Int32)), .val (.int (0 : Int32)), .val (.ref b60), .val (.int ((f3_12 (0 : Int32)) &&& 1)), .val (.int ((f3_12 (((1 : Nat) + 1).toInt32)) &&& 1)), .unset] [])) _
        refine XS.iload X77.here hx rfl (hb hby at_113) rfl ?_
        show Steps p.tables e below (T77.setTop (mkF m 115 #[.val (.int p0), .val (.long q1), .second, .val (.int p2), .val (.int p3), .val (.int p4), .val (.long q5), .second, .val (.int (2 : Int32)), .val (.int (0 : Int32)), .val (.ref b60), .val (.int ((f3_12 (0 : Int32)) &&& 1)), .val (.int ((f3_12 (((1 : Nat) + 1).toInt32)) &&& 1)), .unset] [(.int (0 : Int32))])) _
        refine XS.iconst X77.here hx rfl (hb hby at_115) ?_
        show Steps p.tables e below (T77.setTop (mkF m 116 #[.val (.int p0), .val (.long q1), .second, .val (.int p2), .val (.int p3), .val (.int p4), .val (.long q5), .second, .val (.int (2 : Int32)), .val (.int (0 : Int32)), .val (.ref b60), .val (.int ((f3_12 (0 : Int32)) &&& 1)), .val (.int ((f3_12 (((1 : Nat) + 1).toInt32)) &&& 1)), .unset] [(.int (3 : Int32)), (.int (0 : Int32))])) _
        refine XS.icmpYes X77.here hx rfl (pc0 := 116) (pc' := 125) rfl (hb hby at_116) rfl (tlt (show (0 : Int32) < (3 : Int32) by decide)).1 (by decide) (by decide) ?_
        show Steps p.tables e below (T77.setTop (mkF m 125 #[.val (.int p0), .val (.long q1), .second, .val (.int p2), .val (.int p3), .val (.int p4), .val (.long q5), .second, .val (.int (2 : Int32)), .val (.int (0 : Int32)), .val (.ref b60), .val (.int ((f3_12 (0 : Int32)) &&& 1)), .val (.int ((f3_12 (((1 : Nat) + 1).toInt32)) &&& 1)), .unset] [])) _
        refine XS.aload X77.here hx rfl (hb hby at_125) rfl rfl ?_
        show Steps p.tables e below (T77.setTop (mkF m 127 #[.val (.int p0), .val (.long q1), .second, .val (.int p2), .val (.int p3), .val (.int p4), .val (.long q5), .second, .val (.int (2 : Int32)), .val (.int (0 : Int32)), .val (.ref b60), .val (.int ((f3_12 (0 : Int32)) &&& 1)), .val (.int ((f3_12 (((1 : Nat) + 1).toInt32)) &&& 1)), .unset] [(.ref b60)])) _
        refine st78.trans ?_
        show Steps p.tables e below (T78.setTop (mkF m 130 #[.val (.int p0), .val (.long q1), .second, .val (.int p2), .val (.int p3), .val (.int p4), .val (.long q5), .second, .val (.int (2 : Int32)), .val (.int (0 : Int32)), .val (.ref b60), .val (.int ((f3_12 (0 : Int32)) &&& 1)), .val (.int ((f3_12 (((1 : Nat) + 1).toInt32)) &&& 1)), .unset] [(.int ((f3_12 (((1 : Nat) + 1).toInt32)) &&& 1))])) _
        refine XS.istore X78.here hx rfl (hb hby at_130) rfl (l' := #[.val (.int p0), .val (.long q1), .second, .val (.int p2), .val (.int p3), .val (.int p4), .val (.long q5), .second, .val (.int (2 : Int32)), .val (.int (0 : Int32)), .val (.ref b60), .val (.int ((f3_12 (0 : Int32)) &&& 1)), .val (.int ((f3_12 (((1 : Nat) + 1).toInt32)) &&& 1)), .val (.int ((f3_12 (((1 : Nat) + 1).toInt32)) &&& 1))]) rfl ?_
        show Steps p.tables e below (T78.setTop (mkF m 132 #[.val (.int p0), .val (.long q1), .second, .val (.int p2), .val (.int p3), .val (.int p4), .val (.long q5), .second, .val (.int (2 : Int32)), .val (.int (0 : Int32)), .val (.ref b60), .val (.int ((f3_12 (0 : Int32)) &&& 1)), .val (.int ((f3_12 (((1 : Nat) + 1).toInt32)) &&& 1)), .val (.int ((f3_12 (((1 : Nat) + 1).toInt32)) &&& 1))] [])) _
        refine XS.iload X78.here hx rfl (hb hby at_132) rfl ?_
        show Steps p.tables e below (T78.setTop (mkF m 134 #[.val (.int p0), .val (.long q1), .second, .val (.int p2), .val (.int p3), .val (.int p4), .val (.long q5), .second, .val (.int (2 : Int32)), .val (.int (0 : Int32)), .val (.ref b60), .val (.int ((f3_12 (0 : Int32)) &&& 1)), .val (.int ((f3_12 (((1 : Nat) + 1).toInt32)) &&& 1)), .val (.int ((f3_12 (((1 : Nat) + 1).toInt32)) &&& 1))] [(.int ((f3_12 (0 : Int32)) &&& 1))])) _
        refine XS.ifNo X78.here hx rfl (hb hby at_134) rfl ((if0 _ _).trans (feq (show ¬ (((f3_12 (0 : Int32)) &&& 1) = (0 : Int32)) from by decide)).1) ?_
        show Steps p.tables e below (T78.setTop (mkF m 137 #[.val (.int p0), .val (.long q1), .second, .val (.int p2), .val (.int p3), .val (.int p4), .val (.long q5), .second, .val (.int (2 : Int32)), .val (.int (0 : Int32)), .val (.ref b60), .val (.int ((f3_12 (0 : Int32)) &&& 1)), .val (.int ((f3_12 (((1 : Nat) + 1).toInt32)) &&& 1)), .val (.int ((f3_12 (((1 : Nat) + 1).toInt32)) &&& 1))] [])) _
        refine XS.iload X78.here hx rfl (hb hby at_137) rfl ?_
        show Steps p.tables e below (T78.setTop (mkF m 139 #[.val (.int p0), .val (.long q1), .second, .val (.int p2), .val (.int p3), .val (.int p4), .val (.long q5), .second, .val (.int (2 : Int32)), .val (.int (0 : Int32)), .val (.ref b60), .val (.int ((f3_12 (0 : Int32)) &&& 1)), .val (.int ((f3_12 (((1 : Nat) + 1).toInt32)) &&& 1)), .val (.int ((f3_12 (((1 : Nat) + 1).toInt32)) &&& 1))] [(.int ((f3_12 (((1 : Nat) + 1).toInt32)) &&& 1))])) _
        refine XS.iload X78.here hx rfl (hb hby at_139) rfl ?_
        show Steps p.tables e below (T78.setTop (mkF m 141 #[.val (.int p0), .val (.long q1), .second, .val (.int p2), .val (.int p3), .val (.int p4), .val (.long q5), .second, .val (.int (2 : Int32)), .val (.int (0 : Int32)), .val (.ref b60), .val (.int ((f3_12 (0 : Int32)) &&& 1)), .val (.int ((f3_12 (((1 : Nat) + 1).toInt32)) &&& 1)), .val (.int ((f3_12 (((1 : Nat) + 1).toInt32)) &&& 1))] [(.int (2 : Int32)), (.int ((f3_12 (((1 : Nat) + 1).toInt32)) &&& 1))])) _
        refine XS.ifYes X78.here hx rfl (pc0 := 141) (pc' := 148) rfl (hb hby at_141) rfl ((if0 _ _).trans (feq (show ¬ ((2 : Int32) = (0 : Int32)) by decide)).2) (by decide) (by decide) ?_
        show Steps p.tables e below (T78.setTop (mkF m 148 #[.val (.int p0), .val (.long q1), .second, .val (.int p2), .val (.int p3), .val (.int p4), .val (.long q5), .second, .val (.int (2 : Int32)), .val (.int (0 : Int32)), .val (.ref b60), .val (.int ((f3_12 (0 : Int32)) &&& 1)), .val (.int ((f3_12 (((1 : Nat) + 1).toInt32)) &&& 1)), .val (.int ((f3_12 (((1 : Nat) + 1).toInt32)) &&& 1))] [(.int ((f3_12 (((1 : Nat) + 1).toInt32)) &&& 1))])) _
        refine XS.iconst X78.here hx rfl (hb hby at_148) ?_
        show Steps p.tables e below (T78.setTop (mkF m 149 #[.val (.int p0), .val (.long q1), .second, .val (.int p2), .val (.int p3), .val (.int p4), .val (.long q5), .second, .val (.int (2 : Int32)), .val (.int (0 : Int32)), .val (.ref b60), .val (.int ((f3_12 (0 : Int32)) &&& 1)), .val (.int ((f3_12 (((1 : Nat) + 1).toInt32)) &&& 1)), .val (.int ((f3_12 (((1 : Nat) + 1).toInt32)) &&& 1))] [(.int (0 : Int32)), (.int ((f3_12 (((1 : Nat) + 1).toInt32)) &&& 1))])) _
        refine XS.icmpNo X78.here hx rfl (hb hby at_149) rfl (teq (show ((f3_12 (((1 : Nat) + 1).toInt32)) &&& 1) = (0 : Int32) from by decide)).2 ?_
        show Steps p.tables e below (T78.setTop (mkF m 152 #[.val (.int p0), .val (.long q1), .second, .val (.int p2), .val (.int p3), .val (.int p4), .val (.long q5), .second, .val (.int (2 : Int32)), .val (.int (0 : Int32)), .val (.ref b60), .val (.int ((f3_12 (0 : Int32)) &&& 1)), .val (.int ((f3_12 (((1 : Nat) + 1).toInt32)) &&& 1)), .val (.int ((f3_12 (((1 : Nat) + 1).toInt32)) &&& 1))] [])) _
        refine XS.iload X78.here hx rfl (hb hby at_152) rfl ?_
        show Steps p.tables e below (T78.setTop (mkF m 154 #[.val (.int p0), .val (.long q1), .second, .val (.int p2), .val (.int p3), .val (.int p4), .val (.long q5), .second, .val (.int (2 : Int32)), .val (.int (0 : Int32)), .val (.ref b60), .val (.int ((f3_12 (0 : Int32)) &&& 1)), .val (.int ((f3_12 (((1 : Nat) + 1).toInt32)) &&& 1)), .val (.int ((f3_12 (((1 : Nat) + 1).toInt32)) &&& 1))] [(.int ((f3_12 (((1 : Nat) + 1).toInt32)) &&& 1))])) _
        refine XS.iload X78.here hx rfl (hb hby at_154) rfl ?_
        show Steps p.tables e below (T78.setTop (mkF m 156 #[.val (.int p0), .val (.long q1), .second, .val (.int p2), .val (.int p3), .val (.int p4), .val (.long q5), .second, .val (.int (2 : Int32)), .val (.int (0 : Int32)), .val (.ref b60), .val (.int ((f3_12 (0 : Int32)) &&& 1)), .val (.int ((f3_12 (((1 : Nat) + 1).toInt32)) &&& 1)), .val (.int ((f3_12 (((1 : Nat) + 1).toInt32)) &&& 1))] [(.int (0 : Int32)), (.int ((f3_12 (((1 : Nat) + 1).toInt32)) &&& 1))])) _
        refine XS.iload X78.here hx rfl (hb hby at_156) rfl ?_
        show Steps p.tables e below (T78.setTop (mkF m 158 #[.val (.int p0), .val (.long q1), .second, .val (.int p2), .val (.int p3), .val (.int p4), .val (.long q5), .second, .val (.int (2 : Int32)), .val (.int (0 : Int32)), .val (.ref b60), .val (.int ((f3_12 (0 : Int32)) &&& 1)), .val (.int ((f3_12 (((1 : Nat) + 1).toInt32)) &&& 1)), .val (.int ((f3_12 (((1 : Nat) + 1).toInt32)) &&& 1))] [(.int (2 : Int32)), (.int (0 : Int32)), (.int ((f3_12 (((1 : Nat) + 1).toInt32)) &&& 1))])) _
        refine XS.icmpYes X78.here hx rfl (pc0 := 158) (pc' := 165) rfl (hb hby at_158) rfl (feq (show ¬ ((0 : Int32) = (2 : Int32)) by decide)).2 (by decide) (by decide) ?_
        show Steps p.tables e below (T78.setTop (mkF m 165 #[.val (.int p0), .val (.long q1), .second, .val (.int p2), .val (.int p3), .val (.int p4), .val (.long q5), .second, .val (.int (2 : Int32)), .val (.int (0 : Int32)), .val (.ref b60), .val (.int ((f3_12 (0 : Int32)) &&& 1)), .val (.int ((f3_12 (((1 : Nat) + 1).toInt32)) &&& 1)), .val (.int ((f3_12 (((1 : Nat) + 1).toInt32)) &&& 1))] [(.int ((f3_12 (((1 : Nat) + 1).toInt32)) &&& 1))])) _
        refine XS.iconst X78.here hx rfl (hb hby at_165) ?_
        show Steps p.tables e below (T78.setTop (mkF m 166 #[.val (.int p0), .val (.long q1), .second, .val (.int p2), .val (.int p3), .val (.int p4), .val (.long q5), .second, .val (.int (2 : Int32)), .val (.int (0 : Int32)), .val (.ref b60), .val (.int ((f3_12 (0 : Int32)) &&& 1)), .val (.int ((f3_12 (((1 : Nat) + 1).toInt32)) &&& 1)), .val (.int ((f3_12 (((1 : Nat) + 1).toInt32)) &&& 1))] [(.int (0 : Int32)), (.int ((f3_12 (((1 : Nat) + 1).toInt32)) &&& 1))])) _
        refine XS.icmpNo X78.here hx rfl (hb hby at_166) rfl (teq (show ((f3_12 (((1 : Nat) + 1).toInt32)) &&& 1) = (0 : Int32) from by decide)).2 ?_
        show Steps p.tables e below (T78.setTop (mkF m 169 #[.val (.int p0), .val (.long q1), .second, .val (.int p2), .val (.int p3), .val (.int p4), .val (.long q5), .second, .val (.int (2 : Int32)), .val (.int (0 : Int32)), .val (.ref b60), .val (.int ((f3_12 (0 : Int32)) &&& 1)), .val (.int ((f3_12 (((1 : Nat) + 1).toInt32)) &&& 1)), .val (.int ((f3_12 (((1 : Nat) + 1).toInt32)) &&& 1))] [])) _
        refine XS.iconst X78.here hx rfl (hb hby at_169) ?_
        show Steps p.tables e below (T78.setTop (mkF m 170 #[.val (.int p0), .val (.long q1), .second, .val (.int p2), .val (.int p3), .val (.int p4), .val (.long q5), .second, .val (.int (2 : Int32)), .val (.int (0 : Int32)), .val (.ref b60), .val (.int ((f3_12 (0 : Int32)) &&& 1)), .val (.int ((f3_12 (((1 : Nat) + 1).toInt32)) &&& 1)), .val (.int ((f3_12 (((1 : Nat) + 1).toInt32)) &&& 1))] [(.int (1 : Int32))])) _
        refine XS.goto X78.here hx rfl (pc0 := 170) (pc' := 174) rfl (hb hby at_170) (by decide) (by decide) ?_
        show Steps p.tables e below (T78.setTop (mkF m 174 #[.val (.int p0), .val (.long q1), .second, .val (.int p2), .val (.int p3), .val (.int p4), .val (.long q5), .second, .val (.int (2 : Int32)), .val (.int (0 : Int32)), .val (.ref b60), .val (.int ((f3_12 (0 : Int32)) &&& 1)), .val (.int ((f3_12 (((1 : Nat) + 1).toInt32)) &&& 1)), .val (.int ((f3_12 (((1 : Nat) + 1).toInt32)) &&& 1))] [(.int (1 : Int32))])) _
        exact k)
      obtain ⟨fs, hr, hrun, hended, hW, hsame⟩ := X78.leave (v := some (.int (1 : Int32))) (fun h => by rw [Bd.returns] at h; cases h)
      refine ⟨_, _, pre79 _ ?_, hrun, hended, _, _, rfl, ?_, ⟨_, rfl⟩, hW, hsame.mono (by decide) (by decide)⟩
      · exact retN X78 hx (t := .boolean) Bd.returns (by simp) (hb hby at_174) hr
      · show Q0 Z p0 q1 p2 p3 p4 q5 h0 n0 _ T78.heap _
        rw [hh78]
        exact ⟨rfl, N78⟩
    · have pre80 : ∀ t, Steps p.tables e below (s₁.setTop (mkF m 18 #[.val (.int p0), .val (.long q1), .second, .val (.int p2), .val (.int p3), .val (.int p4), .val (.long q5), .second, .val (.int (2 : Int32)), .val (.int (1 : Int32)), .unset, .unset, .unset, .unset] [])) t → Steps p.tables e below (s₁.setTop (entryFrame m #[(.int p0), (.long q1), (.int p2), (.int p3), (.int p4), (.long q5)] maxLocals)) t := fun t k => pre58 t (by rw [hk]; exact k)
      obtain ⟨T81, h81, X81, e81, Ex81, Ne81, D81, -, st81⟩ := newO X0 hx hZ hown (hw _ (List.mem_of_getElem? (i := 1) rfl)) (hw _ (List.mem_of_getElem? (i := 2) rfl)) (hw _ (List.mem_of_getElem? (i := 3) rfl)) e0 (g := (mkF m 18 #[.val (.int p0), .val (.long q1), .second, .val (.int p2), .val (.int p3), .val (.int p4), .val (.long q5), .second, .val (.int (2 : Int32)), .val (.int (1 : Int32)), .unset, .unset, .unset, .unset] [])) rfl (hb hby at_18) (by decide) (by decide)
      obtain ⟨b81, g81⟩ : ∃ z, z = h0.size := ⟨_, rfl⟩
      rw [← g81] at Ne81 D81 st81
      have g_b81 : n0 ≤ b81 := Nat.le_trans (Nat.le_trans Z0 (Nat.le_refl _)) (Nat.le_of_eq g81.symm)
      have sz_b81 : h0.size ≤ b81 := Nat.le_trans (Nat.le_refl _) (Nat.le_of_eq g81.symm)
      have SZ83 : h0.size ≤ h81.size := Nat.le_trans (Nat.le_refl _) Ex81.1
      have ZZ83 : n0 ≤ h81.size := Nat.le_trans Z0 SZ83
      have K84 : Keep h0 h81 [] := ((Keep.refl h0 [])).ext Ex81
      have F_ranks_b81_81 : Fld Z h81 b81 "com/example/brisk_maze/briskmaze/search/RankedFrontier" "ranks" "[J" .null := D81 (Or.inl (hw _ (List.mem_of_getElem? (i := 12) rfl))) (ty := (.array .long)) (by decide)
      have F_costs_b81_81 : Fld Z h81 b81 "com/example/brisk_maze/briskmaze/search/RankedFrontier" "costs" "[I" .null := D81 (Or.inl (hw _ (List.mem_of_getElem? (i := 15) rfl))) (ty := (.array .int)) (by decide)
      have F_states_b81_81 : Fld Z h81 b81 "com/example/brisk_maze/briskmaze/search/RankedFrontier" "states" "[I" .null := D81 (Or.inl (hw _ (List.mem_of_getElem? (i := 17) rfl))) (ty := (.array .int)) (by decide)
      have F_size_b81_81 : Fld Z h81 b81 "com/example/brisk_maze/briskmaze/search/RankedFrontier" "size" "I" (.int (0 : Int32)) := D81 (Or.inl (hw _ (List.mem_of_getElem? (i := 24) rfl))) (ty := .int) (by decide)
      obtain ⟨_, _, ⟨T85, L85, k85, n85⟩, -, X85, ⟨Lc85, hQ85, l85, y85, z85⟩, st85⟩ := X81.specialBack hx (y := (⟨"com/example/brisk_maze/briskmaze/search/RankedFrontier", "<init>", "()V"⟩ : MethodName)) rfl hown (mvT hZ (hw _ (List.mem_of_getElem? (i := 4) rfl))) (mvT hZ (hw _ (List.mem_of_getElem? (i := 5) rfl))) (mvT hZ (hw _ (List.mem_of_getElem? (i := 6) rfl))) (by decide) (backOf (W := 1) (rm1 l Z a0 hw [] b81 h81 n0 ZZ83 F_ranks_b81_81 F_costs_b81_81 F_states_b81_81 Ne81 F_size_b81_81 g_b81) hZ (hw _ (List.mem_of_getElem? (i := 6) rfl)) (hw _ (List.mem_of_getElem? (i := 3) rfl)) (by decide) (by decide)) (g := (mkF m 22 #[.val (.int p0), .val (.long q1), .second, .val (.int p2), .val (.int p3), .val (.int p4), .val (.long q5), .second, .val (.int (2 : Int32)), .val (.int (1 : Int32)), .unset, .unset, .unset, .unset] [(.ref b81), (.ref b81)])) rfl (by rw [hml]; rfl) (Steps.refl _) (a := b81) (argsL := []) (rest := [(.ref b81)]) (lenOf pd_4 rfl) rfl (by show 2 * 0 + _ ≤ _; exact Nat.le_of_eq rfl) (hb hby at_22) (fun _ _ => ⟨rfl, e81, (by decide : 1 + 3 ≤ _), (by decide : 4 + 192 ≤ _)⟩)
      dsimp only [Pt.U, Pt.locs, Pt.cells, Pt.slots] at X85 l85 y85 z85 st85 hQ85
      subst l85 y85 z85
      obtain ⟨tr_85, tc_85, ts_85, rfl, N85q, Kc85, sz_tr_85, sz_tc_85, sz_ts_85, ne_tr_tc_85, ne_tr_ts_85, ne_tc_ts_85, P85_0, P85_1, P85_2, P85_3, P85_4, P85_5, P85_6⟩ := hQ85
      have N85 := Fr.app N0 N85q
      have E_b81_86 : Exa Z T85.heap b81 "com/example/brisk_maze/briskmaze/search/RankedFrontier" := (Ne81).keep Kc85
      have SZ87 : h0.size ≤ T85.heap.size := Nat.le_trans SZ83 Kc85.1
      have ZZ87 : n0 ≤ T85.heap.size := Nat.le_trans Z0 SZ87
      have K88 : Keep h0 T85.heap [] := (K84).trans Kc85 (allS (Or.inr sz_b81) all0)
      have ne_b81_tr_85 : b81 ≠ tr_85 := Nat.ne_of_lt (Nat.lt_of_lt_of_le (Ne81).lt sz_tr_85)
      have g_tr_85 : n0 ≤ tr_85 := Nat.le_trans (Nat.le_trans Z0 SZ83) sz_tr_85
      have szz_tr_85 : h0.size ≤ tr_85 := Nat.le_trans SZ83 sz_tr_85
      have ne_b81_tc_85 : b81 ≠ tc_85 := Nat.ne_of_lt (Nat.lt_of_lt_of_le (Ne81).lt sz_tc_85)
      have g_tc_85 : n0 ≤ tc_85 := Nat.le_trans (Nat.le_trans Z0 SZ83) sz_tc_85
      have szz_tc_85 : h0.size ≤ tc_85 := Nat.le_trans SZ83 sz_tc_85
      have ne_b81_ts_85 : b81 ≠ ts_85 := Nat.ne_of_lt (Nat.lt_of_lt_of_le (Ne81).lt sz_ts_85)
      have g_ts_85 : n0 ≤ ts_85 := Nat.le_trans (Nat.le_trans Z0 SZ83) sz_ts_85
      have szz_ts_85 : h0.size ≤ ts_85 := Nat.le_trans SZ83 sz_ts_85
      obtain ⟨cq89, kq89, q89a, q89b, q89c⟩ := isOf hZ rfl (E_b81_86)
      obtain ⟨_, _, ⟨T89, L89, k89, n89⟩, -, X89, ⟨Lc89, hQ89, l89, y89, z89⟩, st89⟩ := X85.virtualBack hx (y := (⟨"com/example/brisk_maze/briskmaze/search/RankedFrontier", "isEmpty", "()Z"⟩ : MethodName)) (z := (⟨"com/example/brisk_maze/briskmaze/search/RankedFrontier", "isEmpty", "()Z"⟩ : MethodName)) hown (mvT hZ (hw _ (List.mem_of_getElem? (i := 18) rfl))) (mvT hZ (hw _ (List.mem_of_getElem? (i := 19) rfl))) (notFace_of_selects (args := #[]) (mvT hZ (hw _ (List.mem_of_getElem? (i := 21) rfl)))) (mvT hZ (hw _ (List.mem_of_getElem? (i := 21) rfl))) (mvT hZ (hw _ (List.mem_of_getElem? (i := 20) rfl))) (by decide) (backOf (W := 0) (rm3 l Z a0 hw [] b81 (0 : Int32) T85.heap n0 ZZ87 P85_3) hZ (hw _ (List.mem_of_getElem? (i := 22) rfl)) (hw _ (List.mem_of_getElem? (i := 3) rfl)) (by decide) (by decide)) q89a q89c (g := (mkF m 29 #[.val (.int p0), .val (.long q1), .second, .val (.int p2), .val (.int p3), .val (.int p4), .val (.long q5), .second, .val (.int (2 : Int32)), .val (.int (1 : Int32)), .val (.ref b81), .unset, .unset, .unset] [(.ref b81)])) rfl (by rw [hml]; rfl) (Steps.refl _) (argsL := []) (rest := []) (lenOf pd_5 rfl) rfl (by show 2 * 0 + _ ≤ _; exact Nat.le_of_eq rfl) (hb hby at_29) (fun _ _ => ⟨rfl, rfl, (by decide : 4 + 0 ≤ _), (by decide : 196 + 0 ≤ _)⟩)
      dsimp only [Pt.U, Pt.locs, Pt.cells, Pt.slots] at X89 l89 y89 z89 st89 hQ89
      subst l89 y89 z89
      obtain ⟨rfl, N89q, hh89⟩ := hQ89
      have N89 := Fr.app N85 N89q
      obtain ⟨cq90, kq90, q90a, q90b, q90c⟩ := isOf hZ hh89 (E_b81_86)
      obtain ⟨_, _, ⟨T90, L90, k90, n90⟩, -, X90, ⟨Lc90, hQ90, l90, y90, z90⟩, st90⟩ := X89.virtualBack hx (y := (⟨"com/example/brisk_maze/briskmaze/search/RankedFrontier", "add", "(IJI)V"⟩ : MethodName)) (z := (⟨"com/example/brisk_maze/briskmaze/search/RankedFrontier", "add", "(IJI)V"⟩ : MethodName)) hown (mvT hZ (hw _ (List.mem_of_getElem? (i := 25) rfl))) (mvT hZ (hw _ (List.mem_of_getElem? (i := 26) rfl))) (notFace_of_selects (args := #[]) (mvT hZ (hw _ (List.mem_of_getElem? (i := 28) rfl)))) (mvT hZ (hw _ (List.mem_of_getElem? (i := 28) rfl))) (mvT hZ (hw _ (List.mem_of_getElem? (i := 27) rfl))) (by decide) (backOf (W := 0) (rm4 l Z a0 hw [] b81 p0 q1 p2 tr_85 tc_85 ts_85 (fun _ => ((0 : Int64), (0 : Int32), (0 : Int32))) (0 : Nat) T85.heap n0 ZZ87 P85_0 P85_1 P85_2 E_b81_86 P85_3 P85_4 P85_5 P85_6 g_tr_85 g_tc_85 g_ts_85 g_b81 ne_b81_tr_85 ne_b81_tc_85 ne_b81_ts_85 ne_tr_tc_85 ne_tr_ts_85 ne_tc_ts_85 (by decide) (fun j _ j1 => absurd j1 (Nat.not_lt_zero _))) hZ (hw _ (List.mem_of_getElem? (i := 29) rfl)) (hw _ (List.mem_of_getElem? (i := 3) rfl)) (by decide) (by decide)) q90a q90c (g := (mkF m 45 #[.val (.int p0), .val (.long q1), .second, .val (.int p2), .val (.int p3), .val (.int p4), .val (.long q5), .second, .val (.int (2 : Int32)), .val (.int (1 : Int32)), .val (.ref b81), .val (.int ((f3_12 (0 : Int32)) &&& 1)), .unset, .unset] [(.int p2), (.long q1), (.int p0), (.ref b81)])) rfl (by rw [hml]; rfl) (Steps.refl _) (argsL := [(.int p0), (.long q1), (.int p2)]) (rest := []) (lenOf pd_6 rfl) rfl (by show 2 * 0 + _ ≤ _; exact Nat.le_of_eq rfl) (hb hby at_45) (fun _ _ => ⟨rfl, hh89, (by decide : 4 + 0 ≤ _), (by decide : 196 + 0 ≤ _)⟩)
      dsimp only [Pt.U, Pt.locs, Pt.cells, Pt.slots] at X90 l90 y90 z90 st90 hQ90
      subst l90 y90 z90
      obtain ⟨f2_90, rfl, N90q, Kc90, P90_0, P90_1, P90_2, P90_3, P90_4, P90_5, P90_6, P90_7, P90_8⟩ := hQ90
      have N90 := Fr.app N89 N90q
      have E_b81_91 : Exa Z T90.heap b81 "com/example/brisk_maze/briskmaze/search/RankedFrontier" := (E_b81_86).keep Kc90
      have SZ92 : h0.size ≤ T90.heap.size := Nat.le_trans SZ87 Kc90.1
      have ZZ92 : n0 ≤ T90.heap.size := Nat.le_trans Z0 SZ92
      have K93 : Keep h0 T90.heap [] := (K88).trans Kc90 (allS (Or.inr szz_tr_85) (allS (Or.inr szz_tc_85) (allS (Or.inr szz_ts_85) (allS (Or.inr sz_b81) all0))))
      obtain ⟨cq94, kq94, q94a, q94b, q94c⟩ := isOf hZ rfl (E_b81_91)
      obtain ⟨_, _, ⟨T94, L94, k94, n94⟩, -, X94, ⟨Lc94, hQ94, l94, y94, z94⟩, st94⟩ := X90.virtualBack hx (y := (⟨"com/example/brisk_maze/briskmaze/search/RankedFrontier", "add", "(IJI)V"⟩ : MethodName)) (z := (⟨"com/example/brisk_maze/briskmaze/search/RankedFrontier", "add", "(IJI)V"⟩ : MethodName)) hown (mvT hZ (hw _ (List.mem_of_getElem? (i := 25) rfl))) (mvT hZ (hw _ (List.mem_of_getElem? (i := 26) rfl))) (notFace_of_selects (args := #[]) (mvT hZ (hw _ (List.mem_of_getElem? (i := 28) rfl)))) (mvT hZ (hw _ (List.mem_of_getElem? (i := 28) rfl))) (mvT hZ (hw _ (List.mem_of_getElem? (i := 27) rfl))) (by decide) (backOf (W := 0) (rm4 l Z a0 hw [] b81 p2 q5 p0 tr_85 tc_85 ts_85 f2_90 (1 : Nat) T90.heap n0 ZZ92 P90_1 P90_2 P90_3 E_b81_91 P90_0 P90_4 P90_5 P90_6 g_tr_85 g_tc_85 g_ts_85 g_b81 ne_b81_tr_85 ne_b81_tc_85 ne_b81_ts_85 ne_tr_tc_85 ne_tr_ts_85 ne_tc_ts_85 (by decide) P90_7) hZ (hw _ (List.mem_of_getElem? (i := 29) rfl)) (hw _ (List.mem_of_getElem? (i := 3) rfl)) (by decide) (by decide)) q94a q94c (g := (mkF m 60 #[.val (.int p0), .val (.long q1), .second, .val (.int p2), .val (.int p3), .val (.int p4), .val (.long q5), .second, .val (.int (2 : Int32)), .val (.int (1 : Int32)), .val (.ref b81), .val (.int ((f3_12 (0 : Int32)) &&& 1)), .unset, .unset] [(.int p0), (.long q5), (.int p2), (.ref b81)])) rfl (by rw [hml]; rfl) (Steps.refl _) (argsL := [(.int p2), (.long q5), (.int p0)]) (rest := []) (lenOf pd_6 rfl) rfl (by show 2 * 0 + _ ≤ _; exact Nat.le_of_eq rfl) (hb hby at_60) (fun _ _ => ⟨rfl, rfl, (by decide : 4 + 0 ≤ _), (by decide : 196 + 0 ≤ _)⟩)
      dsimp only [Pt.U, Pt.locs, Pt.cells, Pt.slots] at X94 l94 y94 z94 st94 hQ94
      subst l94 y94 z94
      obtain ⟨f2_94, rfl, N94q, Kc94, P94_0, P94_1, P94_2, P94_3, P94_4, P94_5, P94_6, P94_7, P94_8⟩ := hQ94
      have N94 := Fr.app N90 N94q
      have E_b81_95 : Exa Z T94.heap b81 "com/example/brisk_maze/briskmaze/search/RankedFrontier" := (E_b81_91).keep Kc94
      have SZ96 : h0.size ≤ T94.heap.size := Nat.le_trans SZ92 Kc94.1
      have ZZ96 : n0 ≤ T94.heap.size := Nat.le_trans Z0 SZ96
      have K97 : Keep h0 T94.heap [] := (K93).trans Kc94 (allS (Or.inr szz_tr_85) (allS (Or.inr szz_tc_85) (allS (Or.inr szz_ts_85) (allS (Or.inr sz_b81) all0))))
      obtain ⟨cq98, kq98, q98a, q98b, q98c⟩ := isOf hZ rfl (E_b81_95)
      obtain ⟨_, _, ⟨T98, L98, k98, n98⟩, -, X98, ⟨Lc98, hQ98, l98, y98, z98⟩, st98⟩ := X94.virtualBack hx (y := (⟨"com/example/brisk_maze/briskmaze/search/RankedFrontier", "isEmpty", "()Z"⟩ : MethodName)) (z := (⟨"com/example/brisk_maze/briskmaze/search/RankedFrontier", "isEmpty", "()Z"⟩ : MethodName)) hown (mvT hZ (hw _ (List.mem_of_getElem? (i := 18) rfl))) (mvT hZ (hw _ (List.mem_of_getElem? (i := 19) rfl))) (notFace_of_selects (args := #[]) (mvT hZ (hw _ (List.mem_of_getElem? (i := 21) rfl)))) (mvT hZ (hw _ (List.mem_of_getElem? (i := 21) rfl))) (mvT hZ (hw _ (List.mem_of_getElem? (i := 20) rfl))) (by decide) (backOf (W := 0) (rm3 l Z a0 hw [] b81 (((1 : Nat) + 1).toInt32) T94.heap n0 ZZ96 P94_0) hZ (hw _ (List.mem_of_getElem? (i := 22) rfl)) (hw _ (List.mem_of_getElem? (i := 3) rfl)) (by decide) (by decide)) q98a q98c (g := (mkF m 84 #[.val (.int p0), .val (.long q1), .second, .val (.int p2), .val (.int p3), .val (.int p4), .val (.long q5), .second, .val (.int (2 : Int32)), .val (.int (1 : Int32)), .val (.ref b81), .val (.int ((f3_12 (0 : Int32)) &&& 1)), .unset, .unset] [(.ref b81)])) rfl (by rw [hml]; rfl) (Steps.refl _) (argsL := []) (rest := []) (lenOf pd_5 rfl) rfl (by show 2 * 0 + _ ≤ _; exact Nat.le_of_eq rfl) (hb hby at_84) (fun _ _ => ⟨rfl, rfl, (by decide : 4 + 0 ≤ _), (by decide : 196 + 0 ≤ _)⟩)
      dsimp only [Pt.U, Pt.locs, Pt.cells, Pt.slots] at X98 l98 y98 z98 st98 hQ98
      subst l98 y98 z98
      obtain ⟨rfl, N98q, hh98⟩ := hQ98
      have N98 := Fr.app N94 N98q
      obtain ⟨cq99, kq99, q99a, q99b, q99c⟩ := isOf hZ hh98 (E_b81_95)
      obtain ⟨_, _, ⟨T99, L99, k99, n99⟩, -, X99, ⟨Lc99, hQ99, l99, y99, z99⟩, st99⟩ := X98.virtualBack hx (y := (⟨"com/example/brisk_maze/briskmaze/search/RankedFrontier", "removeFirst", "()I"⟩ : MethodName)) (z := (⟨"com/example/brisk_maze/briskmaze/search/RankedFrontier", "removeFirst", "()I"⟩ : MethodName)) hown (mvT hZ (hw _ (List.mem_of_getElem? (i := 34) rfl))) (mvT hZ (hw _ (List.mem_of_getElem? (i := 35) rfl))) (notFace_of_selects (args := #[]) (mvT hZ (hw _ (List.mem_of_getElem? (i := 37) rfl)))) (mvT hZ (hw _ (List.mem_of_getElem? (i := 37) rfl))) (mvT hZ (hw _ (List.mem_of_getElem? (i := 36) rfl))) (by decide) (backOf (W := 0) (rm6 l Z a0 hw [] b81 tr_85 tc_85 ts_85 f2_94 (1 : Nat) T94.heap n0 ZZ96 P94_1 P94_2 P94_3 E_b81_95 P94_0 P94_4 P94_5 P94_6 g_tr_85 g_tc_85 g_ts_85 g_b81 ne_b81_tr_85 ne_b81_tc_85 ne_b81_ts_85 ne_tr_tc_85 ne_tr_ts_85 ne_tc_ts_85 (by decide) P94_7) hZ (hw _ (List.mem_of_getElem? (i := 38) rfl)) (hw _ (List.mem_of_getElem? (i := 3) rfl)) (by decide) (by decide)) q99a q99c (g := (mkF m 97 #[.val (.int p0), .val (.long q1), .second, .val (.int p2), .val (.int p3), .val (.int p4), .val (.long q5), .second, .val (.int (2 : Int32)), .val (.int (1 : Int32)), .val (.ref b81), .val (.int ((f3_12 (0 : Int32)) &&& 1)), .val (.int ((f3_12 (((1 : Nat) + 1).toInt32)) &&& 1)), .unset] [(.ref b81)])) rfl (by rw [hml]; rfl) (Steps.refl _) (argsL := []) (rest := []) (lenOf pd_7 rfl) rfl (by show 2 * 0 + _ ≤ _; exact Nat.le_of_eq rfl) (hb hby at_97) (fun _ _ => ⟨rfl, hh98, (by decide : 4 + 0 ≤ _), (by decide : 196 + 0 ≤ _)⟩)
      dsimp only [Pt.U, Pt.locs, Pt.cells, Pt.slots] at X99 l99 y99 z99 st99 hQ99
      subst l99 y99 z99
      obtain ⟨f2_99, rfl, N99q, Kc99, P99_0, P99_1, P99_2, P99_3, P99_4, P99_5, P99_6, P99_7, P99_8⟩ := hQ99
      have N99 := Fr.app N98 N99q
      have E_b81_100 : Exa Z T99.heap b81 "com/example/brisk_maze/briskmaze/search/RankedFrontier" := (E_b81_95).keep Kc99
      have SZ101 : h0.size ≤ T99.heap.size := Nat.le_trans SZ96 Kc99.1
      have ZZ101 : n0 ≤ T99.heap.size := Nat.le_trans Z0 SZ101
      have K102 : Keep h0 T99.heap [] := (K97).trans Kc99 (allS (Or.inr szz_tr_85) (allS (Or.inr szz_tc_85) (allS (Or.inr szz_ts_85) (allS (Or.inr sz_b81) all0))))
      obtain ⟨cq103, kq103, q103a, q103b, q103c⟩ := isOf hZ rfl (E_b81_100)
      obtain ⟨_, _, ⟨T103, L103, k103, n103⟩, -, X103, ⟨Lc103, hQ103, l103, y103, z103⟩, st103⟩ := X99.virtualBack hx (y := (⟨"com/example/brisk_maze/briskmaze/search/RankedFrontier", "isEmpty", "()Z"⟩ : MethodName)) (z := (⟨"com/example/brisk_maze/briskmaze/search/RankedFrontier", "isEmpty", "()Z"⟩ : MethodName)) hown (mvT hZ (hw _ (List.mem_of_getElem? (i := 18) rfl))) (mvT hZ (hw _ (List.mem_of_getElem? (i := 19) rfl))) (notFace_of_selects (args := #[]) (mvT hZ (hw _ (List.mem_of_getElem? (i := 21) rfl)))) (mvT hZ (hw _ (List.mem_of_getElem? (i := 21) rfl))) (mvT hZ (hw _ (List.mem_of_getElem? (i := 20) rfl))) (by decide) (backOf (W := 0) (rm3 l Z a0 hw [] b81 ((1 : Nat).toInt32) T99.heap n0 ZZ101 P99_0) hZ (hw _ (List.mem_of_getElem? (i := 22) rfl)) (hw _ (List.mem_of_getElem? (i := 3) rfl)) (by decide) (by decide)) q103a q103c (g := (mkF m 127 #[.val (.int p0), .val (.long q1), .second, .val (.int p2), .val (.int p3), .val (.int p4), .val (.long q5), .second, .val (.int (2 : Int32)), .val (.int (1 : Int32)), .val (.ref b81), .val (.int ((f3_12 (0 : Int32)) &&& 1)), .val (.int ((f3_12 (((1 : Nat) + 1).toInt32)) &&& 1)), .unset] [(.ref b81)])) rfl (by rw [hml]; rfl) (Steps.refl _) (argsL := []) (rest := []) (lenOf pd_5 rfl) rfl (by show 2 * 0 + _ ≤ _; exact Nat.le_of_eq rfl) (hb hby at_127) (fun _ _ => ⟨rfl, rfl, (by decide : 4 + 0 ≤ _), (by decide : 196 + 0 ≤ _)⟩)
      dsimp only [Pt.U, Pt.locs, Pt.cells, Pt.slots] at X103 l103 y103 z103 st103 hQ103
      subst l103 y103 z103
      obtain ⟨rfl, N103q, hh103⟩ := hQ103
      have N103 := Fr.app N99 N103q
      have pre104 : ∀ t, Steps p.tables e below (T103.setTop (mkF m 174 #[.val (.int p0), .val (.long q1), .second, .val (.int p2), .val (.int p3), .val (.int p4), .val (.long q5), .second, .val (.int (2 : Int32)), .val (.int (1 : Int32)), .val (.ref b81), .val (.int ((f3_12 (0 : Int32)) &&& 1)), .val (.int ((f3_12 (((1 : Nat) + 1).toInt32)) &&& 1)), .val (.int ((f3_12 ((1 : Nat).toInt32)) &&& 1))] [(.int (1 : Int32))])) t → Steps p.tables e below (s₁.setTop (entryFrame m #[(.int p0), (.long q1), (.int p2), (.int p3), (.int p4), (.long q5)] maxLocals)) t := fun t k => pre80 t (by
        show Steps p.tables e below (s₁.setTop (mkF m 18 #[.val (.int p0), .val (.long q1), .second, .val (.int p2), .val (.int p3), .val (.int p4), .val (.long q5), .second, .val (.int (2 : Int32)), .val (.int (1 : Int32)), .unset, .unset, .unset, .unset] [])) _
        refine st81 _ ?_
        show Steps p.tables e below (T81.setTop (mkF m 21 #[.val (.int p0), .val (.long q1), .second, .val (.int p2), .val (.int p3), .val (.int p4), .val (.long q5), .second, .val (.int (2 : Int32)), .val (.int (1 : Int32)), .unset, .unset, .unset, .unset] [(.ref b81)])) _
        refine XS.dup X81.here hx rfl (hb hby at_21) rfl rfl ?_
        show Steps p.tables e below (T81.setTop (mkF m 22 #[.val (.int p0), .val (.long q1), .second, .val (.int p2), .val (.int p3), .val (.int p4), .val (.long q5), .second, .val (.int (2 : Int32)), .val (.int (1 : Int32)), .unset, .unset, .unset, .unset] [(.ref b81), (.ref b81)])) _
        refine st85.trans ?_
        show Steps p.tables e below (T85.setTop (mkF m 25 #[.val (.int p0), .val (.long q1), .second, .val (.int p2), .val (.int p3), .val (.int p4), .val (.long q5), .second, .val (.int (2 : Int32)), .val (.int (1 : Int32)), .unset, .unset, .unset, .unset] [(.ref b81)])) _
        refine XS.astore X85.here hx rfl (hb hby at_25) rfl rfl (l' := #[.val (.int p0), .val (.long q1), .second, .val (.int p2), .val (.int p3), .val (.int p4), .val (.long q5), .second, .val (.int (2 : Int32)), .val (.int (1 : Int32)), .val (.ref b81), .unset, .unset, .unset]) rfl ?_
        show Steps p.tables e below (T85.setTop (mkF m 27 #[.val (.int p0), .val (.long q1), .second, .val (.int p2), .val (.int p3), .val (.int p4), .val (.long q5), .second, .val (.int (2 : Int32)), .val (.int (1 : Int32)), .val (.ref b81), .unset, .unset, .unset] [])) _
        refine XS.aload X85.here hx rfl (hb hby at_27) rfl rfl ?_
        show Steps p.tables e below (T85.setTop (mkF m 29 #[.val (.int p0), .val (.long q1), .second, .val (.int p2), .val (.int p3), .val (.int p4), .val (.long q5), .second, .val (.int (2 : Int32)), .val (.int (1 : Int32)), .val (.ref b81), .unset, .unset, .unset] [(.ref b81)])) _
        refine st89.trans ?_
        show Steps p.tables e below (T89.setTop (mkF m 32 #[.val (.int p0), .val (.long q1), .second, .val (.int p2), .val (.int p3), .val (.int p4), .val (.long q5), .second, .val (.int (2 : Int32)), .val (.int (1 : Int32)), .val (.ref b81), .unset, .unset, .unset] [(.int ((f3_12 (0 : Int32)) &&& 1))])) _
        refine XS.istore X89.here hx rfl (hb hby at_32) rfl (l' := #[.val (.int p0), .val (.long q1), .second, .val (.int p2), .val (.int p3), .val (.int p4), .val (.long q5), .second, .val (.int (2 : Int32)), .val (.int (1 : Int32)), .val (.ref b81), .val (.int ((f3_12 (0 : Int32)) &&& 1)), .unset, .unset]) rfl ?_
        show Steps p.tables e below (T89.setTop (mkF m 34 #[.val (.int p0), .val (.long q1), .second, .val (.int p2), .val (.int p3), .val (.int p4), .val (.long q5), .second, .val (.int (2 : Int32)), .val (.int (1 : Int32)), .val (.ref b81), .val (.int ((f3_12 (0 : Int32)) &&& 1)), .unset, .unset] [])) _
        refine XS.iload X89.here hx rfl (hb hby at_34) rfl ?_
        show Steps p.tables e below (T89.setTop (mkF m 36 #[.val (.int p0), .val (.long q1), .second, .val (.int p2), .val (.int p3), .val (.int p4), .val (.long q5), .second, .val (.int (2 : Int32)), .val (.int (1 : Int32)), .val (.ref b81), .val (.int ((f3_12 (0 : Int32)) &&& 1)), .unset, .unset] [(.int (2 : Int32))])) _
        refine XS.iconst X89.here hx rfl (hb hby at_36) ?_
        show Steps p.tables e below (T89.setTop (mkF m 37 #[.val (.int p0), .val (.long q1), .second, .val (.int p2), .val (.int p3), .val (.int p4), .val (.long q5), .second, .val (.int (2 : Int32)), .val (.int (1 : Int32)), .val (.ref b81), .val (.int ((f3_12 (0 : Int32)) &&& 1)), .unset, .unset] [(.int (1 : Int32)), (.int (2 : Int32))])) _
        refine XS.icmpNo X89.here hx rfl (hb hby at_37) rfl (flt (show ¬ ((2 : Int32) < (1 : Int32)) by decide)).1 ?_
        show Steps p.tables e below (T89.setTop (mkF m 40 #[.val (.int p0), .val (.long q1), .second, .val (.int p2), .val (.int p3), .val (.int p4), .val (.long q5), .second, .val (.int (2 : Int32)), .val (.int (1 : Int32)), .val (.ref b81), .val (.int ((f3_12 (0 : Int32)) &&& 1)), .unset, .unset] [])) _
        refine XS.aload X89.here hx rfl (hb hby at_40) rfl rfl ?_
        show Steps p.tables e below (T89.setTop (mkF m 42 #[.val (.int p0), .val (.long q1), .second, .val (.int p2), .val (.int p3), .val (.int p4), .val (.long q5), .second, .val (.int (2 : Int32)), .val (.int (1 : Int32)), .val (.ref b81), .val (.int ((f3_12 (0 : Int32)) &&& 1)), .unset, .unset] [(.ref b81)])) _
        refine XS.iloadN X89.here hx rfl (hb hby at_42) rfl ?_
        show Steps p.tables e below (T89.setTop (mkF m 43 #[.val (.int p0), .val (.long q1), .second, .val (.int p2), .val (.int p3), .val (.int p4), .val (.long q5), .second, .val (.int (2 : Int32)), .val (.int (1 : Int32)), .val (.ref b81), .val (.int ((f3_12 (0 : Int32)) &&& 1)), .unset, .unset] [(.int p0), (.ref b81)])) _
        refine XS.lloadN X89.here hx rfl (hb hby at_43) rfl ?_
        show Steps p.tables e below (T89.setTop (mkF m 44 #[.val (.int p0), .val (.long q1), .second, .val (.int p2), .val (.int p3), .val (.int p4), .val (.long q5), .second, .val (.int (2 : Int32)), .val (.int (1 : Int32)), .val (.ref b81), .val (.int ((f3_12 (0 : Int32)) &&& 1)), .unset, .unset] [(.long q1), (.int p0), (.ref b81)])) _
        refine XS.iloadN X89.here hx rfl (hb hby at_44) rfl ?_
        show Steps p.tables e below (T89.setTop (mkF m 45 #[.val (.int p0), .val (.long q1), .second, .val (.int p2), .val (.int p3), .val (.int p4), .val (.long q5), .second, .val (.int (2 : Int32)), .val (.int (1 : Int32)), .val (.ref b81), .val (.int ((f3_12 (0 : Int32)) &&& 1)), .unset, .unset] [(.int p2), (.long q1), (.int p0), (.ref b81)])) _
        refine st90.trans ?_
        show Steps p.tables e below (T90.setTop (mkF m 48 #[.val (.int p0), .val (.long q1), .second, .val (.int p2), .val (.int p3), .val (.int p4), .val (.long q5), .second, .val (.int (2 : Int32)), .val (.int (1 : Int32)), .val (.ref b81), .val (.int ((f3_12 (0 : Int32)) &&& 1)), .unset, .unset] [])) _
        refine XS.iload X90.here hx rfl (hb hby at_48) rfl ?_
        show Steps p.tables e below (T90.setTop (mkF m 50 #[.val (.int p0), .val (.long q1), .second, .val (.int p2), .val (.int p3), .val (.int p4), .val (.long q5), .second, .val (.int (2 : Int32)), .val (.int (1 : Int32)), .val (.ref b81), .val (.int ((f3_12 (0 : Int32)) &&& 1)), .unset, .unset] [(.int (2 : Int32))])) _
        refine XS.iconst X90.here hx rfl (hb hby at_50) ?_
        show Steps p.tables e below (T90.setTop (mkF m 51 #[.val (.int p0), .val (.long q1), .second, .val (.int p2), .val (.int p3), .val (.int p4), .val (.long q5), .second, .val (.int (2 : Int32)), .val (.int (1 : Int32)), .val (.ref b81), .val (.int ((f3_12 (0 : Int32)) &&& 1)), .unset, .unset] [(.int (2 : Int32)), (.int (2 : Int32))])) _
        refine XS.icmpNo X90.here hx rfl (hb hby at_51) rfl (flt (show ¬ ((2 : Int32) < (2 : Int32)) by decide)).1 ?_
        show Steps p.tables e below (T90.setTop (mkF m 54 #[.val (.int p0), .val (.long q1), .second, .val (.int p2), .val (.int p3), .val (.int p4), .val (.long q5), .second, .val (.int (2 : Int32)), .val (.int (1 : Int32)), .val (.ref b81), .val (.int ((f3_12 (0 : Int32)) &&& 1)), .unset, .unset] [])) _
        refine XS.aload X90.here hx rfl (hb hby at_54) rfl rfl ?_
        show Steps p.tables e below (T90.setTop (mkF m 56 #[.val (.int p0), .val (.long q1), .second, .val (.int p2), .val (.int p3), .val (.int p4), .val (.long q5), .second, .val (.int (2 : Int32)), .val (.int (1 : Int32)), .val (.ref b81), .val (.int ((f3_12 (0 : Int32)) &&& 1)), .unset, .unset] [(.ref b81)])) _
        refine XS.iloadN X90.here hx rfl (hb hby at_56) rfl ?_
        show Steps p.tables e below (T90.setTop (mkF m 57 #[.val (.int p0), .val (.long q1), .second, .val (.int p2), .val (.int p3), .val (.int p4), .val (.long q5), .second, .val (.int (2 : Int32)), .val (.int (1 : Int32)), .val (.ref b81), .val (.int ((f3_12 (0 : Int32)) &&& 1)), .unset, .unset] [(.int p2), (.ref b81)])) _
        refine XS.lload X90.here hx rfl (hb hby at_57) rfl ?_
        show Steps p.tables e below (T90.setTop (mkF m 59 #[.val (.int p0), .val (.long q1), .second, .val (.int p2), .val (.int p3), .val (.int p4), .val (.long q5), .second, .val (.int (2 : Int32)), .val (.int (1 : Int32)), .val (.ref b81), .val (.int ((f3_12 (0 : Int32)) &&& 1)), .unset, .unset] [(.long q5), (.int p2), (.ref b81)])) _
        refine XS.iloadN X90.here hx rfl (hb hby at_59) rfl ?_
        show Steps p.tables e below (T90.setTop (mkF m 60 #[.val (.int p0), .val (.long q1), .second, .val (.int p2), .val (.int p3), .val (.int p4), .val (.long q5), .second, .val (.int (2 : Int32)), .val (.int (1 : Int32)), .val (.ref b81), .val (.int ((f3_12 (0 : Int32)) &&& 1)), .unset, .unset] [(.int p0), (.long q5), (.int p2), (.ref b81)])) _
        refine st94.trans ?_
        show Steps p.tables e below (T94.setTop (mkF m 63 #[.val (.int p0), .val (.long q1), .second, .val (.int p2), .val (.int p3), .val (.int p4), .val (.long q5), .second, .val (.int (2 : Int32)), .val (.int (1 : Int32)), .val (.ref b81), .val (.int ((f3_12 (0 : Int32)) &&& 1)), .unset, .unset] [])) _
        refine XS.iload X94.here hx rfl (hb hby at_63) rfl ?_
        show Steps p.tables e below (T94.setTop (mkF m 65 #[.val (.int p0), .val (.long q1), .second, .val (.int p2), .val (.int p3), .val (.int p4), .val (.long q5), .second, .val (.int (2 : Int32)), .val (.int (1 : Int32)), .val (.ref b81), .val (.int ((f3_12 (0 : Int32)) &&& 1)), .unset, .unset] [(.int (2 : Int32))])) _
        refine XS.iconst X94.here hx rfl (hb hby at_65) ?_
        show Steps p.tables e below (T94.setTop (mkF m 66 #[.val (.int p0), .val (.long q1), .second, .val (.int p2), .val (.int p3), .val (.int p4), .val (.long q5), .second, .val (.int (2 : Int32)), .val (.int (1 : Int32)), .val (.ref b81), .val (.int ((f3_12 (0 : Int32)) &&& 1)), .unset, .unset] [(.int (3 : Int32)), (.int (2 : Int32))])) _
        refine XS.icmpYes X94.here hx rfl (pc0 := 66) (pc' := 82) rfl (hb hby at_66) rfl (tlt (show (2 : Int32) < (3 : Int32) by decide)).1 (by decide) (by decide) ?_
        show Steps p.tables e below (T94.setTop (mkF m 82 #[.val (.int p0), .val (.long q1), .second, .val (.int p2), .val (.int p3), .val (.int p4), .val (.long q5), .second, .val (.int (2 : Int32)), .val (.int (1 : Int32)), .val (.ref b81), .val (.int ((f3_12 (0 : Int32)) &&& 1)), .unset, .unset] [])) _
        refine XS.aload X94.here hx rfl (hb hby at_82) rfl rfl ?_
        show Steps p.tables e below (T94.setTop (mkF m 84 #[.val (.int p0), .val (.long q1), .second, .val (.int p2), .val (.int p3), .val (.int p4), .val (.long q5), .second, .val (.int (2 : Int32)), .val (.int (1 : Int32)), .val (.ref b81), .val (.int ((f3_12 (0 : Int32)) &&& 1)), .unset, .unset] [(.ref b81)])) _
        refine st98.trans ?_
        show Steps p.tables e below (T98.setTop (mkF m 87 #[.val (.int p0), .val (.long q1), .second, .val (.int p2), .val (.int p3), .val (.int p4), .val (.long q5), .second, .val (.int (2 : Int32)), .val (.int (1 : Int32)), .val (.ref b81), .val (.int ((f3_12 (0 : Int32)) &&& 1)), .unset, .unset] [(.int ((f3_12 (((1 : Nat) + 1).toInt32)) &&& 1))])) _
        refine XS.istore X98.here hx rfl (hb hby at_87) rfl (l' := #[.val (.int p0), .val (.long q1), .second, .val (.int p2), .val (.int p3), .val (.int p4), .val (.long q5), .second, .val (.int (2 : Int32)), .val (.int (1 : Int32)), .val (.ref b81), .val (.int ((f3_12 (0 : Int32)) &&& 1)), .val (.int ((f3_12 (((1 : Nat) + 1).toInt32)) &&& 1)), .unset]) rfl ?_
        show Steps p.tables e below (T98.setTop (mkF m 89 #[.val (.int p0), .val (.long q1), .second, .val (.int p2), .val (.int p3), .val (.int p4), .val (.long q5), .second, .val (.int (2 : Int32)), .val (.int (1 : Int32)), .val (.ref b81), .val (.int ((f3_12 (0 : Int32)) &&& 1)), .val (.int ((f3_12 (((1 : Nat) + 1).toInt32)) &&& 1)), .unset] [])) _
        refine XS.iload X98.here hx rfl (hb hby at_89) rfl ?_
        show Steps p.tables e below (T98.setTop (mkF m 91 #[.val (.int p0), .val (.long q1), .second, .val (.int p2), .val (.int p3), .val (.int p4), .val (.long q5), .second, .val (.int (2 : Int32)), .val (.int (1 : Int32)), .val (.ref b81), .val (.int ((f3_12 (0 : Int32)) &&& 1)), .val (.int ((f3_12 (((1 : Nat) + 1).toInt32)) &&& 1)), .unset] [(.int (1 : Int32))])) _
        refine XS.iconst X98.here hx rfl (hb hby at_91) ?_
        show Steps p.tables e below (T98.setTop (mkF m 92 #[.val (.int p0), .val (.long q1), .second, .val (.int p2), .val (.int p3), .val (.int p4), .val (.long q5), .second, .val (.int (2 : Int32)), .val (.int (1 : Int32)), .val (.ref b81), .val (.int ((f3_12 (0 : Int32)) &&& 1)), .val (.int ((f3_12 (((1 : Nat) + 1).toInt32)) &&& 1)), .unset] [(.int (1 : Int32)), (.int (1 : Int32))])) _
        refine XS.icmpNo X98.here hx rfl (hb hby at_92) rfl (flt (show ¬ ((1 : Int32) < (1 : Int32)) by decide)).1 ?_
        show Steps p.tables e below (T98.setTop (mkF m 95 #[.val (.int p0), .val (.long q1), .second, .val (.int p2), .val (.int p3), .val (.int p4), .val (.long q5), .second, .val (.int (2 : Int32)), .val (.int (1 : Int32)), .val (.ref b81), .val (.int ((f3_12 (0 : Int32)) &&& 1)), .val (.int ((f3_12 (((1 : Nat) + 1).toInt32)) &&& 1)), .unset] [])) _
        refine XS.aload X98.here hx rfl (hb hby at_95) rfl rfl ?_
        show Steps p.tables e below (T98.setTop (mkF m 97 #[.val (.int p0), .val (.long q1), .second, .val (.int p2), .val (.int p3), .val (.int p4), .val (.long q5), .second, .val (.int (2 : Int32)), .val (.int (1 : Int32)), .val (.ref b81), .val (.int ((f3_12 (0 : Int32)) &&& 1)), .val (.int ((f3_12 (((1 : Nat) + 1).toInt32)) &&& 1)), .unset] [(.ref b81)])) _
        refine st99.trans ?_
        show Steps p.tables e below (T99.setTop (mkF m 100 #[.val (.int p0), .val (.long q1), .second, .val (.int p2), .val (.int p3), .val (.int p4), .val (.long q5), .second, .val (.int (2 : Int32)), .val (.int (1 : Int32)), .val (.ref b81), .val (.int ((f3_12 (0 : Int32)) &&& 1)), .val (.int ((f3_12 (((1 : Nat) + 1).toInt32)) &&& 1)), .unset] [(.int ((f2_94 0).2.2))])) _
        refine XS.pop X99.here hx rfl (hb hby at_100) rfl rfl ?_
        show Steps p.tables e below (T99.setTop (mkF m 101 #[.val (.int p0), .val (.long q1), .second, .val (.int p2), .val (.int p3), .val (.int p4), .val (.long q5), .second, .val (.int (2 : Int32)), .val (.int (1 : Int32)), .val (.ref b81), .val (.int ((f3_12 (0 : Int32)) &&& 1)), .val (.int ((f3_12 (((1 : Nat) + 1).toInt32)) &&& 1)), .unset] [])) _
        refine XS.iload X99.here hx rfl (hb hby at_101) rfl ?_
        show Steps p.tables e below (T99.setTop (mkF m 103 #[.val (.int p0), .val (.long q1), .second, .val (.int p2), .val (.int p3), .val (.int p4), .val (.long q5), .second, .val (.int (2 : Int32)), .val (.int (1 : Int32)), .val (.ref b81), .val (.int ((f3_12 (0 : Int32)) &&& 1)), .val (.int ((f3_12 (((1 : Nat) + 1).toInt32)) &&& 1)), .unset] [(.int (1 : Int32))])) _
        refine XS.iconst X99.here hx rfl (hb hby at_103) ?_
        show Steps p.tables e below (T99.setTop (mkF m 104 #[.val (.int p0), .val (.long q1), .second, .val (.int p2), .val (.int p3), .val (.int p4), .val (.long q5), .second, .val (.int (2 : Int32)), .val (.int (1 : Int32)), .val (.ref b81), .val (.int ((f3_12 (0 : Int32)) &&& 1)), .val (.int ((f3_12 (((1 : Nat) + 1).toInt32)) &&& 1)), .unset] [(.int (2 : Int32)), (.int (1 : Int32))])) _
        refine XS.icmpYes X99.here hx rfl (pc0 := 104) (pc' := 113) rfl (hb hby at_104) rfl (tlt (show (1 : Int32) < (2 : Int32) by decide)).1 (by decide) (by decide) ?_
        show Steps p.tables e below (T99.setTop (mkF m 113 #[.val (.int p0), .val (.long q1), .second, .val (.int p2), .val (.int p3), .val (.int p4), .val (.long q5), .second, .val (.int (2 : Int32)), .val (.int (1 : Int32)), .val (.ref b81), .val (.int ((f3_12 (0 : Int32)) &&& 1)), .val (.int ((f3_12 (((1 : Nat) + 1).toInt32)) &&& 1)), .unset] [])) _
        refine XS.iload X99.here hx rfl (hb hby at_113) rfl ?_
        show Steps p.tables e below (T99.setTop (mkF m 115 #[.val (.int p0), .val (.long q1), .second, .val (.int p2), .val (.int p3), .val (.int p4), .val (.long q5), .second, .val (.int (2 : Int32)), .val (.int (1 : Int32)), .val (.ref b81), .val (.int ((f3_12 (0 : Int32)) &&& 1)), .val (.int ((f3_12 (((1 : Nat) + 1).toInt32)) &&& 1)), .unset] [(.int (1 : Int32))])) _
        refine XS.iconst X99.here hx rfl (hb hby at_115) ?_
        show Steps p.tables e below (T99.setTop (mkF m 116 #[.val (.int p0), .val (.long q1), .second, .val (.int p2), .val (.int p3), .val (.int p4), .val (.long q5), .second, .val (.int (2 : Int32)), .val (.int (1 : Int32)), .val (.ref b81), .val (.int ((f3_12 (0 : Int32)) &&& 1)), .val (.int ((f3_12 (((1 : Nat) + 1).toInt32)) &&& 1)), .unset] [(.int (3 : Int32)), (.int (1 : Int32))])) _
        refine XS.icmpYes X99.here hx rfl (pc0 := 116) (pc' := 125) rfl (hb hby at_116) rfl (tlt (show (1 : Int32) < (3 : Int32) by decide)).1 (by decide) (by decide) ?_
        show Steps p.tables e below (T99.setTop (mkF m 125 #[.val (.int p0), .val (.long q1), .second, .val (.int p2), .val (.int p3), .val (.int p4), .val (.long q5), .second, .val (.int (2 : Int32)), .val (.int (1 : Int32)), .val (.ref b81), .val (.int ((f3_12 (0 : Int32)) &&& 1)), .val (.int ((f3_12 (((1 : Nat) + 1).toInt32)) &&& 1)), .unset] [])) _
        refine XS.aload X99.here hx rfl (hb hby at_125) rfl rfl ?_
        show Steps p.tables e below (T99.setTop (mkF m 127 #[.val (.int p0), .val (.long q1), .second, .val (.int p2), .val (.int p3), .val (.int p4), .val (.long q5), .second, .val (.int (2 : Int32)), .val (.int (1 : Int32)), .val (.ref b81), .val (.int ((f3_12 (0 : Int32)) &&& 1)), .val (.int ((f3_12 (((1 : Nat) + 1).toInt32)) &&& 1)), .unset] [(.ref b81)])) _
        refine st103.trans ?_
        show Steps p.tables e below (T103.setTop (mkF m 130 #[.val (.int p0), .val (.long q1), .second, .val (.int p2), .val (.int p3), .val (.int p4), .val (.long q5), .second, .val (.int (2 : Int32)), .val (.int (1 : Int32)), .val (.ref b81), .val (.int ((f3_12 (0 : Int32)) &&& 1)), .val (.int ((f3_12 (((1 : Nat) + 1).toInt32)) &&& 1)), .unset] [(.int ((f3_12 ((1 : Nat).toInt32)) &&& 1))])) _
        refine XS.istore X103.here hx rfl (hb hby at_130) rfl (l' := #[.val (.int p0), .val (.long q1), .second, .val (.int p2), .val (.int p3), .val (.int p4), .val (.long q5), .second, .val (.int (2 : Int32)), .val (.int (1 : Int32)), .val (.ref b81), .val (.int ((f3_12 (0 : Int32)) &&& 1)), .val (.int ((f3_12 (((1 : Nat) + 1).toInt32)) &&& 1)), .val (.int ((f3_12 ((1 : Nat).toInt32)) &&& 1))]) rfl ?_
        show Steps p.tables e below (T103.setTop (mkF m 132 #[.val (.int p0), .val (.long q1), .second, .val (.int p2), .val (.int p3), .val (.int p4), .val (.long q5), .second, .val (.int (2 : Int32)), .val (.int (1 : Int32)), .val (.ref b81), .val (.int ((f3_12 (0 : Int32)) &&& 1)), .val (.int ((f3_12 (((1 : Nat) + 1).toInt32)) &&& 1)), .val (.int ((f3_12 ((1 : Nat).toInt32)) &&& 1))] [])) _
        refine XS.iload X103.here hx rfl (hb hby at_132) rfl ?_
        show Steps p.tables e below (T103.setTop (mkF m 134 #[.val (.int p0), .val (.long q1), .second, .val (.int p2), .val (.int p3), .val (.int p4), .val (.long q5), .second, .val (.int (2 : Int32)), .val (.int (1 : Int32)), .val (.ref b81), .val (.int ((f3_12 (0 : Int32)) &&& 1)), .val (.int ((f3_12 (((1 : Nat) + 1).toInt32)) &&& 1)), .val (.int ((f3_12 ((1 : Nat).toInt32)) &&& 1))] [(.int ((f3_12 (0 : Int32)) &&& 1))])) _
        refine XS.ifNo X103.here hx rfl (hb hby at_134) rfl ((if0 _ _).trans (feq (show ¬ (((f3_12 (0 : Int32)) &&& 1) = (0 : Int32)) from by decide)).1) ?_
        show Steps p.tables e below (T103.setTop (mkF m 137 #[.val (.int p0), .val (.long q1), .second, .val (.int p2), .val (.int p3), .val (.int p4), .val (.long q5), .second, .val (.int (2 : Int32)), .val (.int (1 : Int32)), .val (.ref b81), .val (.int ((f3_12 (0 : Int32)) &&& 1)), .val (.int ((f3_12 (((1 : Nat) + 1).toInt32)) &&& 1)), .val (.int ((f3_12 ((1 : Nat).toInt32)) &&& 1))] [])) _
        refine XS.iload X103.here hx rfl (hb hby at_137) rfl ?_
        show Steps p.tables e below (T103.setTop (mkF m 139 #[.val (.int p0), .val (.long q1), .second, .val (.int p2), .val (.int p3), .val (.int p4), .val (.long q5), .second, .val (.int (2 : Int32)), .val (.int (1 : Int32)), .val (.ref b81), .val (.int ((f3_12 (0 : Int32)) &&& 1)), .val (.int ((f3_12 (((1 : Nat) + 1).toInt32)) &&& 1)), .val (.int ((f3_12 ((1 : Nat).toInt32)) &&& 1))] [(.int ((f3_12 (((1 : Nat) + 1).toInt32)) &&& 1))])) _
        refine XS.iload X103.here hx rfl (hb hby at_139) rfl ?_
        show Steps p.tables e below (T103.setTop (mkF m 141 #[.val (.int p0), .val (.long q1), .second, .val (.int p2), .val (.int p3), .val (.int p4), .val (.long q5), .second, .val (.int (2 : Int32)), .val (.int (1 : Int32)), .val (.ref b81), .val (.int ((f3_12 (0 : Int32)) &&& 1)), .val (.int ((f3_12 (((1 : Nat) + 1).toInt32)) &&& 1)), .val (.int ((f3_12 ((1 : Nat).toInt32)) &&& 1))] [(.int (2 : Int32)), (.int ((f3_12 (((1 : Nat) + 1).toInt32)) &&& 1))])) _
        refine XS.ifYes X103.here hx rfl (pc0 := 141) (pc' := 148) rfl (hb hby at_141) rfl ((if0 _ _).trans (feq (show ¬ ((2 : Int32) = (0 : Int32)) by decide)).2) (by decide) (by decide) ?_
        show Steps p.tables e below (T103.setTop (mkF m 148 #[.val (.int p0), .val (.long q1), .second, .val (.int p2), .val (.int p3), .val (.int p4), .val (.long q5), .second, .val (.int (2 : Int32)), .val (.int (1 : Int32)), .val (.ref b81), .val (.int ((f3_12 (0 : Int32)) &&& 1)), .val (.int ((f3_12 (((1 : Nat) + 1).toInt32)) &&& 1)), .val (.int ((f3_12 ((1 : Nat).toInt32)) &&& 1))] [(.int ((f3_12 (((1 : Nat) + 1).toInt32)) &&& 1))])) _
        refine XS.iconst X103.here hx rfl (hb hby at_148) ?_
        show Steps p.tables e below (T103.setTop (mkF m 149 #[.val (.int p0), .val (.long q1), .second, .val (.int p2), .val (.int p3), .val (.int p4), .val (.long q5), .second, .val (.int (2 : Int32)), .val (.int (1 : Int32)), .val (.ref b81), .val (.int ((f3_12 (0 : Int32)) &&& 1)), .val (.int ((f3_12 (((1 : Nat) + 1).toInt32)) &&& 1)), .val (.int ((f3_12 ((1 : Nat).toInt32)) &&& 1))] [(.int (0 : Int32)), (.int ((f3_12 (((1 : Nat) + 1).toInt32)) &&& 1))])) _
        refine XS.icmpNo X103.here hx rfl (hb hby at_149) rfl (teq (show ((f3_12 (((1 : Nat) + 1).toInt32)) &&& 1) = (0 : Int32) from by decide)).2 ?_
        show Steps p.tables e below (T103.setTop (mkF m 152 #[.val (.int p0), .val (.long q1), .second, .val (.int p2), .val (.int p3), .val (.int p4), .val (.long q5), .second, .val (.int (2 : Int32)), .val (.int (1 : Int32)), .val (.ref b81), .val (.int ((f3_12 (0 : Int32)) &&& 1)), .val (.int ((f3_12 (((1 : Nat) + 1).toInt32)) &&& 1)), .val (.int ((f3_12 ((1 : Nat).toInt32)) &&& 1))] [])) _
        refine XS.iload X103.here hx rfl (hb hby at_152) rfl ?_
        show Steps p.tables e below (T103.setTop (mkF m 154 #[.val (.int p0), .val (.long q1), .second, .val (.int p2), .val (.int p3), .val (.int p4), .val (.long q5), .second, .val (.int (2 : Int32)), .val (.int (1 : Int32)), .val (.ref b81), .val (.int ((f3_12 (0 : Int32)) &&& 1)), .val (.int ((f3_12 (((1 : Nat) + 1).toInt32)) &&& 1)), .val (.int ((f3_12 ((1 : Nat).toInt32)) &&& 1))] [(.int ((f3_12 ((1 : Nat).toInt32)) &&& 1))])) _
        refine XS.iload X103.here hx rfl (hb hby at_154) rfl ?_
        show Steps p.tables e below (T103.setTop (mkF m 156 #[.val (.int p0), .val (.long q1), .second, .val (.int p2), .val (.int p3), .val (.int p4), .val (.long q5), .second, .val (.int (2 : Int32)), .val (.int (1 : Int32)), .val (.ref b81), .val (.int ((f3_12 (0 : Int32)) &&& 1)), .val (.int ((f3_12 (((1 : Nat) + 1).toInt32)) &&& 1)), .val (.int ((f3_12 ((1 : Nat).toInt32)) &&& 1))] [(.int (1 : Int32)), (.int ((f3_12 ((1 : Nat).toInt32)) &&& 1))])) _
        refine XS.iload X103.here hx rfl (hb hby at_156) rfl ?_
        show Steps p.tables e below (T103.setTop (mkF m 158 #[.val (.int p0), .val (.long q1), .second, .val (.int p2), .val (.int p3), .val (.int p4), .val (.long q5), .second, .val (.int (2 : Int32)), .val (.int (1 : Int32)), .val (.ref b81), .val (.int ((f3_12 (0 : Int32)) &&& 1)), .val (.int ((f3_12 (((1 : Nat) + 1).toInt32)) &&& 1)), .val (.int ((f3_12 ((1 : Nat).toInt32)) &&& 1))] [(.int (2 : Int32)), (.int (1 : Int32)), (.int ((f3_12 ((1 : Nat).toInt32)) &&& 1))])) _
        refine XS.icmpYes X103.here hx rfl (pc0 := 158) (pc' := 165) rfl (hb hby at_158) rfl (feq (show ¬ ((1 : Int32) = (2 : Int32)) by decide)).2 (by decide) (by decide) ?_
        show Steps p.tables e below (T103.setTop (mkF m 165 #[.val (.int p0), .val (.long q1), .second, .val (.int p2), .val (.int p3), .val (.int p4), .val (.long q5), .second, .val (.int (2 : Int32)), .val (.int (1 : Int32)), .val (.ref b81), .val (.int ((f3_12 (0 : Int32)) &&& 1)), .val (.int ((f3_12 (((1 : Nat) + 1).toInt32)) &&& 1)), .val (.int ((f3_12 ((1 : Nat).toInt32)) &&& 1))] [(.int ((f3_12 ((1 : Nat).toInt32)) &&& 1))])) _
        refine XS.iconst X103.here hx rfl (hb hby at_165) ?_
        show Steps p.tables e below (T103.setTop (mkF m 166 #[.val (.int p0), .val (.long q1), .second, .val (.int p2), .val (.int p3), .val (.int p4), .val (.long q5), .second, .val (.int (2 : Int32)), .val (.int (1 : Int32)), .val (.ref b81), .val (.int ((f3_12 (0 : Int32)) &&& 1)), .val (.int ((f3_12 (((1 : Nat) + 1).toInt32)) &&& 1)), .val (.int ((f3_12 ((1 : Nat).toInt32)) &&& 1))] [(.int (0 : Int32)), (.int ((f3_12 ((1 : Nat).toInt32)) &&& 1))])) _
        refine XS.icmpNo X103.here hx rfl (hb hby at_166) rfl (teq (show ((f3_12 ((1 : Nat).toInt32)) &&& 1) = (0 : Int32) from by decide)).2 ?_
        show Steps p.tables e below (T103.setTop (mkF m 169 #[.val (.int p0), .val (.long q1), .second, .val (.int p2), .val (.int p3), .val (.int p4), .val (.long q5), .second, .val (.int (2 : Int32)), .val (.int (1 : Int32)), .val (.ref b81), .val (.int ((f3_12 (0 : Int32)) &&& 1)), .val (.int ((f3_12 (((1 : Nat) + 1).toInt32)) &&& 1)), .val (.int ((f3_12 ((1 : Nat).toInt32)) &&& 1))] [])) _
        refine XS.iconst X103.here hx rfl (hb hby at_169) ?_
        show Steps p.tables e below (T103.setTop (mkF m 170 #[.val (.int p0), .val (.long q1), .second, .val (.int p2), .val (.int p3), .val (.int p4), .val (.long q5), .second, .val (.int (2 : Int32)), .val (.int (1 : Int32)), .val (.ref b81), .val (.int ((f3_12 (0 : Int32)) &&& 1)), .val (.int ((f3_12 (((1 : Nat) + 1).toInt32)) &&& 1)), .val (.int ((f3_12 ((1 : Nat).toInt32)) &&& 1))] [(.int (1 : Int32))])) _
        refine XS.goto X103.here hx rfl (pc0 := 170) (pc' := 174) rfl (hb hby at_170) (by decide) (by decide) ?_
        show Steps p.tables e below (T103.setTop (mkF m 174 #[.val (.int p0), .val (.long q1), .second, .val (.int p2), .val (.int p3), .val (.int p4), .val (.long q5), .second, .val (.int (2 : Int32)), .val (.int (1 : Int32)), .val (.ref b81), .val (.int ((f3_12 (0 : Int32)) &&& 1)), .val (.int ((f3_12 (((1 : Nat) + 1).toInt32)) &&& 1)), .val (.int ((f3_12 ((1 : Nat).toInt32)) &&& 1))] [(.int (1 : Int32))])) _
        exact k)
      obtain ⟨fs, hr, hrun, hended, hW, hsame⟩ := X103.leave (v := some (.int (1 : Int32))) (fun h => by rw [Bd.returns] at h; cases h)
      refine ⟨_, _, pre104 _ ?_, hrun, hended, _, _, rfl, ?_, ⟨_, rfl⟩, hW, hsame.mono (by decide) (by decide)⟩
      · exact retN X103 hx (t := .boolean) Bd.returns (by simp) (hb hby at_174) hr
      · show Q0 Z p0 q1 p2 p3 p4 q5 h0 n0 _ T103.heap _
        rw [hh103]
        exact ⟨rfl, N103⟩
    · have pre105 : ∀ t, Steps p.tables e below (s₁.setTop (mkF m 18 #[.val (.int p0), .val (.long q1), .second, .val (.int p2), .val (.int p3), .val (.int p4), .val (.long q5), .second, .val (.int (2 : Int32)), .val (.int (2 : Int32)), .unset, .unset, .unset, .unset] [])) t → Steps p.tables e below (s₁.setTop (entryFrame m #[(.int p0), (.long q1), (.int p2), (.int p3), (.int p4), (.long q5)] maxLocals)) t := fun t k => pre58 t (by rw [hk]; exact k)
      obtain ⟨T106, h106, X106, e106, Ex106, Ne106, D106, -, st106⟩ := newO X0 hx hZ hown (hw _ (List.mem_of_getElem? (i := 1) rfl)) (hw _ (List.mem_of_getElem? (i := 2) rfl)) (hw _ (List.mem_of_getElem? (i := 3) rfl)) e0 (g := (mkF m 18 #[.val (.int p0), .val (.long q1), .second, .val (.int p2), .val (.int p3), .val (.int p4), .val (.long q5), .second, .val (.int (2 : Int32)), .val (.int (2 : Int32)), .unset, .unset, .unset, .unset] [])) rfl (hb hby at_18) (by decide) (by decide)
      obtain ⟨b106, g106⟩ : ∃ z, z = h0.size := ⟨_, rfl⟩
      rw [← g106] at Ne106 D106 st106
      have g_b106 : n0 ≤ b106 := Nat.le_trans (Nat.le_trans Z0 (Nat.le_refl _)) (Nat.le_of_eq g106.symm)
      have sz_b106 : h0.size ≤ b106 := Nat.le_trans (Nat.le_refl _) (Nat.le_of_eq g106.symm)
      have SZ108 : h0.size ≤ h106.size := Nat.le_trans (Nat.le_refl _) Ex106.1
      have ZZ108 : n0 ≤ h106.size := Nat.le_trans Z0 SZ108
      have K109 : Keep h0 h106 [] := ((Keep.refl h0 [])).ext Ex106
      have F_ranks_b106_106 : Fld Z h106 b106 "com/example/brisk_maze/briskmaze/search/RankedFrontier" "ranks" "[J" .null := D106 (Or.inl (hw _ (List.mem_of_getElem? (i := 12) rfl))) (ty := (.array .long)) (by decide)
      have F_costs_b106_106 : Fld Z h106 b106 "com/example/brisk_maze/briskmaze/search/RankedFrontier" "costs" "[I" .null := D106 (Or.inl (hw _ (List.mem_of_getElem? (i := 15) rfl))) (ty := (.array .int)) (by decide)
      have F_states_b106_106 : Fld Z h106 b106 "com/example/brisk_maze/briskmaze/search/RankedFrontier" "states" "[I" .null := D106 (Or.inl (hw _ (List.mem_of_getElem? (i := 17) rfl))) (ty := (.array .int)) (by decide)
      have F_size_b106_106 : Fld Z h106 b106 "com/example/brisk_maze/briskmaze/search/RankedFrontier" "size" "I" (.int (0 : Int32)) := D106 (Or.inl (hw _ (List.mem_of_getElem? (i := 24) rfl))) (ty := .int) (by decide)
      obtain ⟨_, _, ⟨T110, L110, k110, n110⟩, -, X110, ⟨Lc110, hQ110, l110, y110, z110⟩, st110⟩ := X106.specialBack hx (y := (⟨"com/example/brisk_maze/briskmaze/search/RankedFrontier", "<init>", "()V"⟩ : MethodName)) rfl hown (mvT hZ (hw _ (List.mem_of_getElem? (i := 4) rfl))) (mvT hZ (hw _ (List.mem_of_getElem? (i := 5) rfl))) (mvT hZ (hw _ (List.mem_of_getElem? (i := 6) rfl))) (by decide) (backOf (W := 1) (rm1 l Z a0 hw [] b106 h106 n0 ZZ108 F_ranks_b106_106 F_costs_b106_106 F_states_b106_106 Ne106 F_size_b106_106 g_b106) hZ (hw _ (List.mem_of_getElem? (i := 6) rfl)) (hw _ (List.mem_of_getElem? (i := 3) rfl)) (by decide) (by decide)) (g := (mkF m 22 #[.val (.int p0), .val (.long q1), .second, .val (.int p2), .val (.int p3), .val (.int p4), .val (.long q5), .second, .val (.int (2 : Int32)), .val (.int (2 : Int32)), .unset, .unset, .unset, .unset] [(.ref b106), (.ref b106)])) rfl (by rw [hml]; rfl) (Steps.refl _) (a := b106) (argsL := []) (rest := [(.ref b106)]) (lenOf pd_4 rfl) rfl (by show 2 * 0 + _ ≤ _; exact Nat.le_of_eq rfl) (hb hby at_22) (fun _ _ => ⟨rfl, e106, (by decide : 1 + 3 ≤ _), (by decide : 4 + 192 ≤ _)⟩)
      dsimp only [Pt.U, Pt.locs, Pt.cells, Pt.slots] at X110 l110 y110 z110 st110 hQ110
      subst l110 y110 z110
      obtain ⟨tr_110, tc_110, ts_110, rfl, N110q, Kc110, sz_tr_110, sz_tc_110, sz_ts_110, ne_tr_tc_110, ne_tr_ts_110, ne_tc_ts_110, P110_0, P110_1, P110_2, P110_3, P110_4, P110_5, P110_6⟩ := hQ110
      have N110 := Fr.app N0 N110q
      have E_b106_111 : Exa Z T110.heap b106 "com/example/brisk_maze/briskmaze/search/RankedFrontier" := (Ne106).keep Kc110
      have SZ112 : h0.size ≤ T110.heap.size := Nat.le_trans SZ108 Kc110.1
      have ZZ112 : n0 ≤ T110.heap.size := Nat.le_trans Z0 SZ112
      have K113 : Keep h0 T110.heap [] := (K109).trans Kc110 (allS (Or.inr sz_b106) all0)
      have ne_b106_tr_110 : b106 ≠ tr_110 := Nat.ne_of_lt (Nat.lt_of_lt_of_le (Ne106).lt sz_tr_110)
      have g_tr_110 : n0 ≤ tr_110 := Nat.le_trans (Nat.le_trans Z0 SZ108) sz_tr_110
      have szz_tr_110 : h0.size ≤ tr_110 := Nat.le_trans SZ108 sz_tr_110
      have ne_b106_tc_110 : b106 ≠ tc_110 := Nat.ne_of_lt (Nat.lt_of_lt_of_le (Ne106).lt sz_tc_110)
      have g_tc_110 : n0 ≤ tc_110 := Nat.le_trans (Nat.le_trans Z0 SZ108) sz_tc_110
      have szz_tc_110 : h0.size ≤ tc_110 := Nat.le_trans SZ108 sz_tc_110
      have ne_b106_ts_110 : b106 ≠ ts_110 := Nat.ne_of_lt (Nat.lt_of_lt_of_le (Ne106).lt sz_ts_110)
      have g_ts_110 : n0 ≤ ts_110 := Nat.le_trans (Nat.le_trans Z0 SZ108) sz_ts_110
      have szz_ts_110 : h0.size ≤ ts_110 := Nat.le_trans SZ108 sz_ts_110
      obtain ⟨cq114, kq114, q114a, q114b, q114c⟩ := isOf hZ rfl (E_b106_111)
      obtain ⟨_, _, ⟨T114, L114, k114, n114⟩, -, X114, ⟨Lc114, hQ114, l114, y114, z114⟩, st114⟩ := X110.virtualBack hx (y := (⟨"com/example/brisk_maze/briskmaze/search/RankedFrontier", "isEmpty", "()Z"⟩ : MethodName)) (z := (⟨"com/example/brisk_maze/briskmaze/search/RankedFrontier", "isEmpty", "()Z"⟩ : MethodName)) hown (mvT hZ (hw _ (List.mem_of_getElem? (i := 18) rfl))) (mvT hZ (hw _ (List.mem_of_getElem? (i := 19) rfl))) (notFace_of_selects (args := #[]) (mvT hZ (hw _ (List.mem_of_getElem? (i := 21) rfl)))) (mvT hZ (hw _ (List.mem_of_getElem? (i := 21) rfl))) (mvT hZ (hw _ (List.mem_of_getElem? (i := 20) rfl))) (by decide) (backOf (W := 0) (rm3 l Z a0 hw [] b106 (0 : Int32) T110.heap n0 ZZ112 P110_3) hZ (hw _ (List.mem_of_getElem? (i := 22) rfl)) (hw _ (List.mem_of_getElem? (i := 3) rfl)) (by decide) (by decide)) q114a q114c (g := (mkF m 29 #[.val (.int p0), .val (.long q1), .second, .val (.int p2), .val (.int p3), .val (.int p4), .val (.long q5), .second, .val (.int (2 : Int32)), .val (.int (2 : Int32)), .val (.ref b106), .unset, .unset, .unset] [(.ref b106)])) rfl (by rw [hml]; rfl) (Steps.refl _) (argsL := []) (rest := []) (lenOf pd_5 rfl) rfl (by show 2 * 0 + _ ≤ _; exact Nat.le_of_eq rfl) (hb hby at_29) (fun _ _ => ⟨rfl, rfl, (by decide : 4 + 0 ≤ _), (by decide : 196 + 0 ≤ _)⟩)
      dsimp only [Pt.U, Pt.locs, Pt.cells, Pt.slots] at X114 l114 y114 z114 st114 hQ114
      subst l114 y114 z114
      obtain ⟨rfl, N114q, hh114⟩ := hQ114
      have N114 := Fr.app N110 N114q
      obtain ⟨cq115, kq115, q115a, q115b, q115c⟩ := isOf hZ hh114 (E_b106_111)
      obtain ⟨_, _, ⟨T115, L115, k115, n115⟩, -, X115, ⟨Lc115, hQ115, l115, y115, z115⟩, st115⟩ := X114.virtualBack hx (y := (⟨"com/example/brisk_maze/briskmaze/search/RankedFrontier", "add", "(IJI)V"⟩ : MethodName)) (z := (⟨"com/example/brisk_maze/briskmaze/search/RankedFrontier", "add", "(IJI)V"⟩ : MethodName)) hown (mvT hZ (hw _ (List.mem_of_getElem? (i := 25) rfl))) (mvT hZ (hw _ (List.mem_of_getElem? (i := 26) rfl))) (notFace_of_selects (args := #[]) (mvT hZ (hw _ (List.mem_of_getElem? (i := 28) rfl)))) (mvT hZ (hw _ (List.mem_of_getElem? (i := 28) rfl))) (mvT hZ (hw _ (List.mem_of_getElem? (i := 27) rfl))) (by decide) (backOf (W := 0) (rm4 l Z a0 hw [] b106 p0 q1 p2 tr_110 tc_110 ts_110 (fun _ => ((0 : Int64), (0 : Int32), (0 : Int32))) (0 : Nat) T110.heap n0 ZZ112 P110_0 P110_1 P110_2 E_b106_111 P110_3 P110_4 P110_5 P110_6 g_tr_110 g_tc_110 g_ts_110 g_b106 ne_b106_tr_110 ne_b106_tc_110 ne_b106_ts_110 ne_tr_tc_110 ne_tr_ts_110 ne_tc_ts_110 (by decide) (fun j _ j1 => absurd j1 (Nat.not_lt_zero _))) hZ (hw _ (List.mem_of_getElem? (i := 29) rfl)) (hw _ (List.mem_of_getElem? (i := 3) rfl)) (by decide) (by decide)) q115a q115c (g := (mkF m 45 #[.val (.int p0), .val (.long q1), .second, .val (.int p2), .val (.int p3), .val (.int p4), .val (.long q5), .second, .val (.int (2 : Int32)), .val (.int (2 : Int32)), .val (.ref b106), .val (.int ((f3_12 (0 : Int32)) &&& 1)), .unset, .unset] [(.int p2), (.long q1), (.int p0), (.ref b106)])) rfl (by rw [hml]; rfl) (Steps.refl _) (argsL := [(.int p0), (.long q1), (.int p2)]) (rest := []) (lenOf pd_6 rfl) rfl (by show 2 * 0 + _ ≤ _; exact Nat.le_of_eq rfl) (hb hby at_45) (fun _ _ => ⟨rfl, hh114, (by decide : 4 + 0 ≤ _), (by decide : 196 + 0 ≤ _)⟩)
      dsimp only [Pt.U, Pt.locs, Pt.cells, Pt.slots] at X115 l115 y115 z115 st115 hQ115
      subst l115 y115 z115
      obtain ⟨f2_115, rfl, N115q, Kc115, P115_0, P115_1, P115_2, P115_3, P115_4, P115_5, P115_6, P115_7, P115_8⟩ := hQ115
      have N115 := Fr.app N114 N115q
      have E_b106_116 : Exa Z T115.heap b106 "com/example/brisk_maze/briskmaze/search/RankedFrontier" := (E_b106_111).keep Kc115
      have SZ117 : h0.size ≤ T115.heap.size := Nat.le_trans SZ112 Kc115.1
      have ZZ117 : n0 ≤ T115.heap.size := Nat.le_trans Z0 SZ117
      have K118 : Keep h0 T115.heap [] := (K113).trans Kc115 (allS (Or.inr szz_tr_110) (allS (Or.inr szz_tc_110) (allS (Or.inr szz_ts_110) (allS (Or.inr sz_b106) all0))))
      obtain ⟨cq119, kq119, q119a, q119b, q119c⟩ := isOf hZ rfl (E_b106_116)
      obtain ⟨_, _, ⟨T119, L119, k119, n119⟩, -, X119, ⟨Lc119, hQ119, l119, y119, z119⟩, st119⟩ := X115.virtualBack hx (y := (⟨"com/example/brisk_maze/briskmaze/search/RankedFrontier", "add", "(IJI)V"⟩ : MethodName)) (z := (⟨"com/example/brisk_maze/briskmaze/search/RankedFrontier", "add", "(IJI)V"⟩ : MethodName)) hown (mvT hZ (hw _ (List.mem_of_getElem? (i := 25) rfl))) (mvT hZ (hw _ (List.mem_of_getElem? (i := 26) rfl))) (notFace_of_selects (args := #[]) (mvT hZ (hw _ (List.mem_of_getElem? (i := 28) rfl)))) (mvT hZ (hw _ (List.mem_of_getElem? (i := 28) rfl))) (mvT hZ (hw _ (List.mem_of_getElem? (i := 27) rfl))) (by decide) (backOf (W := 0) (rm4 l Z a0 hw [] b106 p2 q5 p0 tr_110 tc_110 ts_110 f2_115 (1 : Nat) T115.heap n0 ZZ117 P115_1 P115_2 P115_3 E_b106_116 P115_0 P115_4 P115_5 P115_6 g_tr_110 g_tc_110 g_ts_110 g_b106 ne_b106_tr_110 ne_b106_tc_110 ne_b106_ts_110 ne_tr_tc_110 ne_tr_ts_110 ne_tc_ts_110 (by decide) P115_7) hZ (hw _ (List.mem_of_getElem? (i := 29) rfl)) (hw _ (List.mem_of_getElem? (i := 3) rfl)) (by decide) (by decide)) q119a q119c (g := (mkF m 60 #[.val (.int p0), .val (.long q1), .second, .val (.int p2), .val (.int p3), .val (.int p4), .val (.long q5), .second, .val (.int (2 : Int32)), .val (.int (2 : Int32)), .val (.ref b106), .val (.int ((f3_12 (0 : Int32)) &&& 1)), .unset, .unset] [(.int p0), (.long q5), (.int p2), (.ref b106)])) rfl (by rw [hml]; rfl) (Steps.refl _) (argsL := [(.int p2), (.long q5), (.int p0)]) (rest := []) (lenOf pd_6 rfl) rfl (by show 2 * 0 + _ ≤ _; exact Nat.le_of_eq rfl) (hb hby at_60) (fun _ _ => ⟨rfl, rfl, (by decide : 4 + 0 ≤ _), (by decide : 196 + 0 ≤ _)⟩)
      dsimp only [Pt.U, Pt.locs, Pt.cells, Pt.slots] at X119 l119 y119 z119 st119 hQ119
      subst l119 y119 z119
      obtain ⟨f2_119, rfl, N119q, Kc119, P119_0, P119_1, P119_2, P119_3, P119_4, P119_5, P119_6, P119_7, P119_8⟩ := hQ119
      have N119 := Fr.app N115 N119q
      have E_b106_120 : Exa Z T119.heap b106 "com/example/brisk_maze/briskmaze/search/RankedFrontier" := (E_b106_116).keep Kc119
      have SZ121 : h0.size ≤ T119.heap.size := Nat.le_trans SZ117 Kc119.1
      have ZZ121 : n0 ≤ T119.heap.size := Nat.le_trans Z0 SZ121
      have K122 : Keep h0 T119.heap [] := (K118).trans Kc119 (allS (Or.inr szz_tr_110) (allS (Or.inr szz_tc_110) (allS (Or.inr szz_ts_110) (allS (Or.inr sz_b106) all0))))
      obtain ⟨cq123, kq123, q123a, q123b, q123c⟩ := isOf hZ rfl (E_b106_120)
      obtain ⟨_, _, ⟨T123, L123, k123, n123⟩, -, X123, ⟨Lc123, hQ123, l123, y123, z123⟩, st123⟩ := X119.virtualBack hx (y := (⟨"com/example/brisk_maze/briskmaze/search/RankedFrontier", "isEmpty", "()Z"⟩ : MethodName)) (z := (⟨"com/example/brisk_maze/briskmaze/search/RankedFrontier", "isEmpty", "()Z"⟩ : MethodName)) hown (mvT hZ (hw _ (List.mem_of_getElem? (i := 18) rfl))) (mvT hZ (hw _ (List.mem_of_getElem? (i := 19) rfl))) (notFace_of_selects (args := #[]) (mvT hZ (hw _ (List.mem_of_getElem? (i := 21) rfl)))) (mvT hZ (hw _ (List.mem_of_getElem? (i := 21) rfl))) (mvT hZ (hw _ (List.mem_of_getElem? (i := 20) rfl))) (by decide) (backOf (W := 0) (rm3 l Z a0 hw [] b106 (((1 : Nat) + 1).toInt32) T119.heap n0 ZZ121 P119_0) hZ (hw _ (List.mem_of_getElem? (i := 22) rfl)) (hw _ (List.mem_of_getElem? (i := 3) rfl)) (by decide) (by decide)) q123a q123c (g := (mkF m 84 #[.val (.int p0), .val (.long q1), .second, .val (.int p2), .val (.int p3), .val (.int p4), .val (.long q5), .second, .val (.int (2 : Int32)), .val (.int (2 : Int32)), .val (.ref b106), .val (.int ((f3_12 (0 : Int32)) &&& 1)), .unset, .unset] [(.ref b106)])) rfl (by rw [hml]; rfl) (Steps.refl _) (argsL := []) (rest := []) (lenOf pd_5 rfl) rfl (by show 2 * 0 + _ ≤ _; exact Nat.le_of_eq rfl) (hb hby at_84) (fun _ _ => ⟨rfl, rfl, (by decide : 4 + 0 ≤ _), (by decide : 196 + 0 ≤ _)⟩)
      dsimp only [Pt.U, Pt.locs, Pt.cells, Pt.slots] at X123 l123 y123 z123 st123 hQ123
      subst l123 y123 z123
      obtain ⟨rfl, N123q, hh123⟩ := hQ123
      have N123 := Fr.app N119 N123q
      obtain ⟨cq124, kq124, q124a, q124b, q124c⟩ := isOf hZ hh123 (E_b106_120)
      obtain ⟨_, _, ⟨T124, L124, k124, n124⟩, -, X124, ⟨Lc124, hQ124, l124, y124, z124⟩, st124⟩ := X123.virtualBack hx (y := (⟨"com/example/brisk_maze/briskmaze/search/RankedFrontier", "removeFirst", "()I"⟩ : MethodName)) (z := (⟨"com/example/brisk_maze/briskmaze/search/RankedFrontier", "removeFirst", "()I"⟩ : MethodName)) hown (mvT hZ (hw _ (List.mem_of_getElem? (i := 34) rfl))) (mvT hZ (hw _ (List.mem_of_getElem? (i := 35) rfl))) (notFace_of_selects (args := #[]) (mvT hZ (hw _ (List.mem_of_getElem? (i := 37) rfl)))) (mvT hZ (hw _ (List.mem_of_getElem? (i := 37) rfl))) (mvT hZ (hw _ (List.mem_of_getElem? (i := 36) rfl))) (by decide) (backOf (W := 0) (rm6 l Z a0 hw [] b106 tr_110 tc_110 ts_110 f2_119 (1 : Nat) T119.heap n0 ZZ121 P119_1 P119_2 P119_3 E_b106_120 P119_0 P119_4 P119_5 P119_6 g_tr_110 g_tc_110 g_ts_110 g_b106 ne_b106_tr_110 ne_b106_tc_110 ne_b106_ts_110 ne_tr_tc_110 ne_tr_ts_110 ne_tc_ts_110 (by decide) P119_7) hZ (hw _ (List.mem_of_getElem? (i := 38) rfl)) (hw _ (List.mem_of_getElem? (i := 3) rfl)) (by decide) (by decide)) q124a q124c (g := (mkF m 97 #[.val (.int p0), .val (.long q1), .second, .val (.int p2), .val (.int p3), .val (.int p4), .val (.long q5), .second, .val (.int (2 : Int32)), .val (.int (2 : Int32)), .val (.ref b106), .val (.int ((f3_12 (0 : Int32)) &&& 1)), .val (.int ((f3_12 (((1 : Nat) + 1).toInt32)) &&& 1)), .unset] [(.ref b106)])) rfl (by rw [hml]; rfl) (Steps.refl _) (argsL := []) (rest := []) (lenOf pd_7 rfl) rfl (by show 2 * 0 + _ ≤ _; exact Nat.le_of_eq rfl) (hb hby at_97) (fun _ _ => ⟨rfl, hh123, (by decide : 4 + 0 ≤ _), (by decide : 196 + 0 ≤ _)⟩)
      dsimp only [Pt.U, Pt.locs, Pt.cells, Pt.slots] at X124 l124 y124 z124 st124 hQ124
      subst l124 y124 z124
      obtain ⟨f2_124, rfl, N124q, Kc124, P124_0, P124_1, P124_2, P124_3, P124_4, P124_5, P124_6, P124_7, P124_8⟩ := hQ124
      have N124 := Fr.app N123 N124q
      have E_b106_125 : Exa Z T124.heap b106 "com/example/brisk_maze/briskmaze/search/RankedFrontier" := (E_b106_120).keep Kc124
      have SZ126 : h0.size ≤ T124.heap.size := Nat.le_trans SZ121 Kc124.1
      have ZZ126 : n0 ≤ T124.heap.size := Nat.le_trans Z0 SZ126
      have K127 : Keep h0 T124.heap [] := (K122).trans Kc124 (allS (Or.inr szz_tr_110) (allS (Or.inr szz_tc_110) (allS (Or.inr szz_ts_110) (allS (Or.inr sz_b106) all0))))
      obtain ⟨cq128, kq128, q128a, q128b, q128c⟩ := isOf hZ rfl (E_b106_125)
      obtain ⟨_, _, ⟨T128, L128, k128, n128⟩, -, X128, ⟨Lc128, hQ128, l128, y128, z128⟩, st128⟩ := X124.virtualBack hx (y := (⟨"com/example/brisk_maze/briskmaze/search/RankedFrontier", "removeFirst", "()I"⟩ : MethodName)) (z := (⟨"com/example/brisk_maze/briskmaze/search/RankedFrontier", "removeFirst", "()I"⟩ : MethodName)) hown (mvT hZ (hw _ (List.mem_of_getElem? (i := 34) rfl))) (mvT hZ (hw _ (List.mem_of_getElem? (i := 35) rfl))) (notFace_of_selects (args := #[]) (mvT hZ (hw _ (List.mem_of_getElem? (i := 37) rfl)))) (mvT hZ (hw _ (List.mem_of_getElem? (i := 37) rfl))) (mvT hZ (hw _ (List.mem_of_getElem? (i := 36) rfl))) (by decide) (backOf (W := 0) (rm6 l Z a0 hw [] b106 tr_110 tc_110 ts_110 f2_124 (0 : Nat) T124.heap n0 ZZ126 P124_1 P124_2 P124_3 E_b106_125 P124_0 P124_4 P124_5 P124_6 g_tr_110 g_tc_110 g_ts_110 g_b106 ne_b106_tr_110 ne_b106_tc_110 ne_b106_ts_110 ne_tr_tc_110 ne_tr_ts_110 ne_tc_ts_110 (by decide) P124_7) hZ (hw _ (List.mem_of_getElem? (i := 38) rfl)) (hw _ (List.mem_of_getElem? (i := 3) rfl)) (by decide) (by decide)) q128a q128c (g := (mkF m 109 #[.val (.int p0), .val (.long q1), .second, .val (.int p2), .val (.int p3), .val (.int p4), .val (.long q5), .second, .val (.int (2 : Int32)), .val (.int (2 : Int32)), .val (.ref b106), .val (.int ((f3_12 (0 : Int32)) &&& 1)), .val (.int ((f3_12 (((1 : Nat) + 1).toInt32)) &&& 1)), .unset] [(.ref b106)])) rfl (by rw [hml]; rfl) (Steps.refl _) (argsL := []) (rest := []) (lenOf pd_7 rfl) rfl (by show 2 * 0 + _ ≤ _; exact Nat.le_of_eq rfl) (hb hby at_109) (fun _ _ => ⟨rfl, rfl, (by decide : 4 + 0 ≤ _), (by decide : 196 + 0 ≤ _)⟩)
      dsimp only [Pt.U, Pt.locs, Pt.cells, Pt.slots] at X128 l128 y128 z128 st128 hQ128
      subst l128 y128 z128
      obtain ⟨f2_128, rfl, N128q, Kc128, P128_0, P128_1, P128_2, P128_3, P128_4, P128_5, P128_6, P128_7, P128_8⟩ := hQ128
      have N128 := Fr.app N124 N128q
      have E_b106_129 : Exa Z T128.heap b106 "com/example/brisk_maze/briskmaze/search/RankedFrontier" := (E_b106_125).keep Kc128
      have SZ130 : h0.size ≤ T128.heap.size := Nat.le_trans SZ126 Kc128.1
      have ZZ130 : n0 ≤ T128.heap.size := Nat.le_trans Z0 SZ130
      have K131 : Keep h0 T128.heap [] := (K127).trans Kc128 (allS (Or.inr szz_tr_110) (allS (Or.inr szz_tc_110) (allS (Or.inr szz_ts_110) (allS (Or.inr sz_b106) all0))))
      obtain ⟨cq132, kq132, q132a, q132b, q132c⟩ := isOf hZ rfl (E_b106_129)
      obtain ⟨_, _, ⟨T132, L132, k132, n132⟩, -, X132, ⟨Lc132, hQ132, l132, y132, z132⟩, st132⟩ := X128.virtualBack hx (y := (⟨"com/example/brisk_maze/briskmaze/search/RankedFrontier", "isEmpty", "()Z"⟩ : MethodName)) (z := (⟨"com/example/brisk_maze/briskmaze/search/RankedFrontier", "isEmpty", "()Z"⟩ : MethodName)) hown (mvT hZ (hw _ (List.mem_of_getElem? (i := 18) rfl))) (mvT hZ (hw _ (List.mem_of_getElem? (i := 19) rfl))) (notFace_of_selects (args := #[]) (mvT hZ (hw _ (List.mem_of_getElem? (i := 21) rfl)))) (mvT hZ (hw _ (List.mem_of_getElem? (i := 21) rfl))) (mvT hZ (hw _ (List.mem_of_getElem? (i := 20) rfl))) (by decide) (backOf (W := 0) (rm3 l Z a0 hw [] b106 ((0 : Nat).toInt32) T128.heap n0 ZZ130 P128_0) hZ (hw _ (List.mem_of_getElem? (i := 22) rfl)) (hw _ (List.mem_of_getElem? (i := 3) rfl)) (by decide) (by decide)) q132a q132c (g := (mkF m 127 #[.val (.int p0), .val (.long q1), .second, .val (.int p2), .val (.int p3), .val (.int p4), .val (.long q5), .second, .val (.int (2 : Int32)), .val (.int (2 : Int32)), .val (.ref b106), .val (.int ((f3_12 (0 : Int32)) &&& 1)), .val (.int ((f3_12 (((1 : Nat) + 1).toInt32)) &&& 1)), .unset] [(.ref b106)])) rfl (by rw [hml]; rfl) (Steps.refl _) (argsL := []) (rest := []) (lenOf pd_5 rfl) rfl (by show 2 * 0 + _ ≤ _; exact Nat.le_of_eq rfl) (hb hby at_127) (fun _ _ => ⟨rfl, rfl, (by decide : 4 + 0 ≤ _), (by decide : 196 + 0 ≤ _)⟩)
      dsimp only [Pt.U, Pt.locs, Pt.cells, Pt.slots] at X132 l132 y132 z132 st132 hQ132
      subst l132 y132 z132
      obtain ⟨rfl, N132q, hh132⟩ := hQ132
      have N132 := Fr.app N128 N132q
      have pre133 : ∀ t, Steps p.tables e below (T132.setTop (mkF m 174 #[.val (.int p0), .val (.long q1), .second, .val (.int p2), .val (.int p3), .val (.int p4), .val (.long q5), .second, .val (.int (2 : Int32)), .val (.int (2 : Int32)), .val (.ref b106), .val (.int ((f3_12 (0 : Int32)) &&& 1)), .val (.int ((f3_12 (((1 : Nat) + 1).toInt32)) &&& 1)), .val (.int ((f3_12 ((0 : Nat).toInt32)) &&& 1))] [(.int (1 : Int32))])) t → Steps p.tables e below (s₁.setTop (entryFrame m #[(.int p0), (.long q1), (.int p2), (.int p3), (.int p4), (.long q5)] maxLocals)) t := fun t k => pre105 t (by
        show Steps p.tables e below (s₁.setTop (mkF m 18 #[.val (.int p0), .val (.long q1), .second, .val (.int p2), .val (.int p3), .val (.int p4), .val (.long q5), .second, .val (.int (2 : Int32)), .val (.int (2 : Int32)), .unset, .unset, .unset, .unset] [])) _
        refine st106 _ ?_
        show Steps p.tables e below (T106.setTop (mkF m 21 #[.val (.int p0), .val (.long q1), .second, .val (.int p2), .val (.int p3), .val (.int p4), .val (.long q5), .second, .val (.int (2 : Int32)), .val (.int (2 : Int32)), .unset, .unset, .unset, .unset] [(.ref b106)])) _
        refine XS.dup X106.here hx rfl (hb hby at_21) rfl rfl ?_
        show Steps p.tables e below (T106.setTop (mkF m 22 #[.val (.int p0), .val (.long q1), .second, .val (.int p2), .val (.int p3), .val (.int p4), .val (.long q5), .second, .val (.int (2 : Int32)), .val (.int (2 : Int32)), .unset, .unset, .unset, .unset] [(.ref b106), (.ref b106)])) _
        refine st110.trans ?_
        show Steps p.tables e below (T110.setTop (mkF m 25 #[.val (.int p0), .val (.long q1), .second, .val (.int p2), .val (.int p3), .val (.int p4), .val (.long q5), .second, .val (.int (2 : Int32)), .val (.int (2 : Int32)), .unset, .unset, .unset, .unset] [(.ref b106)])) _
        refine XS.astore X110.here hx rfl (hb hby at_25) rfl rfl (l' := #[.val (.int p0), .val (.long q1), .second, .val (.int p2), .val (.int p3), .val (.int p4), .val (.long q5), .second, .val (.int (2 : Int32)), .val (.int (2 : Int32)), .val (.ref b106), .unset, .unset, .unset]) rfl ?_
        show Steps p.tables e below (T110.setTop (mkF m 27 #[.val (.int p0), .val (.long q1), .second, .val (.int p2), .val (.int p3), .val (.int p4), .val (.long q5), .second, .val (.int (2 : Int32)), .val (.int (2 : Int32)), .val (.ref b106), .unset, .unset, .unset] [])) _
        refine XS.aload X110.here hx rfl (hb hby at_27) rfl rfl ?_
        show Steps p.tables e below (T110.setTop (mkF m 29 #[.val (.int p0), .val (.long q1), .second, .val (.int p2), .val (.int p3), .val (.int p4), .val (.long q5), .second, .val (.int (2 : Int32)), .val (.int (2 : Int32)), .val (.ref b106), .unset, .unset, .unset] [(.ref b106)])) _
        refine st114.trans ?_
        show Steps p.tables e below (T114.setTop (mkF m 32 #[.val (.int p0), .val (.long q1), .second, .val (.int p2), .val (.int p3), .val (.int p4), .val (.long q5), .second, .val (.int (2 : Int32)), .val (.int (2 : Int32)), .val (.ref b106), .unset, .unset, .unset] [(.int ((f3_12 (0 : Int32)) &&& 1))])) _
        refine XS.istore X114.here hx rfl (hb hby at_32) rfl (l' := #[.val (.int p0), .val (.long q1), .second, .val (.int p2), .val (.int p3), .val (.int p4), .val (.long q5), .second, .val (.int (2 : Int32)), .val (.int (2 : Int32)), .val (.ref b106), .val (.int ((f3_12 (0 : Int32)) &&& 1)), .unset, .unset]) rfl ?_
        show Steps p.tables e below (T114.setTop (mkF m 34 #[.val (.int p0), .val (.long q1), .second, .val (.int p2), .val (.int p3), .val (.int p4), .val (.long q5), .second, .val (.int (2 : Int32)), .val (.int (2 : Int32)), .val (.ref b106), .val (.int ((f3_12 (0 : Int32)) &&& 1)), .unset, .unset] [])) _
        refine XS.iload X114.here hx rfl (hb hby at_34) rfl ?_
        show Steps p.tables e below (T114.setTop (mkF m 36 #[.val (.int p0), .val (.long q1), .second, .val (.int p2), .val (.int p3), .val (.int p4), .val (.long q5), .second, .val (.int (2 : Int32)), .val (.int (2 : Int32)), .val (.ref b106), .val (.int ((f3_12 (0 : Int32)) &&& 1)), .unset, .unset] [(.int (2 : Int32))])) _
        refine XS.iconst X114.here hx rfl (hb hby at_36) ?_
        show Steps p.tables e below (T114.setTop (mkF m 37 #[.val (.int p0), .val (.long q1), .second, .val (.int p2), .val (.int p3), .val (.int p4), .val (.long q5), .second, .val (.int (2 : Int32)), .val (.int (2 : Int32)), .val (.ref b106), .val (.int ((f3_12 (0 : Int32)) &&& 1)), .unset, .unset] [(.int (1 : Int32)), (.int (2 : Int32))])) _
        refine XS.icmpNo X114.here hx rfl (hb hby at_37) rfl (flt (show ¬ ((2 : Int32) < (1 : Int32)) by decide)).1 ?_
        show Steps p.tables e below (T114.setTop (mkF m 40 #[.val (.int p0), .val (.long q1), .second, .val (.int p2), .val (.int p3), .val (.int p4), .val (.long q5), .second, .val (.int (2 : Int32)), .val (.int (2 : Int32)), .val (.ref b106), .val (.int ((f3_12 (0 : Int32)) &&& 1)), .unset, .unset] [])) _
        refine XS.aload X114.here hx rfl (hb hby at_40) rfl rfl ?_
        show Steps p.tables e below (T114.setTop (mkF m 42 #[.val (.int p0), .val (.long q1), .second, .val (.int p2), .val (.int p3), .val (.int p4), .val (.long q5), .second, .val (.int (2 : Int32)), .val (.int (2 : Int32)), .val (.ref b106), .val (.int ((f3_12 (0 : Int32)) &&& 1)), .unset, .unset] [(.ref b106)])) _
        refine XS.iloadN X114.here hx rfl (hb hby at_42) rfl ?_
        show Steps p.tables e below (T114.setTop (mkF m 43 #[.val (.int p0), .val (.long q1), .second, .val (.int p2), .val (.int p3), .val (.int p4), .val (.long q5), .second, .val (.int (2 : Int32)), .val (.int (2 : Int32)), .val (.ref b106), .val (.int ((f3_12 (0 : Int32)) &&& 1)), .unset, .unset] [(.int p0), (.ref b106)])) _
        refine XS.lloadN X114.here hx rfl (hb hby at_43) rfl ?_
        show Steps p.tables e below (T114.setTop (mkF m 44 #[.val (.int p0), .val (.long q1), .second, .val (.int p2), .val (.int p3), .val (.int p4), .val (.long q5), .second, .val (.int (2 : Int32)), .val (.int (2 : Int32)), .val (.ref b106), .val (.int ((f3_12 (0 : Int32)) &&& 1)), .unset, .unset] [(.long q1), (.int p0), (.ref b106)])) _
        refine XS.iloadN X114.here hx rfl (hb hby at_44) rfl ?_
        show Steps p.tables e below (T114.setTop (mkF m 45 #[.val (.int p0), .val (.long q1), .second, .val (.int p2), .val (.int p3), .val (.int p4), .val (.long q5), .second, .val (.int (2 : Int32)), .val (.int (2 : Int32)), .val (.ref b106), .val (.int ((f3_12 (0 : Int32)) &&& 1)), .unset, .unset] [(.int p2), (.long q1), (.int p0), (.ref b106)])) _
        refine st115.trans ?_
        show Steps p.tables e below (T115.setTop (mkF m 48 #[.val (.int p0), .val (.long q1), .second, .val (.int p2), .val (.int p3), .val (.int p4), .val (.long q5), .second, .val (.int (2 : Int32)), .val (.int (2 : Int32)), .val (.ref b106), .val (.int ((f3_12 (0 : Int32)) &&& 1)), .unset, .unset] [])) _
        refine XS.iload X115.here hx rfl (hb hby at_48) rfl ?_
        show Steps p.tables e below (T115.setTop (mkF m 50 #[.val (.int p0), .val (.long q1), .second, .val (.int p2), .val (.int p3), .val (.int p4), .val (.long q5), .second, .val (.int (2 : Int32)), .val (.int (2 : Int32)), .val (.ref b106), .val (.int ((f3_12 (0 : Int32)) &&& 1)), .unset, .unset] [(.int (2 : Int32))])) _
        refine XS.iconst X115.here hx rfl (hb hby at_50) ?_
        show Steps p.tables e below (T115.setTop (mkF m 51 #[.val (.int p0), .val (.long q1), .second, .val (.int p2), .val (.int p3), .val (.int p4), .val (.long q5), .second, .val (.int (2 : Int32)), .val (.int (2 : Int32)), .val (.ref b106), .val (.int ((f3_12 (0 : Int32)) &&& 1)), .unset, .unset] [(.int (2 : Int32)), (.int (2 : Int32))])) _
        refine XS.icmpNo X115.here hx rfl (hb hby at_51) rfl (flt (show ¬ ((2 : Int32) < (2 : Int32)) by decide)).1 ?_
        show Steps p.tables e below (T115.setTop (mkF m 54 #[.val (.int p0), .val (.long q1), .second, .val (.int p2), .val (.int p3), .val (.int p4), .val (.long q5), .second, .val (.int (2 : Int32)), .val (.int (2 : Int32)), .val (.ref b106), .val (.int ((f3_12 (0 : Int32)) &&& 1)), .unset, .unset] [])) _
        refine XS.aload X115.here hx rfl (hb hby at_54) rfl rfl ?_
        show Steps p.tables e below (T115.setTop (mkF m 56 #[.val (.int p0), .val (.long q1), .second, .val (.int p2), .val (.int p3), .val (.int p4), .val (.long q5), .second, .val (.int (2 : Int32)), .val (.int (2 : Int32)), .val (.ref b106), .val (.int ((f3_12 (0 : Int32)) &&& 1)), .unset, .unset] [(.ref b106)])) _
        refine XS.iloadN X115.here hx rfl (hb hby at_56) rfl ?_
        show Steps p.tables e below (T115.setTop (mkF m 57 #[.val (.int p0), .val (.long q1), .second, .val (.int p2), .val (.int p3), .val (.int p4), .val (.long q5), .second, .val (.int (2 : Int32)), .val (.int (2 : Int32)), .val (.ref b106), .val (.int ((f3_12 (0 : Int32)) &&& 1)), .unset, .unset] [(.int p2), (.ref b106)])) _
        refine XS.lload X115.here hx rfl (hb hby at_57) rfl ?_
        show Steps p.tables e below (T115.setTop (mkF m 59 #[.val (.int p0), .val (.long q1), .second, .val (.int p2), .val (.int p3), .val (.int p4), .val (.long q5), .second, .val (.int (2 : Int32)), .val (.int (2 : Int32)), .val (.ref b106), .val (.int ((f3_12 (0 : Int32)) &&& 1)), .unset, .unset] [(.long q5), (.int p2), (.ref b106)])) _
        refine XS.iloadN X115.here hx rfl (hb hby at_59) rfl ?_
        show Steps p.tables e below (T115.setTop (mkF m 60 #[.val (.int p0), .val (.long q1), .second, .val (.int p2), .val (.int p3), .val (.int p4), .val (.long q5), .second, .val (.int (2 : Int32)), .val (.int (2 : Int32)), .val (.ref b106), .val (.int ((f3_12 (0 : Int32)) &&& 1)), .unset, .unset] [(.int p0), (.long q5), (.int p2), (.ref b106)])) _
        refine st119.trans ?_
        show Steps p.tables e below (T119.setTop (mkF m 63 #[.val (.int p0), .val (.long q1), .second, .val (.int p2), .val (.int p3), .val (.int p4), .val (.long q5), .second, .val (.int (2 : Int32)), .val (.int (2 : Int32)), .val (.ref b106), .val (.int ((f3_12 (0 : Int32)) &&& 1)), .unset, .unset] [])) _
        refine XS.iload X119.here hx rfl (hb hby at_63) rfl ?_
        show Steps p.tables e below (T119.setTop (mkF m 65 #[.val (.int p0), .val (.long q1), .second, .val (.int p2), .val (.int p3), .val (.int p4), .val (.long q5), .second, .val (.int (2 : Int32)), .val (.int (2 : Int32)), .val (.ref b106), .val (.int ((f3_12 (0 : Int32)) &&& 1)), .unset, .unset] [(.int (2 : Int32))])) _
        refine XS.iconst X119.here hx rfl (hb hby at_65) ?_
        show Steps p.tables e below (T119.setTop (mkF m 66 #[.val (.int p0), .val (.long q1), .second, .val (.int p2), .val (.int p3), .val (.int p4), .val (.long q5), .second, .val (.int (2 : Int32)), .val (.int (2 : Int32)), .val (.ref b106), .val (.int ((f3_12 (0 : Int32)) &&& 1)), .unset, .unset] [(.int (3 : Int32)), (.int (2 : Int32))])) _
        refine XS.icmpYes X119.here hx rfl (pc0 := 66) (pc' := 82) rfl (hb hby at_66) rfl (tlt (show (2 : Int32) < (3 : Int32) by decide)).1 (by decide) (by decide) ?_
        show Steps p.tables e below (T119.setTop (mkF m 82 #[.val (.int p0), .val (.long q1), .second, .val (.int p2), .val (.int p3), .val (.int p4), .val (.long q5), .second, .val (.int (2 : Int32)), .val (.int (2 : Int32)), .val (.ref b106), .val (.int ((f3_12 (0 : Int32)) &&& 1)), .unset, .unset] [])) _
        refine XS.aload X119.here hx rfl (hb hby at_82) rfl rfl ?_
        show Steps p.tables e below (T119.setTop (mkF m 84 #[.val (.int p0), .val (.long q1), .second, .val (.int p2), .val (.int p3), .val (.int p4), .val (.long q5), .second, .val (.int (2 : Int32)), .val (.int (2 : Int32)), .val (.ref b106), .val (.int ((f3_12 (0 : Int32)) &&& 1)), .unset, .unset] [(.ref b106)])) _
        refine st123.trans ?_
        show Steps p.tables e below (T123.setTop (mkF m 87 #[.val (.int p0), .val (.long q1), .second, .val (.int p2), .val (.int p3), .val (.int p4), .val (.long q5), .second, .val (.int (2 : Int32)), .val (.int (2 : Int32)), .val (.ref b106), .val (.int ((f3_12 (0 : Int32)) &&& 1)), .unset, .unset] [(.int ((f3_12 (((1 : Nat) + 1).toInt32)) &&& 1))])) _
        refine XS.istore X123.here hx rfl (hb hby at_87) rfl (l' := #[.val (.int p0), .val (.long q1), .second, .val (.int p2), .val (.int p3), .val (.int p4), .val (.long q5), .second, .val (.int (2 : Int32)), .val (.int (2 : Int32)), .val (.ref b106), .val (.int ((f3_12 (0 : Int32)) &&& 1)), .val (.int ((f3_12 (((1 : Nat) + 1).toInt32)) &&& 1)), .unset]) rfl ?_
        show Steps p.tables e below (T123.setTop (mkF m 89 #[.val (.int p0), .val (.long q1), .second, .val (.int p2), .val (.int p3), .val (.int p4), .val (.long q5), .second, .val (.int (2 : Int32)), .val (.int (2 : Int32)), .val (.ref b106), .val (.int ((f3_12 (0 : Int32)) &&& 1)), .val (.int ((f3_12 (((1 : Nat) + 1).toInt32)) &&& 1)), .unset] [])) _
        refine XS.iload X123.here hx rfl (hb hby at_89) rfl ?_
        show Steps p.tables e below (T123.setTop (mkF m 91 #[.val (.int p0), .val (.long q1), .second, .val (.int p2), .val (.int p3), .val (.int p4), .val (.long q5), .second, .val (.int (2 : Int32)), .val (.int (2 : Int32)), .val (.ref b106), .val (.int ((f3_12 (0 : Int32)) &&& 1)), .val (.int ((f3_12 (((1 : Nat) + 1).toInt32)) &&& 1)), .unset] [(.int (2 : Int32))])) _
        refine XS.iconst X123.here hx rfl (hb hby at_91) ?_
        show Steps p.tables e below (T123.setTop (mkF m 92 #[.val (.int p0), .val (.long q1), .second, .val (.int p2), .val (.int p3), .val (.int p4), .val (.long q5), .second, .val (.int (2 : Int32)), .val (.int (2 : Int32)), .val (.ref b106), .val (.int ((f3_12 (0 : Int32)) &&& 1)), .val (.int ((f3_12 (((1 : Nat) + 1).toInt32)) &&& 1)), .unset] [(.int (1 : Int32)), (.int (2 : Int32))])) _
        refine XS.icmpNo X123.here hx rfl (hb hby at_92) rfl (flt (show ¬ ((2 : Int32) < (1 : Int32)) by decide)).1 ?_
        show Steps p.tables e below (T123.setTop (mkF m 95 #[.val (.int p0), .val (.long q1), .second, .val (.int p2), .val (.int p3), .val (.int p4), .val (.long q5), .second, .val (.int (2 : Int32)), .val (.int (2 : Int32)), .val (.ref b106), .val (.int ((f3_12 (0 : Int32)) &&& 1)), .val (.int ((f3_12 (((1 : Nat) + 1).toInt32)) &&& 1)), .unset] [])) _
        refine XS.aload X123.here hx rfl (hb hby at_95) rfl rfl ?_
        show Steps p.tables e below (T123.setTop (mkF m 97 #[.val (.int p0), .val (.long q1), .second, .val (.int p2), .val (.int p3), .val (.int p4), .val (.long q5), .second, .val (.int (2 : Int32)), .val (.int (2 : Int32)), .val (.ref b106), .val (.int ((f3_12 (0 : Int32)) &&& 1)), .val (.int ((f3_12 (((1 : Nat) + 1).toInt32)) &&& 1)), .unset] [(.ref b106)])) _
        refine st124.trans ?_
        show Steps p.tables e below (T124.setTop (mkF m 100 #[.val (.int p0), .val (.long q1), .second, .val (.int p2), .val (.int p3), .val (.int p4), .val (.long q5), .second, .val (.int (2 : Int32)), .val (.int (2 : Int32)), .val (.ref b106), .val (.int ((f3_12 (0 : Int32)) &&& 1)), .val (.int ((f3_12 (((1 : Nat) + 1).toInt32)) &&& 1)), .unset] [(.int ((f2_119 0).2.2))])) _
        refine XS.pop X124.here hx rfl (hb hby at_100) rfl rfl ?_
        show Steps p.tables e below (T124.setTop (mkF m 101 #[.val (.int p0), .val (.long q1), .second, .val (.int p2), .val (.int p3), .val (.int p4), .val (.long q5), .second, .val (.int (2 : Int32)), .val (.int (2 : Int32)), .val (.ref b106), .val (.int ((f3_12 (0 : Int32)) &&& 1)), .val (.int ((f3_12 (((1 : Nat) + 1).toInt32)) &&& 1)), .unset] [])) _
        refine XS.iload X124.here hx rfl (hb hby at_101) rfl ?_
        show Steps p.tables e below (T124.setTop (mkF m 103 #[.val (.int p0), .val (.long q1), .second, .val (.int p2), .val (.int p3), .val (.int p4), .val (.long q5), .second, .val (.int (2 : Int32)), .val (.int (2 : Int32)), .val (.ref b106), .val (.int ((f3_12 (0 : Int32)) &&& 1)), .val (.int ((f3_12 (((1 : Nat) + 1).toInt32)) &&& 1)), .unset] [(.int (2 : Int32))])) _
        refine XS.iconst X124.here hx rfl (hb hby at_103) ?_
        show Steps p.tables e below (T124.setTop (mkF m 104 #[.val (.int p0), .val (.long q1), .second, .val (.int p2), .val (.int p3), .val (.int p4), .val (.long q5), .second, .val (.int (2 : Int32)), .val (.int (2 : Int32)), .val (.ref b106), .val (.int ((f3_12 (0 : Int32)) &&& 1)), .val (.int ((f3_12 (((1 : Nat) + 1).toInt32)) &&& 1)), .unset] [(.int (2 : Int32)), (.int (2 : Int32))])) _
        refine XS.icmpNo X124.here hx rfl (hb hby at_104) rfl (flt (show ¬ ((2 : Int32) < (2 : Int32)) by decide)).1 ?_
        show Steps p.tables e below (T124.setTop (mkF m 107 #[.val (.int p0), .val (.long q1), .second, .val (.int p2), .val (.int p3), .val (.int p4), .val (.long q5), .second, .val (.int (2 : Int32)), .val (.int (2 : Int32)), .val (.ref b106), .val (.int ((f3_12 (0 : Int32)) &&& 1)), .val (.int ((f3_12 (((1 : Nat) + 1).toInt32)) &&& 1)), .unset] [])) _
        refine XS.aload X124.here hx rfl (hb hby at_107) rfl rfl ?_
        show Steps p.tables e below (T124.setTop (mkF m 109 #[.val (.int p0), .val (.long q1), .second, .val (.int p2), .val (.int p3), .val (.int p4), .val (.long q5), .second, .val (.int (2 : Int32)), .val (.int (2 : Int32)), .val (.ref b106), .val (.int ((f3_12 (0 : Int32)) &&& 1)), .val (.int ((f3_12 (((1 : Nat) + 1).toInt32)) &&& 1)), .unset] [(.ref b106)])) _
        refine st128.trans ?_
        show Steps p.tables e below (T128.setTop (mkF m 112 #[.val (.int p0), .val (.long q1), .second, .val (.int p2), .val (.int p3), .val (.int p4), .val (.long q5), .second, .val (.int (2 : Int32)), .val (.int (2 : Int32)), .val (.ref b106), .val (.int ((f3_12 (0 : Int32)) &&& 1)), .val (.int ((f3_12 (((1 : Nat) + 1).toInt32)) &&& 1)), .unset] [(.int ((f2_124 0).2.2))])) _
        refine XS.pop X128.here hx rfl (hb hby at_112) rfl rfl ?_
        show Steps p.tables e below (T128.setTop (mkF m 113 #[.val (.int p0), .val (.long q1), .second, .val (.int p2), .val (.int p3), .val (.int p4), .val (.long q5), .second, .val (.int (2 : Int32)), .val (.int (2 : Int32)), .val (.ref b106), .val (.int ((f3_12 (0 : Int32)) &&& 1)), .val (.int ((f3_12 (((1 : Nat) + 1).toInt32)) &&& 1)), .unset] [])) _
        refine XS.iload X128.here hx rfl (hb hby at_113) rfl ?_
        show Steps p.tables e below (T128.setTop (mkF m 115 #[.val (.int p0), .val (.long q1), .second, .val (.int p2), .val (.int p3), .val (.int p4), .val (.long q5), .second, .val (.int (2 : Int32)), .val (.int (2 : Int32)), .val (.ref b106), .val (.int ((f3_12 (0 : Int32)) &&& 1)), .val (.int ((f3_12 (((1 : Nat) + 1).toInt32)) &&& 1)), .unset] [(.int (2 : Int32))])) _
        refine XS.iconst X128.here hx rfl (hb hby at_115) ?_
        show Steps p.tables e below (T128.setTop (mkF m 116 #[.val (.int p0), .val (.long q1), .second, .val (.int p2), .val (.int p3), .val (.int p4), .val (.long q5), .second, .val (.int (2 : Int32)), .val (.int (2 : Int32)), .val (.ref b106), .val (.int ((f3_12 (0 : Int32)) &&& 1)), .val (.int ((f3_12 (((1 : Nat) + 1).toInt32)) &&& 1)), .unset] [(.int (3 : Int32)), (.int (2 : Int32))])) _
        refine XS.icmpYes X128.here hx rfl (pc0 := 116) (pc' := 125) rfl (hb hby at_116) rfl (tlt (show (2 : Int32) < (3 : Int32) by decide)).1 (by decide) (by decide) ?_
        show Steps p.tables e below (T128.setTop (mkF m 125 #[.val (.int p0), .val (.long q1), .second, .val (.int p2), .val (.int p3), .val (.int p4), .val (.long q5), .second, .val (.int (2 : Int32)), .val (.int (2 : Int32)), .val (.ref b106), .val (.int ((f3_12 (0 : Int32)) &&& 1)), .val (.int ((f3_12 (((1 : Nat) + 1).toInt32)) &&& 1)), .unset] [])) _
        refine XS.aload X128.here hx rfl (hb hby at_125) rfl rfl ?_
        show Steps p.tables e below (T128.setTop (mkF m 127 #[.val (.int p0), .val (.long q1), .second, .val (.int p2), .val (.int p3), .val (.int p4), .val (.long q5), .second, .val (.int (2 : Int32)), .val (.int (2 : Int32)), .val (.ref b106), .val (.int ((f3_12 (0 : Int32)) &&& 1)), .val (.int ((f3_12 (((1 : Nat) + 1).toInt32)) &&& 1)), .unset] [(.ref b106)])) _
        refine st132.trans ?_
        show Steps p.tables e below (T132.setTop (mkF m 130 #[.val (.int p0), .val (.long q1), .second, .val (.int p2), .val (.int p3), .val (.int p4), .val (.long q5), .second, .val (.int (2 : Int32)), .val (.int (2 : Int32)), .val (.ref b106), .val (.int ((f3_12 (0 : Int32)) &&& 1)), .val (.int ((f3_12 (((1 : Nat) + 1).toInt32)) &&& 1)), .unset] [(.int ((f3_12 ((0 : Nat).toInt32)) &&& 1))])) _
        refine XS.istore X132.here hx rfl (hb hby at_130) rfl (l' := #[.val (.int p0), .val (.long q1), .second, .val (.int p2), .val (.int p3), .val (.int p4), .val (.long q5), .second, .val (.int (2 : Int32)), .val (.int (2 : Int32)), .val (.ref b106), .val (.int ((f3_12 (0 : Int32)) &&& 1)), .val (.int ((f3_12 (((1 : Nat) + 1).toInt32)) &&& 1)), .val (.int ((f3_12 ((0 : Nat).toInt32)) &&& 1))]) rfl ?_
        show Steps p.tables e below (T132.setTop (mkF m 132 #[.val (.int p0), .val (.long q1), .second, .val (.int p2), .val (.int p3), .val (.int p4), .val (.long q5), .second, .val (.int (2 : Int32)), .val (.int (2 : Int32)), .val (.ref b106), .val (.int ((f3_12 (0 : Int32)) &&& 1)), .val (.int ((f3_12 (((1 : Nat) + 1).toInt32)) &&& 1)), .val (.int ((f3_12 ((0 : Nat).toInt32)) &&& 1))] [])) _
        refine XS.iload X132.here hx rfl (hb hby at_132) rfl ?_
        show Steps p.tables e below (T132.setTop (mkF m 134 #[.val (.int p0), .val (.long q1), .second, .val (.int p2), .val (.int p3), .val (.int p4), .val (.long q5), .second, .val (.int (2 : Int32)), .val (.int (2 : Int32)), .val (.ref b106), .val (.int ((f3_12 (0 : Int32)) &&& 1)), .val (.int ((f3_12 (((1 : Nat) + 1).toInt32)) &&& 1)), .val (.int ((f3_12 ((0 : Nat).toInt32)) &&& 1))] [(.int ((f3_12 (0 : Int32)) &&& 1))])) _
        refine XS.ifNo X132.here hx rfl (hb hby at_134) rfl ((if0 _ _).trans (feq (show ¬ (((f3_12 (0 : Int32)) &&& 1) = (0 : Int32)) from by decide)).1) ?_
        show Steps p.tables e below (T132.setTop (mkF m 137 #[.val (.int p0), .val (.long q1), .second, .val (.int p2), .val (.int p3), .val (.int p4), .val (.long q5), .second, .val (.int (2 : Int32)), .val (.int (2 : Int32)), .val (.ref b106), .val (.int ((f3_12 (0 : Int32)) &&& 1)), .val (.int ((f3_12 (((1 : Nat) + 1).toInt32)) &&& 1)), .val (.int ((f3_12 ((0 : Nat).toInt32)) &&& 1))] [])) _
        refine XS.iload X132.here hx rfl (hb hby at_137) rfl ?_
        show Steps p.tables e below (T132.setTop (mkF m 139 #[.val (.int p0), .val (.long q1), .second, .val (.int p2), .val (.int p3), .val (.int p4), .val (.long q5), .second, .val (.int (2 : Int32)), .val (.int (2 : Int32)), .val (.ref b106), .val (.int ((f3_12 (0 : Int32)) &&& 1)), .val (.int ((f3_12 (((1 : Nat) + 1).toInt32)) &&& 1)), .val (.int ((f3_12 ((0 : Nat).toInt32)) &&& 1))] [(.int ((f3_12 (((1 : Nat) + 1).toInt32)) &&& 1))])) _
        refine XS.iload X132.here hx rfl (hb hby at_139) rfl ?_
        show Steps p.tables e below (T132.setTop (mkF m 141 #[.val (.int p0), .val (.long q1), .second, .val (.int p2), .val (.int p3), .val (.int p4), .val (.long q5), .second, .val (.int (2 : Int32)), .val (.int (2 : Int32)), .val (.ref b106), .val (.int ((f3_12 (0 : Int32)) &&& 1)), .val (.int ((f3_12 (((1 : Nat) + 1).toInt32)) &&& 1)), .val (.int ((f3_12 ((0 : Nat).toInt32)) &&& 1))] [(.int (2 : Int32)), (.int ((f3_12 (((1 : Nat) + 1).toInt32)) &&& 1))])) _
        refine XS.ifYes X132.here hx rfl (pc0 := 141) (pc' := 148) rfl (hb hby at_141) rfl ((if0 _ _).trans (feq (show ¬ ((2 : Int32) = (0 : Int32)) by decide)).2) (by decide) (by decide) ?_
        show Steps p.tables e below (T132.setTop (mkF m 148 #[.val (.int p0), .val (.long q1), .second, .val (.int p2), .val (.int p3), .val (.int p4), .val (.long q5), .second, .val (.int (2 : Int32)), .val (.int (2 : Int32)), .val (.ref b106), .val (.int ((f3_12 (0 : Int32)) &&& 1)), .val (.int ((f3_12 (((1 : Nat) + 1).toInt32)) &&& 1)), .val (.int ((f3_12 ((0 : Nat).toInt32)) &&& 1))] [(.int ((f3_12 (((1 : Nat) + 1).toInt32)) &&& 1))])) _
        refine XS.iconst X132.here hx rfl (hb hby at_148) ?_
        show Steps p.tables e below (T132.setTop (mkF m 149 #[.val (.int p0), .val (.long q1), .second, .val (.int p2), .val (.int p3), .val (.int p4), .val (.long q5), .second, .val (.int (2 : Int32)), .val (.int (2 : Int32)), .val (.ref b106), .val (.int ((f3_12 (0 : Int32)) &&& 1)), .val (.int ((f3_12 (((1 : Nat) + 1).toInt32)) &&& 1)), .val (.int ((f3_12 ((0 : Nat).toInt32)) &&& 1))] [(.int (0 : Int32)), (.int ((f3_12 (((1 : Nat) + 1).toInt32)) &&& 1))])) _
        refine XS.icmpNo X132.here hx rfl (hb hby at_149) rfl (teq (show ((f3_12 (((1 : Nat) + 1).toInt32)) &&& 1) = (0 : Int32) from by decide)).2 ?_
        show Steps p.tables e below (T132.setTop (mkF m 152 #[.val (.int p0), .val (.long q1), .second, .val (.int p2), .val (.int p3), .val (.int p4), .val (.long q5), .second, .val (.int (2 : Int32)), .val (.int (2 : Int32)), .val (.ref b106), .val (.int ((f3_12 (0 : Int32)) &&& 1)), .val (.int ((f3_12 (((1 : Nat) + 1).toInt32)) &&& 1)), .val (.int ((f3_12 ((0 : Nat).toInt32)) &&& 1))] [])) _
        refine XS.iload X132.here hx rfl (hb hby at_152) rfl ?_
        show Steps p.tables e below (T132.setTop (mkF m 154 #[.val (.int p0), .val (.long q1), .second, .val (.int p2), .val (.int p3), .val (.int p4), .val (.long q5), .second, .val (.int (2 : Int32)), .val (.int (2 : Int32)), .val (.ref b106), .val (.int ((f3_12 (0 : Int32)) &&& 1)), .val (.int ((f3_12 (((1 : Nat) + 1).toInt32)) &&& 1)), .val (.int ((f3_12 ((0 : Nat).toInt32)) &&& 1))] [(.int ((f3_12 ((0 : Nat).toInt32)) &&& 1))])) _
        refine XS.iload X132.here hx rfl (hb hby at_154) rfl ?_
        show Steps p.tables e below (T132.setTop (mkF m 156 #[.val (.int p0), .val (.long q1), .second, .val (.int p2), .val (.int p3), .val (.int p4), .val (.long q5), .second, .val (.int (2 : Int32)), .val (.int (2 : Int32)), .val (.ref b106), .val (.int ((f3_12 (0 : Int32)) &&& 1)), .val (.int ((f3_12 (((1 : Nat) + 1).toInt32)) &&& 1)), .val (.int ((f3_12 ((0 : Nat).toInt32)) &&& 1))] [(.int (2 : Int32)), (.int ((f3_12 ((0 : Nat).toInt32)) &&& 1))])) _
        refine XS.iload X132.here hx rfl (hb hby at_156) rfl ?_
        show Steps p.tables e below (T132.setTop (mkF m 158 #[.val (.int p0), .val (.long q1), .second, .val (.int p2), .val (.int p3), .val (.int p4), .val (.long q5), .second, .val (.int (2 : Int32)), .val (.int (2 : Int32)), .val (.ref b106), .val (.int ((f3_12 (0 : Int32)) &&& 1)), .val (.int ((f3_12 (((1 : Nat) + 1).toInt32)) &&& 1)), .val (.int ((f3_12 ((0 : Nat).toInt32)) &&& 1))] [(.int (2 : Int32)), (.int (2 : Int32)), (.int ((f3_12 ((0 : Nat).toInt32)) &&& 1))])) _
        refine XS.icmpNo X132.here hx rfl (hb hby at_158) rfl (teq (show (2 : Int32) = (2 : Int32) by decide)).2 ?_
        show Steps p.tables e below (T132.setTop (mkF m 161 #[.val (.int p0), .val (.long q1), .second, .val (.int p2), .val (.int p3), .val (.int p4), .val (.long q5), .second, .val (.int (2 : Int32)), .val (.int (2 : Int32)), .val (.ref b106), .val (.int ((f3_12 (0 : Int32)) &&& 1)), .val (.int ((f3_12 (((1 : Nat) + 1).toInt32)) &&& 1)), .val (.int ((f3_12 ((0 : Nat).toInt32)) &&& 1))] [(.int ((f3_12 ((0 : Nat).toInt32)) &&& 1))])) _
        refine XS.iconst X132.here hx rfl (hb hby at_161) ?_
        show Steps p.tables e below (T132.setTop (mkF m 162 #[.val (.int p0), .val (.long q1), .second, .val (.int p2), .val (.int p3), .val (.int p4), .val (.long q5), .second, .val (.int (2 : Int32)), .val (.int (2 : Int32)), .val (.ref b106), .val (.int ((f3_12 (0 : Int32)) &&& 1)), .val (.int ((f3_12 (((1 : Nat) + 1).toInt32)) &&& 1)), .val (.int ((f3_12 ((0 : Nat).toInt32)) &&& 1))] [(.int (1 : Int32)), (.int ((f3_12 ((0 : Nat).toInt32)) &&& 1))])) _
        refine XS.goto X132.here hx rfl (pc0 := 162) (pc' := 166) rfl (hb hby at_162) (by decide) (by decide) ?_
        show Steps p.tables e below (T132.setTop (mkF m 166 #[.val (.int p0), .val (.long q1), .second, .val (.int p2), .val (.int p3), .val (.int p4), .val (.long q5), .second, .val (.int (2 : Int32)), .val (.int (2 : Int32)), .val (.ref b106), .val (.int ((f3_12 (0 : Int32)) &&& 1)), .val (.int ((f3_12 (((1 : Nat) + 1).toInt32)) &&& 1)), .val (.int ((f3_12 ((0 : Nat).toInt32)) &&& 1))] [(.int (1 : Int32)), (.int ((f3_12 ((0 : Nat).toInt32)) &&& 1))])) _
        refine XS.icmpNo X132.here hx rfl (hb hby at_166) rfl (teq (show ((f3_12 ((0 : Nat).toInt32)) &&& 1) = (1 : Int32) from by decide)).2 ?_
        show Steps p.tables e below (T132.setTop (mkF m 169 #[.val (.int p0), .val (.long q1), .second, .val (.int p2), .val (.int p3), .val (.int p4), .val (.long q5), .second, .val (.int (2 : Int32)), .val (.int (2 : Int32)), .val (.ref b106), .val (.int ((f3_12 (0 : Int32)) &&& 1)), .val (.int ((f3_12 (((1 : Nat) + 1).toInt32)) &&& 1)), .val (.int ((f3_12 ((0 : Nat).toInt32)) &&& 1))] [])) _
        refine XS.iconst X132.here hx rfl (hb hby at_169) ?_
        show Steps p.tables e below (T132.setTop (mkF m 170 #[.val (.int p0), .val (.long q1), .second, .val (.int p2), .val (.int p3), .val (.int p4), .val (.long q5), .second, .val (.int (2 : Int32)), .val (.int (2 : Int32)), .val (.ref b106), .val (.int ((f3_12 (0 : Int32)) &&& 1)), .val (.int ((f3_12 (((1 : Nat) + 1).toInt32)) &&& 1)), .val (.int ((f3_12 ((0 : Nat).toInt32)) &&& 1))] [(.int (1 : Int32))])) _
        refine XS.goto X132.here hx rfl (pc0 := 170) (pc' := 174) rfl (hb hby at_170) (by decide) (by decide) ?_
        show Steps p.tables e below (T132.setTop (mkF m 174 #[.val (.int p0), .val (.long q1), .second, .val (.int p2), .val (.int p3), .val (.int p4), .val (.long q5), .second, .val (.int (2 : Int32)), .val (.int (2 : Int32)), .val (.ref b106), .val (.int ((f3_12 (0 : Int32)) &&& 1)), .val (.int ((f3_12 (((1 : Nat) + 1).toInt32)) &&& 1)), .val (.int ((f3_12 ((0 : Nat).toInt32)) &&& 1))] [(.int (1 : Int32))])) _
        exact k)
      obtain ⟨fs, hr, hrun, hended, hW, hsame⟩ := X132.leave (v := some (.int (1 : Int32))) (fun h => by rw [Bd.returns] at h; cases h)
      refine ⟨_, _, pre133 _ ?_, hrun, hended, _, _, rfl, ?_, ⟨_, rfl⟩, hW, hsame.mono (by decide) (by decide)⟩
      · exact retN X132 hx (t := .boolean) Bd.returns (by simp) (hb hby at_174) hr
      · show Q0 Z p0 q1 p2 p3 p4 q5 h0 n0 _ T132.heap _
        rw [hh132]
        exact ⟨rfl, N132⟩
  · have pre134 : ∀ t, Steps p.tables e below (s₁.setTop (mkF m 6 #[.val (.int p0), .val (.long q1), .second, .val (.int p2), .val (.int p3), .val (.int p4), .val (.long q5), .second, .val (.int (3 : Int32)), .unset, .unset, .unset, .unset, .unset] [])) t → Steps p.tables e below (s₁.setTop (entryFrame m #[(.int p0), (.long q1), (.int p2), (.int p3), (.int p4), (.long q5)] maxLocals)) t := fun t k => pre1 t (by rw [hk]; exact k)
    have pre135 : ∀ t, Steps p.tables e below (s₁.setTop (mkF m 18 #[.val (.int p0), .val (.long q1), .second, .val (.int p2), .val (.int p3), .val (.int p4), .val (.long q5), .second, .val (.int (3 : Int32)), .val (.int ((p4 &&& (2147483647 : Int32)) % (4 : Int32))), .unset, .unset, .unset, .unset] [])) t → Steps p.tables e below (s₁.setTop (entryFrame m #[(.int p0), (.long q1), (.int p2), (.int p3), (.int p4), (.long q5)] maxLocals)) t := fun t k => pre134 t (by
      show Steps p.tables e below (s₁.setTop (mkF m 6 #[.val (.int p0), .val (.long q1), .second, .val (.int p2), .val (.int p3), .val (.int p4), .val (.long q5), .second, .val (.int (3 : Int32)), .unset, .unset, .unset, .unset, .unset] [])) _
      refine XS.iload X0.here hx rfl (hb hby at_6) rfl ?_
      show Steps p.tables e below (s₁.setTop (mkF m 8 #[.val (.int p0), .val (.long q1), .second, .val (.int p2), .val (.int p3), .val (.int p4), .val (.long q5), .second, .val (.int (3 : Int32)), .unset, .unset, .unset, .unset, .unset] [(.int p4)])) _
      refine X0.ldcInt hx hown (mvT hZ (hw _ (List.mem_of_getElem? (i := 0) rfl))) (g := (mkF m 8 #[.val (.int p0), .val (.long q1), .second, .val (.int p2), .val (.int p3), .val (.int p4), .val (.long q5), .second, .val (.int (3 : Int32)), .unset, .unset, .unset, .unset, .unset] [(.int p4)])) rfl (hb hby at_8) _ ?_
      show Steps p.tables e below (s₁.setTop (mkF m 10 #[.val (.int p0), .val (.long q1), .second, .val (.int p2), .val (.int p3), .val (.int p4), .val (.long q5), .second, .val (.int (3 : Int32)), .unset, .unset, .unset, .unset, .unset] [(.int (2147483647 : Int32)), (.int p4)])) _
      refine XS.iand X0.here hx rfl (hb hby at_10) rfl ?_
      show Steps p.tables e below (s₁.setTop (mkF m 11 #[.val (.int p0), .val (.long q1), .second, .val (.int p2), .val (.int p3), .val (.int p4), .val (.long q5), .second, .val (.int (3 : Int32)), .unset, .unset, .unset, .unset, .unset] [(.int (p4 &&& (2147483647 : Int32)))])) _
      refine XS.iload X0.here hx rfl (hb hby at_11) rfl ?_
      show Steps p.tables e below (s₁.setTop (mkF m 13 #[.val (.int p0), .val (.long q1), .second, .val (.int p2), .val (.int p3), .val (.int p4), .val (.long q5), .second, .val (.int (3 : Int32)), .unset, .unset, .unset, .unset, .unset] [(.int (3 : Int32)), (.int (p4 &&& (2147483647 : Int32)))])) _
      refine XS.iconst X0.here hx rfl (hb hby at_13) ?_
      show Steps p.tables e below (s₁.setTop (mkF m 14 #[.val (.int p0), .val (.long q1), .second, .val (.int p2), .val (.int p3), .val (.int p4), .val (.long q5), .second, .val (.int (3 : Int32)), .unset, .unset, .unset, .unset, .unset] [(.int (1 : Int32)), (.int (3 : Int32)), (.int (p4 &&& (2147483647 : Int32)))])) _
      refine XS.iadd X0.here hx rfl (hb hby at_14) rfl ?_
      show Steps p.tables e below (s₁.setTop (mkF m 15 #[.val (.int p0), .val (.long q1), .second, .val (.int p2), .val (.int p3), .val (.int p4), .val (.long q5), .second, .val (.int (3 : Int32)), .unset, .unset, .unset, .unset, .unset] [(.int (4 : Int32)), (.int (p4 &&& (2147483647 : Int32)))])) _
      refine iremM (g := (mkF m 15 #[.val (.int p0), .val (.long q1), .second, .val (.int p2), .val (.int p3), .val (.int p4), .val (.long q5), .second, .val (.int (3 : Int32)), .unset, .unset, .unset, .unset, .unset] [(.int (4 : Int32)), (.int (p4 &&& (2147483647 : Int32)))])) X0 hx rfl (hb hby at_15) rfl (by decide) ?_
      show Steps p.tables e below (s₁.setTop (mkF m 16 #[.val (.int p0), .val (.long q1), .second, .val (.int p2), .val (.int p3), .val (.int p4), .val (.long q5), .second, .val (.int (3 : Int32)), .unset, .unset, .unset, .unset, .unset] [(.int ((p4 &&& (2147483647 : Int32)) % (4 : Int32)))])) _
      refine XS.istore X0.here hx rfl (hb hby at_16) rfl (l' := #[.val (.int p0), .val (.long q1), .second, .val (.int p2), .val (.int p3), .val (.int p4), .val (.long q5), .second, .val (.int (3 : Int32)), .val (.int ((p4 &&& (2147483647 : Int32)) % (4 : Int32))), .unset, .unset, .unset, .unset]) rfl ?_
      show Steps p.tables e below (s₁.setTop (mkF m 18 #[.val (.int p0), .val (.long q1), .second, .val (.int p2), .val (.int p3), .val (.int p4), .val (.long q5), .second, .val (.int (3 : Int32)), .val (.int ((p4 &&& (2147483647 : Int32)) % (4 : Int32))), .unset, .unset, .unset, .unset] [])) _
      exact k)
    rcases own_rm4 p4 with hk | hk | hk | hk
    · have pre136 : ∀ t, Steps p.tables e below (s₁.setTop (mkF m 18 #[.val (.int p0), .val (.long q1), .second, .val (.int p2), .val (.int p3), .val (.int p4), .val (.long q5), .second, .val (.int (3 : Int32)), .val (.int (0 : Int32)), .unset, .unset, .unset, .unset] [])) t → Steps p.tables e below (s₁.setTop (entryFrame m #[(.int p0), (.long q1), (.int p2), (.int p3), (.int p4), (.long q5)] maxLocals)) t := fun t k => pre135 t (by rw [hk]; exact k)
      obtain ⟨T137, h137, X137, e137, Ex137, Ne137, D137, -, st137⟩ := newO X0 hx hZ hown (hw _ (List.mem_of_getElem? (i := 1) rfl)) (hw _ (List.mem_of_getElem? (i := 2) rfl)) (hw _ (List.mem_of_getElem? (i := 3) rfl)) e0 (g := (mkF m 18 #[.val (.int p0), .val (.long q1), .second, .val (.int p2), .val (.int p3), .val (.int p4), .val (.long q5), .second, .val (.int (3 : Int32)), .val (.int (0 : Int32)), .unset, .unset, .unset, .unset] [])) rfl (hb hby at_18) (by decide) (by decide)
      obtain ⟨b137, g137⟩ : ∃ z, z = h0.size := ⟨_, rfl⟩
      rw [← g137] at Ne137 D137 st137
      have g_b137 : n0 ≤ b137 := Nat.le_trans (Nat.le_trans Z0 (Nat.le_refl _)) (Nat.le_of_eq g137.symm)
      have sz_b137 : h0.size ≤ b137 := Nat.le_trans (Nat.le_refl _) (Nat.le_of_eq g137.symm)
      have SZ139 : h0.size ≤ h137.size := Nat.le_trans (Nat.le_refl _) Ex137.1
      have ZZ139 : n0 ≤ h137.size := Nat.le_trans Z0 SZ139
      have K140 : Keep h0 h137 [] := ((Keep.refl h0 [])).ext Ex137
      have F_ranks_b137_137 : Fld Z h137 b137 "com/example/brisk_maze/briskmaze/search/RankedFrontier" "ranks" "[J" .null := D137 (Or.inl (hw _ (List.mem_of_getElem? (i := 12) rfl))) (ty := (.array .long)) (by decide)
      have F_costs_b137_137 : Fld Z h137 b137 "com/example/brisk_maze/briskmaze/search/RankedFrontier" "costs" "[I" .null := D137 (Or.inl (hw _ (List.mem_of_getElem? (i := 15) rfl))) (ty := (.array .int)) (by decide)
      have F_states_b137_137 : Fld Z h137 b137 "com/example/brisk_maze/briskmaze/search/RankedFrontier" "states" "[I" .null := D137 (Or.inl (hw _ (List.mem_of_getElem? (i := 17) rfl))) (ty := (.array .int)) (by decide)
      have F_size_b137_137 : Fld Z h137 b137 "com/example/brisk_maze/briskmaze/search/RankedFrontier" "size" "I" (.int (0 : Int32)) := D137 (Or.inl (hw _ (List.mem_of_getElem? (i := 24) rfl))) (ty := .int) (by decide)
      obtain ⟨_, _, ⟨T141, L141, k141, n141⟩, -, X141, ⟨Lc141, hQ141, l141, y141, z141⟩, st141⟩ := X137.specialBack hx (y := (⟨"com/example/brisk_maze/briskmaze/search/RankedFrontier", "<init>", "()V"⟩ : MethodName)) rfl hown (mvT hZ (hw _ (List.mem_of_getElem? (i := 4) rfl))) (mvT hZ (hw _ (List.mem_of_getElem? (i := 5) rfl))) (mvT hZ (hw _ (List.mem_of_getElem? (i := 6) rfl))) (by decide) (backOf (W := 1) (rm1 l Z a0 hw [] b137 h137 n0 ZZ139 F_ranks_b137_137 F_costs_b137_137 F_states_b137_137 Ne137 F_size_b137_137 g_b137) hZ (hw _ (List.mem_of_getElem? (i := 6) rfl)) (hw _ (List.mem_of_getElem? (i := 3) rfl)) (by decide) (by decide)) (g := (mkF m 22 #[.val (.int p0), .val (.long q1), .second, .val (.int p2), .val (.int p3), .val (.int p4), .val (.long q5), .second, .val (.int (3 : Int32)), .val (.int (0 : Int32)), .unset, .unset, .unset, .unset] [(.ref b137), (.ref b137)])) rfl (by rw [hml]; rfl) (Steps.refl _) (a := b137) (argsL := []) (rest := [(.ref b137)]) (lenOf pd_4 rfl) rfl (by show 2 * 0 + _ ≤ _; exact Nat.le_of_eq rfl) (hb hby at_22) (fun _ _ => ⟨rfl, e137, (by decide : 1 + 3 ≤ _), (by decide : 4 + 192 ≤ _)⟩)
      dsimp only [Pt.U, Pt.locs, Pt.cells, Pt.slots] at X141 l141 y141 z141 st141 hQ141
      subst l141 y141 z141
      obtain ⟨tr_141, tc_141, ts_141, rfl, N141q, Kc141, sz_tr_141, sz_tc_141, sz_ts_141, ne_tr_tc_141, ne_tr_ts_141, ne_tc_ts_141, P141_0, P141_1, P141_2, P141_3, P141_4, P141_5, P141_6⟩ := hQ141
      have N141 := Fr.app N0 N141q
      have E_b137_142 : Exa Z T141.heap b137 "com/example/brisk_maze/briskmaze/search/RankedFrontier" := (Ne137).keep Kc141
      have SZ143 : h0.size ≤ T141.heap.size := Nat.le_trans SZ139 Kc141.1
      have ZZ143 : n0 ≤ T141.heap.size := Nat.le_trans Z0 SZ143
      have K144 : Keep h0 T141.heap [] := (K140).trans Kc141 (allS (Or.inr sz_b137) all0)
      have ne_b137_tr_141 : b137 ≠ tr_141 := Nat.ne_of_lt (Nat.lt_of_lt_of_le (Ne137).lt sz_tr_141)
      have g_tr_141 : n0 ≤ tr_141 := Nat.le_trans (Nat.le_trans Z0 SZ139) sz_tr_141
      have szz_tr_141 : h0.size ≤ tr_141 := Nat.le_trans SZ139 sz_tr_141
      have ne_b137_tc_141 : b137 ≠ tc_141 := Nat.ne_of_lt (Nat.lt_of_lt_of_le (Ne137).lt sz_tc_141)
      have g_tc_141 : n0 ≤ tc_141 := Nat.le_trans (Nat.le_trans Z0 SZ139) sz_tc_141
      have szz_tc_141 : h0.size ≤ tc_141 := Nat.le_trans SZ139 sz_tc_141
      have ne_b137_ts_141 : b137 ≠ ts_141 := Nat.ne_of_lt (Nat.lt_of_lt_of_le (Ne137).lt sz_ts_141)
      have g_ts_141 : n0 ≤ ts_141 := Nat.le_trans (Nat.le_trans Z0 SZ139) sz_ts_141
      have szz_ts_141 : h0.size ≤ ts_141 := Nat.le_trans SZ139 sz_ts_141
      obtain ⟨cq145, kq145, q145a, q145b, q145c⟩ := isOf hZ rfl (E_b137_142)
      obtain ⟨_, _, ⟨T145, L145, k145, n145⟩, -, X145, ⟨Lc145, hQ145, l145, y145, z145⟩, st145⟩ := X141.virtualBack hx (y := (⟨"com/example/brisk_maze/briskmaze/search/RankedFrontier", "isEmpty", "()Z"⟩ : MethodName)) (z := (⟨"com/example/brisk_maze/briskmaze/search/RankedFrontier", "isEmpty", "()Z"⟩ : MethodName)) hown (mvT hZ (hw _ (List.mem_of_getElem? (i := 18) rfl))) (mvT hZ (hw _ (List.mem_of_getElem? (i := 19) rfl))) (notFace_of_selects (args := #[]) (mvT hZ (hw _ (List.mem_of_getElem? (i := 21) rfl)))) (mvT hZ (hw _ (List.mem_of_getElem? (i := 21) rfl))) (mvT hZ (hw _ (List.mem_of_getElem? (i := 20) rfl))) (by decide) (backOf (W := 0) (rm3 l Z a0 hw [] b137 (0 : Int32) T141.heap n0 ZZ143 P141_3) hZ (hw _ (List.mem_of_getElem? (i := 22) rfl)) (hw _ (List.mem_of_getElem? (i := 3) rfl)) (by decide) (by decide)) q145a q145c (g := (mkF m 29 #[.val (.int p0), .val (.long q1), .second, .val (.int p2), .val (.int p3), .val (.int p4), .val (.long q5), .second, .val (.int (3 : Int32)), .val (.int (0 : Int32)), .val (.ref b137), .unset, .unset, .unset] [(.ref b137)])) rfl (by rw [hml]; rfl) (Steps.refl _) (argsL := []) (rest := []) (lenOf pd_5 rfl) rfl (by show 2 * 0 + _ ≤ _; exact Nat.le_of_eq rfl) (hb hby at_29) (fun _ _ => ⟨rfl, rfl, (by decide : 4 + 0 ≤ _), (by decide : 196 + 0 ≤ _)⟩)
      dsimp only [Pt.U, Pt.locs, Pt.cells, Pt.slots] at X145 l145 y145 z145 st145 hQ145
      subst l145 y145 z145
      obtain ⟨rfl, N145q, hh145⟩ := hQ145
      have N145 := Fr.app N141 N145q
      obtain ⟨cq146, kq146, q146a, q146b, q146c⟩ := isOf hZ hh145 (E_b137_142)
      obtain ⟨_, _, ⟨T146, L146, k146, n146⟩, -, X146, ⟨Lc146, hQ146, l146, y146, z146⟩, st146⟩ := X145.virtualBack hx (y := (⟨"com/example/brisk_maze/briskmaze/search/RankedFrontier", "add", "(IJI)V"⟩ : MethodName)) (z := (⟨"com/example/brisk_maze/briskmaze/search/RankedFrontier", "add", "(IJI)V"⟩ : MethodName)) hown (mvT hZ (hw _ (List.mem_of_getElem? (i := 25) rfl))) (mvT hZ (hw _ (List.mem_of_getElem? (i := 26) rfl))) (notFace_of_selects (args := #[]) (mvT hZ (hw _ (List.mem_of_getElem? (i := 28) rfl)))) (mvT hZ (hw _ (List.mem_of_getElem? (i := 28) rfl))) (mvT hZ (hw _ (List.mem_of_getElem? (i := 27) rfl))) (by decide) (backOf (W := 0) (rm4 l Z a0 hw [] b137 p0 q1 p2 tr_141 tc_141 ts_141 (fun _ => ((0 : Int64), (0 : Int32), (0 : Int32))) (0 : Nat) T141.heap n0 ZZ143 P141_0 P141_1 P141_2 E_b137_142 P141_3 P141_4 P141_5 P141_6 g_tr_141 g_tc_141 g_ts_141 g_b137 ne_b137_tr_141 ne_b137_tc_141 ne_b137_ts_141 ne_tr_tc_141 ne_tr_ts_141 ne_tc_ts_141 (by decide) (fun j _ j1 => absurd j1 (Nat.not_lt_zero _))) hZ (hw _ (List.mem_of_getElem? (i := 29) rfl)) (hw _ (List.mem_of_getElem? (i := 3) rfl)) (by decide) (by decide)) q146a q146c (g := (mkF m 45 #[.val (.int p0), .val (.long q1), .second, .val (.int p2), .val (.int p3), .val (.int p4), .val (.long q5), .second, .val (.int (3 : Int32)), .val (.int (0 : Int32)), .val (.ref b137), .val (.int ((f3_12 (0 : Int32)) &&& 1)), .unset, .unset] [(.int p2), (.long q1), (.int p0), (.ref b137)])) rfl (by rw [hml]; rfl) (Steps.refl _) (argsL := [(.int p0), (.long q1), (.int p2)]) (rest := []) (lenOf pd_6 rfl) rfl (by show 2 * 0 + _ ≤ _; exact Nat.le_of_eq rfl) (hb hby at_45) (fun _ _ => ⟨rfl, hh145, (by decide : 4 + 0 ≤ _), (by decide : 196 + 0 ≤ _)⟩)
      dsimp only [Pt.U, Pt.locs, Pt.cells, Pt.slots] at X146 l146 y146 z146 st146 hQ146
      subst l146 y146 z146
      obtain ⟨f2_146, rfl, N146q, Kc146, P146_0, P146_1, P146_2, P146_3, P146_4, P146_5, P146_6, P146_7, P146_8⟩ := hQ146
      have N146 := Fr.app N145 N146q
      have E_b137_147 : Exa Z T146.heap b137 "com/example/brisk_maze/briskmaze/search/RankedFrontier" := (E_b137_142).keep Kc146
      have SZ148 : h0.size ≤ T146.heap.size := Nat.le_trans SZ143 Kc146.1
      have ZZ148 : n0 ≤ T146.heap.size := Nat.le_trans Z0 SZ148
      have K149 : Keep h0 T146.heap [] := (K144).trans Kc146 (allS (Or.inr szz_tr_141) (allS (Or.inr szz_tc_141) (allS (Or.inr szz_ts_141) (allS (Or.inr sz_b137) all0))))
      obtain ⟨cq150, kq150, q150a, q150b, q150c⟩ := isOf hZ rfl (E_b137_147)
      obtain ⟨_, _, ⟨T150, L150, k150, n150⟩, -, X150, ⟨Lc150, hQ150, l150, y150, z150⟩, st150⟩ := X146.virtualBack hx (y := (⟨"com/example/brisk_maze/briskmaze/search/RankedFrontier", "add", "(IJI)V"⟩ : MethodName)) (z := (⟨"com/example/brisk_maze/briskmaze/search/RankedFrontier", "add", "(IJI)V"⟩ : MethodName)) hown (mvT hZ (hw _ (List.mem_of_getElem? (i := 25) rfl))) (mvT hZ (hw _ (List.mem_of_getElem? (i := 26) rfl))) (notFace_of_selects (args := #[]) (mvT hZ (hw _ (List.mem_of_getElem? (i := 28) rfl)))) (mvT hZ (hw _ (List.mem_of_getElem? (i := 28) rfl))) (mvT hZ (hw _ (List.mem_of_getElem? (i := 27) rfl))) (by decide) (backOf (W := 0) (rm4 l Z a0 hw [] b137 p2 q5 p0 tr_141 tc_141 ts_141 f2_146 (1 : Nat) T146.heap n0 ZZ148 P146_1 P146_2 P146_3 E_b137_147 P146_0 P146_4 P146_5 P146_6 g_tr_141 g_tc_141 g_ts_141 g_b137 ne_b137_tr_141 ne_b137_tc_141 ne_b137_ts_141 ne_tr_tc_141 ne_tr_ts_141 ne_tc_ts_141 (by decide) P146_7) hZ (hw _ (List.mem_of_getElem? (i := 29) rfl)) (hw _ (List.mem_of_getElem? (i := 3) rfl)) (by decide) (by decide)) q150a q150c (g := (mkF m 60 #[.val (.int p0), .val (.long q1), .second, .val (.int p2), .val (.int p3), .val (.int p4), .val (.long q5), .second, .val (.int (3 : Int32)), .val (.int (0 : Int32)), .val (.ref b137), .val (.int ((f3_12 (0 : Int32)) &&& 1)), .unset, .unset] [(.int p0), (.long q5), (.int p2), (.ref b137)])) rfl (by rw [hml]; rfl) (Steps.refl _) (argsL := [(.int p2), (.long q5), (.int p0)]) (rest := []) (lenOf pd_6 rfl) rfl (by show 2 * 0 + _ ≤ _; exact Nat.le_of_eq rfl) (hb hby at_60) (fun _ _ => ⟨rfl, rfl, (by decide : 4 + 0 ≤ _), (by decide : 196 + 0 ≤ _)⟩)
      dsimp only [Pt.U, Pt.locs, Pt.cells, Pt.slots] at X150 l150 y150 z150 st150 hQ150
      subst l150 y150 z150
      obtain ⟨f2_150, rfl, N150q, Kc150, P150_0, P150_1, P150_2, P150_3, P150_4, P150_5, P150_6, P150_7, P150_8⟩ := hQ150
      have N150 := Fr.app N146 N150q
      have E_b137_151 : Exa Z T150.heap b137 "com/example/brisk_maze/briskmaze/search/RankedFrontier" := (E_b137_147).keep Kc150
      have SZ152 : h0.size ≤ T150.heap.size := Nat.le_trans SZ148 Kc150.1
      have ZZ152 : n0 ≤ T150.heap.size := Nat.le_trans Z0 SZ152
      have K153 : Keep h0 T150.heap [] := (K149).trans Kc150 (allS (Or.inr szz_tr_141) (allS (Or.inr szz_tc_141) (allS (Or.inr szz_ts_141) (allS (Or.inr sz_b137) all0))))
      obtain ⟨cq154, kq154, q154a, q154b, q154c⟩ := isOf hZ rfl (E_b137_151)
      obtain ⟨_, _, ⟨T154, L154, k154, n154⟩, -, X154, ⟨Lc154, hQ154, l154, y154, z154⟩, st154⟩ := X150.virtualBack hx (y := (⟨"com/example/brisk_maze/briskmaze/search/RankedFrontier", "add", "(IJI)V"⟩ : MethodName)) (z := (⟨"com/example/brisk_maze/briskmaze/search/RankedFrontier", "add", "(IJI)V"⟩ : MethodName)) hown (mvT hZ (hw _ (List.mem_of_getElem? (i := 25) rfl))) (mvT hZ (hw _ (List.mem_of_getElem? (i := 26) rfl))) (notFace_of_selects (args := #[]) (mvT hZ (hw _ (List.mem_of_getElem? (i := 28) rfl)))) (mvT hZ (hw _ (List.mem_of_getElem? (i := 28) rfl))) (mvT hZ (hw _ (List.mem_of_getElem? (i := 27) rfl))) (by decide) (backOf (W := 0) (rm4 l Z a0 hw [] b137 p3 (q1 ^^^ q5) p4 tr_141 tc_141 ts_141 f2_150 (2 : Nat) T150.heap n0 ZZ152 P150_1 P150_2 P150_3 E_b137_151 P150_0 P150_4 P150_5 P150_6 g_tr_141 g_tc_141 g_ts_141 g_b137 ne_b137_tr_141 ne_b137_tc_141 ne_b137_ts_141 ne_tr_tc_141 ne_tr_ts_141 ne_tc_ts_141 (by decide) P150_7) hZ (hw _ (List.mem_of_getElem? (i := 29) rfl)) (hw _ (List.mem_of_getElem? (i := 3) rfl)) (by decide) (by decide)) q154a q154c (g := (mkF m 79 #[.val (.int p0), .val (.long q1), .second, .val (.int p2), .val (.int p3), .val (.int p4), .val (.long q5), .second, .val (.int (3 : Int32)), .val (.int (0 : Int32)), .val (.ref b137), .val (.int ((f3_12 (0 : Int32)) &&& 1)), .unset, .unset] [(.int p4), (.long (q1 ^^^ q5)), (.int p3), (.ref b137)])) rfl (by rw [hml]; rfl) (Steps.refl _) (argsL := [(.int p3), (.long (q1 ^^^ q5)), (.int p4)]) (rest := []) (lenOf pd_6 rfl) rfl (by show 2 * 0 + _ ≤ _; exact Nat.le_of_eq rfl) (hb hby at_79) (fun _ _ => ⟨rfl, rfl, (by decide : 4 + 0 ≤ _), (by decide : 196 + 0 ≤ _)⟩)
      dsimp only [Pt.U, Pt.locs, Pt.cells, Pt.slots] at X154 l154 y154 z154 st154 hQ154
      subst l154 y154 z154
      obtain ⟨f2_154, rfl, N154q, Kc154, P154_0, P154_1, P154_2, P154_3, P154_4, P154_5, P154_6, P154_7, P154_8⟩ := hQ154
      have N154 := Fr.app N150 N154q
      have E_b137_155 : Exa Z T154.heap b137 "com/example/brisk_maze/briskmaze/search/RankedFrontier" := (E_b137_151).keep Kc154
      have SZ156 : h0.size ≤ T154.heap.size := Nat.le_trans SZ152 Kc154.1
      have ZZ156 : n0 ≤ T154.heap.size := Nat.le_trans Z0 SZ156
      have K157 : Keep h0 T154.heap [] := (K153).trans Kc154 (allS (Or.inr szz_tr_141) (allS (Or.inr szz_tc_141) (allS (Or.inr szz_ts_141) (allS (Or.inr sz_b137) all0))))
      obtain ⟨cq158, kq158, q158a, q158b, q158c⟩ := isOf hZ rfl (E_b137_155)
      obtain ⟨_, _, ⟨T158, L158, k158, n158⟩, -, X158, ⟨Lc158, hQ158, l158, y158, z158⟩, st158⟩ := X154.virtualBack hx (y := (⟨"com/example/brisk_maze/briskmaze/search/RankedFrontier", "isEmpty", "()Z"⟩ : MethodName)) (z := (⟨"com/example/brisk_maze/briskmaze/search/RankedFrontier", "isEmpty", "()Z"⟩ : MethodName)) hown (mvT hZ (hw _ (List.mem_of_getElem? (i := 18) rfl))) (mvT hZ (hw _ (List.mem_of_getElem? (i := 19) rfl))) (notFace_of_selects (args := #[]) (mvT hZ (hw _ (List.mem_of_getElem? (i := 21) rfl)))) (mvT hZ (hw _ (List.mem_of_getElem? (i := 21) rfl))) (mvT hZ (hw _ (List.mem_of_getElem? (i := 20) rfl))) (by decide) (backOf (W := 0) (rm3 l Z a0 hw [] b137 (((2 : Nat) + 1).toInt32) T154.heap n0 ZZ156 P154_0) hZ (hw _ (List.mem_of_getElem? (i := 22) rfl)) (hw _ (List.mem_of_getElem? (i := 3) rfl)) (by decide) (by decide)) q158a q158c (g := (mkF m 84 #[.val (.int p0), .val (.long q1), .second, .val (.int p2), .val (.int p3), .val (.int p4), .val (.long q5), .second, .val (.int (3 : Int32)), .val (.int (0 : Int32)), .val (.ref b137), .val (.int ((f3_12 (0 : Int32)) &&& 1)), .unset, .unset] [(.ref b137)])) rfl (by rw [hml]; rfl) (Steps.refl _) (argsL := []) (rest := []) (lenOf pd_5 rfl) rfl (by show 2 * 0 + _ ≤ _; exact Nat.le_of_eq rfl) (hb hby at_84) (fun _ _ => ⟨rfl, rfl, (by decide : 4 + 0 ≤ _), (by decide : 196 + 0 ≤ _)⟩)
      dsimp only [Pt.U, Pt.locs, Pt.cells, Pt.slots] at X158 l158 y158 z158 st158 hQ158
      subst l158 y158 z158
      obtain ⟨rfl, N158q, hh158⟩ := hQ158
      have N158 := Fr.app N154 N158q
      obtain ⟨cq159, kq159, q159a, q159b, q159c⟩ := isOf hZ hh158 (E_b137_155)
      obtain ⟨_, _, ⟨T159, L159, k159, n159⟩, -, X159, ⟨Lc159, hQ159, l159, y159, z159⟩, st159⟩ := X158.virtualBack hx (y := (⟨"com/example/brisk_maze/briskmaze/search/RankedFrontier", "isEmpty", "()Z"⟩ : MethodName)) (z := (⟨"com/example/brisk_maze/briskmaze/search/RankedFrontier", "isEmpty", "()Z"⟩ : MethodName)) hown (mvT hZ (hw _ (List.mem_of_getElem? (i := 18) rfl))) (mvT hZ (hw _ (List.mem_of_getElem? (i := 19) rfl))) (notFace_of_selects (args := #[]) (mvT hZ (hw _ (List.mem_of_getElem? (i := 21) rfl)))) (mvT hZ (hw _ (List.mem_of_getElem? (i := 21) rfl))) (mvT hZ (hw _ (List.mem_of_getElem? (i := 20) rfl))) (by decide) (backOf (W := 0) (rm3 l Z a0 hw [] b137 (((2 : Nat) + 1).toInt32) T154.heap n0 ZZ156 P154_0) hZ (hw _ (List.mem_of_getElem? (i := 22) rfl)) (hw _ (List.mem_of_getElem? (i := 3) rfl)) (by decide) (by decide)) q159a q159c (g := (mkF m 127 #[.val (.int p0), .val (.long q1), .second, .val (.int p2), .val (.int p3), .val (.int p4), .val (.long q5), .second, .val (.int (3 : Int32)), .val (.int (0 : Int32)), .val (.ref b137), .val (.int ((f3_12 (0 : Int32)) &&& 1)), .val (.int ((f3_12 (((2 : Nat) + 1).toInt32)) &&& 1)), .unset] [(.ref b137)])) rfl (by rw [hml]; rfl) (Steps.refl _) (argsL := []) (rest := []) (lenOf pd_5 rfl) rfl (by show 2 * 0 + _ ≤ _; exact Nat.le_of_eq rfl) (hb hby at_127) (fun _ _ => ⟨rfl, hh158, (by decide : 4 + 0 ≤ _), (by decide : 196 + 0 ≤ _)⟩)
      dsimp only [Pt.U, Pt.locs, Pt.cells, Pt.slots] at X159 l159 y159 z159 st159 hQ159
      subst l159 y159 z159
      obtain ⟨rfl, N159q, hh159⟩ := hQ159
      have N159 := Fr.app N158 N159q
      have pre160 : ∀ t, Steps p.tables e below (T159.setTop (mkF m 174 #[.val (.int p0), .val (.long q1), .second, .val (.int p2), .val (.int p3), .val (.int p4), .val (.long q5), .second, .val (.int (3 : Int32)), .val (.int (0 : Int32)), .val (.ref b137), .val (.int ((f3_12 (0 : Int32)) &&& 1)), .val (.int ((f3_12 (((2 : Nat) + 1).toInt32)) &&& 1)), .val (.int ((f3_12 (((2 : Nat) + 1).toInt32)) &&& 1))] [(.int (1 : Int32))])) t → Steps p.tables e below (s₁.setTop (entryFrame m #[(.int p0), (.long q1), (.int p2), (.int p3), (.int p4), (.long q5)] maxLocals)) t := fun t k => pre136 t (by
        show Steps p.tables e below (s₁.setTop (mkF m 18 #[.val (.int p0), .val (.long q1), .second, .val (.int p2), .val (.int p3), .val (.int p4), .val (.long q5), .second, .val (.int (3 : Int32)), .val (.int (0 : Int32)), .unset, .unset, .unset, .unset] [])) _
        refine st137 _ ?_
        show Steps p.tables e below (T137.setTop (mkF m 21 #[.val (.int p0), .val (.long q1), .second, .val (.int p2), .val (.int p3), .val (.int p4), .val (.long q5), .second, .val (.int (3 : Int32)), .val (.int (0 : Int32)), .unset, .unset, .unset, .unset] [(.ref b137)])) _
        refine XS.dup X137.here hx rfl (hb hby at_21) rfl rfl ?_
        show Steps p.tables e below (T137.setTop (mkF m 22 #[.val (.int p0), .val (.long q1), .second, .val (.int p2), .val (.int p3), .val (.int p4), .val (.long q5), .second, .val (.int (3 : Int32)), .val (.int (0 : Int32)), .unset, .unset, .unset, .unset] [(.ref b137), (.ref b137)])) _
        refine st141.trans ?_
        show Steps p.tables e below (T141.setTop (mkF m 25 #[.val (.int p0), .val (.long q1), .second, .val (.int p2), .val (.int p3), .val (.int p4), .val (.long q5), .second, .val (.int (3 : Int32)), .val (.int (0 : Int32)), .unset, .unset, .unset, .unset] [(.ref b137)])) _
        refine XS.astore X141.here hx rfl (hb hby at_25) rfl rfl (l' := #[.val (.int p0), .val (.long q1), .second, .val (.int p2), .val (.int p3), .val (.int p4), .val (.long q5), .second, .val (.int (3 : Int32)), .val (.int (0 : Int32)), .val (.ref b137), .unset, .unset, .unset]) rfl ?_
        show Steps p.tables e below (T141.setTop (mkF m 27 #[.val (.int p0), .val (.long q1), .second, .val (.int p2), .val (.int p3), .val (.int p4), .val (.long q5), .second, .val (.int (3 : Int32)), .val (.int (0 : Int32)), .val (.ref b137), .unset, .unset, .unset] [])) _
        refine XS.aload X141.here hx rfl (hb hby at_27) rfl rfl ?_
        show Steps p.tables e below (T141.setTop (mkF m 29 #[.val (.int p0), .val (.long q1), .second, .val (.int p2), .val (.int p3), .val (.int p4), .val (.long q5), .second, .val (.int (3 : Int32)), .val (.int (0 : Int32)), .val (.ref b137), .unset, .unset, .unset] [(.ref b137)])) _
        refine st145.trans ?_
        show Steps p.tables e below (T145.setTop (mkF m 32 #[.val (.int p0), .val (.long q1), .second, .val (.int p2), .val (.int p3), .val (.int p4), .val (.long q5), .second, .val (.int (3 : Int32)), .val (.int (0 : Int32)), .val (.ref b137), .unset, .unset, .unset] [(.int ((f3_12 (0 : Int32)) &&& 1))])) _
        refine XS.istore X145.here hx rfl (hb hby at_32) rfl (l' := #[.val (.int p0), .val (.long q1), .second, .val (.int p2), .val (.int p3), .val (.int p4), .val (.long q5), .second, .val (.int (3 : Int32)), .val (.int (0 : Int32)), .val (.ref b137), .val (.int ((f3_12 (0 : Int32)) &&& 1)), .unset, .unset]) rfl ?_
        show Steps p.tables e below (T145.setTop (mkF m 34 #[.val (.int p0), .val (.long q1), .second, .val (.int p2), .val (.int p3), .val (.int p4), .val (.long q5), .second, .val (.int (3 : Int32)), .val (.int (0 : Int32)), .val (.ref b137), .val (.int ((f3_12 (0 : Int32)) &&& 1)), .unset, .unset] [])) _
        refine XS.iload X145.here hx rfl (hb hby at_34) rfl ?_
        show Steps p.tables e below (T145.setTop (mkF m 36 #[.val (.int p0), .val (.long q1), .second, .val (.int p2), .val (.int p3), .val (.int p4), .val (.long q5), .second, .val (.int (3 : Int32)), .val (.int (0 : Int32)), .val (.ref b137), .val (.int ((f3_12 (0 : Int32)) &&& 1)), .unset, .unset] [(.int (3 : Int32))])) _
        refine XS.iconst X145.here hx rfl (hb hby at_36) ?_
        show Steps p.tables e below (T145.setTop (mkF m 37 #[.val (.int p0), .val (.long q1), .second, .val (.int p2), .val (.int p3), .val (.int p4), .val (.long q5), .second, .val (.int (3 : Int32)), .val (.int (0 : Int32)), .val (.ref b137), .val (.int ((f3_12 (0 : Int32)) &&& 1)), .unset, .unset] [(.int (1 : Int32)), (.int (3 : Int32))])) _
        refine XS.icmpNo X145.here hx rfl (hb hby at_37) rfl (flt (show ¬ ((3 : Int32) < (1 : Int32)) by decide)).1 ?_
        show Steps p.tables e below (T145.setTop (mkF m 40 #[.val (.int p0), .val (.long q1), .second, .val (.int p2), .val (.int p3), .val (.int p4), .val (.long q5), .second, .val (.int (3 : Int32)), .val (.int (0 : Int32)), .val (.ref b137), .val (.int ((f3_12 (0 : Int32)) &&& 1)), .unset, .unset] [])) _
        refine XS.aload X145.here hx rfl (hb hby at_40) rfl rfl ?_
        show Steps p.tables e below (T145.setTop (mkF m 42 #[.val (.int p0), .val (.long q1), .second, .val (.int p2), .val (.int p3), .val (.int p4), .val (.long q5), .second, .val (.int (3 : Int32)), .val (.int (0 : Int32)), .val (.ref b137), .val (.int ((f3_12 (0 : Int32)) &&& 1)), .unset, .unset] [(.ref b137)])) _
        refine XS.iloadN X145.here hx rfl (hb hby at_42) rfl ?_
        show Steps p.tables e below (T145.setTop (mkF m 43 #[.val (.int p0), .val (.long q1), .second, .val (.int p2), .val (.int p3), .val (.int p4), .val (.long q5), .second, .val (.int (3 : Int32)), .val (.int (0 : Int32)), .val (.ref b137), .val (.int ((f3_12 (0 : Int32)) &&& 1)), .unset, .unset] [(.int p0), (.ref b137)])) _
        refine XS.lloadN X145.here hx rfl (hb hby at_43) rfl ?_
        show Steps p.tables e below (T145.setTop (mkF m 44 #[.val (.int p0), .val (.long q1), .second, .val (.int p2), .val (.int p3), .val (.int p4), .val (.long q5), .second, .val (.int (3 : Int32)), .val (.int (0 : Int32)), .val (.ref b137), .val (.int ((f3_12 (0 : Int32)) &&& 1)), .unset, .unset] [(.long q1), (.int p0), (.ref b137)])) _
        refine XS.iloadN X145.here hx rfl (hb hby at_44) rfl ?_
        show Steps p.tables e below (T145.setTop (mkF m 45 #[.val (.int p0), .val (.long q1), .second, .val (.int p2), .val (.int p3), .val (.int p4), .val (.long q5), .second, .val (.int (3 : Int32)), .val (.int (0 : Int32)), .val (.ref b137), .val (.int ((f3_12 (0 : Int32)) &&& 1)), .unset, .unset] [(.int p2), (.long q1), (.int p0), (.ref b137)])) _
        refine st146.trans ?_
        show Steps p.tables e below (T146.setTop (mkF m 48 #[.val (.int p0), .val (.long q1), .second, .val (.int p2), .val (.int p3), .val (.int p4), .val (.long q5), .second, .val (.int (3 : Int32)), .val (.int (0 : Int32)), .val (.ref b137), .val (.int ((f3_12 (0 : Int32)) &&& 1)), .unset, .unset] [])) _
        refine XS.iload X146.here hx rfl (hb hby at_48) rfl ?_
        show Steps p.tables e below (T146.setTop (mkF m 50 #[.val (.int p0), .val (.long q1), .second, .val (.int p2), .val (.int p3), .val (.int p4), .val (.long q5), .second, .val (.int (3 : Int32)), .val (.int (0 : Int32)), .val (.ref b137), .val (.int ((f3_12 (0 : Int32)) &&& 1)), .unset, .unset] [(.int (3 : Int32))])) _
        refine XS.iconst X146.here hx rfl (hb hby at_50) ?_
        show Steps p.tables e below (T146.setTop (mkF m 51 #[.val (.int p0), .val (.long q1), .second, .val (.int p2), .val (.int p3), .val (.int p4), .val (.long q5), .second, .val (.int (3 : Int32)), .val (.int (0 : Int32)), .val (.ref b137), .val (.int ((f3_12 (0 : Int32)) &&& 1)), .unset, .unset] [(.int (2 : Int32)), (.int (3 : Int32))])) _
        refine XS.icmpNo X146.here hx rfl (hb hby at_51) rfl (flt (show ¬ ((3 : Int32) < (2 : Int32)) by decide)).1 ?_
        show Steps p.tables e below (T146.setTop (mkF m 54 #[.val (.int p0), .val (.long q1), .second, .val (.int p2), .val (.int p3), .val (.int p4), .val (.long q5), .second, .val (.int (3 : Int32)), .val (.int (0 : Int32)), .val (.ref b137), .val (.int ((f3_12 (0 : Int32)) &&& 1)), .unset, .unset] [])) _
        refine XS.aload X146.here hx rfl (hb hby at_54) rfl rfl ?_
        show Steps p.tables e below (T146.setTop (mkF m 56 #[.val (.int p0), .val (.long q1), .second, .val (.int p2), .val (.int p3), .val (.int p4), .val (.long q5), .second, .val (.int (3 : Int32)), .val (.int (0 : Int32)), .val (.ref b137), .val (.int ((f3_12 (0 : Int32)) &&& 1)), .unset, .unset] [(.ref b137)])) _
        refine XS.iloadN X146.here hx rfl (hb hby at_56) rfl ?_
        show Steps p.tables e below (T146.setTop (mkF m 57 #[.val (.int p0), .val (.long q1), .second, .val (.int p2), .val (.int p3), .val (.int p4), .val (.long q5), .second, .val (.int (3 : Int32)), .val (.int (0 : Int32)), .val (.ref b137), .val (.int ((f3_12 (0 : Int32)) &&& 1)), .unset, .unset] [(.int p2), (.ref b137)])) _
        refine XS.lload X146.here hx rfl (hb hby at_57) rfl ?_
        show Steps p.tables e below (T146.setTop (mkF m 59 #[.val (.int p0), .val (.long q1), .second, .val (.int p2), .val (.int p3), .val (.int p4), .val (.long q5), .second, .val (.int (3 : Int32)), .val (.int (0 : Int32)), .val (.ref b137), .val (.int ((f3_12 (0 : Int32)) &&& 1)), .unset, .unset] [(.long q5), (.int p2), (.ref b137)])) _
        refine XS.iloadN X146.here hx rfl (hb hby at_59) rfl ?_
        show Steps p.tables e below (T146.setTop (mkF m 60 #[.val (.int p0), .val (.long q1), .second, .val (.int p2), .val (.int p3), .val (.int p4), .val (.long q5), .second, .val (.int (3 : Int32)), .val (.int (0 : Int32)), .val (.ref b137), .val (.int ((f3_12 (0 : Int32)) &&& 1)), .unset, .unset] [(.int p0), (.long q5), (.int p2), (.ref b137)])) _
        refine st150.trans ?_
        show Steps p.tables e below (T150.setTop (mkF m 63 #[.val (.int p0), .val (.long q1), .second, .val (.int p2), .val (.int p3), .val (.int p4), .val (.long q5), .second, .val (.int (3 : Int32)), .val (.int (0 : Int32)), .val (.ref b137), .val (.int ((f3_12 (0 : Int32)) &&& 1)), .unset, .unset] [])) _
        refine XS.iload X150.here hx rfl (hb hby at_63) rfl ?_
        show Steps p.tables e below (T150.setTop (mkF m 65 #[.val (.int p0), .val (.long q1), .second, .val (.int p2), .val (.int p3), .val (.int p4), .val (.long q5), .second, .val (.int (3 : Int32)), .val (.int (0 : Int32)), .val (.ref b137), .val (.int ((f3_12 (0 : Int32)) &&& 1)), .unset, .unset] [(.int (3 : Int32))])) _
        refine XS.iconst X150.here hx rfl (hb hby at_65) ?_
        show Steps p.tables e below (T150.setTop (mkF m 66 #[.val (.int p0), .val (.long q1), .second, .val (.int p2), .val (.int p3), .val (.int p4), .val (.long q5), .second, .val (.int (3 : Int32)), .val (.int (0 : Int32)), .val (.ref b137), .val (.int ((f3_12 (0 : Int32)) &&& 1)), .unset, .unset] [(.int (3 : Int32)), (.int (3 : Int32))])) _
        refine XS.icmpNo X150.here hx rfl (hb hby at_66) rfl (flt (show ¬ ((3 : Int32) < (3 : Int32)) by decide)).1 ?_
        show Steps p.tables e below (T150.setTop (mkF m 69 #[.val (.int p0), .val (.long q1), .second, .val (.int p2), .val (.int p3), .val (.int p4), .val (.long q5), .second, .val (.int (3 : Int32)), .val (.int (0 : Int32)), .val (.ref b137), .val (.int ((f3_12 (0 : Int32)) &&& 1)), .unset, .unset] [])) _
        refine XS.aload X150.here hx rfl (hb hby at_69) rfl rfl ?_
        show Steps p.tables e below (T150.setTop (mkF m 71 #[.val (.int p0), .val (.long q1), .second, .val (.int p2), .val (.int p3), .val (.int p4), .val (.long q5), .second, .val (.int (3 : Int32)), .val (.int (0 : Int32)), .val (.ref b137), .val (.int ((f3_12 (0 : Int32)) &&& 1)), .unset, .unset] [(.ref b137)])) _
        refine XS.iload X150.here hx rfl (hb hby at_71) rfl ?_
        show Steps p.tables e below (T150.setTop (mkF m 73 #[.val (.int p0), .val (.long q1), .second, .val (.int p2), .val (.int p3), .val (.int p4), .val (.long q5), .second, .val (.int (3 : Int32)), .val (.int (0 : Int32)), .val (.ref b137), .val (.int ((f3_12 (0 : Int32)) &&& 1)), .unset, .unset] [(.int p3), (.ref b137)])) _
        refine XS.lloadN X150.here hx rfl (hb hby at_73) rfl ?_
        show Steps p.tables e below (T150.setTop (mkF m 74 #[.val (.int p0), .val (.long q1), .second, .val (.int p2), .val (.int p3), .val (.int p4), .val (.long q5), .second, .val (.int (3 : Int32)), .val (.int (0 : Int32)), .val (.ref b137), .val (.int ((f3_12 (0 : Int32)) &&& 1)), .unset, .unset] [(.long q1), (.int p3), (.ref b137)])) _
        refine XS.lload X150.here hx rfl (hb hby at_74) rfl ?_
        show Steps p.tables e below (T150.setTop (mkF m 76 #[.val (.int p0), .val (.long q1), .second, .val (.int p2), .val (.int p3), .val (.int p4), .val (.long q5), .second, .val (.int (3 : Int32)), .val (.int (0 : Int32)), .val (.ref b137), .val (.int ((f3_12 (0 : Int32)) &&& 1)), .unset, .unset] [(.long q5), (.long q1), (.int p3), (.ref b137)])) _
        refine XS.lxor X150.here hx rfl (hb hby at_76) rfl ?_
        show Steps p.tables e below (T150.setTop (mkF m 77 #[.val (.int p0), .val (.long q1), .second, .val (.int p2), .val (.int p3), .val (.int p4), .val (.long q5), .second, .val (.int (3 : Int32)), .val (.int (0 : Int32)), .val (.ref b137), .val (.int ((f3_12 (0 : Int32)) &&& 1)), .unset, .unset] [(.long (q1 ^^^ q5)), (.int p3), (.ref b137)])) _
        refine XS.iload X150.here hx rfl (hb hby at_77) rfl ?_
        show Steps p.tables e below (T150.setTop (mkF m 79 #[.val (.int p0), .val (.long q1), .second, .val (.int p2), .val (.int p3), .val (.int p4), .val (.long q5), .second, .val (.int (3 : Int32)), .val (.int (0 : Int32)), .val (.ref b137), .val (.int ((f3_12 (0 : Int32)) &&& 1)), .unset, .unset] [(.int p4), (.long (q1 ^^^ q5)), (.int p3), (.ref b137)])) _
        refine st154.trans ?_
        show Steps p.tables e below (T154.setTop (mkF m 82 #[.val (.int p0), .val (.long q1), .second, .val (.int p2), .val (.int p3), .val (.int p4), .val (.long q5), .second, .val (.int (3 : Int32)), .val (.int (0 : Int32)), .val (.ref b137), .val (.int ((f3_12 (0 : Int32)) &&& 1)), .unset, .unset] [])) _
        refine XS.aload X154.here hx rfl (hb hby at_82) rfl rfl ?_
        show Steps p.tables e below (T154.setTop (mkF m 84 #[.val (.int p0), .val (.long q1), .second, .val (.int p2), .val (.int p3), .val (.int p4), .val (.long q5), .second, .val (.int (3 : Int32)), .val (.int (0 : Int32)), .val (.ref b137), .val (.int ((f3_12 (0 : Int32)) &&& 1)), .unset, .unset] [(.ref b137)])) _
        refine st158.trans ?_
        show Steps p.tables e below (T158.setTop (mkF m 87 #[.val (.int p0), .val (.long q1), .second, .val (.int p2), .val (.int p3), .val (.int p4), .val (.long q5), .second, .val (.int (3 : Int32)), .val (.int (0 : Int32)), .val (.ref b137), .val (.int ((f3_12 (0 : Int32)) &&& 1)), .unset, .unset] [(.int ((f3_12 (((2 : Nat) + 1).toInt32)) &&& 1))])) _
        refine XS.istore X158.here hx rfl (hb hby at_87) rfl (l' := #[.val (.int p0), .val (.long q1), .second, .val (.int p2), .val (.int p3), .val (.int p4), .val (.long q5), .second, .val (.int (3 : Int32)), .val (.int (0 : Int32)), .val (.ref b137), .val (.int ((f3_12 (0 : Int32)) &&& 1)), .val (.int ((f3_12 (((2 : Nat) + 1).toInt32)) &&& 1)), .unset]) rfl ?_
        show Steps p.tables e below (T158.setTop (mkF m 89 #[.val (.int p0), .val (.long q1), .second, .val (.int p2), .val (.int p3), .val (.int p4), .val (.long q5), .second, .val (.int (3 : Int32)), .val (.int (0 : Int32)), .val (.ref b137), .val (.int ((f3_12 (0 : Int32)) &&& 1)), .val (.int ((f3_12 (((2 : Nat) + 1).toInt32)) &&& 1)), .unset] [])) _
        refine XS.iload X158.here hx rfl (hb hby at_89) rfl ?_
        show Steps p.tables e below (T158.setTop (mkF m 91 #[.val (.int p0), .val (.long q1), .second, .val (.int p2), .val (.int p3), .val (.int p4), .val (.long q5), .second, .val (.int (3 : Int32)), .val (.int (0 : Int32)), .val (.ref b137), .val (.int ((f3_12 (0 : Int32)) &&& 1)), .val (.int ((f3_12 (((2 : Nat) + 1).toInt32)) &&& 1)), .unset] [(.int (0 : Int32))])) _
        refine XS.iconst X158.here hx rfl (hb hby at_91) ?_
        show Steps p.tables e below (T158.setTop (mkF m 92 #[.val (.int p0), .val (.long q1), .second, .val (.int p2), .val (.int p3), .val (.int p4), .val (.long q5), .second, .val (.int (3 : Int32)), .val (.int (0 : Int32)), .val (.ref b137), .val (.int ((f3_12 (0 : Int32)) &&& 1)), .val (.int ((f3_12 (((2 : Nat) + 1).toInt32)) &&& 1)), .unset] [(.int (1 : Int32)), (.int (0 : Int32))])) _
        refine XS.icmpYes X158.here hx rfl (pc0 := 92) (pc' := 101) rfl (hb hby at_92) rfl (tlt (show (0 : Int32) < (1 : Int32) by decide)).1 (by decide) (by decide) ?_
        show Steps p.tables e below (T158.setTop (mkF m 101 #[.val (.int p0), .val (.long q1), .second, .val (.int p2), .val (.int p3), .val (.int p4), .val (.long q5), .second, .val (.int (3 : Int32)), .val (.int (0 : Int32)), .val (.ref b137), .val (.int ((f3_12 (0 : Int32)) &&& 1)), .val (.int ((f3_12 (((2 : Nat) + 1).toInt32)) &&& 1)), .unset] [])) _
        refine XS.iload X158.here hx rfl (hb hby at_101) rfl ?_
        show Steps p.tables e below (T158.setTop (mkF m 103 #[.val (.int p0), .val (.long q1), .second, .val (.int p2), .val (.int p3), .val (.int p4), .val (.long q5), .second, .val (.int (3 : Int32)), .val (.int (0 : Int32)), .val (.ref b137), .val (.int ((f3_12 (0 : Int32)) &&& 1)), .val (.int ((f3_12 (((2 : Nat) + 1).toInt32)) &&& 1)), .unset] [(.int (0 : Int32))])) _
        refine XS.iconst X158.here hx rfl (hb hby at_103) ?_
        show Steps p.tables e below (T158.setTop (mkF m 104 #[.val (.int p0), .val (.long q1), .second, .val (.int p2), .val (.int p3), .val (.int p4), .val (.long q5), .second, .val (.int (3 : Int32)), .val (.int (0 : Int32)), .val (.ref b137), .val (.int ((f3_12 (0 : Int32)) &&& 1)), .val (.int ((f3_12 (((2 : Nat) + 1).toInt32)) &&& 1)), .unset] [(.int (2 : Int32)), (.int (0 : Int32))])) _
        refine XS.icmpYes X158.here hx rfl (pc0 := 104) (pc' := 113) rfl (hb hby at_104) rfl (tlt (show (0 : Int32) < (2 : Int32) by decide)).1 (by decide) (by decide) ?_
        show Steps p.tables e below (T158.setTop (mkF m 113 #[.val (.int p0), .val (.long q1), .second, .val (.int p2), .val (.int p3), .val (.int p4), .val (.long q5), .second, .val (.int (3 : Int32)), .val (.int (0 : Int32)), .val (.ref b137), .val (.int ((f3_12 (0 : Int32)) &&& 1)), .val (.int ((f3_12 (((2 : Nat) + 1).toInt32)) &&& 1)), .unset] [])) _
        refine XS.iload X158.here hx rfl (hb hby at_113) rfl ?_
        show Steps p.tables e below (T158.setTop (mkF m 115 #[.val (.int p0), .val (.long q1), .second, .val (.int p2), .val (.int p3), .val (.int p4), .val (.long q5), .second, .val (.int (3 : Int32)), .val (.int (0 : Int32)), .val (.ref b137), .val (.int ((f3_12 (0 : Int32)) &&& 1)), .val (.int ((f3_12 (((2 : Nat) + 1).toInt32)) &&& 1)), .unset] [(.int (0 : Int32))])) _
        refine XS.iconst X158.here hx rfl (hb hby at_115) ?_
        show Steps p.tables e below (T158.setTop (mkF m 116 #[.val (.int p0), .val (.long q1), .second, .val (.int p2), .val (.int p3), .val (.int p4), .val (.long q5), .second, .val (.int (3 : Int32)), .val (.int (0 : Int32)), .val (.ref b137), .val (.int ((f3_12 (0 : Int32)) &&& 1)), .val (.int ((f3_12 (((2 : Nat) + 1).toInt32)) &&& 1)), .unset] [(.int (3 : Int32)), (.int (0 : Int32))])) _
        refine XS.icmpYes X158.here hx rfl (pc0 := 116) (pc' := 125) rfl (hb hby at_116) rfl (tlt (show (0 : Int32) < (3 : Int32) by decide)).1 (by decide) (by decide) ?_
        show Steps p.tables e below (T158.setTop (mkF m 125 #[.val (.int p0), .val (.long q1), .second, .val (.int p2), .val (.int p3), .val (.int p4), .val (.long q5), .second, .val (.int (3 : Int32)), .val (.int (0 : Int32)), .val (.ref b137), .val (.int ((f3_12 (0 : Int32)) &&& 1)), .val (.int ((f3_12 (((2 : Nat) + 1).toInt32)) &&& 1)), .unset] [])) _
        refine XS.aload X158.here hx rfl (hb hby at_125) rfl rfl ?_
        show Steps p.tables e below (T158.setTop (mkF m 127 #[.val (.int p0), .val (.long q1), .second, .val (.int p2), .val (.int p3), .val (.int p4), .val (.long q5), .second, .val (.int (3 : Int32)), .val (.int (0 : Int32)), .val (.ref b137), .val (.int ((f3_12 (0 : Int32)) &&& 1)), .val (.int ((f3_12 (((2 : Nat) + 1).toInt32)) &&& 1)), .unset] [(.ref b137)])) _
        refine st159.trans ?_
        show Steps p.tables e below (T159.setTop (mkF m 130 #[.val (.int p0), .val (.long q1), .second, .val (.int p2), .val (.int p3), .val (.int p4), .val (.long q5), .second, .val (.int (3 : Int32)), .val (.int (0 : Int32)), .val (.ref b137), .val (.int ((f3_12 (0 : Int32)) &&& 1)), .val (.int ((f3_12 (((2 : Nat) + 1).toInt32)) &&& 1)), .unset] [(.int ((f3_12 (((2 : Nat) + 1).toInt32)) &&& 1))])) _
        refine XS.istore X159.here hx rfl (hb hby at_130) rfl (l' := #[.val (.int p0), .val (.long q1), .second, .val (.int p2), .val (.int p3), .val (.int p4), .val (.long q5), .second, .val (.int (3 : Int32)), .val (.int (0 : Int32)), .val (.ref b137), .val (.int ((f3_12 (0 : Int32)) &&& 1)), .val (.int ((f3_12 (((2 : Nat) + 1).toInt32)) &&& 1)), .val (.int ((f3_12 (((2 : Nat) + 1).toInt32)) &&& 1))]) rfl ?_
        show Steps p.tables e below (T159.setTop (mkF m 132 #[.val (.int p0), .val (.long q1), .second, .val (.int p2), .val (.int p3), .val (.int p4), .val (.long q5), .second, .val (.int (3 : Int32)), .val (.int (0 : Int32)), .val (.ref b137), .val (.int ((f3_12 (0 : Int32)) &&& 1)), .val (.int ((f3_12 (((2 : Nat) + 1).toInt32)) &&& 1)), .val (.int ((f3_12 (((2 : Nat) + 1).toInt32)) &&& 1))] [])) _
        refine XS.iload X159.here hx rfl (hb hby at_132) rfl ?_
        show Steps p.tables e below (T159.setTop (mkF m 134 #[.val (.int p0), .val (.long q1), .second, .val (.int p2), .val (.int p3), .val (.int p4), .val (.long q5), .second, .val (.int (3 : Int32)), .val (.int (0 : Int32)), .val (.ref b137), .val (.int ((f3_12 (0 : Int32)) &&& 1)), .val (.int ((f3_12 (((2 : Nat) + 1).toInt32)) &&& 1)), .val (.int ((f3_12 (((2 : Nat) + 1).toInt32)) &&& 1))] [(.int ((f3_12 (0 : Int32)) &&& 1))])) _
        refine XS.ifNo X159.here hx rfl (hb hby at_134) rfl ((if0 _ _).trans (feq (show ¬ (((f3_12 (0 : Int32)) &&& 1) = (0 : Int32)) from by decide)).1) ?_
        show Steps p.tables e below (T159.setTop (mkF m 137 #[.val (.int p0), .val (.long q1), .second, .val (.int p2), .val (.int p3), .val (.int p4), .val (.long q5), .second, .val (.int (3 : Int32)), .val (.int (0 : Int32)), .val (.ref b137), .val (.int ((f3_12 (0 : Int32)) &&& 1)), .val (.int ((f3_12 (((2 : Nat) + 1).toInt32)) &&& 1)), .val (.int ((f3_12 (((2 : Nat) + 1).toInt32)) &&& 1))] [])) _
        refine XS.iload X159.here hx rfl (hb hby at_137) rfl ?_
        show Steps p.tables e below (T159.setTop (mkF m 139 #[.val (.int p0), .val (.long q1), .second, .val (.int p2), .val (.int p3), .val (.int p4), .val (.long q5), .second, .val (.int (3 : Int32)), .val (.int (0 : Int32)), .val (.ref b137), .val (.int ((f3_12 (0 : Int32)) &&& 1)), .val (.int ((f3_12 (((2 : Nat) + 1).toInt32)) &&& 1)), .val (.int ((f3_12 (((2 : Nat) + 1).toInt32)) &&& 1))] [(.int ((f3_12 (((2 : Nat) + 1).toInt32)) &&& 1))])) _
        refine XS.iload X159.here hx rfl (hb hby at_139) rfl ?_
        show Steps p.tables e below (T159.setTop (mkF m 141 #[.val (.int p0), .val (.long q1), .second, .val (.int p2), .val (.int p3), .val (.int p4), .val (.long q5), .second, .val (.int (3 : Int32)), .val (.int (0 : Int32)), .val (.ref b137), .val (.int ((f3_12 (0 : Int32)) &&& 1)), .val (.int ((f3_12 (((2 : Nat) + 1).toInt32)) &&& 1)), .val (.int ((f3_12 (((2 : Nat) + 1).toInt32)) &&& 1))] [(.int (3 : Int32)), (.int ((f3_12 (((2 : Nat) + 1).toInt32)) &&& 1))])) _
        refine XS.ifYes X159.here hx rfl (pc0 := 141) (pc' := 148) rfl (hb hby at_141) rfl ((if0 _ _).trans (feq (show ¬ ((3 : Int32) = (0 : Int32)) by decide)).2) (by decide) (by decide) ?_
        show Steps p.tables e below (T159.setTop (mkF m 148 #[.val (.int p0), .val (.long q1), .second, .val (.int p2), .val (.int p3), .val (.int p4), .val (.long q5), .second, .val (.int (3 : Int32)), .val (.int (0 : Int32)), .val (.ref b137), .val (.int ((f3_12 (0 : Int32)) &&& 1)), .val (.int ((f3_12 (((2 : Nat) + 1).toInt32)) &&& 1)), .val (.int ((f3_12 (((2 : Nat) + 1).toInt32)) &&& 1))] [(.int ((f3_12 (((2 : Nat) + 1).toInt32)) &&& 1))])) _
        refine XS.iconst X159.here hx rfl (hb hby at_148) ?_
        show Steps p.tables e below (T159.setTop (mkF m 149 #[.val (.int p0), .val (.long q1), .second, .val (.int p2), .val (.int p3), .val (.int p4), .val (.long q5), .second, .val (.int (3 : Int32)), .val (.int (0 : Int32)), .val (.ref b137), .val (.int ((f3_12 (0 : Int32)) &&& 1)), .val (.int ((f3_12 (((2 : Nat) + 1).toInt32)) &&& 1)), .val (.int ((f3_12 (((2 : Nat) + 1).toInt32)) &&& 1))] [(.int (0 : Int32)), (.int ((f3_12 (((2 : Nat) + 1).toInt32)) &&& 1))])) _
        refine XS.icmpNo X159.here hx rfl (hb hby at_149) rfl (teq (show ((f3_12 (((2 : Nat) + 1).toInt32)) &&& 1) = (0 : Int32) from by decide)).2 ?_
        show Steps p.tables e below (T159.setTop (mkF m 152 #[.val (.int p0), .val (.long q1), .second, .val (.int p2), .val (.int p3), .val (.int p4), .val (.long q5), .second, .val (.int (3 : Int32)), .val (.int (0 : Int32)), .val (.ref b137), .val (.int ((f3_12 (0 : Int32)) &&& 1)), .val (.int ((f3_12 (((2 : Nat) + 1).toInt32)) &&& 1)), .val (.int ((f3_12 (((2 : Nat) + 1).toInt32)) &&& 1))] [])) _
        refine XS.iload X159.here hx rfl (hb hby at_152) rfl ?_
        show Steps p.tables e below (T159.setTop (mkF m 154 #[.val (.int p0), .val (.long q1), .second, .val (.int p2), .val (.int p3), .val (.int p4), .val (.long q5), .second, .val (.int (3 : Int32)), .val (.int (0 : Int32)), .val (.ref b137), .val (.int ((f3_12 (0 : Int32)) &&& 1)), .val (.int ((f3_12 (((2 : Nat) + 1).toInt32)) &&& 1)), .val (.int ((f3_12 (((2 : Nat) + 1).toInt32)) &&& 1))] [(.int ((f3_12 (((2 : Nat) + 1).toInt32)) &&& 1))])) _
        refine XS.iload X159.here hx rfl (hb hby at_154) rfl ?_
        show Steps p.tables e below (T159.setTop (mkF m 156 #[.val (.int p0), .val (.long q1), .second, .val (.int p2), .val (.int p3), .val (.int p4), .val (.long q5), .second, .val (.int (3 : Int32)), .val (.int (0 : Int32)), .val (.ref b137), .val (.int ((f3_12 (0 : Int32)) &&& 1)), .val (.int ((f3_12 (((2 : Nat) + 1).toInt32)) &&& 1)), .val (.int ((f3_12 (((2 : Nat) + 1).toInt32)) &&& 1))] [(.int (0 : Int32)), (.int ((f3_12 (((2 : Nat) + 1).toInt32)) &&& 1))])) _
        refine XS.iload X159.here hx rfl (hb hby at_156) rfl ?_
        show Steps p.tables e below (T159.setTop (mkF m 158 #[.val (.int p0), .val (.long q1), .second, .val (.int p2), .val (.int p3), .val (.int p4), .val (.long q5), .second, .val (.int (3 : Int32)), .val (.int (0 : Int32)), .val (.ref b137), .val (.int ((f3_12 (0 : Int32)) &&& 1)), .val (.int ((f3_12 (((2 : Nat) + 1).toInt32)) &&& 1)), .val (.int ((f3_12 (((2 : Nat) + 1).toInt32)) &&& 1))] [(.int (3 : Int32)), (.int (0 : Int32)), (.int ((f3_12 (((2 : Nat) + 1).toInt32)) &&& 1))])) _
        refine XS.icmpYes X159.here hx rfl (pc0 := 158) (pc' := 165) rfl (hb hby at_158) rfl (feq (show ¬ ((0 : Int32) = (3 : Int32)) by decide)).2 (by decide) (by decide) ?_
        show Steps p.tables e below (T159.setTop (mkF m 165 #[.val (.int p0), .val (.long q1), .second, .val (.int p2), .val (.int p3), .val (.int p4), .val (.long q5), .second, .val (.int (3 : Int32)), .val (.int (0 : Int32)), .val (.ref b137), .val (.int ((f3_12 (0 : Int32)) &&& 1)), .val (.int ((f3_12 (((2 : Nat) + 1).toInt32)) &&& 1)), .val (.int ((f3_12 (((2 : Nat) + 1).toInt32)) &&& 1))] [(.int ((f3_12 (((2 : Nat) + 1).toInt32)) &&& 1))])) _
        refine XS.iconst X159.here hx rfl (hb hby at_165) ?_
        show Steps p.tables e below (T159.setTop (mkF m 166 #[.val (.int p0), .val (.long q1), .second, .val (.int p2), .val (.int p3), .val (.int p4), .val (.long q5), .second, .val (.int (3 : Int32)), .val (.int (0 : Int32)), .val (.ref b137), .val (.int ((f3_12 (0 : Int32)) &&& 1)), .val (.int ((f3_12 (((2 : Nat) + 1).toInt32)) &&& 1)), .val (.int ((f3_12 (((2 : Nat) + 1).toInt32)) &&& 1))] [(.int (0 : Int32)), (.int ((f3_12 (((2 : Nat) + 1).toInt32)) &&& 1))])) _
        refine XS.icmpNo X159.here hx rfl (hb hby at_166) rfl (teq (show ((f3_12 (((2 : Nat) + 1).toInt32)) &&& 1) = (0 : Int32) from by decide)).2 ?_
        show Steps p.tables e below (T159.setTop (mkF m 169 #[.val (.int p0), .val (.long q1), .second, .val (.int p2), .val (.int p3), .val (.int p4), .val (.long q5), .second, .val (.int (3 : Int32)), .val (.int (0 : Int32)), .val (.ref b137), .val (.int ((f3_12 (0 : Int32)) &&& 1)), .val (.int ((f3_12 (((2 : Nat) + 1).toInt32)) &&& 1)), .val (.int ((f3_12 (((2 : Nat) + 1).toInt32)) &&& 1))] [])) _
        refine XS.iconst X159.here hx rfl (hb hby at_169) ?_
        show Steps p.tables e below (T159.setTop (mkF m 170 #[.val (.int p0), .val (.long q1), .second, .val (.int p2), .val (.int p3), .val (.int p4), .val (.long q5), .second, .val (.int (3 : Int32)), .val (.int (0 : Int32)), .val (.ref b137), .val (.int ((f3_12 (0 : Int32)) &&& 1)), .val (.int ((f3_12 (((2 : Nat) + 1).toInt32)) &&& 1)), .val (.int ((f3_12 (((2 : Nat) + 1).toInt32)) &&& 1))] [(.int (1 : Int32))])) _
        refine XS.goto X159.here hx rfl (pc0 := 170) (pc' := 174) rfl (hb hby at_170) (by decide) (by decide) ?_
        show Steps p.tables e below (T159.setTop (mkF m 174 #[.val (.int p0), .val (.long q1), .second, .val (.int p2), .val (.int p3), .val (.int p4), .val (.long q5), .second, .val (.int (3 : Int32)), .val (.int (0 : Int32)), .val (.ref b137), .val (.int ((f3_12 (0 : Int32)) &&& 1)), .val (.int ((f3_12 (((2 : Nat) + 1).toInt32)) &&& 1)), .val (.int ((f3_12 (((2 : Nat) + 1).toInt32)) &&& 1))] [(.int (1 : Int32))])) _
        exact k)
      obtain ⟨fs, hr, hrun, hended, hW, hsame⟩ := X159.leave (v := some (.int (1 : Int32))) (fun h => by rw [Bd.returns] at h; cases h)
      refine ⟨_, _, pre160 _ ?_, hrun, hended, _, _, rfl, ?_, ⟨_, rfl⟩, hW, hsame.mono (by decide) (by decide)⟩
      · exact retN X159 hx (t := .boolean) Bd.returns (by simp) (hb hby at_174) hr
      · show Q0 Z p0 q1 p2 p3 p4 q5 h0 n0 _ T159.heap _
        rw [hh159]
        exact ⟨rfl, N159⟩
    · have pre161 : ∀ t, Steps p.tables e below (s₁.setTop (mkF m 18 #[.val (.int p0), .val (.long q1), .second, .val (.int p2), .val (.int p3), .val (.int p4), .val (.long q5), .second, .val (.int (3 : Int32)), .val (.int (1 : Int32)), .unset, .unset, .unset, .unset] [])) t → Steps p.tables e below (s₁.setTop (entryFrame m #[(.int p0), (.long q1), (.int p2), (.int p3), (.int p4), (.long q5)] maxLocals)) t := fun t k => pre135 t (by rw [hk]; exact k)
      obtain ⟨T162, h162, X162, e162, Ex162, Ne162, D162, -, st162⟩ := newO X0 hx hZ hown (hw _ (List.mem_of_getElem? (i := 1) rfl)) (hw _ (List.mem_of_getElem? (i := 2) rfl)) (hw _ (List.mem_of_getElem? (i := 3) rfl)) e0 (g := (mkF m 18 #[.val (.int p0), .val (.long q1), .second, .val (.int p2), .val (.int p3), .val (.int p4), .val (.long q5), .second, .val (.int (3 : Int32)), .val (.int (1 : Int32)), .unset, .unset, .unset, .unset] [])) rfl (hb hby at_18) (by decide) (by decide)
      obtain ⟨b162, g162⟩ : ∃ z, z = h0.size := ⟨_, rfl⟩
      rw [← g162] at Ne162 D162 st162
      have g_b162 : n0 ≤ b162 := Nat.le_trans (Nat.le_trans Z0 (Nat.le_refl _)) (Nat.le_of_eq g162.symm)
      have sz_b162 : h0.size ≤ b162 := Nat.le_trans (Nat.le_refl _) (Nat.le_of_eq g162.symm)
      have SZ164 : h0.size ≤ h162.size := Nat.le_trans (Nat.le_refl _) Ex162.1
      have ZZ164 : n0 ≤ h162.size := Nat.le_trans Z0 SZ164
      have K165 : Keep h0 h162 [] := ((Keep.refl h0 [])).ext Ex162
      have F_ranks_b162_162 : Fld Z h162 b162 "com/example/brisk_maze/briskmaze/search/RankedFrontier" "ranks" "[J" .null := D162 (Or.inl (hw _ (List.mem_of_getElem? (i := 12) rfl))) (ty := (.array .long)) (by decide)
      have F_costs_b162_162 : Fld Z h162 b162 "com/example/brisk_maze/briskmaze/search/RankedFrontier" "costs" "[I" .null := D162 (Or.inl (hw _ (List.mem_of_getElem? (i := 15) rfl))) (ty := (.array .int)) (by decide)
      have F_states_b162_162 : Fld Z h162 b162 "com/example/brisk_maze/briskmaze/search/RankedFrontier" "states" "[I" .null := D162 (Or.inl (hw _ (List.mem_of_getElem? (i := 17) rfl))) (ty := (.array .int)) (by decide)
      have F_size_b162_162 : Fld Z h162 b162 "com/example/brisk_maze/briskmaze/search/RankedFrontier" "size" "I" (.int (0 : Int32)) := D162 (Or.inl (hw _ (List.mem_of_getElem? (i := 24) rfl))) (ty := .int) (by decide)
      obtain ⟨_, _, ⟨T166, L166, k166, n166⟩, -, X166, ⟨Lc166, hQ166, l166, y166, z166⟩, st166⟩ := X162.specialBack hx (y := (⟨"com/example/brisk_maze/briskmaze/search/RankedFrontier", "<init>", "()V"⟩ : MethodName)) rfl hown (mvT hZ (hw _ (List.mem_of_getElem? (i := 4) rfl))) (mvT hZ (hw _ (List.mem_of_getElem? (i := 5) rfl))) (mvT hZ (hw _ (List.mem_of_getElem? (i := 6) rfl))) (by decide) (backOf (W := 1) (rm1 l Z a0 hw [] b162 h162 n0 ZZ164 F_ranks_b162_162 F_costs_b162_162 F_states_b162_162 Ne162 F_size_b162_162 g_b162) hZ (hw _ (List.mem_of_getElem? (i := 6) rfl)) (hw _ (List.mem_of_getElem? (i := 3) rfl)) (by decide) (by decide)) (g := (mkF m 22 #[.val (.int p0), .val (.long q1), .second, .val (.int p2), .val (.int p3), .val (.int p4), .val (.long q5), .second, .val (.int (3 : Int32)), .val (.int (1 : Int32)), .unset, .unset, .unset, .unset] [(.ref b162), (.ref b162)])) rfl (by rw [hml]; rfl) (Steps.refl _) (a := b162) (argsL := []) (rest := [(.ref b162)]) (lenOf pd_4 rfl) rfl (by show 2 * 0 + _ ≤ _; exact Nat.le_of_eq rfl) (hb hby at_22) (fun _ _ => ⟨rfl, e162, (by decide : 1 + 3 ≤ _), (by decide : 4 + 192 ≤ _)⟩)
      dsimp only [Pt.U, Pt.locs, Pt.cells, Pt.slots] at X166 l166 y166 z166 st166 hQ166
      subst l166 y166 z166
      obtain ⟨tr_166, tc_166, ts_166, rfl, N166q, Kc166, sz_tr_166, sz_tc_166, sz_ts_166, ne_tr_tc_166, ne_tr_ts_166, ne_tc_ts_166, P166_0, P166_1, P166_2, P166_3, P166_4, P166_5, P166_6⟩ := hQ166
      have N166 := Fr.app N0 N166q
      have E_b162_167 : Exa Z T166.heap b162 "com/example/brisk_maze/briskmaze/search/RankedFrontier" := (Ne162).keep Kc166
      have SZ168 : h0.size ≤ T166.heap.size := Nat.le_trans SZ164 Kc166.1
      have ZZ168 : n0 ≤ T166.heap.size := Nat.le_trans Z0 SZ168
      have K169 : Keep h0 T166.heap [] := (K165).trans Kc166 (allS (Or.inr sz_b162) all0)
      have ne_b162_tr_166 : b162 ≠ tr_166 := Nat.ne_of_lt (Nat.lt_of_lt_of_le (Ne162).lt sz_tr_166)
      have g_tr_166 : n0 ≤ tr_166 := Nat.le_trans (Nat.le_trans Z0 SZ164) sz_tr_166
      have szz_tr_166 : h0.size ≤ tr_166 := Nat.le_trans SZ164 sz_tr_166
      have ne_b162_tc_166 : b162 ≠ tc_166 := Nat.ne_of_lt (Nat.lt_of_lt_of_le (Ne162).lt sz_tc_166)
      have g_tc_166 : n0 ≤ tc_166 := Nat.le_trans (Nat.le_trans Z0 SZ164) sz_tc_166
      have szz_tc_166 : h0.size ≤ tc_166 := Nat.le_trans SZ164 sz_tc_166
      have ne_b162_ts_166 : b162 ≠ ts_166 := Nat.ne_of_lt (Nat.lt_of_lt_of_le (Ne162).lt sz_ts_166)
      have g_ts_166 : n0 ≤ ts_166 := Nat.le_trans (Nat.le_trans Z0 SZ164) sz_ts_166
      have szz_ts_166 : h0.size ≤ ts_166 := Nat.le_trans SZ164 sz_ts_166
      obtain ⟨cq170, kq170, q170a, q170b, q170c⟩ := isOf hZ rfl (E_b162_167)
      obtain ⟨_, _, ⟨T170, L170, k170, n170⟩, -, X170, ⟨Lc170, hQ170, l170, y170, z170⟩, st170⟩ := X166.virtualBack hx (y := (⟨"com/example/brisk_maze/briskmaze/search/RankedFrontier", "isEmpty", "()Z"⟩ : MethodName)) (z := (⟨"com/example/brisk_maze/briskmaze/search/RankedFrontier", "isEmpty", "()Z"⟩ : MethodName)) hown (mvT hZ (hw _ (List.mem_of_getElem? (i := 18) rfl))) (mvT hZ (hw _ (List.mem_of_getElem? (i := 19) rfl))) (notFace_of_selects (args := #[]) (mvT hZ (hw _ (List.mem_of_getElem? (i := 21) rfl)))) (mvT hZ (hw _ (List.mem_of_getElem? (i := 21) rfl))) (mvT hZ (hw _ (List.mem_of_getElem? (i := 20) rfl))) (by decide) (backOf (W := 0) (rm3 l Z a0 hw [] b162 (0 : Int32) T166.heap n0 ZZ168 P166_3) hZ (hw _ (List.mem_of_getElem? (i := 22) rfl)) (hw _ (List.mem_of_getElem? (i := 3) rfl)) (by decide) (by decide)) q170a q170c (g := (mkF m 29 #[.val (.int p0), .val (.long q1), .second, .val (.int p2), .val (.int p3), .val (.int p4), .val (.long q5), .second, .val (.int (3 : Int32)), .val (.int (1 : Int32)), .val (.ref b162), .unset, .unset, .unset] [(.ref b162)])) rfl (by rw [hml]; rfl) (Steps.refl _) (argsL := []) (rest := []) (lenOf pd_5 rfl) rfl (by show 2 * 0 + _ ≤ _; exact Nat.le_of_eq rfl) (hb hby at_29) (fun _ _ => ⟨rfl, rfl, (by decide : 4 + 0 ≤ _), (by decide : 196 + 0 ≤ _)⟩)
      dsimp only [Pt.U, Pt.locs, Pt.cells, Pt.slots] at X170 l170 y170 z170 st170 hQ170
      subst l170 y170 z170
      obtain ⟨rfl, N170q, hh170⟩ := hQ170
      have N170 := Fr.app N166 N170q
      obtain ⟨cq171, kq171, q171a, q171b, q171c⟩ := isOf hZ hh170 (E_b162_167)
      obtain ⟨_, _, ⟨T171, L171, k171, n171⟩, -, X171, ⟨Lc171, hQ171, l171, y171, z171⟩, st171⟩ := X170.virtualBack hx (y := (⟨"com/example/brisk_maze/briskmaze/search/RankedFrontier", "add", "(IJI)V"⟩ : MethodName)) (z := (⟨"com/example/brisk_maze/briskmaze/search/RankedFrontier", "add", "(IJI)V"⟩ : MethodName)) hown (mvT hZ (hw _ (List.mem_of_getElem? (i := 25) rfl))) (mvT hZ (hw _ (List.mem_of_getElem? (i := 26) rfl))) (notFace_of_selects (args := #[]) (mvT hZ (hw _ (List.mem_of_getElem? (i := 28) rfl)))) (mvT hZ (hw _ (List.mem_of_getElem? (i := 28) rfl))) (mvT hZ (hw _ (List.mem_of_getElem? (i := 27) rfl))) (by decide) (backOf (W := 0) (rm4 l Z a0 hw [] b162 p0 q1 p2 tr_166 tc_166 ts_166 (fun _ => ((0 : Int64), (0 : Int32), (0 : Int32))) (0 : Nat) T166.heap n0 ZZ168 P166_0 P166_1 P166_2 E_b162_167 P166_3 P166_4 P166_5 P166_6 g_tr_166 g_tc_166 g_ts_166 g_b162 ne_b162_tr_166 ne_b162_tc_166 ne_b162_ts_166 ne_tr_tc_166 ne_tr_ts_166 ne_tc_ts_166 (by decide) (fun j _ j1 => absurd j1 (Nat.not_lt_zero _))) hZ (hw _ (List.mem_of_getElem? (i := 29) rfl)) (hw _ (List.mem_of_getElem? (i := 3) rfl)) (by decide) (by decide)) q171a q171c (g := (mkF m 45 #[.val (.int p0), .val (.long q1), .second, .val (.int p2), .val (.int p3), .val (.int p4), .val (.long q5), .second, .val (.int (3 : Int32)), .val (.int (1 : Int32)), .val (.ref b162), .val (.int ((f3_12 (0 : Int32)) &&& 1)), .unset, .unset] [(.int p2), (.long q1), (.int p0), (.ref b162)])) rfl (by rw [hml]; rfl) (Steps.refl _) (argsL := [(.int p0), (.long q1), (.int p2)]) (rest := []) (lenOf pd_6 rfl) rfl (by show 2 * 0 + _ ≤ _; exact Nat.le_of_eq rfl) (hb hby at_45) (fun _ _ => ⟨rfl, hh170, (by decide : 4 + 0 ≤ _), (by decide : 196 + 0 ≤ _)⟩)
      dsimp only [Pt.U, Pt.locs, Pt.cells, Pt.slots] at X171 l171 y171 z171 st171 hQ171
      subst l171 y171 z171
      obtain ⟨f2_171, rfl, N171q, Kc171, P171_0, P171_1, P171_2, P171_3, P171_4, P171_5, P171_6, P171_7, P171_8⟩ := hQ171
      have N171 := Fr.app N170 N171q
      have E_b162_172 : Exa Z T171.heap b162 "com/example/brisk_maze/briskmaze/search/RankedFrontier" := (E_b162_167).keep Kc171
      have SZ173 : h0.size ≤ T171.heap.size := Nat.le_trans SZ168 Kc171.1
      have ZZ173 : n0 ≤ T171.heap.size := Nat.le_trans Z0 SZ173
      have K174 : Keep h0 T171.heap [] := (K169).trans Kc171 (allS (Or.inr szz_tr_166) (allS (Or.inr szz_tc_166) (allS (Or.inr szz_ts_166) (allS (Or.inr sz_b162) all0))))
      obtain ⟨cq175, kq175, q175a, q175b, q175c⟩ := isOf hZ rfl (E_b162_172)
      obtain ⟨_, _, ⟨T175, L175, k175, n175⟩, -, X175, ⟨Lc175, hQ175, l175, y175, z175⟩, st175⟩ := X171.virtualBack hx (y := (⟨"com/example/brisk_maze/briskmaze/search/RankedFrontier", "add", "(IJI)V"⟩ : MethodName)) (z := (⟨"com/example/brisk_maze/briskmaze/search/RankedFrontier", "add", "(IJI)V"⟩ : MethodName)) hown (mvT hZ (hw _ (List.mem_of_getElem? (i := 25) rfl))) (mvT hZ (hw _ (List.mem_of_getElem? (i := 26) rfl))) (notFace_of_selects (args := #[]) (mvT hZ (hw _ (List.mem_of_getElem? (i := 28) rfl)))) (mvT hZ (hw _ (List.mem_of_getElem? (i := 28) rfl))) (mvT hZ (hw _ (List.mem_of_getElem? (i := 27) rfl))) (by decide) (backOf (W := 0) (rm4 l Z a0 hw [] b162 p2 q5 p0 tr_166 tc_166 ts_166 f2_171 (1 : Nat) T171.heap n0 ZZ173 P171_1 P171_2 P171_3 E_b162_172 P171_0 P171_4 P171_5 P171_6 g_tr_166 g_tc_166 g_ts_166 g_b162 ne_b162_tr_166 ne_b162_tc_166 ne_b162_ts_166 ne_tr_tc_166 ne_tr_ts_166 ne_tc_ts_166 (by decide) P171_7) hZ (hw _ (List.mem_of_getElem? (i := 29) rfl)) (hw _ (List.mem_of_getElem? (i := 3) rfl)) (by decide) (by decide)) q175a q175c (g := (mkF m 60 #[.val (.int p0), .val (.long q1), .second, .val (.int p2), .val (.int p3), .val (.int p4), .val (.long q5), .second, .val (.int (3 : Int32)), .val (.int (1 : Int32)), .val (.ref b162), .val (.int ((f3_12 (0 : Int32)) &&& 1)), .unset, .unset] [(.int p0), (.long q5), (.int p2), (.ref b162)])) rfl (by rw [hml]; rfl) (Steps.refl _) (argsL := [(.int p2), (.long q5), (.int p0)]) (rest := []) (lenOf pd_6 rfl) rfl (by show 2 * 0 + _ ≤ _; exact Nat.le_of_eq rfl) (hb hby at_60) (fun _ _ => ⟨rfl, rfl, (by decide : 4 + 0 ≤ _), (by decide : 196 + 0 ≤ _)⟩)
      dsimp only [Pt.U, Pt.locs, Pt.cells, Pt.slots] at X175 l175 y175 z175 st175 hQ175
      subst l175 y175 z175
      obtain ⟨f2_175, rfl, N175q, Kc175, P175_0, P175_1, P175_2, P175_3, P175_4, P175_5, P175_6, P175_7, P175_8⟩ := hQ175
      have N175 := Fr.app N171 N175q
      have E_b162_176 : Exa Z T175.heap b162 "com/example/brisk_maze/briskmaze/search/RankedFrontier" := (E_b162_172).keep Kc175
      have SZ177 : h0.size ≤ T175.heap.size := Nat.le_trans SZ173 Kc175.1
      have ZZ177 : n0 ≤ T175.heap.size := Nat.le_trans Z0 SZ177
      have K178 : Keep h0 T175.heap [] := (K174).trans Kc175 (allS (Or.inr szz_tr_166) (allS (Or.inr szz_tc_166) (allS (Or.inr szz_ts_166) (allS (Or.inr sz_b162) all0))))
      obtain ⟨cq179, kq179, q179a, q179b, q179c⟩ := isOf hZ rfl (E_b162_176)
      obtain ⟨_, _, ⟨T179, L179, k179, n179⟩, -, X179, ⟨Lc179, hQ179, l179, y179, z179⟩, st179⟩ := X175.virtualBack hx (y := (⟨"com/example/brisk_maze/briskmaze/search/RankedFrontier", "add", "(IJI)V"⟩ : MethodName)) (z := (⟨"com/example/brisk_maze/briskmaze/search/RankedFrontier", "add", "(IJI)V"⟩ : MethodName)) hown (mvT hZ (hw _ (List.mem_of_getElem? (i := 25) rfl))) (mvT hZ (hw _ (List.mem_of_getElem? (i := 26) rfl))) (notFace_of_selects (args := #[]) (mvT hZ (hw _ (List.mem_of_getElem? (i := 28) rfl)))) (mvT hZ (hw _ (List.mem_of_getElem? (i := 28) rfl))) (mvT hZ (hw _ (List.mem_of_getElem? (i := 27) rfl))) (by decide) (backOf (W := 0) (rm4 l Z a0 hw [] b162 p3 (q1 ^^^ q5) p4 tr_166 tc_166 ts_166 f2_175 (2 : Nat) T175.heap n0 ZZ177 P175_1 P175_2 P175_3 E_b162_176 P175_0 P175_4 P175_5 P175_6 g_tr_166 g_tc_166 g_ts_166 g_b162 ne_b162_tr_166 ne_b162_tc_166 ne_b162_ts_166 ne_tr_tc_166 ne_tr_ts_166 ne_tc_ts_166 (by decide) P175_7) hZ (hw _ (List.mem_of_getElem? (i := 29) rfl)) (hw _ (List.mem_of_getElem? (i := 3) rfl)) (by decide) (by decide)) q179a q179c (g := (mkF m 79 #[.val (.int p0), .val (.long q1), .second, .val (.int p2), .val (.int p3), .val (.int p4), .val (.long q5), .second, .val (.int (3 : Int32)), .val (.int (1 : Int32)), .val (.ref b162), .val (.int ((f3_12 (0 : Int32)) &&& 1)), .unset, .unset] [(.int p4), (.long (q1 ^^^ q5)), (.int p3), (.ref b162)])) rfl (by rw [hml]; rfl) (Steps.refl _) (argsL := [(.int p3), (.long (q1 ^^^ q5)), (.int p4)]) (rest := []) (lenOf pd_6 rfl) rfl (by show 2 * 0 + _ ≤ _; exact Nat.le_of_eq rfl) (hb hby at_79) (fun _ _ => ⟨rfl, rfl, (by decide : 4 + 0 ≤ _), (by decide : 196 + 0 ≤ _)⟩)
      dsimp only [Pt.U, Pt.locs, Pt.cells, Pt.slots] at X179 l179 y179 z179 st179 hQ179
      subst l179 y179 z179
      obtain ⟨f2_179, rfl, N179q, Kc179, P179_0, P179_1, P179_2, P179_3, P179_4, P179_5, P179_6, P179_7, P179_8⟩ := hQ179
      have N179 := Fr.app N175 N179q
      have E_b162_180 : Exa Z T179.heap b162 "com/example/brisk_maze/briskmaze/search/RankedFrontier" := (E_b162_176).keep Kc179
      have SZ181 : h0.size ≤ T179.heap.size := Nat.le_trans SZ177 Kc179.1
      have ZZ181 : n0 ≤ T179.heap.size := Nat.le_trans Z0 SZ181
      have K182 : Keep h0 T179.heap [] := (K178).trans Kc179 (allS (Or.inr szz_tr_166) (allS (Or.inr szz_tc_166) (allS (Or.inr szz_ts_166) (allS (Or.inr sz_b162) all0))))
      obtain ⟨cq183, kq183, q183a, q183b, q183c⟩ := isOf hZ rfl (E_b162_180)
      obtain ⟨_, _, ⟨T183, L183, k183, n183⟩, -, X183, ⟨Lc183, hQ183, l183, y183, z183⟩, st183⟩ := X179.virtualBack hx (y := (⟨"com/example/brisk_maze/briskmaze/search/RankedFrontier", "isEmpty", "()Z"⟩ : MethodName)) (z := (⟨"com/example/brisk_maze/briskmaze/search/RankedFrontier", "isEmpty", "()Z"⟩ : MethodName)) hown (mvT hZ (hw _ (List.mem_of_getElem? (i := 18) rfl))) (mvT hZ (hw _ (List.mem_of_getElem? (i := 19) rfl))) (notFace_of_selects (args := #[]) (mvT hZ (hw _ (List.mem_of_getElem? (i := 21) rfl)))) (mvT hZ (hw _ (List.mem_of_getElem? (i := 21) rfl))) (mvT hZ (hw _ (List.mem_of_getElem? (i := 20) rfl))) (by decide) (backOf (W := 0) (rm3 l Z a0 hw [] b162 (((2 : Nat) + 1).toInt32) T179.heap n0 ZZ181 P179_0) hZ (hw _ (List.mem_of_getElem? (i := 22) rfl)) (hw _ (List.mem_of_getElem? (i := 3) rfl)) (by decide) (by decide)) q183a q183c (g := (mkF m 84 #[.val (.int p0), .val (.long q1), .second, .val (.int p2), .val (.int p3), .val (.int p4), .val (.long q5), .second, .val (.int (3 : Int32)), .val (.int (1 : Int32)), .val (.ref b162), .val (.int ((f3_12 (0 : Int32)) &&& 1)), .unset, .unset] [(.ref b162)])) rfl (by rw [hml]; rfl) (Steps.refl _) (argsL := []) (rest := []) (lenOf pd_5 rfl) rfl (by show 2 * 0 + _ ≤ _; exact Nat.le_of_eq rfl) (hb hby at_84) (fun _ _ => ⟨rfl, rfl, (by decide : 4 + 0 ≤ _), (by decide : 196 + 0 ≤ _)⟩)
      dsimp only [Pt.U, Pt.locs, Pt.cells, Pt.slots] at X183 l183 y183 z183 st183 hQ183
      subst l183 y183 z183
      obtain ⟨rfl, N183q, hh183⟩ := hQ183
      have N183 := Fr.app N179 N183q
      obtain ⟨cq184, kq184, q184a, q184b, q184c⟩ := isOf hZ hh183 (E_b162_180)
      obtain ⟨_, _, ⟨T184, L184, k184, n184⟩, -, X184, ⟨Lc184, hQ184, l184, y184, z184⟩, st184⟩ := X183.virtualBack hx (y := (⟨"com/example/brisk_maze/briskmaze/search/RankedFrontier", "removeFirst", "()I"⟩ : MethodName)) (z := (⟨"com/example/brisk_maze/briskmaze/search/RankedFrontier", "removeFirst", "()I"⟩ : MethodName)) hown (mvT hZ (hw _ (List.mem_of_getElem? (i := 34) rfl))) (mvT hZ (hw _ (List.mem_of_getElem? (i := 35) rfl))) (notFace_of_selects (args := #[]) (mvT hZ (hw _ (List.mem_of_getElem? (i := 37) rfl)))) (mvT hZ (hw _ (List.mem_of_getElem? (i := 37) rfl))) (mvT hZ (hw _ (List.mem_of_getElem? (i := 36) rfl))) (by decide) (backOf (W := 0) (rm6 l Z a0 hw [] b162 tr_166 tc_166 ts_166 f2_179 (2 : Nat) T179.heap n0 ZZ181 P179_1 P179_2 P179_3 E_b162_180 P179_0 P179_4 P179_5 P179_6 g_tr_166 g_tc_166 g_ts_166 g_b162 ne_b162_tr_166 ne_b162_tc_166 ne_b162_ts_166 ne_tr_tc_166 ne_tr_ts_166 ne_tc_ts_166 (by decide) P179_7) hZ (hw _ (List.mem_of_getElem? (i := 38) rfl)) (hw _ (List.mem_of_getElem? (i := 3) rfl)) (by decide) (by decide)) q184a q184c (g := (mkF m 97 #[.val (.int p0), .val (.long q1), .second, .val (.int p2), .val (.int p3), .val (.int p4), .val (.long q5), .second, .val (.int (3 : Int32)), .val (.int (1 : Int32)), .val (.ref b162), .val (.int ((f3_12 (0 : Int32)) &&& 1)), .val (.int ((f3_12 (((2 : Nat) + 1).toInt32)) &&& 1)), .unset] [(.ref b162)])) rfl (by rw [hml]; rfl) (Steps.refl _) (argsL := []) (rest := []) (lenOf pd_7 rfl) rfl (by show 2 * 0 + _ ≤ _; exact Nat.le_of_eq rfl) (hb hby at_97) (fun _ _ => ⟨rfl, hh183, (by decide : 4 + 0 ≤ _), (by decide : 196 + 0 ≤ _)⟩)
      dsimp only [Pt.U, Pt.locs, Pt.cells, Pt.slots] at X184 l184 y184 z184 st184 hQ184
      subst l184 y184 z184
      obtain ⟨f2_184, rfl, N184q, Kc184, P184_0, P184_1, P184_2, P184_3, P184_4, P184_5, P184_6, P184_7, P184_8⟩ := hQ184
      have N184 := Fr.app N183 N184q
      have E_b162_185 : Exa Z T184.heap b162 "com/example/brisk_maze/briskmaze/search/RankedFrontier" := (E_b162_180).keep Kc184
      have SZ186 : h0.size ≤ T184.heap.size := Nat.le_trans SZ181 Kc184.1
      have ZZ186 : n0 ≤ T184.heap.size := Nat.le_trans Z0 SZ186
      have K187 : Keep h0 T184.heap [] := (K182).trans Kc184 (allS (Or.inr szz_tr_166) (allS (Or.inr szz_tc_166) (allS (Or.inr szz_ts_166) (allS (Or.inr sz_b162) all0))))
      obtain ⟨cq188, kq188, q188a, q188b, q188c⟩ := isOf hZ rfl (E_b162_185)
      obtain ⟨_, _, ⟨T188, L188, k188, n188⟩, -, X188, ⟨Lc188, hQ188, l188, y188, z188⟩, st188⟩ := X184.virtualBack hx (y := (⟨"com/example/brisk_maze/briskmaze/search/RankedFrontier", "isEmpty", "()Z"⟩ : MethodName)) (z := (⟨"com/example/brisk_maze/briskmaze/search/RankedFrontier", "isEmpty", "()Z"⟩ : MethodName)) hown (mvT hZ (hw _ (List.mem_of_getElem? (i := 18) rfl))) (mvT hZ (hw _ (List.mem_of_getElem? (i := 19) rfl))) (notFace_of_selects (args := #[]) (mvT hZ (hw _ (List.mem_of_getElem? (i := 21) rfl)))) (mvT hZ (hw _ (List.mem_of_getElem? (i := 21) rfl))) (mvT hZ (hw _ (List.mem_of_getElem? (i := 20) rfl))) (by decide) (backOf (W := 0) (rm3 l Z a0 hw [] b162 ((2 : Nat).toInt32) T184.heap n0 ZZ186 P184_0) hZ (hw _ (List.mem_of_getElem? (i := 22) rfl)) (hw _ (List.mem_of_getElem? (i := 3) rfl)) (by decide) (by decide)) q188a q188c (g := (mkF m 127 #[.val (.int p0), .val (.long q1), .second, .val (.int p2), .val (.int p3), .val (.int p4), .val (.long q5), .second, .val (.int (3 : Int32)), .val (.int (1 : Int32)), .val (.ref b162), .val (.int ((f3_12 (0 : Int32)) &&& 1)), .val (.int ((f3_12 (((2 : Nat) + 1).toInt32)) &&& 1)), .unset] [(.ref b162)])) rfl (by rw [hml]; rfl) (Steps.refl _) (argsL := []) (rest := []) (lenOf pd_5 rfl) rfl (by show 2 * 0 + _ ≤ _; exact Nat.le_of_eq rfl) (hb hby at_127) (fun _ _ => ⟨rfl, rfl, (by decide : 4 + 0 ≤ _), (by decide : 196 + 0 ≤ _)⟩)
      dsimp only [Pt.U, Pt.locs, Pt.cells, Pt.slots] at X188 l188 y188 z188 st188 hQ188
      subst l188 y188 z188
      obtain ⟨rfl, N188q, hh188⟩ := hQ188
      have N188 := Fr.app N184 N188q
      have pre189 : ∀ t, Steps p.tables e below (T188.setTop (mkF m 174 #[.val (.int p0), .val (.long q1), .second, .val (.int p2), .val (.int p3), .val (.int p4), .val (.long q5), .second, .val (.int (3 : Int32)), .val (.int (1 : Int32)), .val (.ref b162), .val (.int ((f3_12 (0 : Int32)) &&& 1)), .val (.int ((f3_12 (((2 : Nat) + 1).toInt32)) &&& 1)), .val (.int ((f3_12 ((2 : Nat).toInt32)) &&& 1))] [(.int (1 : Int32))])) t → Steps p.tables e below (s₁.setTop (entryFrame m #[(.int p0), (.long q1), (.int p2), (.int p3), (.int p4), (.long q5)] maxLocals)) t := fun t k => pre161 t (by
        show Steps p.tables e below (s₁.setTop (mkF m 18 #[.val (.int p0), .val (.long q1), .second, .val (.int p2), .val (.int p3), .val (.int p4), .val (.long q5), .second, .val (.int (3 : Int32)), .val (.int (1 : Int32)), .unset, .unset, .unset, .unset] [])) _
        refine st162 _ ?_
        show Steps p.tables e below (T162.setTop (mkF m 21 #[.val (.int p0), .val (.long q1), .second, .val (.int p2), .val (.int p3), .val (.int p4), .val (.long q5), .second, .val (.int (3 : Int32)), .val (.int (1 : Int32)), .unset, .unset, .unset, .unset] [(.ref b162)])) _
        refine XS.dup X162.here hx rfl (hb hby at_21) rfl rfl ?_
        show Steps p.tables e below (T162.setTop (mkF m 22 #[.val (.int p0), .val (.long q1), .second, .val (.int p2), .val (.int p3), .val (.int p4), .val (.long q5), .second, .val (.int (3 : Int32)), .val (.int (1 : Int32)), .unset, .unset, .unset, .unset] [(.ref b162), (.ref b162)])) _
        refine st166.trans ?_
        show Steps p.tables e below (T166.setTop (mkF m 25 #[.val (.int p0), .val (.long q1), .second, .val (.int p2), .val (.int p3), .val (.int p4), .val (.long q5), .second, .val (.int (3 : Int32)), .val (.int (1 : Int32)), .unset, .unset, .unset, .unset] [(.ref b162)])) _
        refine XS.astore X166.here hx rfl (hb hby at_25) rfl rfl (l' := #[.val (.int p0), .val (.long q1), .second, .val (.int p2), .val (.int p3), .val (.int p4), .val (.long q5), .second, .val (.int (3 : Int32)), .val (.int (1 : Int32)), .val (.ref b162), .unset, .unset, .unset]) rfl ?_
        show Steps p.tables e below (T166.setTop (mkF m 27 #[.val (.int p0), .val (.long q1), .second, .val (.int p2), .val (.int p3), .val (.int p4), .val (.long q5), .second, .val (.int (3 : Int32)), .val (.int (1 : Int32)), .val (.ref b162), .unset, .unset, .unset] [])) _
        refine XS.aload X166.here hx rfl (hb hby at_27) rfl rfl ?_
        show Steps p.tables e below (T166.setTop (mkF m 29 #[.val (.int p0), .val (.long q1), .second, .val (.int p2), .val (.int p3), .val (.int p4), .val (.long q5), .second, .val (.int (3 : Int32)), .val (.int (1 : Int32)), .val (.ref b162), .unset, .unset, .unset] [(.ref b162)])) _
        refine st170.trans ?_
        show Steps p.tables e below (T170.setTop (mkF m 32 #[.val (.int p0), .val (.long q1), .second, .val (.int p2), .val (.int p3), .val (.int p4), .val (.long q5), .second, .val (.int (3 : Int32)), .val (.int (1 : Int32)), .val (.ref b162), .unset, .unset, .unset] [(.int ((f3_12 (0 : Int32)) &&& 1))])) _
        refine XS.istore X170.here hx rfl (hb hby at_32) rfl (l' := #[.val (.int p0), .val (.long q1), .second, .val (.int p2), .val (.int p3), .val (.int p4), .val (.long q5), .second, .val (.int (3 : Int32)), .val (.int (1 : Int32)), .val (.ref b162), .val (.int ((f3_12 (0 : Int32)) &&& 1)), .unset, .unset]) rfl ?_
        show Steps p.tables e below (T170.setTop (mkF m 34 #[.val (.int p0), .val (.long q1), .second, .val (.int p2), .val (.int p3), .val (.int p4), .val (.long q5), .second, .val (.int (3 : Int32)), .val (.int (1 : Int32)), .val (.ref b162), .val (.int ((f3_12 (0 : Int32)) &&& 1)), .unset, .unset] [])) _
        refine XS.iload X170.here hx rfl (hb hby at_34) rfl ?_
        show Steps p.tables e below (T170.setTop (mkF m 36 #[.val (.int p0), .val (.long q1), .second, .val (.int p2), .val (.int p3), .val (.int p4), .val (.long q5), .second, .val (.int (3 : Int32)), .val (.int (1 : Int32)), .val (.ref b162), .val (.int ((f3_12 (0 : Int32)) &&& 1)), .unset, .unset] [(.int (3 : Int32))])) _
        refine XS.iconst X170.here hx rfl (hb hby at_36) ?_
        show Steps p.tables e below (T170.setTop (mkF m 37 #[.val (.int p0), .val (.long q1), .second, .val (.int p2), .val (.int p3), .val (.int p4), .val (.long q5), .second, .val (.int (3 : Int32)), .val (.int (1 : Int32)), .val (.ref b162), .val (.int ((f3_12 (0 : Int32)) &&& 1)), .unset, .unset] [(.int (1 : Int32)), (.int (3 : Int32))])) _
        refine XS.icmpNo X170.here hx rfl (hb hby at_37) rfl (flt (show ¬ ((3 : Int32) < (1 : Int32)) by decide)).1 ?_
        show Steps p.tables e below (T170.setTop (mkF m 40 #[.val (.int p0), .val (.long q1), .second, .val (.int p2), .val (.int p3), .val (.int p4), .val (.long q5), .second, .val (.int (3 : Int32)), .val (.int (1 : Int32)), .val (.ref b162), .val (.int ((f3_12 (0 : Int32)) &&& 1)), .unset, .unset] [])) _
        refine XS.aload X170.here hx rfl (hb hby at_40) rfl rfl ?_
        show Steps p.tables e below (T170.setTop (mkF m 42 #[.val (.int p0), .val (.long q1), .second, .val (.int p2), .val (.int p3), .val (.int p4), .val (.long q5), .second, .val (.int (3 : Int32)), .val (.int (1 : Int32)), .val (.ref b162), .val (.int ((f3_12 (0 : Int32)) &&& 1)), .unset, .unset] [(.ref b162)])) _
        refine XS.iloadN X170.here hx rfl (hb hby at_42) rfl ?_
        show Steps p.tables e below (T170.setTop (mkF m 43 #[.val (.int p0), .val (.long q1), .second, .val (.int p2), .val (.int p3), .val (.int p4), .val (.long q5), .second, .val (.int (3 : Int32)), .val (.int (1 : Int32)), .val (.ref b162), .val (.int ((f3_12 (0 : Int32)) &&& 1)), .unset, .unset] [(.int p0), (.ref b162)])) _
        refine XS.lloadN X170.here hx rfl (hb hby at_43) rfl ?_
        show Steps p.tables e below (T170.setTop (mkF m 44 #[.val (.int p0), .val (.long q1), .second, .val (.int p2), .val (.int p3), .val (.int p4), .val (.long q5), .second, .val (.int (3 : Int32)), .val (.int (1 : Int32)), .val (.ref b162), .val (.int ((f3_12 (0 : Int32)) &&& 1)), .unset, .unset] [(.long q1), (.int p0), (.ref b162)])) _
        refine XS.iloadN X170.here hx rfl (hb hby at_44) rfl ?_
        show Steps p.tables e below (T170.setTop (mkF m 45 #[.val (.int p0), .val (.long q1), .second, .val (.int p2), .val (.int p3), .val (.int p4), .val (.long q5), .second, .val (.int (3 : Int32)), .val (.int (1 : Int32)), .val (.ref b162), .val (.int ((f3_12 (0 : Int32)) &&& 1)), .unset, .unset] [(.int p2), (.long q1), (.int p0), (.ref b162)])) _
        refine st171.trans ?_
        show Steps p.tables e below (T171.setTop (mkF m 48 #[.val (.int p0), .val (.long q1), .second, .val (.int p2), .val (.int p3), .val (.int p4), .val (.long q5), .second, .val (.int (3 : Int32)), .val (.int (1 : Int32)), .val (.ref b162), .val (.int ((f3_12 (0 : Int32)) &&& 1)), .unset, .unset] [])) _
        refine XS.iload X171.here hx rfl (hb hby at_48) rfl ?_
        show Steps p.tables e below (T171.setTop (mkF m 50 #[.val (.int p0), .val (.long q1), .second, .val (.int p2), .val (.int p3), .val (.int p4), .val (.long q5), .second, .val (.int (3 : Int32)), .val (.int (1 : Int32)), .val (.ref b162), .val (.int ((f3_12 (0 : Int32)) &&& 1)), .unset, .unset] [(.int (3 : Int32))])) _
        refine XS.iconst X171.here hx rfl (hb hby at_50) ?_
        show Steps p.tables e below (T171.setTop (mkF m 51 #[.val (.int p0), .val (.long q1), .second, .val (.int p2), .val (.int p3), .val (.int p4), .val (.long q5), .second, .val (.int (3 : Int32)), .val (.int (1 : Int32)), .val (.ref b162), .val (.int ((f3_12 (0 : Int32)) &&& 1)), .unset, .unset] [(.int (2 : Int32)), (.int (3 : Int32))])) _
        refine XS.icmpNo X171.here hx rfl (hb hby at_51) rfl (flt (show ¬ ((3 : Int32) < (2 : Int32)) by decide)).1 ?_
        show Steps p.tables e below (T171.setTop (mkF m 54 #[.val (.int p0), .val (.long q1), .second, .val (.int p2), .val (.int p3), .val (.int p4), .val (.long q5), .second, .val (.int (3 : Int32)), .val (.int (1 : Int32)), .val (.ref b162), .val (.int ((f3_12 (0 : Int32)) &&& 1)), .unset, .unset] [])) _
        refine XS.aload X171.here hx rfl (hb hby at_54) rfl rfl ?_
        show Steps p.tables e below (T171.setTop (mkF m 56 #[.val (.int p0), .val (.long q1), .second, .val (.int p2), .val (.int p3), .val (.int p4), .val (.long q5), .second, .val (.int (3 : Int32)), .val (.int (1 : Int32)), .val (.ref b162), .val (.int ((f3_12 (0 : Int32)) &&& 1)), .unset, .unset] [(.ref b162)])) _
        refine XS.iloadN X171.here hx rfl (hb hby at_56) rfl ?_
        show Steps p.tables e below (T171.setTop (mkF m 57 #[.val (.int p0), .val (.long q1), .second, .val (.int p2), .val (.int p3), .val (.int p4), .val (.long q5), .second, .val (.int (3 : Int32)), .val (.int (1 : Int32)), .val (.ref b162), .val (.int ((f3_12 (0 : Int32)) &&& 1)), .unset, .unset] [(.int p2), (.ref b162)])) _
        refine XS.lload X171.here hx rfl (hb hby at_57) rfl ?_
        show Steps p.tables e below (T171.setTop (mkF m 59 #[.val (.int p0), .val (.long q1), .second, .val (.int p2), .val (.int p3), .val (.int p4), .val (.long q5), .second, .val (.int (3 : Int32)), .val (.int (1 : Int32)), .val (.ref b162), .val (.int ((f3_12 (0 : Int32)) &&& 1)), .unset, .unset] [(.long q5), (.int p2), (.ref b162)])) _
        refine XS.iloadN X171.here hx rfl (hb hby at_59) rfl ?_
        show Steps p.tables e below (T171.setTop (mkF m 60 #[.val (.int p0), .val (.long q1), .second, .val (.int p2), .val (.int p3), .val (.int p4), .val (.long q5), .second, .val (.int (3 : Int32)), .val (.int (1 : Int32)), .val (.ref b162), .val (.int ((f3_12 (0 : Int32)) &&& 1)), .unset, .unset] [(.int p0), (.long q5), (.int p2), (.ref b162)])) _
        refine st175.trans ?_
        show Steps p.tables e below (T175.setTop (mkF m 63 #[.val (.int p0), .val (.long q1), .second, .val (.int p2), .val (.int p3), .val (.int p4), .val (.long q5), .second, .val (.int (3 : Int32)), .val (.int (1 : Int32)), .val (.ref b162), .val (.int ((f3_12 (0 : Int32)) &&& 1)), .unset, .unset] [])) _
        refine XS.iload X175.here hx rfl (hb hby at_63) rfl ?_
        show Steps p.tables e below (T175.setTop (mkF m 65 #[.val (.int p0), .val (.long q1), .second, .val (.int p2), .val (.int p3), .val (.int p4), .val (.long q5), .second, .val (.int (3 : Int32)), .val (.int (1 : Int32)), .val (.ref b162), .val (.int ((f3_12 (0 : Int32)) &&& 1)), .unset, .unset] [(.int (3 : Int32))])) _
        refine XS.iconst X175.here hx rfl (hb hby at_65) ?_
        show Steps p.tables e below (T175.setTop (mkF m 66 #[.val (.int p0), .val (.long q1), .second, .val (.int p2), .val (.int p3), .val (.int p4), .val (.long q5), .second, .val (.int (3 : Int32)), .val (.int (1 : Int32)), .val (.ref b162), .val (.int ((f3_12 (0 : Int32)) &&& 1)), .unset, .unset] [(.int (3 : Int32)), (.int (3 : Int32))])) _
        refine XS.icmpNo X175.here hx rfl (hb hby at_66) rfl (flt (show ¬ ((3 : Int32) < (3 : Int32)) by decide)).1 ?_
        show Steps p.tables e below (T175.setTop (mkF m 69 #[.val (.int p0), .val (.long q1), .second, .val (.int p2), .val (.int p3), .val (.int p4), .val (.long q5), .second, .val (.int (3 : Int32)), .val (.int (1 : Int32)), .val (.ref b162), .val (.int ((f3_12 (0 : Int32)) &&& 1)), .unset, .unset] [])) _
        refine XS.aload X175.here hx rfl (hb hby at_69) rfl rfl ?_
        show Steps p.tables e below (T175.setTop (mkF m 71 #[.val (.int p0), .val (.long q1), .second, .val (.int p2), .val (.int p3), .val (.int p4), .val (.long q5), .second, .val (.int (3 : Int32)), .val (.int (1 : Int32)), .val (.ref b162), .val (.int ((f3_12 (0 : Int32)) &&& 1)), .unset, .unset] [(.ref b162)])) _
        refine XS.iload X175.here hx rfl (hb hby at_71) rfl ?_
        show Steps p.tables e below (T175.setTop (mkF m 73 #[.val (.int p0), .val (.long q1), .second, .val (.int p2), .val (.int p3), .val (.int p4), .val (.long q5), .second, .val (.int (3 : Int32)), .val (.int (1 : Int32)), .val (.ref b162), .val (.int ((f3_12 (0 : Int32)) &&& 1)), .unset, .unset] [(.int p3), (.ref b162)])) _
        refine XS.lloadN X175.here hx rfl (hb hby at_73) rfl ?_
        show Steps p.tables e below (T175.setTop (mkF m 74 #[.val (.int p0), .val (.long q1), .second, .val (.int p2), .val (.int p3), .val (.int p4), .val (.long q5), .second, .val (.int (3 : Int32)), .val (.int (1 : Int32)), .val (.ref b162), .val (.int ((f3_12 (0 : Int32)) &&& 1)), .unset, .unset] [(.long q1), (.int p3), (.ref b162)])) _
        refine XS.lload X175.here hx rfl (hb hby at_74) rfl ?_
        show Steps p.tables e below (T175.setTop (mkF m 76 #[.val (.int p0), .val (.long q1), .second, .val (.int p2), .val (.int p3), .val (.int p4), .val (.long q5), .second, .val (.int (3 : Int32)), .val (.int (1 : Int32)), .val (.ref b162), .val (.int ((f3_12 (0 : Int32)) &&& 1)), .unset, .unset] [(.long q5), (.long q1), (.int p3), (.ref b162)])) _
        refine XS.lxor X175.here hx rfl (hb hby at_76) rfl ?_
        show Steps p.tables e below (T175.setTop (mkF m 77 #[.val (.int p0), .val (.long q1), .second, .val (.int p2), .val (.int p3), .val (.int p4), .val (.long q5), .second, .val (.int (3 : Int32)), .val (.int (1 : Int32)), .val (.ref b162), .val (.int ((f3_12 (0 : Int32)) &&& 1)), .unset, .unset] [(.long (q1 ^^^ q5)), (.int p3), (.ref b162)])) _
        refine XS.iload X175.here hx rfl (hb hby at_77) rfl ?_
        show Steps p.tables e below (T175.setTop (mkF m 79 #[.val (.int p0), .val (.long q1), .second, .val (.int p2), .val (.int p3), .val (.int p4), .val (.long q5), .second, .val (.int (3 : Int32)), .val (.int (1 : Int32)), .val (.ref b162), .val (.int ((f3_12 (0 : Int32)) &&& 1)), .unset, .unset] [(.int p4), (.long (q1 ^^^ q5)), (.int p3), (.ref b162)])) _
        refine st179.trans ?_
        show Steps p.tables e below (T179.setTop (mkF m 82 #[.val (.int p0), .val (.long q1), .second, .val (.int p2), .val (.int p3), .val (.int p4), .val (.long q5), .second, .val (.int (3 : Int32)), .val (.int (1 : Int32)), .val (.ref b162), .val (.int ((f3_12 (0 : Int32)) &&& 1)), .unset, .unset] [])) _
        refine XS.aload X179.here hx rfl (hb hby at_82) rfl rfl ?_
        show Steps p.tables e below (T179.setTop (mkF m 84 #[.val (.int p0), .val (.long q1), .second, .val (.int p2), .val (.int p3), .val (.int p4), .val (.long q5), .second, .val (.int (3 : Int32)), .val (.int (1 : Int32)), .val (.ref b162), .val (.int ((f3_12 (0 : Int32)) &&& 1)), .unset, .unset] [(.ref b162)])) _
        refine st183.trans ?_
        show Steps p.tables e below (T183.setTop (mkF m 87 #[.val (.int p0), .val (.long q1), .second, .val (.int p2), .val (.int p3), .val (.int p4), .val (.long q5), .second, .val (.int (3 : Int32)), .val (.int (1 : Int32)), .val (.ref b162), .val (.int ((f3_12 (0 : Int32)) &&& 1)), .unset, .unset] [(.int ((f3_12 (((2 : Nat) + 1).toInt32)) &&& 1))])) _
        refine XS.istore X183.here hx rfl (hb hby at_87) rfl (l' := #[.val (.int p0), .val (.long q1), .second, .val (.int p2), .val (.int p3), .val (.int p4), .val (.long q5), .second, .val (.int (3 : Int32)), .val (.int (1 : Int32)), .val (.ref b162), .val (.int ((f3_12 (0 : Int32)) &&& 1)), .val (.int ((f3_12 (((2 : Nat) + 1).toInt32)) &&& 1)), .unset]) rfl ?_
        show Steps p.tables e below (T183.setTop (mkF m 89 #[.val (.int p0), .val (.long q1), .second, .val (.int p2), .val (.int p3), .val (.int p4), .val (.long q5), .second, .val (.int (3 : Int32)), .val (.int (1 : Int32)), .val (.ref b162), .val (.int ((f3_12 (0 : Int32)) &&& 1)), .val (.int ((f3_12 (((2 : Nat) + 1).toInt32)) &&& 1)), .unset] [])) _
        refine XS.iload X183.here hx rfl (hb hby at_89) rfl ?_
        show Steps p.tables e below (T183.setTop (mkF m 91 #[.val (.int p0), .val (.long q1), .second, .val (.int p2), .val (.int p3), .val (.int p4), .val (.long q5), .second, .val (.int (3 : Int32)), .val (.int (1 : Int32)), .val (.ref b162), .val (.int ((f3_12 (0 : Int32)) &&& 1)), .val (.int ((f3_12 (((2 : Nat) + 1).toInt32)) &&& 1)), .unset] [(.int (1 : Int32))])) _
        refine XS.iconst X183.here hx rfl (hb hby at_91) ?_
        show Steps p.tables e below (T183.setTop (mkF m 92 #[.val (.int p0), .val (.long q1), .second, .val (.int p2), .val (.int p3), .val (.int p4), .val (.long q5), .second, .val (.int (3 : Int32)), .val (.int (1 : Int32)), .val (.ref b162), .val (.int ((f3_12 (0 : Int32)) &&& 1)), .val (.int ((f3_12 (((2 : Nat) + 1).toInt32)) &&& 1)), .unset] [(.int (1 : Int32)), (.int (1 : Int32))])) _
        refine XS.icmpNo X183.here hx rfl (hb hby at_92) rfl (flt (show ¬ ((1 : Int32) < (1 : Int32)) by decide)).1 ?_
        show Steps p.tables e below (T183.setTop (mkF m 95 #[.val (.int p0), .val (.long q1), .second, .val (.int p2), .val (.int p3), .val (.int p4), .val (.long q5), .second, .val (.int (3 : Int32)), .val (.int (1 : Int32)), .val (.ref b162), .val (.int ((f3_12 (0 : Int32)) &&& 1)), .val (.int ((f3_12 (((2 : Nat) + 1).toInt32)) &&& 1)), .unset] [])) _
        refine XS.aload X183.here hx rfl (hb hby at_95) rfl rfl ?_
        show Steps p.tables e below (T183.setTop (mkF m 97 #[.val (.int p0), .val (.long q1), .second, .val (.int p2), .val (.int p3), .val (.int p4), .val (.long q5), .second, .val (.int (3 : Int32)), .val (.int (1 : Int32)), .val (.ref b162), .val (.int ((f3_12 (0 : Int32)) &&& 1)), .val (.int ((f3_12 (((2 : Nat) + 1).toInt32)) &&& 1)), .unset] [(.ref b162)])) _
        refine st184.trans ?_
        show Steps p.tables e below (T184.setTop (mkF m 100 #[.val (.int p0), .val (.long q1), .second, .val (.int p2), .val (.int p3), .val (.int p4), .val (.long q5), .second, .val (.int (3 : Int32)), .val (.int (1 : Int32)), .val (.ref b162), .val (.int ((f3_12 (0 : Int32)) &&& 1)), .val (.int ((f3_12 (((2 : Nat) + 1).toInt32)) &&& 1)), .unset] [(.int ((f2_179 0).2.2))])) _
        refine XS.pop X184.here hx rfl (hb hby at_100) rfl rfl ?_
        show Steps p.tables e below (T184.setTop (mkF m 101 #[.val (.int p0), .val (.long q1), .second, .val (.int p2), .val (.int p3), .val (.int p4), .val (.long q5), .second, .val (.int (3 : Int32)), .val (.int (1 : Int32)), .val (.ref b162), .val (.int ((f3_12 (0 : Int32)) &&& 1)), .val (.int ((f3_12 (((2 : Nat) + 1).toInt32)) &&& 1)), .unset] [])) _
        refine XS.iload X184.here hx rfl (hb hby at_101) rfl ?_
        show Steps p.tables e below (T184.setTop (mkF m 103 #[.val (.int p0), .val (.long q1), .second, .val (.int p2), .val (.int p3), .val (.int p4), .val (.long q5), .second, .val (.int (3 : Int32)), .val (.int (1 : Int32)), .val (.ref b162), .val (.int ((f3_12 (0 : Int32)) &&& 1)), .val (.int ((f3_12 (((2 : Nat) + 1).toInt32)) &&& 1)), .unset] [(.int (1 : Int32))])) _
        refine XS.iconst X184.here hx rfl (hb hby at_103) ?_
        show Steps p.tables e below (T184.setTop (mkF m 104 #[.val (.int p0), .val (.long q1), .second, .val (.int p2), .val (.int p3), .val (.int p4), .val (.long q5), .second, .val (.int (3 : Int32)), .val (.int (1 : Int32)), .val (.ref b162), .val (.int ((f3_12 (0 : Int32)) &&& 1)), .val (.int ((f3_12 (((2 : Nat) + 1).toInt32)) &&& 1)), .unset] [(.int (2 : Int32)), (.int (1 : Int32))])) _
        refine XS.icmpYes X184.here hx rfl (pc0 := 104) (pc' := 113) rfl (hb hby at_104) rfl (tlt (show (1 : Int32) < (2 : Int32) by decide)).1 (by decide) (by decide) ?_
        show Steps p.tables e below (T184.setTop (mkF m 113 #[.val (.int p0), .val (.long q1), .second, .val (.int p2), .val (.int p3), .val (.int p4), .val (.long q5), .second, .val (.int (3 : Int32)), .val (.int (1 : Int32)), .val (.ref b162), .val (.int ((f3_12 (0 : Int32)) &&& 1)), .val (.int ((f3_12 (((2 : Nat) + 1).toInt32)) &&& 1)), .unset] [])) _
        refine XS.iload X184.here hx rfl (hb hby at_113) rfl ?_
        show Steps p.tables e below (T184.setTop (mkF m 115 #[.val (.int p0), .val (.long q1), .second, .val (.int p2), .val (.int p3), .val (.int p4), .val (.long q5), .second, .val (.int (3 : Int32)), .val (.int (1 : Int32)), .val (.ref b162), .val (.int ((f3_12 (0 : Int32)) &&& 1)), .val (.int ((f3_12 (((2 : Nat) + 1).toInt32)) &&& 1)), .unset] [(.int (1 : Int32))])) _
        refine XS.iconst X184.here hx rfl (hb hby at_115) ?_
        show Steps p.tables e below (T184.setTop (mkF m 116 #[.val (.int p0), .val (.long q1), .second, .val (.int p2), .val (.int p3), .val (.int p4), .val (.long q5), .second, .val (.int (3 : Int32)), .val (.int (1 : Int32)), .val (.ref b162), .val (.int ((f3_12 (0 : Int32)) &&& 1)), .val (.int ((f3_12 (((2 : Nat) + 1).toInt32)) &&& 1)), .unset] [(.int (3 : Int32)), (.int (1 : Int32))])) _
        refine XS.icmpYes X184.here hx rfl (pc0 := 116) (pc' := 125) rfl (hb hby at_116) rfl (tlt (show (1 : Int32) < (3 : Int32) by decide)).1 (by decide) (by decide) ?_
        show Steps p.tables e below (T184.setTop (mkF m 125 #[.val (.int p0), .val (.long q1), .second, .val (.int p2), .val (.int p3), .val (.int p4), .val (.long q5), .second, .val (.int (3 : Int32)), .val (.int (1 : Int32)), .val (.ref b162), .val (.int ((f3_12 (0 : Int32)) &&& 1)), .val (.int ((f3_12 (((2 : Nat) + 1).toInt32)) &&& 1)), .unset] [])) _
        refine XS.aload X184.here hx rfl (hb hby at_125) rfl rfl ?_
        show Steps p.tables e below (T184.setTop (mkF m 127 #[.val (.int p0), .val (.long q1), .second, .val (.int p2), .val (.int p3), .val (.int p4), .val (.long q5), .second, .val (.int (3 : Int32)), .val (.int (1 : Int32)), .val (.ref b162), .val (.int ((f3_12 (0 : Int32)) &&& 1)), .val (.int ((f3_12 (((2 : Nat) + 1).toInt32)) &&& 1)), .unset] [(.ref b162)])) _
        refine st188.trans ?_
        show Steps p.tables e below (T188.setTop (mkF m 130 #[.val (.int p0), .val (.long q1), .second, .val (.int p2), .val (.int p3), .val (.int p4), .val (.long q5), .second, .val (.int (3 : Int32)), .val (.int (1 : Int32)), .val (.ref b162), .val (.int ((f3_12 (0 : Int32)) &&& 1)), .val (.int ((f3_12 (((2 : Nat) + 1).toInt32)) &&& 1)), .unset] [(.int ((f3_12 ((2 : Nat).toInt32)) &&& 1))])) _
        refine XS.istore X188.here hx rfl (hb hby at_130) rfl (l' := #[.val (.int p0), .val (.long q1), .second, .val (.int p2), .val (.int p3), .val (.int p4), .val (.long q5), .second, .val (.int (3 : Int32)), .val (.int (1 : Int32)), .val (.ref b162), .val (.int ((f3_12 (0 : Int32)) &&& 1)), .val (.int ((f3_12 (((2 : Nat) + 1).toInt32)) &&& 1)), .val (.int ((f3_12 ((2 : Nat).toInt32)) &&& 1))]) rfl ?_
        show Steps p.tables e below (T188.setTop (mkF m 132 #[.val (.int p0), .val (.long q1), .second, .val (.int p2), .val (.int p3), .val (.int p4), .val (.long q5), .second, .val (.int (3 : Int32)), .val (.int (1 : Int32)), .val (.ref b162), .val (.int ((f3_12 (0 : Int32)) &&& 1)), .val (.int ((f3_12 (((2 : Nat) + 1).toInt32)) &&& 1)), .val (.int ((f3_12 ((2 : Nat).toInt32)) &&& 1))] [])) _
        refine XS.iload X188.here hx rfl (hb hby at_132) rfl ?_
        show Steps p.tables e below (T188.setTop (mkF m 134 #[.val (.int p0), .val (.long q1), .second, .val (.int p2), .val (.int p3), .val (.int p4), .val (.long q5), .second, .val (.int (3 : Int32)), .val (.int (1 : Int32)), .val (.ref b162), .val (.int ((f3_12 (0 : Int32)) &&& 1)), .val (.int ((f3_12 (((2 : Nat) + 1).toInt32)) &&& 1)), .val (.int ((f3_12 ((2 : Nat).toInt32)) &&& 1))] [(.int ((f3_12 (0 : Int32)) &&& 1))])) _
        refine XS.ifNo X188.here hx rfl (hb hby at_134) rfl ((if0 _ _).trans (feq (show ¬ (((f3_12 (0 : Int32)) &&& 1) = (0 : Int32)) from by decide)).1) ?_
        show Steps p.tables e below (T188.setTop (mkF m 137 #[.val (.int p0), .val (.long q1), .second, .val (.int p2), .val (.int p3), .val (.int p4), .val (.long q5), .second, .val (.int (3 : Int32)), .val (.int (1 : Int32)), .val (.ref b162), .val (.int ((f3_12 (0 : Int32)) &&& 1)), .val (.int ((f3_12 (((2 : Nat) + 1).toInt32)) &&& 1)), .val (.int ((f3_12 ((2 : Nat).toInt32)) &&& 1))] [])) _
        refine XS.iload X188.here hx rfl (hb hby at_137) rfl ?_
        show Steps p.tables e below (T188.setTop (mkF m 139 #[.val (.int p0), .val (.long q1), .second, .val (.int p2), .val (.int p3), .val (.int p4), .val (.long q5), .second, .val (.int (3 : Int32)), .val (.int (1 : Int32)), .val (.ref b162), .val (.int ((f3_12 (0 : Int32)) &&& 1)), .val (.int ((f3_12 (((2 : Nat) + 1).toInt32)) &&& 1)), .val (.int ((f3_12 ((2 : Nat).toInt32)) &&& 1))] [(.int ((f3_12 (((2 : Nat) + 1).toInt32)) &&& 1))])) _
        refine XS.iload X188.here hx rfl (hb hby at_139) rfl ?_
        show Steps p.tables e below (T188.setTop (mkF m 141 #[.val (.int p0), .val (.long q1), .second, .val (.int p2), .val (.int p3), .val (.int p4), .val (.long q5), .second, .val (.int (3 : Int32)), .val (.int (1 : Int32)), .val (.ref b162), .val (.int ((f3_12 (0 : Int32)) &&& 1)), .val (.int ((f3_12 (((2 : Nat) + 1).toInt32)) &&& 1)), .val (.int ((f3_12 ((2 : Nat).toInt32)) &&& 1))] [(.int (3 : Int32)), (.int ((f3_12 (((2 : Nat) + 1).toInt32)) &&& 1))])) _
        refine XS.ifYes X188.here hx rfl (pc0 := 141) (pc' := 148) rfl (hb hby at_141) rfl ((if0 _ _).trans (feq (show ¬ ((3 : Int32) = (0 : Int32)) by decide)).2) (by decide) (by decide) ?_
        show Steps p.tables e below (T188.setTop (mkF m 148 #[.val (.int p0), .val (.long q1), .second, .val (.int p2), .val (.int p3), .val (.int p4), .val (.long q5), .second, .val (.int (3 : Int32)), .val (.int (1 : Int32)), .val (.ref b162), .val (.int ((f3_12 (0 : Int32)) &&& 1)), .val (.int ((f3_12 (((2 : Nat) + 1).toInt32)) &&& 1)), .val (.int ((f3_12 ((2 : Nat).toInt32)) &&& 1))] [(.int ((f3_12 (((2 : Nat) + 1).toInt32)) &&& 1))])) _
        refine XS.iconst X188.here hx rfl (hb hby at_148) ?_
        show Steps p.tables e below (T188.setTop (mkF m 149 #[.val (.int p0), .val (.long q1), .second, .val (.int p2), .val (.int p3), .val (.int p4), .val (.long q5), .second, .val (.int (3 : Int32)), .val (.int (1 : Int32)), .val (.ref b162), .val (.int ((f3_12 (0 : Int32)) &&& 1)), .val (.int ((f3_12 (((2 : Nat) + 1).toInt32)) &&& 1)), .val (.int ((f3_12 ((2 : Nat).toInt32)) &&& 1))] [(.int (0 : Int32)), (.int ((f3_12 (((2 : Nat) + 1).toInt32)) &&& 1))])) _
        refine XS.icmpNo X188.here hx rfl (hb hby at_149) rfl (teq (show ((f3_12 (((2 : Nat) + 1).toInt32)) &&& 1) = (0 : Int32) from by decide)).2 ?_
        show Steps p.tables e below (T188.setTop (mkF m 152 #[.val (.int p0), .val (.long q1), .second, .val (.int p2), .val (.int p3), .val (.int p4), .val (.long q5), .second, .val (.int (3 : Int32)), .val (.int (1 : Int32)), .val (.ref b162), .val (.int ((f3_12 (0 : Int32)) &&& 1)), .val (.int ((f3_12 (((2 : Nat) + 1).toInt32)) &&& 1)), .val (.int ((f3_12 ((2 : Nat).toInt32)) &&& 1))] [])) _
        refine XS.iload X188.here hx rfl (hb hby at_152) rfl ?_
        show Steps p.tables e below (T188.setTop (mkF m 154 #[.val (.int p0), .val (.long q1), .second, .val (.int p2), .val (.int p3), .val (.int p4), .val (.long q5), .second, .val (.int (3 : Int32)), .val (.int (1 : Int32)), .val (.ref b162), .val (.int ((f3_12 (0 : Int32)) &&& 1)), .val (.int ((f3_12 (((2 : Nat) + 1).toInt32)) &&& 1)), .val (.int ((f3_12 ((2 : Nat).toInt32)) &&& 1))] [(.int ((f3_12 ((2 : Nat).toInt32)) &&& 1))])) _
        refine XS.iload X188.here hx rfl (hb hby at_154) rfl ?_
        show Steps p.tables e below (T188.setTop (mkF m 156 #[.val (.int p0), .val (.long q1), .second, .val (.int p2), .val (.int p3), .val (.int p4), .val (.long q5), .second, .val (.int (3 : Int32)), .val (.int (1 : Int32)), .val (.ref b162), .val (.int ((f3_12 (0 : Int32)) &&& 1)), .val (.int ((f3_12 (((2 : Nat) + 1).toInt32)) &&& 1)), .val (.int ((f3_12 ((2 : Nat).toInt32)) &&& 1))] [(.int (1 : Int32)), (.int ((f3_12 ((2 : Nat).toInt32)) &&& 1))])) _
        refine XS.iload X188.here hx rfl (hb hby at_156) rfl ?_
        show Steps p.tables e below (T188.setTop (mkF m 158 #[.val (.int p0), .val (.long q1), .second, .val (.int p2), .val (.int p3), .val (.int p4), .val (.long q5), .second, .val (.int (3 : Int32)), .val (.int (1 : Int32)), .val (.ref b162), .val (.int ((f3_12 (0 : Int32)) &&& 1)), .val (.int ((f3_12 (((2 : Nat) + 1).toInt32)) &&& 1)), .val (.int ((f3_12 ((2 : Nat).toInt32)) &&& 1))] [(.int (3 : Int32)), (.int (1 : Int32)), (.int ((f3_12 ((2 : Nat).toInt32)) &&& 1))])) _
        refine XS.icmpYes X188.here hx rfl (pc0 := 158) (pc' := 165) rfl (hb hby at_158) rfl (feq (show ¬ ((1 : Int32) = (3 : Int32)) by decide)).2 (by decide) (by decide) ?_
        show Steps p.tables e below (T188.setTop (mkF m 165 #[.val (.int p0), .val (.long q1), .second, .val (.int p2), .val (.int p3), .val (.int p4), .val (.long q5), .second, .val (.int (3 : Int32)), .val (.int (1 : Int32)), .val (.ref b162), .val (.int ((f3_12 (0 : Int32)) &&& 1)), .val (.int ((f3_12 (((2 : Nat) + 1).toInt32)) &&& 1)), .val (.int ((f3_12 ((2 : Nat).toInt32)) &&& 1))] [(.int ((f3_12 ((2 : Nat).toInt32)) &&& 1))])) _
        refine XS.iconst X188.here hx rfl (hb hby at_165) ?_
        show Steps p.tables e below (T188.setTop (mkF m 166 #[.val (.int p0), .val (.long q1), .second, .val (.int p2), .val (.int p3), .val (.int p4), .val (.long q5), .second, .val (.int (3 : Int32)), .val (.int (1 : Int32)), .val (.ref b162), .val (.int ((f3_12 (0 : Int32)) &&& 1)), .val (.int ((f3_12 (((2 : Nat) + 1).toInt32)) &&& 1)), .val (.int ((f3_12 ((2 : Nat).toInt32)) &&& 1))] [(.int (0 : Int32)), (.int ((f3_12 ((2 : Nat).toInt32)) &&& 1))])) _
        refine XS.icmpNo X188.here hx rfl (hb hby at_166) rfl (teq (show ((f3_12 ((2 : Nat).toInt32)) &&& 1) = (0 : Int32) from by decide)).2 ?_
        show Steps p.tables e below (T188.setTop (mkF m 169 #[.val (.int p0), .val (.long q1), .second, .val (.int p2), .val (.int p3), .val (.int p4), .val (.long q5), .second, .val (.int (3 : Int32)), .val (.int (1 : Int32)), .val (.ref b162), .val (.int ((f3_12 (0 : Int32)) &&& 1)), .val (.int ((f3_12 (((2 : Nat) + 1).toInt32)) &&& 1)), .val (.int ((f3_12 ((2 : Nat).toInt32)) &&& 1))] [])) _
        refine XS.iconst X188.here hx rfl (hb hby at_169) ?_
        show Steps p.tables e below (T188.setTop (mkF m 170 #[.val (.int p0), .val (.long q1), .second, .val (.int p2), .val (.int p3), .val (.int p4), .val (.long q5), .second, .val (.int (3 : Int32)), .val (.int (1 : Int32)), .val (.ref b162), .val (.int ((f3_12 (0 : Int32)) &&& 1)), .val (.int ((f3_12 (((2 : Nat) + 1).toInt32)) &&& 1)), .val (.int ((f3_12 ((2 : Nat).toInt32)) &&& 1))] [(.int (1 : Int32))])) _
        refine XS.goto X188.here hx rfl (pc0 := 170) (pc' := 174) rfl (hb hby at_170) (by decide) (by decide) ?_
        show Steps p.tables e below (T188.setTop (mkF m 174 #[.val (.int p0), .val (.long q1), .second, .val (.int p2), .val (.int p3), .val (.int p4), .val (.long q5), .second, .val (.int (3 : Int32)), .val (.int (1 : Int32)), .val (.ref b162), .val (.int ((f3_12 (0 : Int32)) &&& 1)), .val (.int ((f3_12 (((2 : Nat) + 1).toInt32)) &&& 1)), .val (.int ((f3_12 ((2 : Nat).toInt32)) &&& 1))] [(.int (1 : Int32))])) _
        exact k)
      obtain ⟨fs, hr, hrun, hended, hW, hsame⟩ := X188.leave (v := some (.int (1 : Int32))) (fun h => by rw [Bd.returns] at h; cases h)
      refine ⟨_, _, pre189 _ ?_, hrun, hended, _, _, rfl, ?_, ⟨_, rfl⟩, hW, hsame.mono (by decide) (by decide)⟩
      · exact retN X188 hx (t := .boolean) Bd.returns (by simp) (hb hby at_174) hr
      · show Q0 Z p0 q1 p2 p3 p4 q5 h0 n0 _ T188.heap _
        rw [hh188]
        exact ⟨rfl, N188⟩
    · have pre190 : ∀ t, Steps p.tables e below (s₁.setTop (mkF m 18 #[.val (.int p0), .val (.long q1), .second, .val (.int p2), .val (.int p3), .val (.int p4), .val (.long q5), .second, .val (.int (3 : Int32)), .val (.int (2 : Int32)), .unset, .unset, .unset, .unset] [])) t → Steps p.tables e below (s₁.setTop (entryFrame m #[(.int p0), (.long q1), (.int p2), (.int p3), (.int p4), (.long q5)] maxLocals)) t := fun t k => pre135 t (by rw [hk]; exact k)
      obtain ⟨T191, h191, X191, e191, Ex191, Ne191, D191, -, st191⟩ := newO X0 hx hZ hown (hw _ (List.mem_of_getElem? (i := 1) rfl)) (hw _ (List.mem_of_getElem? (i := 2) rfl)) (hw _ (List.mem_of_getElem? (i := 3) rfl)) e0 (g := (mkF m 18 #[.val (.int p0), .val (.long q1), .second, .val (.int p2), .val (.int p3), .val (.int p4), .val (.long q5), .second, .val (.int (3 : Int32)), .val (.int (2 : Int32)), .unset, .unset, .unset, .unset] [])) rfl (hb hby at_18) (by decide) (by decide)
      obtain ⟨b191, g191⟩ : ∃ z, z = h0.size := ⟨_, rfl⟩
      rw [← g191] at Ne191 D191 st191
      have g_b191 : n0 ≤ b191 := Nat.le_trans (Nat.le_trans Z0 (Nat.le_refl _)) (Nat.le_of_eq g191.symm)
      have sz_b191 : h0.size ≤ b191 := Nat.le_trans (Nat.le_refl _) (Nat.le_of_eq g191.symm)
      have SZ193 : h0.size ≤ h191.size := Nat.le_trans (Nat.le_refl _) Ex191.1
      have ZZ193 : n0 ≤ h191.size := Nat.le_trans Z0 SZ193
      have K194 : Keep h0 h191 [] := ((Keep.refl h0 [])).ext Ex191
      have F_ranks_b191_191 : Fld Z h191 b191 "com/example/brisk_maze/briskmaze/search/RankedFrontier" "ranks" "[J" .null := D191 (Or.inl (hw _ (List.mem_of_getElem? (i := 12) rfl))) (ty := (.array .long)) (by decide)
      have F_costs_b191_191 : Fld Z h191 b191 "com/example/brisk_maze/briskmaze/search/RankedFrontier" "costs" "[I" .null := D191 (Or.inl (hw _ (List.mem_of_getElem? (i := 15) rfl))) (ty := (.array .int)) (by decide)
      have F_states_b191_191 : Fld Z h191 b191 "com/example/brisk_maze/briskmaze/search/RankedFrontier" "states" "[I" .null := D191 (Or.inl (hw _ (List.mem_of_getElem? (i := 17) rfl))) (ty := (.array .int)) (by decide)
      have F_size_b191_191 : Fld Z h191 b191 "com/example/brisk_maze/briskmaze/search/RankedFrontier" "size" "I" (.int (0 : Int32)) := D191 (Or.inl (hw _ (List.mem_of_getElem? (i := 24) rfl))) (ty := .int) (by decide)
      obtain ⟨_, _, ⟨T195, L195, k195, n195⟩, -, X195, ⟨Lc195, hQ195, l195, y195, z195⟩, st195⟩ := X191.specialBack hx (y := (⟨"com/example/brisk_maze/briskmaze/search/RankedFrontier", "<init>", "()V"⟩ : MethodName)) rfl hown (mvT hZ (hw _ (List.mem_of_getElem? (i := 4) rfl))) (mvT hZ (hw _ (List.mem_of_getElem? (i := 5) rfl))) (mvT hZ (hw _ (List.mem_of_getElem? (i := 6) rfl))) (by decide) (backOf (W := 1) (rm1 l Z a0 hw [] b191 h191 n0 ZZ193 F_ranks_b191_191 F_costs_b191_191 F_states_b191_191 Ne191 F_size_b191_191 g_b191) hZ (hw _ (List.mem_of_getElem? (i := 6) rfl)) (hw _ (List.mem_of_getElem? (i := 3) rfl)) (by decide) (by decide)) (g := (mkF m 22 #[.val (.int p0), .val (.long q1), .second, .val (.int p2), .val (.int p3), .val (.int p4), .val (.long q5), .second, .val (.int (3 : Int32)), .val (.int (2 : Int32)), .unset, .unset, .unset, .unset] [(.ref b191), (.ref b191)])) rfl (by rw [hml]; rfl) (Steps.refl _) (a := b191) (argsL := []) (rest := [(.ref b191)]) (lenOf pd_4 rfl) rfl (by show 2 * 0 + _ ≤ _; exact Nat.le_of_eq rfl) (hb hby at_22) (fun _ _ => ⟨rfl, e191, (by decide : 1 + 3 ≤ _), (by decide : 4 + 192 ≤ _)⟩)
      dsimp only [Pt.U, Pt.locs, Pt.cells, Pt.slots] at X195 l195 y195 z195 st195 hQ195
      subst l195 y195 z195
      obtain ⟨tr_195, tc_195, ts_195, rfl, N195q, Kc195, sz_tr_195, sz_tc_195, sz_ts_195, ne_tr_tc_195, ne_tr_ts_195, ne_tc_ts_195, P195_0, P195_1, P195_2, P195_3, P195_4, P195_5, P195_6⟩ := hQ195
      have N195 := Fr.app N0 N195q
      have E_b191_196 : Exa Z T195.heap b191 "com/example/brisk_maze/briskmaze/search/RankedFrontier" := (Ne191).keep Kc195
      have SZ197 : h0.size ≤ T195.heap.size := Nat.le_trans SZ193 Kc195.1
      have ZZ197 : n0 ≤ T195.heap.size := Nat.le_trans Z0 SZ197
      have K198 : Keep h0 T195.heap [] := (K194).trans Kc195 (allS (Or.inr sz_b191) all0)
      have ne_b191_tr_195 : b191 ≠ tr_195 := Nat.ne_of_lt (Nat.lt_of_lt_of_le (Ne191).lt sz_tr_195)
      have g_tr_195 : n0 ≤ tr_195 := Nat.le_trans (Nat.le_trans Z0 SZ193) sz_tr_195
      have szz_tr_195 : h0.size ≤ tr_195 := Nat.le_trans SZ193 sz_tr_195
      have ne_b191_tc_195 : b191 ≠ tc_195 := Nat.ne_of_lt (Nat.lt_of_lt_of_le (Ne191).lt sz_tc_195)
      have g_tc_195 : n0 ≤ tc_195 := Nat.le_trans (Nat.le_trans Z0 SZ193) sz_tc_195
      have szz_tc_195 : h0.size ≤ tc_195 := Nat.le_trans SZ193 sz_tc_195
      have ne_b191_ts_195 : b191 ≠ ts_195 := Nat.ne_of_lt (Nat.lt_of_lt_of_le (Ne191).lt sz_ts_195)
      have g_ts_195 : n0 ≤ ts_195 := Nat.le_trans (Nat.le_trans Z0 SZ193) sz_ts_195
      have szz_ts_195 : h0.size ≤ ts_195 := Nat.le_trans SZ193 sz_ts_195
      obtain ⟨cq199, kq199, q199a, q199b, q199c⟩ := isOf hZ rfl (E_b191_196)
      obtain ⟨_, _, ⟨T199, L199, k199, n199⟩, -, X199, ⟨Lc199, hQ199, l199, y199, z199⟩, st199⟩ := X195.virtualBack hx (y := (⟨"com/example/brisk_maze/briskmaze/search/RankedFrontier", "isEmpty", "()Z"⟩ : MethodName)) (z := (⟨"com/example/brisk_maze/briskmaze/search/RankedFrontier", "isEmpty", "()Z"⟩ : MethodName)) hown (mvT hZ (hw _ (List.mem_of_getElem? (i := 18) rfl))) (mvT hZ (hw _ (List.mem_of_getElem? (i := 19) rfl))) (notFace_of_selects (args := #[]) (mvT hZ (hw _ (List.mem_of_getElem? (i := 21) rfl)))) (mvT hZ (hw _ (List.mem_of_getElem? (i := 21) rfl))) (mvT hZ (hw _ (List.mem_of_getElem? (i := 20) rfl))) (by decide) (backOf (W := 0) (rm3 l Z a0 hw [] b191 (0 : Int32) T195.heap n0 ZZ197 P195_3) hZ (hw _ (List.mem_of_getElem? (i := 22) rfl)) (hw _ (List.mem_of_getElem? (i := 3) rfl)) (by decide) (by decide)) q199a q199c (g := (mkF m 29 #[.val (.int p0), .val (.long q1), .second, .val (.int p2), .val (.int p3), .val (.int p4), .val (.long q5), .second, .val (.int (3 : Int32)), .val (.int (2 : Int32)), .val (.ref b191), .unset, .unset, .unset] [(.ref b191)])) rfl (by rw [hml]; rfl) (Steps.refl _) (argsL := []) (rest := []) (lenOf pd_5 rfl) rfl (by show 2 * 0 + _ ≤ _; exact Nat.le_of_eq rfl) (hb hby at_29) (fun _ _ => ⟨rfl, rfl, (by decide : 4 + 0 ≤ _), (by decide : 196 + 0 ≤ _)⟩)
      dsimp only [Pt.U, Pt.locs, Pt.cells, Pt.slots] at X199 l199 y199 z199 st199 hQ199
      subst l199 y199 z199
      obtain ⟨rfl, N199q, hh199⟩ := hQ199
      have N199 := Fr.app N195 N199q
      obtain ⟨cq200, kq200, q200a, q200b, q200c⟩ := isOf hZ hh199 (E_b191_196)
      obtain ⟨_, _, ⟨T200, L200, k200, n200⟩, -, X200, ⟨Lc200, hQ200, l200, y200, z200⟩, st200⟩ := X199.virtualBack hx (y := (⟨"com/example/brisk_maze/briskmaze/search/RankedFrontier", "add", "(IJI)V"⟩ : MethodName)) (z := (⟨"com/example/brisk_maze/briskmaze/search/RankedFrontier", "add", "(IJI)V"⟩ : MethodName)) hown (mvT hZ (hw _ (List.mem_of_getElem? (i := 25) rfl))) (mvT hZ (hw _ (List.mem_of_getElem? (i := 26) rfl))) (notFace_of_selects (args := #[]) (mvT hZ (hw _ (List.mem_of_getElem? (i := 28) rfl)))) (mvT hZ (hw _ (List.mem_of_getElem? (i := 28) rfl))) (mvT hZ (hw _ (List.mem_of_getElem? (i := 27) rfl))) (by decide) (backOf (W := 0) (rm4 l Z a0 hw [] b191 p0 q1 p2 tr_195 tc_195 ts_195 (fun _ => ((0 : Int64), (0 : Int32), (0 : Int32))) (0 : Nat) T195.heap n0 ZZ197 P195_0 P195_1 P195_2 E_b191_196 P195_3 P195_4 P195_5 P195_6 g_tr_195 g_tc_195 g_ts_195 g_b191 ne_b191_tr_195 ne_b191_tc_195 ne_b191_ts_195 ne_tr_tc_195 ne_tr_ts_195 ne_tc_ts_195 (by decide) (fun j _ j1 => absurd j1 (Nat.not_lt_zero _))) hZ (hw _ (List.mem_of_getElem? (i := 29) rfl)) (hw _ (List.mem_of_getElem? (i := 3) rfl)) (by decide) (by decide)) q200a q200c (g := (mkF m 45 #[.val (.int p0), .val (.long q1), .second, .val (.int p2), .val (.int p3), .val (.int p4), .val (.long q5), .second, .val (.int (3 : Int32)), .val (.int (2 : Int32)), .val (.ref b191), .val (.int ((f3_12 (0 : Int32)) &&& 1)), .unset, .unset] [(.int p2), (.long q1), (.int p0), (.ref b191)])) rfl (by rw [hml]; rfl) (Steps.refl _) (argsL := [(.int p0), (.long q1), (.int p2)]) (rest := []) (lenOf pd_6 rfl) rfl (by show 2 * 0 + _ ≤ _; exact Nat.le_of_eq rfl) (hb hby at_45) (fun _ _ => ⟨rfl, hh199, (by decide : 4 + 0 ≤ _), (by decide : 196 + 0 ≤ _)⟩)
      dsimp only [Pt.U, Pt.locs, Pt.cells, Pt.slots] at X200 l200 y200 z200 st200 hQ200
      subst l200 y200 z200
      obtain ⟨f2_200, rfl, N200q, Kc200, P200_0, P200_1, P200_2, P200_3, P200_4, P200_5, P200_6, P200_7, P200_8⟩ := hQ200
      have N200 := Fr.app N199 N200q
      have E_b191_201 : Exa Z T200.heap b191 "com/example/brisk_maze/briskmaze/search/RankedFrontier" := (E_b191_196).keep Kc200
      have SZ202 : h0.size ≤ T200.heap.size := Nat.le_trans SZ197 Kc200.1
      have ZZ202 : n0 ≤ T200.heap.size := Nat.le_trans Z0 SZ202
      have K203 : Keep h0 T200.heap [] := (K198).trans Kc200 (allS (Or.inr szz_tr_195) (allS (Or.inr szz_tc_195) (allS (Or.inr szz_ts_195) (allS (Or.inr sz_b191) all0))))
      obtain ⟨cq204, kq204, q204a, q204b, q204c⟩ := isOf hZ rfl (E_b191_201)
      obtain ⟨_, _, ⟨T204, L204, k204, n204⟩, -, X204, ⟨Lc204, hQ204, l204, y204, z204⟩, st204⟩ := X200.virtualBack hx (y := (⟨"com/example/brisk_maze/briskmaze/search/RankedFrontier", "add", "(IJI)V"⟩ : MethodName)) (z := (⟨"com/example/brisk_maze/briskmaze/search/RankedFrontier", "add", "(IJI)V"⟩ : MethodName)) hown (mvT hZ (hw _ (List.mem_of_getElem? (i := 25) rfl))) (mvT hZ (hw _ (List.mem_of_getElem? (i := 26) rfl))) (notFace_of_selects (args := #[]) (mvT hZ (hw _ (List.mem_of_getElem? (i := 28) rfl)))) (mvT hZ (hw _ (List.mem_of_getElem? (i := 28) rfl))) (mvT hZ (hw _ (List.mem_of_getElem? (i := 27) rfl))) (by decide) (backOf (W := 0) (rm4 l Z a0 hw [] b191 p2 q5 p0 tr_195 tc_195 ts_195 f2_200 (1 : Nat) T200.heap n0 ZZ202 P200_1 P200_2 P200_3 E_b191_201 P200_0 P200_4 P200_5 P200_6 g_tr_195 g_tc_195 g_ts_195 g_b191 ne_b191_tr_195 ne_b191_tc_195 ne_b191_ts_195 ne_tr_tc_195 ne_tr_ts_195 ne_tc_ts_195 (by decide) P200_7) hZ (hw _ (List.mem_of_getElem? (i := 29) rfl)) (hw _ (List.mem_of_getElem? (i := 3) rfl)) (by decide) (by decide)) q204a q204c (g := (mkF m 60 #[.val (.int p0), .val (.long q1), .second, .val (.int p2), .val (.int p3), .val (.int p4), .val (.long q5), .second, .val (.int (3 : Int32)), .val (.int (2 : Int32)), .val (.ref b191), .val (.int ((f3_12 (0 : Int32)) &&& 1)), .unset, .unset] [(.int p0), (.long q5), (.int p2), (.ref b191)])) rfl (by rw [hml]; rfl) (Steps.refl _) (argsL := [(.int p2), (.long q5), (.int p0)]) (rest := []) (lenOf pd_6 rfl) rfl (by show 2 * 0 + _ ≤ _; exact Nat.le_of_eq rfl) (hb hby at_60) (fun _ _ => ⟨rfl, rfl, (by decide : 4 + 0 ≤ _), (by decide : 196 + 0 ≤ _)⟩)
      dsimp only [Pt.U, Pt.locs, Pt.cells, Pt.slots] at X204 l204 y204 z204 st204 hQ204
      subst l204 y204 z204
      obtain ⟨f2_204, rfl, N204q, Kc204, P204_0, P204_1, P204_2, P204_3, P204_4, P204_5, P204_6, P204_7, P204_8⟩ := hQ204
      have N204 := Fr.app N200 N204q
      have E_b191_205 : Exa Z T204.heap b191 "com/example/brisk_maze/briskmaze/search/RankedFrontier" := (E_b191_201).keep Kc204
      have SZ206 : h0.size ≤ T204.heap.size := Nat.le_trans SZ202 Kc204.1
      have ZZ206 : n0 ≤ T204.heap.size := Nat.le_trans Z0 SZ206
      have K207 : Keep h0 T204.heap [] := (K203).trans Kc204 (allS (Or.inr szz_tr_195) (allS (Or.inr szz_tc_195) (allS (Or.inr szz_ts_195) (allS (Or.inr sz_b191) all0))))
      obtain ⟨cq208, kq208, q208a, q208b, q208c⟩ := isOf hZ rfl (E_b191_205)
      obtain ⟨_, _, ⟨T208, L208, k208, n208⟩, -, X208, ⟨Lc208, hQ208, l208, y208, z208⟩, st208⟩ := X204.virtualBack hx (y := (⟨"com/example/brisk_maze/briskmaze/search/RankedFrontier", "add", "(IJI)V"⟩ : MethodName)) (z := (⟨"com/example/brisk_maze/briskmaze/search/RankedFrontier", "add", "(IJI)V"⟩ : MethodName)) hown (mvT hZ (hw _ (List.mem_of_getElem? (i := 25) rfl))) (mvT hZ (hw _ (List.mem_of_getElem? (i := 26) rfl))) (notFace_of_selects (args := #[]) (mvT hZ (hw _ (List.mem_of_getElem? (i := 28) rfl)))) (mvT hZ (hw _ (List.mem_of_getElem? (i := 28) rfl))) (mvT hZ (hw _ (List.mem_of_getElem? (i := 27) rfl))) (by decide) (backOf (W := 0) (rm4 l Z a0 hw [] b191 p3 (q1 ^^^ q5) p4 tr_195 tc_195 ts_195 f2_204 (2 : Nat) T204.heap n0 ZZ206 P204_1 P204_2 P204_3 E_b191_205 P204_0 P204_4 P204_5 P204_6 g_tr_195 g_tc_195 g_ts_195 g_b191 ne_b191_tr_195 ne_b191_tc_195 ne_b191_ts_195 ne_tr_tc_195 ne_tr_ts_195 ne_tc_ts_195 (by decide) P204_7) hZ (hw _ (List.mem_of_getElem? (i := 29) rfl)) (hw _ (List.mem_of_getElem? (i := 3) rfl)) (by decide) (by decide)) q208a q208c (g := (mkF m 79 #[.val (.int p0), .val (.long q1), .second, .val (.int p2), .val (.int p3), .val (.int p4), .val (.long q5), .second, .val (.int (3 : Int32)), .val (.int (2 : Int32)), .val (.ref b191), .val (.int ((f3_12 (0 : Int32)) &&& 1)), .unset, .unset] [(.int p4), (.long (q1 ^^^ q5)), (.int p3), (.ref b191)])) rfl (by rw [hml]; rfl) (Steps.refl _) (argsL := [(.int p3), (.long (q1 ^^^ q5)), (.int p4)]) (rest := []) (lenOf pd_6 rfl) rfl (by show 2 * 0 + _ ≤ _; exact Nat.le_of_eq rfl) (hb hby at_79) (fun _ _ => ⟨rfl, rfl, (by decide : 4 + 0 ≤ _), (by decide : 196 + 0 ≤ _)⟩)
      dsimp only [Pt.U, Pt.locs, Pt.cells, Pt.slots] at X208 l208 y208 z208 st208 hQ208
      subst l208 y208 z208
      obtain ⟨f2_208, rfl, N208q, Kc208, P208_0, P208_1, P208_2, P208_3, P208_4, P208_5, P208_6, P208_7, P208_8⟩ := hQ208
      have N208 := Fr.app N204 N208q
      have E_b191_209 : Exa Z T208.heap b191 "com/example/brisk_maze/briskmaze/search/RankedFrontier" := (E_b191_205).keep Kc208
      have SZ210 : h0.size ≤ T208.heap.size := Nat.le_trans SZ206 Kc208.1
      have ZZ210 : n0 ≤ T208.heap.size := Nat.le_trans Z0 SZ210
      have K211 : Keep h0 T208.heap [] := (K207).trans Kc208 (allS (Or.inr szz_tr_195) (allS (Or.inr szz_tc_195) (allS (Or.inr szz_ts_195) (allS (Or.inr sz_b191) all0))))
      obtain ⟨cq212, kq212, q212a, q212b, q212c⟩ := isOf hZ rfl (E_b191_209)
      obtain ⟨_, _, ⟨T212, L212, k212, n212⟩, -, X212, ⟨Lc212, hQ212, l212, y212, z212⟩, st212⟩ := X208.virtualBack hx (y := (⟨"com/example/brisk_maze/briskmaze/search/RankedFrontier", "isEmpty", "()Z"⟩ : MethodName)) (z := (⟨"com/example/brisk_maze/briskmaze/search/RankedFrontier", "isEmpty", "()Z"⟩ : MethodName)) hown (mvT hZ (hw _ (List.mem_of_getElem? (i := 18) rfl))) (mvT hZ (hw _ (List.mem_of_getElem? (i := 19) rfl))) (notFace_of_selects (args := #[]) (mvT hZ (hw _ (List.mem_of_getElem? (i := 21) rfl)))) (mvT hZ (hw _ (List.mem_of_getElem? (i := 21) rfl))) (mvT hZ (hw _ (List.mem_of_getElem? (i := 20) rfl))) (by decide) (backOf (W := 0) (rm3 l Z a0 hw [] b191 (((2 : Nat) + 1).toInt32) T208.heap n0 ZZ210 P208_0) hZ (hw _ (List.mem_of_getElem? (i := 22) rfl)) (hw _ (List.mem_of_getElem? (i := 3) rfl)) (by decide) (by decide)) q212a q212c (g := (mkF m 84 #[.val (.int p0), .val (.long q1), .second, .val (.int p2), .val (.int p3), .val (.int p4), .val (.long q5), .second, .val (.int (3 : Int32)), .val (.int (2 : Int32)), .val (.ref b191), .val (.int ((f3_12 (0 : Int32)) &&& 1)), .unset, .unset] [(.ref b191)])) rfl (by rw [hml]; rfl) (Steps.refl _) (argsL := []) (rest := []) (lenOf pd_5 rfl) rfl (by show 2 * 0 + _ ≤ _; exact Nat.le_of_eq rfl) (hb hby at_84) (fun _ _ => ⟨rfl, rfl, (by decide : 4 + 0 ≤ _), (by decide : 196 + 0 ≤ _)⟩)
      dsimp only [Pt.U, Pt.locs, Pt.cells, Pt.slots] at X212 l212 y212 z212 st212 hQ212
      subst l212 y212 z212
      obtain ⟨rfl, N212q, hh212⟩ := hQ212
      have N212 := Fr.app N208 N212q
      obtain ⟨cq213, kq213, q213a, q213b, q213c⟩ := isOf hZ hh212 (E_b191_209)
      obtain ⟨_, _, ⟨T213, L213, k213, n213⟩, -, X213, ⟨Lc213, hQ213, l213, y213, z213⟩, st213⟩ := X212.virtualBack hx (y := (⟨"com/example/brisk_maze/briskmaze/search/RankedFrontier", "removeFirst", "()I"⟩ : MethodName)) (z := (⟨"com/example/brisk_maze/briskmaze/search/RankedFrontier", "removeFirst", "()I"⟩ : MethodName)) hown (mvT hZ (hw _ (List.mem_of_getElem? (i := 34) rfl))) (mvT hZ (hw _ (List.mem_of_getElem? (i := 35) rfl))) (notFace_of_selects (args := #[]) (mvT hZ (hw _ (List.mem_of_getElem? (i := 37) rfl)))) (mvT hZ (hw _ (List.mem_of_getElem? (i := 37) rfl))) (mvT hZ (hw _ (List.mem_of_getElem? (i := 36) rfl))) (by decide) (backOf (W := 0) (rm6 l Z a0 hw [] b191 tr_195 tc_195 ts_195 f2_208 (2 : Nat) T208.heap n0 ZZ210 P208_1 P208_2 P208_3 E_b191_209 P208_0 P208_4 P208_5 P208_6 g_tr_195 g_tc_195 g_ts_195 g_b191 ne_b191_tr_195 ne_b191_tc_195 ne_b191_ts_195 ne_tr_tc_195 ne_tr_ts_195 ne_tc_ts_195 (by decide) P208_7) hZ (hw _ (List.mem_of_getElem? (i := 38) rfl)) (hw _ (List.mem_of_getElem? (i := 3) rfl)) (by decide) (by decide)) q213a q213c (g := (mkF m 97 #[.val (.int p0), .val (.long q1), .second, .val (.int p2), .val (.int p3), .val (.int p4), .val (.long q5), .second, .val (.int (3 : Int32)), .val (.int (2 : Int32)), .val (.ref b191), .val (.int ((f3_12 (0 : Int32)) &&& 1)), .val (.int ((f3_12 (((2 : Nat) + 1).toInt32)) &&& 1)), .unset] [(.ref b191)])) rfl (by rw [hml]; rfl) (Steps.refl _) (argsL := []) (rest := []) (lenOf pd_7 rfl) rfl (by show 2 * 0 + _ ≤ _; exact Nat.le_of_eq rfl) (hb hby at_97) (fun _ _ => ⟨rfl, hh212, (by decide : 4 + 0 ≤ _), (by decide : 196 + 0 ≤ _)⟩)
      dsimp only [Pt.U, Pt.locs, Pt.cells, Pt.slots] at X213 l213 y213 z213 st213 hQ213
      subst l213 y213 z213
      obtain ⟨f2_213, rfl, N213q, Kc213, P213_0, P213_1, P213_2, P213_3, P213_4, P213_5, P213_6, P213_7, P213_8⟩ := hQ213
      have N213 := Fr.app N212 N213q
      have E_b191_214 : Exa Z T213.heap b191 "com/example/brisk_maze/briskmaze/search/RankedFrontier" := (E_b191_209).keep Kc213
      have SZ215 : h0.size ≤ T213.heap.size := Nat.le_trans SZ210 Kc213.1
      have ZZ215 : n0 ≤ T213.heap.size := Nat.le_trans Z0 SZ215
      have K216 : Keep h0 T213.heap [] := (K211).trans Kc213 (allS (Or.inr szz_tr_195) (allS (Or.inr szz_tc_195) (allS (Or.inr szz_ts_195) (allS (Or.inr sz_b191) all0))))
      obtain ⟨cq217, kq217, q217a, q217b, q217c⟩ := isOf hZ rfl (E_b191_214)
      obtain ⟨_, _, ⟨T217, L217, k217, n217⟩, -, X217, ⟨Lc217, hQ217, l217, y217, z217⟩, st217⟩ := X213.virtualBack hx (y := (⟨"com/example/brisk_maze/briskmaze/search/RankedFrontier", "removeFirst", "()I"⟩ : MethodName)) (z := (⟨"com/example/brisk_maze/briskmaze/search/RankedFrontier", "removeFirst", "()I"⟩ : MethodName)) hown (mvT hZ (hw _ (List.mem_of_getElem? (i := 34) rfl))) (mvT hZ (hw _ (List.mem_of_getElem? (i := 35) rfl))) (notFace_of_selects (args := #[]) (mvT hZ (hw _ (List.mem_of_getElem? (i := 37) rfl)))) (mvT hZ (hw _ (List.mem_of_getElem? (i := 37) rfl))) (mvT hZ (hw _ (List.mem_of_getElem? (i := 36) rfl))) (by decide) (backOf (W := 0) (rm6 l Z a0 hw [] b191 tr_195 tc_195 ts_195 f2_213 (1 : Nat) T213.heap n0 ZZ215 P213_1 P213_2 P213_3 E_b191_214 P213_0 P213_4 P213_5 P213_6 g_tr_195 g_tc_195 g_ts_195 g_b191 ne_b191_tr_195 ne_b191_tc_195 ne_b191_ts_195 ne_tr_tc_195 ne_tr_ts_195 ne_tc_ts_195 (by decide) P213_7) hZ (hw _ (List.mem_of_getElem? (i := 38) rfl)) (hw _ (List.mem_of_getElem? (i := 3) rfl)) (by decide) (by decide)) q217a q217c (g := (mkF m 109 #[.val (.int p0), .val (.long q1), .second, .val (.int p2), .val (.int p3), .val (.int p4), .val (.long q5), .second, .val (.int (3 : Int32)), .val (.int (2 : Int32)), .val (.ref b191), .val (.int ((f3_12 (0 : Int32)) &&& 1)), .val (.int ((f3_12 (((2 : Nat) + 1).toInt32)) &&& 1)), .unset] [(.ref b191)])) rfl (by rw [hml]; rfl) (Steps.refl _) (argsL := []) (rest := []) (lenOf pd_7 rfl) rfl (by show 2 * 0 + _ ≤ _; exact Nat.le_of_eq rfl) (hb hby at_109) (fun _ _ => ⟨rfl, rfl, (by decide : 4 + 0 ≤ _), (by decide : 196 + 0 ≤ _)⟩)
      dsimp only [Pt.U, Pt.locs, Pt.cells, Pt.slots] at X217 l217 y217 z217 st217 hQ217
      subst l217 y217 z217
      obtain ⟨f2_217, rfl, N217q, Kc217, P217_0, P217_1, P217_2, P217_3, P217_4, P217_5, P217_6, P217_7, P217_8⟩ := hQ217
      have N217 := Fr.app N213 N217q
      have E_b191_218 : Exa Z T217.heap b191 "com/example/brisk_maze/briskmaze/search/RankedFrontier" := (E_b191_214).keep Kc217
      have SZ219 : h0.size ≤ T217.heap.size := Nat.le_trans SZ215 Kc217.1
      have ZZ219 : n0 ≤ T217.heap.size := Nat.le_trans Z0 SZ219
      have K220 : Keep h0 T217.heap [] := (K216).trans Kc217 (allS (Or.inr szz_tr_195) (allS (Or.inr szz_tc_195) (allS (Or.inr szz_ts_195) (allS (Or.inr sz_b191) all0))))
      obtain ⟨cq221, kq221, q221a, q221b, q221c⟩ := isOf hZ rfl (E_b191_218)
      obtain ⟨_, _, ⟨T221, L221, k221, n221⟩, -, X221, ⟨Lc221, hQ221, l221, y221, z221⟩, st221⟩ := X217.virtualBack hx (y := (⟨"com/example/brisk_maze/briskmaze/search/RankedFrontier", "isEmpty", "()Z"⟩ : MethodName)) (z := (⟨"com/example/brisk_maze/briskmaze/search/RankedFrontier", "isEmpty", "()Z"⟩ : MethodName)) hown (mvT hZ (hw _ (List.mem_of_getElem? (i := 18) rfl))) (mvT hZ (hw _ (List.mem_of_getElem? (i := 19) rfl))) (notFace_of_selects (args := #[]) (mvT hZ (hw _ (List.mem_of_getElem? (i := 21) rfl)))) (mvT hZ (hw _ (List.mem_of_getElem? (i := 21) rfl))) (mvT hZ (hw _ (List.mem_of_getElem? (i := 20) rfl))) (by decide) (backOf (W := 0) (rm3 l Z a0 hw [] b191 ((1 : Nat).toInt32) T217.heap n0 ZZ219 P217_0) hZ (hw _ (List.mem_of_getElem? (i := 22) rfl)) (hw _ (List.mem_of_getElem? (i := 3) rfl)) (by decide) (by decide)) q221a q221c (g := (mkF m 127 #[.val (.int p0), .val (.long q1), .second, .val (.int p2), .val (.int p3), .val (.int p4), .val (.long q5), .second, .val (.int (3 : Int32)), .val (.int (2 : Int32)), .val (.ref b191), .val (.int ((f3_12 (0 : Int32)) &&& 1)), .val (.int ((f3_12 (((2 : Nat) + 1).toInt32)) &&& 1)), .unset] [(.ref b191)])) rfl (by rw [hml]; rfl) (Steps.refl _) (argsL := []) (rest := []) (lenOf pd_5 rfl) rfl (by show 2 * 0 + _ ≤ _; exact Nat.le_of_eq rfl) (hb hby at_127) (fun _ _ => ⟨rfl, rfl, (by decide : 4 + 0 ≤ _), (by decide : 196 + 0 ≤ _)⟩)
      dsimp only [Pt.U, Pt.locs, Pt.cells, Pt.slots] at X221 l221 y221 z221 st221 hQ221
      subst l221 y221 z221
      obtain ⟨rfl, N221q, hh221⟩ := hQ221
      have N221 := Fr.app N217 N221q
      have pre222 : ∀ t, Steps p.tables e below (T221.setTop (mkF m 174 #[.val (.int p0), .val (.long q1), .second, .val (.int p2), .val (.int p3), .val (.int p4), .val (.long q5), .second, .val (.int (3 : Int32)), .val (.int (2 : Int32)), .val (.ref b191), .val (.int ((f3_12 (0 : Int32)) &&& 1)), .val (.int ((f3_12 (((2 : Nat) + 1).toInt32)) &&& 1)), .val (.int ((f3_12 ((1 : Nat).toInt32)) &&& 1))] [(.int (1 : Int32))])) t → Steps p.tables e below (s₁.setTop (entryFrame m #[(.int p0), (.long q1), (.int p2), (.int p3), (.int p4), (.long q5)] maxLocals)) t := fun t k => pre190 t (by
        show Steps p.tables e below (s₁.setTop (mkF m 18 #[.val (.int p0), .val (.long q1), .second, .val (.int p2), .val (.int p3), .val (.int p4), .val (.long q5), .second, .val (.int (3 : Int32)), .val (.int (2 : Int32)), .unset, .unset, .unset, .unset] [])) _
        refine st191 _ ?_
        show Steps p.tables e below (T191.setTop (mkF m 21 #[.val (.int p0), .val (.long q1), .second, .val (.int p2), .val (.int p3), .val (.int p4), .val (.long q5), .second, .val (.int (3 : Int32)), .val (.int (2 : Int32)), .unset, .unset, .unset, .unset] [(.ref b191)])) _
        refine XS.dup X191.here hx rfl (hb hby at_21) rfl rfl ?_
        show Steps p.tables e below (T191.setTop (mkF m 22 #[.val (.int p0), .val (.long q1), .second, .val (.int p2), .val (.int p3), .val (.int p4), .val (.long q5), .second, .val (.int (3 : Int32)), .val (.int (2 : Int32)), .unset, .unset, .unset, .unset] [(.ref b191), (.ref b191)])) _
        refine st195.trans ?_
        show Steps p.tables e below (T195.setTop (mkF m 25 #[.val (.int p0), .val (.long q1), .second, .val (.int p2), .val (.int p3), .val (.int p4), .val (.long q5), .second, .val (.int (3 : Int32)), .val (.int (2 : Int32)), .unset, .unset, .unset, .unset] [(.ref b191)])) _
        refine XS.astore X195.here hx rfl (hb hby at_25) rfl rfl (l' := #[.val (.int p0), .val (.long q1), .second, .val (.int p2), .val (.int p3), .val (.int p4), .val (.long q5), .second, .val (.int (3 : Int32)), .val (.int (2 : Int32)), .val (.ref b191), .unset, .unset, .unset]) rfl ?_
        show Steps p.tables e below (T195.setTop (mkF m 27 #[.val (.int p0), .val (.long q1), .second, .val (.int p2), .val (.int p3), .val (.int p4), .val (.long q5), .second, .val (.int (3 : Int32)), .val (.int (2 : Int32)), .val (.ref b191), .unset, .unset, .unset] [])) _
        refine XS.aload X195.here hx rfl (hb hby at_27) rfl rfl ?_
        show Steps p.tables e below (T195.setTop (mkF m 29 #[.val (.int p0), .val (.long q1), .second, .val (.int p2), .val (.int p3), .val (.int p4), .val (.long q5), .second, .val (.int (3 : Int32)), .val (.int (2 : Int32)), .val (.ref b191), .unset, .unset, .unset] [(.ref b191)])) _
        refine st199.trans ?_
        show Steps p.tables e below (T199.setTop (mkF m 32 #[.val (.int p0), .val (.long q1), .second, .val (.int p2), .val (.int p3), .val (.int p4), .val (.long q5), .second, .val (.int (3 : Int32)), .val (.int (2 : Int32)), .val (.ref b191), .unset, .unset, .unset] [(.int ((f3_12 (0 : Int32)) &&& 1))])) _
        refine XS.istore X199.here hx rfl (hb hby at_32) rfl (l' := #[.val (.int p0), .val (.long q1), .second, .val (.int p2), .val (.int p3), .val (.int p4), .val (.long q5), .second, .val (.int (3 : Int32)), .val (.int (2 : Int32)), .val (.ref b191), .val (.int ((f3_12 (0 : Int32)) &&& 1)), .unset, .unset]) rfl ?_
        show Steps p.tables e below (T199.setTop (mkF m 34 #[.val (.int p0), .val (.long q1), .second, .val (.int p2), .val (.int p3), .val (.int p4), .val (.long q5), .second, .val (.int (3 : Int32)), .val (.int (2 : Int32)), .val (.ref b191), .val (.int ((f3_12 (0 : Int32)) &&& 1)), .unset, .unset] [])) _
        refine XS.iload X199.here hx rfl (hb hby at_34) rfl ?_
        show Steps p.tables e below (T199.setTop (mkF m 36 #[.val (.int p0), .val (.long q1), .second, .val (.int p2), .val (.int p3), .val (.int p4), .val (.long q5), .second, .val (.int (3 : Int32)), .val (.int (2 : Int32)), .val (.ref b191), .val (.int ((f3_12 (0 : Int32)) &&& 1)), .unset, .unset] [(.int (3 : Int32))])) _
        refine XS.iconst X199.here hx rfl (hb hby at_36) ?_
        show Steps p.tables e below (T199.setTop (mkF m 37 #[.val (.int p0), .val (.long q1), .second, .val (.int p2), .val (.int p3), .val (.int p4), .val (.long q5), .second, .val (.int (3 : Int32)), .val (.int (2 : Int32)), .val (.ref b191), .val (.int ((f3_12 (0 : Int32)) &&& 1)), .unset, .unset] [(.int (1 : Int32)), (.int (3 : Int32))])) _
        refine XS.icmpNo X199.here hx rfl (hb hby at_37) rfl (flt (show ¬ ((3 : Int32) < (1 : Int32)) by decide)).1 ?_
        show Steps p.tables e below (T199.setTop (mkF m 40 #[.val (.int p0), .val (.long q1), .second, .val (.int p2), .val (.int p3), .val (.int p4), .val (.long q5), .second, .val (.int (3 : Int32)), .val (.int (2 : Int32)), .val (.ref b191), .val (.int ((f3_12 (0 : Int32)) &&& 1)), .unset, .unset] [])) _
        refine XS.aload X199.here hx rfl (hb hby at_40) rfl rfl ?_
        show Steps p.tables e below (T199.setTop (mkF m 42 #[.val (.int p0), .val (.long q1), .second, .val (.int p2), .val (.int p3), .val (.int p4), .val (.long q5), .second, .val (.int (3 : Int32)), .val (.int (2 : Int32)), .val (.ref b191), .val (.int ((f3_12 (0 : Int32)) &&& 1)), .unset, .unset] [(.ref b191)])) _
        refine XS.iloadN X199.here hx rfl (hb hby at_42) rfl ?_
        show Steps p.tables e below (T199.setTop (mkF m 43 #[.val (.int p0), .val (.long q1), .second, .val (.int p2), .val (.int p3), .val (.int p4), .val (.long q5), .second, .val (.int (3 : Int32)), .val (.int (2 : Int32)), .val (.ref b191), .val (.int ((f3_12 (0 : Int32)) &&& 1)), .unset, .unset] [(.int p0), (.ref b191)])) _
        refine XS.lloadN X199.here hx rfl (hb hby at_43) rfl ?_
        show Steps p.tables e below (T199.setTop (mkF m 44 #[.val (.int p0), .val (.long q1), .second, .val (.int p2), .val (.int p3), .val (.int p4), .val (.long q5), .second, .val (.int (3 : Int32)), .val (.int (2 : Int32)), .val (.ref b191), .val (.int ((f3_12 (0 : Int32)) &&& 1)), .unset, .unset] [(.long q1), (.int p0), (.ref b191)])) _
        refine XS.iloadN X199.here hx rfl (hb hby at_44) rfl ?_
        show Steps p.tables e below (T199.setTop (mkF m 45 #[.val (.int p0), .val (.long q1), .second, .val (.int p2), .val (.int p3), .val (.int p4), .val (.long q5), .second, .val (.int (3 : Int32)), .val (.int (2 : Int32)), .val (.ref b191), .val (.int ((f3_12 (0 : Int32)) &&& 1)), .unset, .unset] [(.int p2), (.long q1), (.int p0), (.ref b191)])) _
        refine st200.trans ?_
        show Steps p.tables e below (T200.setTop (mkF m 48 #[.val (.int p0), .val (.long q1), .second, .val (.int p2), .val (.int p3), .val (.int p4), .val (.long q5), .second, .val (.int (3 : Int32)), .val (.int (2 : Int32)), .val (.ref b191), .val (.int ((f3_12 (0 : Int32)) &&& 1)), .unset, .unset] [])) _
        refine XS.iload X200.here hx rfl (hb hby at_48) rfl ?_
        show Steps p.tables e below (T200.setTop (mkF m 50 #[.val (.int p0), .val (.long q1), .second, .val (.int p2), .val (.int p3), .val (.int p4), .val (.long q5), .second, .val (.int (3 : Int32)), .val (.int (2 : Int32)), .val (.ref b191), .val (.int ((f3_12 (0 : Int32)) &&& 1)), .unset, .unset] [(.int (3 : Int32))])) _
        refine XS.iconst X200.here hx rfl (hb hby at_50) ?_
        show Steps p.tables e below (T200.setTop (mkF m 51 #[.val (.int p0), .val (.long q1), .second, .val (.int p2), .val (.int p3), .val (.int p4), .val (.long q5), .second, .val (.int (3 : Int32)), .val (.int (2 : Int32)), .val (.ref b191), .val (.int ((f3_12 (0 : Int32)) &&& 1)), .unset, .unset] [(.int (2 : Int32)), (.int (3 : Int32))])) _
        refine XS.icmpNo X200.here hx rfl (hb hby at_51) rfl (flt (show ¬ ((3 : Int32) < (2 : Int32)) by decide)).1 ?_
        show Steps p.tables e below (T200.setTop (mkF m 54 #[.val (.int p0), .val (.long q1), .second, .val (.int p2), .val (.int p3), .val (.int p4), .val (.long q5), .second, .val (.int (3 : Int32)), .val (.int (2 : Int32)), .val (.ref b191), .val (.int ((f3_12 (0 : Int32)) &&& 1)), .unset, .unset] [])) _
        refine XS.aload X200.here hx rfl (hb hby at_54) rfl rfl ?_
        show Steps p.tables e below (T200.setTop (mkF m 56 #[.val (.int p0), .val (.long q1), .second, .val (.int p2), .val (.int p3), .val (.int p4), .val (.long q5), .second, .val (.int (3 : Int32)), .val (.int (2 : Int32)), .val (.ref b191), .val (.int ((f3_12 (0 : Int32)) &&& 1)), .unset, .unset] [(.ref b191)])) _
        refine XS.iloadN X200.here hx rfl (hb hby at_56) rfl ?_
        show Steps p.tables e below (T200.setTop (mkF m 57 #[.val (.int p0), .val (.long q1), .second, .val (.int p2), .val (.int p3), .val (.int p4), .val (.long q5), .second, .val (.int (3 : Int32)), .val (.int (2 : Int32)), .val (.ref b191), .val (.int ((f3_12 (0 : Int32)) &&& 1)), .unset, .unset] [(.int p2), (.ref b191)])) _
        refine XS.lload X200.here hx rfl (hb hby at_57) rfl ?_
        show Steps p.tables e below (T200.setTop (mkF m 59 #[.val (.int p0), .val (.long q1), .second, .val (.int p2), .val (.int p3), .val (.int p4), .val (.long q5), .second, .val (.int (3 : Int32)), .val (.int (2 : Int32)), .val (.ref b191), .val (.int ((f3_12 (0 : Int32)) &&& 1)), .unset, .unset] [(.long q5), (.int p2), (.ref b191)])) _
        refine XS.iloadN X200.here hx rfl (hb hby at_59) rfl ?_
        show Steps p.tables e below (T200.setTop (mkF m 60 #[.val (.int p0), .val (.long q1), .second, .val (.int p2), .val (.int p3), .val (.int p4), .val (.long q5), .second, .val (.int (3 : Int32)), .val (.int (2 : Int32)), .val (.ref b191), .val (.int ((f3_12 (0 : Int32)) &&& 1)), .unset, .unset] [(.int p0), (.long q5), (.int p2), (.ref b191)])) _
        refine st204.trans ?_
        show Steps p.tables e below (T204.setTop (mkF m 63 #[.val (.int p0), .val (.long q1), .second, .val (.int p2), .val (.int p3), .val (.int p4), .val (.long q5), .second, .val (.int (3 : Int32)), .val (.int (2 : Int32)), .val (.ref b191), .val (.int ((f3_12 (0 : Int32)) &&& 1)), .unset, .unset] [])) _
        refine XS.iload X204.here hx rfl (hb hby at_63) rfl ?_
        show Steps p.tables e below (T204.setTop (mkF m 65 #[.val (.int p0), .val (.long q1), .second, .val (.int p2), .val (.int p3), .val (.int p4), .val (.long q5), .second, .val (.int (3 : Int32)), .val (.int (2 : Int32)), .val (.ref b191), .val (.int ((f3_12 (0 : Int32)) &&& 1)), .unset, .unset] [(.int (3 : Int32))])) _
        refine XS.iconst X204.here hx rfl (hb hby at_65) ?_
        show Steps p.tables e below (T204.setTop (mkF m 66 #[.val (.int p0), .val (.long q1), .second, .val (.int p2), .val (.int p3), .val (.int p4), .val (.long q5), .second, .val (.int (3 : Int32)), .val (.int (2 : Int32)), .val (.ref b191), .val (.int ((f3_12 (0 : Int32)) &&& 1)), .unset, .unset] [(.int (3 : Int32)), (.int (3 : Int32))])) _
        refine XS.icmpNo X204.here hx rfl (hb hby at_66) rfl (flt (show ¬ ((3 : Int32) < (3 : Int32)) by decide)).1 ?_
        show Steps p.tables e below (T204.setTop (mkF m 69 #[.val (.int p0), .val (.long q1), .second, .val (.int p2), .val (.int p3), .val (.int p4), .val (.long q5), .second, .val (.int (3 : Int32)), .val (.int (2 : Int32)), .val (.ref b191), .val (.int ((f3_12 (0 : Int32)) &&& 1)), .unset, .unset] [])) _
        refine XS.aload X204.here hx rfl (hb hby at_69) rfl rfl ?_
        show Steps p.tables e below (T204.setTop (mkF m 71 #[.val (.int p0), .val (.long q1), .second, .val (.int p2), .val (.int p3), .val (.int p4), .val (.long q5), .second, .val (.int (3 : Int32)), .val (.int (2 : Int32)), .val (.ref b191), .val (.int ((f3_12 (0 : Int32)) &&& 1)), .unset, .unset] [(.ref b191)])) _
        refine XS.iload X204.here hx rfl (hb hby at_71) rfl ?_
        show Steps p.tables e below (T204.setTop (mkF m 73 #[.val (.int p0), .val (.long q1), .second, .val (.int p2), .val (.int p3), .val (.int p4), .val (.long q5), .second, .val (.int (3 : Int32)), .val (.int (2 : Int32)), .val (.ref b191), .val (.int ((f3_12 (0 : Int32)) &&& 1)), .unset, .unset] [(.int p3), (.ref b191)])) _
        refine XS.lloadN X204.here hx rfl (hb hby at_73) rfl ?_
        show Steps p.tables e below (T204.setTop (mkF m 74 #[.val (.int p0), .val (.long q1), .second, .val (.int p2), .val (.int p3), .val (.int p4), .val (.long q5), .second, .val (.int (3 : Int32)), .val (.int (2 : Int32)), .val (.ref b191), .val (.int ((f3_12 (0 : Int32)) &&& 1)), .unset, .unset] [(.long q1), (.int p3), (.ref b191)])) _
        refine XS.lload X204.here hx rfl (hb hby at_74) rfl ?_
        show Steps p.tables e below (T204.setTop (mkF m 76 #[.val (.int p0), .val (.long q1), .second, .val (.int p2), .val (.int p3), .val (.int p4), .val (.long q5), .second, .val (.int (3 : Int32)), .val (.int (2 : Int32)), .val (.ref b191), .val (.int ((f3_12 (0 : Int32)) &&& 1)), .unset, .unset] [(.long q5), (.long q1), (.int p3), (.ref b191)])) _
        refine XS.lxor X204.here hx rfl (hb hby at_76) rfl ?_
        show Steps p.tables e below (T204.setTop (mkF m 77 #[.val (.int p0), .val (.long q1), .second, .val (.int p2), .val (.int p3), .val (.int p4), .val (.long q5), .second, .val (.int (3 : Int32)), .val (.int (2 : Int32)), .val (.ref b191), .val (.int ((f3_12 (0 : Int32)) &&& 1)), .unset, .unset] [(.long (q1 ^^^ q5)), (.int p3), (.ref b191)])) _
        refine XS.iload X204.here hx rfl (hb hby at_77) rfl ?_
        show Steps p.tables e below (T204.setTop (mkF m 79 #[.val (.int p0), .val (.long q1), .second, .val (.int p2), .val (.int p3), .val (.int p4), .val (.long q5), .second, .val (.int (3 : Int32)), .val (.int (2 : Int32)), .val (.ref b191), .val (.int ((f3_12 (0 : Int32)) &&& 1)), .unset, .unset] [(.int p4), (.long (q1 ^^^ q5)), (.int p3), (.ref b191)])) _
        refine st208.trans ?_
        show Steps p.tables e below (T208.setTop (mkF m 82 #[.val (.int p0), .val (.long q1), .second, .val (.int p2), .val (.int p3), .val (.int p4), .val (.long q5), .second, .val (.int (3 : Int32)), .val (.int (2 : Int32)), .val (.ref b191), .val (.int ((f3_12 (0 : Int32)) &&& 1)), .unset, .unset] [])) _
        refine XS.aload X208.here hx rfl (hb hby at_82) rfl rfl ?_
        show Steps p.tables e below (T208.setTop (mkF m 84 #[.val (.int p0), .val (.long q1), .second, .val (.int p2), .val (.int p3), .val (.int p4), .val (.long q5), .second, .val (.int (3 : Int32)), .val (.int (2 : Int32)), .val (.ref b191), .val (.int ((f3_12 (0 : Int32)) &&& 1)), .unset, .unset] [(.ref b191)])) _
        refine st212.trans ?_
        show Steps p.tables e below (T212.setTop (mkF m 87 #[.val (.int p0), .val (.long q1), .second, .val (.int p2), .val (.int p3), .val (.int p4), .val (.long q5), .second, .val (.int (3 : Int32)), .val (.int (2 : Int32)), .val (.ref b191), .val (.int ((f3_12 (0 : Int32)) &&& 1)), .unset, .unset] [(.int ((f3_12 (((2 : Nat) + 1).toInt32)) &&& 1))])) _
        refine XS.istore X212.here hx rfl (hb hby at_87) rfl (l' := #[.val (.int p0), .val (.long q1), .second, .val (.int p2), .val (.int p3), .val (.int p4), .val (.long q5), .second, .val (.int (3 : Int32)), .val (.int (2 : Int32)), .val (.ref b191), .val (.int ((f3_12 (0 : Int32)) &&& 1)), .val (.int ((f3_12 (((2 : Nat) + 1).toInt32)) &&& 1)), .unset]) rfl ?_
        show Steps p.tables e below (T212.setTop (mkF m 89 #[.val (.int p0), .val (.long q1), .second, .val (.int p2), .val (.int p3), .val (.int p4), .val (.long q5), .second, .val (.int (3 : Int32)), .val (.int (2 : Int32)), .val (.ref b191), .val (.int ((f3_12 (0 : Int32)) &&& 1)), .val (.int ((f3_12 (((2 : Nat) + 1).toInt32)) &&& 1)), .unset] [])) _
        refine XS.iload X212.here hx rfl (hb hby at_89) rfl ?_
        show Steps p.tables e below (T212.setTop (mkF m 91 #[.val (.int p0), .val (.long q1), .second, .val (.int p2), .val (.int p3), .val (.int p4), .val (.long q5), .second, .val (.int (3 : Int32)), .val (.int (2 : Int32)), .val (.ref b191), .val (.int ((f3_12 (0 : Int32)) &&& 1)), .val (.int ((f3_12 (((2 : Nat) + 1).toInt32)) &&& 1)), .unset] [(.int (2 : Int32))])) _
        refine XS.iconst X212.here hx rfl (hb hby at_91) ?_
        show Steps p.tables e below (T212.setTop (mkF m 92 #[.val (.int p0), .val (.long q1), .second, .val (.int p2), .val (.int p3), .val (.int p4), .val (.long q5), .second, .val (.int (3 : Int32)), .val (.int (2 : Int32)), .val (.ref b191), .val (.int ((f3_12 (0 : Int32)) &&& 1)), .val (.int ((f3_12 (((2 : Nat) + 1).toInt32)) &&& 1)), .unset] [(.int (1 : Int32)), (.int (2 : Int32))])) _
        refine XS.icmpNo X212.here hx rfl (hb hby at_92) rfl (flt (show ¬ ((2 : Int32) < (1 : Int32)) by decide)).1 ?_
        show Steps p.tables e below (T212.setTop (mkF m 95 #[.val (.int p0), .val (.long q1), .second, .val (.int p2), .val (.int p3), .val (.int p4), .val (.long q5), .second, .val (.int (3 : Int32)), .val (.int (2 : Int32)), .val (.ref b191), .val (.int ((f3_12 (0 : Int32)) &&& 1)), .val (.int ((f3_12 (((2 : Nat) + 1).toInt32)) &&& 1)), .unset] [])) _
        refine XS.aload X212.here hx rfl (hb hby at_95) rfl rfl ?_
        show Steps p.tables e below (T212.setTop (mkF m 97 #[.val (.int p0), .val (.long q1), .second, .val (.int p2), .val (.int p3), .val (.int p4), .val (.long q5), .second, .val (.int (3 : Int32)), .val (.int (2 : Int32)), .val (.ref b191), .val (.int ((f3_12 (0 : Int32)) &&& 1)), .val (.int ((f3_12 (((2 : Nat) + 1).toInt32)) &&& 1)), .unset] [(.ref b191)])) _
        refine st213.trans ?_
        show Steps p.tables e below (T213.setTop (mkF m 100 #[.val (.int p0), .val (.long q1), .second, .val (.int p2), .val (.int p3), .val (.int p4), .val (.long q5), .second, .val (.int (3 : Int32)), .val (.int (2 : Int32)), .val (.ref b191), .val (.int ((f3_12 (0 : Int32)) &&& 1)), .val (.int ((f3_12 (((2 : Nat) + 1).toInt32)) &&& 1)), .unset] [(.int ((f2_208 0).2.2))])) _
        refine XS.pop X213.here hx rfl (hb hby at_100) rfl rfl ?_
        show Steps p.tables e below (T213.setTop (mkF m 101 #[.val (.int p0), .val (.long q1), .second, .val (.int p2), .val (.int p3), .val (.int p4), .val (.long q5), .second, .val (.int (3 : Int32)), .val (.int (2 : Int32)), .val (.ref b191), .val (.int ((f3_12 (0 : Int32)) &&& 1)), .val (.int ((f3_12 (((2 : Nat) + 1).toInt32)) &&& 1)), .unset] [])) _
        refine XS.iload X213.here hx rfl (hb hby at_101) rfl ?_
        show Steps p.tables e below (T213.setTop (mkF m 103 #[.val (.int p0), .val (.long q1), .second, .val (.int p2), .val (.int p3), .val (.int p4), .val (.long q5), .second, .val (.int (3 : Int32)), .val (.int (2 : Int32)), .val (.ref b191), .val (.int ((f3_12 (0 : Int32)) &&& 1)), .val (.int ((f3_12 (((2 : Nat) + 1).toInt32)) &&& 1)), .unset] [(.int (2 : Int32))])) _
        refine XS.iconst X213.here hx rfl (hb hby at_103) ?_
        show Steps p.tables e below (T213.setTop (mkF m 104 #[.val (.int p0), .val (.long q1), .second, .val (.int p2), .val (.int p3), .val (.int p4), .val (.long q5), .second, .val (.int (3 : Int32)), .val (.int (2 : Int32)), .val (.ref b191), .val (.int ((f3_12 (0 : Int32)) &&& 1)), .val (.int ((f3_12 (((2 : Nat) + 1).toInt32)) &&& 1)), .unset] [(.int (2 : Int32)), (.int (2 : Int32))])) _
        refine XS.icmpNo X213.here hx rfl (hb hby at_104) rfl (flt (show ¬ ((2 : Int32) < (2 : Int32)) by decide)).1 ?_
        show Steps p.tables e below (T213.setTop (mkF m 107 #[.val (.int p0), .val (.long q1), .second, .val (.int p2), .val (.int p3), .val (.int p4), .val (.long q5), .second, .val (.int (3 : Int32)), .val (.int (2 : Int32)), .val (.ref b191), .val (.int ((f3_12 (0 : Int32)) &&& 1)), .val (.int ((f3_12 (((2 : Nat) + 1).toInt32)) &&& 1)), .unset] [])) _
        refine XS.aload X213.here hx rfl (hb hby at_107) rfl rfl ?_
        show Steps p.tables e below (T213.setTop (mkF m 109 #[.val (.int p0), .val (.long q1), .second, .val (.int p2), .val (.int p3), .val (.int p4), .val (.long q5), .second, .val (.int (3 : Int32)), .val (.int (2 : Int32)), .val (.ref b191), .val (.int ((f3_12 (0 : Int32)) &&& 1)), .val (.int ((f3_12 (((2 : Nat) + 1).toInt32)) &&& 1)), .unset] [(.ref b191)])) _
        refine st217.trans ?_
        show Steps p.tables e below (T217.setTop (mkF m 112 #[.val (.int p0), .val (.long q1), .second, .val (.int p2), .val (.int p3), .val (.int p4), .val (.long q5), .second, .val (.int (3 : Int32)), .val (.int (2 : Int32)), .val (.ref b191), .val (.int ((f3_12 (0 : Int32)) &&& 1)), .val (.int ((f3_12 (((2 : Nat) + 1).toInt32)) &&& 1)), .unset] [(.int ((f2_213 0).2.2))])) _
        refine XS.pop X217.here hx rfl (hb hby at_112) rfl rfl ?_
        show Steps p.tables e below (T217.setTop (mkF m 113 #[.val (.int p0), .val (.long q1), .second, .val (.int p2), .val (.int p3), .val (.int p4), .val (.long q5), .second, .val (.int (3 : Int32)), .val (.int (2 : Int32)), .val (.ref b191), .val (.int ((f3_12 (0 : Int32)) &&& 1)), .val (.int ((f3_12 (((2 : Nat) + 1).toInt32)) &&& 1)), .unset] [])) _
        refine XS.iload X217.here hx rfl (hb hby at_113) rfl ?_
        show Steps p.tables e below (T217.setTop (mkF m 115 #[.val (.int p0), .val (.long q1), .second, .val (.int p2), .val (.int p3), .val (.int p4), .val (.long q5), .second, .val (.int (3 : Int32)), .val (.int (2 : Int32)), .val (.ref b191), .val (.int ((f3_12 (0 : Int32)) &&& 1)), .val (.int ((f3_12 (((2 : Nat) + 1).toInt32)) &&& 1)), .unset] [(.int (2 : Int32))])) _
        refine XS.iconst X217.here hx rfl (hb hby at_115) ?_
        show Steps p.tables e below (T217.setTop (mkF m 116 #[.val (.int p0), .val (.long q1), .second, .val (.int p2), .val (.int p3), .val (.int p4), .val (.long q5), .second, .val (.int (3 : Int32)), .val (.int (2 : Int32)), .val (.ref b191), .val (.int ((f3_12 (0 : Int32)) &&& 1)), .val (.int ((f3_12 (((2 : Nat) + 1).toInt32)) &&& 1)), .unset] [(.int (3 : Int32)), (.int (2 : Int32))])) _
        refine XS.icmpYes X217.here hx rfl (pc0 := 116) (pc' := 125) rfl (hb hby at_116) rfl (tlt (show (2 : Int32) < (3 : Int32) by decide)).1 (by decide) (by decide) ?_
        show Steps p.tables e below (T217.setTop (mkF m 125 #[.val (.int p0), .val (.long q1), .second, .val (.int p2), .val (.int p3), .val (.int p4), .val (.long q5), .second, .val (.int (3 : Int32)), .val (.int (2 : Int32)), .val (.ref b191), .val (.int ((f3_12 (0 : Int32)) &&& 1)), .val (.int ((f3_12 (((2 : Nat) + 1).toInt32)) &&& 1)), .unset] [])) _
        refine XS.aload X217.here hx rfl (hb hby at_125) rfl rfl ?_
        show Steps p.tables e below (T217.setTop (mkF m 127 #[.val (.int p0), .val (.long q1), .second, .val (.int p2), .val (.int p3), .val (.int p4), .val (.long q5), .second, .val (.int (3 : Int32)), .val (.int (2 : Int32)), .val (.ref b191), .val (.int ((f3_12 (0 : Int32)) &&& 1)), .val (.int ((f3_12 (((2 : Nat) + 1).toInt32)) &&& 1)), .unset] [(.ref b191)])) _
        refine st221.trans ?_
        show Steps p.tables e below (T221.setTop (mkF m 130 #[.val (.int p0), .val (.long q1), .second, .val (.int p2), .val (.int p3), .val (.int p4), .val (.long q5), .second, .val (.int (3 : Int32)), .val (.int (2 : Int32)), .val (.ref b191), .val (.int ((f3_12 (0 : Int32)) &&& 1)), .val (.int ((f3_12 (((2 : Nat) + 1).toInt32)) &&& 1)), .unset] [(.int ((f3_12 ((1 : Nat).toInt32)) &&& 1))])) _
        refine XS.istore X221.here hx rfl (hb hby at_130) rfl (l' := #[.val (.int p0), .val (.long q1), .second, .val (.int p2), .val (.int p3), .val (.int p4), .val (.long q5), .second, .val (.int (3 : Int32)), .val (.int (2 : Int32)), .val (.ref b191), .val (.int ((f3_12 (0 : Int32)) &&& 1)), .val (.int ((f3_12 (((2 : Nat) + 1).toInt32)) &&& 1)), .val (.int ((f3_12 ((1 : Nat).toInt32)) &&& 1))]) rfl ?_
        show Steps p.tables e below (T221.setTop (mkF m 132 #[.val (.int p0), .val (.long q1), .second, .val (.int p2), .val (.int p3), .val (.int p4), .val (.long q5), .second, .val (.int (3 : Int32)), .val (.int (2 : Int32)), .val (.ref b191), .val (.int ((f3_12 (0 : Int32)) &&& 1)), .val (.int ((f3_12 (((2 : Nat) + 1).toInt32)) &&& 1)), .val (.int ((f3_12 ((1 : Nat).toInt32)) &&& 1))] [])) _
        refine XS.iload X221.here hx rfl (hb hby at_132) rfl ?_
        show Steps p.tables e below (T221.setTop (mkF m 134 #[.val (.int p0), .val (.long q1), .second, .val (.int p2), .val (.int p3), .val (.int p4), .val (.long q5), .second, .val (.int (3 : Int32)), .val (.int (2 : Int32)), .val (.ref b191), .val (.int ((f3_12 (0 : Int32)) &&& 1)), .val (.int ((f3_12 (((2 : Nat) + 1).toInt32)) &&& 1)), .val (.int ((f3_12 ((1 : Nat).toInt32)) &&& 1))] [(.int ((f3_12 (0 : Int32)) &&& 1))])) _
        refine XS.ifNo X221.here hx rfl (hb hby at_134) rfl ((if0 _ _).trans (feq (show ¬ (((f3_12 (0 : Int32)) &&& 1) = (0 : Int32)) from by decide)).1) ?_
        show Steps p.tables e below (T221.setTop (mkF m 137 #[.val (.int p0), .val (.long q1), .second, .val (.int p2), .val (.int p3), .val (.int p4), .val (.long q5), .second, .val (.int (3 : Int32)), .val (.int (2 : Int32)), .val (.ref b191), .val (.int ((f3_12 (0 : Int32)) &&& 1)), .val (.int ((f3_12 (((2 : Nat) + 1).toInt32)) &&& 1)), .val (.int ((f3_12 ((1 : Nat).toInt32)) &&& 1))] [])) _
        refine XS.iload X221.here hx rfl (hb hby at_137) rfl ?_
        show Steps p.tables e below (T221.setTop (mkF m 139 #[.val (.int p0), .val (.long q1), .second, .val (.int p2), .val (.int p3), .val (.int p4), .val (.long q5), .second, .val (.int (3 : Int32)), .val (.int (2 : Int32)), .val (.ref b191), .val (.int ((f3_12 (0 : Int32)) &&& 1)), .val (.int ((f3_12 (((2 : Nat) + 1).toInt32)) &&& 1)), .val (.int ((f3_12 ((1 : Nat).toInt32)) &&& 1))] [(.int ((f3_12 (((2 : Nat) + 1).toInt32)) &&& 1))])) _
        refine XS.iload X221.here hx rfl (hb hby at_139) rfl ?_
        show Steps p.tables e below (T221.setTop (mkF m 141 #[.val (.int p0), .val (.long q1), .second, .val (.int p2), .val (.int p3), .val (.int p4), .val (.long q5), .second, .val (.int (3 : Int32)), .val (.int (2 : Int32)), .val (.ref b191), .val (.int ((f3_12 (0 : Int32)) &&& 1)), .val (.int ((f3_12 (((2 : Nat) + 1).toInt32)) &&& 1)), .val (.int ((f3_12 ((1 : Nat).toInt32)) &&& 1))] [(.int (3 : Int32)), (.int ((f3_12 (((2 : Nat) + 1).toInt32)) &&& 1))])) _
        refine XS.ifYes X221.here hx rfl (pc0 := 141) (pc' := 148) rfl (hb hby at_141) rfl ((if0 _ _).trans (feq (show ¬ ((3 : Int32) = (0 : Int32)) by decide)).2) (by decide) (by decide) ?_
        show Steps p.tables e below (T221.setTop (mkF m 148 #[.val (.int p0), .val (.long q1), .second, .val (.int p2), .val (.int p3), .val (.int p4), .val (.long q5), .second, .val (.int (3 : Int32)), .val (.int (2 : Int32)), .val (.ref b191), .val (.int ((f3_12 (0 : Int32)) &&& 1)), .val (.int ((f3_12 (((2 : Nat) + 1).toInt32)) &&& 1)), .val (.int ((f3_12 ((1 : Nat).toInt32)) &&& 1))] [(.int ((f3_12 (((2 : Nat) + 1).toInt32)) &&& 1))])) _
        refine XS.iconst X221.here hx rfl (hb hby at_148) ?_
        show Steps p.tables e below (T221.setTop (mkF m 149 #[.val (.int p0), .val (.long q1), .second, .val (.int p2), .val (.int p3), .val (.int p4), .val (.long q5), .second, .val (.int (3 : Int32)), .val (.int (2 : Int32)), .val (.ref b191), .val (.int ((f3_12 (0 : Int32)) &&& 1)), .val (.int ((f3_12 (((2 : Nat) + 1).toInt32)) &&& 1)), .val (.int ((f3_12 ((1 : Nat).toInt32)) &&& 1))] [(.int (0 : Int32)), (.int ((f3_12 (((2 : Nat) + 1).toInt32)) &&& 1))])) _
        refine XS.icmpNo X221.here hx rfl (hb hby at_149) rfl (teq (show ((f3_12 (((2 : Nat) + 1).toInt32)) &&& 1) = (0 : Int32) from by decide)).2 ?_
        show Steps p.tables e below (T221.setTop (mkF m 152 #[.val (.int p0), .val (.long q1), .second, .val (.int p2), .val (.int p3), .val (.int p4), .val (.long q5), .second, .val (.int (3 : Int32)), .val (.int (2 : Int32)), .val (.ref b191), .val (.int ((f3_12 (0 : Int32)) &&& 1)), .val (.int ((f3_12 (((2 : Nat) + 1).toInt32)) &&& 1)), .val (.int ((f3_12 ((1 : Nat).toInt32)) &&& 1))] [])) _
        refine XS.iload X221.here hx rfl (hb hby at_152) rfl ?_
        show Steps p.tables e below (T221.setTop (mkF m 154 #[.val (.int p0), .val (.long q1), .second, .val (.int p2), .val (.int p3), .val (.int p4), .val (.long q5), .second, .val (.int (3 : Int32)), .val (.int (2 : Int32)), .val (.ref b191), .val (.int ((f3_12 (0 : Int32)) &&& 1)), .val (.int ((f3_12 (((2 : Nat) + 1).toInt32)) &&& 1)), .val (.int ((f3_12 ((1 : Nat).toInt32)) &&& 1))] [(.int ((f3_12 ((1 : Nat).toInt32)) &&& 1))])) _
        refine XS.iload X221.here hx rfl (hb hby at_154) rfl ?_
        show Steps p.tables e below (T221.setTop (mkF m 156 #[.val (.int p0), .val (.long q1), .second, .val (.int p2), .val (.int p3), .val (.int p4), .val (.long q5), .second, .val (.int (3 : Int32)), .val (.int (2 : Int32)), .val (.ref b191), .val (.int ((f3_12 (0 : Int32)) &&& 1)), .val (.int ((f3_12 (((2 : Nat) + 1).toInt32)) &&& 1)), .val (.int ((f3_12 ((1 : Nat).toInt32)) &&& 1))] [(.int (2 : Int32)), (.int ((f3_12 ((1 : Nat).toInt32)) &&& 1))])) _
        refine XS.iload X221.here hx rfl (hb hby at_156) rfl ?_
        show Steps p.tables e below (T221.setTop (mkF m 158 #[.val (.int p0), .val (.long q1), .second, .val (.int p2), .val (.int p3), .val (.int p4), .val (.long q5), .second, .val (.int (3 : Int32)), .val (.int (2 : Int32)), .val (.ref b191), .val (.int ((f3_12 (0 : Int32)) &&& 1)), .val (.int ((f3_12 (((2 : Nat) + 1).toInt32)) &&& 1)), .val (.int ((f3_12 ((1 : Nat).toInt32)) &&& 1))] [(.int (3 : Int32)), (.int (2 : Int32)), (.int ((f3_12 ((1 : Nat).toInt32)) &&& 1))])) _
        refine XS.icmpYes X221.here hx rfl (pc0 := 158) (pc' := 165) rfl (hb hby at_158) rfl (feq (show ¬ ((2 : Int32) = (3 : Int32)) by decide)).2 (by decide) (by decide) ?_
        show Steps p.tables e below (T221.setTop (mkF m 165 #[.val (.int p0), .val (.long q1), .second, .val (.int p2), .val (.int p3), .val (.int p4), .val (.long q5), .second, .val (.int (3 : Int32)), .val (.int (2 : Int32)), .val (.ref b191), .val (.int ((f3_12 (0 : Int32)) &&& 1)), .val (.int ((f3_12 (((2 : Nat) + 1).toInt32)) &&& 1)), .val (.int ((f3_12 ((1 : Nat).toInt32)) &&& 1))] [(.int ((f3_12 ((1 : Nat).toInt32)) &&& 1))])) _
        refine XS.iconst X221.here hx rfl (hb hby at_165) ?_
        show Steps p.tables e below (T221.setTop (mkF m 166 #[.val (.int p0), .val (.long q1), .second, .val (.int p2), .val (.int p3), .val (.int p4), .val (.long q5), .second, .val (.int (3 : Int32)), .val (.int (2 : Int32)), .val (.ref b191), .val (.int ((f3_12 (0 : Int32)) &&& 1)), .val (.int ((f3_12 (((2 : Nat) + 1).toInt32)) &&& 1)), .val (.int ((f3_12 ((1 : Nat).toInt32)) &&& 1))] [(.int (0 : Int32)), (.int ((f3_12 ((1 : Nat).toInt32)) &&& 1))])) _
        refine XS.icmpNo X221.here hx rfl (hb hby at_166) rfl (teq (show ((f3_12 ((1 : Nat).toInt32)) &&& 1) = (0 : Int32) from by decide)).2 ?_
        show Steps p.tables e below (T221.setTop (mkF m 169 #[.val (.int p0), .val (.long q1), .second, .val (.int p2), .val (.int p3), .val (.int p4), .val (.long q5), .second, .val (.int (3 : Int32)), .val (.int (2 : Int32)), .val (.ref b191), .val (.int ((f3_12 (0 : Int32)) &&& 1)), .val (.int ((f3_12 (((2 : Nat) + 1).toInt32)) &&& 1)), .val (.int ((f3_12 ((1 : Nat).toInt32)) &&& 1))] [])) _
        refine XS.iconst X221.here hx rfl (hb hby at_169) ?_
        show Steps p.tables e below (T221.setTop (mkF m 170 #[.val (.int p0), .val (.long q1), .second, .val (.int p2), .val (.int p3), .val (.int p4), .val (.long q5), .second, .val (.int (3 : Int32)), .val (.int (2 : Int32)), .val (.ref b191), .val (.int ((f3_12 (0 : Int32)) &&& 1)), .val (.int ((f3_12 (((2 : Nat) + 1).toInt32)) &&& 1)), .val (.int ((f3_12 ((1 : Nat).toInt32)) &&& 1))] [(.int (1 : Int32))])) _
        refine XS.goto X221.here hx rfl (pc0 := 170) (pc' := 174) rfl (hb hby at_170) (by decide) (by decide) ?_
        show Steps p.tables e below (T221.setTop (mkF m 174 #[.val (.int p0), .val (.long q1), .second, .val (.int p2), .val (.int p3), .val (.int p4), .val (.long q5), .second, .val (.int (3 : Int32)), .val (.int (2 : Int32)), .val (.ref b191), .val (.int ((f3_12 (0 : Int32)) &&& 1)), .val (.int ((f3_12 (((2 : Nat) + 1).toInt32)) &&& 1)), .val (.int ((f3_12 ((1 : Nat).toInt32)) &&& 1))] [(.int (1 : Int32))])) _
        exact k)
      obtain ⟨fs, hr, hrun, hended, hW, hsame⟩ := X221.leave (v := some (.int (1 : Int32))) (fun h => by rw [Bd.returns] at h; cases h)
      refine ⟨_, _, pre222 _ ?_, hrun, hended, _, _, rfl, ?_, ⟨_, rfl⟩, hW, hsame.mono (by decide) (by decide)⟩
      · exact retN X221 hx (t := .boolean) Bd.returns (by simp) (hb hby at_174) hr
      · show Q0 Z p0 q1 p2 p3 p4 q5 h0 n0 _ T221.heap _
        rw [hh221]
        exact ⟨rfl, N221⟩
    · have pre223 : ∀ t, Steps p.tables e below (s₁.setTop (mkF m 18 #[.val (.int p0), .val (.long q1), .second, .val (.int p2), .val (.int p3), .val (.int p4), .val (.long q5), .second, .val (.int (3 : Int32)), .val (.int (3 : Int32)), .unset, .unset, .unset, .unset] [])) t → Steps p.tables e below (s₁.setTop (entryFrame m #[(.int p0), (.long q1), (.int p2), (.int p3), (.int p4), (.long q5)] maxLocals)) t := fun t k => pre135 t (by rw [hk]; exact k)
      obtain ⟨T224, h224, X224, e224, Ex224, Ne224, D224, -, st224⟩ := newO X0 hx hZ hown (hw _ (List.mem_of_getElem? (i := 1) rfl)) (hw _ (List.mem_of_getElem? (i := 2) rfl)) (hw _ (List.mem_of_getElem? (i := 3) rfl)) e0 (g := (mkF m 18 #[.val (.int p0), .val (.long q1), .second, .val (.int p2), .val (.int p3), .val (.int p4), .val (.long q5), .second, .val (.int (3 : Int32)), .val (.int (3 : Int32)), .unset, .unset, .unset, .unset] [])) rfl (hb hby at_18) (by decide) (by decide)
      obtain ⟨b224, g224⟩ : ∃ z, z = h0.size := ⟨_, rfl⟩
      rw [← g224] at Ne224 D224 st224
      have g_b224 : n0 ≤ b224 := Nat.le_trans (Nat.le_trans Z0 (Nat.le_refl _)) (Nat.le_of_eq g224.symm)
      have sz_b224 : h0.size ≤ b224 := Nat.le_trans (Nat.le_refl _) (Nat.le_of_eq g224.symm)
      have SZ226 : h0.size ≤ h224.size := Nat.le_trans (Nat.le_refl _) Ex224.1
      have ZZ226 : n0 ≤ h224.size := Nat.le_trans Z0 SZ226
      have K227 : Keep h0 h224 [] := ((Keep.refl h0 [])).ext Ex224
      have F_ranks_b224_224 : Fld Z h224 b224 "com/example/brisk_maze/briskmaze/search/RankedFrontier" "ranks" "[J" .null := D224 (Or.inl (hw _ (List.mem_of_getElem? (i := 12) rfl))) (ty := (.array .long)) (by decide)
      have F_costs_b224_224 : Fld Z h224 b224 "com/example/brisk_maze/briskmaze/search/RankedFrontier" "costs" "[I" .null := D224 (Or.inl (hw _ (List.mem_of_getElem? (i := 15) rfl))) (ty := (.array .int)) (by decide)
      have F_states_b224_224 : Fld Z h224 b224 "com/example/brisk_maze/briskmaze/search/RankedFrontier" "states" "[I" .null := D224 (Or.inl (hw _ (List.mem_of_getElem? (i := 17) rfl))) (ty := (.array .int)) (by decide)
      have F_size_b224_224 : Fld Z h224 b224 "com/example/brisk_maze/briskmaze/search/RankedFrontier" "size" "I" (.int (0 : Int32)) := D224 (Or.inl (hw _ (List.mem_of_getElem? (i := 24) rfl))) (ty := .int) (by decide)
      obtain ⟨_, _, ⟨T228, L228, k228, n228⟩, -, X228, ⟨Lc228, hQ228, l228, y228, z228⟩, st228⟩ := X224.specialBack hx (y := (⟨"com/example/brisk_maze/briskmaze/search/RankedFrontier", "<init>", "()V"⟩ : MethodName)) rfl hown (mvT hZ (hw _ (List.mem_of_getElem? (i := 4) rfl))) (mvT hZ (hw _ (List.mem_of_getElem? (i := 5) rfl))) (mvT hZ (hw _ (List.mem_of_getElem? (i := 6) rfl))) (by decide) (backOf (W := 1) (rm1 l Z a0 hw [] b224 h224 n0 ZZ226 F_ranks_b224_224 F_costs_b224_224 F_states_b224_224 Ne224 F_size_b224_224 g_b224) hZ (hw _ (List.mem_of_getElem? (i := 6) rfl)) (hw _ (List.mem_of_getElem? (i := 3) rfl)) (by decide) (by decide)) (g := (mkF m 22 #[.val (.int p0), .val (.long q1), .second, .val (.int p2), .val (.int p3), .val (.int p4), .val (.long q5), .second, .val (.int (3 : Int32)), .val (.int (3 : Int32)), .unset, .unset, .unset, .unset] [(.ref b224), (.ref b224)])) rfl (by rw [hml]; rfl) (Steps.refl _) (a := b224) (argsL := []) (rest := [(.ref b224)]) (lenOf pd_4 rfl) rfl (by show 2 * 0 + _ ≤ _; exact Nat.le_of_eq rfl) (hb hby at_22) (fun _ _ => ⟨rfl, e224, (by decide : 1 + 3 ≤ _), (by decide : 4 + 192 ≤ _)⟩)
      dsimp only [Pt.U, Pt.locs, Pt.cells, Pt.slots] at X228 l228 y228 z228 st228 hQ228
      subst l228 y228 z228
      obtain ⟨tr_228, tc_228, ts_228, rfl, N228q, Kc228, sz_tr_228, sz_tc_228, sz_ts_228, ne_tr_tc_228, ne_tr_ts_228, ne_tc_ts_228, P228_0, P228_1, P228_2, P228_3, P228_4, P228_5, P228_6⟩ := hQ228
      have N228 := Fr.app N0 N228q
      have E_b224_229 : Exa Z T228.heap b224 "com/example/brisk_maze/briskmaze/search/RankedFrontier" := (Ne224).keep Kc228
      have SZ230 : h0.size ≤ T228.heap.size := Nat.le_trans SZ226 Kc228.1
      have ZZ230 : n0 ≤ T228.heap.size := Nat.le_trans Z0 SZ230
      have K231 : Keep h0 T228.heap [] := (K227).trans Kc228 (allS (Or.inr sz_b224) all0)
      have ne_b224_tr_228 : b224 ≠ tr_228 := Nat.ne_of_lt (Nat.lt_of_lt_of_le (Ne224).lt sz_tr_228)
      have g_tr_228 : n0 ≤ tr_228 := Nat.le_trans (Nat.le_trans Z0 SZ226) sz_tr_228
      have szz_tr_228 : h0.size ≤ tr_228 := Nat.le_trans SZ226 sz_tr_228
      have ne_b224_tc_228 : b224 ≠ tc_228 := Nat.ne_of_lt (Nat.lt_of_lt_of_le (Ne224).lt sz_tc_228)
      have g_tc_228 : n0 ≤ tc_228 := Nat.le_trans (Nat.le_trans Z0 SZ226) sz_tc_228
      have szz_tc_228 : h0.size ≤ tc_228 := Nat.le_trans SZ226 sz_tc_228
      have ne_b224_ts_228 : b224 ≠ ts_228 := Nat.ne_of_lt (Nat.lt_of_lt_of_le (Ne224).lt sz_ts_228)
      have g_ts_228 : n0 ≤ ts_228 := Nat.le_trans (Nat.le_trans Z0 SZ226) sz_ts_228
      have szz_ts_228 : h0.size ≤ ts_228 := Nat.le_trans SZ226 sz_ts_228
      obtain ⟨cq232, kq232, q232a, q232b, q232c⟩ := isOf hZ rfl (E_b224_229)
      obtain ⟨_, _, ⟨T232, L232, k232, n232⟩, -, X232, ⟨Lc232, hQ232, l232, y232, z232⟩, st232⟩ := X228.virtualBack hx (y := (⟨"com/example/brisk_maze/briskmaze/search/RankedFrontier", "isEmpty", "()Z"⟩ : MethodName)) (z := (⟨"com/example/brisk_maze/briskmaze/search/RankedFrontier", "isEmpty", "()Z"⟩ : MethodName)) hown (mvT hZ (hw _ (List.mem_of_getElem? (i := 18) rfl))) (mvT hZ (hw _ (List.mem_of_getElem? (i := 19) rfl))) (notFace_of_selects (args := #[]) (mvT hZ (hw _ (List.mem_of_getElem? (i := 21) rfl)))) (mvT hZ (hw _ (List.mem_of_getElem? (i := 21) rfl))) (mvT hZ (hw _ (List.mem_of_getElem? (i := 20) rfl))) (by decide) (backOf (W := 0) (rm3 l Z a0 hw [] b224 (0 : Int32) T228.heap n0 ZZ230 P228_3) hZ (hw _ (List.mem_of_getElem? (i := 22) rfl)) (hw _ (List.mem_of_getElem? (i := 3) rfl)) (by decide) (by decide)) q232a q232c (g := (mkF m 29 #[.val (.int p0), .val (.long q1), .second, .val (.int p2), .val (.int p3), .val (.int p4), .val (.long q5), .second, .val (.int (3 : Int32)), .val (.int (3 : Int32)), .val (.ref b224), .unset, .unset, .unset] [(.ref b224)])) rfl (by rw [hml]; rfl) (Steps.refl _) (argsL := []) (rest := []) (lenOf pd_5 rfl) rfl (by show 2 * 0 + _ ≤ _; exact Nat.le_of_eq rfl) (hb hby at_29) (fun _ _ => ⟨rfl, rfl, (by decide : 4 + 0 ≤ _), (by decide : 196 + 0 ≤ _)⟩)
      dsimp only [Pt.U, Pt.locs, Pt.cells, Pt.slots] at X232 l232 y232 z232 st232 hQ232
      subst l232 y232 z232
      obtain ⟨rfl, N232q, hh232⟩ := hQ232
      have N232 := Fr.app N228 N232q
      obtain ⟨cq233, kq233, q233a, q233b, q233c⟩ := isOf hZ hh232 (E_b224_229)
      obtain ⟨_, _, ⟨T233, L233, k233, n233⟩, -, X233, ⟨Lc233, hQ233, l233, y233, z233⟩, st233⟩ := X232.virtualBack hx (y := (⟨"com/example/brisk_maze/briskmaze/search/RankedFrontier", "add", "(IJI)V"⟩ : MethodName)) (z := (⟨"com/example/brisk_maze/briskmaze/search/RankedFrontier", "add", "(IJI)V"⟩ : MethodName)) hown (mvT hZ (hw _ (List.mem_of_getElem? (i := 25) rfl))) (mvT hZ (hw _ (List.mem_of_getElem? (i := 26) rfl))) (notFace_of_selects (args := #[]) (mvT hZ (hw _ (List.mem_of_getElem? (i := 28) rfl)))) (mvT hZ (hw _ (List.mem_of_getElem? (i := 28) rfl))) (mvT hZ (hw _ (List.mem_of_getElem? (i := 27) rfl))) (by decide) (backOf (W := 0) (rm4 l Z a0 hw [] b224 p0 q1 p2 tr_228 tc_228 ts_228 (fun _ => ((0 : Int64), (0 : Int32), (0 : Int32))) (0 : Nat) T228.heap n0 ZZ230 P228_0 P228_1 P228_2 E_b224_229 P228_3 P228_4 P228_5 P228_6 g_tr_228 g_tc_228 g_ts_228 g_b224 ne_b224_tr_228 ne_b224_tc_228 ne_b224_ts_228 ne_tr_tc_228 ne_tr_ts_228 ne_tc_ts_228 (by decide) (fun j _ j1 => absurd j1 (Nat.not_lt_zero _))) hZ (hw _ (List.mem_of_getElem? (i := 29) rfl)) (hw _ (List.mem_of_getElem? (i := 3) rfl)) (by decide) (by decide)) q233a q233c (g := (mkF m 45 #[.val (.int p0), .val (.long q1), .second, .val (.int p2), .val (.int p3), .val (.int p4), .val (.long q5), .second, .val (.int (3 : Int32)), .val (.int (3 : Int32)), .val (.ref b224), .val (.int ((f3_12 (0 : Int32)) &&& 1)), .unset, .unset] [(.int p2), (.long q1), (.int p0), (.ref b224)])) rfl (by rw [hml]; rfl) (Steps.refl _) (argsL := [(.int p0), (.long q1), (.int p2)]) (rest := []) (lenOf pd_6 rfl) rfl (by show 2 * 0 + _ ≤ _; exact Nat.le_of_eq rfl) (hb hby at_45) (fun _ _ => ⟨rfl, hh232, (by decide : 4 + 0 ≤ _), (by decide : 196 + 0 ≤ _)⟩)
      dsimp only [Pt.U, Pt.locs, Pt.cells, Pt.slots] at X233 l233 y233 z233 st233 hQ233
      subst l233 y233 z233
      obtain ⟨f2_233, rfl, N233q, Kc233, P233_0, P233_1, P233_2, P233_3, P233_4, P233_5, P233_6, P233_7, P233_8⟩ := hQ233
      have N233 := Fr.app N232 N233q
      have E_b224_234 : Exa Z T233.heap b224 "com/example/brisk_maze/briskmaze/search/RankedFrontier" := (E_b224_229).keep Kc233
      have SZ235 : h0.size ≤ T233.heap.size := Nat.le_trans SZ230 Kc233.1
      have ZZ235 : n0 ≤ T233.heap.size := Nat.le_trans Z0 SZ235
      have K236 : Keep h0 T233.heap [] := (K231).trans Kc233 (allS (Or.inr szz_tr_228) (allS (Or.inr szz_tc_228) (allS (Or.inr szz_ts_228) (allS (Or.inr sz_b224) all0))))
      obtain ⟨cq237, kq237, q237a, q237b, q237c⟩ := isOf hZ rfl (E_b224_234)
      obtain ⟨_, _, ⟨T237, L237, k237, n237⟩, -, X237, ⟨Lc237, hQ237, l237, y237, z237⟩, st237⟩ := X233.virtualBack hx (y := (⟨"com/example/brisk_maze/briskmaze/search/RankedFrontier", "add", "(IJI)V"⟩ : MethodName)) (z := (⟨"com/example/brisk_maze/briskmaze/search/RankedFrontier", "add", "(IJI)V"⟩ : MethodName)) hown (mvT hZ (hw _ (List.mem_of_getElem? (i := 25) rfl))) (mvT hZ (hw _ (List.mem_of_getElem? (i := 26) rfl))) (notFace_of_selects (args := #[]) (mvT hZ (hw _ (List.mem_of_getElem? (i := 28) rfl)))) (mvT hZ (hw _ (List.mem_of_getElem? (i := 28) rfl))) (mvT hZ (hw _ (List.mem_of_getElem? (i := 27) rfl))) (by decide) (backOf (W := 0) (rm4 l Z a0 hw [] b224 p2 q5 p0 tr_228 tc_228 ts_228 f2_233 (1 : Nat) T233.heap n0 ZZ235 P233_1 P233_2 P233_3 E_b224_234 P233_0 P233_4 P233_5 P233_6 g_tr_228 g_tc_228 g_ts_228 g_b224 ne_b224_tr_228 ne_b224_tc_228 ne_b224_ts_228 ne_tr_tc_228 ne_tr_ts_228 ne_tc_ts_228 (by decide) P233_7) hZ (hw _ (List.mem_of_getElem? (i := 29) rfl)) (hw _ (List.mem_of_getElem? (i := 3) rfl)) (by decide) (by decide)) q237a q237c (g := (mkF m 60 #[.val (.int p0), .val (.long q1), .second, .val (.int p2), .val (.int p3), .val (.int p4), .val (.long q5), .second, .val (.int (3 : Int32)), .val (.int (3 : Int32)), .val (.ref b224), .val (.int ((f3_12 (0 : Int32)) &&& 1)), .unset, .unset] [(.int p0), (.long q5), (.int p2), (.ref b224)])) rfl (by rw [hml]; rfl) (Steps.refl _) (argsL := [(.int p2), (.long q5), (.int p0)]) (rest := []) (lenOf pd_6 rfl) rfl (by show 2 * 0 + _ ≤ _; exact Nat.le_of_eq rfl) (hb hby at_60) (fun _ _ => ⟨rfl, rfl, (by decide : 4 + 0 ≤ _), (by decide : 196 + 0 ≤ _)⟩)
      dsimp only [Pt.U, Pt.locs, Pt.cells, Pt.slots] at X237 l237 y237 z237 st237 hQ237
      subst l237 y237 z237
      obtain ⟨f2_237, rfl, N237q, Kc237, P237_0, P237_1, P237_2, P237_3, P237_4, P237_5, P237_6, P237_7, P237_8⟩ := hQ237
      have N237 := Fr.app N233 N237q
      have E_b224_238 : Exa Z T237.heap b224 "com/example/brisk_maze/briskmaze/search/RankedFrontier" := (E_b224_234).keep Kc237
      have SZ239 : h0.size ≤ T237.heap.size := Nat.le_trans SZ235 Kc237.1
      have ZZ239 : n0 ≤ T237.heap.size := Nat.le_trans Z0 SZ239
      have K240 : Keep h0 T237.heap [] := (K236).trans Kc237 (allS (Or.inr szz_tr_228) (allS (Or.inr szz_tc_228) (allS (Or.inr szz_ts_228) (allS (Or.inr sz_b224) all0))))
      obtain ⟨cq241, kq241, q241a, q241b, q241c⟩ := isOf hZ rfl (E_b224_238)
      obtain ⟨_, _, ⟨T241, L241, k241, n241⟩, -, X241, ⟨Lc241, hQ241, l241, y241, z241⟩, st241⟩ := X237.virtualBack hx (y := (⟨"com/example/brisk_maze/briskmaze/search/RankedFrontier", "add", "(IJI)V"⟩ : MethodName)) (z := (⟨"com/example/brisk_maze/briskmaze/search/RankedFrontier", "add", "(IJI)V"⟩ : MethodName)) hown (mvT hZ (hw _ (List.mem_of_getElem? (i := 25) rfl))) (mvT hZ (hw _ (List.mem_of_getElem? (i := 26) rfl))) (notFace_of_selects (args := #[]) (mvT hZ (hw _ (List.mem_of_getElem? (i := 28) rfl)))) (mvT hZ (hw _ (List.mem_of_getElem? (i := 28) rfl))) (mvT hZ (hw _ (List.mem_of_getElem? (i := 27) rfl))) (by decide) (backOf (W := 0) (rm4 l Z a0 hw [] b224 p3 (q1 ^^^ q5) p4 tr_228 tc_228 ts_228 f2_237 (2 : Nat) T237.heap n0 ZZ239 P237_1 P237_2 P237_3 E_b224_238 P237_0 P237_4 P237_5 P237_6 g_tr_228 g_tc_228 g_ts_228 g_b224 ne_b224_tr_228 ne_b224_tc_228 ne_b224_ts_228 ne_tr_tc_228 ne_tr_ts_228 ne_tc_ts_228 (by decide) P237_7) hZ (hw _ (List.mem_of_getElem? (i := 29) rfl)) (hw _ (List.mem_of_getElem? (i := 3) rfl)) (by decide) (by decide)) q241a q241c (g := (mkF m 79 #[.val (.int p0), .val (.long q1), .second, .val (.int p2), .val (.int p3), .val (.int p4), .val (.long q5), .second, .val (.int (3 : Int32)), .val (.int (3 : Int32)), .val (.ref b224), .val (.int ((f3_12 (0 : Int32)) &&& 1)), .unset, .unset] [(.int p4), (.long (q1 ^^^ q5)), (.int p3), (.ref b224)])) rfl (by rw [hml]; rfl) (Steps.refl _) (argsL := [(.int p3), (.long (q1 ^^^ q5)), (.int p4)]) (rest := []) (lenOf pd_6 rfl) rfl (by show 2 * 0 + _ ≤ _; exact Nat.le_of_eq rfl) (hb hby at_79) (fun _ _ => ⟨rfl, rfl, (by decide : 4 + 0 ≤ _), (by decide : 196 + 0 ≤ _)⟩)
      dsimp only [Pt.U, Pt.locs, Pt.cells, Pt.slots] at X241 l241 y241 z241 st241 hQ241
      subst l241 y241 z241
      obtain ⟨f2_241, rfl, N241q, Kc241, P241_0, P241_1, P241_2, P241_3, P241_4, P241_5, P241_6, P241_7, P241_8⟩ := hQ241
      have N241 := Fr.app N237 N241q
      have E_b224_242 : Exa Z T241.heap b224 "com/example/brisk_maze/briskmaze/search/RankedFrontier" := (E_b224_238).keep Kc241
      have SZ243 : h0.size ≤ T241.heap.size := Nat.le_trans SZ239 Kc241.1
      have ZZ243 : n0 ≤ T241.heap.size := Nat.le_trans Z0 SZ243
      have K244 : Keep h0 T241.heap [] := (K240).trans Kc241 (allS (Or.inr szz_tr_228) (allS (Or.inr szz_tc_228) (allS (Or.inr szz_ts_228) (allS (Or.inr sz_b224) all0))))
      obtain ⟨cq245, kq245, q245a, q245b, q245c⟩ := isOf hZ rfl (E_b224_242)
      obtain ⟨_, _, ⟨T245, L245, k245, n245⟩, -, X245, ⟨Lc245, hQ245, l245, y245, z245⟩, st245⟩ := X241.virtualBack hx (y := (⟨"com/example/brisk_maze/briskmaze/search/RankedFrontier", "isEmpty", "()Z"⟩ : MethodName)) (z := (⟨"com/example/brisk_maze/briskmaze/search/RankedFrontier", "isEmpty", "()Z"⟩ : MethodName)) hown (mvT hZ (hw _ (List.mem_of_getElem? (i := 18) rfl))) (mvT hZ (hw _ (List.mem_of_getElem? (i := 19) rfl))) (notFace_of_selects (args := #[]) (mvT hZ (hw _ (List.mem_of_getElem? (i := 21) rfl)))) (mvT hZ (hw _ (List.mem_of_getElem? (i := 21) rfl))) (mvT hZ (hw _ (List.mem_of_getElem? (i := 20) rfl))) (by decide) (backOf (W := 0) (rm3 l Z a0 hw [] b224 (((2 : Nat) + 1).toInt32) T241.heap n0 ZZ243 P241_0) hZ (hw _ (List.mem_of_getElem? (i := 22) rfl)) (hw _ (List.mem_of_getElem? (i := 3) rfl)) (by decide) (by decide)) q245a q245c (g := (mkF m 84 #[.val (.int p0), .val (.long q1), .second, .val (.int p2), .val (.int p3), .val (.int p4), .val (.long q5), .second, .val (.int (3 : Int32)), .val (.int (3 : Int32)), .val (.ref b224), .val (.int ((f3_12 (0 : Int32)) &&& 1)), .unset, .unset] [(.ref b224)])) rfl (by rw [hml]; rfl) (Steps.refl _) (argsL := []) (rest := []) (lenOf pd_5 rfl) rfl (by show 2 * 0 + _ ≤ _; exact Nat.le_of_eq rfl) (hb hby at_84) (fun _ _ => ⟨rfl, rfl, (by decide : 4 + 0 ≤ _), (by decide : 196 + 0 ≤ _)⟩)
      dsimp only [Pt.U, Pt.locs, Pt.cells, Pt.slots] at X245 l245 y245 z245 st245 hQ245
      subst l245 y245 z245
      obtain ⟨rfl, N245q, hh245⟩ := hQ245
      have N245 := Fr.app N241 N245q
      obtain ⟨cq246, kq246, q246a, q246b, q246c⟩ := isOf hZ hh245 (E_b224_242)
      obtain ⟨_, _, ⟨T246, L246, k246, n246⟩, -, X246, ⟨Lc246, hQ246, l246, y246, z246⟩, st246⟩ := X245.virtualBack hx (y := (⟨"com/example/brisk_maze/briskmaze/search/RankedFrontier", "removeFirst", "()I"⟩ : MethodName)) (z := (⟨"com/example/brisk_maze/briskmaze/search/RankedFrontier", "removeFirst", "()I"⟩ : MethodName)) hown (mvT hZ (hw _ (List.mem_of_getElem? (i := 34) rfl))) (mvT hZ (hw _ (List.mem_of_getElem? (i := 35) rfl))) (notFace_of_selects (args := #[]) (mvT hZ (hw _ (List.mem_of_getElem? (i := 37) rfl)))) (mvT hZ (hw _ (List.mem_of_getElem? (i := 37) rfl))) (mvT hZ (hw _ (List.mem_of_getElem? (i := 36) rfl))) (by decide) (backOf (W := 0) (rm6 l Z a0 hw [] b224 tr_228 tc_228 ts_228 f2_241 (2 : Nat) T241.heap n0 ZZ243 P241_1 P241_2 P241_3 E_b224_242 P241_0 P241_4 P241_5 P241_6 g_tr_228 g_tc_228 g_ts_228 g_b224 ne_b224_tr_228 ne_b224_tc_228 ne_b224_ts_228 ne_tr_tc_228 ne_tr_ts_228 ne_tc_ts_228 (by decide) P241_7) hZ (hw _ (List.mem_of_getElem? (i := 38) rfl)) (hw _ (List.mem_of_getElem? (i := 3) rfl)) (by decide) (by decide)) q246a q246c (g := (mkF m 97 #[.val (.int p0), .val (.long q1), .second, .val (.int p2), .val (.int p3), .val (.int p4), .val (.long q5), .second, .val (.int (3 : Int32)), .val (.int (3 : Int32)), .val (.ref b224), .val (.int ((f3_12 (0 : Int32)) &&& 1)), .val (.int ((f3_12 (((2 : Nat) + 1).toInt32)) &&& 1)), .unset] [(.ref b224)])) rfl (by rw [hml]; rfl) (Steps.refl _) (argsL := []) (rest := []) (lenOf pd_7 rfl) rfl (by show 2 * 0 + _ ≤ _; exact Nat.le_of_eq rfl) (hb hby at_97) (fun _ _ => ⟨rfl, hh245, (by decide : 4 + 0 ≤ _), (by decide : 196 + 0 ≤ _)⟩)
      dsimp only [Pt.U, Pt.locs, Pt.cells, Pt.slots] at X246 l246 y246 z246 st246 hQ246
      subst l246 y246 z246
      obtain ⟨f2_246, rfl, N246q, Kc246, P246_0, P246_1, P246_2, P246_3, P246_4, P246_5, P246_6, P246_7, P246_8⟩ := hQ246
      have N246 := Fr.app N245 N246q
      have E_b224_247 : Exa Z T246.heap b224 "com/example/brisk_maze/briskmaze/search/RankedFrontier" := (E_b224_242).keep Kc246
      have SZ248 : h0.size ≤ T246.heap.size := Nat.le_trans SZ243 Kc246.1
      have ZZ248 : n0 ≤ T246.heap.size := Nat.le_trans Z0 SZ248
      have K249 : Keep h0 T246.heap [] := (K244).trans Kc246 (allS (Or.inr szz_tr_228) (allS (Or.inr szz_tc_228) (allS (Or.inr szz_ts_228) (allS (Or.inr sz_b224) all0))))
      obtain ⟨cq250, kq250, q250a, q250b, q250c⟩ := isOf hZ rfl (E_b224_247)
      obtain ⟨_, _, ⟨T250, L250, k250, n250⟩, -, X250, ⟨Lc250, hQ250, l250, y250, z250⟩, st250⟩ := X246.virtualBack hx (y := (⟨"com/example/brisk_maze/briskmaze/search/RankedFrontier", "removeFirst", "()I"⟩ : MethodName)) (z := (⟨"com/example/brisk_maze/briskmaze/search/RankedFrontier", "removeFirst", "()I"⟩ : MethodName)) hown (mvT hZ (hw _ (List.mem_of_getElem? (i := 34) rfl))) (mvT hZ (hw _ (List.mem_of_getElem? (i := 35) rfl))) (notFace_of_selects (args := #[]) (mvT hZ (hw _ (List.mem_of_getElem? (i := 37) rfl)))) (mvT hZ (hw _ (List.mem_of_getElem? (i := 37) rfl))) (mvT hZ (hw _ (List.mem_of_getElem? (i := 36) rfl))) (by decide) (backOf (W := 0) (rm6 l Z a0 hw [] b224 tr_228 tc_228 ts_228 f2_246 (1 : Nat) T246.heap n0 ZZ248 P246_1 P246_2 P246_3 E_b224_247 P246_0 P246_4 P246_5 P246_6 g_tr_228 g_tc_228 g_ts_228 g_b224 ne_b224_tr_228 ne_b224_tc_228 ne_b224_ts_228 ne_tr_tc_228 ne_tr_ts_228 ne_tc_ts_228 (by decide) P246_7) hZ (hw _ (List.mem_of_getElem? (i := 38) rfl)) (hw _ (List.mem_of_getElem? (i := 3) rfl)) (by decide) (by decide)) q250a q250c (g := (mkF m 109 #[.val (.int p0), .val (.long q1), .second, .val (.int p2), .val (.int p3), .val (.int p4), .val (.long q5), .second, .val (.int (3 : Int32)), .val (.int (3 : Int32)), .val (.ref b224), .val (.int ((f3_12 (0 : Int32)) &&& 1)), .val (.int ((f3_12 (((2 : Nat) + 1).toInt32)) &&& 1)), .unset] [(.ref b224)])) rfl (by rw [hml]; rfl) (Steps.refl _) (argsL := []) (rest := []) (lenOf pd_7 rfl) rfl (by show 2 * 0 + _ ≤ _; exact Nat.le_of_eq rfl) (hb hby at_109) (fun _ _ => ⟨rfl, rfl, (by decide : 4 + 0 ≤ _), (by decide : 196 + 0 ≤ _)⟩)
      dsimp only [Pt.U, Pt.locs, Pt.cells, Pt.slots] at X250 l250 y250 z250 st250 hQ250
      subst l250 y250 z250
      obtain ⟨f2_250, rfl, N250q, Kc250, P250_0, P250_1, P250_2, P250_3, P250_4, P250_5, P250_6, P250_7, P250_8⟩ := hQ250
      have N250 := Fr.app N246 N250q
      have E_b224_251 : Exa Z T250.heap b224 "com/example/brisk_maze/briskmaze/search/RankedFrontier" := (E_b224_247).keep Kc250
      have SZ252 : h0.size ≤ T250.heap.size := Nat.le_trans SZ248 Kc250.1
      have ZZ252 : n0 ≤ T250.heap.size := Nat.le_trans Z0 SZ252
      have K253 : Keep h0 T250.heap [] := (K249).trans Kc250 (allS (Or.inr szz_tr_228) (allS (Or.inr szz_tc_228) (allS (Or.inr szz_ts_228) (allS (Or.inr sz_b224) all0))))
      obtain ⟨cq254, kq254, q254a, q254b, q254c⟩ := isOf hZ rfl (E_b224_251)
      obtain ⟨_, _, ⟨T254, L254, k254, n254⟩, -, X254, ⟨Lc254, hQ254, l254, y254, z254⟩, st254⟩ := X250.virtualBack hx (y := (⟨"com/example/brisk_maze/briskmaze/search/RankedFrontier", "removeFirst", "()I"⟩ : MethodName)) (z := (⟨"com/example/brisk_maze/briskmaze/search/RankedFrontier", "removeFirst", "()I"⟩ : MethodName)) hown (mvT hZ (hw _ (List.mem_of_getElem? (i := 34) rfl))) (mvT hZ (hw _ (List.mem_of_getElem? (i := 35) rfl))) (notFace_of_selects (args := #[]) (mvT hZ (hw _ (List.mem_of_getElem? (i := 37) rfl)))) (mvT hZ (hw _ (List.mem_of_getElem? (i := 37) rfl))) (mvT hZ (hw _ (List.mem_of_getElem? (i := 36) rfl))) (by decide) (backOf (W := 0) (rm6 l Z a0 hw [] b224 tr_228 tc_228 ts_228 f2_250 (0 : Nat) T250.heap n0 ZZ252 P250_1 P250_2 P250_3 E_b224_251 P250_0 P250_4 P250_5 P250_6 g_tr_228 g_tc_228 g_ts_228 g_b224 ne_b224_tr_228 ne_b224_tc_228 ne_b224_ts_228 ne_tr_tc_228 ne_tr_ts_228 ne_tc_ts_228 (by decide) P250_7) hZ (hw _ (List.mem_of_getElem? (i := 38) rfl)) (hw _ (List.mem_of_getElem? (i := 3) rfl)) (by decide) (by decide)) q254a q254c (g := (mkF m 121 #[.val (.int p0), .val (.long q1), .second, .val (.int p2), .val (.int p3), .val (.int p4), .val (.long q5), .second, .val (.int (3 : Int32)), .val (.int (3 : Int32)), .val (.ref b224), .val (.int ((f3_12 (0 : Int32)) &&& 1)), .val (.int ((f3_12 (((2 : Nat) + 1).toInt32)) &&& 1)), .unset] [(.ref b224)])) rfl (by rw [hml]; rfl) (Steps.refl _) (argsL := []) (rest := []) (lenOf pd_7 rfl) rfl (by show 2 * 0 + _ ≤ _; exact Nat.le_of_eq rfl) (hb hby at_121) (fun _ _ => ⟨rfl, rfl, (by decide : 4 + 0 ≤ _), (by decide : 196 + 0 ≤ _)⟩)
      dsimp only [Pt.U, Pt.locs, Pt.cells, Pt.slots] at X254 l254 y254 z254 st254 hQ254
      subst l254 y254 z254
      obtain ⟨f2_254, rfl, N254q, Kc254, P254_0, P254_1, P254_2, P254_3, P254_4, P254_5, P254_6, P254_7, P254_8⟩ := hQ254
      have N254 := Fr.app N250 N254q
      have E_b224_255 : Exa Z T254.heap b224 "com/example/brisk_maze/briskmaze/search/RankedFrontier" := (E_b224_251).keep Kc254
      have SZ256 : h0.size ≤ T254.heap.size := Nat.le_trans SZ252 Kc254.1
      have ZZ256 : n0 ≤ T254.heap.size := Nat.le_trans Z0 SZ256
      have K257 : Keep h0 T254.heap [] := (K253).trans Kc254 (allS (Or.inr szz_tr_228) (allS (Or.inr szz_tc_228) (allS (Or.inr szz_ts_228) (allS (Or.inr sz_b224) all0))))
      obtain ⟨cq258, kq258, q258a, q258b, q258c⟩ := isOf hZ rfl (E_b224_255)
      obtain ⟨_, _, ⟨T258, L258, k258, n258⟩, -, X258, ⟨Lc258, hQ258, l258, y258, z258⟩, st258⟩ := X254.virtualBack hx (y := (⟨"com/example/brisk_maze/briskmaze/search/RankedFrontier", "isEmpty", "()Z"⟩ : MethodName)) (z := (⟨"com/example/brisk_maze/briskmaze/search/RankedFrontier", "isEmpty", "()Z"⟩ : MethodName)) hown (mvT hZ (hw _ (List.mem_of_getElem? (i := 18) rfl))) (mvT hZ (hw _ (List.mem_of_getElem? (i := 19) rfl))) (notFace_of_selects (args := #[]) (mvT hZ (hw _ (List.mem_of_getElem? (i := 21) rfl)))) (mvT hZ (hw _ (List.mem_of_getElem? (i := 21) rfl))) (mvT hZ (hw _ (List.mem_of_getElem? (i := 20) rfl))) (by decide) (backOf (W := 0) (rm3 l Z a0 hw [] b224 ((0 : Nat).toInt32) T254.heap n0 ZZ256 P254_0) hZ (hw _ (List.mem_of_getElem? (i := 22) rfl)) (hw _ (List.mem_of_getElem? (i := 3) rfl)) (by decide) (by decide)) q258a q258c (g := (mkF m 127 #[.val (.int p0), .val (.long q1), .second, .val (.int p2), .val (.int p3), .val (.int p4), .val (.long q5), .second, .val (.int (3 : Int32)), .val (.int (3 : Int32)), .val (.ref b224), .val (.int ((f3_12 (0 : Int32)) &&& 1)), .val (.int ((f3_12 (((2 : Nat) + 1).toInt32)) &&& 1)), .unset] [(.ref b224)])) rfl (by rw [hml]; rfl) (Steps.refl _) (argsL := []) (rest := []) (lenOf pd_5 rfl) rfl (by show 2 * 0 + _ ≤ _; exact Nat.le_of_eq rfl) (hb hby at_127) (fun _ _ => ⟨rfl, rfl, (by decide : 4 + 0 ≤ _), (by decide : 196 + 0 ≤ _)⟩)
      dsimp only [Pt.U, Pt.locs, Pt.cells, Pt.slots] at X258 l258 y258 z258 st258 hQ258
      subst l258 y258 z258
      obtain ⟨rfl, N258q, hh258⟩ := hQ258
      have N258 := Fr.app N254 N258q
      have pre259 : ∀ t, Steps p.tables e below (T258.setTop (mkF m 174 #[.val (.int p0), .val (.long q1), .second, .val (.int p2), .val (.int p3), .val (.int p4), .val (.long q5), .second, .val (.int (3 : Int32)), .val (.int (3 : Int32)), .val (.ref b224), .val (.int ((f3_12 (0 : Int32)) &&& 1)), .val (.int ((f3_12 (((2 : Nat) + 1).toInt32)) &&& 1)), .val (.int ((f3_12 ((0 : Nat).toInt32)) &&& 1))] [(.int (1 : Int32))])) t → Steps p.tables e below (s₁.setTop (entryFrame m #[(.int p0), (.long q1), (.int p2), (.int p3), (.int p4), (.long q5)] maxLocals)) t := fun t k => pre223 t (by
        show Steps p.tables e below (s₁.setTop (mkF m 18 #[.val (.int p0), .val (.long q1), .second, .val (.int p2), .val (.int p3), .val (.int p4), .val (.long q5), .second, .val (.int (3 : Int32)), .val (.int (3 : Int32)), .unset, .unset, .unset, .unset] [])) _
        refine st224 _ ?_
        show Steps p.tables e below (T224.setTop (mkF m 21 #[.val (.int p0), .val (.long q1), .second, .val (.int p2), .val (.int p3), .val (.int p4), .val (.long q5), .second, .val (.int (3 : Int32)), .val (.int (3 : Int32)), .unset, .unset, .unset, .unset] [(.ref b224)])) _
        refine XS.dup X224.here hx rfl (hb hby at_21) rfl rfl ?_
        show Steps p.tables e below (T224.setTop (mkF m 22 #[.val (.int p0), .val (.long q1), .second, .val (.int p2), .val (.int p3), .val (.int p4), .val (.long q5), .second, .val (.int (3 : Int32)), .val (.int (3 : Int32)), .unset, .unset, .unset, .unset] [(.ref b224), (.ref b224)])) _
        refine st228.trans ?_
        show Steps p.tables e below (T228.setTop (mkF m 25 #[.val (.int p0), .val (.long q1), .second, .val (.int p2), .val (.int p3), .val (.int p4), .val (.long q5), .second, .val (.int (3 : Int32)), .val (.int (3 : Int32)), .unset, .unset, .unset, .unset] [(.ref b224)])) _
        refine XS.astore X228.here hx rfl (hb hby at_25) rfl rfl (l' := #[.val (.int p0), .val (.long q1), .second, .val (.int p2), .val (.int p3), .val (.int p4), .val (.long q5), .second, .val (.int (3 : Int32)), .val (.int (3 : Int32)), .val (.ref b224), .unset, .unset, .unset]) rfl ?_
        show Steps p.tables e below (T228.setTop (mkF m 27 #[.val (.int p0), .val (.long q1), .second, .val (.int p2), .val (.int p3), .val (.int p4), .val (.long q5), .second, .val (.int (3 : Int32)), .val (.int (3 : Int32)), .val (.ref b224), .unset, .unset, .unset] [])) _
        refine XS.aload X228.here hx rfl (hb hby at_27) rfl rfl ?_
        show Steps p.tables e below (T228.setTop (mkF m 29 #[.val (.int p0), .val (.long q1), .second, .val (.int p2), .val (.int p3), .val (.int p4), .val (.long q5), .second, .val (.int (3 : Int32)), .val (.int (3 : Int32)), .val (.ref b224), .unset, .unset, .unset] [(.ref b224)])) _
        refine st232.trans ?_
        show Steps p.tables e below (T232.setTop (mkF m 32 #[.val (.int p0), .val (.long q1), .second, .val (.int p2), .val (.int p3), .val (.int p4), .val (.long q5), .second, .val (.int (3 : Int32)), .val (.int (3 : Int32)), .val (.ref b224), .unset, .unset, .unset] [(.int ((f3_12 (0 : Int32)) &&& 1))])) _
        refine XS.istore X232.here hx rfl (hb hby at_32) rfl (l' := #[.val (.int p0), .val (.long q1), .second, .val (.int p2), .val (.int p3), .val (.int p4), .val (.long q5), .second, .val (.int (3 : Int32)), .val (.int (3 : Int32)), .val (.ref b224), .val (.int ((f3_12 (0 : Int32)) &&& 1)), .unset, .unset]) rfl ?_
        show Steps p.tables e below (T232.setTop (mkF m 34 #[.val (.int p0), .val (.long q1), .second, .val (.int p2), .val (.int p3), .val (.int p4), .val (.long q5), .second, .val (.int (3 : Int32)), .val (.int (3 : Int32)), .val (.ref b224), .val (.int ((f3_12 (0 : Int32)) &&& 1)), .unset, .unset] [])) _
        refine XS.iload X232.here hx rfl (hb hby at_34) rfl ?_
        show Steps p.tables e below (T232.setTop (mkF m 36 #[.val (.int p0), .val (.long q1), .second, .val (.int p2), .val (.int p3), .val (.int p4), .val (.long q5), .second, .val (.int (3 : Int32)), .val (.int (3 : Int32)), .val (.ref b224), .val (.int ((f3_12 (0 : Int32)) &&& 1)), .unset, .unset] [(.int (3 : Int32))])) _
        refine XS.iconst X232.here hx rfl (hb hby at_36) ?_
        show Steps p.tables e below (T232.setTop (mkF m 37 #[.val (.int p0), .val (.long q1), .second, .val (.int p2), .val (.int p3), .val (.int p4), .val (.long q5), .second, .val (.int (3 : Int32)), .val (.int (3 : Int32)), .val (.ref b224), .val (.int ((f3_12 (0 : Int32)) &&& 1)), .unset, .unset] [(.int (1 : Int32)), (.int (3 : Int32))])) _
        refine XS.icmpNo X232.here hx rfl (hb hby at_37) rfl (flt (show ¬ ((3 : Int32) < (1 : Int32)) by decide)).1 ?_
        show Steps p.tables e below (T232.setTop (mkF m 40 #[.val (.int p0), .val (.long q1), .second, .val (.int p2), .val (.int p3), .val (.int p4), .val (.long q5), .second, .val (.int (3 : Int32)), .val (.int (3 : Int32)), .val (.ref b224), .val (.int ((f3_12 (0 : Int32)) &&& 1)), .unset, .unset] [])) _
        refine XS.aload X232.here hx rfl (hb hby at_40) rfl rfl ?_
        show Steps p.tables e below (T232.setTop (mkF m 42 #[.val (.int p0), .val (.long q1), .second, .val (.int p2), .val (.int p3), .val (.int p4), .val (.long q5), .second, .val (.int (3 : Int32)), .val (.int (3 : Int32)), .val (.ref b224), .val (.int ((f3_12 (0 : Int32)) &&& 1)), .unset, .unset] [(.ref b224)])) _
        refine XS.iloadN X232.here hx rfl (hb hby at_42) rfl ?_
        show Steps p.tables e below (T232.setTop (mkF m 43 #[.val (.int p0), .val (.long q1), .second, .val (.int p2), .val (.int p3), .val (.int p4), .val (.long q5), .second, .val (.int (3 : Int32)), .val (.int (3 : Int32)), .val (.ref b224), .val (.int ((f3_12 (0 : Int32)) &&& 1)), .unset, .unset] [(.int p0), (.ref b224)])) _
        refine XS.lloadN X232.here hx rfl (hb hby at_43) rfl ?_
        show Steps p.tables e below (T232.setTop (mkF m 44 #[.val (.int p0), .val (.long q1), .second, .val (.int p2), .val (.int p3), .val (.int p4), .val (.long q5), .second, .val (.int (3 : Int32)), .val (.int (3 : Int32)), .val (.ref b224), .val (.int ((f3_12 (0 : Int32)) &&& 1)), .unset, .unset] [(.long q1), (.int p0), (.ref b224)])) _
        refine XS.iloadN X232.here hx rfl (hb hby at_44) rfl ?_
        show Steps p.tables e below (T232.setTop (mkF m 45 #[.val (.int p0), .val (.long q1), .second, .val (.int p2), .val (.int p3), .val (.int p4), .val (.long q5), .second, .val (.int (3 : Int32)), .val (.int (3 : Int32)), .val (.ref b224), .val (.int ((f3_12 (0 : Int32)) &&& 1)), .unset, .unset] [(.int p2), (.long q1), (.int p0), (.ref b224)])) _
        refine st233.trans ?_
        show Steps p.tables e below (T233.setTop (mkF m 48 #[.val (.int p0), .val (.long q1), .second, .val (.int p2), .val (.int p3), .val (.int p4), .val (.long q5), .second, .val (.int (3 : Int32)), .val (.int (3 : Int32)), .val (.ref b224), .val (.int ((f3_12 (0 : Int32)) &&& 1)), .unset, .unset] [])) _
        refine XS.iload X233.here hx rfl (hb hby at_48) rfl ?_
        show Steps p.tables e below (T233.setTop (mkF m 50 #[.val (.int p0), .val (.long q1), .second, .val (.int p2), .val (.int p3), .val (.int p4), .val (.long q5), .second, .val (.int (3 : Int32)), .val (.int (3 : Int32)), .val (.ref b224), .val (.int ((f3_12 (0 : Int32)) &&& 1)), .unset, .unset] [(.int (3 : Int32))])) _
        refine XS.iconst X233.here hx rfl (hb hby at_50) ?_
        show Steps p.tables e below (T233.setTop (mkF m 51 #[.val (.int p0), .val (.long q1), .second, .val (.int p2), .val (.int p3), .val (.int p4), .val (.long q5), .second, .val (.int (3 : Int32)), .val (.int (3 : Int32)), .val (.ref b224), .val (.int ((f3_12 (0 : Int32)) &&& 1)), .unset, .unset] [(.int (2 : Int32)), (.int (3 : Int32))])) _
        refine XS.icmpNo X233.here hx rfl (hb hby at_51) rfl (flt (show ¬ ((3 : Int32) < (2 : Int32)) by decide)).1 ?_
        show Steps p.tables e below (T233.setTop (mkF m 54 #[.val (.int p0), .val (.long q1), .second, .val (.int p2), .val (.int p3), .val (.int p4), .val (.long q5), .second, .val (.int (3 : Int32)), .val (.int (3 : Int32)), .val (.ref b224), .val (.int ((f3_12 (0 : Int32)) &&& 1)), .unset, .unset] [])) _
        refine XS.aload X233.here hx rfl (hb hby at_54) rfl rfl ?_
        show Steps p.tables e below (T233.setTop (mkF m 56 #[.val (.int p0), .val (.long q1), .second, .val (.int p2), .val (.int p3), .val (.int p4), .val (.long q5), .second, .val (.int (3 : Int32)), .val (.int (3 : Int32)), .val (.ref b224), .val (.int ((f3_12 (0 : Int32)) &&& 1)), .unset, .unset] [(.ref b224)])) _
        refine XS.iloadN X233.here hx rfl (hb hby at_56) rfl ?_
        show Steps p.tables e below (T233.setTop (mkF m 57 #[.val (.int p0), .val (.long q1), .second, .val (.int p2), .val (.int p3), .val (.int p4), .val (.long q5), .second, .val (.int (3 : Int32)), .val (.int (3 : Int32)), .val (.ref b224), .val (.int ((f3_12 (0 : Int32)) &&& 1)), .unset, .unset] [(.int p2), (.ref b224)])) _
        refine XS.lload X233.here hx rfl (hb hby at_57) rfl ?_
        show Steps p.tables e below (T233.setTop (mkF m 59 #[.val (.int p0), .val (.long q1), .second, .val (.int p2), .val (.int p3), .val (.int p4), .val (.long q5), .second, .val (.int (3 : Int32)), .val (.int (3 : Int32)), .val (.ref b224), .val (.int ((f3_12 (0 : Int32)) &&& 1)), .unset, .unset] [(.long q5), (.int p2), (.ref b224)])) _
        refine XS.iloadN X233.here hx rfl (hb hby at_59) rfl ?_
        show Steps p.tables e below (T233.setTop (mkF m 60 #[.val (.int p0), .val (.long q1), .second, .val (.int p2), .val (.int p3), .val (.int p4), .val (.long q5), .second, .val (.int (3 : Int32)), .val (.int (3 : Int32)), .val (.ref b224), .val (.int ((f3_12 (0 : Int32)) &&& 1)), .unset, .unset] [(.int p0), (.long q5), (.int p2), (.ref b224)])) _
        refine st237.trans ?_
        show Steps p.tables e below (T237.setTop (mkF m 63 #[.val (.int p0), .val (.long q1), .second, .val (.int p2), .val (.int p3), .val (.int p4), .val (.long q5), .second, .val (.int (3 : Int32)), .val (.int (3 : Int32)), .val (.ref b224), .val (.int ((f3_12 (0 : Int32)) &&& 1)), .unset, .unset] [])) _
        refine XS.iload X237.here hx rfl (hb hby at_63) rfl ?_
        show Steps p.tables e below (T237.setTop (mkF m 65 #[.val (.int p0), .val (.long q1), .second, .val (.int p2), .val (.int p3), .val (.int p4), .val (.long q5), .second, .val (.int (3 : Int32)), .val (.int (3 : Int32)), .val (.ref b224), .val (.int ((f3_12 (0 : Int32)) &&& 1)), .unset, .unset] [(.int (3 : Int32))])) _
        refine XS.iconst X237.here hx rfl (hb hby at_65) ?_
        show Steps p.tables e below (T237.setTop (mkF m 66 #[.val (.int p0), .val (.long q1), .second, .val (.int p2), .val (.int p3), .val (.int p4), .val (.long q5), .second, .val (.int (3 : Int32)), .val (.int (3 : Int32)), .val (.ref b224), .val (.int ((f3_12 (0 : Int32)) &&& 1)), .unset, .unset] [(.int (3 : Int32)), (.int (3 : Int32))])) _
        refine XS.icmpNo X237.here hx rfl (hb hby at_66) rfl (flt (show ¬ ((3 : Int32) < (3 : Int32)) by decide)).1 ?_
        show Steps p.tables e below (T237.setTop (mkF m 69 #[.val (.int p0), .val (.long q1), .second, .val (.int p2), .val (.int p3), .val (.int p4), .val (.long q5), .second, .val (.int (3 : Int32)), .val (.int (3 : Int32)), .val (.ref b224), .val (.int ((f3_12 (0 : Int32)) &&& 1)), .unset, .unset] [])) _
        refine XS.aload X237.here hx rfl (hb hby at_69) rfl rfl ?_
        show Steps p.tables e below (T237.setTop (mkF m 71 #[.val (.int p0), .val (.long q1), .second, .val (.int p2), .val (.int p3), .val (.int p4), .val (.long q5), .second, .val (.int (3 : Int32)), .val (.int (3 : Int32)), .val (.ref b224), .val (.int ((f3_12 (0 : Int32)) &&& 1)), .unset, .unset] [(.ref b224)])) _
        refine XS.iload X237.here hx rfl (hb hby at_71) rfl ?_
        show Steps p.tables e below (T237.setTop (mkF m 73 #[.val (.int p0), .val (.long q1), .second, .val (.int p2), .val (.int p3), .val (.int p4), .val (.long q5), .second, .val (.int (3 : Int32)), .val (.int (3 : Int32)), .val (.ref b224), .val (.int ((f3_12 (0 : Int32)) &&& 1)), .unset, .unset] [(.int p3), (.ref b224)])) _
        refine XS.lloadN X237.here hx rfl (hb hby at_73) rfl ?_
        show Steps p.tables e below (T237.setTop (mkF m 74 #[.val (.int p0), .val (.long q1), .second, .val (.int p2), .val (.int p3), .val (.int p4), .val (.long q5), .second, .val (.int (3 : Int32)), .val (.int (3 : Int32)), .val (.ref b224), .val (.int ((f3_12 (0 : Int32)) &&& 1)), .unset, .unset] [(.long q1), (.int p3), (.ref b224)])) _
        refine XS.lload X237.here hx rfl (hb hby at_74) rfl ?_
        show Steps p.tables e below (T237.setTop (mkF m 76 #[.val (.int p0), .val (.long q1), .second, .val (.int p2), .val (.int p3), .val (.int p4), .val (.long q5), .second, .val (.int (3 : Int32)), .val (.int (3 : Int32)), .val (.ref b224), .val (.int ((f3_12 (0 : Int32)) &&& 1)), .unset, .unset] [(.long q5), (.long q1), (.int p3), (.ref b224)])) _
        refine XS.lxor X237.here hx rfl (hb hby at_76) rfl ?_
        show Steps p.tables e below (T237.setTop (mkF m 77 #[.val (.int p0), .val (.long q1), .second, .val (.int p2), .val (.int p3), .val (.int p4), .val (.long q5), .second, .val (.int (3 : Int32)), .val (.int (3 : Int32)), .val (.ref b224), .val (.int ((f3_12 (0 : Int32)) &&& 1)), .unset, .unset] [(.long (q1 ^^^ q5)), (.int p3), (.ref b224)])) _
        refine XS.iload X237.here hx rfl (hb hby at_77) rfl ?_
        show Steps p.tables e below (T237.setTop (mkF m 79 #[.val (.int p0), .val (.long q1), .second, .val (.int p2), .val (.int p3), .val (.int p4), .val (.long q5), .second, .val (.int (3 : Int32)), .val (.int (3 : Int32)), .val (.ref b224), .val (.int ((f3_12 (0 : Int32)) &&& 1)), .unset, .unset] [(.int p4), (.long (q1 ^^^ q5)), (.int p3), (.ref b224)])) _
        refine st241.trans ?_
        show Steps p.tables e below (T241.setTop (mkF m 82 #[.val (.int p0), .val (.long q1), .second, .val (.int p2), .val (.int p3), .val (.int p4), .val (.long q5), .second, .val (.int (3 : Int32)), .val (.int (3 : Int32)), .val (.ref b224), .val (.int ((f3_12 (0 : Int32)) &&& 1)), .unset, .unset] [])) _
        refine XS.aload X241.here hx rfl (hb hby at_82) rfl rfl ?_
        show Steps p.tables e below (T241.setTop (mkF m 84 #[.val (.int p0), .val (.long q1), .second, .val (.int p2), .val (.int p3), .val (.int p4), .val (.long q5), .second, .val (.int (3 : Int32)), .val (.int (3 : Int32)), .val (.ref b224), .val (.int ((f3_12 (0 : Int32)) &&& 1)), .unset, .unset] [(.ref b224)])) _
        refine st245.trans ?_
        show Steps p.tables e below (T245.setTop (mkF m 87 #[.val (.int p0), .val (.long q1), .second, .val (.int p2), .val (.int p3), .val (.int p4), .val (.long q5), .second, .val (.int (3 : Int32)), .val (.int (3 : Int32)), .val (.ref b224), .val (.int ((f3_12 (0 : Int32)) &&& 1)), .unset, .unset] [(.int ((f3_12 (((2 : Nat) + 1).toInt32)) &&& 1))])) _
        refine XS.istore X245.here hx rfl (hb hby at_87) rfl (l' := #[.val (.int p0), .val (.long q1), .second, .val (.int p2), .val (.int p3), .val (.int p4), .val (.long q5), .second, .val (.int (3 : Int32)), .val (.int (3 : Int32)), .val (.ref b224), .val (.int ((f3_12 (0 : Int32)) &&& 1)), .val (.int ((f3_12 (((2 : Nat) + 1).toInt32)) &&& 1)), .unset]) rfl ?_
        show Steps p.tables e below (T245.setTop (mkF m 89 #[.val (.int p0), .val (.long q1), .second, .val (.int p2), .val (.int p3), .val (.int p4), .val (.long q5), .second, .val (.int (3 : Int32)), .val (.int (3 : Int32)), .val (.ref b224), .val (.int ((f3_12 (0 : Int32)) &&& 1)), .val (.int ((f3_12 (((2 : Nat) + 1).toInt32)) &&& 1)), .unset] [])) _
        refine XS.iload X245.here hx rfl (hb hby at_89) rfl ?_
        show Steps p.tables e below (T245.setTop (mkF m 91 #[.val (.int p0), .val (.long q1), .second, .val (.int p2), .val (.int p3), .val (.int p4), .val (.long q5), .second, .val (.int (3 : Int32)), .val (.int (3 : Int32)), .val (.ref b224), .val (.int ((f3_12 (0 : Int32)) &&& 1)), .val (.int ((f3_12 (((2 : Nat) + 1).toInt32)) &&& 1)), .unset] [(.int (3 : Int32))])) _
        refine XS.iconst X245.here hx rfl (hb hby at_91) ?_
        show Steps p.tables e below (T245.setTop (mkF m 92 #[.val (.int p0), .val (.long q1), .second, .val (.int p2), .val (.int p3), .val (.int p4), .val (.long q5), .second, .val (.int (3 : Int32)), .val (.int (3 : Int32)), .val (.ref b224), .val (.int ((f3_12 (0 : Int32)) &&& 1)), .val (.int ((f3_12 (((2 : Nat) + 1).toInt32)) &&& 1)), .unset] [(.int (1 : Int32)), (.int (3 : Int32))])) _
        refine XS.icmpNo X245.here hx rfl (hb hby at_92) rfl (flt (show ¬ ((3 : Int32) < (1 : Int32)) by decide)).1 ?_
        show Steps p.tables e below (T245.setTop (mkF m 95 #[.val (.int p0), .val (.long q1), .second, .val (.int p2), .val (.int p3), .val (.int p4), .val (.long q5), .second, .val (.int (3 : Int32)), .val (.int (3 : Int32)), .val (.ref b224), .val (.int ((f3_12 (0 : Int32)) &&& 1)), .val (.int ((f3_12 (((2 : Nat) + 1).toInt32)) &&& 1)), .unset] [])) _
        refine XS.aload X245.here hx rfl (hb hby at_95) rfl rfl ?_
        show Steps p.tables e below (T245.setTop (mkF m 97 #[.val (.int p0), .val (.long q1), .second, .val (.int p2), .val (.int p3), .val (.int p4), .val (.long q5), .second, .val (.int (3 : Int32)), .val (.int (3 : Int32)), .val (.ref b224), .val (.int ((f3_12 (0 : Int32)) &&& 1)), .val (.int ((f3_12 (((2 : Nat) + 1).toInt32)) &&& 1)), .unset] [(.ref b224)])) _
        refine st246.trans ?_
        show Steps p.tables e below (T246.setTop (mkF m 100 #[.val (.int p0), .val (.long q1), .second, .val (.int p2), .val (.int p3), .val (.int p4), .val (.long q5), .second, .val (.int (3 : Int32)), .val (.int (3 : Int32)), .val (.ref b224), .val (.int ((f3_12 (0 : Int32)) &&& 1)), .val (.int ((f3_12 (((2 : Nat) + 1).toInt32)) &&& 1)), .unset] [(.int ((f2_241 0).2.2))])) _
        refine XS.pop X246.here hx rfl (hb hby at_100) rfl rfl ?_
        show Steps p.tables e below (T246.setTop (mkF m 101 #[.val (.int p0), .val (.long q1), .second, .val (.int p2), .val (.int p3), .val (.int p4), .val (.long q5), .second, .val (.int (3 : Int32)), .val (.int (3 : Int32)), .val (.ref b224), .val (.int ((f3_12 (0 : Int32)) &&& 1)), .val (.int ((f3_12 (((2 : Nat) + 1).toInt32)) &&& 1)), .unset] [])) _
        refine XS.iload X246.here hx rfl (hb hby at_101) rfl ?_
        show Steps p.tables e below (T246.setTop (mkF m 103 #[.val (.int p0), .val (.long q1), .second, .val (.int p2), .val (.int p3), .val (.int p4), .val (.long q5), .second, .val (.int (3 : Int32)), .val (.int (3 : Int32)), .val (.ref b224), .val (.int ((f3_12 (0 : Int32)) &&& 1)), .val (.int ((f3_12 (((2 : Nat) + 1).toInt32)) &&& 1)), .unset] [(.int (3 : Int32))])) _
        refine XS.iconst X246.here hx rfl (hb hby at_103) ?_
        show Steps p.tables e below (T246.setTop (mkF m 104 #[.val (.int p0), .val (.long q1), .second, .val (.int p2), .val (.int p3), .val (.int p4), .val (.long q5), .second, .val (.int (3 : Int32)), .val (.int (3 : Int32)), .val (.ref b224), .val (.int ((f3_12 (0 : Int32)) &&& 1)), .val (.int ((f3_12 (((2 : Nat) + 1).toInt32)) &&& 1)), .unset] [(.int (2 : Int32)), (.int (3 : Int32))])) _
        refine XS.icmpNo X246.here hx rfl (hb hby at_104) rfl (flt (show ¬ ((3 : Int32) < (2 : Int32)) by decide)).1 ?_
        show Steps p.tables e below (T246.setTop (mkF m 107 #[.val (.int p0), .val (.long q1), .second, .val (.int p2), .val (.int p3), .val (.int p4), .val (.long q5), .second, .val (.int (3 : Int32)), .val (.int (3 : Int32)), .val (.ref b224), .val (.int ((f3_12 (0 : Int32)) &&& 1)), .val (.int ((f3_12 (((2 : Nat) + 1).toInt32)) &&& 1)), .unset] [])) _
        refine XS.aload X246.here hx rfl (hb hby at_107) rfl rfl ?_
        show Steps p.tables e below (T246.setTop (mkF m 109 #[.val (.int p0), .val (.long q1), .second, .val (.int p2), .val (.int p3), .val (.int p4), .val (.long q5), .second, .val (.int (3 : Int32)), .val (.int (3 : Int32)), .val (.ref b224), .val (.int ((f3_12 (0 : Int32)) &&& 1)), .val (.int ((f3_12 (((2 : Nat) + 1).toInt32)) &&& 1)), .unset] [(.ref b224)])) _
        refine st250.trans ?_
        show Steps p.tables e below (T250.setTop (mkF m 112 #[.val (.int p0), .val (.long q1), .second, .val (.int p2), .val (.int p3), .val (.int p4), .val (.long q5), .second, .val (.int (3 : Int32)), .val (.int (3 : Int32)), .val (.ref b224), .val (.int ((f3_12 (0 : Int32)) &&& 1)), .val (.int ((f3_12 (((2 : Nat) + 1).toInt32)) &&& 1)), .unset] [(.int ((f2_246 0).2.2))])) _
        refine XS.pop X250.here hx rfl (hb hby at_112) rfl rfl ?_
        show Steps p.tables e below (T250.setTop (mkF m 113 #[.val (.int p0), .val (.long q1), .second, .val (.int p2), .val (.int p3), .val (.int p4), .val (.long q5), .second, .val (.int (3 : Int32)), .val (.int (3 : Int32)), .val (.ref b224), .val (.int ((f3_12 (0 : Int32)) &&& 1)), .val (.int ((f3_12 (((2 : Nat) + 1).toInt32)) &&& 1)), .unset] [])) _
        refine XS.iload X250.here hx rfl (hb hby at_113) rfl ?_
        show Steps p.tables e below (T250.setTop (mkF m 115 #[.val (.int p0), .val (.long q1), .second, .val (.int p2), .val (.int p3), .val (.int p4), .val (.long q5), .second, .val (.int (3 : Int32)), .val (.int (3 : Int32)), .val (.ref b224), .val (.int ((f3_12 (0 : Int32)) &&& 1)), .val (.int ((f3_12 (((2 : Nat) + 1).toInt32)) &&& 1)), .unset] [(.int (3 : Int32))])) _
        refine XS.iconst X250.here hx rfl (hb hby at_115) ?_
        show Steps p.tables e below (T250.setTop (mkF m 116 #[.val (.int p0), .val (.long q1), .second, .val (.int p2), .val (.int p3), .val (.int p4), .val (.long q5), .second, .val (.int (3 : Int32)), .val (.int (3 : Int32)), .val (.ref b224), .val (.int ((f3_12 (0 : Int32)) &&& 1)), .val (.int ((f3_12 (((2 : Nat) + 1).toInt32)) &&& 1)), .unset] [(.int (3 : Int32)), (.int (3 : Int32))])) _
        refine XS.icmpNo X250.here hx rfl (hb hby at_116) rfl (flt (show ¬ ((3 : Int32) < (3 : Int32)) by decide)).1 ?_
        show Steps p.tables e below (T250.setTop (mkF m 119 #[.val (.int p0), .val (.long q1), .second, .val (.int p2), .val (.int p3), .val (.int p4), .val (.long q5), .second, .val (.int (3 : Int32)), .val (.int (3 : Int32)), .val (.ref b224), .val (.int ((f3_12 (0 : Int32)) &&& 1)), .val (.int ((f3_12 (((2 : Nat) + 1).toInt32)) &&& 1)), .unset] [])) _
        refine XS.aload X250.here hx rfl (hb hby at_119) rfl rfl ?_
        show Steps p.tables e below (T250.setTop (mkF m 121 #[.val (.int p0), .val (.long q1), .second, .val (.int p2), .val (.int p3), .val (.int p4), .val (.long q5), .second, .val (.int (3 : Int32)), .val (.int (3 : Int32)), .val (.ref b224), .val (.int ((f3_12 (0 : Int32)) &&& 1)), .val (.int ((f3_12 (((2 : Nat) + 1).toInt32)) &&& 1)), .unset] [(.ref b224)])) _
        refine st254.trans ?_
        show Steps p.tables e below (T254.setTop (mkF m 124 #[.val (.int p0), .val (.long q1), .second, .val (.int p2), .val (.int p3), .val (.int p4), .val (.long q5), .second, .val (.int (3 : Int32)), .val (.int (3 : Int32)), .val (.ref b224), .val (.int ((f3_12 (0 : Int32)) &&& 1)), .val (.int ((f3_12 (((2 : Nat) + 1).toInt32)) &&& 1)), .unset] [(.int ((f2_250 0).2.2))])) _
        refine XS.pop X254.here hx rfl (hb hby at_124) rfl rfl ?_
        show Steps p.tables e below (T254.setTop (mkF m 125 #[.val (.int p0), .val (.long q1), .second, .val (.int p2), .val (.int p3), .val (.int p4), .val (.long q5), .second, .val (.int (3 : Int32)), .val (.int (3 : Int32)), .val (.ref b224), .val (.int ((f3_12 (0 : Int32)) &&& 1)), .val (.int ((f3_12 (((2 : Nat) + 1).toInt32)) &&& 1)), .unset] [])) _
        refine XS.aload X254.here hx rfl (hb hby at_125) rfl rfl ?_
        show Steps p.tables e below (T254.setTop (mkF m 127 #[.val (.int p0), .val (.long q1), .second, .val (.int p2), .val (.int p3), .val (.int p4), .val (.long q5), .second, .val (.int (3 : Int32)), .val (.int (3 : Int32)), .val (.ref b224), .val (.int ((f3_12 (0 : Int32)) &&& 1)), .val (.int ((f3_12 (((2 : Nat) + 1).toInt32)) &&& 1)), .unset] [(.ref b224)])) _
        refine st258.trans ?_
        show Steps p.tables e below (T258.setTop (mkF m 130 #[.val (.int p0), .val (.long q1), .second, .val (.int p2), .val (.int p3), .val (.int p4), .val (.long q5), .second, .val (.int (3 : Int32)), .val (.int (3 : Int32)), .val (.ref b224), .val (.int ((f3_12 (0 : Int32)) &&& 1)), .val (.int ((f3_12 (((2 : Nat) + 1).toInt32)) &&& 1)), .unset] [(.int ((f3_12 ((0 : Nat).toInt32)) &&& 1))])) _
        refine XS.istore X258.here hx rfl (hb hby at_130) rfl (l' := #[.val (.int p0), .val (.long q1), .second, .val (.int p2), .val (.int p3), .val (.int p4), .val (.long q5), .second, .val (.int (3 : Int32)), .val (.int (3 : Int32)), .val (.ref b224), .val (.int ((f3_12 (0 : Int32)) &&& 1)), .val (.int ((f3_12 (((2 : Nat) + 1).toInt32)) &&& 1)), .val (.int ((f3_12 ((0 : Nat).toInt32)) &&& 1))]) rfl ?_
        show Steps p.tables e below (T258.setTop (mkF m 132 #[.val (.int p0), .val (.long q1), .second, .val (.int p2), .val (.int p3), .val (.int p4), .val (.long q5), .second, .val (.int (3 : Int32)), .val (.int (3 : Int32)), .val (.ref b224), .val (.int ((f3_12 (0 : Int32)) &&& 1)), .val (.int ((f3_12 (((2 : Nat) + 1).toInt32)) &&& 1)), .val (.int ((f3_12 ((0 : Nat).toInt32)) &&& 1))] [])) _
        refine XS.iload X258.here hx rfl (hb hby at_132) rfl ?_
        show Steps p.tables e below (T258.setTop (mkF m 134 #[.val (.int p0), .val (.long q1), .second, .val (.int p2), .val (.int p3), .val (.int p4), .val (.long q5), .second, .val (.int (3 : Int32)), .val (.int (3 : Int32)), .val (.ref b224), .val (.int ((f3_12 (0 : Int32)) &&& 1)), .val (.int ((f3_12 (((2 : Nat) + 1).toInt32)) &&& 1)), .val (.int ((f3_12 ((0 : Nat).toInt32)) &&& 1))] [(.int ((f3_12 (0 : Int32)) &&& 1))])) _
        refine XS.ifNo X258.here hx rfl (hb hby at_134) rfl ((if0 _ _).trans (feq (show ¬ (((f3_12 (0 : Int32)) &&& 1) = (0 : Int32)) from by decide)).1) ?_
        show Steps p.tables e below (T258.setTop (mkF m 137 #[.val (.int p0), .val (.long q1), .second, .val (.int p2), .val (.int p3), .val (.int p4), .val (.long q5), .second, .val (.int (3 : Int32)), .val (.int (3 : Int32)), .val (.ref b224), .val (.int ((f3_12 (0 : Int32)) &&& 1)), .val (.int ((f3_12 (((2 : Nat) + 1).toInt32)) &&& 1)), .val (.int ((f3_12 ((0 : Nat).toInt32)) &&& 1))] [])) _
        refine XS.iload X258.here hx rfl (hb hby at_137) rfl ?_
        show Steps p.tables e below (T258.setTop (mkF m 139 #[.val (.int p0), .val (.long q1), .second, .val (.int p2), .val (.int p3), .val (.int p4), .val (.long q5), .second, .val (.int (3 : Int32)), .val (.int (3 : Int32)), .val (.ref b224), .val (.int ((f3_12 (0 : Int32)) &&& 1)), .val (.int ((f3_12 (((2 : Nat) + 1).toInt32)) &&& 1)), .val (.int ((f3_12 ((0 : Nat).toInt32)) &&& 1))] [(.int ((f3_12 (((2 : Nat) + 1).toInt32)) &&& 1))])) _
        refine XS.iload X258.here hx rfl (hb hby at_139) rfl ?_
        show Steps p.tables e below (T258.setTop (mkF m 141 #[.val (.int p0), .val (.long q1), .second, .val (.int p2), .val (.int p3), .val (.int p4), .val (.long q5), .second, .val (.int (3 : Int32)), .val (.int (3 : Int32)), .val (.ref b224), .val (.int ((f3_12 (0 : Int32)) &&& 1)), .val (.int ((f3_12 (((2 : Nat) + 1).toInt32)) &&& 1)), .val (.int ((f3_12 ((0 : Nat).toInt32)) &&& 1))] [(.int (3 : Int32)), (.int ((f3_12 (((2 : Nat) + 1).toInt32)) &&& 1))])) _
        refine XS.ifYes X258.here hx rfl (pc0 := 141) (pc' := 148) rfl (hb hby at_141) rfl ((if0 _ _).trans (feq (show ¬ ((3 : Int32) = (0 : Int32)) by decide)).2) (by decide) (by decide) ?_
        show Steps p.tables e below (T258.setTop (mkF m 148 #[.val (.int p0), .val (.long q1), .second, .val (.int p2), .val (.int p3), .val (.int p4), .val (.long q5), .second, .val (.int (3 : Int32)), .val (.int (3 : Int32)), .val (.ref b224), .val (.int ((f3_12 (0 : Int32)) &&& 1)), .val (.int ((f3_12 (((2 : Nat) + 1).toInt32)) &&& 1)), .val (.int ((f3_12 ((0 : Nat).toInt32)) &&& 1))] [(.int ((f3_12 (((2 : Nat) + 1).toInt32)) &&& 1))])) _
        refine XS.iconst X258.here hx rfl (hb hby at_148) ?_
        show Steps p.tables e below (T258.setTop (mkF m 149 #[.val (.int p0), .val (.long q1), .second, .val (.int p2), .val (.int p3), .val (.int p4), .val (.long q5), .second, .val (.int (3 : Int32)), .val (.int (3 : Int32)), .val (.ref b224), .val (.int ((f3_12 (0 : Int32)) &&& 1)), .val (.int ((f3_12 (((2 : Nat) + 1).toInt32)) &&& 1)), .val (.int ((f3_12 ((0 : Nat).toInt32)) &&& 1))] [(.int (0 : Int32)), (.int ((f3_12 (((2 : Nat) + 1).toInt32)) &&& 1))])) _
        refine XS.icmpNo X258.here hx rfl (hb hby at_149) rfl (teq (show ((f3_12 (((2 : Nat) + 1).toInt32)) &&& 1) = (0 : Int32) from by decide)).2 ?_
        show Steps p.tables e below (T258.setTop (mkF m 152 #[.val (.int p0), .val (.long q1), .second, .val (.int p2), .val (.int p3), .val (.int p4), .val (.long q5), .second, .val (.int (3 : Int32)), .val (.int (3 : Int32)), .val (.ref b224), .val (.int ((f3_12 (0 : Int32)) &&& 1)), .val (.int ((f3_12 (((2 : Nat) + 1).toInt32)) &&& 1)), .val (.int ((f3_12 ((0 : Nat).toInt32)) &&& 1))] [])) _
        refine XS.iload X258.here hx rfl (hb hby at_152) rfl ?_
        show Steps p.tables e below (T258.setTop (mkF m 154 #[.val (.int p0), .val (.long q1), .second, .val (.int p2), .val (.int p3), .val (.int p4), .val (.long q5), .second, .val (.int (3 : Int32)), .val (.int (3 : Int32)), .val (.ref b224), .val (.int ((f3_12 (0 : Int32)) &&& 1)), .val (.int ((f3_12 (((2 : Nat) + 1).toInt32)) &&& 1)), .val (.int ((f3_12 ((0 : Nat).toInt32)) &&& 1))] [(.int ((f3_12 ((0 : Nat).toInt32)) &&& 1))])) _
        refine XS.iload X258.here hx rfl (hb hby at_154) rfl ?_
        show Steps p.tables e below (T258.setTop (mkF m 156 #[.val (.int p0), .val (.long q1), .second, .val (.int p2), .val (.int p3), .val (.int p4), .val (.long q5), .second, .val (.int (3 : Int32)), .val (.int (3 : Int32)), .val (.ref b224), .val (.int ((f3_12 (0 : Int32)) &&& 1)), .val (.int ((f3_12 (((2 : Nat) + 1).toInt32)) &&& 1)), .val (.int ((f3_12 ((0 : Nat).toInt32)) &&& 1))] [(.int (3 : Int32)), (.int ((f3_12 ((0 : Nat).toInt32)) &&& 1))])) _
        refine XS.iload X258.here hx rfl (hb hby at_156) rfl ?_
        show Steps p.tables e below (T258.setTop (mkF m 158 #[.val (.int p0), .val (.long q1), .second, .val (.int p2), .val (.int p3), .val (.int p4), .val (.long q5), .second, .val (.int (3 : Int32)), .val (.int (3 : Int32)), .val (.ref b224), .val (.int ((f3_12 (0 : Int32)) &&& 1)), .val (.int ((f3_12 (((2 : Nat) + 1).toInt32)) &&& 1)), .val (.int ((f3_12 ((0 : Nat).toInt32)) &&& 1))] [(.int (3 : Int32)), (.int (3 : Int32)), (.int ((f3_12 ((0 : Nat).toInt32)) &&& 1))])) _
        refine XS.icmpNo X258.here hx rfl (hb hby at_158) rfl (teq (show (3 : Int32) = (3 : Int32) by decide)).2 ?_
        show Steps p.tables e below (T258.setTop (mkF m 161 #[.val (.int p0), .val (.long q1), .second, .val (.int p2), .val (.int p3), .val (.int p4), .val (.long q5), .second, .val (.int (3 : Int32)), .val (.int (3 : Int32)), .val (.ref b224), .val (.int ((f3_12 (0 : Int32)) &&& 1)), .val (.int ((f3_12 (((2 : Nat) + 1).toInt32)) &&& 1)), .val (.int ((f3_12 ((0 : Nat).toInt32)) &&& 1))] [(.int ((f3_12 ((0 : Nat).toInt32)) &&& 1))])) _
        refine XS.iconst X258.here hx rfl (hb hby at_161) ?_
        show Steps p.tables e below (T258.setTop (mkF m 162 #[.val (.int p0), .val (.long q1), .second, .val (.int p2), .val (.int p3), .val (.int p4), .val (.long q5), .second, .val (.int (3 : Int32)), .val (.int (3 : Int32)), .val (.ref b224), .val (.int ((f3_12 (0 : Int32)) &&& 1)), .val (.int ((f3_12 (((2 : Nat) + 1).toInt32)) &&& 1)), .val (.int ((f3_12 ((0 : Nat).toInt32)) &&& 1))] [(.int (1 : Int32)), (.int ((f3_12 ((0 : Nat).toInt32)) &&& 1))])) _
        refine XS.goto X258.here hx rfl (pc0 := 162) (pc' := 166) rfl (hb hby at_162) (by decide) (by decide) ?_
        show Steps p.tables e below (T258.setTop (mkF m 166 #[.val (.int p0), .val (.long q1), .second, .val (.int p2), .val (.int p3), .val (.int p4), .val (.long q5), .second, .val (.int (3 : Int32)), .val (.int (3 : Int32)), .val (.ref b224), .val (.int ((f3_12 (0 : Int32)) &&& 1)), .val (.int ((f3_12 (((2 : Nat) + 1).toInt32)) &&& 1)), .val (.int ((f3_12 ((0 : Nat).toInt32)) &&& 1))] [(.int (1 : Int32)), (.int ((f3_12 ((0 : Nat).toInt32)) &&& 1))])) _
        refine XS.icmpNo X258.here hx rfl (hb hby at_166) rfl (teq (show ((f3_12 ((0 : Nat).toInt32)) &&& 1) = (1 : Int32) from by decide)).2 ?_
        show Steps p.tables e below (T258.setTop (mkF m 169 #[.val (.int p0), .val (.long q1), .second, .val (.int p2), .val (.int p3), .val (.int p4), .val (.long q5), .second, .val (.int (3 : Int32)), .val (.int (3 : Int32)), .val (.ref b224), .val (.int ((f3_12 (0 : Int32)) &&& 1)), .val (.int ((f3_12 (((2 : Nat) + 1).toInt32)) &&& 1)), .val (.int ((f3_12 ((0 : Nat).toInt32)) &&& 1))] [])) _
        refine XS.iconst X258.here hx rfl (hb hby at_169) ?_
        show Steps p.tables e below (T258.setTop (mkF m 170 #[.val (.int p0), .val (.long q1), .second, .val (.int p2), .val (.int p3), .val (.int p4), .val (.long q5), .second, .val (.int (3 : Int32)), .val (.int (3 : Int32)), .val (.ref b224), .val (.int ((f3_12 (0 : Int32)) &&& 1)), .val (.int ((f3_12 (((2 : Nat) + 1).toInt32)) &&& 1)), .val (.int ((f3_12 ((0 : Nat).toInt32)) &&& 1))] [(.int (1 : Int32))])) _
        refine XS.goto X258.here hx rfl (pc0 := 170) (pc' := 174) rfl (hb hby at_170) (by decide) (by decide) ?_
        show Steps p.tables e below (T258.setTop (mkF m 174 #[.val (.int p0), .val (.long q1), .second, .val (.int p2), .val (.int p3), .val (.int p4), .val (.long q5), .second, .val (.int (3 : Int32)), .val (.int (3 : Int32)), .val (.ref b224), .val (.int ((f3_12 (0 : Int32)) &&& 1)), .val (.int ((f3_12 (((2 : Nat) + 1).toInt32)) &&& 1)), .val (.int ((f3_12 ((0 : Nat).toInt32)) &&& 1))] [(.int (1 : Int32))])) _
        exact k)
      obtain ⟨fs, hr, hrun, hended, hW, hsame⟩ := X258.leave (v := some (.int (1 : Int32))) (fun h => by rw [Bd.returns] at h; cases h)
      refine ⟨_, _, pre259 _ ?_, hrun, hended, _, _, rfl, ?_, ⟨_, rfl⟩, hW, hsame.mono (by decide) (by decide)⟩
      · exact retN X258 hx (t := .boolean) Bd.returns (by simp) (hb hby at_174) hr
      · show Q0 Z p0 q1 p2 p3 p4 q5 h0 n0 _ T258.heap _
        rw [hh258]
        exact ⟨rfl, N258⟩
set_option maxRecDepth 65536 in
set_option maxHeartbeats 40000000 in
theorem comes_1 {Post : Tables → Env → Array Value → State → Outcome → State → Prop} (hpost : ∀ tb e args s v u, (limb_1_1.after args s (.returned v) u = true ∧ limb_1_2.after args s (.returned v) u = true ∧ True) → FrameEnd s (.returned v) u (Jvm.fieldLocs frame_1_writes args s ++ Jvm.arrayLocs frame_1_arrays args s ++ Jvm.staticLocs frame_1_statics s) 16 512 → Post tb e args s (.returned v) u) :
    ArmFor flags0 classFile x code maxLocals ret World_1 tables_1 room_1 Calls_1 rest_1 Pre_1 Post := by
  intro l hfl _ _ p e ha hc hk s m args below hf hA hF happ hP
  obtain ⟨hcalls, hrest, hpre⟩ := hP
  obtain ⟨-, -, -, hnamed, -, -, -, hat⟩ := (Spec.applies_iff hf).mp happ
  obtain ⟨hg, hn⟩ := and_e (Cond.before_iff.mp (show (Jvm.Cond.and given_1 narrow_1).before args s = true from hpre))
  obtain ⟨h1, g0⟩ := and_e hg
  obtain ⟨u0, g1⟩ := and_e g0
  obtain ⟨u1, g2⟩ := and_e g1
  obtain ⟨u2, g3⟩ := and_e g2
  obtain ⟨u3, g4⟩ := and_e g3
  obtain ⟨u4, g5⟩ := and_e g4
  obtain ⟨w0, w1, w2, w3, w4, w5, rfl⟩ : ∃ w0 w1 w2 w3 w4 w5 : Value, args = #[w0, w1, w2, w3, w4, w5] := by
    have hs : args.size = 6 := by simpa [Cond.value, given_1] using h1
    obtain ⟨L⟩ := args
    match L, hs with
    | [w0, w1, w2, w3, w4, w5], _ => exact ⟨w0, w1, w2, w3, w4, w5, rfl⟩
  have hw := fun d (hd : d ∈ tables_1) => atoms_spec (ws := Jvm.Cond.code x code maxLocals ret :: tables_1) hat d (List.mem_cons_of_mem _ hd)
  have hfit : Fit s := fun {y c} hc i hi => by
    obtain ⟨ha, rfl⟩ := Array.getElem?_eq_some_iff.mp hc
    have q := List.all_eq_true.mp ((Array.all_eq_true_iff_forall_mem.mp hF) _ (Array.getElem_mem ha)) i (List.mem_range.mpr hi)
    simpa [Array.getElem?_eq_getElem hi] using q
  obtain ⟨i0, e0⟩ := is_v u0
  obtain rfl : w0 = (.int i0) := Option.some.inj e0
  obtain ⟨i1, e1⟩ := isL_v u1
  obtain rfl : w1 = (.long i1) := Option.some.inj e1
  obtain ⟨i2, e2⟩ := is_v u2
  obtain rfl : w2 = (.int i2) := Option.some.inj e2
  obtain ⟨i3, e3⟩ := is_v u3
  obtain rfl : w3 = (.int i3) := Option.some.inj e3
  obtain ⟨i4, e4⟩ := is_v u4
  obtain rfl : w4 = (.int i4) := Option.some.inj e4
  obtain ⟨i5, e5⟩ := isL_v g5
  obtain rfl : w5 = (.long i5) := Option.some.inj e5
  obtain ⟨n, o, h1, h2, h3, _, L, rfl, ⟨rfl, N⟩, hq⟩ := rm0 l s _ hw tables_1 i0 i1 i2 i3 i4 i5  s.heap s.heap.size (Nat.le_refl _)  p e ha hc hk s m _ below hf ((Spec.applies_iff_loose hf).mp happ).1 ⟨rfl, State.Warmed39.refl s, rfl⟩ trivial
  refine ⟨n, _, h1, h2, h3, hpost _ _ _ _ _ _ ⟨Cond.after_iff.mpr rfl, Cond.after_iff.mpr (eq_i res_at (Term.int_eval (1)) rfl), trivial⟩ ⟨hq.1, hq.2.1, (hq.2.2.sift fun y hy => Or.inr (N y hy)).mono (by decide) (by decide)⟩⟩
theorem main_1_1 : Claimed_1_1 := comes_1 fun _ _ _ _ _ _ h hF => ⟨h.1, hF⟩
theorem main_1_2 : Claimed_1_2 := comes_1 fun _ _ _ _ _ _ h hF => ⟨h.2.1, hF⟩
end Jvm.Pilot.@@N@@
namespace Jvm.Pilot.@@N@@
open Jvm Jvm.ClassFile Sem Op Lib Jvm.Free Jvm.Stand Jvm.Pilot.@@N@@.Jvm.D
/-! MADE BY PROGRAM (witnessworld.py) out of the Statement's table words and the real class files: 11 classes; the members and pool entries that the words name. The judged class is class 1, her method 1. -/
namespace start1
open Jvm.ClassFile
def u (s : String) : CpInfo := .utf8 (stringToUtf16 s)
/-- a pool by its gaps: so many unusable entries, then the entry; so many at the end -/
def gap : Nat → List CpInfo → List CpInfo
  | 0, r => r
  | n + 1, r => .unusable :: gap n r
def poolList (es : List (Nat × CpInfo)) (last : Nat) : List CpInfo := es.foldr (fun e r => gap e.1 (e.2 :: r)) (gap last [])
def pool (es : List (Nat × CpInfo)) (last : Nat) : Array CpInfo := ⟨poolList es last⟩
def fileOf (pool : Array CpInfo) (this : Nat) (attrs : Array Attribute := #[]) (ms : Array MethodInfo := #[]) (fl : Nat := 33) (sup : Nat := 0) (ifs : Array Nat := #[]) (fds : Array FieldInfo := #[]) : ClassFile where
  minorVersion := 0
  majorVersion := 65
  constantPool := pool
  accessFlags := fl
  thisClass := this
  superClass := sup
  interfaces := ifs
  fields := fds
  methods := ms
  attributes := attrs
def plain (name : String) (sup : Option ClassId) : Class where
  name := name
  kind := .ordinary
  loader := none
  accessFlags := 33
  super := sup
  interfaces := #[]
  cf := none
  fields := #[]
  methods := #[]
  instanceTypes := #[]
  staticTypes := #[]
  resolved := #[]
  callSites := []
  init := .initialized
  statics := none
  mirror := none

def pool0 : Array CpInfo := pool [(5, u "<init>"), (0, u "()V"), (1, .class_ 10), (1, u "java/lang/Object")] 113

def k0c0 : Code := { maxStack := 0, maxLocals := 1, code := object_method_1_code, exceptionTable := #[], attributes := #[] }
def k0m0 : Method := { name := "<init>", desc := "()V", sig := { parameters := [], returnType := none }, accessFlags := 1, code := some k0c0 }
/-- java/lang/Object -/
def k0 : Class := { plain "java/lang/Object" none with
  accessFlags := 33
  interfaces := #[]
  cf := some (fileOf pool0 8 #[] #[{ accessFlags := 1, nameIndex := 5, descriptorIndex := 6, attributes := #[] }] 33 0 #[] #[])
  fields := #[]
  methods := #[k0m0]
  instanceTypes := #[]
  staticTypes := #[]
  resolved := Array.replicate 124 none
  statics := none }

def pool1 : Array CpInfo := pool [(2, .class_ 4), (0, .nameAndType 5 6), (0, u "java/lang/Object"), (0, u "<init>"), (0, u "()V"), (0, .integer 2147483647), (0, .class_ 9), (0, u "com/example/brisk_maze/briskmaze/search/RankedFrontier"), (0, .methodref 8 3), (0, .methodref 8 12), (0, .nameAndType 13 14), (0, u "isEmpty"), (0, u "()Z"), (0, .methodref 8 16), (0, .nameAndType 17 18), (0, u "add"), (0, u "(IJI)V"), (0, .methodref 8 20), (0, .nameAndType 21 22), (0, u "removeFirst"), (0, u "()I"), (0, .class_ 24), (0, u "com/example/brisk_maze/briskmaze/search/RankedFrontierIsEmptyPinLaw"), (2, u "law"), (0, u "(IJIIIJ)Z")] 3

def k1m0 : Method := { name := "<init>", desc := "()V", sig := { parameters := [], returnType := none }, accessFlags := 1, code := none }
def k1c1 : Code := { maxStack := 6, maxLocals := 14, code := code, exceptionTable := #[], attributes := #[] }
def k1m1 : Method := { name := "law", desc := "(IJIIIJ)Z", sig := { parameters := [.int, .long, .int, .int, .int, .long], returnType := some .boolean }, accessFlags := 9, code := some k1c1 }
/-- com/example/brisk_maze/briskmaze/search/RankedFrontierIsEmptyPinLaw -/
def k1 : Class := { plain "com/example/brisk_maze/briskmaze/search/RankedFrontierIsEmptyPinLaw" (some 0) with
  accessFlags := 49
  interfaces := #[]
  cf := some (fileOf pool1 23 #[] #[{ accessFlags := 1, nameIndex := 5, descriptorIndex := 6, attributes := #[] }, { accessFlags := 9, nameIndex := 27, descriptorIndex := 28, attributes := #[] }] 49 2 #[] #[])
  fields := #[]
  methods := #[k1m0, k1m1]
  instanceTypes := #[]
  staticTypes := #[]
  resolved := Array.replicate 32 none
  statics := none }

def pool2 : Array CpInfo := pool [(1, .methodref 2 3), (0, .class_ 4), (0, .nameAndType 5 6), (0, u "java/lang/Object"), (0, u "<init>"), (0, u "()V"), (0, .class_ 8), (0, u "com/example/brisk_maze/briskmaze/search/RankedFrontier"), (0, .fieldref 7 10), (0, .nameAndType 11 12), (0, u "ranks"), (0, u "[J"), (0, .fieldref 7 14), (0, .nameAndType 15 16), (0, u "costs"), (0, u "[I"), (0, .fieldref 7 18), (0, .nameAndType 19 16), (0, u "states"), (0, .fieldref 7 21), (0, .nameAndType 22 23), (0, u "size"), (0, u "I"), (3, .methodref 7 28), (0, .nameAndType 29 30), (0, u "precedes"), (0, u "(JII)Z"), (0, .methodref 7 32), (0, .nameAndType 33 34), (0, u "move"), (0, u "(II)V"), (0, .methodref 7 36), (0, .nameAndType 37 38), (0, u "place"), (0, u "(IJII)V"), (0, .methodref 7 40), (0, .nameAndType 29 41), (0, u "(JIJI)Z"), (17, u "INITIAL_CAPACITY"), (4, u "isEmpty"), (0, u "()Z"), (1, u "add"), (0, u "(IJI)V"), (0, u "removeFirst"), (0, u "()I")] 2

def k2c0 : Code := { maxStack := 2, maxLocals := 1, code := prog_53_method_1_code, exceptionTable := #[], attributes := #[] }
def k2m0 : Method := { name := "<init>", desc := "()V", sig := { parameters := [], returnType := none }, accessFlags := 0, code := some k2c0 }
def k2c1 : Code := { maxStack := 1, maxLocals := 1, code := prog_53_method_2_code, exceptionTable := #[], attributes := #[] }
def k2m1 : Method := { name := "isEmpty", desc := "()Z", sig := { parameters := [], returnType := some .boolean }, accessFlags := 0, code := some k2c1 }
def k2c2 : Code := { maxStack := 6, maxLocals := 7, code := prog_53_method_3_code, exceptionTable := #[], attributes := #[] }
def k2m2 : Method := { name := "add", desc := "(IJI)V", sig := { parameters := [.int, .long, .int], returnType := none }, accessFlags := 0, code := some k2c2 }
def k2c3 : Code := { maxStack := 6, maxLocals := 9, code := prog_53_method_4_code, exceptionTable := #[], attributes := #[] }
def k2m3 : Method := { name := "removeFirst", desc := "()I", sig := { parameters := [], returnType := some .int }, accessFlags := 0, code := some k2c3 }
def k2c4 : Code := { maxStack := 7, maxLocals := 5, code := prog_53_method_5_code, exceptionTable := #[], attributes := #[] }
def k2m4 : Method := { name := "precedes", desc := "(JII)Z", sig := { parameters := [.long, .int, .int], returnType := some .boolean }, accessFlags := 2, code := some k2c4 }
def k2c5 : Code := { maxStack := 4, maxLocals := 6, code := prog_53_method_6_code, exceptionTable := #[], attributes := #[] }
def k2m5 : Method := { name := "precedes", desc := "(JIJI)Z", sig := { parameters := [.long, .int, .long, .int], returnType := some .boolean }, accessFlags := 10, code := some k2c5 }
def k2c6 : Code := { maxStack := 7, maxLocals := 3, code := prog_53_method_7_code, exceptionTable := #[], attributes := #[] }
def k2m6 : Method := { name := "move", desc := "(II)V", sig := { parameters := [.int, .int], returnType := none }, accessFlags := 2, code := some k2c6 }
def k2c7 : Code := { maxStack := 4, maxLocals := 6, code := prog_53_method_8_code, exceptionTable := #[], attributes := #[] }
def k2m7 : Method := { name := "place", desc := "(IJII)V", sig := { parameters := [.int, .long, .int, .int], returnType := none }, accessFlags := 2, code := some k2c7 }
/-- com/example/brisk_maze/briskmaze/search/RankedFrontier -/
def k2 : Class := { plain "com/example/brisk_maze/briskmaze/search/RankedFrontier" (some 0) with
  accessFlags := 32
  interfaces := #[]
  cf := some (fileOf pool2 7 #[] #[{ accessFlags := 0, nameIndex := 5, descriptorIndex := 6, attributes := #[] }, { accessFlags := 0, nameIndex := 64, descriptorIndex := 65, attributes := #[] }, { accessFlags := 0, nameIndex := 67, descriptorIndex := 68, attributes := #[] }, { accessFlags := 0, nameIndex := 69, descriptorIndex := 70, attributes := #[] }, { accessFlags := 2, nameIndex := 29, descriptorIndex := 30, attributes := #[] }, { accessFlags := 10, nameIndex := 29, descriptorIndex := 41, attributes := #[] }, { accessFlags := 2, nameIndex := 33, descriptorIndex := 34, attributes := #[] }, { accessFlags := 2, nameIndex := 37, descriptorIndex := 38, attributes := #[] }] 32 2 #[] #[{ accessFlags := 26, nameIndex := 59, descriptorIndex := 23, attributes := #[] }, { accessFlags := 2, nameIndex := 11, descriptorIndex := 12, attributes := #[] }, { accessFlags := 2, nameIndex := 15, descriptorIndex := 16, attributes := #[] }, { accessFlags := 2, nameIndex := 19, descriptorIndex := 16, attributes := #[] }, { accessFlags := 2, nameIndex := 22, descriptorIndex := 23, attributes := #[] }])
  fields := #[{ name := "INITIAL_CAPACITY", type := .int, accessFlags := 26, slot := 0, constantValue := 0 }, { name := "ranks", type := (.array .long), accessFlags := 2, slot := 0, constantValue := 0 }, { name := "costs", type := (.array .int), accessFlags := 2, slot := 1, constantValue := 0 }, { name := "states", type := (.array .int), accessFlags := 2, slot := 2, constantValue := 0 }, { name := "size", type := .int, accessFlags := 2, slot := 3, constantValue := 0 }]
  methods := #[k2m0, k2m1, k2m2, k2m3, k2m4, k2m5, k2m6, k2m7]
  instanceTypes := #[(.array .long), (.array .int), (.array .int), .int]
  staticTypes := #[.int]
  resolved := Array.replicate 73 none
  statics := none }

def pool3 : Array CpInfo := pool [(1, u "java/lang/Cloneable"), (0, .class_ 1), (0, u "java/lang/Object"), (0, .class_ 3)] 3

/-- java/lang/Cloneable -/
def k3 : Class := { plain "java/lang/Cloneable" (some 0) with
  accessFlags := 1537
  interfaces := #[]
  cf := some (fileOf pool3 2 #[] #[] 1537 4 #[] #[])
  fields := #[]
  methods := #[]
  instanceTypes := #[]
  staticTypes := #[]
  resolved := Array.replicate 8 none
  statics := none }

def pool4 : Array CpInfo := pool [(1, u "java/io/Serializable"), (0, .class_ 1), (0, u "java/lang/Object"), (0, .class_ 3)] 3

/-- java/io/Serializable -/
def k4 : Class := { plain "java/io/Serializable" (some 0) with
  accessFlags := 1537
  interfaces := #[]
  cf := some (fileOf pool4 2 #[] #[] 1537 4 #[] #[])
  fields := #[]
  methods := #[]
  instanceTypes := #[]
  staticTypes := #[]
  resolved := Array.replicate 8 none
  statics := none }

/-- the primitive byte -/
def k5 : Class := { plain "byte" none with kind := .primitive 'B', accessFlags := 0x411 }
/-- [B -/
def k6 : Class := { plain "[B" (some 0) with kind := .array 5 .byte, interfaces := #[3, 4], accessFlags := 1041 }

/-- the primitive int -/
def k7 : Class := { plain "int" none with kind := .primitive 'I', accessFlags := 0x411 }
/-- [I -/
def k8 : Class := { plain "[I" (some 0) with kind := .array 7 .int, interfaces := #[3, 4], accessFlags := 1041 }

/-- the primitive long -/
def k9 : Class := { plain "long" none with kind := .primitive 'J', accessFlags := 0x411 }
/-- [J -/
def k10 : Class := { plain "[J" (some 0) with kind := .array 9 .long, interfaces := #[3, 4], accessFlags := 1041 }

def heap : Heap := #[]
def classes : Array Class := #[k0, k1, k2, k3, k4, k5, k6, k7, k8, k9, k10]
def interned : List (Array UInt16 × Addr) := []
def slotsUsed : Nat := 0
def theMethod : MethodId := ⟨1, 1⟩
def args0 : Array Value := #[.int 5, .long 7, .int 3, .int 2, .int 4, .long 9]
def aboutOver (below : List Frame) : State where
  vm := { classes := classes, interned := interned.toArray }
  heap := heap
  slotsUsed := slotsUsed
  threads := #[{ frames := .invoking theMethod args0 :: below }]
def below0 : List Frame := [.native { method := ⟨0, 0⟩, args := #[] }]
def about1 : State := aboutOver below0
def p0 : Program := .bare "" "" ""
def e0 : Env := launch0.env 0 0 0
theorem w_frames : about1.frames = Frame.invoking theMethod args0 :: below0 := rfl
set_option maxRecDepth 65536 in
theorem w_args : argsFit about1.vm theMethod args0 = true := by decide +kernel
set_option maxRecDepth 65536 in
theorem w_heap : heapFits about1 = true := by decide +kernel
set_option maxRecDepth 65536 in
theorem w_runnable : about1.curStatus? = some .runnable := by decide +kernel
set_option maxRecDepth 65536 in
theorem w_alone : about1.alone = true := by decide +kernel
set_option maxRecDepth 65536 in
theorem w_named : about1.methodNamed? x = some theMethod := by decide +kernel
set_option maxRecDepth 65536 in
theorem w_hears : about1.hears theMethod below0 = true := by decide +kernel
set_option maxRecDepth 65536 in
theorem w_ripe : about1.ripe theMethod args0 below0 = true := by decide +kernel
theorem w_running : about1.status = .running := rfl
set_option maxRecDepth 65536 in
theorem w_room : about1.hasRoom e0.platform room_1 = true :=
  launch0.hasRoom_least _ room_1 (by decide +kernel) (by decide +kernel) (by decide +kernel) (by decide +kernel) (by decide +kernel) (by decide +kernel)
theorem allAtoms_all (ts : List Jvm.Cond) (a : Array Jvm.Value) (st : Jvm.State) : (allAtoms ts).before a st = ts.all (fun c => c.before a st) := by
  induction ts with
  | nil => rfl
  | cons c t ih =>
    show (Jvm.Cond.and c (allAtoms t)).before a st = _
    rw [Jvm.Cond.before_and, ih, List.all_cons]
def words1 : List Jvm.Cond := Jvm.Cond.code x code maxLocals ret :: tables_1
/-- a 'code' word, met by the world's own term for the bytes: nothing is compared byte by byte -/
theorem code_word {y : MethodName} {bytes : ByteArray} {mx : Nat} {rt : Option FieldType} {a : Array Value} {s : State} {m : MethodId} {meth : Method} {c : Code} (h1 : s.methodNamed? y = some m) (h2 : s.vm.method? m = some meth) (h3 : meth.code = some c) (h4 : c.code = bytes)
    (h5 : (c.maxLocals == mx && c.exceptionTable.isEmpty && decide (c.maxStack ≤ mostOperands) && decide (meth.sig.returnType = rt) && !meth.locks && decide (parseMethodDescriptor y.desc = some meth.sig)) = true) : (Jvm.Cond.code y bytes mx rt).before a s = true := by
  simp only [Bool.and_eq_true, beq_iff_eq, Bool.not_eq_true', decide_eq_true_eq] at h5
  obtain ⟨⟨⟨⟨⟨g1, g2⟩, g3⟩, g4⟩, g5⟩, g6⟩ := h5
  simp [Cond.before, Cond.holds, Cond.value, h1, h2, h3, h4, g1, g2, g3, g4, g5, g6]
def isCode : Jvm.Cond → Bool
  | .code _ _ _ _ => true
  | _ => false
theorem all_split {L : List Jvm.Cond} {P : Jvm.Cond → Bool} (h1 : L.all (fun c => isCode c || P c) = true) (h2 : ∀ c ∈ L.filter isCode, P c = true) : L.all P = true := by
  refine List.all_eq_true.mpr fun c hc => ?_
  have h := List.all_eq_true.mp h1 c hc
  rcases Bool.eq_false_or_eq_true (isCode c) with hi | hi
  · exact h2 c (List.mem_filter.mpr ⟨hc, hi⟩)
  · simpa [hi] using h
set_option maxRecDepth 65536 in
theorem w_c0 : (Jvm.Cond.code x code maxLocals ret).before args0 about1 = true := code_word (m := ⟨1, 1⟩) (meth := k1m1) (c := k1c1) (by decide +kernel) rfl rfl rfl (by decide +kernel)
set_option maxRecDepth 65536 in
theorem w_c1 : (Jvm.Cond.code ({ cls := "com/example/brisk_maze/briskmaze/search/RankedFrontier", name := "<init>", desc := "()V" } : Jvm.MethodName) prog_53_method_1_code (1 : Nat) (Option.none : Option Jvm.ClassFile.FieldType)).before args0 about1 = true := code_word (m := ⟨2, 0⟩) (meth := k2m0) (c := k2c0) (by decide +kernel) rfl rfl rfl (by decide +kernel)
set_option maxRecDepth 65536 in
theorem w_c2 : (Jvm.Cond.code ({ cls := "java/lang/Object", name := "<init>", desc := "()V" } : Jvm.MethodName) object_method_1_code (1 : Nat) (Option.none : Option Jvm.ClassFile.FieldType)).before args0 about1 = true := code_word (m := ⟨0, 0⟩) (meth := k0m0) (c := k0c0) (by decide +kernel) rfl rfl rfl (by decide +kernel)
set_option maxRecDepth 65536 in
theorem w_c3 : (Jvm.Cond.code ({ cls := "com/example/brisk_maze/briskmaze/search/RankedFrontier", name := "isEmpty", desc := "()Z" } : Jvm.MethodName) prog_53_method_2_code (1 : Nat) (Option.some Jvm.ClassFile.FieldType.boolean)).before args0 about1 = true := code_word (m := ⟨2, 1⟩) (meth := k2m1) (c := k2c1) (by decide +kernel) rfl rfl rfl (by decide +kernel)
set_option maxRecDepth 65536 in
theorem w_c4 : (Jvm.Cond.code ({ cls := "com/example/brisk_maze/briskmaze/search/RankedFrontier", name := "add", desc := "(IJI)V" } : Jvm.MethodName) prog_53_method_3_code (7 : Nat) (Option.none : Option Jvm.ClassFile.FieldType)).before args0 about1 = true := code_word (m := ⟨2, 2⟩) (meth := k2m2) (c := k2c2) (by decide +kernel) rfl rfl rfl (by decide +kernel)
set_option maxRecDepth 65536 in
theorem w_c5 : (Jvm.Cond.code ({ cls := "com/example/brisk_maze/briskmaze/search/RankedFrontier", name := "place", desc := "(IJII)V" } : Jvm.MethodName) prog_53_method_8_code (6 : Nat) (Option.none : Option Jvm.ClassFile.FieldType)).before args0 about1 = true := code_word (m := ⟨2, 7⟩) (meth := k2m7) (c := k2c7) (by decide +kernel) rfl rfl rfl (by decide +kernel)
set_option maxRecDepth 65536 in
theorem w_c6 : (Jvm.Cond.code ({ cls := "com/example/brisk_maze/briskmaze/search/RankedFrontier", name := "removeFirst", desc := "()I" } : Jvm.MethodName) prog_53_method_4_code (9 : Nat) (Option.some Jvm.ClassFile.FieldType.int)).before args0 about1 = true := code_word (m := ⟨2, 3⟩) (meth := k2m3) (c := k2c3) (by decide +kernel) rfl rfl rfl (by decide +kernel)
set_option maxRecDepth 65536 in
theorem w_c7 : (Jvm.Cond.code ({ cls := "com/example/brisk_maze/briskmaze/search/RankedFrontier", name := "precedes", desc := "(JII)Z" } : Jvm.MethodName) prog_53_method_5_code (5 : Nat) (Option.some Jvm.ClassFile.FieldType.boolean)).before args0 about1 = true := code_word (m := ⟨2, 4⟩) (meth := k2m4) (c := k2c4) (by decide +kernel) rfl rfl rfl (by decide +kernel)
set_option maxRecDepth 65536 in
theorem w_c8 : (Jvm.Cond.code ({ cls := "com/example/brisk_maze/briskmaze/search/RankedFrontier", name := "precedes", desc := "(JIJI)Z" } : Jvm.MethodName) prog_53_method_6_code (6 : Nat) (Option.some Jvm.ClassFile.FieldType.boolean)).before args0 about1 = true := code_word (m := ⟨2, 5⟩) (meth := k2m5) (c := k2c5) (by decide +kernel) rfl rfl rfl (by decide +kernel)
set_option maxRecDepth 65536 in
theorem w_c9 : (Jvm.Cond.code ({ cls := "com/example/brisk_maze/briskmaze/search/RankedFrontier", name := "move", desc := "(II)V" } : Jvm.MethodName) prog_53_method_7_code (3 : Nat) (Option.none : Option Jvm.ClassFile.FieldType)).before args0 about1 = true := code_word (m := ⟨2, 6⟩) (meth := k2m6) (c := k2c6) (by decide +kernel) rfl rfl rfl (by decide +kernel)
def codes1 : List Jvm.Cond := [Jvm.Cond.code x code maxLocals ret, Jvm.Cond.code ({ cls := "com/example/brisk_maze/briskmaze/search/RankedFrontier", name := "<init>", desc := "()V" } : Jvm.MethodName) prog_53_method_1_code (1 : Nat) (Option.none : Option Jvm.ClassFile.FieldType), Jvm.Cond.code ({ cls := "java/lang/Object", name := "<init>", desc := "()V" } : Jvm.MethodName) object_method_1_code (1 : Nat) (Option.none : Option Jvm.ClassFile.FieldType), Jvm.Cond.code ({ cls := "com/example/brisk_maze/briskmaze/search/RankedFrontier", name := "isEmpty", desc := "()Z" } : Jvm.MethodName) prog_53_method_2_code (1 : Nat) (Option.some Jvm.ClassFile.FieldType.boolean), Jvm.Cond.code ({ cls := "com/example/brisk_maze/briskmaze/search/RankedFrontier", name := "add", desc := "(IJI)V" } : Jvm.MethodName) prog_53_method_3_code (7 : Nat) (Option.none : Option Jvm.ClassFile.FieldType), Jvm.Cond.code ({ cls := "com/example/brisk_maze/briskmaze/search/RankedFrontier", name := "place", desc := "(IJII)V" } : Jvm.MethodName) prog_53_method_8_code (6 : Nat) (Option.none : Option Jvm.ClassFile.FieldType), Jvm.Cond.code ({ cls := "com/example/brisk_maze/briskmaze/search/RankedFrontier", name := "removeFirst", desc := "()I" } : Jvm.MethodName) prog_53_method_4_code (9 : Nat) (Option.some Jvm.ClassFile.FieldType.int), Jvm.Cond.code ({ cls := "com/example/brisk_maze/briskmaze/search/RankedFrontier", name := "precedes", desc := "(JII)Z" } : Jvm.MethodName) prog_53_method_5_code (5 : Nat) (Option.some Jvm.ClassFile.FieldType.boolean), Jvm.Cond.code ({ cls := "com/example/brisk_maze/briskmaze/search/RankedFrontier", name := "precedes", desc := "(JIJI)Z" } : Jvm.MethodName) prog_53_method_6_code (6 : Nat) (Option.some Jvm.ClassFile.FieldType.boolean), Jvm.Cond.code ({ cls := "com/example/brisk_maze/briskmaze/search/RankedFrontier", name := "move", desc := "(II)V" } : Jvm.MethodName) prog_53_method_7_code (3 : Nat) (Option.none : Option Jvm.ClassFile.FieldType)]
set_option maxRecDepth 65536 in
theorem codes_eq : words1.filter isCode = codes1 := rfl
theorem w_codes : ∀ c ∈ words1.filter isCode, c.before args0 about1 = true := by
  rw [codes_eq]
  intro c hc
  simp only [codes1, List.mem_cons, List.not_mem_nil, or_false] at hc
  rcases hc with rfl | rfl | rfl | rfl | rfl | rfl | rfl | rfl | rfl | rfl
  · exact w_c0
  · exact w_c1
  · exact w_c2
  · exact w_c3
  · exact w_c4
  · exact w_c5
  · exact w_c6
  · exact w_c7
  · exact w_c8
  · exact w_c9
set_option maxRecDepth 65536 in
theorem w_t1 : (words1.take 24).all (fun c => isCode c || c.before args0 about1) = true := by decide +kernel
set_option maxRecDepth 65536 in
theorem w_t2 : ((words1.drop 24).take 24).all (fun c => isCode c || c.before args0 about1) = true := by decide +kernel
set_option maxRecDepth 65536 in
theorem w_t3 : ((words1.drop 24).drop 24).all (fun c => isCode c || c.before args0 about1) = true := by decide +kernel
theorem w_tables : (allAtoms (Jvm.Cond.code x code maxLocals ret :: tables_1)).before args0 about1 = true := by
  rw [allAtoms_all]
  show words1.all (fun c => c.before args0 about1) = true
  refine all_split ?_ w_codes
  rw [← List.take_append_drop 24 words1, List.all_append, w_t1, ← List.take_append_drop 24 (words1.drop 24), List.all_append, w_t2, w_t3]
  rfl
set_option maxRecDepth 65536 in
theorem w_case : (Jvm.Cond.and given_1 narrow_1).before args0 about1 = true := by decide +kernel
theorem w_applies : (headSpec (Jvm.Cond.code x code maxLocals ret :: tables_1) room_1).applies x e0.platform about1 = true :=
  (Spec.applies_iff w_frames).mpr ⟨w_running, w_runnable, w_alone, w_named, w_hears, w_ripe, w_room, w_tables⟩
theorem atStart : AtStart classFile x code maxLocals ret World_1 tables_1 room_1 Calls_1 rest_1 Pre_1 launch0 p0 e0 about1 theMethod args0 below0 :=
  ⟨lists_1, trivial, launch0.admits_env _ _ _, launch0.least_env, fairChoices_fair.cas, fairChoices_fair.clock, w_frames, w_args, w_heap, w_applies, trivial, trivial, w_case⟩
end start1
theorem witness_1 : WitnessClaimed_1 := ⟨start1.p0, start1.e0, start1.about1, start1.theMethod, start1.args0, start1.below0, start1.atStart⟩
end Jvm.Pilot.@@N@@
