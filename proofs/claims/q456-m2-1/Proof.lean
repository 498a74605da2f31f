import JvmDerived
import JvmDerived.Pilot.@@N@@Statement
import JvmDerived.Pilot.@@N@@Code
set_option linter.unusedVariables false
set_option linter.unusedSimpArgs false
namespace Jvm.RoadKit
open Sem ClassFile Op Lib Jvm.Stand Jvm.Free Jvm.LawKit
section New
variable {p : Program} {l : Launch} {e : Env} {R : Room} {s : State} {m : MethodId} {args : Array Value} {below : List Frame} {meth : Method} {c : Code} {T : State} {locs : List Loc} {cells slots : Nat}
theorem retI (X : Stand p l e R s m args below meth c T locs cells slots) (hx : p.tables.exec = Jvm.exec) {pc : Nat} {Ls : Array Slot} {z : Int32} {rest : List Value} (hret : meth.sig.returnType = some .int) (hd : decode c.code pc = .ok (.ireturn, 1)) {fs : List Frame}
    (hl : ∀ (f : JFrame) (acts : List Action), f.method = m → f.locked = none → f.entered = [] → (doReturn e (T.setTop f) acts (some (.int z))).1 = T.setFrames fs) : Steps p.tables e below (T.setTop (mkF m pc Ls (.int z :: rest))) (T.setFrames fs) := by
  have hm' : T.vm.method? m = some meth := X.method'
  have hn : narrow .int (.int z) = .int z := rfl
  show Steps p.tables e below (T.setTop { method := m, pc := pc, locals := Ls, stack := _ :: rest, locked := none }) _
  jvm_step X.here [X.here.top, hx, hd, hm', hret, hn]
  first | (intro acts; rw [hl _ acts rfl rfl rfl]) | rw [hl _ _ rfl rfl rfl]
  exact Steps.refl _
end New
end Jvm.RoadKit
namespace Jvm.Pilot.@@N@@
open Jvm Jvm.ClassFile Sem Op Lib Jvm.Free Jvm.Stand Jvm.LawKit Jvm.RoadKit Bundle Jvm.Pilot.@@N@@.Jvm.D
theorem own_selp {s : State} {args : Array Value} {y : MethodName} {n : Nat} (wi : (Jvm.Cond.instantiable y.cls n).before args s = true) (hp : s.PrivateAt y) (hi : (Jvm.Cond.instanceMethod y).before args s = true) (hy : y.cls ≠ "java/lang/invoke/MethodHandle" ∧ y.cls ≠ "java/lang/invoke/VarHandle") : (Jvm.Cond.selects y.cls y y).before args s = true := by
  obtain ⟨c, k, h1, h2, h3, h4, -⟩ := Cond.instantiable_spec wi
  exact selects_self_of_private h1 h2 (Bool.or_eq_false_iff.mp h4).1 hp hi hy
theorem own_cat {v : Value} (h : v.isRef = true) : v.category = 1 := by rcases ref_cases h with rfl | ⟨_, rfl⟩ <;> rfl
theorem own_ltL {x y : Int64} (h : x < y) : ifCond.holds .lt (lcmpW x y) = true ∧ ifCond.holds .ge (lcmpW x y) = false ∧ ifCond.holds .gt (lcmpW y x) = true ∧ ifCond.holds .le (lcmpW y x) = false :=
  ⟨(if0 _ _).trans (tlt ((lw_lt x y).mpr h)).1, (if0 _ _).trans (tlt ((lw_lt x y).mpr h)).2.1, (if0 _ _).trans (tlt ((lw_gt y x).mpr h)).2.2.1, (if0 _ _).trans (tlt ((lw_gt y x).mpr h)).2.2.2⟩
theorem own_fltL {x y : Int64} (h : ¬ x < y) : ifCond.holds .lt (lcmpW x y) = false ∧ ifCond.holds .ge (lcmpW x y) = true ∧ ifCond.holds .gt (lcmpW y x) = false ∧ ifCond.holds .le (lcmpW y x) = true :=
  ⟨(if0 _ _).trans (flt (fun q => h ((lw_lt x y).mp q))).1, (if0 _ _).trans (flt (fun q => h ((lw_lt x y).mp q))).2.1, (if0 _ _).trans (flt (fun q => h ((lw_gt y x).mp q))).2.2.1, (if0 _ _).trans (flt (fun q => h ((lw_gt y x).mp q))).2.2.2⟩
theorem own_eqL {x y : Int64} (h : x = y) : ifCond.holds .eq (lcmpW x y) = true ∧ ifCond.holds .ne (lcmpW x y) = false :=
  ⟨(if0 _ _).trans (teq ((lw_eq x y).mpr h)).1, (if0 _ _).trans (teq ((lw_eq x y).mpr h)).2⟩
theorem own_neL {x y : Int64} (h : ¬ x = y) : ifCond.holds .eq (lcmpW x y) = false ∧ ifCond.holds .ne (lcmpW x y) = true :=
  ⟨(if0 _ _).trans (feq (fun q => h ((lw_eq x y).mp q))).1, (if0 _ _).trans (feq (fun q => h ((lw_eq x y).mp q))).2⟩

theorem own_fin {c : Int32} {N : Nat} (h0 : 0 ≤ c.toInt) (h1 : c.toInt < N) (hN : N ≤ 2147483648) : ∃ n : Fin N, c = n.1.toInt32 := by
  refine ⟨⟨c.toInt.toNat, by omega⟩, ?_⟩
  apply Int32.toInt_inj.mp
  rw [len_toInt (by show c.toInt.toNat < 2 ^ 31; omega)]
  show c.toInt = ((c.toInt.toNat : Nat) : Int)
  omega
theorem own_lt {x y : Int32} (h : x < y) : x.toInt < y.toInt := Int32.lt_iff_toInt_lt.mp h
theorem own_nlt' {x y : Int32} (h : ¬ x < y) : y.toInt ≤ x.toInt := by rw [Int32.lt_iff_toInt_lt] at h; omega
theorem own_nlt {x y : Int32} {k : Int} (h : k ≤ x.toInt) (hk : y.toInt ≤ k) : ¬ x < y := by rw [Int32.lt_iff_toInt_lt]; omega
theorem own_gt {x y : Int32} {k : Int} (h : k ≤ x.toInt) (hk : y.toInt < k) : y < x := by rw [Int32.lt_iff_toInt_lt]; omega
theorem own_ne {x y : Int32} {k : Int} (h : k ≤ x.toInt) (hk : y.toInt < k) : ¬ x = y := by rintro rfl; omega
theorem own_gtn {x y : Int32} {k : Int} (h : x.toInt < k) (hk : k ≤ y.toInt) : x < y := by rw [Int32.lt_iff_toInt_lt]; omega
theorem own_nel {x y : Int32} {k : Int} (h : x.toInt < k) (hk : k ≤ y.toInt) : ¬ x = y := by rintro rfl; omega
theorem own_lt' {x y : Int32} (h : x < y) : x.toInt + 1 ≤ y.toInt := by have := own_lt h; omega
theorem own_le' {x y : Int32} (h : ¬ y < x) : x.toInt < y.toInt + 1 := by have := own_nlt' h; omega

def own_A (Z : State) (h : Heap) (a : Addr) (ty : FieldType) (n : Nat) (f : Nat → Value) : Prop := ∃ c : Cell, Arr Z h a c ty ∧ c.slots.size = n ∧ ∀ j, j < n → c.slots[j]? = some (f j)
section OwnA
variable {Z : State} {h h' : Heap} {a b : Addr} {ty : FieldType} {n sl : Nat} {f : Nat → Value} {v : Value} {ws : List Addr}
theorem own_A.lt (F : own_A Z h a ty n f) : a < h.size := by obtain ⟨c, A, -⟩ := F; exact A.lt
theorem own_A.ext (F : own_A Z h a ty n f) (E : Ext h h') : own_A Z h' a ty n f := by obtain ⟨c, A, r⟩ := F; exact ⟨c, A.ext E, r⟩
theorem own_A.other (F : own_A Z h b ty n f) (W : Wr h h' a sl v) (q : b ≠ a) : own_A Z h' b ty n f := by obtain ⟨c, A, r⟩ := F; exact ⟨c, A.other W q, r⟩
theorem own_A.keep (F : own_A Z h a ty n f) (K : Keep h h' ws) (q : a ∉ ws) : own_A Z h' a ty n f := by obtain ⟨c, A, r⟩ := F; exact ⟨c, ⟨K.2.1 a c A.1 q, A.2⟩, r⟩
theorem own_A.set (F : own_A Z h a ty n f) (W : Wr h h' a sl v) : own_A Z h' a ty n (fun i => if i = sl then v else f i) := by
  obtain ⟨c, A, S, H⟩ := F
  refine ⟨_, A.same W, (sz_set _ _ _).trans S, fun j hj => ?_⟩
  by_cases e : j = sl
  · subst e
    simp only [Cell.setSlot, if_true]
    rw [Array.getElem?_setIfInBounds_self_of_lt (by omega)]
  · simp only [Cell.setSlot, if_neg e]
    rw [Array.getElem?_setIfInBounds_ne (Ne.symm e)]
    exact H j hj
theorem own_A.eqv {g : Nat → Value} (F : own_A Z h a ty n f) (e : ∀ j, j < n → f j = g j) : own_A Z h a ty n g := by
  obtain ⟨c, A, S, H⟩ := F
  exact ⟨c, A, S, fun j hj => (e j hj) ▸ H j hj⟩
theorem own_A.setI {g : Nat → Int32} {x : Int32} (F : own_A Z h a ty n (fun i => .int (g i))) (W : Wr h h' a sl (.int x)) : own_A Z h' a ty n (fun i => .int (if i = sl then x else g i)) :=
  (F.set W).eqv fun j _ => by
    by_cases e : j = sl
    · simp only [if_pos e]
    · simp only [if_neg e]
theorem own_A.setJ {g : Nat → Int64} {x : Int64} (F : own_A Z h a ty n (fun i => .long (g i))) (W : Wr h h' a sl (.long x)) : own_A Z h' a ty n (fun i => .long (if i = sl then x else g i)) :=
  (F.set W).eqv fun j _ => by
    by_cases e : j = sl
    · simp only [if_pos e]
    · simp only [if_neg e]
theorem own_A.new {k : ClassId} {z : Int32} (A : Arr Z h a (newA k ty z) ty) : own_A Z h a ty z.toNatClampNeg (fun _ => defaultValue ty) :=
  ⟨_, A, sz_new _ _ _, fun j hj => by simp [newA, hj]⟩
end OwnA
theorem own_in {c : Cell} {n : Nat} {j : Int32} (S : c.slots.size = n) (h : 0 ≤ j.toInt ∧ j.toInt < n) : ¬ (j < 0 ∨ c.slots.size ≤ j.toNatClampNeg) := by
  rw [S, Int32.lt_iff_toInt_lt, show (0 : Int32).toInt = 0 from rfl]
  have e : j.toNatClampNeg = j.toInt.toNat := rfl
  rw [e]; omega
theorem own_ix {n : Nat} {j : Int32} (h : 0 ≤ j.toInt ∧ j.toInt < n) : j.toNatClampNeg < n := by
  have e : j.toNatClampNeg = j.toInt.toNat := rfl
  rw [e]; omega
theorem own_len {c : Cell} {n : Nat} {z : Int32} (S : c.slots.size = n) (h : n.toInt32 = z) : c.slots.size.toInt32 = z := by rw [S]; exact h
def own_O (Z : State) (h : Heap) (a : Addr) (C : String) : Prop := ∃ c : Cell, h[a]? = some c ∧ Ovr Z c.cls C
theorem own_O.ext {Z : State} {h h' : Heap} {a : Addr} {C : String} (F : own_O Z h a C) (E : Ext h h') : own_O Z h' a C := by obtain ⟨c, h1, o⟩ := F; exact ⟨c, E.2 _ _ h1, o⟩
theorem own_O.wr {Z : State} {h h' : Heap} {a b : Addr} {C : String} {sl : Nat} {v : Value} (F : own_O Z h a C) (W : Wr h h' b sl v) : own_O Z h' a C := by
  obtain ⟨c, h1, o⟩ := F
  obtain ⟨c', e1, e2, -⟩ := wr_at W h1
  exact ⟨c', e1, e2 ▸ o⟩
theorem own_sto {Z : State} {h : Heap} {a y : Addr} {cl : Cell} {ty : FieldType} {C : String} (A : Arr Z h a cl ty) (O : own_O Z h a C) (I : Ins Z h y C true) : Sto Z h a (.ref y) := by
  obtain ⟨c, h1, o⟩ := O
  cases A.1.symm.trans h1
  exact Sto.of A o I

/-! a frontier's entries: (rank, cost, state); 'own_bf a b': a comes out ahead of b -/
abbrev own_E := Int64 × Int32 × Int32
def own_bf (a b : own_E) : Prop := a.1 < b.1 ∨ (a.1 = b.1 ∧ b.2.1 < a.2.1)
theorem own_bfi (a b : own_E) : own_bf a b ↔ (a.1.toInt < b.1.toInt ∨ (a.1.toInt = b.1.toInt ∧ b.2.1.toInt < a.2.1.toInt)) := by
  unfold own_bf
  rw [Int64.lt_iff_toInt_lt, Int32.lt_iff_toInt_lt, ← Int64.toInt_inj]
theorem own_bf_as {a b : own_E} (h : own_bf a b) : ¬ own_bf b a := by rw [own_bfi] at *; omega
theorem own_bf_tr {a b c : own_E} (h : own_bf a b) (g : own_bf b c) : own_bf a c := by rw [own_bfi] at *; omega
theorem own_bf_nt {a b c : own_E} (h : ¬ own_bf a b) (g : ¬ own_bf b c) : ¬ own_bf a c := by rw [own_bfi] at *; omega
theorem own_bf_irr (a : own_E) : ¬ own_bf a a := by rw [own_bfi]; omega
def own_up (e : Nat → own_E) (k : Nat) (x : own_E) : Nat → own_E := fun j => if j = k then x else e j
theorem own_up_same (e : Nat → own_E) (k : Nat) (x : own_E) : own_up e k x k = x := if_pos rfl
theorem own_up_ne {e : Nat → own_E} {k j : Nat} {x : own_E} (h : j ≠ k) : own_up e k x j = e j := if_neg h
def own_heap (n : Nat) (e : Nat → own_E) : Prop := ∀ j, 0 < j → j < n → ¬ own_bf (e j) (e ((j - 1) / 2))
/-- E is E0 with its first n places in another order -/
def own_rr (n : Nat) (E E0 : Nat → own_E) : Prop := ∃ f g : Nat → Nat, (∀ j, j < n → f j < n ∧ g j < n ∧ f (g j) = j ∧ g (f j) = j) ∧ ∀ j, j < n → E j = E0 (f j)
theorem own_rr_refl (n : Nat) (E : Nat → own_E) : own_rr n E E := ⟨id, id, fun _ h => ⟨h, h, rfl, rfl⟩, fun _ _ => rfl⟩
theorem own_rr_eq {n : Nat} {E E' E0 : Nat → own_E} (h : own_rr n E E0) (q : ∀ j, j < n → E' j = E j) : own_rr n E' E0 := by
  obtain ⟨f, g, h1, h2⟩ := h
  exact ⟨f, g, h1, fun j hj => (q j hj).trans (h2 j hj)⟩
theorem own_rr_trans {n : Nat} {E E' E0 : Nat → own_E} (h : own_rr n E E') (k : own_rr n E' E0) : own_rr n E E0 := by
  obtain ⟨f, g, h1, h2⟩ := h
  obtain ⟨f', g', k1, k2⟩ := k
  refine ⟨fun j => f' (f j), fun j => g (g' j), fun j hj => ?_, fun j hj => ?_⟩
  · obtain ⟨a1, a2, a3, a4⟩ := h1 j hj
    obtain ⟨b1, b2, b3, b4⟩ := k1 j hj
    obtain ⟨c1, c2, c3, c4⟩ := h1 _ b2
    obtain ⟨d1, d2, d3, d4⟩ := k1 _ a1
    exact ⟨d1, c2, by show f' (f (g (g' j))) = j; rw [c3, b3], by show g (g' (f' (f j))) = j; rw [d4, a4]⟩
  · rw [h2 j hj, k2 _ (h1 j hj).1]
theorem own_rr_swap {n i p : Nat} {E : Nat → own_E} (hi : i < n) (hp : p < n) : own_rr n (fun j => if j = i then E p else if j = p then E i else E j) E := by
  refine ⟨fun j => if j = i then p else if j = p then i else j, fun j => if j = i then p else if j = p then i else j, fun j hj => ?_, fun j hj => ?_⟩
  · by_cases h1 : j = i
    · subst h1
      by_cases h2 : p = j
      · subst h2; simp [hj]
      · simp [hp, h2]
    · by_cases h2 : j = p
      · subst h2; simp [h1, hi]
      · simp [h1, h2, hj]
  · by_cases h1 : j = i
    · simp [h1]
    · by_cases h2 : j = p
      · subst h2; simp [h1]
      · simp [h1, h2]
/-- the way up: a hole at i, the entry x in hand -/
def own_upI (n i : Nat) (E0 ee : Nat → own_E) (x : own_E) : Prop := i ≤ n ∧ own_rr (n + 1) (own_up ee i x) E0 ∧ (∀ j, 0 < j → j ≤ n → j ≠ i → ¬ own_bf (own_up ee i x j) (own_up ee i x ((j - 1) / 2))) ∧ (∀ j, 0 < j → j ≤ n → (j - 1) / 2 = i → 0 < i → ¬ own_bf (own_up ee i x j) (own_up ee i x ((i - 1) / 2)))
theorem own_up_start {n : Nat} {e : Nat → own_E} (h : own_heap n e) (x : own_E) : own_upI n n (own_up e n x) e x := by
  refine ⟨Nat.le_refl _, own_rr_refl _ _, fun j h0 h1 h2 => ?_, fun j h0 h1 h2 h3 => by omega⟩
  rw [own_up_ne h2, own_up_ne (by omega)]
  exact h j h0 (by omega)
theorem own_up_out {n i : Nat} {E0 ee : Nat → own_E} {x : own_E} (h : own_upI n i E0 ee x) (q : i = 0 ∨ ¬ own_bf x (ee ((i - 1) / 2))) : own_heap (n + 1) (own_up ee i x) ∧ own_rr (n + 1) (own_up ee i x) E0 := by
  obtain ⟨h1, h2, h3, h4⟩ := h
  refine ⟨fun j j0 j1 => ?_, h2⟩
  by_cases e : j = i
  · subst e
    rcases q with q | q
    · omega
    · rw [own_up_same, own_up_ne (by omega)]; exact q
  · exact h3 j j0 (by omega) e
theorem own_up_step {n i : Nat} {E0 ee : Nat → own_E} {x : own_E} (h : own_upI n i E0 ee x) (hi : 0 < i) (q : own_bf x (ee ((i - 1) / 2))) : own_upI n ((i - 1) / 2) E0 (own_up ee i (ee ((i - 1) / 2))) x := by
  obtain ⟨h1, h2, h3, h4⟩ := h
  generalize hp : (i - 1) / 2 = p at *
  have hpi : p < i := by omega
  have key : ∀ j, own_up (own_up ee i (ee p)) p x j = (if j = i then own_up ee i x p else if j = p then own_up ee i x i else own_up ee i x j) := fun j => by
    by_cases e1 : j = i
    · subst e1
      rw [if_pos rfl, own_up_ne (by omega), own_up_same, own_up_ne (by omega)]
    · rw [if_neg e1]
      by_cases e2 : j = p
      · subst e2
        rw [if_pos rfl, own_up_same, own_up_same]
      · rw [if_neg e2, own_up_ne e2, own_up_ne e1, own_up_ne e1]
  have kp : own_up (own_up ee i (ee p)) p x p = x := own_up_same _ _ _
  have ki : own_up (own_up ee i (ee p)) p x i = ee p := by rw [own_up_ne (by omega), own_up_same]
  have ko : ∀ j, j ≠ i → j ≠ p → own_up (own_up ee i (ee p)) p x j = own_up ee i x j := fun j e1 e2 => by rw [key, if_neg e1, if_neg e2]
  have xi : own_up ee i x i = x := own_up_same _ _ _
  have xp : own_up ee i x p = ee p := own_up_ne (by omega)
  refine ⟨by omega, own_rr_trans (own_rr_eq (own_rr_swap (i := i) (p := p) (by omega) (by omega)) fun j _ => key j) h2, fun j j0 j1 j2 => ?_, fun j j0 j1 j2 j3 => ?_⟩
  · by_cases e1 : j = i
    · subst e1
      rw [hp, ki, kp]
      exact own_bf_as q
    · rw [ko j e1 j2]
      by_cases e3 : (j - 1) / 2 = i
      · rw [e3, ki, ← xp]
        exact h4 j j0 j1 e3 hi
      · by_cases e4 : (j - 1) / 2 = p
        · rw [e4, kp]
          intro r
          have g := h3 j j0 j1 e1
          rw [e4, xp] at g
          exact g (own_bf_tr r q)
        · rw [ko _ e3 e4]
          exact h3 j j0 j1 e1
  · have hpp : (p - 1) / 2 ≠ i := by omega
    have hpp2 : (p - 1) / 2 ≠ p := by omega
    rw [ko _ hpp hpp2]
    have gp := h3 p j3 (by omega) (by omega)
    rw [xp] at gp
    by_cases e1 : j = i
    · subst e1
      rw [ki]; exact gp
    · rw [ko j e1 (by omega)]
      have g := h3 j j0 j1 e1
      rw [j2, xp] at g
      exact own_bf_nt g gp
/-- the least stands first -/
theorem own_least {n : Nat} {e : Nat → own_E} (h : own_heap n e) : ∀ j, j < n → ¬ own_bf (e j) (e 0) := fun j => by
  induction j using Nat.strongRecOn with
  | ind j ih =>
    intro hj
    by_cases e0 : j = 0
    · subst e0; exact own_bf_irr _
    · exact own_bf_nt (h j (by omega) hj) (ih ((j - 1) / 2) (by omega) (by omega))
/-- the way down: n places, a hole at i, the entry x in hand -/
def own_dnI (n i : Nat) (E0 ee : Nat → own_E) (x : own_E) : Prop := i < n ∧ own_rr n (own_up ee i x) E0 ∧ (∀ j, 0 < j → j < n → (j - 1) / 2 ≠ i → ¬ own_bf (own_up ee i x j) (own_up ee i x ((j - 1) / 2))) ∧ (∀ j, 0 < j → j < n → (j - 1) / 2 = i → 0 < i → ¬ own_bf (own_up ee i x j) (own_up ee i x ((i - 1) / 2)))
theorem own_dn_start {n : Nat} {e : Nat → own_E} (h : own_heap (n + 1) e) (hn : 0 < n) (x : own_E) : own_dnI n 0 (own_up e 0 x) e x := by
  refine ⟨hn, own_rr_refl _ _, fun j h0 h1 h2 => ?_, fun j h0 h1 h2 h3 => by omega⟩
  rw [own_up_ne (by omega), own_up_ne h2]
  exact h j h0 (by omega)
theorem own_dn_out {n i : Nat} {E0 ee : Nat → own_E} {x : own_E} (h : own_dnI n i E0 ee x) (q : ∀ j, 0 < j → j < n → (j - 1) / 2 = i → ¬ own_bf (ee j) x) : own_heap n (own_up ee i x) ∧ own_rr n (own_up ee i x) E0 := by
  obtain ⟨h1, h2, h3, h4⟩ := h
  refine ⟨fun j j0 j1 => ?_, h2⟩
  by_cases e : (j - 1) / 2 = i
  · have g := q j j0 j1 e
    rw [e, own_up_same, own_up_ne (by omega)]; exact g
  · exact h3 j j0 j1 e
theorem own_dn_step {n i c : Nat} {E0 ee : Nat → own_E} {x : own_E} (h : own_dnI n i E0 ee x) (hc : c < n) (hci : (c - 1) / 2 = i) (h0 : 0 < c) (q : own_bf (ee c) x) (hm : ∀ j, 0 < j → j < n → (j - 1) / 2 = i → ¬ own_bf (ee j) (ee c)) : own_dnI n c E0 (own_up ee i (ee c)) x := by
  obtain ⟨h1, h2, h3, h4⟩ := h
  have hic : i < c := by omega
  have key : ∀ j, own_up (own_up ee i (ee c)) c x j = (if j = i then own_up ee i x c else if j = c then own_up ee i x i else own_up ee i x j) := fun j => by
    by_cases e1 : j = i
    · subst e1
      rw [if_pos rfl, own_up_ne (by omega), own_up_same, own_up_ne (by omega)]
    · rw [if_neg e1]
      by_cases e2 : j = c
      · subst e2
        rw [if_pos rfl, own_up_same, own_up_same]
      · rw [if_neg e2, own_up_ne e2, own_up_ne e1, own_up_ne e1]
  have kc : own_up (own_up ee i (ee c)) c x c = x := own_up_same _ _ _
  have ki : own_up (own_up ee i (ee c)) c x i = ee c := by rw [own_up_ne (by omega), own_up_same]
  have ko : ∀ j, j ≠ i → j ≠ c → own_up (own_up ee i (ee c)) c x j = own_up ee i x j := fun j e1 e2 => by rw [key, if_neg e1, if_neg e2]
  have xi : own_up ee i x i = x := own_up_same _ _ _
  have xo : ∀ j, j ≠ i → own_up ee i x j = ee j := fun j e => own_up_ne e
  refine ⟨hc, own_rr_trans (own_rr_eq (own_rr_swap (i := i) (p := c) (by omega) (by omega)) fun j _ => key j) h2, fun j j0 j1 j2 => ?_, fun j j0 j1 j2 j3 => ?_⟩
  · by_cases e1 : j = i
    · subst e1
      rw [ki, ko _ (by omega) (by omega), ← xo c (by omega)]
      exact h4 c h0 hc hci (by omega)
    · by_cases e2 : j = c
      · subst e2
        rw [kc, hci, ki]
        exact own_bf_as q
      · rw [ko j e1 e2]
        by_cases e3 : (j - 1) / 2 = i
        · rw [e3, ki, xo j e1]
          exact hm j j0 j1 e3
        · rw [ko _ e3 j2]
          exact h3 j j0 j1 e3
  · have jc : j ≠ c := by omega
    have ji : j ≠ i := by omega
    rw [ko j ji jc, hci, ki]
    have g := h3 j j0 j1 (by omega)
    rw [j2, xo c (by omega)] at g
    exact g


theorem own_tn {n : Nat} (h : n < 2147483648) : (n.toInt32).toNatClampNeg = n := by
  simp only [Int32.toNatClampNeg, len_toInt (show n < 2 ^ 31 from h)]; rfl
theorem own_ti {n : Nat} (h : n < 2147483648) : (n.toInt32).toInt = n := len_toInt (show n < 2 ^ 31 from h)
theorem own_ltn {a b : Nat} (ha : a < 2147483648) (hb : b < 2147483648) : a.toInt32 < b.toInt32 ↔ a < b := by
  rw [Int32.lt_iff_toInt_lt, own_ti ha, own_ti hb]; omega
theorem own_bd {n m : Nat} (h : n < m) (hm : m < 2147483648) : 0 ≤ (n.toInt32).toInt ∧ (n.toInt32).toInt < (m : Nat) := by
  rw [own_ti (by omega)]; omega
theorem own_inc (n : Nat) : n.toInt32 + (1 : Int32) = (n + 1).toInt32 := (Int32.ofNat_add n 1).symm
theorem own_dec (n : Nat) : (n + 1).toInt32 - (1 : Int32) = n.toInt32 := by rw [← own_inc, Int32.add_sub_cancel]
theorem own_n64 {n : Nat} (hn : n < 63) : ¬ n.toInt32 = (64 : Int32) := fun q => by
  have h := own_ti (show n < 2147483648 by omega)
  rw [q] at h
  have q2 : (64 : Int32).toInt = 64 := by decide
  omega
theorem own_par64 : ∀ i : Fin 64, 0 < i.1 → (((i.1.toInt32 - (1 : Int32)).toUInt32 >>> ((1 : Int32) &&& 31).toUInt32).toInt32) = ((i.1 - 1) / 2).toInt32 := by decide +kernel
theorem own_half64 : ∀ i : Fin 64, ((i.1.toInt32.toUInt32 >>> ((1 : Int32) &&& 31).toUInt32).toInt32) = (i.1 / 2).toInt32 := by decide +kernel
theorem own_two64 : ∀ i : Fin 64, (((2 : Int32) * i.1.toInt32) + (1 : Int32)) = (2 * i.1 + 1).toInt32 := by decide +kernel


theorem own_up1 (e : Nat → own_E) (k j : Nat) (x : own_E) : (own_up e k x j).1 = if j = k then x.1 else (e j).1 := by unfold own_up; split <;> rfl
theorem own_up2 (e : Nat → own_E) (k j : Nat) (x : own_E) : (own_up e k x j).2.1 = if j = k then x.2.1 else (e j).2.1 := by unfold own_up; split <;> rfl
theorem own_up3 (e : Nat → own_E) (k j : Nat) (x : own_E) : (own_up e k x j).2.2 = if j = k then x.2.2 else (e j).2.2 := by unfold own_up; split <;> rfl

theorem d8_0 : decode prog_53_method_6_code 0 = .ok (.lload_n 0, 1) := by decide +kernel
theorem d8_1 : decode prog_53_method_6_code 1 = .ok (.lload_n 3, 1) := by decide +kernel
theorem d8_2 : decode prog_53_method_6_code 2 = .ok (.lcmp, 1) := by decide +kernel
theorem d8_3 : decode prog_53_method_6_code 3 = .ok (.ifCond .lt 15, 3) := by decide +kernel
theorem d8_6 : decode prog_53_method_6_code 6 = .ok (.lload_n 0, 1) := by decide +kernel
theorem d8_7 : decode prog_53_method_6_code 7 = .ok (.lload_n 3, 1) := by decide +kernel
theorem d8_8 : decode prog_53_method_6_code 8 = .ok (.lcmp, 1) := by decide +kernel
theorem d8_9 : decode prog_53_method_6_code 9 = .ok (.ifCond .ne 13, 3) := by decide +kernel
theorem d8_12 : decode prog_53_method_6_code 12 = .ok (.iload_n 2, 1) := by decide +kernel
theorem d8_13 : decode prog_53_method_6_code 13 = .ok (.iload 5, 2) := by decide +kernel
theorem d8_15 : decode prog_53_method_6_code 15 = .ok (.if_icmp .le 7, 3) := by decide +kernel
theorem d8_18 : decode prog_53_method_6_code 18 = .ok (.iconst 1, 1) := by decide +kernel
theorem d8_19 : decode prog_53_method_6_code 19 = .ok (.goto 4, 3) := by decide +kernel
theorem d8_22 : decode prog_53_method_6_code 22 = .ok (.iconst 0, 1) := by decide +kernel
theorem d8_23 : decode prog_53_method_6_code 23 = .ok (.ireturn, 1) := by decide +kernel
theorem pn_0 : plainName "com/example/brisk_maze/briskmaze/search/RankedFrontier" = true := by first | (simp [plainName, overriddenIn]; done) | decide +kernel
theorem ef_8 (m : MethodId) (q0 : Int64) (p1 : Int32) (q2 : Int64) (p3 : Int32) : entryFrame m #[(.long q0), (.int p1), (.long q2), (.int p3)] 6 = mkF m 0 #[.val (.long q0), .second, .val (.int p1), .val (.long q2), .second, .val (.int p3)] [] := by first | (simp [entryFrame, mkF, argsToLocals, Value.category]; done) | rfl
def f8_23 (q0 : Int64) (p1 : Int32) (q2 : Int64) (p3 : Int32) : Int32 := (if q0 < q2 then (1 : Int32) else (if q0 = q2 then (if p3 < p1 then (1 : Int32) else (0 : Int32)) else (0 : Int32)))
def f8_ret (q0 : Int64) (p1 : Int32) (q2 : Int64) (p3 : Int32) : Int32 := ((f8_23 q0 p1 q2 p3) &&& 1)

def Q8 (Z : State) (q0 : Int64) (p1 : Int32) (q2 : Int64) (p3 : Int32) (h0 : Heap) (n0 : Nat) (v : Option Value) (h : Heap) (L : List Loc) : Prop := v = some (.int (f8_ret q0 p1 q2 p3)) ∧ Fr n0 L ∧ h = h0
set_option maxRecDepth 65536 in
set_option maxHeartbeats 40000000 in
theorem rm8 (l : Launch) (Z : State) (a0 : Array Value) (hw : ∀ d ∈ tables_1, d.before a0 Z = true) (ws : List Jvm.Cond) (q0 : Int64) (p1 : Int32) (q2 : Int64) (p3 : Int32) (h0 : Heap) (n0 : Nat) (Z0 : n0 ≤ h0.size)  :
    MetFree l (⟨"com/example/brisk_maze/briskmaze/search/RankedFrontier", "precedes", "(JIJI)Z"⟩ : MethodName) (head1 (Jvm.Cond.code (⟨"com/example/brisk_maze/briskmaze/search/RankedFrontier", "precedes", "(JIJI)Z"⟩ : MethodName) prog_53_method_6_code 6 (some .boolean) :: ws) ({ frames := 0, cells := 0, slots := 0, locals := 0 } : Room)) (fun a U => a = #[(.long q0), (.int p1), (.long q2), (.int p3)] ∧ Z.Warmed39 U.vm ∧ U.heap = h0) (fun _ _ _ _ _ => True) (fun _ U o U' => ∃ v L, o = .returned v ∧ Q8 Z q0 p1 q2 p3 h0 n0 v U'.heap L ∧ FrameEnd U o U' L ({ frames := 0, cells := 0, slots := 0, locals := 0 } : Room).cells ({ frames := 0, cells := 0, slots := 0, locals := 0 } : Room).slots) := by
  refine MetFree.of_bodySF (plainFor_of_name pn_0) hisR ?_
  intro p e s m args below meth c s₁ Bd hml0 hP hK
  obtain ⟨rfl, hZ, hh⟩ := hP
  have hx := Bd.exec
  have hby := Bd.bytes
  have hml : c.maxLocals = 6 := hml0
  have hown : s.vm.findClass "com/example/brisk_maze/briskmaze/search/RankedFrontier" = some m.cls := findClass_of_methodNamed Bd.named
  have hnm := (name_of_methodNamed Bd.named Bd.method).1
  have X0 : Stand p l e ({ frames := 0, cells := 0, slots := 0, locals := 0 } : Room) s m #[(.long q0), (.int p1), (.long q2), (.int p3)] below meth c s₁ [] 0 0 := Stand.of_body Bd
  have e0 : s₁.heap = h0 := by rw [← hh, Bd.state]; rfl
  have N0 := Fr.nil n0
  have pre0 : ∀ t, Steps p.tables e below (s₁.setTop (mkF m 0 #[.val (.long q0), .second, .val (.int p1), .val (.long q2), .second, .val (.int p3)] [])) t → Steps p.tables e below (s₁.setTop (entryFrame m #[(.long q0), (.int p1), (.long q2), (.int p3)] 6)) t := fun t k => castTop (ef_8 m q0 p1 q2 p3) k
  have pre1 : ∀ t, Steps p.tables e below (s₁.setTop (mkF m 3 #[.val (.long q0), .second, .val (.int p1), .val (.long q2), .second, .val (.int p3)] [(.int (lcmpW q0 q2))])) t → Steps p.tables e below (s₁.setTop (entryFrame m #[(.long q0), (.int p1), (.long q2), (.int p3)] 6)) t := fun t k => pre0 t (by
    show Steps p.tables e below (s₁.setTop (mkF m 0 #[.val (.long q0), .second, .val (.int p1), .val (.long q2), .second, .val (.int p3)] [])) _
    refine XS.lloadN X0.here hx rfl (hb hby d8_0) rfl ?_
    show Steps p.tables e below (s₁.setTop (mkF m 1 #[.val (.long q0), .second, .val (.int p1), .val (.long q2), .second, .val (.int p3)] [(.long q0)])) _
    refine XS.lloadN X0.here hx rfl (hb hby d8_1) rfl ?_
    show Steps p.tables e below (s₁.setTop (mkF m 2 #[.val (.long q0), .second, .val (.int p1), .val (.long q2), .second, .val (.int p3)] [(.long q2), (.long q0)])) _
    refine XS.lcmp X0.here hx rfl (hb hby d8_2) rfl ?_
    show Steps p.tables e below (s₁.setTop (mkF m 3 #[.val (.long q0), .second, .val (.int p1), .val (.long q2), .second, .val (.int p3)] [(.int (lcmpW q0 q2))])) _
    exact k)
  have pre5 : ∀ t, Steps p.tables e below (s₁.setTop (mkF m 23 #[.val (.long q0), .second, .val (.int p1), .val (.long q2), .second, .val (.int p3)] [(.int (f8_23 q0 p1 q2 p3))])) t → Steps p.tables e below (s₁.setTop (entryFrame m #[(.long q0), (.int p1), (.long q2), (.int p3)] 6)) t := fun t k => pre1 t (by
    by_cases hf2 : q0 < q2
    · refine XS.ifYes X0.here hx rfl (pc0 := 3) (pc' := 18) rfl (hb hby d8_3) rfl (own_ltL hf2).1 (by decide) (by decide) ?_
      show Steps p.tables e below (s₁.setTop (mkF m 18 #[.val (.long q0), .second, .val (.int p1), .val (.long q2), .second, .val (.int p3)] [])) _
      refine XS.iconst X0.here hx rfl (hb hby d8_18) ?_
      show Steps p.tables e below (s₁.setTop (mkF m 19 #[.val (.long q0), .second, .val (.int p1), .val (.long q2), .second, .val (.int p3)] [(.int (1 : Int32))])) _
      refine XS.goto X0.here hx rfl (pc0 := 19) (pc' := 23) rfl (hb hby d8_19) (by decide) (by decide) ?_
      show Steps p.tables e below (s₁.setTop (mkF m 23 #[.val (.long q0), .second, .val (.int p1), .val (.long q2), .second, .val (.int p3)] [(.int (1 : Int32))])) _
      rw [show (f8_23 q0 p1 q2 p3) = ((1 : Int32) : Int32) from by simp only [f8_23, if_pos hf2]] at k
      exact k
    · refine XS.ifNo X0.here hx rfl (hb hby d8_3) rfl (own_fltL hf2).1 ?_
      show Steps p.tables e below (s₁.setTop (mkF m 6 #[.val (.long q0), .second, .val (.int p1), .val (.long q2), .second, .val (.int p3)] [])) _
      refine XS.lloadN X0.here hx rfl (hb hby d8_6) rfl ?_
      show Steps p.tables e below (s₁.setTop (mkF m 7 #[.val (.long q0), .second, .val (.int p1), .val (.long q2), .second, .val (.int p3)] [(.long q0)])) _
      refine XS.lloadN X0.here hx rfl (hb hby d8_7) rfl ?_
      show Steps p.tables e below (s₁.setTop (mkF m 8 #[.val (.long q0), .second, .val (.int p1), .val (.long q2), .second, .val (.int p3)] [(.long q2), (.long q0)])) _
      refine XS.lcmp X0.here hx rfl (hb hby d8_8) rfl ?_
      show Steps p.tables e below (s₁.setTop (mkF m 9 #[.val (.long q0), .second, .val (.int p1), .val (.long q2), .second, .val (.int p3)] [(.int (lcmpW q0 q2))])) _
      by_cases hf3 : q0 = q2
      · refine XS.ifNo X0.here hx rfl (hb hby d8_9) rfl (own_eqL hf3).2 ?_
        show Steps p.tables e below (s₁.setTop (mkF m 12 #[.val (.long q0), .second, .val (.int p1), .val (.long q2), .second, .val (.int p3)] [])) _
        refine XS.iloadN X0.here hx rfl (hb hby d8_12) rfl ?_
        show Steps p.tables e below (s₁.setTop (mkF m 13 #[.val (.long q0), .second, .val (.int p1), .val (.long q2), .second, .val (.int p3)] [(.int p1)])) _
        refine XS.iload X0.here hx rfl (hb hby d8_13) rfl ?_
        show Steps p.tables e below (s₁.setTop (mkF m 15 #[.val (.long q0), .second, .val (.int p1), .val (.long q2), .second, .val (.int p3)] [(.int p3), (.int p1)])) _
        by_cases hf4 : p3 < p1
        · refine XS.icmpNo X0.here hx rfl (hb hby d8_15) rfl (tlt hf4).2.2.2 ?_
          show Steps p.tables e below (s₁.setTop (mkF m 18 #[.val (.long q0), .second, .val (.int p1), .val (.long q2), .second, .val (.int p3)] [])) _
          refine XS.iconst X0.here hx rfl (hb hby d8_18) ?_
          show Steps p.tables e below (s₁.setTop (mkF m 19 #[.val (.long q0), .second, .val (.int p1), .val (.long q2), .second, .val (.int p3)] [(.int (1 : Int32))])) _
          refine XS.goto X0.here hx rfl (pc0 := 19) (pc' := 23) rfl (hb hby d8_19) (by decide) (by decide) ?_
          show Steps p.tables e below (s₁.setTop (mkF m 23 #[.val (.long q0), .second, .val (.int p1), .val (.long q2), .second, .val (.int p3)] [(.int (1 : Int32))])) _
          rw [show (f8_23 q0 p1 q2 p3) = ((1 : Int32) : Int32) from by simp only [f8_23, if_neg hf2, if_pos hf3, if_pos hf4]] at k
          exact k
        · refine XS.icmpYes X0.here hx rfl (pc0 := 15) (pc' := 22) rfl (hb hby d8_15) rfl (flt hf4).2.2.2 (by decide) (by decide) ?_
          show Steps p.tables e below (s₁.setTop (mkF m 22 #[.val (.long q0), .second, .val (.int p1), .val (.long q2), .second, .val (.int p3)] [])) _
          refine XS.iconst X0.here hx rfl (hb hby d8_22) ?_
          show Steps p.tables e below (s₁.setTop (mkF m 23 #[.val (.long q0), .second, .val (.int p1), .val (.long q2), .second, .val (.int p3)] [(.int (0 : Int32))])) _
          rw [show (f8_23 q0 p1 q2 p3) = ((0 : Int32) : Int32) from by simp only [f8_23, if_neg hf2, if_pos hf3, if_neg hf4]] at k
          exact k
      · refine XS.ifYes X0.here hx rfl (pc0 := 9) (pc' := 22) rfl (hb hby d8_9) rfl (own_neL hf3).2 (by decide) (by decide) ?_
        show Steps p.tables e below (s₁.setTop (mkF m 22 #[.val (.long q0), .second, .val (.int p1), .val (.long q2), .second, .val (.int p3)] [])) _
        refine XS.iconst X0.here hx rfl (hb hby d8_22) ?_
        show Steps p.tables e below (s₁.setTop (mkF m 23 #[.val (.long q0), .second, .val (.int p1), .val (.long q2), .second, .val (.int p3)] [(.int (0 : Int32))])) _
        rw [show (f8_23 q0 p1 q2 p3) = ((0 : Int32) : Int32) from by simp only [f8_23, if_neg hf2, if_neg hf3]] at k
        exact k)
  obtain ⟨fs, hr, hrun, hended, hW, hsame⟩ := X0.leave (v := some (.int ((f8_23 q0 p1 q2 p3) &&& 1))) (fun h => by rw [Bd.returns] at h; cases h)
  refine ⟨_, _, pre5 _ ?_, hrun, hended, _, _, rfl, ?_, ⟨_, rfl⟩, hW, hsame.mono (by decide) (by decide)⟩
  · exact retN X0 hx (t := .boolean) Bd.returns (by simp) (hb hby d8_23) hr
  · show Q8 Z q0 p1 q2 p3 h0 n0 _ s₁.heap _
    rw [e0]
    exact ⟨rfl, N0, rfl⟩

theorem own_pv (r : Int64) (c : Int32) (st : Int32) (y : own_E) : (((f8_ret r c y.1 y.2.1) &&& 1) = (0 : Int32)) ↔ ¬ own_bf (r, c, st) y := by
  unfold own_bf
  simp only [f8_ret, f8_23]
  by_cases h1 : r < y.1
  · rw [if_pos h1]; simp [h1]
  · rw [if_neg h1]
    by_cases h2 : r = y.1
    · rw [if_pos h2]
      by_cases h3 : y.2.1 < c
      · rw [if_pos h3]; simp [h2, h3]
      · rw [if_neg h3]; simp [h1, h2, h3]
    · rw [if_neg h2]; simp [h1, h2]
theorem own_pvr (x : own_E) (r : Int64) (c : Int32) (st : Int32) : ((f8_ret x.1 x.2.1 r c) = (0 : Int32)) ↔ ¬ own_bf x (r, c, st) := by
  unfold own_bf
  simp only [f8_ret, f8_23]
  by_cases h1 : x.1 < r
  · rw [if_pos h1]; simp [h1]
  · rw [if_neg h1]
    by_cases h2 : x.1 = r
    · rw [if_pos h2]
      by_cases h3 : c < x.2.1
      · rw [if_pos h3]; simp [h2, h3]
      · rw [if_neg h3]; simp [h1, h2, h3]
    · rw [if_neg h2]; simp [h1, h2]

theorem d7_0 : decode prog_53_method_5_code 0 = .ok (.lload_n 1, 1) := by decide +kernel
theorem d7_1 : decode prog_53_method_5_code 1 = .ok (.iload_n 3, 1) := by decide +kernel
theorem d7_2 : decode prog_53_method_5_code 2 = .ok (.aload_n 0, 1) := by decide +kernel
theorem d7_3 : decode prog_53_method_5_code 3 = .ok (.getfield 9, 3) := by decide +kernel
theorem d7_6 : decode prog_53_method_5_code 6 = .ok (.iload 4, 2) := by decide +kernel
theorem d7_8 : decode prog_53_method_5_code 8 = .ok (.laload, 1) := by decide +kernel
theorem d7_9 : decode prog_53_method_5_code 9 = .ok (.aload_n 0, 1) := by decide +kernel
theorem d7_10 : decode prog_53_method_5_code 10 = .ok (.getfield 13, 3) := by decide +kernel
theorem d7_13 : decode prog_53_method_5_code 13 = .ok (.iload 4, 2) := by decide +kernel
theorem d7_15 : decode prog_53_method_5_code 15 = .ok (.iaload, 1) := by decide +kernel
theorem d7_16 : decode prog_53_method_5_code 16 = .ok (.invokestatic 39, 3) := by decide +kernel
theorem d7_19 : decode prog_53_method_5_code 19 = .ok (.ireturn, 1) := by decide +kernel
theorem pd_0 : parseMethodDescriptor "(JIJI)Z" = some ⟨[.long, .int, .long, .int], some .boolean⟩ := by decide +kernel
theorem ef_7 (m : MethodId) (o0 : Addr) (q1 : Int64) (p2 : Int32) (p3 : Int32) : entryFrame m #[(.ref o0), (.long q1), (.int p2), (.int p3)] 5 = mkF m 0 #[.val (.ref o0), .val (.long q1), .second, .val (.int p2), .val (.int p3)] [] := by first | (simp [entryFrame, mkF, argsToLocals, Value.category]; done) | rfl

def Q7 (Z : State) (o0 : Addr) (q1 : Int64) (p2 : Int32) (p3 : Int32) (tr tc : Addr) (fe : Nat → own_E) (h0 : Heap) (n0 : Nat) (v : Option Value) (h : Heap) (L : List Loc) : Prop := v = some (.int ((f8_ret q1 p2 ((fe (p3 : Int32).toNatClampNeg).1) ((fe (p3 : Int32).toNatClampNeg).2.1)) &&& 1)) ∧ Fr n0 L ∧ h = h0
set_option maxRecDepth 65536 in
set_option maxHeartbeats 40000000 in
theorem rm7 (l : Launch) (Z : State) (a0 : Array Value) (hw : ∀ d ∈ tables_1, d.before a0 Z = true) (ws : List Jvm.Cond) (o0 : Addr) (q1 : Int64) (p2 : Int32) (p3 : Int32) (tr tc : Addr) (fe : Nat → own_E) (h0 : Heap) (n0 : Nat) (Z0 : n0 ≤ h0.size) (F_ranks_o0 : Fld Z h0 o0 "com/example/brisk_maze/briskmaze/search/RankedFrontier" "ranks" "[J" (.ref tr)) (F_costs_o0 : Fld Z h0 o0 "com/example/brisk_maze/briskmaze/search/RankedFrontier" "costs" "[I" (.ref tc)) (A_tr : own_A Z h0 tr .long 64 (fun kk => (.long (fe kk).1))) (A_tc : own_A Z h0 tc .int 64 (fun kk => (.int (fe kk).2.1))) (hix : 0 ≤ (p3 : Int32).toInt ∧ (p3 : Int32).toInt < (64 : Nat)) :
    MetFree l (⟨"com/example/brisk_maze/briskmaze/search/RankedFrontier", "precedes", "(JII)Z"⟩ : MethodName) (head1 (Jvm.Cond.code (⟨"com/example/brisk_maze/briskmaze/search/RankedFrontier", "precedes", "(JII)Z"⟩ : MethodName) prog_53_method_5_code 5 (some .boolean) :: ws) ({ frames := 1, cells := 0, slots := 0, locals := 17 } : Room)) (fun a U => a = #[(.ref o0), (.long q1), (.int p2), (.int p3)] ∧ Z.Warmed39 U.vm ∧ U.heap = h0) (fun _ _ _ _ _ => True) (fun _ U o U' => ∃ v L, o = .returned v ∧ Q7 Z o0 q1 p2 p3 tr tc fe h0 n0 v U'.heap L ∧ FrameEnd U o U' L ({ frames := 1, cells := 0, slots := 0, locals := 17 } : Room).cells ({ frames := 1, cells := 0, slots := 0, locals := 17 } : Room).slots) := by
  refine MetFree.of_bodySF (plainFor_of_name pn_0) hisR ?_
  intro p e s m args below meth c s₁ Bd hml0 hP hK
  obtain ⟨rfl, hZ, hh⟩ := hP
  have hx := Bd.exec
  have hby := Bd.bytes
  have hml : c.maxLocals = 5 := hml0
  have hown : s.vm.findClass "com/example/brisk_maze/briskmaze/search/RankedFrontier" = some m.cls := findClass_of_methodNamed Bd.named
  have hnm := (name_of_methodNamed Bd.named Bd.method).1
  have X0 : Stand p l e ({ frames := 1, cells := 0, slots := 0, locals := 17 } : Room) s m #[(.ref o0), (.long q1), (.int p2), (.int p3)] below meth c s₁ [] 0 0 := Stand.of_body Bd
  have e0 : s₁.heap = h0 := by rw [← hh, Bd.state]; rfl
  have N0 := Fr.nil n0
  have pre0 : ∀ t, Steps p.tables e below (s₁.setTop (mkF m 0 #[.val (.ref o0), .val (.long q1), .second, .val (.int p2), .val (.int p3)] [])) t → Steps p.tables e below (s₁.setTop (entryFrame m #[(.ref o0), (.long q1), (.int p2), (.int p3)] 5)) t := fun t k => castTop (ef_7 m o0 q1 p2 p3) k
  obtain ⟨T1, X1, e1, st1⟩ := getF X0 hx hZ hown (host := "") (Or.inl (hw _ (List.mem_of_getElem? (i := 18) rfl))) Via.refl e0 F_ranks_o0 (g := (mkF m 3 #[.val (.ref o0), .val (.long q1), .second, .val (.int p2), .val (.int p3)] [(.ref o0), (.int p2), (.long q1)])) rfl rfl (hb hby d7_3)
  have qa2 := A_tr
  obtain ⟨c2, Ar2, Sz2, H2⟩ := qa2
  have hi3 : 0 ≤ (p3 : Int32).toInt ∧ (p3 : Int32).toInt < (64 : Nat) := hix
  have hl3 : c2.slots[(p3 : Int32).toNatClampNeg]? = some (.long ((fe (p3 : Int32).toNatClampNeg).1)) := H2 _ (own_ix hi3)
  obtain ⟨T4, X4, e4, st4⟩ := getF X1 hx hZ hown (host := "") (Or.inl (hw _ (List.mem_of_getElem? (i := 20) rfl))) Via.refl e1 F_costs_o0 (g := (mkF m 10 #[.val (.ref o0), .val (.long q1), .second, .val (.int p2), .val (.int p3)] [(.ref o0), (.long ((fe (p3 : Int32).toNatClampNeg).1)), (.int p2), (.long q1)])) rfl rfl (hb hby d7_10)
  have qa5 := A_tc
  obtain ⟨c5, Ar5, Sz5, H5⟩ := qa5
  have hi6 : 0 ≤ (p3 : Int32).toInt ∧ (p3 : Int32).toInt < (64 : Nat) := hix
  have hl6 : c5.slots[(p3 : Int32).toNatClampNeg]? = some (.int ((fe (p3 : Int32).toNatClampNeg).2.1)) := H5 _ (own_ix hi6)
  obtain ⟨_, _, ⟨T7, L7, k7, n7⟩, -, X7, ⟨Lc7, hQ7, l7, y7, z7⟩, st7⟩ := Jvm.LawKit.callS X4 hx (y := (⟨"com/example/brisk_maze/briskmaze/search/RankedFrontier", "precedes", "(JIJI)Z"⟩ : MethodName)) hown (mvT hZ (hw _ (List.mem_of_getElem? (i := 39) rfl))) (mvT hZ (hw _ (List.mem_of_getElem? (i := 40) rfl))) (mvT hZ (hw _ (List.mem_of_getElem? (i := 11) rfl))) (mvT hZ (hw _ (List.mem_of_getElem? (i := 41) rfl))) (by decide) (backOf (W := 0) (rm8 l Z a0 hw [] q1 p2 ((fe (p3 : Int32).toNatClampNeg).1) ((fe (p3 : Int32).toNatClampNeg).2.1) h0 n0 Z0) hZ (hw _ (List.mem_of_getElem? (i := 41) rfl)) (hw _ (List.mem_of_getElem? (i := 11) rfl)) (by decide) (by decide)) (g := (mkF m 16 #[.val (.ref o0), .val (.long q1), .second, .val (.int p2), .val (.int p3)] [(.int ((fe (p3 : Int32).toNatClampNeg).2.1)), (.long ((fe (p3 : Int32).toNatClampNeg).1)), (.int p2), (.long q1)])) rfl (by rw [hml]; rfl) (argsL := [(.long q1), (.int p2), (.long ((fe (p3 : Int32).toNatClampNeg).1)), (.int ((fe (p3 : Int32).toNatClampNeg).2.1))]) (rest := []) (lenOf pd_0 rfl) rfl (by show 2 * 0 + _ ≤ _; exact Nat.le_of_eq rfl) (hb hby d7_16) (fun _ _ => ⟨rfl, e4, (by decide : 0 + 0 ≤ _), (by decide : 0 + 0 ≤ _)⟩)
  dsimp only [Pt.U, Pt.locs, Pt.cells, Pt.slots] at X7 l7 y7 z7 st7 hQ7
  subst y7 z7
  obtain ⟨rfl, N7q, hh7⟩ := hQ7
  have N7 := Fr.app N0 N7q
  rw [← l7] at N7
  have pre8 : ∀ t, Steps p.tables e below (T7.setTop (mkF m 19 #[.val (.ref o0), .val (.long q1), .second, .val (.int p2), .val (.int p3)] [(.int (f8_ret q1 p2 ((fe (p3 : Int32).toNatClampNeg).1) ((fe (p3 : Int32).toNatClampNeg).2.1)))])) t → Steps p.tables e below (s₁.setTop (entryFrame m #[(.ref o0), (.long q1), (.int p2), (.int p3)] 5)) t := fun t k => pre0 t (by
    show Steps p.tables e below (s₁.setTop (mkF m 0 #[.val (.ref o0), .val (.long q1), .second, .val (.int p2), .val (.int p3)] [])) _
    refine XS.lloadN X0.here hx rfl (hb hby d7_0) rfl ?_
    show Steps p.tables e below (s₁.setTop (mkF m 1 #[.val (.ref o0), .val (.long q1), .second, .val (.int p2), .val (.int p3)] [(.long q1)])) _
    refine XS.iloadN X0.here hx rfl (hb hby d7_1) rfl ?_
    show Steps p.tables e below (s₁.setTop (mkF m 2 #[.val (.ref o0), .val (.long q1), .second, .val (.int p2), .val (.int p3)] [(.int p2), (.long q1)])) _
    refine XS.aloadN X0.here hx rfl (hb hby d7_2) rfl rfl ?_
    show Steps p.tables e below (s₁.setTop (mkF m 3 #[.val (.ref o0), .val (.long q1), .second, .val (.int p2), .val (.int p3)] [(.ref o0), (.int p2), (.long q1)])) _
    refine st1 _ ?_
    show Steps p.tables e below (T1.setTop (mkF m 6 #[.val (.ref o0), .val (.long q1), .second, .val (.int p2), .val (.int p3)] [(.ref tr), (.int p2), (.long q1)])) _
    refine XS.iload X1.here hx rfl (hb hby d7_6) rfl ?_
    show Steps p.tables e below (T1.setTop (mkF m 8 #[.val (.ref o0), .val (.long q1), .second, .val (.int p2), .val (.int p3)] [(.int p3), (.ref tr), (.int p2), (.long q1)])) _
    refine X1.laload hx (j := p3) (v := (.long ((fe (p3 : Int32).toNatClampNeg).1))) (by rw [e1]; exact Ar2.1) (State.isArrayOf_alike hZ.alike Ar2.2.1) Ar2.2.2 (own_in Sz2 hi3) hl3 (g := (mkF m 8 #[.val (.ref o0), .val (.long q1), .second, .val (.int p2), .val (.int p3)] [(.int p3), (.ref tr), (.int p2), (.long q1)])) rfl rfl (hb hby d7_8) _ ?_
    show Steps p.tables e below (T1.setTop (mkF m 9 #[.val (.ref o0), .val (.long q1), .second, .val (.int p2), .val (.int p3)] [(.long ((fe (p3 : Int32).toNatClampNeg).1)), (.int p2), (.long q1)])) _
    refine XS.aloadN X1.here hx rfl (hb hby d7_9) rfl rfl ?_
    show Steps p.tables e below (T1.setTop (mkF m 10 #[.val (.ref o0), .val (.long q1), .second, .val (.int p2), .val (.int p3)] [(.ref o0), (.long ((fe (p3 : Int32).toNatClampNeg).1)), (.int p2), (.long q1)])) _
    refine st4 _ ?_
    show Steps p.tables e below (T4.setTop (mkF m 13 #[.val (.ref o0), .val (.long q1), .second, .val (.int p2), .val (.int p3)] [(.ref tc), (.long ((fe (p3 : Int32).toNatClampNeg).1)), (.int p2), (.long q1)])) _
    refine XS.iload X4.here hx rfl (hb hby d7_13) rfl ?_
    show Steps p.tables e below (T4.setTop (mkF m 15 #[.val (.ref o0), .val (.long q1), .second, .val (.int p2), .val (.int p3)] [(.int p3), (.ref tc), (.long ((fe (p3 : Int32).toNatClampNeg).1)), (.int p2), (.long q1)])) _
    refine X4.iaload hx (j := p3) (v := (.int ((fe (p3 : Int32).toNatClampNeg).2.1))) (by rw [e4]; exact Ar5.1) (State.isArrayOf_alike hZ.alike Ar5.2.1) Ar5.2.2 (own_in Sz5 hi6) hl6 (g := (mkF m 15 #[.val (.ref o0), .val (.long q1), .second, .val (.int p2), .val (.int p3)] [(.int p3), (.ref tc), (.long ((fe (p3 : Int32).toNatClampNeg).1)), (.int p2), (.long q1)])) rfl rfl (hb hby d7_15) _ ?_
    show Steps p.tables e below (T4.setTop (mkF m 16 #[.val (.ref o0), .val (.long q1), .second, .val (.int p2), .val (.int p3)] [(.int ((fe (p3 : Int32).toNatClampNeg).2.1)), (.long ((fe (p3 : Int32).toNatClampNeg).1)), (.int p2), (.long q1)])) _
    refine st7 _ ?_
    show Steps p.tables e below (T7.setTop (mkF m 19 #[.val (.ref o0), .val (.long q1), .second, .val (.int p2), .val (.int p3)] [(.int (f8_ret q1 p2 ((fe (p3 : Int32).toNatClampNeg).1) ((fe (p3 : Int32).toNatClampNeg).2.1)))])) _
    exact k)
  obtain ⟨fs, hr, hrun, hended, hW, hsame⟩ := X7.leave (v := some (.int ((f8_ret q1 p2 ((fe (p3 : Int32).toNatClampNeg).1) ((fe (p3 : Int32).toNatClampNeg).2.1)) &&& 1))) (fun h => by rw [Bd.returns] at h; cases h)
  refine ⟨_, _, pre8 _ ?_, hrun, hended, _, _, rfl, ?_, ⟨_, rfl⟩, hW, hsame.mono (by decide) (by decide)⟩
  · exact retN X7 hx (t := .boolean) Bd.returns (by simp) (hb hby d7_19) hr
  · show Q7 Z o0 q1 p2 p3 tr tc fe h0 n0 _ T7.heap _
    rw [hh7]
    exact ⟨rfl, N7, rfl⟩
theorem d6_0 : decode prog_53_method_8_code 0 = .ok (.aload_n 0, 1) := by decide +kernel
theorem d6_1 : decode prog_53_method_8_code 1 = .ok (.getfield 9, 3) := by decide +kernel
theorem d6_4 : decode prog_53_method_8_code 4 = .ok (.iload_n 1, 1) := by decide +kernel
theorem d6_5 : decode prog_53_method_8_code 5 = .ok (.lload_n 2, 1) := by decide +kernel
theorem d6_6 : decode prog_53_method_8_code 6 = .ok (.lastore, 1) := by decide +kernel
theorem d6_7 : decode prog_53_method_8_code 7 = .ok (.aload_n 0, 1) := by decide +kernel
theorem d6_8 : decode prog_53_method_8_code 8 = .ok (.getfield 13, 3) := by decide +kernel
theorem d6_11 : decode prog_53_method_8_code 11 = .ok (.iload_n 1, 1) := by decide +kernel
theorem d6_12 : decode prog_53_method_8_code 12 = .ok (.iload 4, 2) := by decide +kernel
theorem d6_14 : decode prog_53_method_8_code 14 = .ok (.iastore, 1) := by decide +kernel
theorem d6_15 : decode prog_53_method_8_code 15 = .ok (.aload_n 0, 1) := by decide +kernel
theorem d6_16 : decode prog_53_method_8_code 16 = .ok (.getfield 17, 3) := by decide +kernel
theorem d6_19 : decode prog_53_method_8_code 19 = .ok (.iload_n 1, 1) := by decide +kernel
theorem d6_20 : decode prog_53_method_8_code 20 = .ok (.iload 5, 2) := by decide +kernel
theorem d6_22 : decode prog_53_method_8_code 22 = .ok (.iastore, 1) := by decide +kernel
theorem d6_23 : decode prog_53_method_8_code 23 = .ok (.return_, 1) := by decide +kernel
theorem ef_6 (m : MethodId) (o0 : Addr) (p1 : Int32) (q2 : Int64) (p3 : Int32) (p4 : Int32) : entryFrame m #[(.ref o0), (.int p1), (.long q2), (.int p3), (.int p4)] 6 = mkF m 0 #[.val (.ref o0), .val (.int p1), .val (.long q2), .second, .val (.int p3), .val (.int p4)] [] := by first | (simp [entryFrame, mkF, argsToLocals, Value.category]; done) | rfl

def Q6 (Z : State) (o0 : Addr) (p1 : Int32) (q2 : Int64) (p3 : Int32) (p4 : Int32) (tr tc ts : Addr) (fe : Nat → own_E) (h0 : Heap) (n0 : Nat) (v : Option Value) (h : Heap) (L : List Loc) : Prop := v = none ∧ Fr n0 L ∧ Keep h0 h [tr, tc, ts] ∧ (own_A Z h tr .long 64 (fun kk => (.long ((own_up fe (p1 : Int32).toNatClampNeg (q2, p3, p4)) kk).1))) ∧ (own_A Z h tc .int 64 (fun kk => (.int ((own_up fe (p1 : Int32).toNatClampNeg (q2, p3, p4)) kk).2.1))) ∧ (own_A Z h ts .int 64 (fun kk => (.int ((own_up fe (p1 : Int32).toNatClampNeg (q2, p3, p4)) kk).2.2)))
set_option maxRecDepth 65536 in
set_option maxHeartbeats 40000000 in
theorem rm6 (l : Launch) (Z : State) (a0 : Array Value) (hw : ∀ d ∈ tables_1, d.before a0 Z = true) (ws : List Jvm.Cond) (o0 : Addr) (p1 : Int32) (q2 : Int64) (p3 : Int32) (p4 : Int32) (tr tc ts : Addr) (fe : Nat → own_E) (h0 : Heap) (n0 : Nat) (Z0 : n0 ≤ h0.size) (F_ranks_o0 : Fld Z h0 o0 "com/example/brisk_maze/briskmaze/search/RankedFrontier" "ranks" "[J" (.ref tr)) (F_costs_o0 : Fld Z h0 o0 "com/example/brisk_maze/briskmaze/search/RankedFrontier" "costs" "[I" (.ref tc)) (F_states_o0 : Fld Z h0 o0 "com/example/brisk_maze/briskmaze/search/RankedFrontier" "states" "[I" (.ref ts)) (A_tr : own_A Z h0 tr .long 64 (fun kk => (.long (fe kk).1))) (A_tc : own_A Z h0 tc .int 64 (fun kk => (.int (fe kk).2.1))) (A_ts : own_A Z h0 ts .int 64 (fun kk => (.int (fe kk).2.2))) (g_tr : n0 ≤ tr) (g_tc : n0 ≤ tc) (g_ts : n0 ≤ ts) (ne_o0_tr : o0 ≠ tr) (ne_o0_tc : o0 ≠ tc) (ne_o0_ts : o0 ≠ ts) (ne_tr_tc : tr ≠ tc) (ne_tr_ts : tr ≠ ts) (ne_tc_ts : tc ≠ ts) (hix : 0 ≤ (p1 : Int32).toInt ∧ (p1 : Int32).toInt < (64 : Nat)) :
    MetFree l (⟨"com/example/brisk_maze/briskmaze/search/RankedFrontier", "place", "(IJII)V"⟩ : MethodName) (head1 (Jvm.Cond.code (⟨"com/example/brisk_maze/briskmaze/search/RankedFrontier", "place", "(IJII)V"⟩ : MethodName) prog_53_method_8_code 6 none :: ws) ({ frames := 0, cells := 0, slots := 0, locals := 0 } : Room)) (fun a U => a = #[(.ref o0), (.int p1), (.long q2), (.int p3), (.int p4)] ∧ Z.Warmed39 U.vm ∧ U.heap = h0) (fun _ _ _ _ _ => True) (fun _ U o U' => ∃ v L, o = .returned v ∧ Q6 Z o0 p1 q2 p3 p4 tr tc ts fe h0 n0 v U'.heap L ∧ FrameEnd U o U' L ({ frames := 0, cells := 0, slots := 0, locals := 0 } : Room).cells ({ frames := 0, cells := 0, slots := 0, locals := 0 } : Room).slots) := by
  refine MetFree.of_bodySF (plainFor_of_name pn_0) hisR ?_
  intro p e s m args below meth c s₁ Bd hml0 hP hK
  obtain ⟨rfl, hZ, hh⟩ := hP
  have hx := Bd.exec
  have hby := Bd.bytes
  have hml : c.maxLocals = 6 := hml0
  have hown : s.vm.findClass "com/example/brisk_maze/briskmaze/search/RankedFrontier" = some m.cls := findClass_of_methodNamed Bd.named
  have hnm := (name_of_methodNamed Bd.named Bd.method).1
  have X0 : Stand p l e ({ frames := 0, cells := 0, slots := 0, locals := 0 } : Room) s m #[(.ref o0), (.int p1), (.long q2), (.int p3), (.int p4)] below meth c s₁ [] 0 0 := Stand.of_body Bd
  have e0 : s₁.heap = h0 := by rw [← hh, Bd.state]; rfl
  have N0 := Fr.nil n0
  have pre0 : ∀ t, Steps p.tables e below (s₁.setTop (mkF m 0 #[.val (.ref o0), .val (.int p1), .val (.long q2), .second, .val (.int p3), .val (.int p4)] [])) t → Steps p.tables e below (s₁.setTop (entryFrame m #[(.ref o0), (.int p1), (.long q2), (.int p3), (.int p4)] 6)) t := fun t k => castTop (ef_6 m o0 p1 q2 p3 p4) k
  obtain ⟨T1, X1, e1, st1⟩ := getF X0 hx hZ hown (host := "") (Or.inl (hw _ (List.mem_of_getElem? (i := 18) rfl))) Via.refl e0 F_ranks_o0 (g := (mkF m 1 #[.val (.ref o0), .val (.int p1), .val (.long q2), .second, .val (.int p3), .val (.int p4)] [(.ref o0)])) rfl rfl (hb hby d6_1)
  have qa2 := A_tr
  obtain ⟨c2, Ar2, Sz2, H2⟩ := qa2
  have hi3 : 0 ≤ (p1 : Int32).toInt ∧ (p1 : Int32).toInt < (64 : Nat) := hix
  obtain ⟨T3, h3, X3, e3, W3, st3⟩ := stJ X1 hx hZ e1 Ar2 (j := p1) (own_in Sz2 hi3) (g := (mkF m 6 #[.val (.ref o0), .val (.int p1), .val (.long q2), .second, .val (.int p3), .val (.int p4)] [(.long q2), (.int p1), (.ref tr)])) rfl rfl (hb hby d6_6)
  have N3 := Fr.snoc X3 N0 g_tr
  have A_tr_w3 : own_A Z h3 tr .long 64 (fun kk => (.long (if kk = (p1 : Int32).toNatClampNeg then q2 else (fe kk).1))) := own_A.setJ A_tr W3
  have F_ranks_o0_4 : Fld Z h3 o0 "com/example/brisk_maze/briskmaze/search/RankedFrontier" "ranks" "[J" (.ref tr) := (F_ranks_o0).other W3 (Or.inl ne_o0_tr)
  have F_costs_o0_4 : Fld Z h3 o0 "com/example/brisk_maze/briskmaze/search/RankedFrontier" "costs" "[I" (.ref tc) := (F_costs_o0).other W3 (Or.inl ne_o0_tr)
  have F_states_o0_4 : Fld Z h3 o0 "com/example/brisk_maze/briskmaze/search/RankedFrontier" "states" "[I" (.ref ts) := (F_states_o0).other W3 (Or.inl ne_o0_tr)
  have A_tc_4 : own_A Z h3 tc .int 64 (fun kk => (.int (fe kk).2.1)) := (A_tc).other W3 (Ne.symm ne_tr_tc)
  have A_ts_4 : own_A Z h3 ts .int 64 (fun kk => (.int (fe kk).2.2)) := (A_ts).other W3 (Ne.symm ne_tr_ts)
  have SZ5 : h0.size ≤ h3.size := by rw [W3.size]; exact (Nat.le_refl _)
  have ZZ5 : n0 ≤ h3.size := Nat.le_trans Z0 SZ5
  have K6 : Keep h0 h3 [tr, tc, ts] := ((Keep.refl h0 [tr, tc, ts])).wr W3 (Or.inl (List.mem_of_getElem? (i := 0) rfl))
  obtain ⟨T7, X7, e7, st7⟩ := getF X3 hx hZ hown (host := "") (Or.inl (hw _ (List.mem_of_getElem? (i := 20) rfl))) Via.refl e3 F_costs_o0_4 (g := (mkF m 8 #[.val (.ref o0), .val (.int p1), .val (.long q2), .second, .val (.int p3), .val (.int p4)] [(.ref o0)])) rfl rfl (hb hby d6_8)
  have qa8 := A_tc_4
  obtain ⟨c8, Ar8, Sz8, H8⟩ := qa8
  have hi9 : 0 ≤ (p1 : Int32).toInt ∧ (p1 : Int32).toInt < (64 : Nat) := hix
  obtain ⟨T9, h9, X9, e9, W9, st9⟩ := stI X7 hx hZ e7 Ar8 (j := p1) (own_in Sz8 hi9) (g := (mkF m 14 #[.val (.ref o0), .val (.int p1), .val (.long q2), .second, .val (.int p3), .val (.int p4)] [(.int p3), (.int p1), (.ref tc)])) rfl rfl (hb hby d6_14)
  have N9 := Fr.snoc X9 N3 g_tc
  have A_tc_w9 : own_A Z h9 tc .int 64 (fun kk => (.int (if kk = (p1 : Int32).toNatClampNeg then p3 else (fe kk).2.1))) := own_A.setI A_tc_4 W9
  have F_ranks_o0_10 : Fld Z h9 o0 "com/example/brisk_maze/briskmaze/search/RankedFrontier" "ranks" "[J" (.ref tr) := (F_ranks_o0_4).other W9 (Or.inl ne_o0_tc)
  have F_costs_o0_10 : Fld Z h9 o0 "com/example/brisk_maze/briskmaze/search/RankedFrontier" "costs" "[I" (.ref tc) := (F_costs_o0_4).other W9 (Or.inl ne_o0_tc)
  have F_states_o0_10 : Fld Z h9 o0 "com/example/brisk_maze/briskmaze/search/RankedFrontier" "states" "[I" (.ref ts) := (F_states_o0_4).other W9 (Or.inl ne_o0_tc)
  have A_ts_10 : own_A Z h9 ts .int 64 (fun kk => (.int (fe kk).2.2)) := (A_ts_4).other W9 (Ne.symm ne_tc_ts)
  have A_tr_10 : own_A Z h9 tr .long 64 (fun kk => (.long (if kk = (p1 : Int32).toNatClampNeg then q2 else (fe kk).1))) := (A_tr_w3).other W9 ne_tr_tc
  have SZ11 : h0.size ≤ h9.size := by rw [W9.size]; exact SZ5
  have ZZ11 : n0 ≤ h9.size := Nat.le_trans Z0 SZ11
  have K12 : Keep h0 h9 [tr, tc, ts] := (K6).wr W9 (Or.inl (List.mem_of_getElem? (i := 1) rfl))
  obtain ⟨T13, X13, e13, st13⟩ := getF X9 hx hZ hown (host := "") (Or.inl (hw _ (List.mem_of_getElem? (i := 22) rfl))) Via.refl e9 F_states_o0_10 (g := (mkF m 16 #[.val (.ref o0), .val (.int p1), .val (.long q2), .second, .val (.int p3), .val (.int p4)] [(.ref o0)])) rfl rfl (hb hby d6_16)
  have qa14 := A_ts_10
  obtain ⟨c14, Ar14, Sz14, H14⟩ := qa14
  have hi15 : 0 ≤ (p1 : Int32).toInt ∧ (p1 : Int32).toInt < (64 : Nat) := hix
  obtain ⟨T15, h15, X15, e15, W15, st15⟩ := stI X13 hx hZ e13 Ar14 (j := p1) (own_in Sz14 hi15) (g := (mkF m 22 #[.val (.ref o0), .val (.int p1), .val (.long q2), .second, .val (.int p3), .val (.int p4)] [(.int p4), (.int p1), (.ref ts)])) rfl rfl (hb hby d6_22)
  have N15 := Fr.snoc X15 N9 g_ts
  have A_ts_w15 : own_A Z h15 ts .int 64 (fun kk => (.int (if kk = (p1 : Int32).toNatClampNeg then p4 else (fe kk).2.2))) := own_A.setI A_ts_10 W15
  have F_ranks_o0_16 : Fld Z h15 o0 "com/example/brisk_maze/briskmaze/search/RankedFrontier" "ranks" "[J" (.ref tr) := (F_ranks_o0_10).other W15 (Or.inl ne_o0_ts)
  have F_costs_o0_16 : Fld Z h15 o0 "com/example/brisk_maze/briskmaze/search/RankedFrontier" "costs" "[I" (.ref tc) := (F_costs_o0_10).other W15 (Or.inl ne_o0_ts)
  have F_states_o0_16 : Fld Z h15 o0 "com/example/brisk_maze/briskmaze/search/RankedFrontier" "states" "[I" (.ref ts) := (F_states_o0_10).other W15 (Or.inl ne_o0_ts)
  have A_tr_16 : own_A Z h15 tr .long 64 (fun kk => (.long (if kk = (p1 : Int32).toNatClampNeg then q2 else (fe kk).1))) := (A_tr_10).other W15 ne_tr_ts
  have A_tc_16 : own_A Z h15 tc .int 64 (fun kk => (.int (if kk = (p1 : Int32).toNatClampNeg then p3 else (fe kk).2.1))) := (A_tc_w9).other W15 ne_tc_ts
  have SZ17 : h0.size ≤ h15.size := by rw [W15.size]; exact SZ11
  have ZZ17 : n0 ≤ h15.size := Nat.le_trans Z0 SZ17
  have K18 : Keep h0 h15 [tr, tc, ts] := (K12).wr W15 (Or.inl (List.mem_of_getElem? (i := 2) rfl))
  have pre19 : ∀ t, Steps p.tables e below (T15.setTop (mkF m 23 #[.val (.ref o0), .val (.int p1), .val (.long q2), .second, .val (.int p3), .val (.int p4)] [])) t → Steps p.tables e below (s₁.setTop (entryFrame m #[(.ref o0), (.int p1), (.long q2), (.int p3), (.int p4)] 6)) t := fun t k => pre0 t (by
    show Steps p.tables e below (s₁.setTop (mkF m 0 #[.val (.ref o0), .val (.int p1), .val (.long q2), .second, .val (.int p3), .val (.int p4)] [])) _
    refine XS.aloadN X0.here hx rfl (hb hby d6_0) rfl rfl ?_
    show Steps p.tables e below (s₁.setTop (mkF m 1 #[.val (.ref o0), .val (.int p1), .val (.long q2), .second, .val (.int p3), .val (.int p4)] [(.ref o0)])) _
    refine st1 _ ?_
    show Steps p.tables e below (T1.setTop (mkF m 4 #[.val (.ref o0), .val (.int p1), .val (.long q2), .second, .val (.int p3), .val (.int p4)] [(.ref tr)])) _
    refine XS.iloadN X1.here hx rfl (hb hby d6_4) rfl ?_
    show Steps p.tables e below (T1.setTop (mkF m 5 #[.val (.ref o0), .val (.int p1), .val (.long q2), .second, .val (.int p3), .val (.int p4)] [(.int p1), (.ref tr)])) _
    refine XS.lloadN X1.here hx rfl (hb hby d6_5) rfl ?_
    show Steps p.tables e below (T1.setTop (mkF m 6 #[.val (.ref o0), .val (.int p1), .val (.long q2), .second, .val (.int p3), .val (.int p4)] [(.long q2), (.int p1), (.ref tr)])) _
    refine st3 _ ?_
    show Steps p.tables e below (T3.setTop (mkF m 7 #[.val (.ref o0), .val (.int p1), .val (.long q2), .second, .val (.int p3), .val (.int p4)] [])) _
    refine XS.aloadN X3.here hx rfl (hb hby d6_7) rfl rfl ?_
    show Steps p.tables e below (T3.setTop (mkF m 8 #[.val (.ref o0), .val (.int p1), .val (.long q2), .second, .val (.int p3), .val (.int p4)] [(.ref o0)])) _
    refine st7 _ ?_
    show Steps p.tables e below (T7.setTop (mkF m 11 #[.val (.ref o0), .val (.int p1), .val (.long q2), .second, .val (.int p3), .val (.int p4)] [(.ref tc)])) _
    refine XS.iloadN X7.here hx rfl (hb hby d6_11) rfl ?_
    show Steps p.tables e below (T7.setTop (mkF m 12 #[.val (.ref o0), .val (.int p1), .val (.long q2), .second, .val (.int p3), .val (.int p4)] [(.int p1), (.ref tc)])) _
    refine XS.iload X7.here hx rfl (hb hby d6_12) rfl ?_
    show Steps p.tables e below (T7.setTop (mkF m 14 #[.val (.ref o0), .val (.int p1), .val (.long q2), .second, .val (.int p3), .val (.int p4)] [(.int p3), (.int p1), (.ref tc)])) _
    refine st9 _ ?_
    show Steps p.tables e below (T9.setTop (mkF m 15 #[.val (.ref o0), .val (.int p1), .val (.long q2), .second, .val (.int p3), .val (.int p4)] [])) _
    refine XS.aloadN X9.here hx rfl (hb hby d6_15) rfl rfl ?_
    show Steps p.tables e below (T9.setTop (mkF m 16 #[.val (.ref o0), .val (.int p1), .val (.long q2), .second, .val (.int p3), .val (.int p4)] [(.ref o0)])) _
    refine st13 _ ?_
    show Steps p.tables e below (T13.setTop (mkF m 19 #[.val (.ref o0), .val (.int p1), .val (.long q2), .second, .val (.int p3), .val (.int p4)] [(.ref ts)])) _
    refine XS.iloadN X13.here hx rfl (hb hby d6_19) rfl ?_
    show Steps p.tables e below (T13.setTop (mkF m 20 #[.val (.ref o0), .val (.int p1), .val (.long q2), .second, .val (.int p3), .val (.int p4)] [(.int p1), (.ref ts)])) _
    refine XS.iload X13.here hx rfl (hb hby d6_20) rfl ?_
    show Steps p.tables e below (T13.setTop (mkF m 22 #[.val (.ref o0), .val (.int p1), .val (.long q2), .second, .val (.int p3), .val (.int p4)] [(.int p4), (.int p1), (.ref ts)])) _
    refine st15 _ ?_
    show Steps p.tables e below (T15.setTop (mkF m 23 #[.val (.ref o0), .val (.int p1), .val (.long q2), .second, .val (.int p3), .val (.int p4)] [])) _
    exact k)
  obtain ⟨fs, hr, hrun, hended, hW, hsame⟩ := X15.leave (v := none) (fun _ => rfl)
  refine ⟨_, _, pre19 _ ?_, hrun, hended, _, _, rfl, ?_, ⟨_, rfl⟩, hW, hsame.mono (by decide) (by decide)⟩
  · exact X15.returnOut hx Bd.returns (hb hby d6_23) hr
  · show Q6 Z o0 p1 q2 p3 p4 tr tc ts fe h0 n0 _ T15.heap _
    rw [e15]
    exact ⟨rfl, N15, K18, (own_A.eqv A_tr_16 (fun j _ => congrArg Value.long (own_up1 fe _ j (q2, p3, p4)).symm)), (own_A.eqv A_tc_16 (fun j _ => congrArg Value.int (own_up2 fe _ j (q2, p3, p4)).symm)), (own_A.eqv A_ts_w15 (fun j _ => congrArg Value.int (own_up3 fe _ j (q2, p3, p4)).symm))⟩
theorem d13_0 : decode prog_53_method_7_code 0 = .ok (.aload_n 0, 1) := by decide +kernel
theorem d13_1 : decode prog_53_method_7_code 1 = .ok (.iload_n 2, 1) := by decide +kernel
theorem d13_2 : decode prog_53_method_7_code 2 = .ok (.aload_n 0, 1) := by decide +kernel
theorem d13_3 : decode prog_53_method_7_code 3 = .ok (.getfield 9, 3) := by decide +kernel
theorem d13_6 : decode prog_53_method_7_code 6 = .ok (.iload_n 1, 1) := by decide +kernel
theorem d13_7 : decode prog_53_method_7_code 7 = .ok (.laload, 1) := by decide +kernel
theorem d13_8 : decode prog_53_method_7_code 8 = .ok (.aload_n 0, 1) := by decide +kernel
theorem d13_9 : decode prog_53_method_7_code 9 = .ok (.getfield 13, 3) := by decide +kernel
theorem d13_12 : decode prog_53_method_7_code 12 = .ok (.iload_n 1, 1) := by decide +kernel
theorem d13_13 : decode prog_53_method_7_code 13 = .ok (.iaload, 1) := by decide +kernel
theorem d13_14 : decode prog_53_method_7_code 14 = .ok (.aload_n 0, 1) := by decide +kernel
theorem d13_15 : decode prog_53_method_7_code 15 = .ok (.getfield 17, 3) := by decide +kernel
theorem d13_18 : decode prog_53_method_7_code 18 = .ok (.iload_n 1, 1) := by decide +kernel
theorem d13_19 : decode prog_53_method_7_code 19 = .ok (.iaload, 1) := by decide +kernel
theorem d13_20 : decode prog_53_method_7_code 20 = .ok (.invokevirtual 35, 3) := by decide +kernel
theorem d13_23 : decode prog_53_method_7_code 23 = .ok (.return_, 1) := by decide +kernel
theorem pd_1 : parseMethodDescriptor "(IJII)V" = some ⟨[.int, .long, .int, .int], none⟩ := by decide +kernel
theorem ef_13 (m : MethodId) (o0 : Addr) (p1 : Int32) (p2 : Int32) : entryFrame m #[(.ref o0), (.int p1), (.int p2)] 3 = mkF m 0 #[.val (.ref o0), .val (.int p1), .val (.int p2)] [] := by first | (simp [entryFrame, mkF, argsToLocals, Value.category]; done) | rfl

def Q13 (Z : State) (o0 : Addr) (p1 : Int32) (p2 : Int32) (tr tc ts : Addr) (fe : Nat → own_E) (h0 : Heap) (n0 : Nat) (v : Option Value) (h : Heap) (L : List Loc) : Prop := v = none ∧ Fr n0 L ∧ Keep h0 h [tr, tc, ts] ∧ (own_A Z h tr .long 64 (fun kk => (.long ((own_up fe (p2 : Int32).toNatClampNeg (fe (p1 : Int32).toNatClampNeg)) kk).1))) ∧ (own_A Z h tc .int 64 (fun kk => (.int ((own_up fe (p2 : Int32).toNatClampNeg (fe (p1 : Int32).toNatClampNeg)) kk).2.1))) ∧ (own_A Z h ts .int 64 (fun kk => (.int ((own_up fe (p2 : Int32).toNatClampNeg (fe (p1 : Int32).toNatClampNeg)) kk).2.2)))
set_option maxRecDepth 65536 in
set_option maxHeartbeats 40000000 in
theorem rm13 (l : Launch) (Z : State) (a0 : Array Value) (hw : ∀ d ∈ tables_1, d.before a0 Z = true) (ws : List Jvm.Cond) (o0 : Addr) (p1 : Int32) (p2 : Int32) (tr tc ts : Addr) (fe : Nat → own_E) (h0 : Heap) (n0 : Nat) (Z0 : n0 ≤ h0.size) (F_ranks_o0 : Fld Z h0 o0 "com/example/brisk_maze/briskmaze/search/RankedFrontier" "ranks" "[J" (.ref tr)) (F_costs_o0 : Fld Z h0 o0 "com/example/brisk_maze/briskmaze/search/RankedFrontier" "costs" "[I" (.ref tc)) (F_states_o0 : Fld Z h0 o0 "com/example/brisk_maze/briskmaze/search/RankedFrontier" "states" "[I" (.ref ts)) (E_o0 : Exa Z h0 o0 "com/example/brisk_maze/briskmaze/search/RankedFrontier") (A_tr : own_A Z h0 tr .long 64 (fun kk => (.long (fe kk).1))) (A_tc : own_A Z h0 tc .int 64 (fun kk => (.int (fe kk).2.1))) (A_ts : own_A Z h0 ts .int 64 (fun kk => (.int (fe kk).2.2))) (g_tr : n0 ≤ tr) (g_tc : n0 ≤ tc) (g_ts : n0 ≤ ts) (ne_o0_tr : o0 ≠ tr) (ne_o0_tc : o0 ≠ tc) (ne_o0_ts : o0 ≠ ts) (ne_tr_tc : tr ≠ tc) (ne_tr_ts : tr ≠ ts) (ne_tc_ts : tc ≠ ts) (hix1 : 0 ≤ (p1 : Int32).toInt ∧ (p1 : Int32).toInt < (64 : Nat)) (hix2 : 0 ≤ (p2 : Int32).toInt ∧ (p2 : Int32).toInt < (64 : Nat)) :
    MetFree l (⟨"com/example/brisk_maze/briskmaze/search/RankedFrontier", "move", "(II)V"⟩ : MethodName) (head1 (Jvm.Cond.code (⟨"com/example/brisk_maze/briskmaze/search/RankedFrontier", "move", "(II)V"⟩ : MethodName) prog_53_method_7_code 3 none :: ws) ({ frames := 1, cells := 0, slots := 0, locals := 17 } : Room)) (fun a U => a = #[(.ref o0), (.int p1), (.int p2)] ∧ Z.Warmed39 U.vm ∧ U.heap = h0) (fun _ _ _ _ _ => True) (fun _ U o U' => ∃ v L, o = .returned v ∧ Q13 Z o0 p1 p2 tr tc ts fe h0 n0 v U'.heap L ∧ FrameEnd U o U' L ({ frames := 1, cells := 0, slots := 0, locals := 17 } : Room).cells ({ frames := 1, cells := 0, slots := 0, locals := 17 } : Room).slots) := by
  refine MetFree.of_bodySF (plainFor_of_name pn_0) hisR ?_
  intro p e s m args below meth c s₁ Bd hml0 hP hK
  obtain ⟨rfl, hZ, hh⟩ := hP
  have hx := Bd.exec
  have hby := Bd.bytes
  have hml : c.maxLocals = 3 := hml0
  have hown : s.vm.findClass "com/example/brisk_maze/briskmaze/search/RankedFrontier" = some m.cls := findClass_of_methodNamed Bd.named
  have hnm := (name_of_methodNamed Bd.named Bd.method).1
  have X0 : Stand p l e ({ frames := 1, cells := 0, slots := 0, locals := 17 } : Room) s m #[(.ref o0), (.int p1), (.int p2)] below meth c s₁ [] 0 0 := Stand.of_body Bd
  have e0 : s₁.heap = h0 := by rw [← hh, Bd.state]; rfl
  have N0 := Fr.nil n0
  have pre0 : ∀ t, Steps p.tables e below (s₁.setTop (mkF m 0 #[.val (.ref o0), .val (.int p1), .val (.int p2)] [])) t → Steps p.tables e below (s₁.setTop (entryFrame m #[(.ref o0), (.int p1), (.int p2)] 3)) t := fun t k => castTop (ef_13 m o0 p1 p2) k
  obtain ⟨T1, X1, e1, st1⟩ := getF X0 hx hZ hown (host := "") (Or.inl (hw _ (List.mem_of_getElem? (i := 18) rfl))) Via.refl e0 F_ranks_o0 (g := (mkF m 3 #[.val (.ref o0), .val (.int p1), .val (.int p2)] [(.ref o0), (.int p2), (.ref o0)])) rfl rfl (hb hby d13_3)
  have qa2 := A_tr
  obtain ⟨c2, Ar2, Sz2, H2⟩ := qa2
  have hi3 : 0 ≤ (p1 : Int32).toInt ∧ (p1 : Int32).toInt < (64 : Nat) := hix1
  have hl3 : c2.slots[(p1 : Int32).toNatClampNeg]? = some (.long ((fe (p1 : Int32).toNatClampNeg).1)) := H2 _ (own_ix hi3)
  obtain ⟨T4, X4, e4, st4⟩ := getF X1 hx hZ hown (host := "") (Or.inl (hw _ (List.mem_of_getElem? (i := 20) rfl))) Via.refl e1 F_costs_o0 (g := (mkF m 9 #[.val (.ref o0), .val (.int p1), .val (.int p2)] [(.ref o0), (.long ((fe (p1 : Int32).toNatClampNeg).1)), (.int p2), (.ref o0)])) rfl rfl (hb hby d13_9)
  have qa5 := A_tc
  obtain ⟨c5, Ar5, Sz5, H5⟩ := qa5
  have hi6 : 0 ≤ (p1 : Int32).toInt ∧ (p1 : Int32).toInt < (64 : Nat) := hix1
  have hl6 : c5.slots[(p1 : Int32).toNatClampNeg]? = some (.int ((fe (p1 : Int32).toNatClampNeg).2.1)) := H5 _ (own_ix hi6)
  obtain ⟨T7, X7, e7, st7⟩ := getF X4 hx hZ hown (host := "") (Or.inl (hw _ (List.mem_of_getElem? (i := 22) rfl))) Via.refl e4 F_states_o0 (g := (mkF m 15 #[.val (.ref o0), .val (.int p1), .val (.int p2)] [(.ref o0), (.int ((fe (p1 : Int32).toNatClampNeg).2.1)), (.long ((fe (p1 : Int32).toNatClampNeg).1)), (.int p2), (.ref o0)])) rfl rfl (hb hby d13_15)
  have qa8 := A_ts
  obtain ⟨c8, Ar8, Sz8, H8⟩ := qa8
  have hi9 : 0 ≤ (p1 : Int32).toInt ∧ (p1 : Int32).toInt < (64 : Nat) := hix1
  have hl9 : c8.slots[(p1 : Int32).toNatClampNeg]? = some (.int ((fe (p1 : Int32).toNatClampNeg).2.2)) := H8 _ (own_ix hi9)
  obtain ⟨cq10, q10, q10'⟩ := (E_o0).cell
  obtain ⟨_, _, ⟨T10, L10, k10, n10⟩, -, X10, ⟨Lc10, hQ10, l10, y10, z10⟩, st10⟩ := X7.privateBack hx (y := (⟨"com/example/brisk_maze/briskmaze/search/RankedFrontier", "place", "(IJII)V"⟩ : MethodName)) hown (mvT hZ (hw _ (List.mem_of_getElem? (i := 31) rfl))) (mvT hZ (hw _ (List.mem_of_getElem? (i := 32) rfl))) (own_selp (y := (⟨"com/example/brisk_maze/briskmaze/search/RankedFrontier", "place", "(IJII)V"⟩ : MethodName)) (mvT hZ (hw _ (List.mem_of_getElem? (i := 10) rfl))) (Cond.privateMethod_at (mvP hZ (hw _ (List.mem_of_getElem? (i := 33) rfl)) (args := #[]))) (mvT hZ (hw _ (List.mem_of_getElem? (i := 32) rfl))) (by decide)) (Cond.privateMethod_at (mvP hZ (hw _ (List.mem_of_getElem? (i := 33) rfl)) (args := #[]))) (mvT hZ (hw _ (List.mem_of_getElem? (i := 34) rfl))) (by decide) (backOf (W := 0) (rm6 l Z a0 hw [] o0 p2 ((fe (p1 : Int32).toNatClampNeg).1) ((fe (p1 : Int32).toNatClampNeg).2.1) ((fe (p1 : Int32).toNatClampNeg).2.2) tr tc ts fe h0 n0 Z0 F_ranks_o0 F_costs_o0 F_states_o0 A_tr A_tc A_ts g_tr g_tc g_ts ne_o0_tr ne_o0_tc ne_o0_ts ne_tr_tc ne_tr_ts ne_tc_ts hix2) hZ (hw _ (List.mem_of_getElem? (i := 34) rfl)) (hw _ (List.mem_of_getElem? (i := 11) rfl)) (by decide) (by decide)) (g := (mkF m 20 #[.val (.ref o0), .val (.int p1), .val (.int p2)] [(.int ((fe (p1 : Int32).toNatClampNeg).2.2)), (.int ((fe (p1 : Int32).toNatClampNeg).2.1)), (.long ((fe (p1 : Int32).toNatClampNeg).1)), (.int p2), (.ref o0)])) rfl (by rw [hml]; rfl) (Steps.refl _) (a := o0) (by rw [e7]; exact q10) q10' (argsL := [(.int p2), (.long ((fe (p1 : Int32).toNatClampNeg).1)), (.int ((fe (p1 : Int32).toNatClampNeg).2.1)), (.int ((fe (p1 : Int32).toNatClampNeg).2.2))]) (rest := []) (lenOf pd_1 rfl) rfl (by show 2 * 0 + _ ≤ _; exact Nat.le_of_eq rfl) (hb hby d13_20) (fun _ _ => ⟨rfl, e7, (by decide : 0 + 0 ≤ _), (by decide : 0 + 0 ≤ _)⟩)
  dsimp only [Pt.U, Pt.locs, Pt.cells, Pt.slots] at X10 l10 y10 z10 st10 hQ10
  subst y10 z10
  obtain ⟨rfl, N10q, Kc10, P10_0, P10_1, P10_2⟩ := hQ10
  have N10 := Fr.app N0 N10q
  rw [← l10] at N10
  have F_ranks_o0_11 : Fld Z T10.heap o0 "com/example/brisk_maze/briskmaze/search/RankedFrontier" "ranks" "[J" (.ref tr) := (F_ranks_o0).keep Kc10 (ninS ne_o0_tr (ninS ne_o0_tc (ninS ne_o0_ts nin0)))
  have F_costs_o0_11 : Fld Z T10.heap o0 "com/example/brisk_maze/briskmaze/search/RankedFrontier" "costs" "[I" (.ref tc) := (F_costs_o0).keep Kc10 (ninS ne_o0_tr (ninS ne_o0_tc (ninS ne_o0_ts nin0)))
  have F_states_o0_11 : Fld Z T10.heap o0 "com/example/brisk_maze/briskmaze/search/RankedFrontier" "states" "[I" (.ref ts) := (F_states_o0).keep Kc10 (ninS ne_o0_tr (ninS ne_o0_tc (ninS ne_o0_ts nin0)))
  have E_o0_11 : Exa Z T10.heap o0 "com/example/brisk_maze/briskmaze/search/RankedFrontier" := (E_o0).keep Kc10
  have SZ12 : h0.size ≤ T10.heap.size := Nat.le_trans (Nat.le_refl _) Kc10.1
  have ZZ12 : n0 ≤ T10.heap.size := Nat.le_trans Z0 SZ12
  have K13 : Keep h0 T10.heap [tr, tc, ts] := ((Keep.refl h0 [tr, tc, ts])).trans Kc10 (allS (Or.inl (List.mem_of_getElem? (i := 0) rfl)) (allS (Or.inl (List.mem_of_getElem? (i := 1) rfl)) (allS (Or.inl (List.mem_of_getElem? (i := 2) rfl)) all0)))
  have pre14 : ∀ t, Steps p.tables e below (T10.setTop (mkF m 23 #[.val (.ref o0), .val (.int p1), .val (.int p2)] [])) t → Steps p.tables e below (s₁.setTop (entryFrame m #[(.ref o0), (.int p1), (.int p2)] 3)) t := fun t k => pre0 t (by
    show Steps p.tables e below (s₁.setTop (mkF m 0 #[.val (.ref o0), .val (.int p1), .val (.int p2)] [])) _
    refine XS.aloadN X0.here hx rfl (hb hby d13_0) rfl rfl ?_
    show Steps p.tables e below (s₁.setTop (mkF m 1 #[.val (.ref o0), .val (.int p1), .val (.int p2)] [(.ref o0)])) _
    refine XS.iloadN X0.here hx rfl (hb hby d13_1) rfl ?_
    show Steps p.tables e below (s₁.setTop (mkF m 2 #[.val (.ref o0), .val (.int p1), .val (.int p2)] [(.int p2), (.ref o0)])) _
    refine XS.aloadN X0.here hx rfl (hb hby d13_2) rfl rfl ?_
    show Steps p.tables e below (s₁.setTop (mkF m 3 #[.val (.ref o0), .val (.int p1), .val (.int p2)] [(.ref o0), (.int p2), (.ref o0)])) _
    refine st1 _ ?_
    show Steps p.tables e below (T1.setTop (mkF m 6 #[.val (.ref o0), .val (.int p1), .val (.int p2)] [(.ref tr), (.int p2), (.ref o0)])) _
    refine XS.iloadN X1.here hx rfl (hb hby d13_6) rfl ?_
    show Steps p.tables e below (T1.setTop (mkF m 7 #[.val (.ref o0), .val (.int p1), .val (.int p2)] [(.int p1), (.ref tr), (.int p2), (.ref o0)])) _
    refine X1.laload hx (j := p1) (v := (.long ((fe (p1 : Int32).toNatClampNeg).1))) (by rw [e1]; exact Ar2.1) (State.isArrayOf_alike hZ.alike Ar2.2.1) Ar2.2.2 (own_in Sz2 hi3) hl3 (g := (mkF m 7 #[.val (.ref o0), .val (.int p1), .val (.int p2)] [(.int p1), (.ref tr), (.int p2), (.ref o0)])) rfl rfl (hb hby d13_7) _ ?_
    show Steps p.tables e below (T1.setTop (mkF m 8 #[.val (.ref o0), .val (.int p1), .val (.int p2)] [(.long ((fe (p1 : Int32).toNatClampNeg).1)), (.int p2), (.ref o0)])) _
    refine XS.aloadN X1.here hx rfl (hb hby d13_8) rfl rfl ?_
    show Steps p.tables e below (T1.setTop (mkF m 9 #[.val (.ref o0), .val (.int p1), .val (.int p2)] [(.ref o0), (.long ((fe (p1 : Int32).toNatClampNeg).1)), (.int p2), (.ref o0)])) _
    refine st4 _ ?_
    show Steps p.tables e below (T4.setTop (mkF m 12 #[.val (.ref o0), .val (.int p1), .val (.int p2)] [(.ref tc), (.long ((fe (p1 : Int32).toNatClampNeg).1)), (.int p2), (.ref o0)])) _
    refine XS.iloadN X4.here hx rfl (hb hby d13_12) rfl ?_
    show Steps p.tables e below (T4.setTop (mkF m 13 #[.val (.ref o0), .val (.int p1), .val (.int p2)] [(.int p1), (.ref tc), (.long ((fe (p1 : Int32).toNatClampNeg).1)), (.int p2), (.ref o0)])) _
    refine X4.iaload hx (j := p1) (v := (.int ((fe (p1 : Int32).toNatClampNeg).2.1))) (by rw [e4]; exact Ar5.1) (State.isArrayOf_alike hZ.alike Ar5.2.1) Ar5.2.2 (own_in Sz5 hi6) hl6 (g := (mkF m 13 #[.val (.ref o0), .val (.int p1), .val (.int p2)] [(.int p1), (.ref tc), (.long ((fe (p1 : Int32).toNatClampNeg).1)), (.int p2), (.ref o0)])) rfl rfl (hb hby d13_13) _ ?_
    show Steps p.tables e below (T4.setTop (mkF m 14 #[.val (.ref o0), .val (.int p1), .val (.int p2)] [(.int ((fe (p1 : Int32).toNatClampNeg).2.1)), (.long ((fe (p1 : Int32).toNatClampNeg).1)), (.int p2), (.ref o0)])) _
    refine XS.aloadN X4.here hx rfl (hb hby d13_14) rfl rfl ?_
    show Steps p.tables e below (T4.setTop (mkF m 15 #[.val (.ref o0), .val (.int p1), .val (.int p2)] [(.ref o0), (.int ((fe (p1 : Int32).toNatClampNeg).2.1)), (.long ((fe (p1 : Int32).toNatClampNeg).1)), (.int p2), (.ref o0)])) _
    refine st7 _ ?_
    show Steps p.tables e below (T7.setTop (mkF m 18 #[.val (.ref o0), .val (.int p1), .val (.int p2)] [(.ref ts), (.int ((fe (p1 : Int32).toNatClampNeg).2.1)), (.long ((fe (p1 : Int32).toNatClampNeg).1)), (.int p2), (.ref o0)])) _
    refine XS.iloadN X7.here hx rfl (hb hby d13_18) rfl ?_
    show Steps p.tables e below (T7.setTop (mkF m 19 #[.val (.ref o0), .val (.int p1), .val (.int p2)] [(.int p1), (.ref ts), (.int ((fe (p1 : Int32).toNatClampNeg).2.1)), (.long ((fe (p1 : Int32).toNatClampNeg).1)), (.int p2), (.ref o0)])) _
    refine X7.iaload hx (j := p1) (v := (.int ((fe (p1 : Int32).toNatClampNeg).2.2))) (by rw [e7]; exact Ar8.1) (State.isArrayOf_alike hZ.alike Ar8.2.1) Ar8.2.2 (own_in Sz8 hi9) hl9 (g := (mkF m 19 #[.val (.ref o0), .val (.int p1), .val (.int p2)] [(.int p1), (.ref ts), (.int ((fe (p1 : Int32).toNatClampNeg).2.1)), (.long ((fe (p1 : Int32).toNatClampNeg).1)), (.int p2), (.ref o0)])) rfl rfl (hb hby d13_19) _ ?_
    show Steps p.tables e below (T7.setTop (mkF m 20 #[.val (.ref o0), .val (.int p1), .val (.int p2)] [(.int ((fe (p1 : Int32).toNatClampNeg).2.2)), (.int ((fe (p1 : Int32).toNatClampNeg).2.1)), (.long ((fe (p1 : Int32).toNatClampNeg).1)), (.int p2), (.ref o0)])) _
    refine st10.trans ?_
    show Steps p.tables e below (T10.setTop (mkF m 23 #[.val (.ref o0), .val (.int p1), .val (.int p2)] [])) _
    exact k)
  obtain ⟨fs, hr, hrun, hended, hW, hsame⟩ := X10.leave (v := none) (fun _ => rfl)
  refine ⟨_, _, pre14 _ ?_, hrun, hended, _, _, rfl, ?_, ⟨_, rfl⟩, hW, hsame.mono (by decide) (by decide)⟩
  · exact X10.returnOut hx Bd.returns (hb hby d13_23) hr
  · show Q13 Z o0 p1 p2 tr tc ts fe h0 n0 _ T10.heap _
    skip
    exact ⟨rfl, N10, K13, P10_0, P10_1, P10_2⟩
theorem d10_0 : decode prog_53_method_2_code 0 = .ok (.aload_n 0, 1) := by decide +kernel
theorem d10_1 : decode prog_53_method_2_code 1 = .ok (.getfield 20, 3) := by decide +kernel
theorem d10_4 : decode prog_53_method_2_code 4 = .ok (.ifCond .ne 7, 3) := by decide +kernel
theorem d10_7 : decode prog_53_method_2_code 7 = .ok (.iconst 1, 1) := by decide +kernel
theorem d10_8 : decode prog_53_method_2_code 8 = .ok (.goto 4, 3) := by decide +kernel
theorem d10_11 : decode prog_53_method_2_code 11 = .ok (.iconst 0, 1) := by decide +kernel
theorem d10_12 : decode prog_53_method_2_code 12 = .ok (.ireturn, 1) := by decide +kernel
theorem ef_10 (m : MethodId) (o0 : Addr) : entryFrame m #[(.ref o0)] 1 = mkF m 0 #[.val (.ref o0)] [] := by first | (simp [entryFrame, mkF, argsToLocals, Value.category]; done) | rfl
def f10_12 (w : Int32) : Int32 := (if w = (0 : Int32) then (1 : Int32) else (0 : Int32))

def Q10 (Z : State) (o0 : Addr) (w : Int32) (h0 : Heap) (n0 : Nat) (v : Option Value) (h : Heap) (L : List Loc) : Prop := v = some (.int ((f10_12 w) &&& 1)) ∧ Fr n0 L ∧ h = h0
set_option maxRecDepth 65536 in
set_option maxHeartbeats 40000000 in
theorem rm10 (l : Launch) (Z : State) (a0 : Array Value) (hw : ∀ d ∈ tables_1, d.before a0 Z = true) (ws : List Jvm.Cond) (o0 : Addr) (w : Int32) (h0 : Heap) (n0 : Nat) (Z0 : n0 ≤ h0.size) (F_size_o0 : Fld Z h0 o0 "com/example/brisk_maze/briskmaze/search/RankedFrontier" "size" "I" (.int w)) :
    MetFree l (⟨"com/example/brisk_maze/briskmaze/search/RankedFrontier", "isEmpty", "()Z"⟩ : MethodName) (head1 (Jvm.Cond.code (⟨"com/example/brisk_maze/briskmaze/search/RankedFrontier", "isEmpty", "()Z"⟩ : MethodName) prog_53_method_2_code 1 (some .boolean) :: ws) ({ frames := 0, cells := 0, slots := 0, locals := 0 } : Room)) (fun a U => a = #[(.ref o0)] ∧ Z.Warmed39 U.vm ∧ U.heap = h0) (fun _ _ _ _ _ => True) (fun _ U o U' => ∃ v L, o = .returned v ∧ Q10 Z o0 w h0 n0 v U'.heap L ∧ FrameEnd U o U' L ({ frames := 0, cells := 0, slots := 0, locals := 0 } : Room).cells ({ frames := 0, cells := 0, slots := 0, locals := 0 } : Room).slots) := by
  refine MetFree.of_bodySF (plainFor_of_name pn_0) hisR ?_
  intro p e s m args below meth c s₁ Bd hml0 hP hK
  obtain ⟨rfl, hZ, hh⟩ := hP
  have hx := Bd.exec
  have hby := Bd.bytes
  have hml : c.maxLocals = 1 := hml0
  have hown : s.vm.findClass "com/example/brisk_maze/briskmaze/search/RankedFrontier" = some m.cls := findClass_of_methodNamed Bd.named
  have hnm := (name_of_methodNamed Bd.named Bd.method).1
  have X0 : Stand p l e ({ frames := 0, cells := 0, slots := 0, locals := 0 } : Room) s m #[(.ref o0)] below meth c s₁ [] 0 0 := Stand.of_body Bd
  have e0 : s₁.heap = h0 := by rw [← hh, Bd.state]; rfl
  have N0 := Fr.nil n0
  have pre0 : ∀ t, Steps p.tables e below (s₁.setTop (mkF m 0 #[.val (.ref o0)] [])) t → Steps p.tables e below (s₁.setTop (entryFrame m #[(.ref o0)] 1)) t := fun t k => castTop (ef_10 m o0) k
  obtain ⟨T1, X1, e1, st1⟩ := getF X0 hx hZ hown (host := "") (Or.inl (hw _ (List.mem_of_getElem? (i := 29) rfl))) Via.refl e0 F_size_o0 (g := (mkF m 1 #[.val (.ref o0)] [(.ref o0)])) rfl rfl (hb hby d10_1)
  have pre2 : ∀ t, Steps p.tables e below (T1.setTop (mkF m 4 #[.val (.ref o0)] [(.int w)])) t → Steps p.tables e below (s₁.setTop (entryFrame m #[(.ref o0)] 1)) t := fun t k => pre0 t (by
    show Steps p.tables e below (s₁.setTop (mkF m 0 #[.val (.ref o0)] [])) _
    refine XS.aloadN X0.here hx rfl (hb hby d10_0) rfl rfl ?_
    show Steps p.tables e below (s₁.setTop (mkF m 1 #[.val (.ref o0)] [(.ref o0)])) _
    refine st1 _ ?_
    show Steps p.tables e below (T1.setTop (mkF m 4 #[.val (.ref o0)] [(.int w)])) _
    exact k)
  have pre4 : ∀ t, Steps p.tables e below (T1.setTop (mkF m 12 #[.val (.ref o0)] [(.int (f10_12 w))])) t → Steps p.tables e below (s₁.setTop (entryFrame m #[(.ref o0)] 1)) t := fun t k => pre2 t (by
    by_cases hf3 : w = (0 : Int32)
    · refine XS.ifNo X1.here hx rfl (hb hby d10_4) rfl ((if0 _ _).trans (teq hf3).2) ?_
      show Steps p.tables e below (T1.setTop (mkF m 7 #[.val (.ref o0)] [])) _
      refine XS.iconst X1.here hx rfl (hb hby d10_7) ?_
      show Steps p.tables e below (T1.setTop (mkF m 8 #[.val (.ref o0)] [(.int (1 : Int32))])) _
      refine XS.goto X1.here hx rfl (pc0 := 8) (pc' := 12) rfl (hb hby d10_8) (by decide) (by decide) ?_
      show Steps p.tables e below (T1.setTop (mkF m 12 #[.val (.ref o0)] [(.int (1 : Int32))])) _
      rw [show (f10_12 w) = ((1 : Int32) : Int32) from by simp only [f10_12, if_pos hf3]] at k
      exact k
    · refine XS.ifYes X1.here hx rfl (pc0 := 4) (pc' := 11) rfl (hb hby d10_4) rfl ((if0 _ _).trans (feq hf3).2) (by decide) (by decide) ?_
      show Steps p.tables e below (T1.setTop (mkF m 11 #[.val (.ref o0)] [])) _
      refine XS.iconst X1.here hx rfl (hb hby d10_11) ?_
      show Steps p.tables e below (T1.setTop (mkF m 12 #[.val (.ref o0)] [(.int (0 : Int32))])) _
      rw [show (f10_12 w) = ((0 : Int32) : Int32) from by simp only [f10_12, if_neg hf3]] at k
      exact k)
  obtain ⟨fs, hr, hrun, hended, hW, hsame⟩ := X1.leave (v := some (.int ((f10_12 w) &&& 1))) (fun h => by rw [Bd.returns] at h; cases h)
  refine ⟨_, _, pre4 _ ?_, hrun, hended, _, _, rfl, ?_, ⟨_, rfl⟩, hW, hsame.mono (by decide) (by decide)⟩
  · exact retN X1 hx (t := .boolean) Bd.returns (by simp) (hb hby d10_12) hr
  · show Q10 Z o0 w h0 n0 _ T1.heap _
    rw [e1]
    exact ⟨rfl, N0, rfl⟩
theorem d3_0 : decode prog_53_method_1_code 0 = .ok (.aload_n 0, 1) := by decide +kernel
theorem d3_1 : decode prog_53_method_1_code 1 = .ok (.invokespecial 1, 3) := by decide +kernel
theorem d3_4 : decode prog_53_method_1_code 4 = .ok (.aload_n 0, 1) := by decide +kernel
theorem d3_5 : decode prog_53_method_1_code 5 = .ok (.bipush 64, 2) := by decide +kernel
theorem d3_7 : decode prog_53_method_1_code 7 = .ok (.newarray .long, 2) := by decide +kernel
theorem d3_9 : decode prog_53_method_1_code 9 = .ok (.putfield 9, 3) := by decide +kernel
theorem d3_12 : decode prog_53_method_1_code 12 = .ok (.aload_n 0, 1) := by decide +kernel
theorem d3_13 : decode prog_53_method_1_code 13 = .ok (.bipush 64, 2) := by decide +kernel
theorem d3_15 : decode prog_53_method_1_code 15 = .ok (.newarray .int, 2) := by decide +kernel
theorem d3_17 : decode prog_53_method_1_code 17 = .ok (.putfield 13, 3) := by decide +kernel
theorem d3_20 : decode prog_53_method_1_code 20 = .ok (.aload_n 0, 1) := by decide +kernel
theorem d3_21 : decode prog_53_method_1_code 21 = .ok (.bipush 64, 2) := by decide +kernel
theorem d3_23 : decode prog_53_method_1_code 23 = .ok (.newarray .int, 2) := by decide +kernel
theorem d3_25 : decode prog_53_method_1_code 25 = .ok (.putfield 17, 3) := by decide +kernel
theorem d3_28 : decode prog_53_method_1_code 28 = .ok (.return_, 1) := by decide +kernel
theorem ef_3 (m : MethodId) (o0 : Addr) : entryFrame m #[(.ref o0)] 1 = mkF m 0 #[.val (.ref o0)] [] := by first | (simp [entryFrame, mkF, argsToLocals, Value.category]; done) | rfl

def Q3 (Z : State) (o0 : Addr) (h0 : Heap) (n0 : Nat) (v : Option Value) (h : Heap) (L : List Loc) : Prop := ∃ (tr : Addr) (tc : Addr) (ts : Addr), v = none ∧ Fr n0 L ∧ Keep h0 h [o0] ∧ h0.size ≤ tr ∧ h0.size ≤ tc ∧ h0.size ≤ ts ∧ tr ≠ tc ∧ tr ≠ ts ∧ tc ≠ ts ∧ (Fld Z h o0 "com/example/brisk_maze/briskmaze/search/RankedFrontier" "ranks" "[J" (.ref tr)) ∧ (Fld Z h o0 "com/example/brisk_maze/briskmaze/search/RankedFrontier" "costs" "[I" (.ref tc)) ∧ (Fld Z h o0 "com/example/brisk_maze/briskmaze/search/RankedFrontier" "states" "[I" (.ref ts)) ∧ (Fld Z h o0 "com/example/brisk_maze/briskmaze/search/RankedFrontier" "size" "I" (.int (0 : Int32))) ∧ (own_A Z h tr .long 64 (fun kk => (.long ((fun _ => ((0 : Int64), (0 : Int32), (0 : Int32))) kk).1))) ∧ (own_A Z h tc .int 64 (fun kk => (.int ((fun _ => ((0 : Int64), (0 : Int32), (0 : Int32))) kk).2.1))) ∧ (own_A Z h ts .int 64 (fun kk => (.int ((fun _ => ((0 : Int64), (0 : Int32), (0 : Int32))) kk).2.2)))
set_option maxRecDepth 65536 in
set_option maxHeartbeats 40000000 in
theorem rm3 (l : Launch) (Z : State) (a0 : Array Value) (hw : ∀ d ∈ tables_1, d.before a0 Z = true) (ws : List Jvm.Cond) (o0 : Addr) (h0 : Heap) (n0 : Nat) (Z0 : n0 ≤ h0.size) (F_ranks_o0 : Fld Z h0 o0 "com/example/brisk_maze/briskmaze/search/RankedFrontier" "ranks" "[J" .null) (F_costs_o0 : Fld Z h0 o0 "com/example/brisk_maze/briskmaze/search/RankedFrontier" "costs" "[I" .null) (F_states_o0 : Fld Z h0 o0 "com/example/brisk_maze/briskmaze/search/RankedFrontier" "states" "[I" .null) (E_o0 : Exa Z h0 o0 "com/example/brisk_maze/briskmaze/search/RankedFrontier") (F_size_o0 : Fld Z h0 o0 "com/example/brisk_maze/briskmaze/search/RankedFrontier" "size" "I" (.int (0 : Int32))) (g_o0 : n0 ≤ o0) :
    MetFree l (⟨"com/example/brisk_maze/briskmaze/search/RankedFrontier", "<init>", "()V"⟩ : MethodName) (head1 (Jvm.Cond.code (⟨"com/example/brisk_maze/briskmaze/search/RankedFrontier", "<init>", "()V"⟩ : MethodName) prog_53_method_1_code 1 none :: ws) ({ frames := 1, cells := 3, slots := 192, locals := 12 } : Room)) (fun a U => a = #[(.ref o0)] ∧ Z.Warmed39 U.vm ∧ U.heap = h0) (fun _ _ _ _ _ => True) (fun _ U o U' => ∃ v L, o = .returned v ∧ Q3 Z o0 h0 n0 v U'.heap L ∧ FrameEnd U o U' L ({ frames := 1, cells := 3, slots := 192, locals := 12 } : Room).cells ({ frames := 1, cells := 3, slots := 192, locals := 12 } : Room).slots) := by
  refine MetFree.of_bodySF (plainFor_of_name pn_0) hisR ?_
  intro p e s m args below meth c s₁ Bd hml0 hP hK
  obtain ⟨rfl, hZ, hh⟩ := hP
  have hx := Bd.exec
  have hby := Bd.bytes
  have hml : c.maxLocals = 1 := hml0
  have hown : s.vm.findClass "com/example/brisk_maze/briskmaze/search/RankedFrontier" = some m.cls := findClass_of_methodNamed Bd.named
  have hnm := (name_of_methodNamed Bd.named Bd.method).1
  have X0 : Stand p l e ({ frames := 1, cells := 3, slots := 192, locals := 12 } : Room) s m #[(.ref o0)] below meth c s₁ [] 0 0 := Stand.of_body Bd
  have e0 : s₁.heap = h0 := by rw [← hh, Bd.state]; rfl
  have N0 := Fr.nil n0
  have pre0 : ∀ t, Steps p.tables e below (s₁.setTop (mkF m 0 #[.val (.ref o0)] [])) t → Steps p.tables e below (s₁.setTop (entryFrame m #[(.ref o0)] 1)) t := fun t k => castTop (ef_3 m o0) k
  obtain ⟨T1, X1, e1, st1⟩ := initO X0 hx hZ hown (hw _ (List.mem_of_getElem? (i := 15) rfl)) (hw _ (List.mem_of_getElem? (i := 16) rfl)) (hw _ (List.mem_of_getElem? (i := 17) rfl)) e0 (g := (mkF m 1 #[.val (.ref o0)] [(.ref o0)])) rfl (by rw [hml]; rfl) rfl (hb hby d3_1) (by decide) (W := 0) (by show 2 * 0 + _ ≤ _; exact Nat.le_of_eq rfl) (by decide)
  obtain ⟨T2, h2, k2, X2, e2, Ex2, Ne2, st2⟩ := newP X1 hx hZ (hw _ (List.mem_of_getElem? (i := 0) rfl)) e1 (g := (mkF m 7 #[.val (.ref o0)] [(.int (64 : Int32)), (.ref o0)])) rfl (hb hby d3_7) rfl (by decide) (cap := 64) (by decide) (by decide) (by decide) (by decide)
  obtain ⟨b2, g2⟩ : ∃ z, z = h0.size := ⟨_, rfl⟩
  rw [← g2] at Ne2 st2
  have ne_o0_b2 : o0 ≠ b2 := by rw [g2]; exact Nat.ne_of_lt (F_ranks_o0).lt
  have g_b2 : n0 ≤ b2 := Nat.le_trans (Nat.le_trans Z0 (Nat.le_refl _)) (Nat.le_of_eq g2.symm)
  have sz_b2 : h0.size ≤ b2 := Nat.le_trans (Nat.le_refl _) (Nat.le_of_eq g2.symm)
  have F_ranks_o0_3 : Fld Z h2 o0 "com/example/brisk_maze/briskmaze/search/RankedFrontier" "ranks" "[J" .null := (F_ranks_o0).ext Ex2
  have F_costs_o0_3 : Fld Z h2 o0 "com/example/brisk_maze/briskmaze/search/RankedFrontier" "costs" "[I" .null := (F_costs_o0).ext Ex2
  have F_states_o0_3 : Fld Z h2 o0 "com/example/brisk_maze/briskmaze/search/RankedFrontier" "states" "[I" .null := (F_states_o0).ext Ex2
  have E_o0_3 : Exa Z h2 o0 "com/example/brisk_maze/briskmaze/search/RankedFrontier" := (E_o0).ext Ex2
  have F_size_o0_3 : Fld Z h2 o0 "com/example/brisk_maze/briskmaze/search/RankedFrontier" "size" "I" (.int (0 : Int32)) := (F_size_o0).ext Ex2
  have SZ4 : h0.size ≤ h2.size := Nat.le_trans (Nat.le_refl _) Ex2.1
  have ZZ4 : n0 ≤ h2.size := Nat.le_trans Z0 SZ4
  have K5 : Keep h0 h2 [o0] := ((Keep.refl h0 [o0])).ext Ex2
  have A_b2_2 : own_A Z h2 b2 .long 64 (fun kk => (.long (0 : Int64))) := own_A.new Ne2
  obtain ⟨T6, h6, X6, e6, W6, st6⟩ := putF X2 hx hZ hown (host := "") (Or.inl (hw _ (List.mem_of_getElem? (i := 18) rfl))) Via.refl e2 F_ranks_o0_3 E_o0_3 (Or.inl (hw _ (List.mem_of_getElem? (i := 19) rfl))) (hw _ (List.mem_of_getElem? (i := 10) rfl)) (ty := (.array .long)) (by decide) rfl rfl (g := (mkF m 9 #[.val (.ref o0)] [(.ref b2), (.ref o0)])) rfl rfl (hb hby d3_9)
  have N6 := Fr.snoc X6 N0 g_o0
  have F_ranks_o0_w6 : Fld Z h6 o0 "com/example/brisk_maze/briskmaze/search/RankedFrontier" "ranks" "[J" (.ref b2) := (F_ranks_o0_3).same W6
  have F_costs_o0_7 : Fld Z h6 o0 "com/example/brisk_maze/briskmaze/search/RankedFrontier" "costs" "[I" .null := (F_costs_o0_3).other W6 (Or.inr (slot_ne (Or.inl (hw _ (List.mem_of_getElem? (i := 21) rfl))) (Or.inl (hw _ (List.mem_of_getElem? (i := 19) rfl))) (by decide) (t := (.array .int)) (t' := (.array .long)) (by decide) (by decide)))
  have F_states_o0_7 : Fld Z h6 o0 "com/example/brisk_maze/briskmaze/search/RankedFrontier" "states" "[I" .null := (F_states_o0_3).other W6 (Or.inr (slot_ne (Or.inl (hw _ (List.mem_of_getElem? (i := 23) rfl))) (Or.inl (hw _ (List.mem_of_getElem? (i := 19) rfl))) (by decide) (t := (.array .int)) (t' := (.array .long)) (by decide) (by decide)))
  have E_o0_7 : Exa Z h6 o0 "com/example/brisk_maze/briskmaze/search/RankedFrontier" := (E_o0_3).wr W6
  have F_size_o0_7 : Fld Z h6 o0 "com/example/brisk_maze/briskmaze/search/RankedFrontier" "size" "I" (.int (0 : Int32)) := (F_size_o0_3).other W6 (Or.inr (slot_ne (Or.inl (hw _ (List.mem_of_getElem? (i := 30) rfl))) (Or.inl (hw _ (List.mem_of_getElem? (i := 19) rfl))) (by decide) (t := .int) (t' := (.array .long)) (by decide) (by decide)))
  have A_b2_7 : own_A Z h6 b2 .long 64 (fun kk => (.long (0 : Int64))) := (A_b2_2).other W6 (Ne.symm ne_o0_b2)
  have SZ8 : h0.size ≤ h6.size := by rw [W6.size]; exact SZ4
  have ZZ8 : n0 ≤ h6.size := Nat.le_trans Z0 SZ8
  have K9 : Keep h0 h6 [o0] := (K5).wr W6 (Or.inl (List.mem_of_getElem? (i := 0) rfl))
  obtain ⟨T10, h10, k10, X10, e10, Ex10, Ne10, st10⟩ := newP X6 hx hZ (hw _ (List.mem_of_getElem? (i := 1) rfl)) e6 (g := (mkF m 15 #[.val (.ref o0)] [(.int (64 : Int32)), (.ref o0)])) rfl (hb hby d3_15) rfl (by decide) (cap := 64) (by decide) (by decide) (by decide) (by decide)
  obtain ⟨b10, g10⟩ : ∃ z, z = h6.size := ⟨_, rfl⟩
  rw [← g10] at Ne10 st10
  have ne_o0_b10 : o0 ≠ b10 := by rw [g10]; exact Nat.ne_of_lt (F_costs_o0_7).lt
  have ne_b2_b10 : b2 ≠ b10 := by rw [g10]; exact Nat.ne_of_lt (A_b2_7).lt
  have g_b10 : n0 ≤ b10 := Nat.le_trans (Nat.le_trans Z0 SZ8) (Nat.le_of_eq g10.symm)
  have sz_b10 : h0.size ≤ b10 := Nat.le_trans SZ8 (Nat.le_of_eq g10.symm)
  have F_costs_o0_11 : Fld Z h10 o0 "com/example/brisk_maze/briskmaze/search/RankedFrontier" "costs" "[I" .null := (F_costs_o0_7).ext Ex10
  have F_states_o0_11 : Fld Z h10 o0 "com/example/brisk_maze/briskmaze/search/RankedFrontier" "states" "[I" .null := (F_states_o0_7).ext Ex10
  have E_o0_11 : Exa Z h10 o0 "com/example/brisk_maze/briskmaze/search/RankedFrontier" := (E_o0_7).ext Ex10
  have F_size_o0_11 : Fld Z h10 o0 "com/example/brisk_maze/briskmaze/search/RankedFrontier" "size" "I" (.int (0 : Int32)) := (F_size_o0_7).ext Ex10
  have A_b2_11 : own_A Z h10 b2 .long 64 (fun kk => (.long (0 : Int64))) := (A_b2_7).ext Ex10
  have F_ranks_o0_11 : Fld Z h10 o0 "com/example/brisk_maze/briskmaze/search/RankedFrontier" "ranks" "[J" (.ref b2) := (F_ranks_o0_w6).ext Ex10
  have SZ12 : h0.size ≤ h10.size := Nat.le_trans SZ8 Ex10.1
  have ZZ12 : n0 ≤ h10.size := Nat.le_trans Z0 SZ12
  have K13 : Keep h0 h10 [o0] := (K9).ext Ex10
  have A_b10_10 : own_A Z h10 b10 .int 64 (fun kk => (.int (0 : Int32))) := own_A.new Ne10
  obtain ⟨T14, h14, X14, e14, W14, st14⟩ := putF X10 hx hZ hown (host := "") (Or.inl (hw _ (List.mem_of_getElem? (i := 20) rfl))) Via.refl e10 F_costs_o0_11 E_o0_11 (Or.inl (hw _ (List.mem_of_getElem? (i := 21) rfl))) (hw _ (List.mem_of_getElem? (i := 10) rfl)) (ty := (.array .int)) (by decide) rfl rfl (g := (mkF m 17 #[.val (.ref o0)] [(.ref b10), (.ref o0)])) rfl rfl (hb hby d3_17)
  have N14 := Fr.snoc X14 N6 g_o0
  have F_costs_o0_w14 : Fld Z h14 o0 "com/example/brisk_maze/briskmaze/search/RankedFrontier" "costs" "[I" (.ref b10) := (F_costs_o0_11).same W14
  have F_states_o0_15 : Fld Z h14 o0 "com/example/brisk_maze/briskmaze/search/RankedFrontier" "states" "[I" .null := (F_states_o0_11).other W14 (Or.inr (slot_ne (Or.inl (hw _ (List.mem_of_getElem? (i := 23) rfl))) (Or.inl (hw _ (List.mem_of_getElem? (i := 21) rfl))) (by decide) (t := (.array .int)) (t' := (.array .int)) (by decide) (by decide)))
  have E_o0_15 : Exa Z h14 o0 "com/example/brisk_maze/briskmaze/search/RankedFrontier" := (E_o0_11).wr W14
  have F_size_o0_15 : Fld Z h14 o0 "com/example/brisk_maze/briskmaze/search/RankedFrontier" "size" "I" (.int (0 : Int32)) := (F_size_o0_11).other W14 (Or.inr (slot_ne (Or.inl (hw _ (List.mem_of_getElem? (i := 30) rfl))) (Or.inl (hw _ (List.mem_of_getElem? (i := 21) rfl))) (by decide) (t := .int) (t' := (.array .int)) (by decide) (by decide)))
  have A_b2_15 : own_A Z h14 b2 .long 64 (fun kk => (.long (0 : Int64))) := (A_b2_11).other W14 (Ne.symm ne_o0_b2)
  have F_ranks_o0_15 : Fld Z h14 o0 "com/example/brisk_maze/briskmaze/search/RankedFrontier" "ranks" "[J" (.ref b2) := (F_ranks_o0_11).other W14 (Or.inr (slot_ne (Or.inl (hw _ (List.mem_of_getElem? (i := 19) rfl))) (Or.inl (hw _ (List.mem_of_getElem? (i := 21) rfl))) (by decide) (t := (.array .long)) (t' := (.array .int)) (by decide) (by decide)))
  have A_b10_15 : own_A Z h14 b10 .int 64 (fun kk => (.int (0 : Int32))) := (A_b10_10).other W14 (Ne.symm ne_o0_b10)
  have SZ16 : h0.size ≤ h14.size := by rw [W14.size]; exact SZ12
  have ZZ16 : n0 ≤ h14.size := Nat.le_trans Z0 SZ16
  have K17 : Keep h0 h14 [o0] := (K13).wr W14 (Or.inl (List.mem_of_getElem? (i := 0) rfl))
  obtain ⟨T18, h18, k18, X18, e18, Ex18, Ne18, st18⟩ := newP X14 hx hZ (hw _ (List.mem_of_getElem? (i := 1) rfl)) e14 (g := (mkF m 23 #[.val (.ref o0)] [(.int (64 : Int32)), (.ref o0)])) rfl (hb hby d3_23) rfl (by decide) (cap := 64) (by decide) (by decide) (by decide) (by decide)
  obtain ⟨b18, g18⟩ : ∃ z, z = h14.size := ⟨_, rfl⟩
  rw [← g18] at Ne18 st18
  have ne_o0_b18 : o0 ≠ b18 := by rw [g18]; exact Nat.ne_of_lt (F_states_o0_15).lt
  have ne_b2_b18 : b2 ≠ b18 := by rw [g18]; exact Nat.ne_of_lt (A_b2_15).lt
  have ne_b10_b18 : b10 ≠ b18 := by rw [g18]; exact Nat.ne_of_lt (A_b10_15).lt
  have g_b18 : n0 ≤ b18 := Nat.le_trans (Nat.le_trans Z0 SZ16) (Nat.le_of_eq g18.symm)
  have sz_b18 : h0.size ≤ b18 := Nat.le_trans SZ16 (Nat.le_of_eq g18.symm)
  have F_states_o0_19 : Fld Z h18 o0 "com/example/brisk_maze/briskmaze/search/RankedFrontier" "states" "[I" .null := (F_states_o0_15).ext Ex18
  have E_o0_19 : Exa Z h18 o0 "com/example/brisk_maze/briskmaze/search/RankedFrontier" := (E_o0_15).ext Ex18
  have F_size_o0_19 : Fld Z h18 o0 "com/example/brisk_maze/briskmaze/search/RankedFrontier" "size" "I" (.int (0 : Int32)) := (F_size_o0_15).ext Ex18
  have A_b2_19 : own_A Z h18 b2 .long 64 (fun kk => (.long (0 : Int64))) := (A_b2_15).ext Ex18
  have F_ranks_o0_19 : Fld Z h18 o0 "com/example/brisk_maze/briskmaze/search/RankedFrontier" "ranks" "[J" (.ref b2) := (F_ranks_o0_15).ext Ex18
  have A_b10_19 : own_A Z h18 b10 .int 64 (fun kk => (.int (0 : Int32))) := (A_b10_15).ext Ex18
  have F_costs_o0_19 : Fld Z h18 o0 "com/example/brisk_maze/briskmaze/search/RankedFrontier" "costs" "[I" (.ref b10) := (F_costs_o0_w14).ext Ex18
  have SZ20 : h0.size ≤ h18.size := Nat.le_trans SZ16 Ex18.1
  have ZZ20 : n0 ≤ h18.size := Nat.le_trans Z0 SZ20
  have K21 : Keep h0 h18 [o0] := (K17).ext Ex18
  have A_b18_18 : own_A Z h18 b18 .int 64 (fun kk => (.int (0 : Int32))) := own_A.new Ne18
  obtain ⟨T22, h22, X22, e22, W22, st22⟩ := putF X18 hx hZ hown (host := "") (Or.inl (hw _ (List.mem_of_getElem? (i := 22) rfl))) Via.refl e18 F_states_o0_19 E_o0_19 (Or.inl (hw _ (List.mem_of_getElem? (i := 23) rfl))) (hw _ (List.mem_of_getElem? (i := 10) rfl)) (ty := (.array .int)) (by decide) rfl rfl (g := (mkF m 25 #[.val (.ref o0)] [(.ref b18), (.ref o0)])) rfl rfl (hb hby d3_25)
  have N22 := Fr.snoc X22 N14 g_o0
  have F_states_o0_w22 : Fld Z h22 o0 "com/example/brisk_maze/briskmaze/search/RankedFrontier" "states" "[I" (.ref b18) := (F_states_o0_19).same W22
  have E_o0_23 : Exa Z h22 o0 "com/example/brisk_maze/briskmaze/search/RankedFrontier" := (E_o0_19).wr W22
  have F_size_o0_23 : Fld Z h22 o0 "com/example/brisk_maze/briskmaze/search/RankedFrontier" "size" "I" (.int (0 : Int32)) := (F_size_o0_19).other W22 (Or.inr (slot_ne (Or.inl (hw _ (List.mem_of_getElem? (i := 30) rfl))) (Or.inl (hw _ (List.mem_of_getElem? (i := 23) rfl))) (by decide) (t := .int) (t' := (.array .int)) (by decide) (by decide)))
  have A_b2_23 : own_A Z h22 b2 .long 64 (fun kk => (.long (0 : Int64))) := (A_b2_19).other W22 (Ne.symm ne_o0_b2)
  have F_ranks_o0_23 : Fld Z h22 o0 "com/example/brisk_maze/briskmaze/search/RankedFrontier" "ranks" "[J" (.ref b2) := (F_ranks_o0_19).other W22 (Or.inr (slot_ne (Or.inl (hw _ (List.mem_of_getElem? (i := 19) rfl))) (Or.inl (hw _ (List.mem_of_getElem? (i := 23) rfl))) (by decide) (t := (.array .long)) (t' := (.array .int)) (by decide) (by decide)))
  have A_b10_23 : own_A Z h22 b10 .int 64 (fun kk => (.int (0 : Int32))) := (A_b10_19).other W22 (Ne.symm ne_o0_b10)
  have F_costs_o0_23 : Fld Z h22 o0 "com/example/brisk_maze/briskmaze/search/RankedFrontier" "costs" "[I" (.ref b10) := (F_costs_o0_19).other W22 (Or.inr (slot_ne (Or.inl (hw _ (List.mem_of_getElem? (i := 21) rfl))) (Or.inl (hw _ (List.mem_of_getElem? (i := 23) rfl))) (by decide) (t := (.array .int)) (t' := (.array .int)) (by decide) (by decide)))
  have A_b18_23 : own_A Z h22 b18 .int 64 (fun kk => (.int (0 : Int32))) := (A_b18_18).other W22 (Ne.symm ne_o0_b18)
  have SZ24 : h0.size ≤ h22.size := by rw [W22.size]; exact SZ20
  have ZZ24 : n0 ≤ h22.size := Nat.le_trans Z0 SZ24
  have K25 : Keep h0 h22 [o0] := (K21).wr W22 (Or.inl (List.mem_of_getElem? (i := 0) rfl))
  have pre26 : ∀ t, Steps p.tables e below (T22.setTop (mkF m 28 #[.val (.ref o0)] [])) t → Steps p.tables e below (s₁.setTop (entryFrame m #[(.ref o0)] 1)) t := fun t k => pre0 t (by
    show Steps p.tables e below (s₁.setTop (mkF m 0 #[.val (.ref o0)] [])) _
    refine XS.aloadN X0.here hx rfl (hb hby d3_0) rfl rfl ?_
    show Steps p.tables e below (s₁.setTop (mkF m 1 #[.val (.ref o0)] [(.ref o0)])) _
    refine st1 _ ?_
    show Steps p.tables e below (T1.setTop (mkF m 4 #[.val (.ref o0)] [])) _
    refine XS.aloadN X1.here hx rfl (hb hby d3_4) rfl rfl ?_
    show Steps p.tables e below (T1.setTop (mkF m 5 #[.val (.ref o0)] [(.ref o0)])) _
    refine XS.bipush X1.here hx rfl (hb hby d3_5) ?_
    show Steps p.tables e below (T1.setTop (mkF m 7 #[.val (.ref o0)] [(.int (64 : Int32)), (.ref o0)])) _
    refine st2 _ ?_
    show Steps p.tables e below (T2.setTop (mkF m 9 #[.val (.ref o0)] [(.ref b2), (.ref o0)])) _
    refine st6 _ ?_
    show Steps p.tables e below (T6.setTop (mkF m 12 #[.val (.ref o0)] [])) _
    refine XS.aloadN X6.here hx rfl (hb hby d3_12) rfl rfl ?_
    show Steps p.tables e below (T6.setTop (mkF m 13 #[.val (.ref o0)] [(.ref o0)])) _
    refine XS.bipush X6.here hx rfl (hb hby d3_13) ?_
    show Steps p.tables e below (T6.setTop (mkF m 15 #[.val (.ref o0)] [(.int (64 : Int32)), (.ref o0)])) _
    refine st10 _ ?_
    show Steps p.tables e below (T10.setTop (mkF m 17 #[.val (.ref o0)] [(.ref b10), (.ref o0)])) _
    refine st14 _ ?_
    show Steps p.tables e below (T14.setTop (mkF m 20 #[.val (.ref o0)] [])) _
    refine XS.aloadN X14.here hx rfl (hb hby d3_20) rfl rfl ?_
    show Steps p.tables e below (T14.setTop (mkF m 21 #[.val (.ref o0)] [(.ref o0)])) _
    refine XS.bipush X14.here hx rfl (hb hby d3_21) ?_
    show Steps p.tables e below (T14.setTop (mkF m 23 #[.val (.ref o0)] [(.int (64 : Int32)), (.ref o0)])) _
    refine st18 _ ?_
    show Steps p.tables e below (T18.setTop (mkF m 25 #[.val (.ref o0)] [(.ref b18), (.ref o0)])) _
    refine st22 _ ?_
    show Steps p.tables e below (T22.setTop (mkF m 28 #[.val (.ref o0)] [])) _
    exact k)
  obtain ⟨fs, hr, hrun, hended, hW, hsame⟩ := X22.leave (v := none) (fun _ => rfl)
  refine ⟨_, _, pre26 _ ?_, hrun, hended, _, _, rfl, ?_, ⟨_, rfl⟩, hW, hsame.mono (by decide) (by decide)⟩
  · exact X22.returnOut hx Bd.returns (hb hby d3_28) hr
  · show Q3 Z o0 h0 n0 _ T22.heap _
    rw [e22]
    exact ⟨b2, b10, b18, rfl, N22, K25, sz_b2, sz_b10, sz_b18, ne_b2_b10, ne_b2_b18, ne_b10_b18, F_ranks_o0_23, F_costs_o0_23, F_states_o0_w22, F_size_o0_23, A_b2_23, A_b10_23, A_b18_23⟩
theorem d5_29 : decode prog_53_method_3_code 29 = .ok (.iload 5, 2) := by decide +kernel
theorem d5_31 : decode prog_53_method_3_code 31 = .ok (.ifCond .le 41, 3) := by decide +kernel
theorem d5_34 : decode prog_53_method_3_code 34 = .ok (.iload 5, 2) := by decide +kernel
theorem d5_36 : decode prog_53_method_3_code 36 = .ok (.iconst 1, 1) := by decide +kernel
theorem d5_37 : decode prog_53_method_3_code 37 = .ok (.isub, 1) := by decide +kernel
theorem d5_38 : decode prog_53_method_3_code 38 = .ok (.iconst 1, 1) := by decide +kernel
theorem d5_39 : decode prog_53_method_3_code 39 = .ok (.iushr, 1) := by decide +kernel
theorem d5_40 : decode prog_53_method_3_code 40 = .ok (.istore 6, 2) := by decide +kernel
theorem d5_42 : decode prog_53_method_3_code 42 = .ok (.aload_n 0, 1) := by decide +kernel
theorem d5_43 : decode prog_53_method_3_code 43 = .ok (.lload_n 2, 1) := by decide +kernel
theorem d5_44 : decode prog_53_method_3_code 44 = .ok (.iload 4, 2) := by decide +kernel
theorem d5_46 : decode prog_53_method_3_code 46 = .ok (.iload 6, 2) := by decide +kernel
theorem d5_48 : decode prog_53_method_3_code 48 = .ok (.invokevirtual 27, 3) := by decide +kernel
theorem d5_51 : decode prog_53_method_3_code 51 = .ok (.ifCond .ne 6, 3) := by decide +kernel
theorem d5_54 : decode prog_53_method_3_code 54 = .ok (.goto 18, 3) := by decide +kernel
theorem d5_57 : decode prog_53_method_3_code 57 = .ok (.aload_n 0, 1) := by decide +kernel
theorem d5_58 : decode prog_53_method_3_code 58 = .ok (.iload 6, 2) := by decide +kernel
theorem d5_60 : decode prog_53_method_3_code 60 = .ok (.iload 5, 2) := by decide +kernel
theorem d5_62 : decode prog_53_method_3_code 62 = .ok (.invokevirtual 31, 3) := by decide +kernel
theorem d5_65 : decode prog_53_method_3_code 65 = .ok (.iload 6, 2) := by decide +kernel
theorem d5_67 : decode prog_53_method_3_code 67 = .ok (.istore 5, 2) := by decide +kernel
theorem d5_69 : decode prog_53_method_3_code 69 = .ok (.goto (-40), 3) := by decide +kernel
theorem pd_2 : parseMethodDescriptor "(JII)Z" = some ⟨[.long, .int, .int], some .boolean⟩ := by decide +kernel
theorem pd_3 : parseMethodDescriptor "(II)V" = some ⟨[.int, .int], none⟩ := by decide +kernel
set_option maxRecDepth 65536 in
set_option maxHeartbeats 40000000 in
theorem loop_add {p : Program} {l : Launch} {e : Env} {s : State} {m : MethodId} {args : Array Value} {below : List Frame} {meth : Method} {c : Code} {Z : State} {a0 : Array Value} (o0 tr tc ts : Addr) (p1 : Int32) (q2 : Int64) (p3 : Int32) (n : Nat) (hn : n < 63) (E0 : Nat → own_E) (n0 : Nat) (g_tr : n0 ≤ tr) (g_tc : n0 ≤ tc) (g_ts : n0 ≤ ts) (ne_o0_tr : o0 ≠ tr) (ne_o0_tc : o0 ≠ tc) (ne_o0_ts : o0 ≠ ts) (ne_tr_tc : tr ≠ tc) (ne_tr_ts : tr ≠ ts) (ne_tc_ts : tc ≠ ts) (hx : p.tables.exec = Jvm.exec) (hZ : Z.Warmed39 s.vm) (hw : ∀ d ∈ tables_1, d.before a0 Z = true) (hby : c.code = prog_53_method_3_code) (hml : c.maxLocals = 7) (hown : s.vm.findClass "com/example/brisk_maze/briskmaze/search/RankedFrontier" = some m.cls) :
    ∀ (i : Nat) (fe : Nat → own_E) (s6 : Slot) (T0 : State) (h0 : Heap) (locs : List Loc), True → One s6 → own_upI n i E0 fe (q2, p3, p1) → Stand p l e ({ frames := 2, cells := 0, slots := 0, locals := 40 } : Room) s m args below meth c T0 locs 0 0 → T0.heap = h0 → Fr n0 locs → n0 ≤ h0.size → Fld Z h0 o0 "com/example/brisk_maze/briskmaze/search/RankedFrontier" "ranks" "[J" (.ref tr) → Fld Z h0 o0 "com/example/brisk_maze/briskmaze/search/RankedFrontier" "costs" "[I" (.ref tc) → Fld Z h0 o0 "com/example/brisk_maze/briskmaze/search/RankedFrontier" "states" "[I" (.ref ts) → Exa Z h0 o0 "com/example/brisk_maze/briskmaze/search/RankedFrontier" → own_A Z h0 tr .long 64 (fun kk => (.long (fe kk).1)) → own_A Z h0 tc .int 64 (fun kk => (.int (fe kk).2.1)) → own_A Z h0 ts .int 64 (fun kk => (.int (fe kk).2.2)) →
      ∃ (T1 : State) (h1 : Heap) (locs1 : List Loc) (i1 : Nat) (f1 : Nat → own_E) (s1 : Slot), Stand p l e ({ frames := 2, cells := 0, slots := 0, locals := 40 } : Room) s m args below meth c T1 locs1 0 0 ∧ T1.heap = h1 ∧ Fr n0 locs1 ∧ Keep h0 h1 [tr, tc, ts] ∧ own_A Z h1 tr .long 64 (fun kk => (.long (f1 kk).1)) ∧ own_A Z h1 tc .int 64 (fun kk => (.int (f1 kk).2.1)) ∧ own_A Z h1 ts .int 64 (fun kk => (.int (f1 kk).2.2)) ∧ i1 < 64 ∧ (own_heap (n + 1) (own_up f1 i1 (q2, p3, p1)) ∧ own_rr (n + 1) (own_up f1 i1 (q2, p3, p1)) E0) ∧ ∀ t, Steps p.tables e below (T1.setTop (mkF m 72 #[.val (.ref o0), .val (.int p1), .val (.long q2), .second, .val (.int p3), .val (.int (i1.toInt32)), s1] [])) t → Steps p.tables e below (T0.setTop (mkF m 29 #[.val (.ref o0), .val (.int p1), .val (.long q2), .second, .val (.int p3), .val (.int (i.toInt32)), s6] [])) t := by
  intro i
  induction i using Nat.strongRecOn with
  | ind i ih =>
    intro fe s6 T0 h0 locs _ hs6 hI X0 e0 N0 Z0 F_ranks_o0 F_costs_o0 F_states_o0 E_o0 A_tr A_tc A_ts
    have hi : i ≤ n := hI.1
    have pre0 : ∀ t, Steps p.tables e below (T0.setTop (mkF m 29 #[.val (.ref o0), .val (.int p1), .val (.long q2), .second, .val (.int p3), .val (.int (i.toInt32)), s6] [])) t → Steps p.tables e below (T0.setTop (mkF m 29 #[.val (.ref o0), .val (.int p1), .val (.long q2), .second, .val (.int p3), .val (.int (i.toInt32)), s6] [])) t := fun t k => k
    have pre1 : ∀ t, Steps p.tables e below (T0.setTop (mkF m 31 #[.val (.ref o0), .val (.int p1), .val (.long q2), .second, .val (.int p3), .val (.int (i.toInt32)), s6] [(.int (i.toInt32))])) t → Steps p.tables e below (T0.setTop (mkF m 29 #[.val (.ref o0), .val (.int p1), .val (.long q2), .second, .val (.int p3), .val (.int (i.toInt32)), s6] [])) t := fun t k => pre0 t (by
      show Steps p.tables e below (T0.setTop (mkF m 29 #[.val (.ref o0), .val (.int p1), .val (.long q2), .second, .val (.int p3), .val (.int (i.toInt32)), s6] [])) _
      refine XS.iload X0.here hx rfl (hb hby d5_29) rfl ?_
      show Steps p.tables e below (T0.setTop (mkF m 31 #[.val (.ref o0), .val (.int p1), .val (.long q2), .second, .val (.int p3), .val (.int (i.toInt32)), s6] [(.int (i.toInt32))])) _
      exact k)
    by_cases hs2 : (0 : Int32) < (i.toInt32)
    · have hpos : 0 < i := (own_ltn (a := 0) (b := i) (by decide) (by omega)).mp hs2
      have pre3 : ∀ t, Steps p.tables e below (T0.setTop (mkF m 42 #[.val (.ref o0), .val (.int p1), .val (.long q2), .second, .val (.int p3), .val (.int (i.toInt32)), .val (.int ((((i.toInt32) - (1 : Int32)).toUInt32 >>> ((1 : Int32) &&& 31).toUInt32).toInt32))] [])) t → Steps p.tables e below (T0.setTop (mkF m 29 #[.val (.ref o0), .val (.int p1), .val (.long q2), .second, .val (.int p3), .val (.int (i.toInt32)), s6] [])) t := fun t k => pre1 t (by
        refine XS.ifNo X0.here hx rfl (hb hby d5_31) rfl ((if0 _ _).trans (tlt hs2).2.2.2) ?_
        show Steps p.tables e below (T0.setTop (mkF m 34 #[.val (.ref o0), .val (.int p1), .val (.long q2), .second, .val (.int p3), .val (.int (i.toInt32)), s6] [])) _
        refine XS.iload X0.here hx rfl (hb hby d5_34) rfl ?_
        show Steps p.tables e below (T0.setTop (mkF m 36 #[.val (.ref o0), .val (.int p1), .val (.long q2), .second, .val (.int p3), .val (.int (i.toInt32)), s6] [(.int (i.toInt32))])) _
        refine XS.iconst X0.here hx rfl (hb hby d5_36) ?_
        show Steps p.tables e below (T0.setTop (mkF m 37 #[.val (.ref o0), .val (.int p1), .val (.long q2), .second, .val (.int p3), .val (.int (i.toInt32)), s6] [(.int (1 : Int32)), (.int (i.toInt32))])) _
        refine XS.isub X0.here hx rfl (hb hby d5_37) rfl ?_
        show Steps p.tables e below (T0.setTop (mkF m 38 #[.val (.ref o0), .val (.int p1), .val (.long q2), .second, .val (.int p3), .val (.int (i.toInt32)), s6] [(.int ((i.toInt32) - (1 : Int32)))])) _
        refine XS.iconst X0.here hx rfl (hb hby d5_38) ?_
        show Steps p.tables e below (T0.setTop (mkF m 39 #[.val (.ref o0), .val (.int p1), .val (.long q2), .second, .val (.int p3), .val (.int (i.toInt32)), s6] [(.int (1 : Int32)), (.int ((i.toInt32) - (1 : Int32)))])) _
        refine XS.iushr X0.here hx rfl (hb hby d5_39) rfl ?_
        show Steps p.tables e below (T0.setTop (mkF m 40 #[.val (.ref o0), .val (.int p1), .val (.long q2), .second, .val (.int p3), .val (.int (i.toInt32)), s6] [(.int ((((i.toInt32) - (1 : Int32)).toUInt32 >>> ((1 : Int32) &&& 31).toUInt32).toInt32))])) _
        refine XS.istore X0.here hx rfl (hb hby d5_40) rfl (l' := #[.val (.ref o0), .val (.int p1), .val (.long q2), .second, .val (.int p3), .val (.int (i.toInt32)), .val (.int ((((i.toInt32) - (1 : Int32)).toUInt32 >>> ((1 : Int32) &&& 31).toUInt32).toInt32))]) (XS.store1 rfl hs6 rfl) ?_
        show Steps p.tables e below (T0.setTop (mkF m 42 #[.val (.ref o0), .val (.int p1), .val (.long q2), .second, .val (.int p3), .val (.int (i.toInt32)), .val (.int ((((i.toInt32) - (1 : Int32)).toUInt32 >>> ((1 : Int32) &&& 31).toUInt32).toInt32))] [])) _
        exact k)
      have hre4 : ((((i.toInt32) - (1 : Int32)).toUInt32 >>> ((1 : Int32) &&& 31).toUInt32).toInt32) = (((i - 1) / 2).toInt32) := own_par64 ⟨i, by omega⟩ hpos
      have pre4 : ∀ t, Steps p.tables e below (T0.setTop (mkF m 42 #[.val (.ref o0), .val (.int p1), .val (.long q2), .second, .val (.int p3), .val (.int (i.toInt32)), .val (.int (((i - 1) / 2).toInt32))] [])) t → Steps p.tables e below (T0.setTop (mkF m 29 #[.val (.ref o0), .val (.int p1), .val (.long q2), .second, .val (.int p3), .val (.int (i.toInt32)), s6] [])) t := fun t k => pre3 t (by rw [hre4]; exact k)
      obtain ⟨cq5, q5, q5'⟩ := (E_o0).cell
      obtain ⟨_, _, ⟨T5, L5, k5, n5⟩, -, X5, ⟨Lc5, hQ5, l5, y5, z5⟩, st5⟩ := X0.privateBack hx (y := (⟨"com/example/brisk_maze/briskmaze/search/RankedFrontier", "precedes", "(JII)Z"⟩ : MethodName)) hown (mvT hZ (hw _ (List.mem_of_getElem? (i := 35) rfl))) (mvT hZ (hw _ (List.mem_of_getElem? (i := 36) rfl))) (own_selp (y := (⟨"com/example/brisk_maze/briskmaze/search/RankedFrontier", "precedes", "(JII)Z"⟩ : MethodName)) (mvT hZ (hw _ (List.mem_of_getElem? (i := 10) rfl))) (Cond.privateMethod_at (mvP hZ (hw _ (List.mem_of_getElem? (i := 37) rfl)) (args := #[]))) (mvT hZ (hw _ (List.mem_of_getElem? (i := 36) rfl))) (by decide)) (Cond.privateMethod_at (mvP hZ (hw _ (List.mem_of_getElem? (i := 37) rfl)) (args := #[]))) (mvT hZ (hw _ (List.mem_of_getElem? (i := 38) rfl))) (by decide) (backOf (W := 0) (rm7 l Z a0 hw [] o0 q2 p3 (((i - 1) / 2).toInt32) tr tc fe h0 n0 Z0 F_ranks_o0 F_costs_o0 A_tr A_tc (own_bd (show ((i - 1) / 2) < 64 by omega) (by decide))) hZ (hw _ (List.mem_of_getElem? (i := 38) rfl)) (hw _ (List.mem_of_getElem? (i := 11) rfl)) (by decide) (by decide)) (g := (mkF m 48 #[.val (.ref o0), .val (.int p1), .val (.long q2), .second, .val (.int p3), .val (.int (i.toInt32)), .val (.int (((i - 1) / 2).toInt32))] [(.int (((i - 1) / 2).toInt32)), (.int p3), (.long q2), (.ref o0)])) rfl (by rw [hml]; rfl) (Steps.refl _) (a := o0) (by rw [e0]; exact q5) q5' (argsL := [(.long q2), (.int p3), (.int (((i - 1) / 2).toInt32))]) (rest := []) (lenOf pd_2 rfl) rfl (by show 2 * 0 + _ ≤ _; exact Nat.le_of_eq rfl) (hb hby d5_48) (fun _ _ => ⟨rfl, e0, (by decide : 0 + 0 ≤ _), (by decide : 0 + 0 ≤ _)⟩)
      dsimp only [Pt.U, Pt.locs, Pt.cells, Pt.slots] at X5 l5 y5 z5 st5 hQ5
      subst y5 z5
      obtain ⟨rfl, N5q, hh5⟩ := hQ5
      have N5 := Fr.app N0 N5q
      rw [← l5] at N5
      have pre6 : ∀ t, Steps p.tables e below (T5.setTop (mkF m 51 #[.val (.ref o0), .val (.int p1), .val (.long q2), .second, .val (.int p3), .val (.int (i.toInt32)), .val (.int (((i - 1) / 2).toInt32))] [(.int ((f8_ret q2 p3 ((fe ((((i - 1) / 2).toInt32) : Int32).toNatClampNeg).1) ((fe ((((i - 1) / 2).toInt32) : Int32).toNatClampNeg).2.1)) &&& 1))])) t → Steps p.tables e below (T0.setTop (mkF m 29 #[.val (.ref o0), .val (.int p1), .val (.long q2), .second, .val (.int p3), .val (.int (i.toInt32)), s6] [])) t := fun t k => pre4 t (by
        show Steps p.tables e below (T0.setTop (mkF m 42 #[.val (.ref o0), .val (.int p1), .val (.long q2), .second, .val (.int p3), .val (.int (i.toInt32)), .val (.int (((i - 1) / 2).toInt32))] [])) _
        refine XS.aloadN X0.here hx rfl (hb hby d5_42) rfl rfl ?_
        show Steps p.tables e below (T0.setTop (mkF m 43 #[.val (.ref o0), .val (.int p1), .val (.long q2), .second, .val (.int p3), .val (.int (i.toInt32)), .val (.int (((i - 1) / 2).toInt32))] [(.ref o0)])) _
        refine XS.lloadN X0.here hx rfl (hb hby d5_43) rfl ?_
        show Steps p.tables e below (T0.setTop (mkF m 44 #[.val (.ref o0), .val (.int p1), .val (.long q2), .second, .val (.int p3), .val (.int (i.toInt32)), .val (.int (((i - 1) / 2).toInt32))] [(.long q2), (.ref o0)])) _
        refine XS.iload X0.here hx rfl (hb hby d5_44) rfl ?_
        show Steps p.tables e below (T0.setTop (mkF m 46 #[.val (.ref o0), .val (.int p1), .val (.long q2), .second, .val (.int p3), .val (.int (i.toInt32)), .val (.int (((i - 1) / 2).toInt32))] [(.int p3), (.long q2), (.ref o0)])) _
        refine XS.iload X0.here hx rfl (hb hby d5_46) rfl ?_
        show Steps p.tables e below (T0.setTop (mkF m 48 #[.val (.ref o0), .val (.int p1), .val (.long q2), .second, .val (.int p3), .val (.int (i.toInt32)), .val (.int (((i - 1) / 2).toInt32))] [(.int (((i - 1) / 2).toInt32)), (.int p3), (.long q2), (.ref o0)])) _
        refine st5.trans ?_
        show Steps p.tables e below (T5.setTop (mkF m 51 #[.val (.ref o0), .val (.int p1), .val (.long q2), .second, .val (.int p3), .val (.int (i.toInt32)), .val (.int (((i - 1) / 2).toInt32))] [(.int ((f8_ret q2 p3 ((fe ((((i - 1) / 2).toInt32) : Int32).toNatClampNeg).1) ((fe ((((i - 1) / 2).toInt32) : Int32).toNatClampNeg).2.1)) &&& 1))])) _
        exact k)
      by_cases hs7 : ((f8_ret q2 p3 ((fe ((((i - 1) / 2).toInt32) : Int32).toNatClampNeg).1) ((fe ((((i - 1) / 2).toInt32) : Int32).toNatClampNeg).2.1)) &&& 1) = (0 : Int32)
      · have pre8 : ∀ t, Steps p.tables e below (T5.setTop (mkF m 72 #[.val (.ref o0), .val (.int p1), .val (.long q2), .second, .val (.int p3), .val (.int (i.toInt32)), .val (.int (((i - 1) / 2).toInt32))] [])) t → Steps p.tables e below (T0.setTop (mkF m 29 #[.val (.ref o0), .val (.int p1), .val (.long q2), .second, .val (.int p3), .val (.int (i.toInt32)), s6] [])) t := fun t k => pre6 t (by
          refine XS.ifNo X5.here hx rfl (hb hby d5_51) rfl ((if0 _ _).trans (teq hs7).2) ?_
          show Steps p.tables e below (T5.setTop (mkF m 54 #[.val (.ref o0), .val (.int p1), .val (.long q2), .second, .val (.int p3), .val (.int (i.toInt32)), .val (.int (((i - 1) / 2).toInt32))] [])) _
          refine XS.goto X5.here hx rfl (pc0 := 54) (pc' := 72) rfl (hb hby d5_54) (by decide) (by decide) ?_
          show Steps p.tables e below (T5.setTop (mkF m 72 #[.val (.ref o0), .val (.int p1), .val (.long q2), .second, .val (.int p3), .val (.int (i.toInt32)), .val (.int (((i - 1) / 2).toInt32))] [])) _
          exact k)
        exact ⟨_, _, _, i, fe, _, X5, hh5, N5, (Keep.refl h0 [tr, tc, ts]), A_tr, A_tc, A_ts, (by omega), own_up_out hI (Or.inr (by have q := (own_pv q2 p3 p1 _).mp hs7; rw [own_tn (show ((i - 1) / 2) < 2147483648 by omega)] at q; exact q)), pre8⟩
      · obtain ⟨cq9, q9, q9'⟩ := (E_o0).cell
        obtain ⟨_, _, ⟨T9, L9, k9, n9⟩, -, X9, ⟨Lc9, hQ9, l9, y9, z9⟩, st9⟩ := X5.privateBack hx (y := (⟨"com/example/brisk_maze/briskmaze/search/RankedFrontier", "move", "(II)V"⟩ : MethodName)) hown (mvT hZ (hw _ (List.mem_of_getElem? (i := 58) rfl))) (mvT hZ (hw _ (List.mem_of_getElem? (i := 59) rfl))) (own_selp (y := (⟨"com/example/brisk_maze/briskmaze/search/RankedFrontier", "move", "(II)V"⟩ : MethodName)) (mvT hZ (hw _ (List.mem_of_getElem? (i := 10) rfl))) (Cond.privateMethod_at (mvP hZ (hw _ (List.mem_of_getElem? (i := 60) rfl)) (args := #[]))) (mvT hZ (hw _ (List.mem_of_getElem? (i := 59) rfl))) (by decide)) (Cond.privateMethod_at (mvP hZ (hw _ (List.mem_of_getElem? (i := 60) rfl)) (args := #[]))) (mvT hZ (hw _ (List.mem_of_getElem? (i := 61) rfl))) (by decide) (backOf (W := 0) (rm13 l Z a0 hw [] o0 (((i - 1) / 2).toInt32) (i.toInt32) tr tc ts fe h0 n0 Z0 F_ranks_o0 F_costs_o0 F_states_o0 E_o0 A_tr A_tc A_ts g_tr g_tc g_ts ne_o0_tr ne_o0_tc ne_o0_ts ne_tr_tc ne_tr_ts ne_tc_ts (own_bd (show ((i - 1) / 2) < 64 by omega) (by decide)) (own_bd (show i < 64 by omega) (by decide))) hZ (hw _ (List.mem_of_getElem? (i := 61) rfl)) (hw _ (List.mem_of_getElem? (i := 11) rfl)) (by decide) (by decide)) (g := (mkF m 62 #[.val (.ref o0), .val (.int p1), .val (.long q2), .second, .val (.int p3), .val (.int (i.toInt32)), .val (.int (((i - 1) / 2).toInt32))] [(.int (i.toInt32)), (.int (((i - 1) / 2).toInt32)), (.ref o0)])) rfl (by rw [hml]; rfl) (Steps.refl _) (a := o0) (by rw [hh5]; exact q9) q9' (argsL := [(.int (((i - 1) / 2).toInt32)), (.int (i.toInt32))]) (rest := []) (lenOf pd_3 rfl) rfl (by show 2 * 0 + _ ≤ _; exact Nat.le_of_eq rfl) (hb hby d5_62) (fun _ _ => ⟨rfl, hh5, (by decide : 0 + 0 ≤ _), (by decide : 0 + 0 ≤ _)⟩)
        dsimp only [Pt.U, Pt.locs, Pt.cells, Pt.slots] at X9 l9 y9 z9 st9 hQ9
        subst y9 z9
        obtain ⟨rfl, N9q, Kc9, P9_0, P9_1, P9_2⟩ := hQ9
        have N9 := Fr.app N5 N9q
        rw [← l9] at N9
        have F_ranks_o0_10 : Fld Z T9.heap o0 "com/example/brisk_maze/briskmaze/search/RankedFrontier" "ranks" "[J" (.ref tr) := (F_ranks_o0).keep Kc9 (ninS ne_o0_tr (ninS ne_o0_tc (ninS ne_o0_ts nin0)))
        have F_costs_o0_10 : Fld Z T9.heap o0 "com/example/brisk_maze/briskmaze/search/RankedFrontier" "costs" "[I" (.ref tc) := (F_costs_o0).keep Kc9 (ninS ne_o0_tr (ninS ne_o0_tc (ninS ne_o0_ts nin0)))
        have F_states_o0_10 : Fld Z T9.heap o0 "com/example/brisk_maze/briskmaze/search/RankedFrontier" "states" "[I" (.ref ts) := (F_states_o0).keep Kc9 (ninS ne_o0_tr (ninS ne_o0_tc (ninS ne_o0_ts nin0)))
        have E_o0_10 : Exa Z T9.heap o0 "com/example/brisk_maze/briskmaze/search/RankedFrontier" := (E_o0).keep Kc9
        have SZ11 : h0.size ≤ T9.heap.size := Nat.le_trans (Nat.le_refl _) Kc9.1
        have ZZ11 : n0 ≤ T9.heap.size := Nat.le_trans Z0 SZ11
        have K12 : Keep h0 T9.heap [tr, tc, ts] := ((Keep.refl h0 [tr, tc, ts])).trans Kc9 (allS (Or.inl (List.mem_of_getElem? (i := 0) rfl)) (allS (Or.inl (List.mem_of_getElem? (i := 1) rfl)) (allS (Or.inl (List.mem_of_getElem? (i := 2) rfl)) all0)))
        have pre13 : ∀ t, Steps p.tables e below (T9.setTop (mkF m 29 #[.val (.ref o0), .val (.int p1), .val (.long q2), .second, .val (.int p3), .val (.int (((i - 1) / 2).toInt32)), .val (.int (((i - 1) / 2).toInt32))] [])) t → Steps p.tables e below (T0.setTop (mkF m 29 #[.val (.ref o0), .val (.int p1), .val (.long q2), .second, .val (.int p3), .val (.int (i.toInt32)), s6] [])) t := fun t k => pre6 t (by
          refine XS.ifYes X5.here hx rfl (pc0 := 51) (pc' := 57) rfl (hb hby d5_51) rfl ((if0 _ _).trans (feq hs7).2) (by decide) (by decide) ?_
          show Steps p.tables e below (T5.setTop (mkF m 57 #[.val (.ref o0), .val (.int p1), .val (.long q2), .second, .val (.int p3), .val (.int (i.toInt32)), .val (.int (((i - 1) / 2).toInt32))] [])) _
          refine XS.aloadN X5.here hx rfl (hb hby d5_57) rfl rfl ?_
          show Steps p.tables e below (T5.setTop (mkF m 58 #[.val (.ref o0), .val (.int p1), .val (.long q2), .second, .val (.int p3), .val (.int (i.toInt32)), .val (.int (((i - 1) / 2).toInt32))] [(.ref o0)])) _
          refine XS.iload X5.here hx rfl (hb hby d5_58) rfl ?_
          show Steps p.tables e below (T5.setTop (mkF m 60 #[.val (.ref o0), .val (.int p1), .val (.long q2), .second, .val (.int p3), .val (.int (i.toInt32)), .val (.int (((i - 1) / 2).toInt32))] [(.int (((i - 1) / 2).toInt32)), (.ref o0)])) _
          refine XS.iload X5.here hx rfl (hb hby d5_60) rfl ?_
          show Steps p.tables e below (T5.setTop (mkF m 62 #[.val (.ref o0), .val (.int p1), .val (.long q2), .second, .val (.int p3), .val (.int (i.toInt32)), .val (.int (((i - 1) / 2).toInt32))] [(.int (i.toInt32)), (.int (((i - 1) / 2).toInt32)), (.ref o0)])) _
          refine st9.trans ?_
          show Steps p.tables e below (T9.setTop (mkF m 65 #[.val (.ref o0), .val (.int p1), .val (.long q2), .second, .val (.int p3), .val (.int (i.toInt32)), .val (.int (((i - 1) / 2).toInt32))] [])) _
          refine XS.iload X9.here hx rfl (hb hby d5_65) rfl ?_
          show Steps p.tables e below (T9.setTop (mkF m 67 #[.val (.ref o0), .val (.int p1), .val (.long q2), .second, .val (.int p3), .val (.int (i.toInt32)), .val (.int (((i - 1) / 2).toInt32))] [(.int (((i - 1) / 2).toInt32))])) _
          refine XS.istore X9.here hx rfl (hb hby d5_67) rfl (l' := #[.val (.ref o0), .val (.int p1), .val (.long q2), .second, .val (.int p3), .val (.int (((i - 1) / 2).toInt32)), .val (.int (((i - 1) / 2).toInt32))]) rfl ?_
          show Steps p.tables e below (T9.setTop (mkF m 69 #[.val (.ref o0), .val (.int p1), .val (.long q2), .second, .val (.int p3), .val (.int (((i - 1) / 2).toInt32)), .val (.int (((i - 1) / 2).toInt32))] [])) _
          refine XS.goto X9.here hx rfl (pc0 := 69) (pc' := 29) rfl (hb hby d5_69) (by decide) (by decide) ?_
          show Steps p.tables e below (T9.setTop (mkF m 29 #[.val (.ref o0), .val (.int p1), .val (.long q2), .second, .val (.int p3), .val (.int (((i - 1) / 2).toInt32)), .val (.int (((i - 1) / 2).toInt32))] [])) _
          exact k)
        have hb : own_bf (q2, p3, p1) (fe ((i - 1) / 2)) := by
          have q := Classical.byContradiction fun q => hs7 ((own_pv q2 p3 p1 _).mpr q)
          rw [own_tn (show ((i - 1) / 2) < 2147483648 by omega)] at q
          exact q
        obtain ⟨T1, h1, locs1, i1, f1, s1, Y1, Y2, Y3, Y4, Y5, Y6, Y7, Y8, Y9, Y10⟩ := ih ((i - 1) / 2) (by omega) (own_up fe ((i.toInt32) : Int32).toNatClampNeg (fe ((((i - 1) / 2).toInt32) : Int32).toNatClampNeg)) (.val (.int (((i - 1) / 2).toInt32))) _ _ _ trivial (One.val rfl) (by rw [own_tn (show i < 2147483648 by omega), own_tn (show ((i - 1) / 2) < 2147483648 by omega)]; exact own_up_step hI hpos hb) X9 rfl N9 ZZ11 F_ranks_o0_10 F_costs_o0_10 F_states_o0_10 E_o0_10 P9_0 P9_1 P9_2
        exact ⟨T1, h1, locs1, i1, f1, s1, Y1, Y2, Y3, K12.trans Y4 (fun x hx => Or.inl hx), Y5, Y6, Y7, Y8, Y9, fun t k => pre13 t (Y10 t k)⟩
    · have pre14 : ∀ t, Steps p.tables e below (T0.setTop (mkF m 72 #[.val (.ref o0), .val (.int p1), .val (.long q2), .second, .val (.int p3), .val (.int (i.toInt32)), s6] [])) t → Steps p.tables e below (T0.setTop (mkF m 29 #[.val (.ref o0), .val (.int p1), .val (.long q2), .second, .val (.int p3), .val (.int (i.toInt32)), s6] [])) t := fun t k => pre1 t (by
        refine XS.ifYes X0.here hx rfl (pc0 := 31) (pc' := 72) rfl (hb hby d5_31) rfl ((if0 _ _).trans (flt hs2).2.2.2) (by decide) (by decide) ?_
        show Steps p.tables e below (T0.setTop (mkF m 72 #[.val (.ref o0), .val (.int p1), .val (.long q2), .second, .val (.int p3), .val (.int (i.toInt32)), s6] [])) _
        exact k)
      exact ⟨_, _, _, i, fe, _, X0, e0, N0, (Keep.refl h0 [tr, tc, ts]), A_tr, A_tc, A_ts, (by omega), own_up_out hI (Or.inl (by have q := mt (own_ltn (a := 0) (b := i) (by decide) (by omega)).mpr hs2; omega)), pre14⟩
theorem d5_0 : decode prog_53_method_3_code 0 = .ok (.aload_n 0, 1) := by decide +kernel
theorem d5_1 : decode prog_53_method_3_code 1 = .ok (.getfield 20, 3) := by decide +kernel
theorem d5_4 : decode prog_53_method_3_code 4 = .ok (.aload_n 0, 1) := by decide +kernel
theorem d5_5 : decode prog_53_method_3_code 5 = .ok (.getfield 9, 3) := by decide +kernel
theorem d5_8 : decode prog_53_method_3_code 8 = .ok (.arraylength, 1) := by decide +kernel
theorem d5_9 : decode prog_53_method_3_code 9 = .ok (.if_icmp .ne 7, 3) := by decide +kernel
theorem d5_16 : decode prog_53_method_3_code 16 = .ok (.aload_n 0, 1) := by decide +kernel
theorem d5_17 : decode prog_53_method_3_code 17 = .ok (.dup, 1) := by decide +kernel
theorem d5_18 : decode prog_53_method_3_code 18 = .ok (.getfield 20, 3) := by decide +kernel
theorem d5_21 : decode prog_53_method_3_code 21 = .ok (.dup_x1, 1) := by decide +kernel
theorem d5_22 : decode prog_53_method_3_code 22 = .ok (.iconst 1, 1) := by decide +kernel
theorem d5_23 : decode prog_53_method_3_code 23 = .ok (.iadd, 1) := by decide +kernel
theorem d5_24 : decode prog_53_method_3_code 24 = .ok (.putfield 20, 3) := by decide +kernel
theorem d5_27 : decode prog_53_method_3_code 27 = .ok (.istore 5, 2) := by decide +kernel
theorem d5_72 : decode prog_53_method_3_code 72 = .ok (.aload_n 0, 1) := by decide +kernel
theorem d5_73 : decode prog_53_method_3_code 73 = .ok (.iload 5, 2) := by decide +kernel
theorem d5_75 : decode prog_53_method_3_code 75 = .ok (.lload_n 2, 1) := by decide +kernel
theorem d5_76 : decode prog_53_method_3_code 76 = .ok (.iload 4, 2) := by decide +kernel
theorem d5_78 : decode prog_53_method_3_code 78 = .ok (.iload_n 1, 1) := by decide +kernel
theorem d5_79 : decode prog_53_method_3_code 79 = .ok (.invokevirtual 35, 3) := by decide +kernel
theorem d5_82 : decode prog_53_method_3_code 82 = .ok (.return_, 1) := by decide +kernel
theorem ef_5 (m : MethodId) (o0 : Addr) (p1 : Int32) (q2 : Int64) (p3 : Int32) : entryFrame m #[(.ref o0), (.int p1), (.long q2), (.int p3)] 7 = mkF m 0 #[.val (.ref o0), .val (.int p1), .val (.long q2), .second, .val (.int p3), .unset, .unset] [] := by first | (simp [entryFrame, mkF, argsToLocals, Value.category]; done) | rfl

def Q5 (Z : State) (o0 : Addr) (p1 : Int32) (q2 : Int64) (p3 : Int32) (tr tc ts : Addr) (fe : Nat → own_E) (n : Nat) (h0 : Heap) (n0 : Nat) (v : Option Value) (h : Heap) (L : List Loc) : Prop := ∃ (f2 : Nat → own_E), v = none ∧ Fr n0 L ∧ Keep h0 h [tr, tc, ts, o0] ∧ (Fld Z h o0 "com/example/brisk_maze/briskmaze/search/RankedFrontier" "size" "I" (.int ((n + 1).toInt32))) ∧ (Fld Z h o0 "com/example/brisk_maze/briskmaze/search/RankedFrontier" "ranks" "[J" (.ref tr)) ∧ (Fld Z h o0 "com/example/brisk_maze/briskmaze/search/RankedFrontier" "costs" "[I" (.ref tc)) ∧ (Fld Z h o0 "com/example/brisk_maze/briskmaze/search/RankedFrontier" "states" "[I" (.ref ts)) ∧ (own_A Z h tr .long 64 (fun kk => (.long (f2 kk).1))) ∧ (own_A Z h tc .int 64 (fun kk => (.int (f2 kk).2.1))) ∧ (own_A Z h ts .int 64 (fun kk => (.int (f2 kk).2.2))) ∧ (own_heap (n + 1) f2) ∧ (own_rr (n + 1) f2 (own_up fe n (q2, p3, p1)))
set_option maxRecDepth 65536 in
set_option maxHeartbeats 40000000 in
theorem rm5 (l : Launch) (Z : State) (a0 : Array Value) (hw : ∀ d ∈ tables_1, d.before a0 Z = true) (ws : List Jvm.Cond) (o0 : Addr) (p1 : Int32) (q2 : Int64) (p3 : Int32) (tr tc ts : Addr) (fe : Nat → own_E) (n : Nat) (h0 : Heap) (n0 : Nat) (Z0 : n0 ≤ h0.size) (F_ranks_o0 : Fld Z h0 o0 "com/example/brisk_maze/briskmaze/search/RankedFrontier" "ranks" "[J" (.ref tr)) (F_costs_o0 : Fld Z h0 o0 "com/example/brisk_maze/briskmaze/search/RankedFrontier" "costs" "[I" (.ref tc)) (F_states_o0 : Fld Z h0 o0 "com/example/brisk_maze/briskmaze/search/RankedFrontier" "states" "[I" (.ref ts)) (E_o0 : Exa Z h0 o0 "com/example/brisk_maze/briskmaze/search/RankedFrontier") (F_size_o0 : Fld Z h0 o0 "com/example/brisk_maze/briskmaze/search/RankedFrontier" "size" "I" (.int (n.toInt32))) (A_tr : own_A Z h0 tr .long 64 (fun kk => (.long (fe kk).1))) (A_tc : own_A Z h0 tc .int 64 (fun kk => (.int (fe kk).2.1))) (A_ts : own_A Z h0 ts .int 64 (fun kk => (.int (fe kk).2.2))) (g_tr : n0 ≤ tr) (g_tc : n0 ≤ tc) (g_ts : n0 ≤ ts) (g_o0 : n0 ≤ o0) (ne_o0_tr : o0 ≠ tr) (ne_o0_tc : o0 ≠ tc) (ne_o0_ts : o0 ≠ ts) (ne_tr_tc : tr ≠ tc) (ne_tr_ts : tr ≠ ts) (ne_tc_ts : tc ≠ ts) (hn : n < 63) (hH : own_heap n fe) :
    MetFree l (⟨"com/example/brisk_maze/briskmaze/search/RankedFrontier", "add", "(IJI)V"⟩ : MethodName) (head1 (Jvm.Cond.code (⟨"com/example/brisk_maze/briskmaze/search/RankedFrontier", "add", "(IJI)V"⟩ : MethodName) prog_53_method_3_code 7 none :: ws) ({ frames := 2, cells := 0, slots := 0, locals := 40 } : Room)) (fun a U => a = #[(.ref o0), (.int p1), (.long q2), (.int p3)] ∧ Z.Warmed39 U.vm ∧ U.heap = h0) (fun _ _ _ _ _ => True) (fun _ U o U' => ∃ v L, o = .returned v ∧ Q5 Z o0 p1 q2 p3 tr tc ts fe n h0 n0 v U'.heap L ∧ FrameEnd U o U' L ({ frames := 2, cells := 0, slots := 0, locals := 40 } : Room).cells ({ frames := 2, cells := 0, slots := 0, locals := 40 } : Room).slots) := by
  refine MetFree.of_bodySF (plainFor_of_name pn_0) hisR ?_
  intro p e s m args below meth c s₁ Bd hml0 hP hK
  obtain ⟨rfl, hZ, hh⟩ := hP
  have hx := Bd.exec
  have hby := Bd.bytes
  have hml : c.maxLocals = 7 := hml0
  have hown : s.vm.findClass "com/example/brisk_maze/briskmaze/search/RankedFrontier" = some m.cls := findClass_of_methodNamed Bd.named
  have hnm := (name_of_methodNamed Bd.named Bd.method).1
  have X0 : Stand p l e ({ frames := 2, cells := 0, slots := 0, locals := 40 } : Room) s m #[(.ref o0), (.int p1), (.long q2), (.int p3)] below meth c s₁ [] 0 0 := Stand.of_body Bd
  have e0 : s₁.heap = h0 := by rw [← hh, Bd.state]; rfl
  have N0 := Fr.nil n0
  have pre0 : ∀ t, Steps p.tables e below (s₁.setTop (mkF m 0 #[.val (.ref o0), .val (.int p1), .val (.long q2), .second, .val (.int p3), .unset, .unset] [])) t → Steps p.tables e below (s₁.setTop (entryFrame m #[(.ref o0), (.int p1), (.long q2), (.int p3)] 7)) t := fun t k => castTop (ef_5 m o0 p1 q2 p3) k
  obtain ⟨T1, X1, e1, st1⟩ := getF X0 hx hZ hown (host := "") (Or.inl (hw _ (List.mem_of_getElem? (i := 29) rfl))) Via.refl e0 F_size_o0 (g := (mkF m 1 #[.val (.ref o0), .val (.int p1), .val (.long q2), .second, .val (.int p3), .unset, .unset] [(.ref o0)])) rfl rfl (hb hby d5_1)
  obtain ⟨T2, X2, e2, st2⟩ := getF X1 hx hZ hown (host := "") (Or.inl (hw _ (List.mem_of_getElem? (i := 18) rfl))) Via.refl e1 F_ranks_o0 (g := (mkF m 5 #[.val (.ref o0), .val (.int p1), .val (.long q2), .second, .val (.int p3), .unset, .unset] [(.ref o0), (.int (n.toInt32))])) rfl rfl (hb hby d5_5)
  have qa3 := A_tr
  obtain ⟨c3, Ar3, Sz3, H3⟩ := qa3
  obtain ⟨T4, X4, e4, st4⟩ := getF X2 hx hZ hown (host := "") (Or.inl (hw _ (List.mem_of_getElem? (i := 29) rfl))) Via.refl e2 F_size_o0 (g := (mkF m 18 #[.val (.ref o0), .val (.int p1), .val (.long q2), .second, .val (.int p3), .unset, .unset] [(.ref o0), (.ref o0)])) rfl rfl (hb hby d5_18)
  obtain ⟨T5, h5, X5, e5, W5, st5⟩ := putF X4 hx hZ hown (host := "") (Or.inl (hw _ (List.mem_of_getElem? (i := 29) rfl))) Via.refl e4 F_size_o0 E_o0 (Or.inl (hw _ (List.mem_of_getElem? (i := 30) rfl))) (hw _ (List.mem_of_getElem? (i := 10) rfl)) (ty := .int) (by decide) rfl rfl (g := (mkF m 24 #[.val (.ref o0), .val (.int p1), .val (.long q2), .second, .val (.int p3), .unset, .unset] [(.int ((n.toInt32) + (1 : Int32))), (.ref o0), (.int (n.toInt32))])) rfl rfl (hb hby d5_24)
  have N5 := Fr.snoc X5 N0 g_o0
  have F_size_o0_w5 : Fld Z h5 o0 "com/example/brisk_maze/briskmaze/search/RankedFrontier" "size" "I" (.int ((n.toInt32) + (1 : Int32))) := (F_size_o0).same W5
  have F_ranks_o0_6 : Fld Z h5 o0 "com/example/brisk_maze/briskmaze/search/RankedFrontier" "ranks" "[J" (.ref tr) := (F_ranks_o0).other W5 (Or.inr (slot_ne (Or.inl (hw _ (List.mem_of_getElem? (i := 19) rfl))) (Or.inl (hw _ (List.mem_of_getElem? (i := 30) rfl))) (by decide) (t := (.array .long)) (t' := .int) (by decide) (by decide)))
  have F_costs_o0_6 : Fld Z h5 o0 "com/example/brisk_maze/briskmaze/search/RankedFrontier" "costs" "[I" (.ref tc) := (F_costs_o0).other W5 (Or.inr (slot_ne (Or.inl (hw _ (List.mem_of_getElem? (i := 21) rfl))) (Or.inl (hw _ (List.mem_of_getElem? (i := 30) rfl))) (by decide) (t := (.array .int)) (t' := .int) (by decide) (by decide)))
  have F_states_o0_6 : Fld Z h5 o0 "com/example/brisk_maze/briskmaze/search/RankedFrontier" "states" "[I" (.ref ts) := (F_states_o0).other W5 (Or.inr (slot_ne (Or.inl (hw _ (List.mem_of_getElem? (i := 23) rfl))) (Or.inl (hw _ (List.mem_of_getElem? (i := 30) rfl))) (by decide) (t := (.array .int)) (t' := .int) (by decide) (by decide)))
  have E_o0_6 : Exa Z h5 o0 "com/example/brisk_maze/briskmaze/search/RankedFrontier" := (E_o0).wr W5
  have A_tr_6 : own_A Z h5 tr .long 64 (fun kk => (.long (fe kk).1)) := (A_tr).other W5 (Ne.symm ne_o0_tr)
  have A_tc_6 : own_A Z h5 tc .int 64 (fun kk => (.int (fe kk).2.1)) := (A_tc).other W5 (Ne.symm ne_o0_tc)
  have A_ts_6 : own_A Z h5 ts .int 64 (fun kk => (.int (fe kk).2.2)) := (A_ts).other W5 (Ne.symm ne_o0_ts)
  have SZ7 : h0.size ≤ h5.size := by rw [W5.size]; exact (Nat.le_refl _)
  have ZZ7 : n0 ≤ h5.size := Nat.le_trans Z0 SZ7
  have K8 : Keep h0 h5 [tr, tc, ts, o0] := ((Keep.refl h0 [tr, tc, ts, o0])).wr W5 (Or.inl (List.mem_of_getElem? (i := 3) rfl))
  obtain ⟨T9, h9, L9, i9, f9, s9, X9, e9, N9, Kc9, Pa9, Pb9, Pc9, hi9, hh9, st9⟩ := loop_add o0 tr tc ts p1 q2 p3 n hn (own_up fe n (q2, p3, p1)) n0 g_tr g_tc g_ts ne_o0_tr ne_o0_tc ne_o0_ts ne_tr_tc ne_tr_ts ne_tc_ts hx hZ hw hby hml hown n fe .unset _ _ _ trivial One.u (own_up_start hH _) X5 e5 N5 ZZ7 F_ranks_o0_6 F_costs_o0_6 F_states_o0_6 E_o0_6 A_tr_6 A_tc_6 A_ts_6
  have F_ranks_o0_10 : Fld Z h9 o0 "com/example/brisk_maze/briskmaze/search/RankedFrontier" "ranks" "[J" (.ref tr) := (F_ranks_o0_6).keep Kc9 (ninS ne_o0_tr (ninS ne_o0_tc (ninS ne_o0_ts nin0)))
  have F_costs_o0_10 : Fld Z h9 o0 "com/example/brisk_maze/briskmaze/search/RankedFrontier" "costs" "[I" (.ref tc) := (F_costs_o0_6).keep Kc9 (ninS ne_o0_tr (ninS ne_o0_tc (ninS ne_o0_ts nin0)))
  have F_states_o0_10 : Fld Z h9 o0 "com/example/brisk_maze/briskmaze/search/RankedFrontier" "states" "[I" (.ref ts) := (F_states_o0_6).keep Kc9 (ninS ne_o0_tr (ninS ne_o0_tc (ninS ne_o0_ts nin0)))
  have E_o0_10 : Exa Z h9 o0 "com/example/brisk_maze/briskmaze/search/RankedFrontier" := (E_o0_6).keep Kc9
  have F_size_o0_10 : Fld Z h9 o0 "com/example/brisk_maze/briskmaze/search/RankedFrontier" "size" "I" (.int ((n.toInt32) + (1 : Int32))) := (F_size_o0_w5).keep Kc9 (ninS ne_o0_tr (ninS ne_o0_tc (ninS ne_o0_ts nin0)))
  have SZ11 : h0.size ≤ h9.size := Nat.le_trans SZ7 Kc9.1
  have ZZ11 : n0 ≤ h9.size := Nat.le_trans Z0 SZ11
  have K12 : Keep h0 h9 [tr, tc, ts, o0] := (K8).trans Kc9 (allS (Or.inl (List.mem_of_getElem? (i := 0) rfl)) (allS (Or.inl (List.mem_of_getElem? (i := 1) rfl)) (allS (Or.inl (List.mem_of_getElem? (i := 2) rfl)) all0)))
  obtain ⟨cq13, q13, q13'⟩ := (E_o0_10).cell
  obtain ⟨_, _, ⟨T13, L13, k13, n13⟩, -, X13, ⟨Lc13, hQ13, l13, y13, z13⟩, st13⟩ := X9.privateBack hx (y := (⟨"com/example/brisk_maze/briskmaze/search/RankedFrontier", "place", "(IJII)V"⟩ : MethodName)) hown (mvT hZ (hw _ (List.mem_of_getElem? (i := 31) rfl))) (mvT hZ (hw _ (List.mem_of_getElem? (i := 32) rfl))) (own_selp (y := (⟨"com/example/brisk_maze/briskmaze/search/RankedFrontier", "place", "(IJII)V"⟩ : MethodName)) (mvT hZ (hw _ (List.mem_of_getElem? (i := 10) rfl))) (Cond.privateMethod_at (mvP hZ (hw _ (List.mem_of_getElem? (i := 33) rfl)) (args := #[]))) (mvT hZ (hw _ (List.mem_of_getElem? (i := 32) rfl))) (by decide)) (Cond.privateMethod_at (mvP hZ (hw _ (List.mem_of_getElem? (i := 33) rfl)) (args := #[]))) (mvT hZ (hw _ (List.mem_of_getElem? (i := 34) rfl))) (by decide) (backOf (W := 0) (rm6 l Z a0 hw [] o0 (i9.toInt32) q2 p3 p1 tr tc ts f9 h9 n0 ZZ11 F_ranks_o0_10 F_costs_o0_10 F_states_o0_10 Pa9 Pb9 Pc9 g_tr g_tc g_ts ne_o0_tr ne_o0_tc ne_o0_ts ne_tr_tc ne_tr_ts ne_tc_ts (own_bd (show i9 < 64 from hi9) (by decide))) hZ (hw _ (List.mem_of_getElem? (i := 34) rfl)) (hw _ (List.mem_of_getElem? (i := 11) rfl)) (by decide) (by decide)) (g := (mkF m 79 #[.val (.ref o0), .val (.int p1), .val (.long q2), .second, .val (.int p3), .val (.int (i9.toInt32)), s9] [(.int p1), (.int p3), (.long q2), (.int (i9.toInt32)), (.ref o0)])) rfl (by rw [hml]; rfl) (Steps.refl _) (a := o0) (by rw [e9]; exact q13) q13' (argsL := [(.int (i9.toInt32)), (.long q2), (.int p3), (.int p1)]) (rest := []) (lenOf pd_1 rfl) rfl (by show 2 * 0 + _ ≤ _; exact Nat.le_of_eq rfl) (hb hby d5_79) (fun _ _ => ⟨rfl, e9, (by decide : 0 + 0 ≤ _), (by decide : 0 + 0 ≤ _)⟩)
  dsimp only [Pt.U, Pt.locs, Pt.cells, Pt.slots] at X13 l13 y13 z13 st13 hQ13
  subst y13 z13
  obtain ⟨rfl, N13q, Kc13, P13_0, P13_1, P13_2⟩ := hQ13
  have N13 := Fr.app N9 N13q
  rw [← l13] at N13
  have F_ranks_o0_14 : Fld Z T13.heap o0 "com/example/brisk_maze/briskmaze/search/RankedFrontier" "ranks" "[J" (.ref tr) := (F_ranks_o0_10).keep Kc13 (ninS ne_o0_tr (ninS ne_o0_tc (ninS ne_o0_ts nin0)))
  have F_costs_o0_14 : Fld Z T13.heap o0 "com/example/brisk_maze/briskmaze/search/RankedFrontier" "costs" "[I" (.ref tc) := (F_costs_o0_10).keep Kc13 (ninS ne_o0_tr (ninS ne_o0_tc (ninS ne_o0_ts nin0)))
  have F_states_o0_14 : Fld Z T13.heap o0 "com/example/brisk_maze/briskmaze/search/RankedFrontier" "states" "[I" (.ref ts) := (F_states_o0_10).keep Kc13 (ninS ne_o0_tr (ninS ne_o0_tc (ninS ne_o0_ts nin0)))
  have E_o0_14 : Exa Z T13.heap o0 "com/example/brisk_maze/briskmaze/search/RankedFrontier" := (E_o0_10).keep Kc13
  have F_size_o0_14 : Fld Z T13.heap o0 "com/example/brisk_maze/briskmaze/search/RankedFrontier" "size" "I" (.int ((n.toInt32) + (1 : Int32))) := (F_size_o0_10).keep Kc13 (ninS ne_o0_tr (ninS ne_o0_tc (ninS ne_o0_ts nin0)))
  have SZ15 : h0.size ≤ T13.heap.size := Nat.le_trans SZ11 Kc13.1
  have ZZ15 : n0 ≤ T13.heap.size := Nat.le_trans Z0 SZ15
  have K16 : Keep h0 T13.heap [tr, tc, ts, o0] := (K12).trans Kc13 (allS (Or.inl (List.mem_of_getElem? (i := 0) rfl)) (allS (Or.inl (List.mem_of_getElem? (i := 1) rfl)) (allS (Or.inl (List.mem_of_getElem? (i := 2) rfl)) all0)))
  have hfin9 : own_heap (n + 1) (own_up f9 ((i9.toInt32) : Int32).toNatClampNeg (q2, p3, p1)) ∧ own_rr (n + 1) (own_up f9 ((i9.toInt32) : Int32).toNatClampNeg (q2, p3, p1)) (own_up fe n (q2, p3, p1)) := by rw [own_tn (show i9 < 2147483648 by omega)]; exact hh9
  have pre17 : ∀ t, Steps p.tables e below (T13.setTop (mkF m 82 #[.val (.ref o0), .val (.int p1), .val (.long q2), .second, .val (.int p3), .val (.int (i9.toInt32)), s9] [])) t → Steps p.tables e below (s₁.setTop (entryFrame m #[(.ref o0), (.int p1), (.long q2), (.int p3)] 7)) t := fun t k => pre0 t (by
    show Steps p.tables e below (s₁.setTop (mkF m 0 #[.val (.ref o0), .val (.int p1), .val (.long q2), .second, .val (.int p3), .unset, .unset] [])) _
    refine XS.aloadN X0.here hx rfl (hb hby d5_0) rfl rfl ?_
    show Steps p.tables e below (s₁.setTop (mkF m 1 #[.val (.ref o0), .val (.int p1), .val (.long q2), .second, .val (.int p3), .unset, .unset] [(.ref o0)])) _
    refine st1 _ ?_
    show Steps p.tables e below (T1.setTop (mkF m 4 #[.val (.ref o0), .val (.int p1), .val (.long q2), .second, .val (.int p3), .unset, .unset] [(.int (n.toInt32))])) _
    refine XS.aloadN X1.here hx rfl (hb hby d5_4) rfl rfl ?_
    show Steps p.tables e below (T1.setTop (mkF m 5 #[.val (.ref o0), .val (.int p1), .val (.long q2), .second, .val (.int p3), .unset, .unset] [(.ref o0), (.int (n.toInt32))])) _
    refine st2 _ ?_
    show Steps p.tables e below (T2.setTop (mkF m 8 #[.val (.ref o0), .val (.int p1), .val (.long q2), .second, .val (.int p3), .unset, .unset] [(.ref tr), (.int (n.toInt32))])) _
    refine X2.arraylength hx (by rw [e2]; exact Ar3.1) (State.isArrayOf_alike hZ.alike Ar3.2.1) (g := (mkF m 8 #[.val (.ref o0), .val (.int p1), .val (.long q2), .second, .val (.int p3), .unset, .unset] [(.ref tr), (.int (n.toInt32))])) rfl rfl (hb hby d5_8) _ ?_
    rw [own_len Sz3 (z := (64 : Int32)) rfl]
    show Steps p.tables e below (T2.setTop (mkF m 9 #[.val (.ref o0), .val (.int p1), .val (.long q2), .second, .val (.int p3), .unset, .unset] [(.int (64 : Int32)), (.int (n.toInt32))])) _
    refine XS.icmpYes X2.here hx rfl (pc0 := 9) (pc' := 16) rfl (hb hby d5_9) rfl (feq (show ¬ ((n.toInt32) = (64 : Int32)) from own_n64 hn)).2 (by decide) (by decide) ?_
    show Steps p.tables e below (T2.setTop (mkF m 16 #[.val (.ref o0), .val (.int p1), .val (.long q2), .second, .val (.int p3), .unset, .unset] [])) _
    refine XS.aloadN X2.here hx rfl (hb hby d5_16) rfl rfl ?_
    show Steps p.tables e below (T2.setTop (mkF m 17 #[.val (.ref o0), .val (.int p1), .val (.long q2), .second, .val (.int p3), .unset, .unset] [(.ref o0)])) _
    refine XS.dup X2.here hx rfl (hb hby d5_17) rfl rfl ?_
    show Steps p.tables e below (T2.setTop (mkF m 18 #[.val (.ref o0), .val (.int p1), .val (.long q2), .second, .val (.int p3), .unset, .unset] [(.ref o0), (.ref o0)])) _
    refine st4 _ ?_
    show Steps p.tables e below (T4.setTop (mkF m 21 #[.val (.ref o0), .val (.int p1), .val (.long q2), .second, .val (.int p3), .unset, .unset] [(.int (n.toInt32)), (.ref o0)])) _
    refine XS.dupX1 X4.here hx rfl (hb hby d5_21) rfl rfl rfl ?_
    show Steps p.tables e below (T4.setTop (mkF m 22 #[.val (.ref o0), .val (.int p1), .val (.long q2), .second, .val (.int p3), .unset, .unset] [(.int (n.toInt32)), (.ref o0), (.int (n.toInt32))])) _
    refine XS.iconst X4.here hx rfl (hb hby d5_22) ?_
    show Steps p.tables e below (T4.setTop (mkF m 23 #[.val (.ref o0), .val (.int p1), .val (.long q2), .second, .val (.int p3), .unset, .unset] [(.int (1 : Int32)), (.int (n.toInt32)), (.ref o0), (.int (n.toInt32))])) _
    refine XS.iadd X4.here hx rfl (hb hby d5_23) rfl ?_
    show Steps p.tables e below (T4.setTop (mkF m 24 #[.val (.ref o0), .val (.int p1), .val (.long q2), .second, .val (.int p3), .unset, .unset] [(.int ((n.toInt32) + (1 : Int32))), (.ref o0), (.int (n.toInt32))])) _
    refine st5 _ ?_
    show Steps p.tables e below (T5.setTop (mkF m 27 #[.val (.ref o0), .val (.int p1), .val (.long q2), .second, .val (.int p3), .unset, .unset] [(.int (n.toInt32))])) _
    refine XS.istore X5.here hx rfl (hb hby d5_27) rfl (l' := #[.val (.ref o0), .val (.int p1), .val (.long q2), .second, .val (.int p3), .val (.int (n.toInt32)), .unset]) rfl ?_
    show Steps p.tables e below (T5.setTop (mkF m 29 #[.val (.ref o0), .val (.int p1), .val (.long q2), .second, .val (.int p3), .val (.int (n.toInt32)), .unset] [])) _
    refine st9 _ ?_
    show Steps p.tables e below (T9.setTop (mkF m 72 #[.val (.ref o0), .val (.int p1), .val (.long q2), .second, .val (.int p3), .val (.int (i9.toInt32)), s9] [])) _
    refine XS.aloadN X9.here hx rfl (hb hby d5_72) rfl rfl ?_
    show Steps p.tables e below (T9.setTop (mkF m 73 #[.val (.ref o0), .val (.int p1), .val (.long q2), .second, .val (.int p3), .val (.int (i9.toInt32)), s9] [(.ref o0)])) _
    refine XS.iload X9.here hx rfl (hb hby d5_73) rfl ?_
    show Steps p.tables e below (T9.setTop (mkF m 75 #[.val (.ref o0), .val (.int p1), .val (.long q2), .second, .val (.int p3), .val (.int (i9.toInt32)), s9] [(.int (i9.toInt32)), (.ref o0)])) _
    refine XS.lloadN X9.here hx rfl (hb hby d5_75) rfl ?_
    show Steps p.tables e below (T9.setTop (mkF m 76 #[.val (.ref o0), .val (.int p1), .val (.long q2), .second, .val (.int p3), .val (.int (i9.toInt32)), s9] [(.long q2), (.int (i9.toInt32)), (.ref o0)])) _
    refine XS.iload X9.here hx rfl (hb hby d5_76) rfl ?_
    show Steps p.tables e below (T9.setTop (mkF m 78 #[.val (.ref o0), .val (.int p1), .val (.long q2), .second, .val (.int p3), .val (.int (i9.toInt32)), s9] [(.int p3), (.long q2), (.int (i9.toInt32)), (.ref o0)])) _
    refine XS.iloadN X9.here hx rfl (hb hby d5_78) rfl ?_
    show Steps p.tables e below (T9.setTop (mkF m 79 #[.val (.ref o0), .val (.int p1), .val (.long q2), .second, .val (.int p3), .val (.int (i9.toInt32)), s9] [(.int p1), (.int p3), (.long q2), (.int (i9.toInt32)), (.ref o0)])) _
    refine st13.trans ?_
    show Steps p.tables e below (T13.setTop (mkF m 82 #[.val (.ref o0), .val (.int p1), .val (.long q2), .second, .val (.int p3), .val (.int (i9.toInt32)), s9] [])) _
    exact k)
  obtain ⟨fs, hr, hrun, hended, hW, hsame⟩ := X13.leave (v := none) (fun _ => rfl)
  refine ⟨_, _, pre17 _ ?_, hrun, hended, _, _, rfl, ?_, ⟨_, rfl⟩, hW, hsame.mono (by decide) (by decide)⟩
  · exact X13.returnOut hx Bd.returns (hb hby d5_82) hr
  · show Q5 Z o0 p1 q2 p3 tr tc ts fe n h0 n0 _ T13.heap _
    skip
    exact ⟨(own_up f9 ((i9.toInt32) : Int32).toNatClampNeg (q2, p3, p1)), rfl, N13, K16, (own_inc n ▸ F_size_o0_14), F_ranks_o0_14, F_costs_o0_14, F_states_o0_14, P13_0, P13_1, P13_2, hfin9.1, hfin9.2⟩
theorem d9_60 : decode prog_53_method_4_code 60 = .ok (.iload 6, 2) := by decide +kernel
theorem d9_62 : decode prog_53_method_4_code 62 = .ok (.iload 7, 2) := by decide +kernel
theorem d9_64 : decode prog_53_method_4_code 64 = .ok (.if_icmp .ge 93, 3) := by decide +kernel
theorem d9_67 : decode prog_53_method_4_code 67 = .ok (.iconst 2, 1) := by decide +kernel
theorem d9_68 : decode prog_53_method_4_code 68 = .ok (.iload 6, 2) := by decide +kernel
theorem d9_70 : decode prog_53_method_4_code 70 = .ok (.imul, 1) := by decide +kernel
theorem d9_71 : decode prog_53_method_4_code 71 = .ok (.iconst 1, 1) := by decide +kernel
theorem d9_72 : decode prog_53_method_4_code 72 = .ok (.iadd, 1) := by decide +kernel
theorem d9_73 : decode prog_53_method_4_code 73 = .ok (.istore 8, 2) := by decide +kernel
theorem d9_75 : decode prog_53_method_4_code 75 = .ok (.iload 8, 2) := by decide +kernel
theorem d9_77 : decode prog_53_method_4_code 77 = .ok (.iconst 1, 1) := by decide +kernel
theorem d9_78 : decode prog_53_method_4_code 78 = .ok (.iadd, 1) := by decide +kernel
theorem d9_79 : decode prog_53_method_4_code 79 = .ok (.aload_n 0, 1) := by decide +kernel
theorem d9_80 : decode prog_53_method_4_code 80 = .ok (.getfield 20, 3) := by decide +kernel
theorem d9_83 : decode prog_53_method_4_code 83 = .ok (.if_icmp .ge 33, 3) := by decide +kernel
theorem d9_86 : decode prog_53_method_4_code 86 = .ok (.aload_n 0, 1) := by decide +kernel
theorem d9_87 : decode prog_53_method_4_code 87 = .ok (.aload_n 0, 1) := by decide +kernel
theorem d9_88 : decode prog_53_method_4_code 88 = .ok (.getfield 9, 3) := by decide +kernel
theorem d9_91 : decode prog_53_method_4_code 91 = .ok (.iload 8, 2) := by decide +kernel
theorem d9_93 : decode prog_53_method_4_code 93 = .ok (.iconst 1, 1) := by decide +kernel
theorem d9_94 : decode prog_53_method_4_code 94 = .ok (.iadd, 1) := by decide +kernel
theorem d9_95 : decode prog_53_method_4_code 95 = .ok (.laload, 1) := by decide +kernel
theorem d9_96 : decode prog_53_method_4_code 96 = .ok (.aload_n 0, 1) := by decide +kernel
theorem d9_97 : decode prog_53_method_4_code 97 = .ok (.getfield 13, 3) := by decide +kernel
theorem d9_100 : decode prog_53_method_4_code 100 = .ok (.iload 8, 2) := by decide +kernel
theorem d9_102 : decode prog_53_method_4_code 102 = .ok (.iconst 1, 1) := by decide +kernel
theorem d9_103 : decode prog_53_method_4_code 103 = .ok (.iadd, 1) := by decide +kernel
theorem d9_104 : decode prog_53_method_4_code 104 = .ok (.iaload, 1) := by decide +kernel
theorem d9_105 : decode prog_53_method_4_code 105 = .ok (.iload 8, 2) := by decide +kernel
theorem d9_107 : decode prog_53_method_4_code 107 = .ok (.invokevirtual 27, 3) := by decide +kernel
theorem d9_110 : decode prog_53_method_4_code 110 = .ok (.ifCond .eq 6, 3) := by decide +kernel
theorem d9_113 : decode prog_53_method_4_code 113 = .ok (.iinc 8 1, 3) := by decide +kernel
theorem d9_116 : decode prog_53_method_4_code 116 = .ok (.aload_n 0, 1) := by decide +kernel
theorem d9_117 : decode prog_53_method_4_code 117 = .ok (.getfield 9, 3) := by decide +kernel
theorem d9_120 : decode prog_53_method_4_code 120 = .ok (.iload 8, 2) := by decide +kernel
theorem d9_122 : decode prog_53_method_4_code 122 = .ok (.laload, 1) := by decide +kernel
theorem d9_123 : decode prog_53_method_4_code 123 = .ok (.aload_n 0, 1) := by decide +kernel
theorem d9_124 : decode prog_53_method_4_code 124 = .ok (.getfield 13, 3) := by decide +kernel
theorem d9_127 : decode prog_53_method_4_code 127 = .ok (.iload 8, 2) := by decide +kernel
theorem d9_129 : decode prog_53_method_4_code 129 = .ok (.iaload, 1) := by decide +kernel
theorem d9_130 : decode prog_53_method_4_code 130 = .ok (.lload_n 2, 1) := by decide +kernel
theorem d9_131 : decode prog_53_method_4_code 131 = .ok (.iload 4, 2) := by decide +kernel
theorem d9_133 : decode prog_53_method_4_code 133 = .ok (.invokestatic 39, 3) := by decide +kernel
theorem d9_136 : decode prog_53_method_4_code 136 = .ok (.ifCond .ne 6, 3) := by decide +kernel
theorem d9_139 : decode prog_53_method_4_code 139 = .ok (.goto 18, 3) := by decide +kernel
theorem d9_142 : decode prog_53_method_4_code 142 = .ok (.aload_n 0, 1) := by decide +kernel
theorem d9_143 : decode prog_53_method_4_code 143 = .ok (.iload 8, 2) := by decide +kernel
theorem d9_145 : decode prog_53_method_4_code 145 = .ok (.iload 6, 2) := by decide +kernel
theorem d9_147 : decode prog_53_method_4_code 147 = .ok (.invokevirtual 31, 3) := by decide +kernel
theorem d9_150 : decode prog_53_method_4_code 150 = .ok (.iload 8, 2) := by decide +kernel
theorem d9_152 : decode prog_53_method_4_code 152 = .ok (.istore 6, 2) := by decide +kernel
theorem d9_154 : decode prog_53_method_4_code 154 = .ok (.goto (-94), 3) := by decide +kernel
set_option maxRecDepth 65536 in
set_option maxHeartbeats 40000000 in
theorem loop_rem {p : Program} {l : Launch} {e : Env} {s : State} {m : MethodId} {args : Array Value} {below : List Frame} {meth : Method} {c : Code} {Z : State} {a0 : Array Value} (o0 tr tc ts : Addr) (p1 : Int32) (q2 : Int64) (p4 p5 : Int32) (n : Nat) (hn : n < 63) (E0 : Nat → own_E) (n0 : Nat) (g_tr : n0 ≤ tr) (g_tc : n0 ≤ tc) (g_ts : n0 ≤ ts) (ne_o0_tr : o0 ≠ tr) (ne_o0_tc : o0 ≠ tc) (ne_o0_ts : o0 ≠ ts) (ne_tr_tc : tr ≠ tc) (ne_tr_ts : tr ≠ ts) (ne_tc_ts : tc ≠ ts) (hx : p.tables.exec = Jvm.exec) (hZ : Z.Warmed39 s.vm) (hw : ∀ d ∈ tables_1, d.before a0 Z = true) (hby : c.code = prog_53_method_4_code) (hml : c.maxLocals = 9) (hown : s.vm.findClass "com/example/brisk_maze/briskmaze/search/RankedFrontier" = some m.cls) :
    ∀ (k i : Nat) (fe : Nat → own_E) (s8 : Slot) (T0 : State) (h0 : Heap) (locs : List Loc), n - i = k → One s8 → (n = 0 ∧ i = 0) ∨ own_dnI n i E0 fe (q2, p4, p5) → Stand p l e ({ frames := 2, cells := 0, slots := 0, locals := 40 } : Room) s m args below meth c T0 locs 0 0 → T0.heap = h0 → Fr n0 locs → n0 ≤ h0.size → Fld Z h0 o0 "com/example/brisk_maze/briskmaze/search/RankedFrontier" "ranks" "[J" (.ref tr) → Fld Z h0 o0 "com/example/brisk_maze/briskmaze/search/RankedFrontier" "costs" "[I" (.ref tc) → Fld Z h0 o0 "com/example/brisk_maze/briskmaze/search/RankedFrontier" "states" "[I" (.ref ts) → Exa Z h0 o0 "com/example/brisk_maze/briskmaze/search/RankedFrontier" → Fld Z h0 o0 "com/example/brisk_maze/briskmaze/search/RankedFrontier" "size" "I" (.int (n.toInt32)) → own_A Z h0 tr .long 64 (fun kk => (.long (fe kk).1)) → own_A Z h0 tc .int 64 (fun kk => (.int (fe kk).2.1)) → own_A Z h0 ts .int 64 (fun kk => (.int (fe kk).2.2)) →
      ∃ (T1 : State) (h1 : Heap) (locs1 : List Loc) (i1 : Nat) (f1 : Nat → own_E) (s1 : Slot), Stand p l e ({ frames := 2, cells := 0, slots := 0, locals := 40 } : Room) s m args below meth c T1 locs1 0 0 ∧ T1.heap = h1 ∧ Fr n0 locs1 ∧ Keep h0 h1 [tr, tc, ts] ∧ own_A Z h1 tr .long 64 (fun kk => (.long (f1 kk).1)) ∧ own_A Z h1 tc .int 64 (fun kk => (.int (f1 kk).2.1)) ∧ own_A Z h1 ts .int 64 (fun kk => (.int (f1 kk).2.2)) ∧ i1 < 64 ∧ (own_heap n (own_up f1 i1 (q2, p4, p5)) ∧ own_rr n (own_up f1 i1 (q2, p4, p5)) E0) ∧ ∀ t, Steps p.tables e below (T1.setTop (mkF m 157 #[.val (.ref o0), .val (.int p1), .val (.long q2), .second, .val (.int p4), .val (.int p5), .val (.int (i1.toInt32)), .val (.int ((n / 2).toInt32)), s1] [])) t → Steps p.tables e below (T0.setTop (mkF m 60 #[.val (.ref o0), .val (.int p1), .val (.long q2), .second, .val (.int p4), .val (.int p5), .val (.int (i.toInt32)), .val (.int ((n / 2).toInt32)), s8] [])) t := by
  intro k
  induction k using Nat.strongRecOn with
  | ind k ih =>
    intro i fe s8 T0 h0 locs hk hs8 hI0 X0 e0 N0 Z0 F_ranks_o0 F_costs_o0 F_states_o0 E_o0 F_size_o0 A_tr A_tc A_ts
    have hin : i ≤ n := hI0.elim (fun q => by omega) (fun q => Nat.le_of_lt q.1)
    have pre0 : ∀ t, Steps p.tables e below (T0.setTop (mkF m 60 #[.val (.ref o0), .val (.int p1), .val (.long q2), .second, .val (.int p4), .val (.int p5), .val (.int (i.toInt32)), .val (.int ((n / 2).toInt32)), s8] [])) t → Steps p.tables e below (T0.setTop (mkF m 60 #[.val (.ref o0), .val (.int p1), .val (.long q2), .second, .val (.int p4), .val (.int p5), .val (.int (i.toInt32)), .val (.int ((n / 2).toInt32)), s8] [])) t := fun t k => k
    have pre1 : ∀ t, Steps p.tables e below (T0.setTop (mkF m 64 #[.val (.ref o0), .val (.int p1), .val (.long q2), .second, .val (.int p4), .val (.int p5), .val (.int (i.toInt32)), .val (.int ((n / 2).toInt32)), s8] [(.int ((n / 2).toInt32)), (.int (i.toInt32))])) t → Steps p.tables e below (T0.setTop (mkF m 60 #[.val (.ref o0), .val (.int p1), .val (.long q2), .second, .val (.int p4), .val (.int p5), .val (.int (i.toInt32)), .val (.int ((n / 2).toInt32)), s8] [])) t := fun t k => pre0 t (by
      show Steps p.tables e below (T0.setTop (mkF m 60 #[.val (.ref o0), .val (.int p1), .val (.long q2), .second, .val (.int p4), .val (.int p5), .val (.int (i.toInt32)), .val (.int ((n / 2).toInt32)), s8] [])) _
      refine XS.iload X0.here hx rfl (hb hby d9_60) rfl ?_
      show Steps p.tables e below (T0.setTop (mkF m 62 #[.val (.ref o0), .val (.int p1), .val (.long q2), .second, .val (.int p4), .val (.int p5), .val (.int (i.toInt32)), .val (.int ((n / 2).toInt32)), s8] [(.int (i.toInt32))])) _
      refine XS.iload X0.here hx rfl (hb hby d9_62) rfl ?_
      show Steps p.tables e below (T0.setTop (mkF m 64 #[.val (.ref o0), .val (.int p1), .val (.long q2), .second, .val (.int p4), .val (.int p5), .val (.int (i.toInt32)), .val (.int ((n / 2).toInt32)), s8] [(.int ((n / 2).toInt32)), (.int (i.toInt32))])) _
      exact k)
    by_cases hs2 : (i.toInt32) < ((n / 2).toInt32)
    · have hlt : i < n / 2 := (own_ltn (by omega) (by omega)).mp hs2
      have hI : own_dnI n i E0 fe (q2, p4, p5) := by
        rcases hI0 with q | q
        · omega
        · exact q
      have pre3 : ∀ t, Steps p.tables e below (T0.setTop (mkF m 75 #[.val (.ref o0), .val (.int p1), .val (.long q2), .second, .val (.int p4), .val (.int p5), .val (.int (i.toInt32)), .val (.int ((n / 2).toInt32)), .val (.int (((2 : Int32) * (i.toInt32)) + (1 : Int32)))] [])) t → Steps p.tables e below (T0.setTop (mkF m 60 #[.val (.ref o0), .val (.int p1), .val (.long q2), .second, .val (.int p4), .val (.int p5), .val (.int (i.toInt32)), .val (.int ((n / 2).toInt32)), s8] [])) t := fun t k => pre1 t (by
        refine XS.icmpNo X0.here hx rfl (hb hby d9_64) rfl (tlt hs2).2.1 ?_
        show Steps p.tables e below (T0.setTop (mkF m 67 #[.val (.ref o0), .val (.int p1), .val (.long q2), .second, .val (.int p4), .val (.int p5), .val (.int (i.toInt32)), .val (.int ((n / 2).toInt32)), s8] [])) _
        refine XS.iconst X0.here hx rfl (hb hby d9_67) ?_
        show Steps p.tables e below (T0.setTop (mkF m 68 #[.val (.ref o0), .val (.int p1), .val (.long q2), .second, .val (.int p4), .val (.int p5), .val (.int (i.toInt32)), .val (.int ((n / 2).toInt32)), s8] [(.int (2 : Int32))])) _
        refine XS.iload X0.here hx rfl (hb hby d9_68) rfl ?_
        show Steps p.tables e below (T0.setTop (mkF m 70 #[.val (.ref o0), .val (.int p1), .val (.long q2), .second, .val (.int p4), .val (.int p5), .val (.int (i.toInt32)), .val (.int ((n / 2).toInt32)), s8] [(.int (i.toInt32)), (.int (2 : Int32))])) _
        refine XS.imul X0.here hx rfl (hb hby d9_70) rfl ?_
        show Steps p.tables e below (T0.setTop (mkF m 71 #[.val (.ref o0), .val (.int p1), .val (.long q2), .second, .val (.int p4), .val (.int p5), .val (.int (i.toInt32)), .val (.int ((n / 2).toInt32)), s8] [(.int ((2 : Int32) * (i.toInt32)))])) _
        refine XS.iconst X0.here hx rfl (hb hby d9_71) ?_
        show Steps p.tables e below (T0.setTop (mkF m 72 #[.val (.ref o0), .val (.int p1), .val (.long q2), .second, .val (.int p4), .val (.int p5), .val (.int (i.toInt32)), .val (.int ((n / 2).toInt32)), s8] [(.int (1 : Int32)), (.int ((2 : Int32) * (i.toInt32)))])) _
        refine XS.iadd X0.here hx rfl (hb hby d9_72) rfl ?_
        show Steps p.tables e below (T0.setTop (mkF m 73 #[.val (.ref o0), .val (.int p1), .val (.long q2), .second, .val (.int p4), .val (.int p5), .val (.int (i.toInt32)), .val (.int ((n / 2).toInt32)), s8] [(.int (((2 : Int32) * (i.toInt32)) + (1 : Int32)))])) _
        refine XS.istore X0.here hx rfl (hb hby d9_73) rfl (l' := #[.val (.ref o0), .val (.int p1), .val (.long q2), .second, .val (.int p4), .val (.int p5), .val (.int (i.toInt32)), .val (.int ((n / 2).toInt32)), .val (.int (((2 : Int32) * (i.toInt32)) + (1 : Int32)))]) (XS.store1 rfl hs8 rfl) ?_
        show Steps p.tables e below (T0.setTop (mkF m 75 #[.val (.ref o0), .val (.int p1), .val (.long q2), .second, .val (.int p4), .val (.int p5), .val (.int (i.toInt32)), .val (.int ((n / 2).toInt32)), .val (.int (((2 : Int32) * (i.toInt32)) + (1 : Int32)))] [])) _
        exact k)
      have hre4 : (((2 : Int32) * (i.toInt32)) + (1 : Int32)) = ((2 * i + 1).toInt32) := own_two64 ⟨i, by omega⟩
      have pre4 : ∀ t, Steps p.tables e below (T0.setTop (mkF m 75 #[.val (.ref o0), .val (.int p1), .val (.long q2), .second, .val (.int p4), .val (.int p5), .val (.int (i.toInt32)), .val (.int ((n / 2).toInt32)), .val (.int ((2 * i + 1).toInt32))] [])) t → Steps p.tables e below (T0.setTop (mkF m 60 #[.val (.ref o0), .val (.int p1), .val (.long q2), .second, .val (.int p4), .val (.int p5), .val (.int (i.toInt32)), .val (.int ((n / 2).toInt32)), s8] [])) t := fun t k => pre3 t (by rw [hre4]; exact k)
      obtain ⟨T5, X5, e5, st5⟩ := getF X0 hx hZ hown (host := "") (Or.inl (hw _ (List.mem_of_getElem? (i := 29) rfl))) Via.refl e0 F_size_o0 (g := (mkF m 80 #[.val (.ref o0), .val (.int p1), .val (.long q2), .second, .val (.int p4), .val (.int p5), .val (.int (i.toInt32)), .val (.int ((n / 2).toInt32)), .val (.int ((2 * i + 1).toInt32))] [(.ref o0), (.int (((2 * i + 1).toInt32) + (1 : Int32)))])) rfl rfl (hb hby d9_80)
      have pre6 : ∀ t, Steps p.tables e below (T5.setTop (mkF m 83 #[.val (.ref o0), .val (.int p1), .val (.long q2), .second, .val (.int p4), .val (.int p5), .val (.int (i.toInt32)), .val (.int ((n / 2).toInt32)), .val (.int ((2 * i + 1).toInt32))] [(.int (n.toInt32)), (.int (((2 * i + 1).toInt32) + (1 : Int32)))])) t → Steps p.tables e below (T0.setTop (mkF m 60 #[.val (.ref o0), .val (.int p1), .val (.long q2), .second, .val (.int p4), .val (.int p5), .val (.int (i.toInt32)), .val (.int ((n / 2).toInt32)), s8] [])) t := fun t k => pre4 t (by
        show Steps p.tables e below (T0.setTop (mkF m 75 #[.val (.ref o0), .val (.int p1), .val (.long q2), .second, .val (.int p4), .val (.int p5), .val (.int (i.toInt32)), .val (.int ((n / 2).toInt32)), .val (.int ((2 * i + 1).toInt32))] [])) _
        refine XS.iload X0.here hx rfl (hb hby d9_75) rfl ?_
        show Steps p.tables e below (T0.setTop (mkF m 77 #[.val (.ref o0), .val (.int p1), .val (.long q2), .second, .val (.int p4), .val (.int p5), .val (.int (i.toInt32)), .val (.int ((n / 2).toInt32)), .val (.int ((2 * i + 1).toInt32))] [(.int ((2 * i + 1).toInt32))])) _
        refine XS.iconst X0.here hx rfl (hb hby d9_77) ?_
        show Steps p.tables e below (T0.setTop (mkF m 78 #[.val (.ref o0), .val (.int p1), .val (.long q2), .second, .val (.int p4), .val (.int p5), .val (.int (i.toInt32)), .val (.int ((n / 2).toInt32)), .val (.int ((2 * i + 1).toInt32))] [(.int (1 : Int32)), (.int ((2 * i + 1).toInt32))])) _
        refine XS.iadd X0.here hx rfl (hb hby d9_78) rfl ?_
        show Steps p.tables e below (T0.setTop (mkF m 79 #[.val (.ref o0), .val (.int p1), .val (.long q2), .second, .val (.int p4), .val (.int p5), .val (.int (i.toInt32)), .val (.int ((n / 2).toInt32)), .val (.int ((2 * i + 1).toInt32))] [(.int (((2 * i + 1).toInt32) + (1 : Int32)))])) _
        refine XS.aloadN X0.here hx rfl (hb hby d9_79) rfl rfl ?_
        show Steps p.tables e below (T0.setTop (mkF m 80 #[.val (.ref o0), .val (.int p1), .val (.long q2), .second, .val (.int p4), .val (.int p5), .val (.int (i.toInt32)), .val (.int ((n / 2).toInt32)), .val (.int ((2 * i + 1).toInt32))] [(.ref o0), (.int (((2 * i + 1).toInt32) + (1 : Int32)))])) _
        refine st5 _ ?_
        show Steps p.tables e below (T5.setTop (mkF m 83 #[.val (.ref o0), .val (.int p1), .val (.long q2), .second, .val (.int p4), .val (.int p5), .val (.int (i.toInt32)), .val (.int ((n / 2).toInt32)), .val (.int ((2 * i + 1).toInt32))] [(.int (n.toInt32)), (.int (((2 * i + 1).toInt32) + (1 : Int32)))])) _
        exact k)
      by_cases hs7 : (((2 * i + 1).toInt32) + (1 : Int32)) < (n.toInt32)
      · obtain ⟨T8, X8, e8, st8⟩ := getF X5 hx hZ hown (host := "") (Or.inl (hw _ (List.mem_of_getElem? (i := 18) rfl))) Via.refl e5 F_ranks_o0 (g := (mkF m 88 #[.val (.ref o0), .val (.int p1), .val (.long q2), .second, .val (.int p4), .val (.int p5), .val (.int (i.toInt32)), .val (.int ((n / 2).toInt32)), .val (.int ((2 * i + 1).toInt32))] [(.ref o0), (.ref o0)])) rfl rfl (hb hby d9_88)
        have qa9 := A_tr
        obtain ⟨c9, Ar9, Sz9, H9⟩ := qa9
        have hi10 : 0 ≤ ((((2 * i + 1).toInt32) + (1 : Int32)) : Int32).toInt ∧ ((((2 * i + 1).toInt32) + (1 : Int32)) : Int32).toInt < (64 : Nat) := (by rw [own_inc]; exact own_bd (show 2 * i + 1 + 1 < 64 by have q := hs7; rw [own_inc] at q; have r := (own_ltn (by omega) (by omega)).mp q; omega) (by decide))
        have hl10 : c9.slots[((((2 * i + 1).toInt32) + (1 : Int32)) : Int32).toNatClampNeg]? = some (.long ((fe ((((2 * i + 1).toInt32) + (1 : Int32)) : Int32).toNatClampNeg).1)) := H9 _ (own_ix hi10)
        obtain ⟨T11, X11, e11, st11⟩ := getF X8 hx hZ hown (host := "") (Or.inl (hw _ (List.mem_of_getElem? (i := 20) rfl))) Via.refl e8 F_costs_o0 (g := (mkF m 97 #[.val (.ref o0), .val (.int p1), .val (.long q2), .second, .val (.int p4), .val (.int p5), .val (.int (i.toInt32)), .val (.int ((n / 2).toInt32)), .val (.int ((2 * i + 1).toInt32))] [(.ref o0), (.long ((fe ((((2 * i + 1).toInt32) + (1 : Int32)) : Int32).toNatClampNeg).1)), (.ref o0)])) rfl rfl (hb hby d9_97)
        have qa12 := A_tc
        obtain ⟨c12, Ar12, Sz12, H12⟩ := qa12
        have hi13 : 0 ≤ ((((2 * i + 1).toInt32) + (1 : Int32)) : Int32).toInt ∧ ((((2 * i + 1).toInt32) + (1 : Int32)) : Int32).toInt < (64 : Nat) := (by rw [own_inc]; exact own_bd (show 2 * i + 1 + 1 < 64 by have q := hs7; rw [own_inc] at q; have r := (own_ltn (by omega) (by omega)).mp q; omega) (by decide))
        have hl13 : c12.slots[((((2 * i + 1).toInt32) + (1 : Int32)) : Int32).toNatClampNeg]? = some (.int ((fe ((((2 * i + 1).toInt32) + (1 : Int32)) : Int32).toNatClampNeg).2.1)) := H12 _ (own_ix hi13)
        obtain ⟨cq14, q14, q14'⟩ := (E_o0).cell
        obtain ⟨_, _, ⟨T14, L14, k14, n14⟩, -, X14, ⟨Lc14, hQ14, l14, y14, z14⟩, st14⟩ := X11.privateBack hx (y := (⟨"com/example/brisk_maze/briskmaze/search/RankedFrontier", "precedes", "(JII)Z"⟩ : MethodName)) hown (mvT hZ (hw _ (List.mem_of_getElem? (i := 35) rfl))) (mvT hZ (hw _ (List.mem_of_getElem? (i := 36) rfl))) (own_selp (y := (⟨"com/example/brisk_maze/briskmaze/search/RankedFrontier", "precedes", "(JII)Z"⟩ : MethodName)) (mvT hZ (hw _ (List.mem_of_getElem? (i := 10) rfl))) (Cond.privateMethod_at (mvP hZ (hw _ (List.mem_of_getElem? (i := 37) rfl)) (args := #[]))) (mvT hZ (hw _ (List.mem_of_getElem? (i := 36) rfl))) (by decide)) (Cond.privateMethod_at (mvP hZ (hw _ (List.mem_of_getElem? (i := 37) rfl)) (args := #[]))) (mvT hZ (hw _ (List.mem_of_getElem? (i := 38) rfl))) (by decide) (backOf (W := 0) (rm7 l Z a0 hw [] o0 ((fe ((((2 * i + 1).toInt32) + (1 : Int32)) : Int32).toNatClampNeg).1) ((fe ((((2 * i + 1).toInt32) + (1 : Int32)) : Int32).toNatClampNeg).2.1) ((2 * i + 1).toInt32) tr tc fe h0 n0 Z0 F_ranks_o0 F_costs_o0 A_tr A_tc (own_bd (show 2 * i + 1 < 64 by omega) (by decide))) hZ (hw _ (List.mem_of_getElem? (i := 38) rfl)) (hw _ (List.mem_of_getElem? (i := 11) rfl)) (by decide) (by decide)) (g := (mkF m 107 #[.val (.ref o0), .val (.int p1), .val (.long q2), .second, .val (.int p4), .val (.int p5), .val (.int (i.toInt32)), .val (.int ((n / 2).toInt32)), .val (.int ((2 * i + 1).toInt32))] [(.int ((2 * i + 1).toInt32)), (.int ((fe ((((2 * i + 1).toInt32) + (1 : Int32)) : Int32).toNatClampNeg).2.1)), (.long ((fe ((((2 * i + 1).toInt32) + (1 : Int32)) : Int32).toNatClampNeg).1)), (.ref o0)])) rfl (by rw [hml]; rfl) (Steps.refl _) (a := o0) (by rw [e11]; exact q14) q14' (argsL := [(.long ((fe ((((2 * i + 1).toInt32) + (1 : Int32)) : Int32).toNatClampNeg).1)), (.int ((fe ((((2 * i + 1).toInt32) + (1 : Int32)) : Int32).toNatClampNeg).2.1)), (.int ((2 * i + 1).toInt32))]) (rest := []) (lenOf pd_2 rfl) rfl (by show 2 * 0 + _ ≤ _; exact Nat.le_of_eq rfl) (hb hby d9_107) (fun _ _ => ⟨rfl, e11, (by decide : 0 + 0 ≤ _), (by decide : 0 + 0 ≤ _)⟩)
        dsimp only [Pt.U, Pt.locs, Pt.cells, Pt.slots] at X14 l14 y14 z14 st14 hQ14
        subst y14 z14
        obtain ⟨rfl, N14q, hh14⟩ := hQ14
        have N14 := Fr.app N0 N14q
        rw [← l14] at N14
        have pre15 : ∀ t, Steps p.tables e below (T14.setTop (mkF m 110 #[.val (.ref o0), .val (.int p1), .val (.long q2), .second, .val (.int p4), .val (.int p5), .val (.int (i.toInt32)), .val (.int ((n / 2).toInt32)), .val (.int ((2 * i + 1).toInt32))] [(.int ((f8_ret ((fe ((((2 * i + 1).toInt32) + (1 : Int32)) : Int32).toNatClampNeg).1) ((fe ((((2 * i + 1).toInt32) + (1 : Int32)) : Int32).toNatClampNeg).2.1) ((fe (((2 * i + 1).toInt32) : Int32).toNatClampNeg).1) ((fe (((2 * i + 1).toInt32) : Int32).toNatClampNeg).2.1)) &&& 1))])) t → Steps p.tables e below (T0.setTop (mkF m 60 #[.val (.ref o0), .val (.int p1), .val (.long q2), .second, .val (.int p4), .val (.int p5), .val (.int (i.toInt32)), .val (.int ((n / 2).toInt32)), s8] [])) t := fun t k => pre6 t (by
          refine XS.icmpNo X5.here hx rfl (hb hby d9_83) rfl (tlt hs7).2.1 ?_
          show Steps p.tables e below (T5.setTop (mkF m 86 #[.val (.ref o0), .val (.int p1), .val (.long q2), .second, .val (.int p4), .val (.int p5), .val (.int (i.toInt32)), .val (.int ((n / 2).toInt32)), .val (.int ((2 * i + 1).toInt32))] [])) _
          refine XS.aloadN X5.here hx rfl (hb hby d9_86) rfl rfl ?_
          show Steps p.tables e below (T5.setTop (mkF m 87 #[.val (.ref o0), .val (.int p1), .val (.long q2), .second, .val (.int p4), .val (.int p5), .val (.int (i.toInt32)), .val (.int ((n / 2).toInt32)), .val (.int ((2 * i + 1).toInt32))] [(.ref o0)])) _
          refine XS.aloadN X5.here hx rfl (hb hby d9_87) rfl rfl ?_
          show Steps p.tables e below (T5.setTop (mkF m 88 #[.val (.ref o0), .val (.int p1), .val (.long q2), .second, .val (.int p4), .val (.int p5), .val (.int (i.toInt32)), .val (.int ((n / 2).toInt32)), .val (.int ((2 * i + 1).toInt32))] [(.ref o0), (.ref o0)])) _
          refine st8 _ ?_
          show Steps p.tables e below (T8.setTop (mkF m 91 #[.val (.ref o0), .val (.int p1), .val (.long q2), .second, .val (.int p4), .val (.int p5), .val (.int (i.toInt32)), .val (.int ((n / 2).toInt32)), .val (.int ((2 * i + 1).toInt32))] [(.ref tr), (.ref o0)])) _
          refine XS.iload X8.here hx rfl (hb hby d9_91) rfl ?_
          show Steps p.tables e below (T8.setTop (mkF m 93 #[.val (.ref o0), .val (.int p1), .val (.long q2), .second, .val (.int p4), .val (.int p5), .val (.int (i.toInt32)), .val (.int ((n / 2).toInt32)), .val (.int ((2 * i + 1).toInt32))] [(.int ((2 * i + 1).toInt32)), (.ref tr), (.ref o0)])) _
          refine XS.iconst X8.here hx rfl (hb hby d9_93) ?_
          show Steps p.tables e below (T8.setTop (mkF m 94 #[.val (.ref o0), .val (.int p1), .val (.long q2), .second, .val (.int p4), .val (.int p5), .val (.int (i.toInt32)), .val (.int ((n / 2).toInt32)), .val (.int ((2 * i + 1).toInt32))] [(.int (1 : Int32)), (.int ((2 * i + 1).toInt32)), (.ref tr), (.ref o0)])) _
          refine XS.iadd X8.here hx rfl (hb hby d9_94) rfl ?_
          show Steps p.tables e below (T8.setTop (mkF m 95 #[.val (.ref o0), .val (.int p1), .val (.long q2), .second, .val (.int p4), .val (.int p5), .val (.int (i.toInt32)), .val (.int ((n / 2).toInt32)), .val (.int ((2 * i + 1).toInt32))] [(.int (((2 * i + 1).toInt32) + (1 : Int32))), (.ref tr), (.ref o0)])) _
          refine X8.laload hx (j := (((2 * i + 1).toInt32) + (1 : Int32))) (v := (.long ((fe ((((2 * i + 1).toInt32) + (1 : Int32)) : Int32).toNatClampNeg).1))) (by rw [e8]; exact Ar9.1) (State.isArrayOf_alike hZ.alike Ar9.2.1) Ar9.2.2 (own_in Sz9 hi10) hl10 (g := (mkF m 95 #[.val (.ref o0), .val (.int p1), .val (.long q2), .second, .val (.int p4), .val (.int p5), .val (.int (i.toInt32)), .val (.int ((n / 2).toInt32)), .val (.int ((2 * i + 1).toInt32))] [(.int (((2 * i + 1).toInt32) + (1 : Int32))), (.ref tr), (.ref o0)])) rfl rfl (hb hby d9_95) _ ?_
          show Steps p.tables e below (T8.setTop (mkF m 96 #[.val (.ref o0), .val (.int p1), .val (.long q2), .second, .val (.int p4), .val (.int p5), .val (.int (i.toInt32)), .val (.int ((n / 2).toInt32)), .val (.int ((2 * i + 1).toInt32))] [(.long ((fe ((((2 * i + 1).toInt32) + (1 : Int32)) : Int32).toNatClampNeg).1)), (.ref o0)])) _
          refine XS.aloadN X8.here hx rfl (hb hby d9_96) rfl rfl ?_
          show Steps p.tables e below (T8.setTop (mkF m 97 #[.val (.ref o0), .val (.int p1), .val (.long q2), .second, .val (.int p4), .val (.int p5), .val (.int (i.toInt32)), .val (.int ((n / 2).toInt32)), .val (.int ((2 * i + 1).toInt32))] [(.ref o0), (.long ((fe ((((2 * i + 1).toInt32) + (1 : Int32)) : Int32).toNatClampNeg).1)), (.ref o0)])) _
          refine st11 _ ?_
          show Steps p.tables e below (T11.setTop (mkF m 100 #[.val (.ref o0), .val (.int p1), .val (.long q2), .second, .val (.int p4), .val (.int p5), .val (.int (i.toInt32)), .val (.int ((n / 2).toInt32)), .val (.int ((2 * i + 1).toInt32))] [(.ref tc), (.long ((fe ((((2 * i + 1).toInt32) + (1 : Int32)) : Int32).toNatClampNeg).1)), (.ref o0)])) _
          refine XS.iload X11.here hx rfl (hb hby d9_100) rfl ?_
          show Steps p.tables e below (T11.setTop (mkF m 102 #[.val (.ref o0), .val (.int p1), .val (.long q2), .second, .val (.int p4), .val (.int p5), .val (.int (i.toInt32)), .val (.int ((n / 2).toInt32)), .val (.int ((2 * i + 1).toInt32))] [(.int ((2 * i + 1).toInt32)), (.ref tc), (.long ((fe ((((2 * i + 1).toInt32) + (1 : Int32)) : Int32).toNatClampNeg).1)), (.ref o0)])) _
          refine XS.iconst X11.here hx rfl (hb hby d9_102) ?_
          show Steps p.tables e below (T11.setTop (mkF m 103 #[.val (.ref o0), .val (.int p1), .val (.long q2), .second, .val (.int p4), .val (.int p5), .val (.int (i.toInt32)), .val (.int ((n / 2).toInt32)), .val (.int ((2 * i + 1).toInt32))] [(.int (1 : Int32)), (.int ((2 * i + 1).toInt32)), (.ref tc), (.long ((fe ((((2 * i + 1).toInt32) + (1 : Int32)) : Int32).toNatClampNeg).1)), (.ref o0)])) _
          refine XS.iadd X11.here hx rfl (hb hby d9_103) rfl ?_
          show Steps p.tables e below (T11.setTop (mkF m 104 #[.val (.ref o0), .val (.int p1), .val (.long q2), .second, .val (.int p4), .val (.int p5), .val (.int (i.toInt32)), .val (.int ((n / 2).toInt32)), .val (.int ((2 * i + 1).toInt32))] [(.int (((2 * i + 1).toInt32) + (1 : Int32))), (.ref tc), (.long ((fe ((((2 * i + 1).toInt32) + (1 : Int32)) : Int32).toNatClampNeg).1)), (.ref o0)])) _
          refine X11.iaload hx (j := (((2 * i + 1).toInt32) + (1 : Int32))) (v := (.int ((fe ((((2 * i + 1).toInt32) + (1 : Int32)) : Int32).toNatClampNeg).2.1))) (by rw [e11]; exact Ar12.1) (State.isArrayOf_alike hZ.alike Ar12.2.1) Ar12.2.2 (own_in Sz12 hi13) hl13 (g := (mkF m 104 #[.val (.ref o0), .val (.int p1), .val (.long q2), .second, .val (.int p4), .val (.int p5), .val (.int (i.toInt32)), .val (.int ((n / 2).toInt32)), .val (.int ((2 * i + 1).toInt32))] [(.int (((2 * i + 1).toInt32) + (1 : Int32))), (.ref tc), (.long ((fe ((((2 * i + 1).toInt32) + (1 : Int32)) : Int32).toNatClampNeg).1)), (.ref o0)])) rfl rfl (hb hby d9_104) _ ?_
          show Steps p.tables e below (T11.setTop (mkF m 105 #[.val (.ref o0), .val (.int p1), .val (.long q2), .second, .val (.int p4), .val (.int p5), .val (.int (i.toInt32)), .val (.int ((n / 2).toInt32)), .val (.int ((2 * i + 1).toInt32))] [(.int ((fe ((((2 * i + 1).toInt32) + (1 : Int32)) : Int32).toNatClampNeg).2.1)), (.long ((fe ((((2 * i + 1).toInt32) + (1 : Int32)) : Int32).toNatClampNeg).1)), (.ref o0)])) _
          refine XS.iload X11.here hx rfl (hb hby d9_105) rfl ?_
          show Steps p.tables e below (T11.setTop (mkF m 107 #[.val (.ref o0), .val (.int p1), .val (.long q2), .second, .val (.int p4), .val (.int p5), .val (.int (i.toInt32)), .val (.int ((n / 2).toInt32)), .val (.int ((2 * i + 1).toInt32))] [(.int ((2 * i + 1).toInt32)), (.int ((fe ((((2 * i + 1).toInt32) + (1 : Int32)) : Int32).toNatClampNeg).2.1)), (.long ((fe ((((2 * i + 1).toInt32) + (1 : Int32)) : Int32).toNatClampNeg).1)), (.ref o0)])) _
          refine st14.trans ?_
          show Steps p.tables e below (T14.setTop (mkF m 110 #[.val (.ref o0), .val (.int p1), .val (.long q2), .second, .val (.int p4), .val (.int p5), .val (.int (i.toInt32)), .val (.int ((n / 2).toInt32)), .val (.int ((2 * i + 1).toInt32))] [(.int ((f8_ret ((fe ((((2 * i + 1).toInt32) + (1 : Int32)) : Int32).toNatClampNeg).1) ((fe ((((2 * i + 1).toInt32) + (1 : Int32)) : Int32).toNatClampNeg).2.1) ((fe (((2 * i + 1).toInt32) : Int32).toNatClampNeg).1) ((fe (((2 * i + 1).toInt32) : Int32).toNatClampNeg).2.1)) &&& 1))])) _
          exact k)
        by_cases hs16 : ((f8_ret ((fe ((((2 * i + 1).toInt32) + (1 : Int32)) : Int32).toNatClampNeg).1) ((fe ((((2 * i + 1).toInt32) + (1 : Int32)) : Int32).toNatClampNeg).2.1) ((fe (((2 * i + 1).toInt32) : Int32).toNatClampNeg).1) ((fe (((2 * i + 1).toInt32) : Int32).toNatClampNeg).2.1)) &&& 1) = (0 : Int32)
        · have h83 : 2 * i + 2 < n := (own_ltn (by omega) (by omega)).mp (by have q := hs7; rw [own_inc] at q; exact q)
          have hnb : ¬ own_bf (fe (2 * i + 2)) (fe (2 * i + 1)) := (own_pv (fe (2 * i + 2)).1 (fe (2 * i + 2)).2.1 (fe (2 * i + 2)).2.2 (fe (2 * i + 1))).mp (by have q := hs16; rw [own_inc, own_tn (show 2 * i + 1 + 1 < 2147483648 by omega), own_tn (show 2 * i + 1 < 2147483648 by omega)] at q; exact q)
          have hm : ∀ j, 0 < j → j < n → (j - 1) / 2 = i → ¬ own_bf (fe j) (fe (2 * i + 1)) := fun j j0 j1 j2 => by
            rcases (show j = 2 * i + 1 ∨ j = 2 * i + 2 by omega) with q | q
            · rw [q]; exact own_bf_irr _
            · rw [q]; exact hnb
          have hcn : (2 * i + 1) < n := by omega
          obtain ⟨T17, X17, e17, st17⟩ := getF X14 hx hZ hown (host := "") (Or.inl (hw _ (List.mem_of_getElem? (i := 18) rfl))) Via.refl hh14 F_ranks_o0 (g := (mkF m 117 #[.val (.ref o0), .val (.int p1), .val (.long q2), .second, .val (.int p4), .val (.int p5), .val (.int (i.toInt32)), .val (.int ((n / 2).toInt32)), .val (.int ((2 * i + 1).toInt32))] [(.ref o0)])) rfl rfl (hb hby d9_117)
          have qa18 := A_tr
          obtain ⟨c18, Ar18, Sz18, H18⟩ := qa18
          have hi19 : 0 ≤ (((2 * i + 1).toInt32) : Int32).toInt ∧ (((2 * i + 1).toInt32) : Int32).toInt < (64 : Nat) := (own_bd (show (2 * i + 1) < 64 by omega) (by decide))
          have hl19 : c18.slots[(((2 * i + 1).toInt32) : Int32).toNatClampNeg]? = some (.long ((fe (((2 * i + 1).toInt32) : Int32).toNatClampNeg).1)) := H18 _ (own_ix hi19)
          obtain ⟨T20, X20, e20, st20⟩ := getF X17 hx hZ hown (host := "") (Or.inl (hw _ (List.mem_of_getElem? (i := 20) rfl))) Via.refl e17 F_costs_o0 (g := (mkF m 124 #[.val (.ref o0), .val (.int p1), .val (.long q2), .second, .val (.int p4), .val (.int p5), .val (.int (i.toInt32)), .val (.int ((n / 2).toInt32)), .val (.int ((2 * i + 1).toInt32))] [(.ref o0), (.long ((fe (((2 * i + 1).toInt32) : Int32).toNatClampNeg).1))])) rfl rfl (hb hby d9_124)
          have qa21 := A_tc
          obtain ⟨c21, Ar21, Sz21, H21⟩ := qa21
          have hi22 : 0 ≤ (((2 * i + 1).toInt32) : Int32).toInt ∧ (((2 * i + 1).toInt32) : Int32).toInt < (64 : Nat) := (own_bd (show (2 * i + 1) < 64 by omega) (by decide))
          have hl22 : c21.slots[(((2 * i + 1).toInt32) : Int32).toNatClampNeg]? = some (.int ((fe (((2 * i + 1).toInt32) : Int32).toNatClampNeg).2.1)) := H21 _ (own_ix hi22)
          obtain ⟨_, _, ⟨T23, L23, k23, n23⟩, -, X23, ⟨Lc23, hQ23, l23, y23, z23⟩, st23⟩ := Jvm.LawKit.callS X20 hx (y := (⟨"com/example/brisk_maze/briskmaze/search/RankedFrontier", "precedes", "(JIJI)Z"⟩ : MethodName)) hown (mvT hZ (hw _ (List.mem_of_getElem? (i := 39) rfl))) (mvT hZ (hw _ (List.mem_of_getElem? (i := 40) rfl))) (mvT hZ (hw _ (List.mem_of_getElem? (i := 11) rfl))) (mvT hZ (hw _ (List.mem_of_getElem? (i := 41) rfl))) (by decide) (backOf (W := 0) (rm8 l Z a0 hw [] ((fe (((2 * i + 1).toInt32) : Int32).toNatClampNeg).1) ((fe (((2 * i + 1).toInt32) : Int32).toNatClampNeg).2.1) q2 p4 h0 n0 Z0) hZ (hw _ (List.mem_of_getElem? (i := 41) rfl)) (hw _ (List.mem_of_getElem? (i := 11) rfl)) (by decide) (by decide)) (g := (mkF m 133 #[.val (.ref o0), .val (.int p1), .val (.long q2), .second, .val (.int p4), .val (.int p5), .val (.int (i.toInt32)), .val (.int ((n / 2).toInt32)), .val (.int ((2 * i + 1).toInt32))] [(.int p4), (.long q2), (.int ((fe (((2 * i + 1).toInt32) : Int32).toNatClampNeg).2.1)), (.long ((fe (((2 * i + 1).toInt32) : Int32).toNatClampNeg).1))])) rfl (by rw [hml]; rfl) (argsL := [(.long ((fe (((2 * i + 1).toInt32) : Int32).toNatClampNeg).1)), (.int ((fe (((2 * i + 1).toInt32) : Int32).toNatClampNeg).2.1)), (.long q2), (.int p4)]) (rest := []) (lenOf pd_0 rfl) rfl (by show 2 * 0 + _ ≤ _; exact Nat.le_of_eq rfl) (hb hby d9_133) (fun _ _ => ⟨rfl, e20, (by decide : 0 + 0 ≤ _), (by decide : 0 + 0 ≤ _)⟩)
          dsimp only [Pt.U, Pt.locs, Pt.cells, Pt.slots] at X23 l23 y23 z23 st23 hQ23
          subst y23 z23
          obtain ⟨rfl, N23q, hh23⟩ := hQ23
          have N23 := Fr.app N14 N23q
          rw [← l23] at N23
          have pre24 : ∀ t, Steps p.tables e below (T23.setTop (mkF m 136 #[.val (.ref o0), .val (.int p1), .val (.long q2), .second, .val (.int p4), .val (.int p5), .val (.int (i.toInt32)), .val (.int ((n / 2).toInt32)), .val (.int ((2 * i + 1).toInt32))] [(.int (f8_ret ((fe (((2 * i + 1).toInt32) : Int32).toNatClampNeg).1) ((fe (((2 * i + 1).toInt32) : Int32).toNatClampNeg).2.1) q2 p4))])) t → Steps p.tables e below (T0.setTop (mkF m 60 #[.val (.ref o0), .val (.int p1), .val (.long q2), .second, .val (.int p4), .val (.int p5), .val (.int (i.toInt32)), .val (.int ((n / 2).toInt32)), s8] [])) t := fun t k => pre15 t (by
            refine XS.ifYes X14.here hx rfl (pc0 := 110) (pc' := 116) rfl (hb hby d9_110) rfl ((if0 _ _).trans (teq hs16).1) (by decide) (by decide) ?_
            show Steps p.tables e below (T14.setTop (mkF m 116 #[.val (.ref o0), .val (.int p1), .val (.long q2), .second, .val (.int p4), .val (.int p5), .val (.int (i.toInt32)), .val (.int ((n / 2).toInt32)), .val (.int ((2 * i + 1).toInt32))] [])) _
            refine XS.aloadN X14.here hx rfl (hb hby d9_116) rfl rfl ?_
            show Steps p.tables e below (T14.setTop (mkF m 117 #[.val (.ref o0), .val (.int p1), .val (.long q2), .second, .val (.int p4), .val (.int p5), .val (.int (i.toInt32)), .val (.int ((n / 2).toInt32)), .val (.int ((2 * i + 1).toInt32))] [(.ref o0)])) _
            refine st17 _ ?_
            show Steps p.tables e below (T17.setTop (mkF m 120 #[.val (.ref o0), .val (.int p1), .val (.long q2), .second, .val (.int p4), .val (.int p5), .val (.int (i.toInt32)), .val (.int ((n / 2).toInt32)), .val (.int ((2 * i + 1).toInt32))] [(.ref tr)])) _
            refine XS.iload X17.here hx rfl (hb hby d9_120) rfl ?_
            show Steps p.tables e below (T17.setTop (mkF m 122 #[.val (.ref o0), .val (.int p1), .val (.long q2), .second, .val (.int p4), .val (.int p5), .val (.int (i.toInt32)), .val (.int ((n / 2).toInt32)), .val (.int ((2 * i + 1).toInt32))] [(.int ((2 * i + 1).toInt32)), (.ref tr)])) _
            refine X17.laload hx (j := ((2 * i + 1).toInt32)) (v := (.long ((fe (((2 * i + 1).toInt32) : Int32).toNatClampNeg).1))) (by rw [e17]; exact Ar18.1) (State.isArrayOf_alike hZ.alike Ar18.2.1) Ar18.2.2 (own_in Sz18 hi19) hl19 (g := (mkF m 122 #[.val (.ref o0), .val (.int p1), .val (.long q2), .second, .val (.int p4), .val (.int p5), .val (.int (i.toInt32)), .val (.int ((n / 2).toInt32)), .val (.int ((2 * i + 1).toInt32))] [(.int ((2 * i + 1).toInt32)), (.ref tr)])) rfl rfl (hb hby d9_122) _ ?_
            show Steps p.tables e below (T17.setTop (mkF m 123 #[.val (.ref o0), .val (.int p1), .val (.long q2), .second, .val (.int p4), .val (.int p5), .val (.int (i.toInt32)), .val (.int ((n / 2).toInt32)), .val (.int ((2 * i + 1).toInt32))] [(.long ((fe (((2 * i + 1).toInt32) : Int32).toNatClampNeg).1))])) _
            refine XS.aloadN X17.here hx rfl (hb hby d9_123) rfl rfl ?_
            show Steps p.tables e below (T17.setTop (mkF m 124 #[.val (.ref o0), .val (.int p1), .val (.long q2), .second, .val (.int p4), .val (.int p5), .val (.int (i.toInt32)), .val (.int ((n / 2).toInt32)), .val (.int ((2 * i + 1).toInt32))] [(.ref o0), (.long ((fe (((2 * i + 1).toInt32) : Int32).toNatClampNeg).1))])) _
            refine st20 _ ?_
            show Steps p.tables e below (T20.setTop (mkF m 127 #[.val (.ref o0), .val (.int p1), .val (.long q2), .second, .val (.int p4), .val (.int p5), .val (.int (i.toInt32)), .val (.int ((n / 2).toInt32)), .val (.int ((2 * i + 1).toInt32))] [(.ref tc), (.long ((fe (((2 * i + 1).toInt32) : Int32).toNatClampNeg).1))])) _
            refine XS.iload X20.here hx rfl (hb hby d9_127) rfl ?_
            show Steps p.tables e below (T20.setTop (mkF m 129 #[.val (.ref o0), .val (.int p1), .val (.long q2), .second, .val (.int p4), .val (.int p5), .val (.int (i.toInt32)), .val (.int ((n / 2).toInt32)), .val (.int ((2 * i + 1).toInt32))] [(.int ((2 * i + 1).toInt32)), (.ref tc), (.long ((fe (((2 * i + 1).toInt32) : Int32).toNatClampNeg).1))])) _
            refine X20.iaload hx (j := ((2 * i + 1).toInt32)) (v := (.int ((fe (((2 * i + 1).toInt32) : Int32).toNatClampNeg).2.1))) (by rw [e20]; exact Ar21.1) (State.isArrayOf_alike hZ.alike Ar21.2.1) Ar21.2.2 (own_in Sz21 hi22) hl22 (g := (mkF m 129 #[.val (.ref o0), .val (.int p1), .val (.long q2), .second, .val (.int p4), .val (.int p5), .val (.int (i.toInt32)), .val (.int ((n / 2).toInt32)), .val (.int ((2 * i + 1).toInt32))] [(.int ((2 * i + 1).toInt32)), (.ref tc), (.long ((fe (((2 * i + 1).toInt32) : Int32).toNatClampNeg).1))])) rfl rfl (hb hby d9_129) _ ?_
            show Steps p.tables e below (T20.setTop (mkF m 130 #[.val (.ref o0), .val (.int p1), .val (.long q2), .second, .val (.int p4), .val (.int p5), .val (.int (i.toInt32)), .val (.int ((n / 2).toInt32)), .val (.int ((2 * i + 1).toInt32))] [(.int ((fe (((2 * i + 1).toInt32) : Int32).toNatClampNeg).2.1)), (.long ((fe (((2 * i + 1).toInt32) : Int32).toNatClampNeg).1))])) _
            refine XS.lloadN X20.here hx rfl (hb hby d9_130) rfl ?_
            show Steps p.tables e below (T20.setTop (mkF m 131 #[.val (.ref o0), .val (.int p1), .val (.long q2), .second, .val (.int p4), .val (.int p5), .val (.int (i.toInt32)), .val (.int ((n / 2).toInt32)), .val (.int ((2 * i + 1).toInt32))] [(.long q2), (.int ((fe (((2 * i + 1).toInt32) : Int32).toNatClampNeg).2.1)), (.long ((fe (((2 * i + 1).toInt32) : Int32).toNatClampNeg).1))])) _
            refine XS.iload X20.here hx rfl (hb hby d9_131) rfl ?_
            show Steps p.tables e below (T20.setTop (mkF m 133 #[.val (.ref o0), .val (.int p1), .val (.long q2), .second, .val (.int p4), .val (.int p5), .val (.int (i.toInt32)), .val (.int ((n / 2).toInt32)), .val (.int ((2 * i + 1).toInt32))] [(.int p4), (.long q2), (.int ((fe (((2 * i + 1).toInt32) : Int32).toNatClampNeg).2.1)), (.long ((fe (((2 * i + 1).toInt32) : Int32).toNatClampNeg).1))])) _
            refine st23 _ ?_
            show Steps p.tables e below (T23.setTop (mkF m 136 #[.val (.ref o0), .val (.int p1), .val (.long q2), .second, .val (.int p4), .val (.int p5), .val (.int (i.toInt32)), .val (.int ((n / 2).toInt32)), .val (.int ((2 * i + 1).toInt32))] [(.int (f8_ret ((fe (((2 * i + 1).toInt32) : Int32).toNatClampNeg).1) ((fe (((2 * i + 1).toInt32) : Int32).toNatClampNeg).2.1) q2 p4))])) _
            exact k)
          by_cases hs25 : (f8_ret ((fe (((2 * i + 1).toInt32) : Int32).toNatClampNeg).1) ((fe (((2 * i + 1).toInt32) : Int32).toNatClampNeg).2.1) q2 p4) = (0 : Int32)
          · have hnx : ¬ own_bf (fe (2 * i + 1)) (q2, p4, p5) := (own_pvr _ q2 p4 p5).mp (by have q := hs25; rw [own_tn (show (2 * i + 1) < 2147483648 by omega)] at q; exact q)
            have pre26 : ∀ t, Steps p.tables e below (T23.setTop (mkF m 157 #[.val (.ref o0), .val (.int p1), .val (.long q2), .second, .val (.int p4), .val (.int p5), .val (.int (i.toInt32)), .val (.int ((n / 2).toInt32)), .val (.int ((2 * i + 1).toInt32))] [])) t → Steps p.tables e below (T0.setTop (mkF m 60 #[.val (.ref o0), .val (.int p1), .val (.long q2), .second, .val (.int p4), .val (.int p5), .val (.int (i.toInt32)), .val (.int ((n / 2).toInt32)), s8] [])) t := fun t k => pre24 t (by
              refine XS.ifNo X23.here hx rfl (hb hby d9_136) rfl ((if0 _ _).trans (teq hs25).2) ?_
              show Steps p.tables e below (T23.setTop (mkF m 139 #[.val (.ref o0), .val (.int p1), .val (.long q2), .second, .val (.int p4), .val (.int p5), .val (.int (i.toInt32)), .val (.int ((n / 2).toInt32)), .val (.int ((2 * i + 1).toInt32))] [])) _
              refine XS.goto X23.here hx rfl (pc0 := 139) (pc' := 157) rfl (hb hby d9_139) (by decide) (by decide) ?_
              show Steps p.tables e below (T23.setTop (mkF m 157 #[.val (.ref o0), .val (.int p1), .val (.long q2), .second, .val (.int p4), .val (.int p5), .val (.int (i.toInt32)), .val (.int ((n / 2).toInt32)), .val (.int ((2 * i + 1).toInt32))] [])) _
              exact k)
            exact ⟨_, _, _, i, fe, _, X23, hh23, N23, (Keep.refl h0 [tr, tc, ts]), A_tr, A_tc, A_ts, (by omega), (own_dn_out hI (fun j j0 j1 j2 => own_bf_nt (hm j j0 j1 j2) hnx)), pre26⟩
          · obtain ⟨cq27, q27, q27'⟩ := (E_o0).cell
            obtain ⟨_, _, ⟨T27, L27, k27, n27⟩, -, X27, ⟨Lc27, hQ27, l27, y27, z27⟩, st27⟩ := X23.privateBack hx (y := (⟨"com/example/brisk_maze/briskmaze/search/RankedFrontier", "move", "(II)V"⟩ : MethodName)) hown (mvT hZ (hw _ (List.mem_of_getElem? (i := 58) rfl))) (mvT hZ (hw _ (List.mem_of_getElem? (i := 59) rfl))) (own_selp (y := (⟨"com/example/brisk_maze/briskmaze/search/RankedFrontier", "move", "(II)V"⟩ : MethodName)) (mvT hZ (hw _ (List.mem_of_getElem? (i := 10) rfl))) (Cond.privateMethod_at (mvP hZ (hw _ (List.mem_of_getElem? (i := 60) rfl)) (args := #[]))) (mvT hZ (hw _ (List.mem_of_getElem? (i := 59) rfl))) (by decide)) (Cond.privateMethod_at (mvP hZ (hw _ (List.mem_of_getElem? (i := 60) rfl)) (args := #[]))) (mvT hZ (hw _ (List.mem_of_getElem? (i := 61) rfl))) (by decide) (backOf (W := 0) (rm13 l Z a0 hw [] o0 ((2 * i + 1).toInt32) (i.toInt32) tr tc ts fe h0 n0 Z0 F_ranks_o0 F_costs_o0 F_states_o0 E_o0 A_tr A_tc A_ts g_tr g_tc g_ts ne_o0_tr ne_o0_tc ne_o0_ts ne_tr_tc ne_tr_ts ne_tc_ts (own_bd (show (2 * i + 1) < 64 by omega) (by decide)) (own_bd (show i < 64 by omega) (by decide))) hZ (hw _ (List.mem_of_getElem? (i := 61) rfl)) (hw _ (List.mem_of_getElem? (i := 11) rfl)) (by decide) (by decide)) (g := (mkF m 147 #[.val (.ref o0), .val (.int p1), .val (.long q2), .second, .val (.int p4), .val (.int p5), .val (.int (i.toInt32)), .val (.int ((n / 2).toInt32)), .val (.int ((2 * i + 1).toInt32))] [(.int (i.toInt32)), (.int ((2 * i + 1).toInt32)), (.ref o0)])) rfl (by rw [hml]; rfl) (Steps.refl _) (a := o0) (by rw [hh23]; exact q27) q27' (argsL := [(.int ((2 * i + 1).toInt32)), (.int (i.toInt32))]) (rest := []) (lenOf pd_3 rfl) rfl (by show 2 * 0 + _ ≤ _; exact Nat.le_of_eq rfl) (hb hby d9_147) (fun _ _ => ⟨rfl, hh23, (by decide : 0 + 0 ≤ _), (by decide : 0 + 0 ≤ _)⟩)
            dsimp only [Pt.U, Pt.locs, Pt.cells, Pt.slots] at X27 l27 y27 z27 st27 hQ27
            subst y27 z27
            obtain ⟨rfl, N27q, Kc27, P27_0, P27_1, P27_2⟩ := hQ27
            have N27 := Fr.app N23 N27q
            rw [← l27] at N27
            have F_ranks_o0_28 : Fld Z T27.heap o0 "com/example/brisk_maze/briskmaze/search/RankedFrontier" "ranks" "[J" (.ref tr) := (F_ranks_o0).keep Kc27 (ninS ne_o0_tr (ninS ne_o0_tc (ninS ne_o0_ts nin0)))
            have F_costs_o0_28 : Fld Z T27.heap o0 "com/example/brisk_maze/briskmaze/search/RankedFrontier" "costs" "[I" (.ref tc) := (F_costs_o0).keep Kc27 (ninS ne_o0_tr (ninS ne_o0_tc (ninS ne_o0_ts nin0)))
            have F_states_o0_28 : Fld Z T27.heap o0 "com/example/brisk_maze/briskmaze/search/RankedFrontier" "states" "[I" (.ref ts) := (F_states_o0).keep Kc27 (ninS ne_o0_tr (ninS ne_o0_tc (ninS ne_o0_ts nin0)))
            have E_o0_28 : Exa Z T27.heap o0 "com/example/brisk_maze/briskmaze/search/RankedFrontier" := (E_o0).keep Kc27
            have F_size_o0_28 : Fld Z T27.heap o0 "com/example/brisk_maze/briskmaze/search/RankedFrontier" "size" "I" (.int (n.toInt32)) := (F_size_o0).keep Kc27 (ninS ne_o0_tr (ninS ne_o0_tc (ninS ne_o0_ts nin0)))
            have SZ29 : h0.size ≤ T27.heap.size := Nat.le_trans (Nat.le_refl _) Kc27.1
            have ZZ29 : n0 ≤ T27.heap.size := Nat.le_trans Z0 SZ29
            have K30 : Keep h0 T27.heap [tr, tc, ts] := ((Keep.refl h0 [tr, tc, ts])).trans Kc27 (allS (Or.inl (List.mem_of_getElem? (i := 0) rfl)) (allS (Or.inl (List.mem_of_getElem? (i := 1) rfl)) (allS (Or.inl (List.mem_of_getElem? (i := 2) rfl)) all0)))
            have pre31 : ∀ t, Steps p.tables e below (T27.setTop (mkF m 60 #[.val (.ref o0), .val (.int p1), .val (.long q2), .second, .val (.int p4), .val (.int p5), .val (.int ((2 * i + 1).toInt32)), .val (.int ((n / 2).toInt32)), .val (.int ((2 * i + 1).toInt32))] [])) t → Steps p.tables e below (T0.setTop (mkF m 60 #[.val (.ref o0), .val (.int p1), .val (.long q2), .second, .val (.int p4), .val (.int p5), .val (.int (i.toInt32)), .val (.int ((n / 2).toInt32)), s8] [])) t := fun t k => pre24 t (by
              refine XS.ifYes X23.here hx rfl (pc0 := 136) (pc' := 142) rfl (hb hby d9_136) rfl ((if0 _ _).trans (feq hs25).2) (by decide) (by decide) ?_
              show Steps p.tables e below (T23.setTop (mkF m 142 #[.val (.ref o0), .val (.int p1), .val (.long q2), .second, .val (.int p4), .val (.int p5), .val (.int (i.toInt32)), .val (.int ((n / 2).toInt32)), .val (.int ((2 * i + 1).toInt32))] [])) _
              refine XS.aloadN X23.here hx rfl (hb hby d9_142) rfl rfl ?_
              show Steps p.tables e below (T23.setTop (mkF m 143 #[.val (.ref o0), .val (.int p1), .val (.long q2), .second, .val (.int p4), .val (.int p5), .val (.int (i.toInt32)), .val (.int ((n / 2).toInt32)), .val (.int ((2 * i + 1).toInt32))] [(.ref o0)])) _
              refine XS.iload X23.here hx rfl (hb hby d9_143) rfl ?_
              show Steps p.tables e below (T23.setTop (mkF m 145 #[.val (.ref o0), .val (.int p1), .val (.long q2), .second, .val (.int p4), .val (.int p5), .val (.int (i.toInt32)), .val (.int ((n / 2).toInt32)), .val (.int ((2 * i + 1).toInt32))] [(.int ((2 * i + 1).toInt32)), (.ref o0)])) _
              refine XS.iload X23.here hx rfl (hb hby d9_145) rfl ?_
              show Steps p.tables e below (T23.setTop (mkF m 147 #[.val (.ref o0), .val (.int p1), .val (.long q2), .second, .val (.int p4), .val (.int p5), .val (.int (i.toInt32)), .val (.int ((n / 2).toInt32)), .val (.int ((2 * i + 1).toInt32))] [(.int (i.toInt32)), (.int ((2 * i + 1).toInt32)), (.ref o0)])) _
              refine st27.trans ?_
              show Steps p.tables e below (T27.setTop (mkF m 150 #[.val (.ref o0), .val (.int p1), .val (.long q2), .second, .val (.int p4), .val (.int p5), .val (.int (i.toInt32)), .val (.int ((n / 2).toInt32)), .val (.int ((2 * i + 1).toInt32))] [])) _
              refine XS.iload X27.here hx rfl (hb hby d9_150) rfl ?_
              show Steps p.tables e below (T27.setTop (mkF m 152 #[.val (.ref o0), .val (.int p1), .val (.long q2), .second, .val (.int p4), .val (.int p5), .val (.int (i.toInt32)), .val (.int ((n / 2).toInt32)), .val (.int ((2 * i + 1).toInt32))] [(.int ((2 * i + 1).toInt32))])) _
              refine XS.istore X27.here hx rfl (hb hby d9_152) rfl (l' := #[.val (.ref o0), .val (.int p1), .val (.long q2), .second, .val (.int p4), .val (.int p5), .val (.int ((2 * i + 1).toInt32)), .val (.int ((n / 2).toInt32)), .val (.int ((2 * i + 1).toInt32))]) rfl ?_
              show Steps p.tables e below (T27.setTop (mkF m 154 #[.val (.ref o0), .val (.int p1), .val (.long q2), .second, .val (.int p4), .val (.int p5), .val (.int ((2 * i + 1).toInt32)), .val (.int ((n / 2).toInt32)), .val (.int ((2 * i + 1).toInt32))] [])) _
              refine XS.goto X27.here hx rfl (pc0 := 154) (pc' := 60) rfl (hb hby d9_154) (by decide) (by decide) ?_
              show Steps p.tables e below (T27.setTop (mkF m 60 #[.val (.ref o0), .val (.int p1), .val (.long q2), .second, .val (.int p4), .val (.int p5), .val (.int ((2 * i + 1).toInt32)), .val (.int ((n / 2).toInt32)), .val (.int ((2 * i + 1).toInt32))] [])) _
              exact k)
            have hyx : own_bf (fe (2 * i + 1)) (q2, p4, p5) := Classical.byContradiction fun q0 => (show ¬ _ from (by have q := hs25; rw [own_tn (show (2 * i + 1) < 2147483648 by omega)] at q; exact q)) ((own_pvr _ q2 p4 p5).mpr q0)
            obtain ⟨T1, h1, locs1, i1, f1, s1, Y1, Y2, Y3, Y4, Y5, Y6, Y7, Y8, Y9, Y10⟩ := ih (n - (2 * i + 1)) (by omega) (2 * i + 1) (own_up fe ((i.toInt32) : Int32).toNatClampNeg (fe (((2 * i + 1).toInt32) : Int32).toNatClampNeg)) (.val (.int ((2 * i + 1).toInt32))) _ _ _ rfl (One.val rfl) (Or.inr (by rw [own_tn (show i < 2147483648 by omega), own_tn (show (2 * i + 1) < 2147483648 by omega)]; exact own_dn_step hI hcn (by omega) (by omega) hyx hm)) X27 rfl N27 ZZ29 F_ranks_o0_28 F_costs_o0_28 F_states_o0_28 E_o0_28 F_size_o0_28 P27_0 P27_1 P27_2
            exact ⟨T1, h1, locs1, i1, f1, s1, Y1, Y2, Y3, K30.trans Y4 (fun x hx => Or.inl hx), Y5, Y6, Y7, Y8, Y9, fun t k => pre31 t (Y10 t k)⟩
        · have h83 : 2 * i + 2 < n := (own_ltn (by omega) (by omega)).mp (by have q := hs7; rw [own_inc] at q; exact q)
          have hyb : own_bf (fe (2 * i + 2)) (fe (2 * i + 1)) := Classical.byContradiction fun q0 => (show ¬ _ from (by have q := hs16; rw [own_inc, own_tn (show 2 * i + 1 + 1 < 2147483648 by omega), own_tn (show 2 * i + 1 < 2147483648 by omega)] at q; exact q)) ((own_pv (fe (2 * i + 2)).1 (fe (2 * i + 2)).2.1 (fe (2 * i + 2)).2.2 (fe (2 * i + 1))).mpr q0)
          have hm : ∀ j, 0 < j → j < n → (j - 1) / 2 = i → ¬ own_bf (fe j) (fe (2 * i + 2)) := fun j j0 j1 j2 => by
            rcases (show j = 2 * i + 1 ∨ j = 2 * i + 2 by omega) with q | q
            · rw [q]; exact own_bf_as hyb
            · rw [q]; exact own_bf_irr _
          have pre32 : ∀ t, Steps p.tables e below (T14.setTop (mkF m 116 #[.val (.ref o0), .val (.int p1), .val (.long q2), .second, .val (.int p4), .val (.int p5), .val (.int (i.toInt32)), .val (.int ((n / 2).toInt32)), .val (.int (((2 * i + 1).toInt32) + (1 : Int32)))] [])) t → Steps p.tables e below (T0.setTop (mkF m 60 #[.val (.ref o0), .val (.int p1), .val (.long q2), .second, .val (.int p4), .val (.int p5), .val (.int (i.toInt32)), .val (.int ((n / 2).toInt32)), s8] [])) t := fun t k => pre15 t (by
            refine XS.ifNo X14.here hx rfl (hb hby d9_110) rfl ((if0 _ _).trans (feq hs16).1) ?_
            show Steps p.tables e below (T14.setTop (mkF m 113 #[.val (.ref o0), .val (.int p1), .val (.long q2), .second, .val (.int p4), .val (.int p5), .val (.int (i.toInt32)), .val (.int ((n / 2).toInt32)), .val (.int ((2 * i + 1).toInt32))] [])) _
            refine XS.iinc X14.here hx rfl (hb hby d9_113) rfl (l' := #[.val (.ref o0), .val (.int p1), .val (.long q2), .second, .val (.int p4), .val (.int p5), .val (.int (i.toInt32)), .val (.int ((n / 2).toInt32)), .val (.int (((2 * i + 1).toInt32) + (1 : Int32)))]) rfl ?_
            show Steps p.tables e below (T14.setTop (mkF m 116 #[.val (.ref o0), .val (.int p1), .val (.long q2), .second, .val (.int p4), .val (.int p5), .val (.int (i.toInt32)), .val (.int ((n / 2).toInt32)), .val (.int (((2 * i + 1).toInt32) + (1 : Int32)))] [])) _
            exact k)
          have hre33 : (((2 * i + 1).toInt32) + (1 : Int32)) = ((2 * i + 2).toInt32) := own_inc (2 * i + 1)
          have pre33 : ∀ t, Steps p.tables e below (T14.setTop (mkF m 116 #[.val (.ref o0), .val (.int p1), .val (.long q2), .second, .val (.int p4), .val (.int p5), .val (.int (i.toInt32)), .val (.int ((n / 2).toInt32)), .val (.int ((2 * i + 2).toInt32))] [])) t → Steps p.tables e below (T0.setTop (mkF m 60 #[.val (.ref o0), .val (.int p1), .val (.long q2), .second, .val (.int p4), .val (.int p5), .val (.int (i.toInt32)), .val (.int ((n / 2).toInt32)), s8] [])) t := fun t k => pre32 t (by rw [hre33]; exact k)
          have hcn : (2 * i + 2) < n := by omega
          obtain ⟨T34, X34, e34, st34⟩ := getF X14 hx hZ hown (host := "") (Or.inl (hw _ (List.mem_of_getElem? (i := 18) rfl))) Via.refl hh14 F_ranks_o0 (g := (mkF m 117 #[.val (.ref o0), .val (.int p1), .val (.long q2), .second, .val (.int p4), .val (.int p5), .val (.int (i.toInt32)), .val (.int ((n / 2).toInt32)), .val (.int ((2 * i + 2).toInt32))] [(.ref o0)])) rfl rfl (hb hby d9_117)
          have qa35 := A_tr
          obtain ⟨c35, Ar35, Sz35, H35⟩ := qa35
          have hi36 : 0 ≤ (((2 * i + 2).toInt32) : Int32).toInt ∧ (((2 * i + 2).toInt32) : Int32).toInt < (64 : Nat) := (own_bd (show (2 * i + 2) < 64 by omega) (by decide))
          have hl36 : c35.slots[(((2 * i + 2).toInt32) : Int32).toNatClampNeg]? = some (.long ((fe (((2 * i + 2).toInt32) : Int32).toNatClampNeg).1)) := H35 _ (own_ix hi36)
          obtain ⟨T37, X37, e37, st37⟩ := getF X34 hx hZ hown (host := "") (Or.inl (hw _ (List.mem_of_getElem? (i := 20) rfl))) Via.refl e34 F_costs_o0 (g := (mkF m 124 #[.val (.ref o0), .val (.int p1), .val (.long q2), .second, .val (.int p4), .val (.int p5), .val (.int (i.toInt32)), .val (.int ((n / 2).toInt32)), .val (.int ((2 * i + 2).toInt32))] [(.ref o0), (.long ((fe (((2 * i + 2).toInt32) : Int32).toNatClampNeg).1))])) rfl rfl (hb hby d9_124)
          have qa38 := A_tc
          obtain ⟨c38, Ar38, Sz38, H38⟩ := qa38
          have hi39 : 0 ≤ (((2 * i + 2).toInt32) : Int32).toInt ∧ (((2 * i + 2).toInt32) : Int32).toInt < (64 : Nat) := (own_bd (show (2 * i + 2) < 64 by omega) (by decide))
          have hl39 : c38.slots[(((2 * i + 2).toInt32) : Int32).toNatClampNeg]? = some (.int ((fe (((2 * i + 2).toInt32) : Int32).toNatClampNeg).2.1)) := H38 _ (own_ix hi39)
          obtain ⟨_, _, ⟨T40, L40, k40, n40⟩, -, X40, ⟨Lc40, hQ40, l40, y40, z40⟩, st40⟩ := Jvm.LawKit.callS X37 hx (y := (⟨"com/example/brisk_maze/briskmaze/search/RankedFrontier", "precedes", "(JIJI)Z"⟩ : MethodName)) hown (mvT hZ (hw _ (List.mem_of_getElem? (i := 39) rfl))) (mvT hZ (hw _ (List.mem_of_getElem? (i := 40) rfl))) (mvT hZ (hw _ (List.mem_of_getElem? (i := 11) rfl))) (mvT hZ (hw _ (List.mem_of_getElem? (i := 41) rfl))) (by decide) (backOf (W := 0) (rm8 l Z a0 hw [] ((fe (((2 * i + 2).toInt32) : Int32).toNatClampNeg).1) ((fe (((2 * i + 2).toInt32) : Int32).toNatClampNeg).2.1) q2 p4 h0 n0 Z0) hZ (hw _ (List.mem_of_getElem? (i := 41) rfl)) (hw _ (List.mem_of_getElem? (i := 11) rfl)) (by decide) (by decide)) (g := (mkF m 133 #[.val (.ref o0), .val (.int p1), .val (.long q2), .second, .val (.int p4), .val (.int p5), .val (.int (i.toInt32)), .val (.int ((n / 2).toInt32)), .val (.int ((2 * i + 2).toInt32))] [(.int p4), (.long q2), (.int ((fe (((2 * i + 2).toInt32) : Int32).toNatClampNeg).2.1)), (.long ((fe (((2 * i + 2).toInt32) : Int32).toNatClampNeg).1))])) rfl (by rw [hml]; rfl) (argsL := [(.long ((fe (((2 * i + 2).toInt32) : Int32).toNatClampNeg).1)), (.int ((fe (((2 * i + 2).toInt32) : Int32).toNatClampNeg).2.1)), (.long q2), (.int p4)]) (rest := []) (lenOf pd_0 rfl) rfl (by show 2 * 0 + _ ≤ _; exact Nat.le_of_eq rfl) (hb hby d9_133) (fun _ _ => ⟨rfl, e37, (by decide : 0 + 0 ≤ _), (by decide : 0 + 0 ≤ _)⟩)
          dsimp only [Pt.U, Pt.locs, Pt.cells, Pt.slots] at X40 l40 y40 z40 st40 hQ40
          subst y40 z40
          obtain ⟨rfl, N40q, hh40⟩ := hQ40
          have N40 := Fr.app N14 N40q
          rw [← l40] at N40
          have pre41 : ∀ t, Steps p.tables e below (T40.setTop (mkF m 136 #[.val (.ref o0), .val (.int p1), .val (.long q2), .second, .val (.int p4), .val (.int p5), .val (.int (i.toInt32)), .val (.int ((n / 2).toInt32)), .val (.int ((2 * i + 2).toInt32))] [(.int (f8_ret ((fe (((2 * i + 2).toInt32) : Int32).toNatClampNeg).1) ((fe (((2 * i + 2).toInt32) : Int32).toNatClampNeg).2.1) q2 p4))])) t → Steps p.tables e below (T0.setTop (mkF m 60 #[.val (.ref o0), .val (.int p1), .val (.long q2), .second, .val (.int p4), .val (.int p5), .val (.int (i.toInt32)), .val (.int ((n / 2).toInt32)), s8] [])) t := fun t k => pre33 t (by
            show Steps p.tables e below (T14.setTop (mkF m 116 #[.val (.ref o0), .val (.int p1), .val (.long q2), .second, .val (.int p4), .val (.int p5), .val (.int (i.toInt32)), .val (.int ((n / 2).toInt32)), .val (.int ((2 * i + 2).toInt32))] [])) _
            refine XS.aloadN X14.here hx rfl (hb hby d9_116) rfl rfl ?_
            show Steps p.tables e below (T14.setTop (mkF m 117 #[.val (.ref o0), .val (.int p1), .val (.long q2), .second, .val (.int p4), .val (.int p5), .val (.int (i.toInt32)), .val (.int ((n / 2).toInt32)), .val (.int ((2 * i + 2).toInt32))] [(.ref o0)])) _
            refine st34 _ ?_
            show Steps p.tables e below (T34.setTop (mkF m 120 #[.val (.ref o0), .val (.int p1), .val (.long q2), .second, .val (.int p4), .val (.int p5), .val (.int (i.toInt32)), .val (.int ((n / 2).toInt32)), .val (.int ((2 * i + 2).toInt32))] [(.ref tr)])) _
            refine XS.iload X34.here hx rfl (hb hby d9_120) rfl ?_
            show Steps p.tables e below (T34.setTop (mkF m 122 #[.val (.ref o0), .val (.int p1), .val (.long q2), .second, .val (.int p4), .val (.int p5), .val (.int (i.toInt32)), .val (.int ((n / 2).toInt32)), .val (.int ((2 * i + 2).toInt32))] [(.int ((2 * i + 2).toInt32)), (.ref tr)])) _
            refine X34.laload hx (j := ((2 * i + 2).toInt32)) (v := (.long ((fe (((2 * i + 2).toInt32) : Int32).toNatClampNeg).1))) (by rw [e34]; exact Ar35.1) (State.isArrayOf_alike hZ.alike Ar35.2.1) Ar35.2.2 (own_in Sz35 hi36) hl36 (g := (mkF m 122 #[.val (.ref o0), .val (.int p1), .val (.long q2), .second, .val (.int p4), .val (.int p5), .val (.int (i.toInt32)), .val (.int ((n / 2).toInt32)), .val (.int ((2 * i + 2).toInt32))] [(.int ((2 * i + 2).toInt32)), (.ref tr)])) rfl rfl (hb hby d9_122) _ ?_
            show Steps p.tables e below (T34.setTop (mkF m 123 #[.val (.ref o0), .val (.int p1), .val (.long q2), .second, .val (.int p4), .val (.int p5), .val (.int (i.toInt32)), .val (.int ((n / 2).toInt32)), .val (.int ((2 * i + 2).toInt32))] [(.long ((fe (((2 * i + 2).toInt32) : Int32).toNatClampNeg).1))])) _
            refine XS.aloadN X34.here hx rfl (hb hby d9_123) rfl rfl ?_
            show Steps p.tables e below (T34.setTop (mkF m 124 #[.val (.ref o0), .val (.int p1), .val (.long q2), .second, .val (.int p4), .val (.int p5), .val (.int (i.toInt32)), .val (.int ((n / 2).toInt32)), .val (.int ((2 * i + 2).toInt32))] [(.ref o0), (.long ((fe (((2 * i + 2).toInt32) : Int32).toNatClampNeg).1))])) _
            refine st37 _ ?_
            show Steps p.tables e below (T37.setTop (mkF m 127 #[.val (.ref o0), .val (.int p1), .val (.long q2), .second, .val (.int p4), .val (.int p5), .val (.int (i.toInt32)), .val (.int ((n / 2).toInt32)), .val (.int ((2 * i + 2).toInt32))] [(.ref tc), (.long ((fe (((2 * i + 2).toInt32) : Int32).toNatClampNeg).1))])) _
            refine XS.iload X37.here hx rfl (hb hby d9_127) rfl ?_
            show Steps p.tables e below (T37.setTop (mkF m 129 #[.val (.ref o0), .val (.int p1), .val (.long q2), .second, .val (.int p4), .val (.int p5), .val (.int (i.toInt32)), .val (.int ((n / 2).toInt32)), .val (.int ((2 * i + 2).toInt32))] [(.int ((2 * i + 2).toInt32)), (.ref tc), (.long ((fe (((2 * i + 2).toInt32) : Int32).toNatClampNeg).1))])) _
            refine X37.iaload hx (j := ((2 * i + 2).toInt32)) (v := (.int ((fe (((2 * i + 2).toInt32) : Int32).toNatClampNeg).2.1))) (by rw [e37]; exact Ar38.1) (State.isArrayOf_alike hZ.alike Ar38.2.1) Ar38.2.2 (own_in Sz38 hi39) hl39 (g := (mkF m 129 #[.val (.ref o0), .val (.int p1), .val (.long q2), .second, .val (.int p4), .val (.int p5), .val (.int (i.toInt32)), .val (.int ((n / 2).toInt32)), .val (.int ((2 * i + 2).toInt32))] [(.int ((2 * i + 2).toInt32)), (.ref tc), (.long ((fe (((2 * i + 2).toInt32) : Int32).toNatClampNeg).1))])) rfl rfl (hb hby d9_129) _ ?_
            show Steps p.tables e below (T37.setTop (mkF m 130 #[.val (.ref o0), .val (.int p1), .val (.long q2), .second, .val (.int p4), .val (.int p5), .val (.int (i.toInt32)), .val (.int ((n / 2).toInt32)), .val (.int ((2 * i + 2).toInt32))] [(.int ((fe (((2 * i + 2).toInt32) : Int32).toNatClampNeg).2.1)), (.long ((fe (((2 * i + 2).toInt32) : Int32).toNatClampNeg).1))])) _
            refine XS.lloadN X37.here hx rfl (hb hby d9_130) rfl ?_
            show Steps p.tables e below (T37.setTop (mkF m 131 #[.val (.ref o0), .val (.int p1), .val (.long q2), .second, .val (.int p4), .val (.int p5), .val (.int (i.toInt32)), .val (.int ((n / 2).toInt32)), .val (.int ((2 * i + 2).toInt32))] [(.long q2), (.int ((fe (((2 * i + 2).toInt32) : Int32).toNatClampNeg).2.1)), (.long ((fe (((2 * i + 2).toInt32) : Int32).toNatClampNeg).1))])) _
            refine XS.iload X37.here hx rfl (hb hby d9_131) rfl ?_
            show Steps p.tables e below (T37.setTop (mkF m 133 #[.val (.ref o0), .val (.int p1), .val (.long q2), .second, .val (.int p4), .val (.int p5), .val (.int (i.toInt32)), .val (.int ((n / 2).toInt32)), .val (.int ((2 * i + 2).toInt32))] [(.int p4), (.long q2), (.int ((fe (((2 * i + 2).toInt32) : Int32).toNatClampNeg).2.1)), (.long ((fe (((2 * i + 2).toInt32) : Int32).toNatClampNeg).1))])) _
            refine st40 _ ?_
            show Steps p.tables e below (T40.setTop (mkF m 136 #[.val (.ref o0), .val (.int p1), .val (.long q2), .second, .val (.int p4), .val (.int p5), .val (.int (i.toInt32)), .val (.int ((n / 2).toInt32)), .val (.int ((2 * i + 2).toInt32))] [(.int (f8_ret ((fe (((2 * i + 2).toInt32) : Int32).toNatClampNeg).1) ((fe (((2 * i + 2).toInt32) : Int32).toNatClampNeg).2.1) q2 p4))])) _
            exact k)
          by_cases hs42 : (f8_ret ((fe (((2 * i + 2).toInt32) : Int32).toNatClampNeg).1) ((fe (((2 * i + 2).toInt32) : Int32).toNatClampNeg).2.1) q2 p4) = (0 : Int32)
          · have hnx : ¬ own_bf (fe (2 * i + 2)) (q2, p4, p5) := (own_pvr _ q2 p4 p5).mp (by have q := hs42; rw [own_tn (show (2 * i + 2) < 2147483648 by omega)] at q; exact q)
            have pre43 : ∀ t, Steps p.tables e below (T40.setTop (mkF m 157 #[.val (.ref o0), .val (.int p1), .val (.long q2), .second, .val (.int p4), .val (.int p5), .val (.int (i.toInt32)), .val (.int ((n / 2).toInt32)), .val (.int ((2 * i + 2).toInt32))] [])) t → Steps p.tables e below (T0.setTop (mkF m 60 #[.val (.ref o0), .val (.int p1), .val (.long q2), .second, .val (.int p4), .val (.int p5), .val (.int (i.toInt32)), .val (.int ((n / 2).toInt32)), s8] [])) t := fun t k => pre41 t (by
              refine XS.ifNo X40.here hx rfl (hb hby d9_136) rfl ((if0 _ _).trans (teq hs42).2) ?_
              show Steps p.tables e below (T40.setTop (mkF m 139 #[.val (.ref o0), .val (.int p1), .val (.long q2), .second, .val (.int p4), .val (.int p5), .val (.int (i.toInt32)), .val (.int ((n / 2).toInt32)), .val (.int ((2 * i + 2).toInt32))] [])) _
              refine XS.goto X40.here hx rfl (pc0 := 139) (pc' := 157) rfl (hb hby d9_139) (by decide) (by decide) ?_
              show Steps p.tables e below (T40.setTop (mkF m 157 #[.val (.ref o0), .val (.int p1), .val (.long q2), .second, .val (.int p4), .val (.int p5), .val (.int (i.toInt32)), .val (.int ((n / 2).toInt32)), .val (.int ((2 * i + 2).toInt32))] [])) _
              exact k)
            exact ⟨_, _, _, i, fe, _, X40, hh40, N40, (Keep.refl h0 [tr, tc, ts]), A_tr, A_tc, A_ts, (by omega), (own_dn_out hI (fun j j0 j1 j2 => own_bf_nt (hm j j0 j1 j2) hnx)), pre43⟩
          · obtain ⟨cq44, q44, q44'⟩ := (E_o0).cell
            obtain ⟨_, _, ⟨T44, L44, k44, n44⟩, -, X44, ⟨Lc44, hQ44, l44, y44, z44⟩, st44⟩ := X40.privateBack hx (y := (⟨"com/example/brisk_maze/briskmaze/search/RankedFrontier", "move", "(II)V"⟩ : MethodName)) hown (mvT hZ (hw _ (List.mem_of_getElem? (i := 58) rfl))) (mvT hZ (hw _ (List.mem_of_getElem? (i := 59) rfl))) (own_selp (y := (⟨"com/example/brisk_maze/briskmaze/search/RankedFrontier", "move", "(II)V"⟩ : MethodName)) (mvT hZ (hw _ (List.mem_of_getElem? (i := 10) rfl))) (Cond.privateMethod_at (mvP hZ (hw _ (List.mem_of_getElem? (i := 60) rfl)) (args := #[]))) (mvT hZ (hw _ (List.mem_of_getElem? (i := 59) rfl))) (by decide)) (Cond.privateMethod_at (mvP hZ (hw _ (List.mem_of_getElem? (i := 60) rfl)) (args := #[]))) (mvT hZ (hw _ (List.mem_of_getElem? (i := 61) rfl))) (by decide) (backOf (W := 0) (rm13 l Z a0 hw [] o0 ((2 * i + 2).toInt32) (i.toInt32) tr tc ts fe h0 n0 Z0 F_ranks_o0 F_costs_o0 F_states_o0 E_o0 A_tr A_tc A_ts g_tr g_tc g_ts ne_o0_tr ne_o0_tc ne_o0_ts ne_tr_tc ne_tr_ts ne_tc_ts (own_bd (show (2 * i + 2) < 64 by omega) (by decide)) (own_bd (show i < 64 by omega) (by decide))) hZ (hw _ (List.mem_of_getElem? (i := 61) rfl)) (hw _ (List.mem_of_getElem? (i := 11) rfl)) (by decide) (by decide)) (g := (mkF m 147 #[.val (.ref o0), .val (.int p1), .val (.long q2), .second, .val (.int p4), .val (.int p5), .val (.int (i.toInt32)), .val (.int ((n / 2).toInt32)), .val (.int ((2 * i + 2).toInt32))] [(.int (i.toInt32)), (.int ((2 * i + 2).toInt32)), (.ref o0)])) rfl (by rw [hml]; rfl) (Steps.refl _) (a := o0) (by rw [hh40]; exact q44) q44' (argsL := [(.int ((2 * i + 2).toInt32)), (.int (i.toInt32))]) (rest := []) (lenOf pd_3 rfl) rfl (by show 2 * 0 + _ ≤ _; exact Nat.le_of_eq rfl) (hb hby d9_147) (fun _ _ => ⟨rfl, hh40, (by decide : 0 + 0 ≤ _), (by decide : 0 + 0 ≤ _)⟩)
            dsimp only [Pt.U, Pt.locs, Pt.cells, Pt.slots] at X44 l44 y44 z44 st44 hQ44
            subst y44 z44
            obtain ⟨rfl, N44q, Kc44, P44_0, P44_1, P44_2⟩ := hQ44
            have N44 := Fr.app N40 N44q
            rw [← l44] at N44
            have F_ranks_o0_45 : Fld Z T44.heap o0 "com/example/brisk_maze/briskmaze/search/RankedFrontier" "ranks" "[J" (.ref tr) := (F_ranks_o0).keep Kc44 (ninS ne_o0_tr (ninS ne_o0_tc (ninS ne_o0_ts nin0)))
            have F_costs_o0_45 : Fld Z T44.heap o0 "com/example/brisk_maze/briskmaze/search/RankedFrontier" "costs" "[I" (.ref tc) := (F_costs_o0).keep Kc44 (ninS ne_o0_tr (ninS ne_o0_tc (ninS ne_o0_ts nin0)))
            have F_states_o0_45 : Fld Z T44.heap o0 "com/example/brisk_maze/briskmaze/search/RankedFrontier" "states" "[I" (.ref ts) := (F_states_o0).keep Kc44 (ninS ne_o0_tr (ninS ne_o0_tc (ninS ne_o0_ts nin0)))
            have E_o0_45 : Exa Z T44.heap o0 "com/example/brisk_maze/briskmaze/search/RankedFrontier" := (E_o0).keep Kc44
            have F_size_o0_45 : Fld Z T44.heap o0 "com/example/brisk_maze/briskmaze/search/RankedFrontier" "size" "I" (.int (n.toInt32)) := (F_size_o0).keep Kc44 (ninS ne_o0_tr (ninS ne_o0_tc (ninS ne_o0_ts nin0)))
            have SZ46 : h0.size ≤ T44.heap.size := Nat.le_trans (Nat.le_refl _) Kc44.1
            have ZZ46 : n0 ≤ T44.heap.size := Nat.le_trans Z0 SZ46
            have K47 : Keep h0 T44.heap [tr, tc, ts] := ((Keep.refl h0 [tr, tc, ts])).trans Kc44 (allS (Or.inl (List.mem_of_getElem? (i := 0) rfl)) (allS (Or.inl (List.mem_of_getElem? (i := 1) rfl)) (allS (Or.inl (List.mem_of_getElem? (i := 2) rfl)) all0)))
            have pre48 : ∀ t, Steps p.tables e below (T44.setTop (mkF m 60 #[.val (.ref o0), .val (.int p1), .val (.long q2), .second, .val (.int p4), .val (.int p5), .val (.int ((2 * i + 2).toInt32)), .val (.int ((n / 2).toInt32)), .val (.int ((2 * i + 2).toInt32))] [])) t → Steps p.tables e below (T0.setTop (mkF m 60 #[.val (.ref o0), .val (.int p1), .val (.long q2), .second, .val (.int p4), .val (.int p5), .val (.int (i.toInt32)), .val (.int ((n / 2).toInt32)), s8] [])) t := fun t k => pre41 t (by
              refine XS.ifYes X40.here hx rfl (pc0 := 136) (pc' := 142) rfl (hb hby d9_136) rfl ((if0 _ _).trans (feq hs42).2) (by decide) (by decide) ?_
              show Steps p.tables e below (T40.setTop (mkF m 142 #[.val (.ref o0), .val (.int p1), .val (.long q2), .second, .val (.int p4), .val (.int p5), .val (.int (i.toInt32)), .val (.int ((n / 2).toInt32)), .val (.int ((2 * i + 2).toInt32))] [])) _
              refine XS.aloadN X40.here hx rfl (hb hby d9_142) rfl rfl ?_
              show Steps p.tables e below (T40.setTop (mkF m 143 #[.val (.ref o0), .val (.int p1), .val (.long q2), .second, .val (.int p4), .val (.int p5), .val (.int (i.toInt32)), .val (.int ((n / 2).toInt32)), .val (.int ((2 * i + 2).toInt32))] [(.ref o0)])) _
              refine XS.iload X40.here hx rfl (hb hby d9_143) rfl ?_
              show Steps p.tables e below (T40.setTop (mkF m 145 #[.val (.ref o0), .val (.int p1), .val (.long q2), .second, .val (.int p4), .val (.int p5), .val (.int (i.toInt32)), .val (.int ((n / 2).toInt32)), .val (.int ((2 * i + 2).toInt32))] [(.int ((2 * i + 2).toInt32)), (.ref o0)])) _
              refine XS.iload X40.here hx rfl (hb hby d9_145) rfl ?_
              show Steps p.tables e below (T40.setTop (mkF m 147 #[.val (.ref o0), .val (.int p1), .val (.long q2), .second, .val (.int p4), .val (.int p5), .val (.int (i.toInt32)), .val (.int ((n / 2).toInt32)), .val (.int ((2 * i + 2).toInt32))] [(.int (i.toInt32)), (.int ((2 * i + 2).toInt32)), (.ref o0)])) _
              refine st44.trans ?_
              show Steps p.tables e below (T44.setTop (mkF m 150 #[.val (.ref o0), .val (.int p1), .val (.long q2), .second, .val (.int p4), .val (.int p5), .val (.int (i.toInt32)), .val (.int ((n / 2).toInt32)), .val (.int ((2 * i + 2).toInt32))] [])) _
              refine XS.iload X44.here hx rfl (hb hby d9_150) rfl ?_
              show Steps p.tables e below (T44.setTop (mkF m 152 #[.val (.ref o0), .val (.int p1), .val (.long q2), .second, .val (.int p4), .val (.int p5), .val (.int (i.toInt32)), .val (.int ((n / 2).toInt32)), .val (.int ((2 * i + 2).toInt32))] [(.int ((2 * i + 2).toInt32))])) _
              refine XS.istore X44.here hx rfl (hb hby d9_152) rfl (l' := #[.val (.ref o0), .val (.int p1), .val (.long q2), .second, .val (.int p4), .val (.int p5), .val (.int ((2 * i + 2).toInt32)), .val (.int ((n / 2).toInt32)), .val (.int ((2 * i + 2).toInt32))]) rfl ?_
              show Steps p.tables e below (T44.setTop (mkF m 154 #[.val (.ref o0), .val (.int p1), .val (.long q2), .second, .val (.int p4), .val (.int p5), .val (.int ((2 * i + 2).toInt32)), .val (.int ((n / 2).toInt32)), .val (.int ((2 * i + 2).toInt32))] [])) _
              refine XS.goto X44.here hx rfl (pc0 := 154) (pc' := 60) rfl (hb hby d9_154) (by decide) (by decide) ?_
              show Steps p.tables e below (T44.setTop (mkF m 60 #[.val (.ref o0), .val (.int p1), .val (.long q2), .second, .val (.int p4), .val (.int p5), .val (.int ((2 * i + 2).toInt32)), .val (.int ((n / 2).toInt32)), .val (.int ((2 * i + 2).toInt32))] [])) _
              exact k)
            have hyx : own_bf (fe (2 * i + 2)) (q2, p4, p5) := Classical.byContradiction fun q0 => (show ¬ _ from (by have q := hs42; rw [own_tn (show (2 * i + 2) < 2147483648 by omega)] at q; exact q)) ((own_pvr _ q2 p4 p5).mpr q0)
            obtain ⟨T1, h1, locs1, i1, f1, s1, Y1, Y2, Y3, Y4, Y5, Y6, Y7, Y8, Y9, Y10⟩ := ih (n - (2 * i + 2)) (by omega) (2 * i + 2) (own_up fe ((i.toInt32) : Int32).toNatClampNeg (fe (((2 * i + 2).toInt32) : Int32).toNatClampNeg)) (.val (.int ((2 * i + 2).toInt32))) _ _ _ rfl (One.val rfl) (Or.inr (by rw [own_tn (show i < 2147483648 by omega), own_tn (show (2 * i + 2) < 2147483648 by omega)]; exact own_dn_step hI hcn (by omega) (by omega) hyx hm)) X44 rfl N44 ZZ46 F_ranks_o0_45 F_costs_o0_45 F_states_o0_45 E_o0_45 F_size_o0_45 P44_0 P44_1 P44_2
            exact ⟨T1, h1, locs1, i1, f1, s1, Y1, Y2, Y3, K47.trans Y4 (fun x hx => Or.inl hx), Y5, Y6, Y7, Y8, Y9, fun t k => pre48 t (Y10 t k)⟩
      · have h83 : ¬ 2 * i + 2 < n := fun q => hs7 (by rw [own_inc]; exact (own_ltn (by omega) (by omega)).mpr q)
        have hm : ∀ j, 0 < j → j < n → (j - 1) / 2 = i → ¬ own_bf (fe j) (fe (2 * i + 1)) := fun j j0 j1 j2 => by
          have q : j = 2 * i + 1 := by omega
          rw [q]; exact own_bf_irr _
        have hcn : (2 * i + 1) < n := by omega
        obtain ⟨T49, X49, e49, st49⟩ := getF X5 hx hZ hown (host := "") (Or.inl (hw _ (List.mem_of_getElem? (i := 18) rfl))) Via.refl e5 F_ranks_o0 (g := (mkF m 117 #[.val (.ref o0), .val (.int p1), .val (.long q2), .second, .val (.int p4), .val (.int p5), .val (.int (i.toInt32)), .val (.int ((n / 2).toInt32)), .val (.int ((2 * i + 1).toInt32))] [(.ref o0)])) rfl rfl (hb hby d9_117)
        have qa50 := A_tr
        obtain ⟨c50, Ar50, Sz50, H50⟩ := qa50
        have hi51 : 0 ≤ (((2 * i + 1).toInt32) : Int32).toInt ∧ (((2 * i + 1).toInt32) : Int32).toInt < (64 : Nat) := (own_bd (show (2 * i + 1) < 64 by omega) (by decide))
        have hl51 : c50.slots[(((2 * i + 1).toInt32) : Int32).toNatClampNeg]? = some (.long ((fe (((2 * i + 1).toInt32) : Int32).toNatClampNeg).1)) := H50 _ (own_ix hi51)
        obtain ⟨T52, X52, e52, st52⟩ := getF X49 hx hZ hown (host := "") (Or.inl (hw _ (List.mem_of_getElem? (i := 20) rfl))) Via.refl e49 F_costs_o0 (g := (mkF m 124 #[.val (.ref o0), .val (.int p1), .val (.long q2), .second, .val (.int p4), .val (.int p5), .val (.int (i.toInt32)), .val (.int ((n / 2).toInt32)), .val (.int ((2 * i + 1).toInt32))] [(.ref o0), (.long ((fe (((2 * i + 1).toInt32) : Int32).toNatClampNeg).1))])) rfl rfl (hb hby d9_124)
        have qa53 := A_tc
        obtain ⟨c53, Ar53, Sz53, H53⟩ := qa53
        have hi54 : 0 ≤ (((2 * i + 1).toInt32) : Int32).toInt ∧ (((2 * i + 1).toInt32) : Int32).toInt < (64 : Nat) := (own_bd (show (2 * i + 1) < 64 by omega) (by decide))
        have hl54 : c53.slots[(((2 * i + 1).toInt32) : Int32).toNatClampNeg]? = some (.int ((fe (((2 * i + 1).toInt32) : Int32).toNatClampNeg).2.1)) := H53 _ (own_ix hi54)
        obtain ⟨_, _, ⟨T55, L55, k55, n55⟩, -, X55, ⟨Lc55, hQ55, l55, y55, z55⟩, st55⟩ := Jvm.LawKit.callS X52 hx (y := (⟨"com/example/brisk_maze/briskmaze/search/RankedFrontier", "precedes", "(JIJI)Z"⟩ : MethodName)) hown (mvT hZ (hw _ (List.mem_of_getElem? (i := 39) rfl))) (mvT hZ (hw _ (List.mem_of_getElem? (i := 40) rfl))) (mvT hZ (hw _ (List.mem_of_getElem? (i := 11) rfl))) (mvT hZ (hw _ (List.mem_of_getElem? (i := 41) rfl))) (by decide) (backOf (W := 0) (rm8 l Z a0 hw [] ((fe (((2 * i + 1).toInt32) : Int32).toNatClampNeg).1) ((fe (((2 * i + 1).toInt32) : Int32).toNatClampNeg).2.1) q2 p4 h0 n0 Z0) hZ (hw _ (List.mem_of_getElem? (i := 41) rfl)) (hw _ (List.mem_of_getElem? (i := 11) rfl)) (by decide) (by decide)) (g := (mkF m 133 #[.val (.ref o0), .val (.int p1), .val (.long q2), .second, .val (.int p4), .val (.int p5), .val (.int (i.toInt32)), .val (.int ((n / 2).toInt32)), .val (.int ((2 * i + 1).toInt32))] [(.int p4), (.long q2), (.int ((fe (((2 * i + 1).toInt32) : Int32).toNatClampNeg).2.1)), (.long ((fe (((2 * i + 1).toInt32) : Int32).toNatClampNeg).1))])) rfl (by rw [hml]; rfl) (argsL := [(.long ((fe (((2 * i + 1).toInt32) : Int32).toNatClampNeg).1)), (.int ((fe (((2 * i + 1).toInt32) : Int32).toNatClampNeg).2.1)), (.long q2), (.int p4)]) (rest := []) (lenOf pd_0 rfl) rfl (by show 2 * 0 + _ ≤ _; exact Nat.le_of_eq rfl) (hb hby d9_133) (fun _ _ => ⟨rfl, e52, (by decide : 0 + 0 ≤ _), (by decide : 0 + 0 ≤ _)⟩)
        dsimp only [Pt.U, Pt.locs, Pt.cells, Pt.slots] at X55 l55 y55 z55 st55 hQ55
        subst y55 z55
        obtain ⟨rfl, N55q, hh55⟩ := hQ55
        have N55 := Fr.app N0 N55q
        rw [← l55] at N55
        have pre56 : ∀ t, Steps p.tables e below (T55.setTop (mkF m 136 #[.val (.ref o0), .val (.int p1), .val (.long q2), .second, .val (.int p4), .val (.int p5), .val (.int (i.toInt32)), .val (.int ((n / 2).toInt32)), .val (.int ((2 * i + 1).toInt32))] [(.int (f8_ret ((fe (((2 * i + 1).toInt32) : Int32).toNatClampNeg).1) ((fe (((2 * i + 1).toInt32) : Int32).toNatClampNeg).2.1) q2 p4))])) t → Steps p.tables e below (T0.setTop (mkF m 60 #[.val (.ref o0), .val (.int p1), .val (.long q2), .second, .val (.int p4), .val (.int p5), .val (.int (i.toInt32)), .val (.int ((n / 2).toInt32)), s8] [])) t := fun t k => pre6 t (by
          refine XS.icmpYes X5.here hx rfl (pc0 := 83) (pc' := 116) rfl (hb hby d9_83) rfl (flt hs7).2.1 (by decide) (by decide) ?_
          show Steps p.tables e below (T5.setTop (mkF m 116 #[.val (.ref o0), .val (.int p1), .val (.long q2), .second, .val (.int p4), .val (.int p5), .val (.int (i.toInt32)), .val (.int ((n / 2).toInt32)), .val (.int ((2 * i + 1).toInt32))] [])) _
          refine XS.aloadN X5.here hx rfl (hb hby d9_116) rfl rfl ?_
          show Steps p.tables e below (T5.setTop (mkF m 117 #[.val (.ref o0), .val (.int p1), .val (.long q2), .second, .val (.int p4), .val (.int p5), .val (.int (i.toInt32)), .val (.int ((n / 2).toInt32)), .val (.int ((2 * i + 1).toInt32))] [(.ref o0)])) _
          refine st49 _ ?_
          show Steps p.tables e below (T49.setTop (mkF m 120 #[.val (.ref o0), .val (.int p1), .val (.long q2), .second, .val (.int p4), .val (.int p5), .val (.int (i.toInt32)), .val (.int ((n / 2).toInt32)), .val (.int ((2 * i + 1).toInt32))] [(.ref tr)])) _
          refine XS.iload X49.here hx rfl (hb hby d9_120) rfl ?_
          show Steps p.tables e below (T49.setTop (mkF m 122 #[.val (.ref o0), .val (.int p1), .val (.long q2), .second, .val (.int p4), .val (.int p5), .val (.int (i.toInt32)), .val (.int ((n / 2).toInt32)), .val (.int ((2 * i + 1).toInt32))] [(.int ((2 * i + 1).toInt32)), (.ref tr)])) _
          refine X49.laload hx (j := ((2 * i + 1).toInt32)) (v := (.long ((fe (((2 * i + 1).toInt32) : Int32).toNatClampNeg).1))) (by rw [e49]; exact Ar50.1) (State.isArrayOf_alike hZ.alike Ar50.2.1) Ar50.2.2 (own_in Sz50 hi51) hl51 (g := (mkF m 122 #[.val (.ref o0), .val (.int p1), .val (.long q2), .second, .val (.int p4), .val (.int p5), .val (.int (i.toInt32)), .val (.int ((n / 2).toInt32)), .val (.int ((2 * i + 1).toInt32))] [(.int ((2 * i + 1).toInt32)), (.ref tr)])) rfl rfl (hb hby d9_122) _ ?_
          show Steps p.tables e below (T49.setTop (mkF m 123 #[.val (.ref o0), .val (.int p1), .val (.long q2), .second, .val (.int p4), .val (.int p5), .val (.int (i.toInt32)), .val (.int ((n / 2).toInt32)), .val (.int ((2 * i + 1).toInt32))] [(.long ((fe (((2 * i + 1).toInt32) : Int32).toNatClampNeg).1))])) _
          refine XS.aloadN X49.here hx rfl (hb hby d9_123) rfl rfl ?_
          show Steps p.tables e below (T49.setTop (mkF m 124 #[.val (.ref o0), .val (.int p1), .val (.long q2), .second, .val (.int p4), .val (.int p5), .val (.int (i.toInt32)), .val (.int ((n / 2).toInt32)), .val (.int ((2 * i + 1).toInt32))] [(.ref o0), (.long ((fe (((2 * i + 1).toInt32) : Int32).toNatClampNeg).1))])) _
          refine st52 _ ?_
          show Steps p.tables e below (T52.setTop (mkF m 127 #[.val (.ref o0), .val (.int p1), .val (.long q2), .second, .val (.int p4), .val (.int p5), .val (.int (i.toInt32)), .val (.int ((n / 2).toInt32)), .val (.int ((2 * i + 1).toInt32))] [(.ref tc), (.long ((fe (((2 * i + 1).toInt32) : Int32).toNatClampNeg).1))])) _
          refine XS.iload X52.here hx rfl (hb hby d9_127) rfl ?_
          show Steps p.tables e below (T52.setTop (mkF m 129 #[.val (.ref o0), .val (.int p1), .val (.long q2), .second, .val (.int p4), .val (.int p5), .val (.int (i.toInt32)), .val (.int ((n / 2).toInt32)), .val (.int ((2 * i + 1).toInt32))] [(.int ((2 * i + 1).toInt32)), (.ref tc), (.long ((fe (((2 * i + 1).toInt32) : Int32).toNatClampNeg).1))])) _
          refine X52.iaload hx (j := ((2 * i + 1).toInt32)) (v := (.int ((fe (((2 * i + 1).toInt32) : Int32).toNatClampNeg).2.1))) (by rw [e52]; exact Ar53.1) (State.isArrayOf_alike hZ.alike Ar53.2.1) Ar53.2.2 (own_in Sz53 hi54) hl54 (g := (mkF m 129 #[.val (.ref o0), .val (.int p1), .val (.long q2), .second, .val (.int p4), .val (.int p5), .val (.int (i.toInt32)), .val (.int ((n / 2).toInt32)), .val (.int ((2 * i + 1).toInt32))] [(.int ((2 * i + 1).toInt32)), (.ref tc), (.long ((fe (((2 * i + 1).toInt32) : Int32).toNatClampNeg).1))])) rfl rfl (hb hby d9_129) _ ?_
          show Steps p.tables e below (T52.setTop (mkF m 130 #[.val (.ref o0), .val (.int p1), .val (.long q2), .second, .val (.int p4), .val (.int p5), .val (.int (i.toInt32)), .val (.int ((n / 2).toInt32)), .val (.int ((2 * i + 1).toInt32))] [(.int ((fe (((2 * i + 1).toInt32) : Int32).toNatClampNeg).2.1)), (.long ((fe (((2 * i + 1).toInt32) : Int32).toNatClampNeg).1))])) _
          refine XS.lloadN X52.here hx rfl (hb hby d9_130) rfl ?_
          show Steps p.tables e below (T52.setTop (mkF m 131 #[.val (.ref o0), .val (.int p1), .val (.long q2), .second, .val (.int p4), .val (.int p5), .val (.int (i.toInt32)), .val (.int ((n / 2).toInt32)), .val (.int ((2 * i + 1).toInt32))] [(.long q2), (.int ((fe (((2 * i + 1).toInt32) : Int32).toNatClampNeg).2.1)), (.long ((fe (((2 * i + 1).toInt32) : Int32).toNatClampNeg).1))])) _
          refine XS.iload X52.here hx rfl (hb hby d9_131) rfl ?_
          show Steps p.tables e below (T52.setTop (mkF m 133 #[.val (.ref o0), .val (.int p1), .val (.long q2), .second, .val (.int p4), .val (.int p5), .val (.int (i.toInt32)), .val (.int ((n / 2).toInt32)), .val (.int ((2 * i + 1).toInt32))] [(.int p4), (.long q2), (.int ((fe (((2 * i + 1).toInt32) : Int32).toNatClampNeg).2.1)), (.long ((fe (((2 * i + 1).toInt32) : Int32).toNatClampNeg).1))])) _
          refine st55 _ ?_
          show Steps p.tables e below (T55.setTop (mkF m 136 #[.val (.ref o0), .val (.int p1), .val (.long q2), .second, .val (.int p4), .val (.int p5), .val (.int (i.toInt32)), .val (.int ((n / 2).toInt32)), .val (.int ((2 * i + 1).toInt32))] [(.int (f8_ret ((fe (((2 * i + 1).toInt32) : Int32).toNatClampNeg).1) ((fe (((2 * i + 1).toInt32) : Int32).toNatClampNeg).2.1) q2 p4))])) _
          exact k)
        by_cases hs57 : (f8_ret ((fe (((2 * i + 1).toInt32) : Int32).toNatClampNeg).1) ((fe (((2 * i + 1).toInt32) : Int32).toNatClampNeg).2.1) q2 p4) = (0 : Int32)
        · have hnx : ¬ own_bf (fe (2 * i + 1)) (q2, p4, p5) := (own_pvr _ q2 p4 p5).mp (by have q := hs57; rw [own_tn (show (2 * i + 1) < 2147483648 by omega)] at q; exact q)
          have pre58 : ∀ t, Steps p.tables e below (T55.setTop (mkF m 157 #[.val (.ref o0), .val (.int p1), .val (.long q2), .second, .val (.int p4), .val (.int p5), .val (.int (i.toInt32)), .val (.int ((n / 2).toInt32)), .val (.int ((2 * i + 1).toInt32))] [])) t → Steps p.tables e below (T0.setTop (mkF m 60 #[.val (.ref o0), .val (.int p1), .val (.long q2), .second, .val (.int p4), .val (.int p5), .val (.int (i.toInt32)), .val (.int ((n / 2).toInt32)), s8] [])) t := fun t k => pre56 t (by
            refine XS.ifNo X55.here hx rfl (hb hby d9_136) rfl ((if0 _ _).trans (teq hs57).2) ?_
            show Steps p.tables e below (T55.setTop (mkF m 139 #[.val (.ref o0), .val (.int p1), .val (.long q2), .second, .val (.int p4), .val (.int p5), .val (.int (i.toInt32)), .val (.int ((n / 2).toInt32)), .val (.int ((2 * i + 1).toInt32))] [])) _
            refine XS.goto X55.here hx rfl (pc0 := 139) (pc' := 157) rfl (hb hby d9_139) (by decide) (by decide) ?_
            show Steps p.tables e below (T55.setTop (mkF m 157 #[.val (.ref o0), .val (.int p1), .val (.long q2), .second, .val (.int p4), .val (.int p5), .val (.int (i.toInt32)), .val (.int ((n / 2).toInt32)), .val (.int ((2 * i + 1).toInt32))] [])) _
            exact k)
          exact ⟨_, _, _, i, fe, _, X55, hh55, N55, (Keep.refl h0 [tr, tc, ts]), A_tr, A_tc, A_ts, (by omega), (own_dn_out hI (fun j j0 j1 j2 => own_bf_nt (hm j j0 j1 j2) hnx)), pre58⟩
        · obtain ⟨cq59, q59, q59'⟩ := (E_o0).cell
          obtain ⟨_, _, ⟨T59, L59, k59, n59⟩, -, X59, ⟨Lc59, hQ59, l59, y59, z59⟩, st59⟩ := X55.privateBack hx (y := (⟨"com/example/brisk_maze/briskmaze/search/RankedFrontier", "move", "(II)V"⟩ : MethodName)) hown (mvT hZ (hw _ (List.mem_of_getElem? (i := 58) rfl))) (mvT hZ (hw _ (List.mem_of_getElem? (i := 59) rfl))) (own_selp (y := (⟨"com/example/brisk_maze/briskmaze/search/RankedFrontier", "move", "(II)V"⟩ : MethodName)) (mvT hZ (hw _ (List.mem_of_getElem? (i := 10) rfl))) (Cond.privateMethod_at (mvP hZ (hw _ (List.mem_of_getElem? (i := 60) rfl)) (args := #[]))) (mvT hZ (hw _ (List.mem_of_getElem? (i := 59) rfl))) (by decide)) (Cond.privateMethod_at (mvP hZ (hw _ (List.mem_of_getElem? (i := 60) rfl)) (args := #[]))) (mvT hZ (hw _ (List.mem_of_getElem? (i := 61) rfl))) (by decide) (backOf (W := 0) (rm13 l Z a0 hw [] o0 ((2 * i + 1).toInt32) (i.toInt32) tr tc ts fe h0 n0 Z0 F_ranks_o0 F_costs_o0 F_states_o0 E_o0 A_tr A_tc A_ts g_tr g_tc g_ts ne_o0_tr ne_o0_tc ne_o0_ts ne_tr_tc ne_tr_ts ne_tc_ts (own_bd (show (2 * i + 1) < 64 by omega) (by decide)) (own_bd (show i < 64 by omega) (by decide))) hZ (hw _ (List.mem_of_getElem? (i := 61) rfl)) (hw _ (List.mem_of_getElem? (i := 11) rfl)) (by decide) (by decide)) (g := (mkF m 147 #[.val (.ref o0), .val (.int p1), .val (.long q2), .second, .val (.int p4), .val (.int p5), .val (.int (i.toInt32)), .val (.int ((n / 2).toInt32)), .val (.int ((2 * i + 1).toInt32))] [(.int (i.toInt32)), (.int ((2 * i + 1).toInt32)), (.ref o0)])) rfl (by rw [hml]; rfl) (Steps.refl _) (a := o0) (by rw [hh55]; exact q59) q59' (argsL := [(.int ((2 * i + 1).toInt32)), (.int (i.toInt32))]) (rest := []) (lenOf pd_3 rfl) rfl (by show 2 * 0 + _ ≤ _; exact Nat.le_of_eq rfl) (hb hby d9_147) (fun _ _ => ⟨rfl, hh55, (by decide : 0 + 0 ≤ _), (by decide : 0 + 0 ≤ _)⟩)
          dsimp only [Pt.U, Pt.locs, Pt.cells, Pt.slots] at X59 l59 y59 z59 st59 hQ59
          subst y59 z59
          obtain ⟨rfl, N59q, Kc59, P59_0, P59_1, P59_2⟩ := hQ59
          have N59 := Fr.app N55 N59q
          rw [← l59] at N59
          have F_ranks_o0_60 : Fld Z T59.heap o0 "com/example/brisk_maze/briskmaze/search/RankedFrontier" "ranks" "[J" (.ref tr) := (F_ranks_o0).keep Kc59 (ninS ne_o0_tr (ninS ne_o0_tc (ninS ne_o0_ts nin0)))
          have F_costs_o0_60 : Fld Z T59.heap o0 "com/example/brisk_maze/briskmaze/search/RankedFrontier" "costs" "[I" (.ref tc) := (F_costs_o0).keep Kc59 (ninS ne_o0_tr (ninS ne_o0_tc (ninS ne_o0_ts nin0)))
          have F_states_o0_60 : Fld Z T59.heap o0 "com/example/brisk_maze/briskmaze/search/RankedFrontier" "states" "[I" (.ref ts) := (F_states_o0).keep Kc59 (ninS ne_o0_tr (ninS ne_o0_tc (ninS ne_o0_ts nin0)))
          have E_o0_60 : Exa Z T59.heap o0 "com/example/brisk_maze/briskmaze/search/RankedFrontier" := (E_o0).keep Kc59
          have F_size_o0_60 : Fld Z T59.heap o0 "com/example/brisk_maze/briskmaze/search/RankedFrontier" "size" "I" (.int (n.toInt32)) := (F_size_o0).keep Kc59 (ninS ne_o0_tr (ninS ne_o0_tc (ninS ne_o0_ts nin0)))
          have SZ61 : h0.size ≤ T59.heap.size := Nat.le_trans (Nat.le_refl _) Kc59.1
          have ZZ61 : n0 ≤ T59.heap.size := Nat.le_trans Z0 SZ61
          have K62 : Keep h0 T59.heap [tr, tc, ts] := ((Keep.refl h0 [tr, tc, ts])).trans Kc59 (allS (Or.inl (List.mem_of_getElem? (i := 0) rfl)) (allS (Or.inl (List.mem_of_getElem? (i := 1) rfl)) (allS (Or.inl (List.mem_of_getElem? (i := 2) rfl)) all0)))
          have pre63 : ∀ t, Steps p.tables e below (T59.setTop (mkF m 60 #[.val (.ref o0), .val (.int p1), .val (.long q2), .second, .val (.int p4), .val (.int p5), .val (.int ((2 * i + 1).toInt32)), .val (.int ((n / 2).toInt32)), .val (.int ((2 * i + 1).toInt32))] [])) t → Steps p.tables e below (T0.setTop (mkF m 60 #[.val (.ref o0), .val (.int p1), .val (.long q2), .second, .val (.int p4), .val (.int p5), .val (.int (i.toInt32)), .val (.int ((n / 2).toInt32)), s8] [])) t := fun t k => pre56 t (by
            refine XS.ifYes X55.here hx rfl (pc0 := 136) (pc' := 142) rfl (hb hby d9_136) rfl ((if0 _ _).trans (feq hs57).2) (by decide) (by decide) ?_
            show Steps p.tables e below (T55.setTop (mkF m 142 #[.val (.ref o0), .val (.int p1), .val (.long q2), .second, .val (.int p4), .val (.int p5), .val (.int (i.toInt32)), .val (.int ((n / 2).toInt32)), .val (.int ((2 * i + 1).toInt32))] [])) _
            refine XS.aloadN X55.here hx rfl (hb hby d9_142) rfl rfl ?_
            show Steps p.tables e below (T55.setTop (mkF m 143 #[.val (.ref o0), .val (.int p1), .val (.long q2), .second, .val (.int p4), .val (.int p5), .val (.int (i.toInt32)), .val (.int ((n / 2).toInt32)), .val (.int ((2 * i + 1).toInt32))] [(.ref o0)])) _
            refine XS.iload X55.here hx rfl (hb hby d9_143) rfl ?_
            show Steps p.tables e below (T55.setTop (mkF m 145 #[.val (.ref o0), .val (.int p1), .val (.long q2), .second, .val (.int p4), .val (.int p5), .val (.int (i.toInt32)), .val (.int ((n / 2).toInt32)), .val (.int ((2 * i + 1).toInt32))] [(.int ((2 * i + 1).toInt32)), (.ref o0)])) _
            refine XS.iload X55.here hx rfl (hb hby d9_145) rfl ?_
            show Steps p.tables e below (T55.setTop (mkF m 147 #[.val (.ref o0), .val (.int p1), .val (.long q2), .second, .val (.int p4), .val (.int p5), .val (.int (i.toInt32)), .val (.int ((n / 2).toInt32)), .val (.int ((2 * i + 1).toInt32))] [(.int (i.toInt32)), (.int ((2 * i + 1).toInt32)), (.ref o0)])) _
            refine st59.trans ?_
            show Steps p.tables e below (T59.setTop (mkF m 150 #[.val (.ref o0), .val (.int p1), .val (.long q2), .second, .val (.int p4), .val (.int p5), .val (.int (i.toInt32)), .val (.int ((n / 2).toInt32)), .val (.int ((2 * i + 1).toInt32))] [])) _
            refine XS.iload X59.here hx rfl (hb hby d9_150) rfl ?_
            show Steps p.tables e below (T59.setTop (mkF m 152 #[.val (.ref o0), .val (.int p1), .val (.long q2), .second, .val (.int p4), .val (.int p5), .val (.int (i.toInt32)), .val (.int ((n / 2).toInt32)), .val (.int ((2 * i + 1).toInt32))] [(.int ((2 * i + 1).toInt32))])) _
            refine XS.istore X59.here hx rfl (hb hby d9_152) rfl (l' := #[.val (.ref o0), .val (.int p1), .val (.long q2), .second, .val (.int p4), .val (.int p5), .val (.int ((2 * i + 1).toInt32)), .val (.int ((n / 2).toInt32)), .val (.int ((2 * i + 1).toInt32))]) rfl ?_
            show Steps p.tables e below (T59.setTop (mkF m 154 #[.val (.ref o0), .val (.int p1), .val (.long q2), .second, .val (.int p4), .val (.int p5), .val (.int ((2 * i + 1).toInt32)), .val (.int ((n / 2).toInt32)), .val (.int ((2 * i + 1).toInt32))] [])) _
            refine XS.goto X59.here hx rfl (pc0 := 154) (pc' := 60) rfl (hb hby d9_154) (by decide) (by decide) ?_
            show Steps p.tables e below (T59.setTop (mkF m 60 #[.val (.ref o0), .val (.int p1), .val (.long q2), .second, .val (.int p4), .val (.int p5), .val (.int ((2 * i + 1).toInt32)), .val (.int ((n / 2).toInt32)), .val (.int ((2 * i + 1).toInt32))] [])) _
            exact k)
          have hyx : own_bf (fe (2 * i + 1)) (q2, p4, p5) := Classical.byContradiction fun q0 => (show ¬ _ from (by have q := hs57; rw [own_tn (show (2 * i + 1) < 2147483648 by omega)] at q; exact q)) ((own_pvr _ q2 p4 p5).mpr q0)
          obtain ⟨T1, h1, locs1, i1, f1, s1, Y1, Y2, Y3, Y4, Y5, Y6, Y7, Y8, Y9, Y10⟩ := ih (n - (2 * i + 1)) (by omega) (2 * i + 1) (own_up fe ((i.toInt32) : Int32).toNatClampNeg (fe (((2 * i + 1).toInt32) : Int32).toNatClampNeg)) (.val (.int ((2 * i + 1).toInt32))) _ _ _ rfl (One.val rfl) (Or.inr (by rw [own_tn (show i < 2147483648 by omega), own_tn (show (2 * i + 1) < 2147483648 by omega)]; exact own_dn_step hI hcn (by omega) (by omega) hyx hm)) X59 rfl N59 ZZ61 F_ranks_o0_60 F_costs_o0_60 F_states_o0_60 E_o0_60 F_size_o0_60 P59_0 P59_1 P59_2
          exact ⟨T1, h1, locs1, i1, f1, s1, Y1, Y2, Y3, K62.trans Y4 (fun x hx => Or.inl hx), Y5, Y6, Y7, Y8, Y9, fun t k => pre63 t (Y10 t k)⟩
    · have hge : ¬ i < n / 2 := fun q => hs2 ((own_ltn (by omega) (by omega)).mpr q)
      have pre64 : ∀ t, Steps p.tables e below (T0.setTop (mkF m 157 #[.val (.ref o0), .val (.int p1), .val (.long q2), .second, .val (.int p4), .val (.int p5), .val (.int (i.toInt32)), .val (.int ((n / 2).toInt32)), s8] [])) t → Steps p.tables e below (T0.setTop (mkF m 60 #[.val (.ref o0), .val (.int p1), .val (.long q2), .second, .val (.int p4), .val (.int p5), .val (.int (i.toInt32)), .val (.int ((n / 2).toInt32)), s8] [])) t := fun t k => pre1 t (by
        refine XS.icmpYes X0.here hx rfl (pc0 := 64) (pc' := 157) rfl (hb hby d9_64) rfl (flt hs2).2.1 (by decide) (by decide) ?_
        show Steps p.tables e below (T0.setTop (mkF m 157 #[.val (.ref o0), .val (.int p1), .val (.long q2), .second, .val (.int p4), .val (.int p5), .val (.int (i.toInt32)), .val (.int ((n / 2).toInt32)), s8] [])) _
        exact k)
      exact ⟨_, _, _, i, fe, _, X0, e0, N0, (Keep.refl h0 [tr, tc, ts]), A_tr, A_tc, A_ts, (by omega), (by
            rcases hI0 with ⟨q, r⟩ | q
            · subst q; exact ⟨fun j _ j1 => absurd j1 (by omega), ⟨id, id, fun j j1 => absurd j1 (by omega), fun j j1 => absurd j1 (by omega)⟩⟩
            · exact own_dn_out q (fun j j0 j1 j2 => absurd j2 (by omega))), pre64⟩
theorem d9_0 : decode prog_53_method_4_code 0 = .ok (.aload_n 0, 1) := by decide +kernel
theorem d9_1 : decode prog_53_method_4_code 1 = .ok (.getfield 17, 3) := by decide +kernel
theorem d9_4 : decode prog_53_method_4_code 4 = .ok (.iconst 0, 1) := by decide +kernel
theorem d9_5 : decode prog_53_method_4_code 5 = .ok (.iaload, 1) := by decide +kernel
theorem d9_6 : decode prog_53_method_4_code 6 = .ok (.istore_n 1, 1) := by decide +kernel
theorem d9_7 : decode prog_53_method_4_code 7 = .ok (.aload_n 0, 1) := by decide +kernel
theorem d9_8 : decode prog_53_method_4_code 8 = .ok (.dup, 1) := by decide +kernel
theorem d9_9 : decode prog_53_method_4_code 9 = .ok (.getfield 20, 3) := by decide +kernel
theorem d9_12 : decode prog_53_method_4_code 12 = .ok (.iconst 1, 1) := by decide +kernel
theorem d9_13 : decode prog_53_method_4_code 13 = .ok (.isub, 1) := by decide +kernel
theorem d9_14 : decode prog_53_method_4_code 14 = .ok (.putfield 20, 3) := by decide +kernel
theorem d9_17 : decode prog_53_method_4_code 17 = .ok (.aload_n 0, 1) := by decide +kernel
theorem d9_18 : decode prog_53_method_4_code 18 = .ok (.getfield 9, 3) := by decide +kernel
theorem d9_21 : decode prog_53_method_4_code 21 = .ok (.aload_n 0, 1) := by decide +kernel
theorem d9_22 : decode prog_53_method_4_code 22 = .ok (.getfield 20, 3) := by decide +kernel
theorem d9_25 : decode prog_53_method_4_code 25 = .ok (.laload, 1) := by decide +kernel
theorem d9_26 : decode prog_53_method_4_code 26 = .ok (.lstore_n 2, 1) := by decide +kernel
theorem d9_27 : decode prog_53_method_4_code 27 = .ok (.aload_n 0, 1) := by decide +kernel
theorem d9_28 : decode prog_53_method_4_code 28 = .ok (.getfield 13, 3) := by decide +kernel
theorem d9_31 : decode prog_53_method_4_code 31 = .ok (.aload_n 0, 1) := by decide +kernel
theorem d9_32 : decode prog_53_method_4_code 32 = .ok (.getfield 20, 3) := by decide +kernel
theorem d9_35 : decode prog_53_method_4_code 35 = .ok (.iaload, 1) := by decide +kernel
theorem d9_36 : decode prog_53_method_4_code 36 = .ok (.istore 4, 2) := by decide +kernel
theorem d9_38 : decode prog_53_method_4_code 38 = .ok (.aload_n 0, 1) := by decide +kernel
theorem d9_39 : decode prog_53_method_4_code 39 = .ok (.getfield 17, 3) := by decide +kernel
theorem d9_42 : decode prog_53_method_4_code 42 = .ok (.aload_n 0, 1) := by decide +kernel
theorem d9_43 : decode prog_53_method_4_code 43 = .ok (.getfield 20, 3) := by decide +kernel
theorem d9_46 : decode prog_53_method_4_code 46 = .ok (.iaload, 1) := by decide +kernel
theorem d9_47 : decode prog_53_method_4_code 47 = .ok (.istore 5, 2) := by decide +kernel
theorem d9_49 : decode prog_53_method_4_code 49 = .ok (.iconst 0, 1) := by decide +kernel
theorem d9_50 : decode prog_53_method_4_code 50 = .ok (.istore 6, 2) := by decide +kernel
theorem d9_52 : decode prog_53_method_4_code 52 = .ok (.aload_n 0, 1) := by decide +kernel
theorem d9_53 : decode prog_53_method_4_code 53 = .ok (.getfield 20, 3) := by decide +kernel
theorem d9_56 : decode prog_53_method_4_code 56 = .ok (.iconst 1, 1) := by decide +kernel
theorem d9_57 : decode prog_53_method_4_code 57 = .ok (.iushr, 1) := by decide +kernel
theorem d9_58 : decode prog_53_method_4_code 58 = .ok (.istore 7, 2) := by decide +kernel
theorem d9_157 : decode prog_53_method_4_code 157 = .ok (.aload_n 0, 1) := by decide +kernel
theorem d9_158 : decode prog_53_method_4_code 158 = .ok (.iload 6, 2) := by decide +kernel
theorem d9_160 : decode prog_53_method_4_code 160 = .ok (.lload_n 2, 1) := by decide +kernel
theorem d9_161 : decode prog_53_method_4_code 161 = .ok (.iload 4, 2) := by decide +kernel
theorem d9_163 : decode prog_53_method_4_code 163 = .ok (.iload 5, 2) := by decide +kernel
theorem d9_165 : decode prog_53_method_4_code 165 = .ok (.invokevirtual 35, 3) := by decide +kernel
theorem d9_168 : decode prog_53_method_4_code 168 = .ok (.iload_n 1, 1) := by decide +kernel
theorem d9_169 : decode prog_53_method_4_code 169 = .ok (.ireturn, 1) := by decide +kernel
theorem ef_9 (m : MethodId) (o0 : Addr) : entryFrame m #[(.ref o0)] 9 = mkF m 0 #[.val (.ref o0), .unset, .unset, .unset, .unset, .unset, .unset, .unset, .unset] [] := by first | (simp [entryFrame, mkF, argsToLocals, Value.category]; done) | rfl

def Q9 (Z : State) (o0 : Addr) (tr tc ts : Addr) (fe : Nat → own_E) (n : Nat) (h0 : Heap) (n0 : Nat) (v : Option Value) (h : Heap) (L : List Loc) : Prop := ∃ (f2 : Nat → own_E), v = some (.int ((fe 0).2.2)) ∧ Fr n0 L ∧ Keep h0 h [tr, tc, ts, o0] ∧ (Fld Z h o0 "com/example/brisk_maze/briskmaze/search/RankedFrontier" "size" "I" (.int (n.toInt32))) ∧ (Fld Z h o0 "com/example/brisk_maze/briskmaze/search/RankedFrontier" "ranks" "[J" (.ref tr)) ∧ (Fld Z h o0 "com/example/brisk_maze/briskmaze/search/RankedFrontier" "costs" "[I" (.ref tc)) ∧ (Fld Z h o0 "com/example/brisk_maze/briskmaze/search/RankedFrontier" "states" "[I" (.ref ts)) ∧ (own_A Z h tr .long 64 (fun kk => (.long (f2 kk).1))) ∧ (own_A Z h tc .int 64 (fun kk => (.int (f2 kk).2.1))) ∧ (own_A Z h ts .int 64 (fun kk => (.int (f2 kk).2.2))) ∧ (own_heap n f2) ∧ (own_rr n f2 (own_up fe 0 (fe n)))
set_option maxRecDepth 65536 in
set_option maxHeartbeats 40000000 in
theorem rm9 (l : Launch) (Z : State) (a0 : Array Value) (hw : ∀ d ∈ tables_1, d.before a0 Z = true) (ws : List Jvm.Cond) (o0 : Addr) (tr tc ts : Addr) (fe : Nat → own_E) (n : Nat) (h0 : Heap) (n0 : Nat) (Z0 : n0 ≤ h0.size) (F_ranks_o0 : Fld Z h0 o0 "com/example/brisk_maze/briskmaze/search/RankedFrontier" "ranks" "[J" (.ref tr)) (F_costs_o0 : Fld Z h0 o0 "com/example/brisk_maze/briskmaze/search/RankedFrontier" "costs" "[I" (.ref tc)) (F_states_o0 : Fld Z h0 o0 "com/example/brisk_maze/briskmaze/search/RankedFrontier" "states" "[I" (.ref ts)) (E_o0 : Exa Z h0 o0 "com/example/brisk_maze/briskmaze/search/RankedFrontier") (F_size_o0 : Fld Z h0 o0 "com/example/brisk_maze/briskmaze/search/RankedFrontier" "size" "I" (.int ((n + 1).toInt32))) (A_tr : own_A Z h0 tr .long 64 (fun kk => (.long (fe kk).1))) (A_tc : own_A Z h0 tc .int 64 (fun kk => (.int (fe kk).2.1))) (A_ts : own_A Z h0 ts .int 64 (fun kk => (.int (fe kk).2.2))) (g_tr : n0 ≤ tr) (g_tc : n0 ≤ tc) (g_ts : n0 ≤ ts) (g_o0 : n0 ≤ o0) (ne_o0_tr : o0 ≠ tr) (ne_o0_tc : o0 ≠ tc) (ne_o0_ts : o0 ≠ ts) (ne_tr_tc : tr ≠ tc) (ne_tr_ts : tr ≠ ts) (ne_tc_ts : tc ≠ ts) (hn : n < 63) (hH : own_heap (n + 1) fe) :
    MetFree l (⟨"com/example/brisk_maze/briskmaze/search/RankedFrontier", "removeFirst", "()I"⟩ : MethodName) (head1 (Jvm.Cond.code (⟨"com/example/brisk_maze/briskmaze/search/RankedFrontier", "removeFirst", "()I"⟩ : MethodName) prog_53_method_4_code 9 (some .int) :: ws) ({ frames := 2, cells := 0, slots := 0, locals := 40 } : Room)) (fun a U => a = #[(.ref o0)] ∧ Z.Warmed39 U.vm ∧ U.heap = h0) (fun _ _ _ _ _ => True) (fun _ U o U' => ∃ v L, o = .returned v ∧ Q9 Z o0 tr tc ts fe n h0 n0 v U'.heap L ∧ FrameEnd U o U' L ({ frames := 2, cells := 0, slots := 0, locals := 40 } : Room).cells ({ frames := 2, cells := 0, slots := 0, locals := 40 } : Room).slots) := by
  refine MetFree.of_bodySF (plainFor_of_name pn_0) hisR ?_
  intro p e s m args below meth c s₁ Bd hml0 hP hK
  obtain ⟨rfl, hZ, hh⟩ := hP
  have hx := Bd.exec
  have hby := Bd.bytes
  have hml : c.maxLocals = 9 := hml0
  have hown : s.vm.findClass "com/example/brisk_maze/briskmaze/search/RankedFrontier" = some m.cls := findClass_of_methodNamed Bd.named
  have hnm := (name_of_methodNamed Bd.named Bd.method).1
  have X0 : Stand p l e ({ frames := 2, cells := 0, slots := 0, locals := 40 } : Room) s m #[(.ref o0)] below meth c s₁ [] 0 0 := Stand.of_body Bd
  have e0 : s₁.heap = h0 := by rw [← hh, Bd.state]; rfl
  have N0 := Fr.nil n0
  have pre0 : ∀ t, Steps p.tables e below (s₁.setTop (mkF m 0 #[.val (.ref o0), .unset, .unset, .unset, .unset, .unset, .unset, .unset, .unset] [])) t → Steps p.tables e below (s₁.setTop (entryFrame m #[(.ref o0)] 9)) t := fun t k => castTop (ef_9 m o0) k
  obtain ⟨T1, X1, e1, st1⟩ := getF X0 hx hZ hown (host := "") (Or.inl (hw _ (List.mem_of_getElem? (i := 22) rfl))) Via.refl e0 F_states_o0 (g := (mkF m 1 #[.val (.ref o0), .unset, .unset, .unset, .unset, .unset, .unset, .unset, .unset] [(.ref o0)])) rfl rfl (hb hby d9_1)
  have qa2 := A_ts
  obtain ⟨c2, Ar2, Sz2, H2⟩ := qa2
  have hi3 : 0 ≤ ((0 : Int32) : Int32).toInt ∧ ((0 : Int32) : Int32).toInt < (64 : Nat) := (by decide)
  have hl3 : c2.slots[((0 : Int32) : Int32).toNatClampNeg]? = some (.int ((fe ((0 : Int32) : Int32).toNatClampNeg).2.2)) := H2 _ (own_ix hi3)
  obtain ⟨T4, X4, e4, st4⟩ := getF X1 hx hZ hown (host := "") (Or.inl (hw _ (List.mem_of_getElem? (i := 29) rfl))) Via.refl e1 F_size_o0 (g := (mkF m 9 #[.val (.ref o0), .val (.int ((fe ((0 : Int32) : Int32).toNatClampNeg).2.2)), .unset, .unset, .unset, .unset, .unset, .unset, .unset] [(.ref o0), (.ref o0)])) rfl rfl (hb hby d9_9)
  obtain ⟨T5, h5, X5, e5, W5, st5⟩ := putF X4 hx hZ hown (host := "") (Or.inl (hw _ (List.mem_of_getElem? (i := 29) rfl))) Via.refl e4 F_size_o0 E_o0 (Or.inl (hw _ (List.mem_of_getElem? (i := 30) rfl))) (hw _ (List.mem_of_getElem? (i := 10) rfl)) (ty := .int) (by decide) rfl rfl (g := (mkF m 14 #[.val (.ref o0), .val (.int ((fe ((0 : Int32) : Int32).toNatClampNeg).2.2)), .unset, .unset, .unset, .unset, .unset, .unset, .unset] [(.int (((n + 1).toInt32) - (1 : Int32))), (.ref o0)])) rfl rfl (hb hby d9_14)
  have N5 := Fr.snoc X5 N0 g_o0
  have F_size_o0_w5 : Fld Z h5 o0 "com/example/brisk_maze/briskmaze/search/RankedFrontier" "size" "I" (.int (((n + 1).toInt32) - (1 : Int32))) := (F_size_o0).same W5
  have F_ranks_o0_6 : Fld Z h5 o0 "com/example/brisk_maze/briskmaze/search/RankedFrontier" "ranks" "[J" (.ref tr) := (F_ranks_o0).other W5 (Or.inr (slot_ne (Or.inl (hw _ (List.mem_of_getElem? (i := 19) rfl))) (Or.inl (hw _ (List.mem_of_getElem? (i := 30) rfl))) (by decide) (t := (.array .long)) (t' := .int) (by decide) (by decide)))
  have F_costs_o0_6 : Fld Z h5 o0 "com/example/brisk_maze/briskmaze/search/RankedFrontier" "costs" "[I" (.ref tc) := (F_costs_o0).other W5 (Or.inr (slot_ne (Or.inl (hw _ (List.mem_of_getElem? (i := 21) rfl))) (Or.inl (hw _ (List.mem_of_getElem? (i := 30) rfl))) (by decide) (t := (.array .int)) (t' := .int) (by decide) (by decide)))
  have F_states_o0_6 : Fld Z h5 o0 "com/example/brisk_maze/briskmaze/search/RankedFrontier" "states" "[I" (.ref ts) := (F_states_o0).other W5 (Or.inr (slot_ne (Or.inl (hw _ (List.mem_of_getElem? (i := 23) rfl))) (Or.inl (hw _ (List.mem_of_getElem? (i := 30) rfl))) (by decide) (t := (.array .int)) (t' := .int) (by decide) (by decide)))
  have E_o0_6 : Exa Z h5 o0 "com/example/brisk_maze/briskmaze/search/RankedFrontier" := (E_o0).wr W5
  have A_tr_6 : own_A Z h5 tr .long 64 (fun kk => (.long (fe kk).1)) := (A_tr).other W5 (Ne.symm ne_o0_tr)
  have A_tc_6 : own_A Z h5 tc .int 64 (fun kk => (.int (fe kk).2.1)) := (A_tc).other W5 (Ne.symm ne_o0_tc)
  have A_ts_6 : own_A Z h5 ts .int 64 (fun kk => (.int (fe kk).2.2)) := (A_ts).other W5 (Ne.symm ne_o0_ts)
  have SZ7 : h0.size ≤ h5.size := by rw [W5.size]; exact (Nat.le_refl _)
  have ZZ7 : n0 ≤ h5.size := Nat.le_trans Z0 SZ7
  have K8 : Keep h0 h5 [tr, tc, ts, o0] := ((Keep.refl h0 [tr, tc, ts, o0])).wr W5 (Or.inl (List.mem_of_getElem? (i := 3) rfl))
  have Fz9 : Fld Z h5 o0 "com/example/brisk_maze/briskmaze/search/RankedFrontier" "size" "I" (.int (n.toInt32)) := own_dec n ▸ F_size_o0_w5
  obtain ⟨T10, X10, e10, st10⟩ := getF X5 hx hZ hown (host := "") (Or.inl (hw _ (List.mem_of_getElem? (i := 18) rfl))) Via.refl e5 F_ranks_o0_6 (g := (mkF m 18 #[.val (.ref o0), .val (.int ((fe ((0 : Int32) : Int32).toNatClampNeg).2.2)), .unset, .unset, .unset, .unset, .unset, .unset, .unset] [(.ref o0)])) rfl rfl (hb hby d9_18)
  obtain ⟨T11, X11, e11, st11⟩ := getF X10 hx hZ hown (host := "") (Or.inl (hw _ (List.mem_of_getElem? (i := 29) rfl))) Via.refl e10 Fz9 (g := (mkF m 22 #[.val (.ref o0), .val (.int ((fe ((0 : Int32) : Int32).toNatClampNeg).2.2)), .unset, .unset, .unset, .unset, .unset, .unset, .unset] [(.ref o0), (.ref tr)])) rfl rfl (hb hby d9_22)
  have qa12 := A_tr_6
  obtain ⟨c12, Ar12, Sz12, H12⟩ := qa12
  have hi13 : 0 ≤ ((n.toInt32) : Int32).toInt ∧ ((n.toInt32) : Int32).toInt < (64 : Nat) := (own_bd (show n < 64 by omega) (by decide))
  have hl13 : c12.slots[((n.toInt32) : Int32).toNatClampNeg]? = some (.long ((fe ((n.toInt32) : Int32).toNatClampNeg).1)) := H12 _ (own_ix hi13)
  obtain ⟨T14, X14, e14, st14⟩ := getF X11 hx hZ hown (host := "") (Or.inl (hw _ (List.mem_of_getElem? (i := 20) rfl))) Via.refl e11 F_costs_o0_6 (g := (mkF m 28 #[.val (.ref o0), .val (.int ((fe ((0 : Int32) : Int32).toNatClampNeg).2.2)), .val (.long ((fe ((n.toInt32) : Int32).toNatClampNeg).1)), .second, .unset, .unset, .unset, .unset, .unset] [(.ref o0)])) rfl rfl (hb hby d9_28)
  obtain ⟨T15, X15, e15, st15⟩ := getF X14 hx hZ hown (host := "") (Or.inl (hw _ (List.mem_of_getElem? (i := 29) rfl))) Via.refl e14 Fz9 (g := (mkF m 32 #[.val (.ref o0), .val (.int ((fe ((0 : Int32) : Int32).toNatClampNeg).2.2)), .val (.long ((fe ((n.toInt32) : Int32).toNatClampNeg).1)), .second, .unset, .unset, .unset, .unset, .unset] [(.ref o0), (.ref tc)])) rfl rfl (hb hby d9_32)
  have qa16 := A_tc_6
  obtain ⟨c16, Ar16, Sz16, H16⟩ := qa16
  have hi17 : 0 ≤ ((n.toInt32) : Int32).toInt ∧ ((n.toInt32) : Int32).toInt < (64 : Nat) := (own_bd (show n < 64 by omega) (by decide))
  have hl17 : c16.slots[((n.toInt32) : Int32).toNatClampNeg]? = some (.int ((fe ((n.toInt32) : Int32).toNatClampNeg).2.1)) := H16 _ (own_ix hi17)
  obtain ⟨T18, X18, e18, st18⟩ := getF X15 hx hZ hown (host := "") (Or.inl (hw _ (List.mem_of_getElem? (i := 22) rfl))) Via.refl e15 F_states_o0_6 (g := (mkF m 39 #[.val (.ref o0), .val (.int ((fe ((0 : Int32) : Int32).toNatClampNeg).2.2)), .val (.long ((fe ((n.toInt32) : Int32).toNatClampNeg).1)), .second, .val (.int ((fe ((n.toInt32) : Int32).toNatClampNeg).2.1)), .unset, .unset, .unset, .unset] [(.ref o0)])) rfl rfl (hb hby d9_39)
  obtain ⟨T19, X19, e19, st19⟩ := getF X18 hx hZ hown (host := "") (Or.inl (hw _ (List.mem_of_getElem? (i := 29) rfl))) Via.refl e18 Fz9 (g := (mkF m 43 #[.val (.ref o0), .val (.int ((fe ((0 : Int32) : Int32).toNatClampNeg).2.2)), .val (.long ((fe ((n.toInt32) : Int32).toNatClampNeg).1)), .second, .val (.int ((fe ((n.toInt32) : Int32).toNatClampNeg).2.1)), .unset, .unset, .unset, .unset] [(.ref o0), (.ref ts)])) rfl rfl (hb hby d9_43)
  have qa20 := A_ts_6
  obtain ⟨c20, Ar20, Sz20, H20⟩ := qa20
  have hi21 : 0 ≤ ((n.toInt32) : Int32).toInt ∧ ((n.toInt32) : Int32).toInt < (64 : Nat) := (own_bd (show n < 64 by omega) (by decide))
  have hl21 : c20.slots[((n.toInt32) : Int32).toNatClampNeg]? = some (.int ((fe ((n.toInt32) : Int32).toNatClampNeg).2.2)) := H20 _ (own_ix hi21)
  obtain ⟨T22, X22, e22, st22⟩ := getF X19 hx hZ hown (host := "") (Or.inl (hw _ (List.mem_of_getElem? (i := 29) rfl))) Via.refl e19 Fz9 (g := (mkF m 53 #[.val (.ref o0), .val (.int ((fe ((0 : Int32) : Int32).toNatClampNeg).2.2)), .val (.long ((fe ((n.toInt32) : Int32).toNatClampNeg).1)), .second, .val (.int ((fe ((n.toInt32) : Int32).toNatClampNeg).2.1)), .val (.int ((fe ((n.toInt32) : Int32).toNatClampNeg).2.2)), .val (.int (0 : Int32)), .unset, .unset] [(.ref o0)])) rfl rfl (hb hby d9_53)
  have pre23 : ∀ t, Steps p.tables e below (T22.setTop (mkF m 60 #[.val (.ref o0), .val (.int ((fe ((0 : Int32) : Int32).toNatClampNeg).2.2)), .val (.long ((fe ((n.toInt32) : Int32).toNatClampNeg).1)), .second, .val (.int ((fe ((n.toInt32) : Int32).toNatClampNeg).2.1)), .val (.int ((fe ((n.toInt32) : Int32).toNatClampNeg).2.2)), .val (.int (0 : Int32)), .val (.int (((n.toInt32).toUInt32 >>> ((1 : Int32) &&& 31).toUInt32).toInt32)), .unset] [])) t → Steps p.tables e below (s₁.setTop (entryFrame m #[(.ref o0)] 9)) t := fun t k => pre0 t (by
    show Steps p.tables e below (s₁.setTop (mkF m 0 #[.val (.ref o0), .unset, .unset, .unset, .unset, .unset, .unset, .unset, .unset] [])) _
    refine XS.aloadN X0.here hx rfl (hb hby d9_0) rfl rfl ?_
    show Steps p.tables e below (s₁.setTop (mkF m 1 #[.val (.ref o0), .unset, .unset, .unset, .unset, .unset, .unset, .unset, .unset] [(.ref o0)])) _
    refine st1 _ ?_
    show Steps p.tables e below (T1.setTop (mkF m 4 #[.val (.ref o0), .unset, .unset, .unset, .unset, .unset, .unset, .unset, .unset] [(.ref ts)])) _
    refine XS.iconst X1.here hx rfl (hb hby d9_4) ?_
    show Steps p.tables e below (T1.setTop (mkF m 5 #[.val (.ref o0), .unset, .unset, .unset, .unset, .unset, .unset, .unset, .unset] [(.int (0 : Int32)), (.ref ts)])) _
    refine X1.iaload hx (j := (0 : Int32)) (v := (.int ((fe ((0 : Int32) : Int32).toNatClampNeg).2.2))) (by rw [e1]; exact Ar2.1) (State.isArrayOf_alike hZ.alike Ar2.2.1) Ar2.2.2 (own_in Sz2 hi3) hl3 (g := (mkF m 5 #[.val (.ref o0), .unset, .unset, .unset, .unset, .unset, .unset, .unset, .unset] [(.int (0 : Int32)), (.ref ts)])) rfl rfl (hb hby d9_5) _ ?_
    show Steps p.tables e below (T1.setTop (mkF m 6 #[.val (.ref o0), .unset, .unset, .unset, .unset, .unset, .unset, .unset, .unset] [(.int ((fe ((0 : Int32) : Int32).toNatClampNeg).2.2))])) _
    refine XS.istoreN X1.here hx rfl (hb hby d9_6) rfl (l' := #[.val (.ref o0), .val (.int ((fe ((0 : Int32) : Int32).toNatClampNeg).2.2)), .unset, .unset, .unset, .unset, .unset, .unset, .unset]) rfl ?_
    show Steps p.tables e below (T1.setTop (mkF m 7 #[.val (.ref o0), .val (.int ((fe ((0 : Int32) : Int32).toNatClampNeg).2.2)), .unset, .unset, .unset, .unset, .unset, .unset, .unset] [])) _
    refine XS.aloadN X1.here hx rfl (hb hby d9_7) rfl rfl ?_
    show Steps p.tables e below (T1.setTop (mkF m 8 #[.val (.ref o0), .val (.int ((fe ((0 : Int32) : Int32).toNatClampNeg).2.2)), .unset, .unset, .unset, .unset, .unset, .unset, .unset] [(.ref o0)])) _
    refine XS.dup X1.here hx rfl (hb hby d9_8) rfl rfl ?_
    show Steps p.tables e below (T1.setTop (mkF m 9 #[.val (.ref o0), .val (.int ((fe ((0 : Int32) : Int32).toNatClampNeg).2.2)), .unset, .unset, .unset, .unset, .unset, .unset, .unset] [(.ref o0), (.ref o0)])) _
    refine st4 _ ?_
    show Steps p.tables e below (T4.setTop (mkF m 12 #[.val (.ref o0), .val (.int ((fe ((0 : Int32) : Int32).toNatClampNeg).2.2)), .unset, .unset, .unset, .unset, .unset, .unset, .unset] [(.int ((n + 1).toInt32)), (.ref o0)])) _
    refine XS.iconst X4.here hx rfl (hb hby d9_12) ?_
    show Steps p.tables e below (T4.setTop (mkF m 13 #[.val (.ref o0), .val (.int ((fe ((0 : Int32) : Int32).toNatClampNeg).2.2)), .unset, .unset, .unset, .unset, .unset, .unset, .unset] [(.int (1 : Int32)), (.int ((n + 1).toInt32)), (.ref o0)])) _
    refine XS.isub X4.here hx rfl (hb hby d9_13) rfl ?_
    show Steps p.tables e below (T4.setTop (mkF m 14 #[.val (.ref o0), .val (.int ((fe ((0 : Int32) : Int32).toNatClampNeg).2.2)), .unset, .unset, .unset, .unset, .unset, .unset, .unset] [(.int (((n + 1).toInt32) - (1 : Int32))), (.ref o0)])) _
    refine st5 _ ?_
    show Steps p.tables e below (T5.setTop (mkF m 17 #[.val (.ref o0), .val (.int ((fe ((0 : Int32) : Int32).toNatClampNeg).2.2)), .unset, .unset, .unset, .unset, .unset, .unset, .unset] [])) _
    refine XS.aloadN X5.here hx rfl (hb hby d9_17) rfl rfl ?_
    show Steps p.tables e below (T5.setTop (mkF m 18 #[.val (.ref o0), .val (.int ((fe ((0 : Int32) : Int32).toNatClampNeg).2.2)), .unset, .unset, .unset, .unset, .unset, .unset, .unset] [(.ref o0)])) _
    refine st10 _ ?_
    show Steps p.tables e below (T10.setTop (mkF m 21 #[.val (.ref o0), .val (.int ((fe ((0 : Int32) : Int32).toNatClampNeg).2.2)), .unset, .unset, .unset, .unset, .unset, .unset, .unset] [(.ref tr)])) _
    refine XS.aloadN X10.here hx rfl (hb hby d9_21) rfl rfl ?_
    show Steps p.tables e below (T10.setTop (mkF m 22 #[.val (.ref o0), .val (.int ((fe ((0 : Int32) : Int32).toNatClampNeg).2.2)), .unset, .unset, .unset, .unset, .unset, .unset, .unset] [(.ref o0), (.ref tr)])) _
    refine st11 _ ?_
    show Steps p.tables e below (T11.setTop (mkF m 25 #[.val (.ref o0), .val (.int ((fe ((0 : Int32) : Int32).toNatClampNeg).2.2)), .unset, .unset, .unset, .unset, .unset, .unset, .unset] [(.int (n.toInt32)), (.ref tr)])) _
    refine X11.laload hx (j := (n.toInt32)) (v := (.long ((fe ((n.toInt32) : Int32).toNatClampNeg).1))) (by rw [e11]; exact Ar12.1) (State.isArrayOf_alike hZ.alike Ar12.2.1) Ar12.2.2 (own_in Sz12 hi13) hl13 (g := (mkF m 25 #[.val (.ref o0), .val (.int ((fe ((0 : Int32) : Int32).toNatClampNeg).2.2)), .unset, .unset, .unset, .unset, .unset, .unset, .unset] [(.int (n.toInt32)), (.ref tr)])) rfl rfl (hb hby d9_25) _ ?_
    show Steps p.tables e below (T11.setTop (mkF m 26 #[.val (.ref o0), .val (.int ((fe ((0 : Int32) : Int32).toNatClampNeg).2.2)), .unset, .unset, .unset, .unset, .unset, .unset, .unset] [(.long ((fe ((n.toInt32) : Int32).toNatClampNeg).1))])) _
    refine XS.lstoreN X11.here hx rfl (hb hby d9_26) rfl (l' := #[.val (.ref o0), .val (.int ((fe ((0 : Int32) : Int32).toNatClampNeg).2.2)), .val (.long ((fe ((n.toInt32) : Int32).toNatClampNeg).1)), .second, .unset, .unset, .unset, .unset, .unset]) rfl ?_
    show Steps p.tables e below (T11.setTop (mkF m 27 #[.val (.ref o0), .val (.int ((fe ((0 : Int32) : Int32).toNatClampNeg).2.2)), .val (.long ((fe ((n.toInt32) : Int32).toNatClampNeg).1)), .second, .unset, .unset, .unset, .unset, .unset] [])) _
    refine XS.aloadN X11.here hx rfl (hb hby d9_27) rfl rfl ?_
    show Steps p.tables e below (T11.setTop (mkF m 28 #[.val (.ref o0), .val (.int ((fe ((0 : Int32) : Int32).toNatClampNeg).2.2)), .val (.long ((fe ((n.toInt32) : Int32).toNatClampNeg).1)), .second, .unset, .unset, .unset, .unset, .unset] [(.ref o0)])) _
    refine st14 _ ?_
    show Steps p.tables e below (T14.setTop (mkF m 31 #[.val (.ref o0), .val (.int ((fe ((0 : Int32) : Int32).toNatClampNeg).2.2)), .val (.long ((fe ((n.toInt32) : Int32).toNatClampNeg).1)), .second, .unset, .unset, .unset, .unset, .unset] [(.ref tc)])) _
    refine XS.aloadN X14.here hx rfl (hb hby d9_31) rfl rfl ?_
    show Steps p.tables e below (T14.setTop (mkF m 32 #[.val (.ref o0), .val (.int ((fe ((0 : Int32) : Int32).toNatClampNeg).2.2)), .val (.long ((fe ((n.toInt32) : Int32).toNatClampNeg).1)), .second, .unset, .unset, .unset, .unset, .unset] [(.ref o0), (.ref tc)])) _
    refine st15 _ ?_
    show Steps p.tables e below (T15.setTop (mkF m 35 #[.val (.ref o0), .val (.int ((fe ((0 : Int32) : Int32).toNatClampNeg).2.2)), .val (.long ((fe ((n.toInt32) : Int32).toNatClampNeg).1)), .second, .unset, .unset, .unset, .unset, .unset] [(.int (n.toInt32)), (.ref tc)])) _
    refine X15.iaload hx (j := (n.toInt32)) (v := (.int ((fe ((n.toInt32) : Int32).toNatClampNeg).2.1))) (by rw [e15]; exact Ar16.1) (State.isArrayOf_alike hZ.alike Ar16.2.1) Ar16.2.2 (own_in Sz16 hi17) hl17 (g := (mkF m 35 #[.val (.ref o0), .val (.int ((fe ((0 : Int32) : Int32).toNatClampNeg).2.2)), .val (.long ((fe ((n.toInt32) : Int32).toNatClampNeg).1)), .second, .unset, .unset, .unset, .unset, .unset] [(.int (n.toInt32)), (.ref tc)])) rfl rfl (hb hby d9_35) _ ?_
    show Steps p.tables e below (T15.setTop (mkF m 36 #[.val (.ref o0), .val (.int ((fe ((0 : Int32) : Int32).toNatClampNeg).2.2)), .val (.long ((fe ((n.toInt32) : Int32).toNatClampNeg).1)), .second, .unset, .unset, .unset, .unset, .unset] [(.int ((fe ((n.toInt32) : Int32).toNatClampNeg).2.1))])) _
    refine XS.istore X15.here hx rfl (hb hby d9_36) rfl (l' := #[.val (.ref o0), .val (.int ((fe ((0 : Int32) : Int32).toNatClampNeg).2.2)), .val (.long ((fe ((n.toInt32) : Int32).toNatClampNeg).1)), .second, .val (.int ((fe ((n.toInt32) : Int32).toNatClampNeg).2.1)), .unset, .unset, .unset, .unset]) rfl ?_
    show Steps p.tables e below (T15.setTop (mkF m 38 #[.val (.ref o0), .val (.int ((fe ((0 : Int32) : Int32).toNatClampNeg).2.2)), .val (.long ((fe ((n.toInt32) : Int32).toNatClampNeg).1)), .second, .val (.int ((fe ((n.toInt32) : Int32).toNatClampNeg).2.1)), .unset, .unset, .unset, .unset] [])) _
    refine XS.aloadN X15.here hx rfl (hb hby d9_38) rfl rfl ?_
    show Steps p.tables e below (T15.setTop (mkF m 39 #[.val (.ref o0), .val (.int ((fe ((0 : Int32) : Int32).toNatClampNeg).2.2)), .val (.long ((fe ((n.toInt32) : Int32).toNatClampNeg).1)), .second, .val (.int ((fe ((n.toInt32) : Int32).toNatClampNeg).2.1)), .unset, .unset, .unset, .unset] [(.ref o0)])) _
    refine st18 _ ?_
    show Steps p.tables e below (T18.setTop (mkF m 42 #[.val (.ref o0), .val (.int ((fe ((0 : Int32) : Int32).toNatClampNeg).2.2)), .val (.long ((fe ((n.toInt32) : Int32).toNatClampNeg).1)), .second, .val (.int ((fe ((n.toInt32) : Int32).toNatClampNeg).2.1)), .unset, .unset, .unset, .unset] [(.ref ts)])) _
    refine XS.aloadN X18.here hx rfl (hb hby d9_42) rfl rfl ?_
    show Steps p.tables e below (T18.setTop (mkF m 43 #[.val (.ref o0), .val (.int ((fe ((0 : Int32) : Int32).toNatClampNeg).2.2)), .val (.long ((fe ((n.toInt32) : Int32).toNatClampNeg).1)), .second, .val (.int ((fe ((n.toInt32) : Int32).toNatClampNeg).2.1)), .unset, .unset, .unset, .unset] [(.ref o0), (.ref ts)])) _
    refine st19 _ ?_
    show Steps p.tables e below (T19.setTop (mkF m 46 #[.val (.ref o0), .val (.int ((fe ((0 : Int32) : Int32).toNatClampNeg).2.2)), .val (.long ((fe ((n.toInt32) : Int32).toNatClampNeg).1)), .second, .val (.int ((fe ((n.toInt32) : Int32).toNatClampNeg).2.1)), .unset, .unset, .unset, .unset] [(.int (n.toInt32)), (.ref ts)])) _
    refine X19.iaload hx (j := (n.toInt32)) (v := (.int ((fe ((n.toInt32) : Int32).toNatClampNeg).2.2))) (by rw [e19]; exact Ar20.1) (State.isArrayOf_alike hZ.alike Ar20.2.1) Ar20.2.2 (own_in Sz20 hi21) hl21 (g := (mkF m 46 #[.val (.ref o0), .val (.int ((fe ((0 : Int32) : Int32).toNatClampNeg).2.2)), .val (.long ((fe ((n.toInt32) : Int32).toNatClampNeg).1)), .second, .val (.int ((fe ((n.toInt32) : Int32).toNatClampNeg).2.1)), .unset, .unset, .unset, .unset] [(.int (n.toInt32)), (.ref ts)])) rfl rfl (hb hby d9_46) _ ?_
    show Steps p.tables e below (T19.setTop (mkF m 47 #[.val (.ref o0), .val (.int ((fe ((0 : Int32) : Int32).toNatClampNeg).2.2)), .val (.long ((fe ((n.toInt32) : Int32).toNatClampNeg).1)), .second, .val (.int ((fe ((n.toInt32) : Int32).toNatClampNeg).2.1)), .unset, .unset, .unset, .unset] [(.int ((fe ((n.toInt32) : Int32).toNatClampNeg).2.2))])) _
    refine XS.istore X19.here hx rfl (hb hby d9_47) rfl (l' := #[.val (.ref o0), .val (.int ((fe ((0 : Int32) : Int32).toNatClampNeg).2.2)), .val (.long ((fe ((n.toInt32) : Int32).toNatClampNeg).1)), .second, .val (.int ((fe ((n.toInt32) : Int32).toNatClampNeg).2.1)), .val (.int ((fe ((n.toInt32) : Int32).toNatClampNeg).2.2)), .unset, .unset, .unset]) rfl ?_
    show Steps p.tables e below (T19.setTop (mkF m 49 #[.val (.ref o0), .val (.int ((fe ((0 : Int32) : Int32).toNatClampNeg).2.2)), .val (.long ((fe ((n.toInt32) : Int32).toNatClampNeg).1)), .second, .val (.int ((fe ((n.toInt32) : Int32).toNatClampNeg).2.1)), .val (.int ((fe ((n.toInt32) : Int32).toNatClampNeg).2.2)), .unset, .unset, .unset] [])) _
    refine XS.iconst X19.here hx rfl (hb hby d9_49) ?_
    show Steps p.tables e below (T19.setTop (mkF m 50 #[.val (.ref o0), .val (.int ((fe ((0 : Int32) : Int32).toNatClampNeg).2.2)), .val (.long ((fe ((n.toInt32) : Int32).toNatClampNeg).1)), .second, .val (.int ((fe ((n.toInt32) : Int32).toNatClampNeg).2.1)), .val (.int ((fe ((n.toInt32) : Int32).toNatClampNeg).2.2)), .unset, .unset, .unset] [(.int (0 : Int32))])) _
    refine XS.istore X19.here hx rfl (hb hby d9_50) rfl (l' := #[.val (.ref o0), .val (.int ((fe ((0 : Int32) : Int32).toNatClampNeg).2.2)), .val (.long ((fe ((n.toInt32) : Int32).toNatClampNeg).1)), .second, .val (.int ((fe ((n.toInt32) : Int32).toNatClampNeg).2.1)), .val (.int ((fe ((n.toInt32) : Int32).toNatClampNeg).2.2)), .val (.int (0 : Int32)), .unset, .unset]) rfl ?_
    show Steps p.tables e below (T19.setTop (mkF m 52 #[.val (.ref o0), .val (.int ((fe ((0 : Int32) : Int32).toNatClampNeg).2.2)), .val (.long ((fe ((n.toInt32) : Int32).toNatClampNeg).1)), .second, .val (.int ((fe ((n.toInt32) : Int32).toNatClampNeg).2.1)), .val (.int ((fe ((n.toInt32) : Int32).toNatClampNeg).2.2)), .val (.int (0 : Int32)), .unset, .unset] [])) _
    refine XS.aloadN X19.here hx rfl (hb hby d9_52) rfl rfl ?_
    show Steps p.tables e below (T19.setTop (mkF m 53 #[.val (.ref o0), .val (.int ((fe ((0 : Int32) : Int32).toNatClampNeg).2.2)), .val (.long ((fe ((n.toInt32) : Int32).toNatClampNeg).1)), .second, .val (.int ((fe ((n.toInt32) : Int32).toNatClampNeg).2.1)), .val (.int ((fe ((n.toInt32) : Int32).toNatClampNeg).2.2)), .val (.int (0 : Int32)), .unset, .unset] [(.ref o0)])) _
    refine st22 _ ?_
    show Steps p.tables e below (T22.setTop (mkF m 56 #[.val (.ref o0), .val (.int ((fe ((0 : Int32) : Int32).toNatClampNeg).2.2)), .val (.long ((fe ((n.toInt32) : Int32).toNatClampNeg).1)), .second, .val (.int ((fe ((n.toInt32) : Int32).toNatClampNeg).2.1)), .val (.int ((fe ((n.toInt32) : Int32).toNatClampNeg).2.2)), .val (.int (0 : Int32)), .unset, .unset] [(.int (n.toInt32))])) _
    refine XS.iconst X22.here hx rfl (hb hby d9_56) ?_
    show Steps p.tables e below (T22.setTop (mkF m 57 #[.val (.ref o0), .val (.int ((fe ((0 : Int32) : Int32).toNatClampNeg).2.2)), .val (.long ((fe ((n.toInt32) : Int32).toNatClampNeg).1)), .second, .val (.int ((fe ((n.toInt32) : Int32).toNatClampNeg).2.1)), .val (.int ((fe ((n.toInt32) : Int32).toNatClampNeg).2.2)), .val (.int (0 : Int32)), .unset, .unset] [(.int (1 : Int32)), (.int (n.toInt32))])) _
    refine XS.iushr X22.here hx rfl (hb hby d9_57) rfl ?_
    show Steps p.tables e below (T22.setTop (mkF m 58 #[.val (.ref o0), .val (.int ((fe ((0 : Int32) : Int32).toNatClampNeg).2.2)), .val (.long ((fe ((n.toInt32) : Int32).toNatClampNeg).1)), .second, .val (.int ((fe ((n.toInt32) : Int32).toNatClampNeg).2.1)), .val (.int ((fe ((n.toInt32) : Int32).toNatClampNeg).2.2)), .val (.int (0 : Int32)), .unset, .unset] [(.int (((n.toInt32).toUInt32 >>> ((1 : Int32) &&& 31).toUInt32).toInt32))])) _
    refine XS.istore X22.here hx rfl (hb hby d9_58) rfl (l' := #[.val (.ref o0), .val (.int ((fe ((0 : Int32) : Int32).toNatClampNeg).2.2)), .val (.long ((fe ((n.toInt32) : Int32).toNatClampNeg).1)), .second, .val (.int ((fe ((n.toInt32) : Int32).toNatClampNeg).2.1)), .val (.int ((fe ((n.toInt32) : Int32).toNatClampNeg).2.2)), .val (.int (0 : Int32)), .val (.int (((n.toInt32).toUInt32 >>> ((1 : Int32) &&& 31).toUInt32).toInt32)), .unset]) rfl ?_
    show Steps p.tables e below (T22.setTop (mkF m 60 #[.val (.ref o0), .val (.int ((fe ((0 : Int32) : Int32).toNatClampNeg).2.2)), .val (.long ((fe ((n.toInt32) : Int32).toNatClampNeg).1)), .second, .val (.int ((fe ((n.toInt32) : Int32).toNatClampNeg).2.1)), .val (.int ((fe ((n.toInt32) : Int32).toNatClampNeg).2.2)), .val (.int (0 : Int32)), .val (.int (((n.toInt32).toUInt32 >>> ((1 : Int32) &&& 31).toUInt32).toInt32)), .unset] [])) _
    exact k)
  have hre24 : (((n.toInt32).toUInt32 >>> ((1 : Int32) &&& 31).toUInt32).toInt32) = ((n / 2).toInt32) := own_half64 ⟨n, by omega⟩
  have pre24 : ∀ t, Steps p.tables e below (T22.setTop (mkF m 60 #[.val (.ref o0), .val (.int ((fe ((0 : Int32) : Int32).toNatClampNeg).2.2)), .val (.long ((fe ((n.toInt32) : Int32).toNatClampNeg).1)), .second, .val (.int ((fe ((n.toInt32) : Int32).toNatClampNeg).2.1)), .val (.int ((fe ((n.toInt32) : Int32).toNatClampNeg).2.2)), .val (.int (0 : Int32)), .val (.int ((n / 2).toInt32)), .unset] [])) t → Steps p.tables e below (s₁.setTop (entryFrame m #[(.ref o0)] 9)) t := fun t k => pre23 t (by rw [hre24]; exact k)
  have htn : (n.toInt32 : Int32).toNatClampNeg = n := own_tn (by omega)
  have hst : (n = 0 ∧ 0 = 0) ∨ own_dnI n 0 (own_up fe 0 (fe n)) fe (((fe ((n.toInt32) : Int32).toNatClampNeg).1), ((fe ((n.toInt32) : Int32).toNatClampNeg).2.1), ((fe ((n.toInt32) : Int32).toNatClampNeg).2.2)) := by
    rw [htn]
    rcases Nat.eq_zero_or_pos n with q | q
    · exact Or.inl ⟨q, rfl⟩
    · exact Or.inr (own_dn_start hH q _)
  obtain ⟨T25, h25, L25, i25, f25, s25, X25, e25, N25, Kc25, Pa25, Pb25, Pc25, hi25, hh25, st25⟩ := loop_rem o0 tr tc ts ((fe ((0 : Int32) : Int32).toNatClampNeg).2.2) ((fe ((n.toInt32) : Int32).toNatClampNeg).1) ((fe ((n.toInt32) : Int32).toNatClampNeg).2.1) ((fe ((n.toInt32) : Int32).toNatClampNeg).2.2) n hn (own_up fe 0 (fe n)) n0 g_tr g_tc g_ts ne_o0_tr ne_o0_tc ne_o0_ts ne_tr_tc ne_tr_ts ne_tc_ts hx hZ hw hby hml hown _ 0 fe .unset _ _ _ rfl One.u hst X22 e22 N5 ZZ7 F_ranks_o0_6 F_costs_o0_6 F_states_o0_6 E_o0_6 Fz9 A_tr_6 A_tc_6 A_ts_6
  have F_ranks_o0_26 : Fld Z h25 o0 "com/example/brisk_maze/briskmaze/search/RankedFrontier" "ranks" "[J" (.ref tr) := (F_ranks_o0_6).keep Kc25 (ninS ne_o0_tr (ninS ne_o0_tc (ninS ne_o0_ts nin0)))
  have F_costs_o0_26 : Fld Z h25 o0 "com/example/brisk_maze/briskmaze/search/RankedFrontier" "costs" "[I" (.ref tc) := (F_costs_o0_6).keep Kc25 (ninS ne_o0_tr (ninS ne_o0_tc (ninS ne_o0_ts nin0)))
  have F_states_o0_26 : Fld Z h25 o0 "com/example/brisk_maze/briskmaze/search/RankedFrontier" "states" "[I" (.ref ts) := (F_states_o0_6).keep Kc25 (ninS ne_o0_tr (ninS ne_o0_tc (ninS ne_o0_ts nin0)))
  have E_o0_26 : Exa Z h25 o0 "com/example/brisk_maze/briskmaze/search/RankedFrontier" := (E_o0_6).keep Kc25
  have F_size_o0_26 : Fld Z h25 o0 "com/example/brisk_maze/briskmaze/search/RankedFrontier" "size" "I" (.int (n.toInt32)) := (Fz9).keep Kc25 (ninS ne_o0_tr (ninS ne_o0_tc (ninS ne_o0_ts nin0)))
  have SZ27 : h0.size ≤ h25.size := Nat.le_trans SZ7 Kc25.1
  have ZZ27 : n0 ≤ h25.size := Nat.le_trans Z0 SZ27
  have K28 : Keep h0 h25 [tr, tc, ts, o0] := (K8).trans Kc25 (allS (Or.inl (List.mem_of_getElem? (i := 0) rfl)) (allS (Or.inl (List.mem_of_getElem? (i := 1) rfl)) (allS (Or.inl (List.mem_of_getElem? (i := 2) rfl)) all0)))
  obtain ⟨cq29, q29, q29'⟩ := (E_o0_26).cell
  obtain ⟨_, _, ⟨T29, L29, k29, n29⟩, -, X29, ⟨Lc29, hQ29, l29, y29, z29⟩, st29⟩ := X25.privateBack hx (y := (⟨"com/example/brisk_maze/briskmaze/search/RankedFrontier", "place", "(IJII)V"⟩ : MethodName)) hown (mvT hZ (hw _ (List.mem_of_getElem? (i := 31) rfl))) (mvT hZ (hw _ (List.mem_of_getElem? (i := 32) rfl))) (own_selp (y := (⟨"com/example/brisk_maze/briskmaze/search/RankedFrontier", "place", "(IJII)V"⟩ : MethodName)) (mvT hZ (hw _ (List.mem_of_getElem? (i := 10) rfl))) (Cond.privateMethod_at (mvP hZ (hw _ (List.mem_of_getElem? (i := 33) rfl)) (args := #[]))) (mvT hZ (hw _ (List.mem_of_getElem? (i := 32) rfl))) (by decide)) (Cond.privateMethod_at (mvP hZ (hw _ (List.mem_of_getElem? (i := 33) rfl)) (args := #[]))) (mvT hZ (hw _ (List.mem_of_getElem? (i := 34) rfl))) (by decide) (backOf (W := 0) (rm6 l Z a0 hw [] o0 (i25.toInt32) ((fe ((n.toInt32) : Int32).toNatClampNeg).1) ((fe ((n.toInt32) : Int32).toNatClampNeg).2.1) ((fe ((n.toInt32) : Int32).toNatClampNeg).2.2) tr tc ts f25 h25 n0 ZZ27 F_ranks_o0_26 F_costs_o0_26 F_states_o0_26 Pa25 Pb25 Pc25 g_tr g_tc g_ts ne_o0_tr ne_o0_tc ne_o0_ts ne_tr_tc ne_tr_ts ne_tc_ts (own_bd (show i25 < 64 from hi25) (by decide))) hZ (hw _ (List.mem_of_getElem? (i := 34) rfl)) (hw _ (List.mem_of_getElem? (i := 11) rfl)) (by decide) (by decide)) (g := (mkF m 165 #[.val (.ref o0), .val (.int ((fe ((0 : Int32) : Int32).toNatClampNeg).2.2)), .val (.long ((fe ((n.toInt32) : Int32).toNatClampNeg).1)), .second, .val (.int ((fe ((n.toInt32) : Int32).toNatClampNeg).2.1)), .val (.int ((fe ((n.toInt32) : Int32).toNatClampNeg).2.2)), .val (.int (i25.toInt32)), .val (.int ((n / 2).toInt32)), s25] [(.int ((fe ((n.toInt32) : Int32).toNatClampNeg).2.2)), (.int ((fe ((n.toInt32) : Int32).toNatClampNeg).2.1)), (.long ((fe ((n.toInt32) : Int32).toNatClampNeg).1)), (.int (i25.toInt32)), (.ref o0)])) rfl (by rw [hml]; rfl) (Steps.refl _) (a := o0) (by rw [e25]; exact q29) q29' (argsL := [(.int (i25.toInt32)), (.long ((fe ((n.toInt32) : Int32).toNatClampNeg).1)), (.int ((fe ((n.toInt32) : Int32).toNatClampNeg).2.1)), (.int ((fe ((n.toInt32) : Int32).toNatClampNeg).2.2))]) (rest := []) (lenOf pd_1 rfl) rfl (by show 2 * 0 + _ ≤ _; exact Nat.le_of_eq rfl) (hb hby d9_165) (fun _ _ => ⟨rfl, e25, (by decide : 0 + 0 ≤ _), (by decide : 0 + 0 ≤ _)⟩)
  dsimp only [Pt.U, Pt.locs, Pt.cells, Pt.slots] at X29 l29 y29 z29 st29 hQ29
  subst y29 z29
  obtain ⟨rfl, N29q, Kc29, P29_0, P29_1, P29_2⟩ := hQ29
  have N29 := Fr.app N25 N29q
  rw [← l29] at N29
  have F_ranks_o0_30 : Fld Z T29.heap o0 "com/example/brisk_maze/briskmaze/search/RankedFrontier" "ranks" "[J" (.ref tr) := (F_ranks_o0_26).keep Kc29 (ninS ne_o0_tr (ninS ne_o0_tc (ninS ne_o0_ts nin0)))
  have F_costs_o0_30 : Fld Z T29.heap o0 "com/example/brisk_maze/briskmaze/search/RankedFrontier" "costs" "[I" (.ref tc) := (F_costs_o0_26).keep Kc29 (ninS ne_o0_tr (ninS ne_o0_tc (ninS ne_o0_ts nin0)))
  have F_states_o0_30 : Fld Z T29.heap o0 "com/example/brisk_maze/briskmaze/search/RankedFrontier" "states" "[I" (.ref ts) := (F_states_o0_26).keep Kc29 (ninS ne_o0_tr (ninS ne_o0_tc (ninS ne_o0_ts nin0)))
  have E_o0_30 : Exa Z T29.heap o0 "com/example/brisk_maze/briskmaze/search/RankedFrontier" := (E_o0_26).keep Kc29
  have F_size_o0_30 : Fld Z T29.heap o0 "com/example/brisk_maze/briskmaze/search/RankedFrontier" "size" "I" (.int (n.toInt32)) := (F_size_o0_26).keep Kc29 (ninS ne_o0_tr (ninS ne_o0_tc (ninS ne_o0_ts nin0)))
  have SZ31 : h0.size ≤ T29.heap.size := Nat.le_trans SZ27 Kc29.1
  have ZZ31 : n0 ≤ T29.heap.size := Nat.le_trans Z0 SZ31
  have K32 : Keep h0 T29.heap [tr, tc, ts, o0] := (K28).trans Kc29 (allS (Or.inl (List.mem_of_getElem? (i := 0) rfl)) (allS (Or.inl (List.mem_of_getElem? (i := 1) rfl)) (allS (Or.inl (List.mem_of_getElem? (i := 2) rfl)) all0)))
  have hfin25 : own_heap n (own_up f25 ((i25.toInt32) : Int32).toNatClampNeg (((fe ((n.toInt32) : Int32).toNatClampNeg).1), ((fe ((n.toInt32) : Int32).toNatClampNeg).2.1), ((fe ((n.toInt32) : Int32).toNatClampNeg).2.2))) ∧ own_rr n (own_up f25 ((i25.toInt32) : Int32).toNatClampNeg (((fe ((n.toInt32) : Int32).toNatClampNeg).1), ((fe ((n.toInt32) : Int32).toNatClampNeg).2.1), ((fe ((n.toInt32) : Int32).toNatClampNeg).2.2))) (own_up fe 0 (fe n)) := by rw [own_tn (show i25 < 2147483648 by omega)]; exact hh25
  have pre33 : ∀ t, Steps p.tables e below (T29.setTop (mkF m 169 #[.val (.ref o0), .val (.int ((fe ((0 : Int32) : Int32).toNatClampNeg).2.2)), .val (.long ((fe ((n.toInt32) : Int32).toNatClampNeg).1)), .second, .val (.int ((fe ((n.toInt32) : Int32).toNatClampNeg).2.1)), .val (.int ((fe ((n.toInt32) : Int32).toNatClampNeg).2.2)), .val (.int (i25.toInt32)), .val (.int ((n / 2).toInt32)), s25] [(.int ((fe ((0 : Int32) : Int32).toNatClampNeg).2.2))])) t → Steps p.tables e below (s₁.setTop (entryFrame m #[(.ref o0)] 9)) t := fun t k => pre24 t (by
    show Steps p.tables e below (T22.setTop (mkF m 60 #[.val (.ref o0), .val (.int ((fe ((0 : Int32) : Int32).toNatClampNeg).2.2)), .val (.long ((fe ((n.toInt32) : Int32).toNatClampNeg).1)), .second, .val (.int ((fe ((n.toInt32) : Int32).toNatClampNeg).2.1)), .val (.int ((fe ((n.toInt32) : Int32).toNatClampNeg).2.2)), .val (.int (0 : Int32)), .val (.int ((n / 2).toInt32)), .unset] [])) _
    refine st25 _ ?_
    show Steps p.tables e below (T25.setTop (mkF m 157 #[.val (.ref o0), .val (.int ((fe ((0 : Int32) : Int32).toNatClampNeg).2.2)), .val (.long ((fe ((n.toInt32) : Int32).toNatClampNeg).1)), .second, .val (.int ((fe ((n.toInt32) : Int32).toNatClampNeg).2.1)), .val (.int ((fe ((n.toInt32) : Int32).toNatClampNeg).2.2)), .val (.int (i25.toInt32)), .val (.int ((n / 2).toInt32)), s25] [])) _
    refine XS.aloadN X25.here hx rfl (hb hby d9_157) rfl rfl ?_
    show Steps p.tables e below (T25.setTop (mkF m 158 #[.val (.ref o0), .val (.int ((fe ((0 : Int32) : Int32).toNatClampNeg).2.2)), .val (.long ((fe ((n.toInt32) : Int32).toNatClampNeg).1)), .second, .val (.int ((fe ((n.toInt32) : Int32).toNatClampNeg).2.1)), .val (.int ((fe ((n.toInt32) : Int32).toNatClampNeg).2.2)), .val (.int (i25.toInt32)), .val (.int ((n / 2).toInt32)), s25] [(.ref o0)])) _
    refine XS.iload X25.here hx rfl (hb hby d9_158) rfl ?_
    show Steps p.tables e below (T25.setTop (mkF m 160 #[.val (.ref o0), .val (.int ((fe ((0 : Int32) : Int32).toNatClampNeg).2.2)), .val (.long ((fe ((n.toInt32) : Int32).toNatClampNeg).1)), .second, .val (.int ((fe ((n.toInt32) : Int32).toNatClampNeg).2.1)), .val (.int ((fe ((n.toInt32) : Int32).toNatClampNeg).2.2)), .val (.int (i25.toInt32)), .val (.int ((n / 2).toInt32)), s25] [(.int (i25.toInt32)), (.ref o0)])) _
    refine XS.lloadN X25.here hx rfl (hb hby d9_160) rfl ?_
    show Steps p.tables e below (T25.setTop (mkF m 161 #[.val (.ref o0), .val (.int ((fe ((0 : Int32) : Int32).toNatClampNeg).2.2)), .val (.long ((fe ((n.toInt32) : Int32).toNatClampNeg).1)), .second, .val (.int ((fe ((n.toInt32) : Int32).toNatClampNeg).2.1)), .val (.int ((fe ((n.toInt32) : Int32).toNatClampNeg).2.2)), .val (.int (i25.toInt32)), .val (.int ((n / 2).toInt32)), s25] [(.long ((fe ((n.toInt32) : Int32).toNatClampNeg).1)), (.int (i25.toInt32)), (.ref o0)])) _
    refine XS.iload X25.here hx rfl (hb hby d9_161) rfl ?_
    show Steps p.tables e below (T25.setTop (mkF m 163 #[.val (.ref o0), .val (.int ((fe ((0 : Int32) : Int32).toNatClampNeg).2.2)), .val (.long ((fe ((n.toInt32) : Int32).toNatClampNeg).1)), .second, .val (.int ((fe ((n.toInt32) : Int32).toNatClampNeg).2.1)), .val (.int ((fe ((n.toInt32) : Int32).toNatClampNeg).2.2)), .val (.int (i25.toInt32)), .val (.int ((n / 2).toInt32)), s25] [(.int ((fe ((n.toInt32) : Int32).toNatClampNeg).2.1)), (.long ((fe ((n.toInt32) : Int32).toNatClampNeg).1)), (.int (i25.toInt32)), (.ref o0)])) _
    refine XS.iload X25.here hx rfl (hb hby d9_163) rfl ?_
    show Steps p.tables e below (T25.setTop (mkF m 165 #[.val (.ref o0), .val (.int ((fe ((0 : Int32) : Int32).toNatClampNeg).2.2)), .val (.long ((fe ((n.toInt32) : Int32).toNatClampNeg).1)), .second, .val (.int ((fe ((n.toInt32) : Int32).toNatClampNeg).2.1)), .val (.int ((fe ((n.toInt32) : Int32).toNatClampNeg).2.2)), .val (.int (i25.toInt32)), .val (.int ((n / 2).toInt32)), s25] [(.int ((fe ((n.toInt32) : Int32).toNatClampNeg).2.2)), (.int ((fe ((n.toInt32) : Int32).toNatClampNeg).2.1)), (.long ((fe ((n.toInt32) : Int32).toNatClampNeg).1)), (.int (i25.toInt32)), (.ref o0)])) _
    refine st29.trans ?_
    show Steps p.tables e below (T29.setTop (mkF m 168 #[.val (.ref o0), .val (.int ((fe ((0 : Int32) : Int32).toNatClampNeg).2.2)), .val (.long ((fe ((n.toInt32) : Int32).toNatClampNeg).1)), .second, .val (.int ((fe ((n.toInt32) : Int32).toNatClampNeg).2.1)), .val (.int ((fe ((n.toInt32) : Int32).toNatClampNeg).2.2)), .val (.int (i25.toInt32)), .val (.int ((n / 2).toInt32)), s25] [])) _
    refine XS.iloadN X29.here hx rfl (hb hby d9_168) rfl ?_
    show Steps p.tables e below (T29.setTop (mkF m 169 #[.val (.ref o0), .val (.int ((fe ((0 : Int32) : Int32).toNatClampNeg).2.2)), .val (.long ((fe ((n.toInt32) : Int32).toNatClampNeg).1)), .second, .val (.int ((fe ((n.toInt32) : Int32).toNatClampNeg).2.1)), .val (.int ((fe ((n.toInt32) : Int32).toNatClampNeg).2.2)), .val (.int (i25.toInt32)), .val (.int ((n / 2).toInt32)), s25] [(.int ((fe ((0 : Int32) : Int32).toNatClampNeg).2.2))])) _
    exact k)
  obtain ⟨fs, hr, hrun, hended, hW, hsame⟩ := X29.leave (v := some (.int ((fe ((0 : Int32) : Int32).toNatClampNeg).2.2))) (fun h => by rw [Bd.returns] at h; cases h)
  refine ⟨_, _, pre33 _ ?_, hrun, hended, _, _, rfl, ?_, ⟨_, rfl⟩, hW, hsame.mono (by decide) (by decide)⟩
  · exact retI X29 hx Bd.returns (hb hby d9_169) hr
  · show Q9 Z o0 tr tc ts fe n h0 n0 _ T29.heap _
    skip
    exact ⟨(own_up f25 ((i25.toInt32) : Int32).toNatClampNeg (((fe ((n.toInt32) : Int32).toNatClampNeg).1), ((fe ((n.toInt32) : Int32).toNatClampNeg).2.1), ((fe ((n.toInt32) : Int32).toNatClampNeg).2.2))), rfl, N29, K32, F_size_o0_30, F_ranks_o0_30, F_costs_o0_30, F_states_o0_30, P29_0, P29_1, P29_2, hfin25.1, hfin25.2⟩
def own_ent (rr : Nat → Int64) (cc : Nat → Int32) (j : Nat) : own_E := (rr j, cc j, (100 + j).toInt32)
/-- the n entries are entries of n labels, all below b, none twice, none of u -/
def own_DL (rr : Nat → Int64) (cc : Nat → Int32) (n b : Nat) (u : List Nat) (g : Nat → own_E) : Prop := ∃ lab : Nat → Nat, (∀ j, j < n → g j = own_ent rr cc (lab j) ∧ lab j < b ∧ lab j ∉ u) ∧ ∀ i j, i < n → j < n → lab i = lab j → i = j
theorem own_DL_rr {rr : Nat → Int64} {cc : Nat → Int32} {n b : Nat} {u : List Nat} {g g' : Nat → own_E} (D : own_DL rr cc n b u g) (R : own_rr n g' g) : own_DL rr cc n b u g' := by
  obtain ⟨lab, h1, h2⟩ := D
  obtain ⟨f, k, r1, r2⟩ := R
  refine ⟨fun j => lab (f j), fun j hj => ?_, fun i j hi hj q => ?_⟩
  · obtain ⟨a, b, c⟩ := h1 _ (r1 j hj).1
    exact ⟨(r2 j hj).trans a, b, c⟩
  · have q2 := h2 _ _ (r1 i hi).1 (r1 j hj).1 q
    have e1 := (r1 i hi).2.2.2
    have e2 := (r1 j hj).2.2.2
    rw [← e1, ← e2, q2]
theorem own_DL_add {rr : Nat → Int64} {cc : Nat → Int32} {n : Nat} {g g' : Nat → own_E} (D : own_DL rr cc n n [] g) (R : own_rr (n + 1) g' (own_up g n (own_ent rr cc n))) : own_DL rr cc (n + 1) (n + 1) [] g' := by
  refine own_DL_rr ?_ R
  obtain ⟨lab, h1, h2⟩ := D
  refine ⟨fun j => if j = n then n else lab j, fun j hj => ?_, fun i j hi hj q => ?_⟩
  · by_cases e : j = n
    · subst e
      simp only [if_true]
      exact ⟨own_up_same _ _ _, by omega, by simp⟩
    · simp only [if_neg e]
      obtain ⟨a, b, c⟩ := h1 j (by omega)
      exact ⟨by rw [own_up_ne e]; exact a, by omega, c⟩
  · by_cases e1 : i = n
    · by_cases e2 : j = n
      · omega
      · simp only [if_pos e1, if_neg e2] at q
        have := (h1 j (by omega)).2.1
        omega
    · by_cases e2 : j = n
      · simp only [if_neg e1, if_pos e2] at q
        have := (h1 i (by omega)).2.1
        omega
      · simp only [if_neg e1, if_neg e2] at q
        exact h2 i j (by omega) (by omega) q
theorem own_DL_rem {rr : Nat → Int64} {cc : Nat → Int32} {n b : Nat} {u : List Nat} {g g' : Nat → own_E} (D : own_DL rr cc (n + 1) b u g) (H : own_heap (n + 1) g) (R : own_rr n g' (own_up g 0 (g n))) :
    ∃ l, l < b ∧ l ∉ u ∧ g 0 = own_ent rr cc l ∧ own_DL rr cc n b (l :: u) g' ∧ ∀ j, j < n → ¬ own_bf (g' j) (own_ent rr cc l) := by
  obtain ⟨lab, h1, h2⟩ := D
  have z := h1 0 (by omega)
  refine ⟨lab 0, z.2.1, z.2.2, z.1, own_DL_rr ?_ R, fun j hj => ?_⟩
  · refine ⟨fun j => if j = 0 then lab n else lab j, fun j hj => ?_, fun i j hi hj q => ?_⟩
    · by_cases e : j = 0
      · subst e
        simp only [if_true]
        obtain ⟨a, b', c⟩ := h1 n (by omega)
        refine ⟨by rw [own_up_same]; exact a, b', fun q => ?_⟩
        rcases List.mem_cons.mp q with q | q
        · have := h2 n 0 (by omega) (by omega) q
          omega
        · exact c q
      · simp only [if_neg e]
        obtain ⟨a, b', c⟩ := h1 j (by omega)
        refine ⟨by rw [own_up_ne e]; exact a, b', fun q => ?_⟩
        rcases List.mem_cons.mp q with q | q
        · exact e (h2 j 0 (by omega) (by omega) q)
        · exact c q
    · by_cases e1 : i = 0
      · by_cases e2 : j = 0
        · omega
        · simp only [if_pos e1, if_neg e2] at q
          have := h2 n j (by omega) (by omega) q
          omega
      · by_cases e2 : j = 0
        · simp only [if_neg e1, if_pos e2] at q
          have := h2 i n (by omega) (by omega) q
          omega
        · simp only [if_neg e1, if_neg e2] at q
          exact h2 i j (by omega) (by omega) q
  · rw [← z.1]
    obtain ⟨f, k, r1, r2⟩ := R
    rw [r2 j hj]
    have hf := (r1 j hj).1
    by_cases e : f j = 0
    · rw [e, own_up_same]; exact own_least H n (by omega)
    · rw [own_up_ne e]; exact own_least H (f j) (by omega)
theorem own_DL0 (rr : Nat → Int64) (cc : Nat → Int32) (g : Nat → own_E) : own_DL rr cc 0 0 [] g := ⟨id, fun j hj => absurd hj (by omega), fun i j hi => absurd hi (by omega)⟩
theorem own_seen : ∀ a b c d e : Fin 5, [e, d, c, b, a].Nodup → ((((((1 : Int32) <<< (a.1.toInt32 &&& 31)) ||| ((1 : Int32) <<< (b.1.toInt32 &&& 31))) ||| ((1 : Int32) <<< (c.1.toInt32 &&& 31))) ||| ((1 : Int32) <<< (d.1.toInt32 &&& 31))) ||| ((1 : Int32) <<< (e.1.toInt32 &&& 31))) = (31 : Int32) := by decide +kernel
theorem own_less : ∀ a : Fin 5, ((100 + a.1).toInt32 - (100 : Int32)) = a.1.toInt32 := by decide +kernel
theorem own_seenN {a b c d e : Nat} (ha : a < 5) (hb : b < 5) (hc : c < 5) (hd : d < 5) (he : e < 5) (h : [e, d, c, b, a].Nodup) : ((((((1 : Int32) <<< (a.toInt32 &&& 31)) ||| ((1 : Int32) <<< (b.toInt32 &&& 31))) ||| ((1 : Int32) <<< (c.toInt32 &&& 31))) ||| ((1 : Int32) <<< (d.toInt32 &&& 31))) ||| ((1 : Int32) <<< (e.toInt32 &&& 31))) = (31 : Int32) :=
  own_seen ⟨a, ha⟩ ⟨b, hb⟩ ⟨c, hc⟩ ⟨d, hd⟩ ⟨e, he⟩ (by simpa [List.nodup_cons, Fin.ext_iff] using h)

theorem d1_0 : decode method_2_code 0 = .ok (.iload 6, 2) := by decide +kernel
theorem d1_2 : decode method_2_code 2 = .ok (.iconst 3, 1) := by decide +kernel
theorem d1_3 : decode method_2_code 3 = .ok (.iand, 1) := by decide +kernel
theorem d1_4 : decode method_2_code 4 = .ok (.istore 7, 2) := by decide +kernel
theorem d1_6 : decode method_2_code 6 = .ok (.iload 7, 2) := by decide +kernel
theorem d1_8 : decode method_2_code 8 = .ok (.ifCond .ne 5, 3) := by decide +kernel
theorem d1_11 : decode method_2_code 11 = .ok (.lload_n 0, 1) := by decide +kernel
theorem d1_12 : decode method_2_code 12 = .ok (.lreturn, 1) := by decide +kernel
theorem d1_13 : decode method_2_code 13 = .ok (.iload 7, 2) := by decide +kernel
theorem d1_15 : decode method_2_code 15 = .ok (.iconst 1, 1) := by decide +kernel
theorem d1_16 : decode method_2_code 16 = .ok (.if_icmp .ne 5, 3) := by decide +kernel
theorem d1_19 : decode method_2_code 19 = .ok (.lload_n 2, 1) := by decide +kernel
theorem d1_20 : decode method_2_code 20 = .ok (.lreturn, 1) := by decide +kernel
theorem d1_21 : decode method_2_code 21 = .ok (.lload 4, 2) := by decide +kernel
theorem d1_23 : decode method_2_code 23 = .ok (.lreturn, 1) := by decide +kernel
theorem pn_1 : plainName "com/example/brisk_maze/briskmaze/search/RankedFrontierRemoveFirstPinLaw" = true := by first | (simp [plainName, overriddenIn]; done) | decide +kernel
theorem ef_1 (m : MethodId) (q0 : Int64) (q1 : Int64) (q2 : Int64) (p3 : Int32) : entryFrame m #[(.long q0), (.long q1), (.long q2), (.int p3)] 8 = mkF m 0 #[.val (.long q0), .second, .val (.long q1), .second, .val (.long q2), .second, .val (.int p3), .unset] [] := by first | (simp [entryFrame, mkF, argsToLocals, Value.category]; done) | rfl
def f1_ret (q0 : Int64) (q1 : Int64) (q2 : Int64) (p3 : Int32) : Int64 := (if (p3 &&& (3 : Int32)) = (0 : Int32) then q0 else (if (p3 &&& (3 : Int32)) = (1 : Int32) then q1 else q2))

def Q1 (Z : State) (q0 : Int64) (q1 : Int64) (q2 : Int64) (p3 : Int32) (h0 : Heap) (n0 : Nat) (v : Option Value) (h : Heap) (L : List Loc) : Prop := v = some (.long (f1_ret q0 q1 q2 p3)) ∧ Fr n0 L ∧ h = h0
set_option maxRecDepth 65536 in
set_option maxHeartbeats 40000000 in
theorem rm1 (l : Launch) (Z : State) (a0 : Array Value) (hw : ∀ d ∈ tables_1, d.before a0 Z = true) (ws : List Jvm.Cond) (q0 : Int64) (q1 : Int64) (q2 : Int64) (p3 : Int32) (h0 : Heap) (n0 : Nat) (Z0 : n0 ≤ h0.size)  :
    MetFree l (⟨"com/example/brisk_maze/briskmaze/search/RankedFrontierRemoveFirstPinLaw", "pickRank", "(JJJI)J"⟩ : MethodName) (head1 (Jvm.Cond.code (⟨"com/example/brisk_maze/briskmaze/search/RankedFrontierRemoveFirstPinLaw", "pickRank", "(JJJI)J"⟩ : MethodName) method_2_code 8 (some .long) :: ws) ({ frames := 0, cells := 0, slots := 0, locals := 0 } : Room)) (fun a U => a = #[(.long q0), (.long q1), (.long q2), (.int p3)] ∧ Z.Warmed39 U.vm ∧ U.heap = h0) (fun _ _ _ _ _ => True) (fun _ U o U' => ∃ v L, o = .returned v ∧ Q1 Z q0 q1 q2 p3 h0 n0 v U'.heap L ∧ FrameEnd U o U' L ({ frames := 0, cells := 0, slots := 0, locals := 0 } : Room).cells ({ frames := 0, cells := 0, slots := 0, locals := 0 } : Room).slots) := by
  refine MetFree.of_bodySF (plainFor_of_name pn_1) hisR ?_
  intro p e s m args below meth c s₁ Bd hml0 hP hK
  obtain ⟨rfl, hZ, hh⟩ := hP
  have hx := Bd.exec
  have hby := Bd.bytes
  have hml : c.maxLocals = 8 := hml0
  have hown : s.vm.findClass "com/example/brisk_maze/briskmaze/search/RankedFrontierRemoveFirstPinLaw" = some m.cls := findClass_of_methodNamed Bd.named
  have hnm := (name_of_methodNamed Bd.named Bd.method).1
  have X0 : Stand p l e ({ frames := 0, cells := 0, slots := 0, locals := 0 } : Room) s m #[(.long q0), (.long q1), (.long q2), (.int p3)] below meth c s₁ [] 0 0 := Stand.of_body Bd
  have e0 : s₁.heap = h0 := by rw [← hh, Bd.state]; rfl
  have N0 := Fr.nil n0
  have pre0 : ∀ t, Steps p.tables e below (s₁.setTop (mkF m 0 #[.val (.long q0), .second, .val (.long q1), .second, .val (.long q2), .second, .val (.int p3), .unset] [])) t → Steps p.tables e below (s₁.setTop (entryFrame m #[(.long q0), (.long q1), (.long q2), (.int p3)] 8)) t := fun t k => castTop (ef_1 m q0 q1 q2 p3) k
  have pre1 : ∀ t, Steps p.tables e below (s₁.setTop (mkF m 8 #[.val (.long q0), .second, .val (.long q1), .second, .val (.long q2), .second, .val (.int p3), .val (.int (p3 &&& (3 : Int32)))] [(.int (p3 &&& (3 : Int32)))])) t → Steps p.tables e below (s₁.setTop (entryFrame m #[(.long q0), (.long q1), (.long q2), (.int p3)] 8)) t := fun t k => pre0 t (by
    show Steps p.tables e below (s₁.setTop (mkF m 0 #[.val (.long q0), .second, .val (.long q1), .second, .val (.long q2), .second, .val (.int p3), .unset] [])) _
    refine XS.iload X0.here hx rfl (hb hby d1_0) rfl ?_
    show Steps p.tables e below (s₁.setTop (mkF m 2 #[.val (.long q0), .second, .val (.long q1), .second, .val (.long q2), .second, .val (.int p3), .unset] [(.int p3)])) _
    refine XS.iconst X0.here hx rfl (hb hby d1_2) ?_
    show Steps p.tables e below (s₁.setTop (mkF m 3 #[.val (.long q0), .second, .val (.long q1), .second, .val (.long q2), .second, .val (.int p3), .unset] [(.int (3 : Int32)), (.int p3)])) _
    refine XS.iand X0.here hx rfl (hb hby d1_3) rfl ?_
    show Steps p.tables e below (s₁.setTop (mkF m 4 #[.val (.long q0), .second, .val (.long q1), .second, .val (.long q2), .second, .val (.int p3), .unset] [(.int (p3 &&& (3 : Int32)))])) _
    refine XS.istore X0.here hx rfl (hb hby d1_4) rfl (l' := #[.val (.long q0), .second, .val (.long q1), .second, .val (.long q2), .second, .val (.int p3), .val (.int (p3 &&& (3 : Int32)))]) rfl ?_
    show Steps p.tables e below (s₁.setTop (mkF m 6 #[.val (.long q0), .second, .val (.long q1), .second, .val (.long q2), .second, .val (.int p3), .val (.int (p3 &&& (3 : Int32)))] [])) _
    refine XS.iload X0.here hx rfl (hb hby d1_6) rfl ?_
    show Steps p.tables e below (s₁.setTop (mkF m 8 #[.val (.long q0), .second, .val (.long q1), .second, .val (.long q2), .second, .val (.int p3), .val (.int (p3 &&& (3 : Int32)))] [(.int (p3 &&& (3 : Int32)))])) _
    exact k)
  by_cases hs2 : (p3 &&& (3 : Int32)) = (0 : Int32)
  · have pre3 : ∀ t, Steps p.tables e below (s₁.setTop (mkF m 12 #[.val (.long q0), .second, .val (.long q1), .second, .val (.long q2), .second, .val (.int p3), .val (.int (p3 &&& (3 : Int32)))] [(.long q0)])) t → Steps p.tables e below (s₁.setTop (entryFrame m #[(.long q0), (.long q1), (.long q2), (.int p3)] 8)) t := fun t k => pre1 t (by
      refine XS.ifNo X0.here hx rfl (hb hby d1_8) rfl ((if0 _ _).trans (teq hs2).2) ?_
      show Steps p.tables e below (s₁.setTop (mkF m 11 #[.val (.long q0), .second, .val (.long q1), .second, .val (.long q2), .second, .val (.int p3), .val (.int (p3 &&& (3 : Int32)))] [])) _
      refine XS.lloadN X0.here hx rfl (hb hby d1_11) rfl ?_
      show Steps p.tables e below (s₁.setTop (mkF m 12 #[.val (.long q0), .second, .val (.long q1), .second, .val (.long q2), .second, .val (.int p3), .val (.int (p3 &&& (3 : Int32)))] [(.long q0)])) _
      exact k)
    obtain ⟨fs, hr, hrun, hended, hW, hsame⟩ := X0.leave (v := some (.long q0)) (fun h => by rw [Bd.returns] at h; cases h)
    refine ⟨_, _, pre3 _ ?_, hrun, hended, _, _, rfl, ?_, ⟨_, rfl⟩, hW, hsame.mono (by decide) (by decide)⟩
    · exact retOut X0 hx Bd.returns rfl (Or.inr (Or.inl ⟨rfl, rfl, _, rfl⟩)) (hb hby d1_12) hr
    · show Q1 Z q0 q1 q2 p3 h0 n0 _ s₁.heap _
      rw [e0]
      exact ⟨congrArg some (congrArg Value.long (show (q0 : Int64) = f1_ret q0 q1 q2 p3 by simp only [f1_ret, if_pos hs2])), N0, rfl⟩
  · have pre4 : ∀ t, Steps p.tables e below (s₁.setTop (mkF m 16 #[.val (.long q0), .second, .val (.long q1), .second, .val (.long q2), .second, .val (.int p3), .val (.int (p3 &&& (3 : Int32)))] [(.int (1 : Int32)), (.int (p3 &&& (3 : Int32)))])) t → Steps p.tables e below (s₁.setTop (entryFrame m #[(.long q0), (.long q1), (.long q2), (.int p3)] 8)) t := fun t k => pre1 t (by
      refine XS.ifYes X0.here hx rfl (pc0 := 8) (pc' := 13) rfl (hb hby d1_8) rfl ((if0 _ _).trans (feq hs2).2) (by decide) (by decide) ?_
      show Steps p.tables e below (s₁.setTop (mkF m 13 #[.val (.long q0), .second, .val (.long q1), .second, .val (.long q2), .second, .val (.int p3), .val (.int (p3 &&& (3 : Int32)))] [])) _
      refine XS.iload X0.here hx rfl (hb hby d1_13) rfl ?_
      show Steps p.tables e below (s₁.setTop (mkF m 15 #[.val (.long q0), .second, .val (.long q1), .second, .val (.long q2), .second, .val (.int p3), .val (.int (p3 &&& (3 : Int32)))] [(.int (p3 &&& (3 : Int32)))])) _
      refine XS.iconst X0.here hx rfl (hb hby d1_15) ?_
      show Steps p.tables e below (s₁.setTop (mkF m 16 #[.val (.long q0), .second, .val (.long q1), .second, .val (.long q2), .second, .val (.int p3), .val (.int (p3 &&& (3 : Int32)))] [(.int (1 : Int32)), (.int (p3 &&& (3 : Int32)))])) _
      exact k)
    by_cases hs5 : (p3 &&& (3 : Int32)) = (1 : Int32)
    · have pre6 : ∀ t, Steps p.tables e below (s₁.setTop (mkF m 20 #[.val (.long q0), .second, .val (.long q1), .second, .val (.long q2), .second, .val (.int p3), .val (.int (p3 &&& (3 : Int32)))] [(.long q1)])) t → Steps p.tables e below (s₁.setTop (entryFrame m #[(.long q0), (.long q1), (.long q2), (.int p3)] 8)) t := fun t k => pre4 t (by
        refine XS.icmpNo X0.here hx rfl (hb hby d1_16) rfl (teq hs5).2 ?_
        show Steps p.tables e below (s₁.setTop (mkF m 19 #[.val (.long q0), .second, .val (.long q1), .second, .val (.long q2), .second, .val (.int p3), .val (.int (p3 &&& (3 : Int32)))] [])) _
        refine XS.lloadN X0.here hx rfl (hb hby d1_19) rfl ?_
        show Steps p.tables e below (s₁.setTop (mkF m 20 #[.val (.long q0), .second, .val (.long q1), .second, .val (.long q2), .second, .val (.int p3), .val (.int (p3 &&& (3 : Int32)))] [(.long q1)])) _
        exact k)
      obtain ⟨fs, hr, hrun, hended, hW, hsame⟩ := X0.leave (v := some (.long q1)) (fun h => by rw [Bd.returns] at h; cases h)
      refine ⟨_, _, pre6 _ ?_, hrun, hended, _, _, rfl, ?_, ⟨_, rfl⟩, hW, hsame.mono (by decide) (by decide)⟩
      · exact retOut X0 hx Bd.returns rfl (Or.inr (Or.inl ⟨rfl, rfl, _, rfl⟩)) (hb hby d1_20) hr
      · show Q1 Z q0 q1 q2 p3 h0 n0 _ s₁.heap _
        rw [e0]
        exact ⟨congrArg some (congrArg Value.long (show (q1 : Int64) = f1_ret q0 q1 q2 p3 by simp only [f1_ret, if_neg hs2, if_pos hs5])), N0, rfl⟩
    · have pre7 : ∀ t, Steps p.tables e below (s₁.setTop (mkF m 23 #[.val (.long q0), .second, .val (.long q1), .second, .val (.long q2), .second, .val (.int p3), .val (.int (p3 &&& (3 : Int32)))] [(.long q2)])) t → Steps p.tables e below (s₁.setTop (entryFrame m #[(.long q0), (.long q1), (.long q2), (.int p3)] 8)) t := fun t k => pre4 t (by
        refine XS.icmpYes X0.here hx rfl (pc0 := 16) (pc' := 21) rfl (hb hby d1_16) rfl (feq hs5).2 (by decide) (by decide) ?_
        show Steps p.tables e below (s₁.setTop (mkF m 21 #[.val (.long q0), .second, .val (.long q1), .second, .val (.long q2), .second, .val (.int p3), .val (.int (p3 &&& (3 : Int32)))] [])) _
        refine XS.lload X0.here hx rfl (hb hby d1_21) rfl ?_
        show Steps p.tables e below (s₁.setTop (mkF m 23 #[.val (.long q0), .second, .val (.long q1), .second, .val (.long q2), .second, .val (.int p3), .val (.int (p3 &&& (3 : Int32)))] [(.long q2)])) _
        exact k)
      obtain ⟨fs, hr, hrun, hended, hW, hsame⟩ := X0.leave (v := some (.long q2)) (fun h => by rw [Bd.returns] at h; cases h)
      refine ⟨_, _, pre7 _ ?_, hrun, hended, _, _, rfl, ?_, ⟨_, rfl⟩, hW, hsame.mono (by decide) (by decide)⟩
      · exact retOut X0 hx Bd.returns rfl (Or.inr (Or.inl ⟨rfl, rfl, _, rfl⟩)) (hb hby d1_23) hr
      · show Q1 Z q0 q1 q2 p3 h0 n0 _ s₁.heap _
        rw [e0]
        exact ⟨congrArg some (congrArg Value.long (show (q2 : Int64) = f1_ret q0 q1 q2 p3 by simp only [f1_ret, if_neg hs2, if_neg hs5])), N0, rfl⟩
theorem d2_0 : decode method_3_code 0 = .ok (.iload_n 2, 1) := by decide +kernel
theorem d2_1 : decode method_3_code 1 = .ok (.iconst 1, 1) := by decide +kernel
theorem d2_2 : decode method_3_code 2 = .ok (.iand, 1) := by decide +kernel
theorem d2_3 : decode method_3_code 3 = .ok (.ifCond .ne 5, 3) := by decide +kernel
theorem d2_6 : decode method_3_code 6 = .ok (.iload_n 0, 1) := by decide +kernel
theorem d2_7 : decode method_3_code 7 = .ok (.ireturn, 1) := by decide +kernel
theorem d2_8 : decode method_3_code 8 = .ok (.iload_n 1, 1) := by decide +kernel
theorem d2_9 : decode method_3_code 9 = .ok (.ireturn, 1) := by decide +kernel
theorem ef_2 (m : MethodId) (p0 : Int32) (p1 : Int32) (p2 : Int32) : entryFrame m #[(.int p0), (.int p1), (.int p2)] 3 = mkF m 0 #[.val (.int p0), .val (.int p1), .val (.int p2)] [] := by first | (simp [entryFrame, mkF, argsToLocals, Value.category]; done) | rfl
def f2_ret (p0 : Int32) (p1 : Int32) (p2 : Int32) : Int32 := (if (p2 &&& (1 : Int32)) = (0 : Int32) then p0 else p1)

def Q2 (Z : State) (p0 : Int32) (p1 : Int32) (p2 : Int32) (h0 : Heap) (n0 : Nat) (v : Option Value) (h : Heap) (L : List Loc) : Prop := v = some (.int (f2_ret p0 p1 p2)) ∧ Fr n0 L ∧ h = h0
set_option maxRecDepth 65536 in
set_option maxHeartbeats 40000000 in
theorem rm2 (l : Launch) (Z : State) (a0 : Array Value) (hw : ∀ d ∈ tables_1, d.before a0 Z = true) (ws : List Jvm.Cond) (p0 : Int32) (p1 : Int32) (p2 : Int32) (h0 : Heap) (n0 : Nat) (Z0 : n0 ≤ h0.size)  :
    MetFree l (⟨"com/example/brisk_maze/briskmaze/search/RankedFrontierRemoveFirstPinLaw", "pickCost", "(III)I"⟩ : MethodName) (head1 (Jvm.Cond.code (⟨"com/example/brisk_maze/briskmaze/search/RankedFrontierRemoveFirstPinLaw", "pickCost", "(III)I"⟩ : MethodName) method_3_code 3 (some .int) :: ws) ({ frames := 0, cells := 0, slots := 0, locals := 0 } : Room)) (fun a U => a = #[(.int p0), (.int p1), (.int p2)] ∧ Z.Warmed39 U.vm ∧ U.heap = h0) (fun _ _ _ _ _ => True) (fun _ U o U' => ∃ v L, o = .returned v ∧ Q2 Z p0 p1 p2 h0 n0 v U'.heap L ∧ FrameEnd U o U' L ({ frames := 0, cells := 0, slots := 0, locals := 0 } : Room).cells ({ frames := 0, cells := 0, slots := 0, locals := 0 } : Room).slots) := by
  refine MetFree.of_bodySF (plainFor_of_name pn_1) hisR ?_
  intro p e s m args below meth c s₁ Bd hml0 hP hK
  obtain ⟨rfl, hZ, hh⟩ := hP
  have hx := Bd.exec
  have hby := Bd.bytes
  have hml : c.maxLocals = 3 := hml0
  have hown : s.vm.findClass "com/example/brisk_maze/briskmaze/search/RankedFrontierRemoveFirstPinLaw" = some m.cls := findClass_of_methodNamed Bd.named
  have hnm := (name_of_methodNamed Bd.named Bd.method).1
  have X0 : Stand p l e ({ frames := 0, cells := 0, slots := 0, locals := 0 } : Room) s m #[(.int p0), (.int p1), (.int p2)] below meth c s₁ [] 0 0 := Stand.of_body Bd
  have e0 : s₁.heap = h0 := by rw [← hh, Bd.state]; rfl
  have N0 := Fr.nil n0
  have pre0 : ∀ t, Steps p.tables e below (s₁.setTop (mkF m 0 #[.val (.int p0), .val (.int p1), .val (.int p2)] [])) t → Steps p.tables e below (s₁.setTop (entryFrame m #[(.int p0), (.int p1), (.int p2)] 3)) t := fun t k => castTop (ef_2 m p0 p1 p2) k
  have pre1 : ∀ t, Steps p.tables e below (s₁.setTop (mkF m 3 #[.val (.int p0), .val (.int p1), .val (.int p2)] [(.int (p2 &&& (1 : Int32)))])) t → Steps p.tables e below (s₁.setTop (entryFrame m #[(.int p0), (.int p1), (.int p2)] 3)) t := fun t k => pre0 t (by
    show Steps p.tables e below (s₁.setTop (mkF m 0 #[.val (.int p0), .val (.int p1), .val (.int p2)] [])) _
    refine XS.iloadN X0.here hx rfl (hb hby d2_0) rfl ?_
    show Steps p.tables e below (s₁.setTop (mkF m 1 #[.val (.int p0), .val (.int p1), .val (.int p2)] [(.int p2)])) _
    refine XS.iconst X0.here hx rfl (hb hby d2_1) ?_
    show Steps p.tables e below (s₁.setTop (mkF m 2 #[.val (.int p0), .val (.int p1), .val (.int p2)] [(.int (1 : Int32)), (.int p2)])) _
    refine XS.iand X0.here hx rfl (hb hby d2_2) rfl ?_
    show Steps p.tables e below (s₁.setTop (mkF m 3 #[.val (.int p0), .val (.int p1), .val (.int p2)] [(.int (p2 &&& (1 : Int32)))])) _
    exact k)
  by_cases hs2 : (p2 &&& (1 : Int32)) = (0 : Int32)
  · have pre3 : ∀ t, Steps p.tables e below (s₁.setTop (mkF m 7 #[.val (.int p0), .val (.int p1), .val (.int p2)] [(.int p0)])) t → Steps p.tables e below (s₁.setTop (entryFrame m #[(.int p0), (.int p1), (.int p2)] 3)) t := fun t k => pre1 t (by
      refine XS.ifNo X0.here hx rfl (hb hby d2_3) rfl ((if0 _ _).trans (teq hs2).2) ?_
      show Steps p.tables e below (s₁.setTop (mkF m 6 #[.val (.int p0), .val (.int p1), .val (.int p2)] [])) _
      refine XS.iloadN X0.here hx rfl (hb hby d2_6) rfl ?_
      show Steps p.tables e below (s₁.setTop (mkF m 7 #[.val (.int p0), .val (.int p1), .val (.int p2)] [(.int p0)])) _
      exact k)
    obtain ⟨fs, hr, hrun, hended, hW, hsame⟩ := X0.leave (v := some (.int p0)) (fun h => by rw [Bd.returns] at h; cases h)
    refine ⟨_, _, pre3 _ ?_, hrun, hended, _, _, rfl, ?_, ⟨_, rfl⟩, hW, hsame.mono (by decide) (by decide)⟩
    · exact retI X0 hx Bd.returns (hb hby d2_7) hr
    · show Q2 Z p0 p1 p2 h0 n0 _ s₁.heap _
      rw [e0]
      exact ⟨congrArg some (congrArg Value.int (show (p0 : Int32) = f2_ret p0 p1 p2 by simp only [f2_ret, if_pos hs2])), N0, rfl⟩
  · have pre4 : ∀ t, Steps p.tables e below (s₁.setTop (mkF m 9 #[.val (.int p0), .val (.int p1), .val (.int p2)] [(.int p1)])) t → Steps p.tables e below (s₁.setTop (entryFrame m #[(.int p0), (.int p1), (.int p2)] 3)) t := fun t k => pre1 t (by
      refine XS.ifYes X0.here hx rfl (pc0 := 3) (pc' := 8) rfl (hb hby d2_3) rfl ((if0 _ _).trans (feq hs2).2) (by decide) (by decide) ?_
      show Steps p.tables e below (s₁.setTop (mkF m 8 #[.val (.int p0), .val (.int p1), .val (.int p2)] [])) _
      refine XS.iloadN X0.here hx rfl (hb hby d2_8) rfl ?_
      show Steps p.tables e below (s₁.setTop (mkF m 9 #[.val (.int p0), .val (.int p1), .val (.int p2)] [(.int p1)])) _
      exact k)
    obtain ⟨fs, hr, hrun, hended, hW, hsame⟩ := X0.leave (v := some (.int p1)) (fun h => by rw [Bd.returns] at h; cases h)
    refine ⟨_, _, pre4 _ ?_, hrun, hended, _, _, rfl, ?_, ⟨_, rfl⟩, hW, hsame.mono (by decide) (by decide)⟩
    · exact retI X0 hx Bd.returns (hb hby d2_9) hr
    · show Q2 Z p0 p1 p2 h0 n0 _ s₁.heap _
      rw [e0]
      exact ⟨congrArg some (congrArg Value.int (show (p1 : Int32) = f2_ret p0 p1 p2 by simp only [f2_ret, if_neg hs2])), N0, rfl⟩
theorem d11_0 : decode method_4_code 0 = .ok (.iload_n 0, 1) := by decide +kernel
theorem d11_1 : decode method_4_code 1 = .ok (.bipush 100, 2) := by decide +kernel
theorem d11_3 : decode method_4_code 3 = .ok (.if_icmp .lt 13, 3) := by decide +kernel
theorem d11_6 : decode method_4_code 6 = .ok (.iload_n 0, 1) := by decide +kernel
theorem d11_7 : decode method_4_code 7 = .ok (.bipush 104, 2) := by decide +kernel
theorem d11_9 : decode method_4_code 9 = .ok (.if_icmp .gt 7, 3) := by decide +kernel
theorem d11_12 : decode method_4_code 12 = .ok (.iconst 1, 1) := by decide +kernel
theorem d11_13 : decode method_4_code 13 = .ok (.goto 4, 3) := by decide +kernel
theorem d11_16 : decode method_4_code 16 = .ok (.iconst 0, 1) := by decide +kernel
theorem d11_17 : decode method_4_code 17 = .ok (.ireturn, 1) := by decide +kernel
theorem ef_11 (m : MethodId) (p0 : Int32) : entryFrame m #[(.int p0)] 1 = mkF m 0 #[.val (.int p0)] [] := by first | (simp [entryFrame, mkF, argsToLocals, Value.category]; done) | rfl
def f11_17 (p0 : Int32) : Int32 := (if p0 < (100 : Int32) then (0 : Int32) else (if (104 : Int32) < p0 then (0 : Int32) else (1 : Int32)))
def f11_ret (p0 : Int32) : Int32 := ((f11_17 p0) &&& 1)

def Q11 (Z : State) (p0 : Int32) (h0 : Heap) (n0 : Nat) (v : Option Value) (h : Heap) (L : List Loc) : Prop := v = some (.int (f11_ret p0)) ∧ Fr n0 L ∧ h = h0
set_option maxRecDepth 65536 in
set_option maxHeartbeats 40000000 in
theorem rm11 (l : Launch) (Z : State) (a0 : Array Value) (hw : ∀ d ∈ tables_1, d.before a0 Z = true) (ws : List Jvm.Cond) (p0 : Int32) (h0 : Heap) (n0 : Nat) (Z0 : n0 ≤ h0.size)  :
    MetFree l (⟨"com/example/brisk_maze/briskmaze/search/RankedFrontierRemoveFirstPinLaw", "inRange", "(I)Z"⟩ : MethodName) (head1 (Jvm.Cond.code (⟨"com/example/brisk_maze/briskmaze/search/RankedFrontierRemoveFirstPinLaw", "inRange", "(I)Z"⟩ : MethodName) method_4_code 1 (some .boolean) :: ws) ({ frames := 0, cells := 0, slots := 0, locals := 0 } : Room)) (fun a U => a = #[(.int p0)] ∧ Z.Warmed39 U.vm ∧ U.heap = h0) (fun _ _ _ _ _ => True) (fun _ U o U' => ∃ v L, o = .returned v ∧ Q11 Z p0 h0 n0 v U'.heap L ∧ FrameEnd U o U' L ({ frames := 0, cells := 0, slots := 0, locals := 0 } : Room).cells ({ frames := 0, cells := 0, slots := 0, locals := 0 } : Room).slots) := by
  refine MetFree.of_bodySF (plainFor_of_name pn_1) hisR ?_
  intro p e s m args below meth c s₁ Bd hml0 hP hK
  obtain ⟨rfl, hZ, hh⟩ := hP
  have hx := Bd.exec
  have hby := Bd.bytes
  have hml : c.maxLocals = 1 := hml0
  have hown : s.vm.findClass "com/example/brisk_maze/briskmaze/search/RankedFrontierRemoveFirstPinLaw" = some m.cls := findClass_of_methodNamed Bd.named
  have hnm := (name_of_methodNamed Bd.named Bd.method).1
  have X0 : Stand p l e ({ frames := 0, cells := 0, slots := 0, locals := 0 } : Room) s m #[(.int p0)] below meth c s₁ [] 0 0 := Stand.of_body Bd
  have e0 : s₁.heap = h0 := by rw [← hh, Bd.state]; rfl
  have N0 := Fr.nil n0
  have pre0 : ∀ t, Steps p.tables e below (s₁.setTop (mkF m 0 #[.val (.int p0)] [])) t → Steps p.tables e below (s₁.setTop (entryFrame m #[(.int p0)] 1)) t := fun t k => castTop (ef_11 m p0) k
  have pre1 : ∀ t, Steps p.tables e below (s₁.setTop (mkF m 3 #[.val (.int p0)] [(.int (100 : Int32)), (.int p0)])) t → Steps p.tables e below (s₁.setTop (entryFrame m #[(.int p0)] 1)) t := fun t k => pre0 t (by
    show Steps p.tables e below (s₁.setTop (mkF m 0 #[.val (.int p0)] [])) _
    refine XS.iloadN X0.here hx rfl (hb hby d11_0) rfl ?_
    show Steps p.tables e below (s₁.setTop (mkF m 1 #[.val (.int p0)] [(.int p0)])) _
    refine XS.bipush X0.here hx rfl (hb hby d11_1) ?_
    show Steps p.tables e below (s₁.setTop (mkF m 3 #[.val (.int p0)] [(.int (100 : Int32)), (.int p0)])) _
    exact k)
  have pre4 : ∀ t, Steps p.tables e below (s₁.setTop (mkF m 17 #[.val (.int p0)] [(.int (f11_17 p0))])) t → Steps p.tables e below (s₁.setTop (entryFrame m #[(.int p0)] 1)) t := fun t k => pre1 t (by
    by_cases hf2 : p0 < (100 : Int32)
    · refine XS.icmpYes X0.here hx rfl (pc0 := 3) (pc' := 16) rfl (hb hby d11_3) rfl (tlt hf2).1 (by decide) (by decide) ?_
      show Steps p.tables e below (s₁.setTop (mkF m 16 #[.val (.int p0)] [])) _
      refine XS.iconst X0.here hx rfl (hb hby d11_16) ?_
      show Steps p.tables e below (s₁.setTop (mkF m 17 #[.val (.int p0)] [(.int (0 : Int32))])) _
      rw [show (f11_17 p0) = ((0 : Int32) : Int32) from by simp only [f11_17, if_pos hf2]] at k
      exact k
    · refine XS.icmpNo X0.here hx rfl (hb hby d11_3) rfl (flt hf2).1 ?_
      show Steps p.tables e below (s₁.setTop (mkF m 6 #[.val (.int p0)] [])) _
      refine XS.iloadN X0.here hx rfl (hb hby d11_6) rfl ?_
      show Steps p.tables e below (s₁.setTop (mkF m 7 #[.val (.int p0)] [(.int p0)])) _
      refine XS.bipush X0.here hx rfl (hb hby d11_7) ?_
      show Steps p.tables e below (s₁.setTop (mkF m 9 #[.val (.int p0)] [(.int (104 : Int32)), (.int p0)])) _
      by_cases hf3 : (104 : Int32) < p0
      · refine XS.icmpYes X0.here hx rfl (pc0 := 9) (pc' := 16) rfl (hb hby d11_9) rfl (tlt hf3).2.2.1 (by decide) (by decide) ?_
        show Steps p.tables e below (s₁.setTop (mkF m 16 #[.val (.int p0)] [])) _
        refine XS.iconst X0.here hx rfl (hb hby d11_16) ?_
        show Steps p.tables e below (s₁.setTop (mkF m 17 #[.val (.int p0)] [(.int (0 : Int32))])) _
        rw [show (f11_17 p0) = ((0 : Int32) : Int32) from by simp only [f11_17, if_neg hf2, if_pos hf3]] at k
        exact k
      · refine XS.icmpNo X0.here hx rfl (hb hby d11_9) rfl (flt hf3).2.2.1 ?_
        show Steps p.tables e below (s₁.setTop (mkF m 12 #[.val (.int p0)] [])) _
        refine XS.iconst X0.here hx rfl (hb hby d11_12) ?_
        show Steps p.tables e below (s₁.setTop (mkF m 13 #[.val (.int p0)] [(.int (1 : Int32))])) _
        refine XS.goto X0.here hx rfl (pc0 := 13) (pc' := 17) rfl (hb hby d11_13) (by decide) (by decide) ?_
        show Steps p.tables e below (s₁.setTop (mkF m 17 #[.val (.int p0)] [(.int (1 : Int32))])) _
        rw [show (f11_17 p0) = ((1 : Int32) : Int32) from by simp only [f11_17, if_neg hf2, if_neg hf3]] at k
        exact k)
  obtain ⟨fs, hr, hrun, hended, hW, hsame⟩ := X0.leave (v := some (.int ((f11_17 p0) &&& 1))) (fun h => by rw [Bd.returns] at h; cases h)
  refine ⟨_, _, pre4 _ ?_, hrun, hended, _, _, rfl, ?_, ⟨_, rfl⟩, hW, hsame.mono (by decide) (by decide)⟩
  · exact retN X0 hx (t := .boolean) Bd.returns (by simp) (hb hby d11_17) hr
  · show Q11 Z p0 h0 n0 _ s₁.heap _
    rw [e0]
    exact ⟨rfl, N0, rfl⟩
theorem d12_0 : decode method_5_code 0 = .ok (.lload_n 3, 1) := by decide +kernel
theorem d12_1 : decode method_5_code 1 = .ok (.lload_n 0, 1) := by decide +kernel
theorem d12_2 : decode method_5_code 2 = .ok (.lcmp, 1) := by decide +kernel
theorem d12_3 : decode method_5_code 3 = .ok (.ifCond .lt 19, 3) := by decide +kernel
theorem d12_6 : decode method_5_code 6 = .ok (.lload_n 3, 1) := by decide +kernel
theorem d12_7 : decode method_5_code 7 = .ok (.lload_n 0, 1) := by decide +kernel
theorem d12_8 : decode method_5_code 8 = .ok (.lcmp, 1) := by decide +kernel
theorem d12_9 : decode method_5_code 9 = .ok (.ifCond .ne 9, 3) := by decide +kernel
theorem d12_12 : decode method_5_code 12 = .ok (.iload 5, 2) := by decide +kernel
theorem d12_14 : decode method_5_code 14 = .ok (.iload_n 2, 1) := by decide +kernel
theorem d12_15 : decode method_5_code 15 = .ok (.if_icmp .gt 7, 3) := by decide +kernel
theorem d12_18 : decode method_5_code 18 = .ok (.iconst 1, 1) := by decide +kernel
theorem d12_19 : decode method_5_code 19 = .ok (.goto 4, 3) := by decide +kernel
theorem d12_22 : decode method_5_code 22 = .ok (.iconst 0, 1) := by decide +kernel
theorem d12_23 : decode method_5_code 23 = .ok (.ireturn, 1) := by decide +kernel
theorem ef_12 (m : MethodId) (q0 : Int64) (p1 : Int32) (q2 : Int64) (p3 : Int32) : entryFrame m #[(.long q0), (.int p1), (.long q2), (.int p3)] 6 = mkF m 0 #[.val (.long q0), .second, .val (.int p1), .val (.long q2), .second, .val (.int p3)] [] := by first | (simp [entryFrame, mkF, argsToLocals, Value.category]; done) | rfl
def f12_23 (q0 : Int64) (p1 : Int32) (q2 : Int64) (p3 : Int32) : Int32 := (if q2 < q0 then (0 : Int32) else (if q2 = q0 then (if p1 < p3 then (0 : Int32) else (1 : Int32)) else (1 : Int32)))
def f12_ret (q0 : Int64) (p1 : Int32) (q2 : Int64) (p3 : Int32) : Int32 := ((f12_23 q0 p1 q2 p3) &&& 1)

def Q12 (Z : State) (q0 : Int64) (p1 : Int32) (q2 : Int64) (p3 : Int32) (h0 : Heap) (n0 : Nat) (v : Option Value) (h : Heap) (L : List Loc) : Prop := v = some (.int (f12_ret q0 p1 q2 p3)) ∧ Fr n0 L ∧ h = h0
set_option maxRecDepth 65536 in
set_option maxHeartbeats 40000000 in
theorem rm12 (l : Launch) (Z : State) (a0 : Array Value) (hw : ∀ d ∈ tables_1, d.before a0 Z = true) (ws : List Jvm.Cond) (q0 : Int64) (p1 : Int32) (q2 : Int64) (p3 : Int32) (h0 : Heap) (n0 : Nat) (Z0 : n0 ≤ h0.size)  :
    MetFree l (⟨"com/example/brisk_maze/briskmaze/search/RankedFrontierRemoveFirstPinLaw", "notBefore", "(JIJI)Z"⟩ : MethodName) (head1 (Jvm.Cond.code (⟨"com/example/brisk_maze/briskmaze/search/RankedFrontierRemoveFirstPinLaw", "notBefore", "(JIJI)Z"⟩ : MethodName) method_5_code 6 (some .boolean) :: ws) ({ frames := 0, cells := 0, slots := 0, locals := 0 } : Room)) (fun a U => a = #[(.long q0), (.int p1), (.long q2), (.int p3)] ∧ Z.Warmed39 U.vm ∧ U.heap = h0) (fun _ _ _ _ _ => True) (fun _ U o U' => ∃ v L, o = .returned v ∧ Q12 Z q0 p1 q2 p3 h0 n0 v U'.heap L ∧ FrameEnd U o U' L ({ frames := 0, cells := 0, slots := 0, locals := 0 } : Room).cells ({ frames := 0, cells := 0, slots := 0, locals := 0 } : Room).slots) := by
  refine MetFree.of_bodySF (plainFor_of_name pn_1) hisR ?_
  intro p e s m args below meth c s₁ Bd hml0 hP hK
  obtain ⟨rfl, hZ, hh⟩ := hP
  have hx := Bd.exec
  have hby := Bd.bytes
  have hml : c.maxLocals = 6 := hml0
  have hown : s.vm.findClass "com/example/brisk_maze/briskmaze/search/RankedFrontierRemoveFirstPinLaw" = some m.cls := findClass_of_methodNamed Bd.named
  have hnm := (name_of_methodNamed Bd.named Bd.method).1
  have X0 : Stand p l e ({ frames := 0, cells := 0, slots := 0, locals := 0 } : Room) s m #[(.long q0), (.int p1), (.long q2), (.int p3)] below meth c s₁ [] 0 0 := Stand.of_body Bd
  have e0 : s₁.heap = h0 := by rw [← hh, Bd.state]; rfl
  have N0 := Fr.nil n0
  have pre0 : ∀ t, Steps p.tables e below (s₁.setTop (mkF m 0 #[.val (.long q0), .second, .val (.int p1), .val (.long q2), .second, .val (.int p3)] [])) t → Steps p.tables e below (s₁.setTop (entryFrame m #[(.long q0), (.int p1), (.long q2), (.int p3)] 6)) t := fun t k => castTop (ef_12 m q0 p1 q2 p3) k
  have pre1 : ∀ t, Steps p.tables e below (s₁.setTop (mkF m 3 #[.val (.long q0), .second, .val (.int p1), .val (.long q2), .second, .val (.int p3)] [(.int (lcmpW q2 q0))])) t → Steps p.tables e below (s₁.setTop (entryFrame m #[(.long q0), (.int p1), (.long q2), (.int p3)] 6)) t := fun t k => pre0 t (by
    show Steps p.tables e below (s₁.setTop (mkF m 0 #[.val (.long q0), .second, .val (.int p1), .val (.long q2), .second, .val (.int p3)] [])) _
    refine XS.lloadN X0.here hx rfl (hb hby d12_0) rfl ?_
    show Steps p.tables e below (s₁.setTop (mkF m 1 #[.val (.long q0), .second, .val (.int p1), .val (.long q2), .second, .val (.int p3)] [(.long q2)])) _
    refine XS.lloadN X0.here hx rfl (hb hby d12_1) rfl ?_
    show Steps p.tables e below (s₁.setTop (mkF m 2 #[.val (.long q0), .second, .val (.int p1), .val (.long q2), .second, .val (.int p3)] [(.long q0), (.long q2)])) _
    refine XS.lcmp X0.here hx rfl (hb hby d12_2) rfl ?_
    show Steps p.tables e below (s₁.setTop (mkF m 3 #[.val (.long q0), .second, .val (.int p1), .val (.long q2), .second, .val (.int p3)] [(.int (lcmpW q2 q0))])) _
    exact k)
  have pre5 : ∀ t, Steps p.tables e below (s₁.setTop (mkF m 23 #[.val (.long q0), .second, .val (.int p1), .val (.long q2), .second, .val (.int p3)] [(.int (f12_23 q0 p1 q2 p3))])) t → Steps p.tables e below (s₁.setTop (entryFrame m #[(.long q0), (.int p1), (.long q2), (.int p3)] 6)) t := fun t k => pre1 t (by
    by_cases hf2 : q2 < q0
    · refine XS.ifYes X0.here hx rfl (pc0 := 3) (pc' := 22) rfl (hb hby d12_3) rfl (own_ltL hf2).1 (by decide) (by decide) ?_
      show Steps p.tables e below (s₁.setTop (mkF m 22 #[.val (.long q0), .second, .val (.int p1), .val (.long q2), .second, .val (.int p3)] [])) _
      refine XS.iconst X0.here hx rfl (hb hby d12_22) ?_
      show Steps p.tables e below (s₁.setTop (mkF m 23 #[.val (.long q0), .second, .val (.int p1), .val (.long q2), .second, .val (.int p3)] [(.int (0 : Int32))])) _
      rw [show (f12_23 q0 p1 q2 p3) = ((0 : Int32) : Int32) from by simp only [f12_23, if_pos hf2]] at k
      exact k
    · refine XS.ifNo X0.here hx rfl (hb hby d12_3) rfl (own_fltL hf2).1 ?_
      show Steps p.tables e below (s₁.setTop (mkF m 6 #[.val (.long q0), .second, .val (.int p1), .val (.long q2), .second, .val (.int p3)] [])) _
      refine XS.lloadN X0.here hx rfl (hb hby d12_6) rfl ?_
      show Steps p.tables e below (s₁.setTop (mkF m 7 #[.val (.long q0), .second, .val (.int p1), .val (.long q2), .second, .val (.int p3)] [(.long q2)])) _
      refine XS.lloadN X0.here hx rfl (hb hby d12_7) rfl ?_
      show Steps p.tables e below (s₁.setTop (mkF m 8 #[.val (.long q0), .second, .val (.int p1), .val (.long q2), .second, .val (.int p3)] [(.long q0), (.long q2)])) _
      refine XS.lcmp X0.here hx rfl (hb hby d12_8) rfl ?_
      show Steps p.tables e below (s₁.setTop (mkF m 9 #[.val (.long q0), .second, .val (.int p1), .val (.long q2), .second, .val (.int p3)] [(.int (lcmpW q2 q0))])) _
      by_cases hf3 : q2 = q0
      · refine XS.ifNo X0.here hx rfl (hb hby d12_9) rfl (own_eqL hf3).2 ?_
        show Steps p.tables e below (s₁.setTop (mkF m 12 #[.val (.long q0), .second, .val (.int p1), .val (.long q2), .second, .val (.int p3)] [])) _
        refine XS.iload X0.here hx rfl (hb hby d12_12) rfl ?_
        show Steps p.tables e below (s₁.setTop (mkF m 14 #[.val (.long q0), .second, .val (.int p1), .val (.long q2), .second, .val (.int p3)] [(.int p3)])) _
        refine XS.iloadN X0.here hx rfl (hb hby d12_14) rfl ?_
        show Steps p.tables e below (s₁.setTop (mkF m 15 #[.val (.long q0), .second, .val (.int p1), .val (.long q2), .second, .val (.int p3)] [(.int p1), (.int p3)])) _
        by_cases hf4 : p1 < p3
        · refine XS.icmpYes X0.here hx rfl (pc0 := 15) (pc' := 22) rfl (hb hby d12_15) rfl (tlt hf4).2.2.1 (by decide) (by decide) ?_
          show Steps p.tables e below (s₁.setTop (mkF m 22 #[.val (.long q0), .second, .val (.int p1), .val (.long q2), .second, .val (.int p3)] [])) _
          refine XS.iconst X0.here hx rfl (hb hby d12_22) ?_
          show Steps p.tables e below (s₁.setTop (mkF m 23 #[.val (.long q0), .second, .val (.int p1), .val (.long q2), .second, .val (.int p3)] [(.int (0 : Int32))])) _
          rw [show (f12_23 q0 p1 q2 p3) = ((0 : Int32) : Int32) from by simp only [f12_23, if_neg hf2, if_pos hf3, if_pos hf4]] at k
          exact k
        · refine XS.icmpNo X0.here hx rfl (hb hby d12_15) rfl (flt hf4).2.2.1 ?_
          show Steps p.tables e below (s₁.setTop (mkF m 18 #[.val (.long q0), .second, .val (.int p1), .val (.long q2), .second, .val (.int p3)] [])) _
          refine XS.iconst X0.here hx rfl (hb hby d12_18) ?_
          show Steps p.tables e below (s₁.setTop (mkF m 19 #[.val (.long q0), .second, .val (.int p1), .val (.long q2), .second, .val (.int p3)] [(.int (1 : Int32))])) _
          refine XS.goto X0.here hx rfl (pc0 := 19) (pc' := 23) rfl (hb hby d12_19) (by decide) (by decide) ?_
          show Steps p.tables e below (s₁.setTop (mkF m 23 #[.val (.long q0), .second, .val (.int p1), .val (.long q2), .second, .val (.int p3)] [(.int (1 : Int32))])) _
          rw [show (f12_23 q0 p1 q2 p3) = ((1 : Int32) : Int32) from by simp only [f12_23, if_neg hf2, if_pos hf3, if_neg hf4]] at k
          exact k
      · refine XS.ifYes X0.here hx rfl (pc0 := 9) (pc' := 18) rfl (hb hby d12_9) rfl (own_neL hf3).2 (by decide) (by decide) ?_
        show Steps p.tables e below (s₁.setTop (mkF m 18 #[.val (.long q0), .second, .val (.int p1), .val (.long q2), .second, .val (.int p3)] [])) _
        refine XS.iconst X0.here hx rfl (hb hby d12_18) ?_
        show Steps p.tables e below (s₁.setTop (mkF m 19 #[.val (.long q0), .second, .val (.int p1), .val (.long q2), .second, .val (.int p3)] [(.int (1 : Int32))])) _
        refine XS.goto X0.here hx rfl (pc0 := 19) (pc' := 23) rfl (hb hby d12_19) (by decide) (by decide) ?_
        show Steps p.tables e below (s₁.setTop (mkF m 23 #[.val (.long q0), .second, .val (.int p1), .val (.long q2), .second, .val (.int p3)] [(.int (1 : Int32))])) _
        rw [show (f12_23 q0 p1 q2 p3) = ((1 : Int32) : Int32) from by simp only [f12_23, if_neg hf2, if_neg hf3]] at k
        exact k)
  obtain ⟨fs, hr, hrun, hended, hW, hsame⟩ := X0.leave (v := some (.int ((f12_23 q0 p1 q2 p3) &&& 1))) (fun h => by rw [Bd.returns] at h; cases h)
  refine ⟨_, _, pre5 _ ?_, hrun, hended, _, _, rfl, ?_, ⟨_, rfl⟩, hW, hsame.mono (by decide) (by decide)⟩
  · exact retN X0 hx (t := .boolean) Bd.returns (by simp) (hb hby d12_23) hr
  · show Q12 Z q0 p1 q2 p3 h0 n0 _ s₁.heap _
    rw [e0]
    exact ⟨rfl, N0, rfl⟩

theorem own_inr : ∀ l : Fin 5, ¬ (f11_ret ((100 + l.1).toInt32) = (0 : Int32)) := by decide +kernel
theorem own_nb {r1 r2 : Int64} {c1 c2 s1 s2 : Int32} (h : ¬ own_bf (r2, c2, s2) (r1, c1, s1)) : ¬ (f12_ret r1 c1 r2 c2 = (0 : Int32)) := by
  unfold own_bf at h
  have h1 : ¬ r2 < r1 := fun q => h (Or.inl q)
  simp only [f12_ret, f12_23]
  rw [if_neg h1]
  by_cases h2 : r2 = r1
  · have h3 : ¬ c1 < c2 := fun q => h (Or.inr ⟨h2, q⟩)
    rw [if_pos h2, if_neg h3]; decide
  · rw [if_neg h2]; decide

theorem pd_4 : parseMethodDescriptor "(JJJI)J" = some ⟨[.long, .long, .long, .int], some .long⟩ := by decide +kernel
theorem pd_5 : parseMethodDescriptor "(III)I" = some ⟨[.int, .int, .int], some .int⟩ := by decide +kernel
theorem pd_6 : parseMethodDescriptor "()V" = some ⟨[], none⟩ := by decide +kernel
theorem pd_7 : parseMethodDescriptor "(IJI)V" = some ⟨[.int, .long, .int], none⟩ := by decide +kernel
theorem pd_8 : parseMethodDescriptor "()I" = some ⟨[], some .int⟩ := by decide +kernel
theorem pd_9 : parseMethodDescriptor "()Z" = some ⟨[], some .boolean⟩ := by decide +kernel
theorem pd_10 : parseMethodDescriptor "(I)Z" = some ⟨[.int], some .boolean⟩ := by decide +kernel
theorem ef_0 (m : MethodId) (q0 : Int64) (q1 : Int64) (q2 : Int64) (p3 : Int32) (p4 : Int32) (p5 : Int32) : entryFrame m #[(.long q0), (.long q1), (.long q2), (.int p3), (.int p4), (.int p5)] maxLocals = mkF m 0 #[.val (.long q0), .second, .val (.long q1), .second, .val (.long q2), .second, .val (.int p3), .val (.int p4), .val (.int p5), .unset, .unset, .unset, .unset, .unset, .unset, .unset, .unset, .unset, .unset, .unset, .unset, .unset, .unset, .unset] [] := by first | (simp [entryFrame, mkF, argsToLocals, Value.category, maxLocals]; done) | rfl

def Q0 (Z : State) (q0 : Int64) (q1 : Int64) (q2 : Int64) (p3 : Int32) (p4 : Int32) (p5 : Int32) (h0 : Heap) (n0 : Nat) (v : Option Value) (h : Heap) (L : List Loc) : Prop := v = some (.int 1) ∧ Fr n0 L
set_option maxRecDepth 65536 in
set_option maxHeartbeats 40000000 in
theorem rm0 (l : Launch) (Z : State) (a0 : Array Value) (hw : ∀ d ∈ tables_1, d.before a0 Z = true) (ws : List Jvm.Cond) (q0 : Int64) (q1 : Int64) (q2 : Int64) (p3 : Int32) (p4 : Int32) (p5 : Int32) (h0 : Heap) (n0 : Nat) (Z0 : n0 ≤ h0.size)  :
    MetFree l x (head1 (Jvm.Cond.code x code maxLocals ret :: ws) room_1) (fun a U => a = #[(.long q0), (.long q1), (.long q2), (.int p3), (.int p4), (.int p5)] ∧ Z.Warmed39 U.vm ∧ U.heap = h0) (fun _ _ _ _ _ => True) (fun _ U o U' => ∃ v L, o = .returned v ∧ Q0 Z q0 q1 q2 p3 p4 p5 h0 n0 v U'.heap L ∧ FrameEnd U o U' L room_1.cells room_1.slots) := by
  refine MetFree.of_bodySF (plainFor_of_name pn_1) hisR ?_
  intro p e s m args below meth c s₁ Bd hml0 hP hK
  obtain ⟨rfl, hZ, hh⟩ := hP
  have hx := Bd.exec
  have hby := Bd.bytes
  have hml : c.maxLocals = 24 := hml0
  have hown : s.vm.findClass "com/example/brisk_maze/briskmaze/search/RankedFrontierRemoveFirstPinLaw" = some m.cls := findClass_of_methodNamed Bd.named
  have hnm := (name_of_methodNamed Bd.named Bd.method).1
  have X0 : Stand p l e room_1 s m #[(.long q0), (.long q1), (.long q2), (.int p3), (.int p4), (.int p5)] below meth c s₁ [] 0 0 := Stand.of_body Bd
  have e0 : s₁.heap = h0 := by rw [← hh, Bd.state]; rfl
  have N0 := Fr.nil n0
  have pre0 : ∀ t, Steps p.tables e below (s₁.setTop (mkF m 0 #[.val (.long q0), .second, .val (.long q1), .second, .val (.long q2), .second, .val (.int p3), .val (.int p4), .val (.int p5), .unset, .unset, .unset, .unset, .unset, .unset, .unset, .unset, .unset, .unset, .unset, .unset, .unset, .unset, .unset] [])) t → Steps p.tables e below (s₁.setTop (entryFrame m #[(.long q0), (.long q1), (.long q2), (.int p3), (.int p4), (.int p5)] maxLocals)) t := fun t k => castTop (ef_0 m q0 q1 q2 p3 p4 p5) k
  obtain ⟨T1, h1, k1, X1, e1, Ex1, Ne1, st1⟩ := newP X0 hx hZ (hw _ (List.mem_of_getElem? (i := 0) rfl)) e0 (g := (mkF m 1 #[.val (.long q0), .second, .val (.long q1), .second, .val (.long q2), .second, .val (.int p3), .val (.int p4), .val (.int p5), .unset, .unset, .unset, .unset, .unset, .unset, .unset, .unset, .unset, .unset, .unset, .unset, .unset, .unset, .unset] [(.int (5 : Int32))])) rfl (hb hby at_1) rfl (by decide) (cap := 5) (by decide) (by decide) (by decide) (by decide)
  obtain ⟨b1, g1⟩ : ∃ z, z = h0.size := ⟨_, rfl⟩
  rw [← g1] at Ne1 st1
  have g_b1 : n0 ≤ b1 := Nat.le_trans (Nat.le_trans Z0 (Nat.le_refl _)) (Nat.le_of_eq g1.symm)
  have sz_b1 : h0.size ≤ b1 := Nat.le_trans (Nat.le_refl _) (Nat.le_of_eq g1.symm)
  have SZ3 : h0.size ≤ h1.size := Nat.le_trans (Nat.le_refl _) Ex1.1
  have ZZ3 : n0 ≤ h1.size := Nat.le_trans Z0 SZ3
  have K4 : Keep h0 h1 [] := ((Keep.refl h0 [])).ext Ex1
  have A_b1_1 : own_A Z h1 b1 .long 5 (fun kk => (.long (0 : Int64))) := own_A.new Ne1
  obtain ⟨T5, h5, k5, X5, e5, Ex5, Ne5, st5⟩ := newP X1 hx hZ (hw _ (List.mem_of_getElem? (i := 1) rfl)) e1 (g := (mkF m 6 #[.val (.long q0), .second, .val (.long q1), .second, .val (.long q2), .second, .val (.int p3), .val (.int p4), .val (.int p5), .val (.ref b1), .unset, .unset, .unset, .unset, .unset, .unset, .unset, .unset, .unset, .unset, .unset, .unset, .unset, .unset] [(.int (5 : Int32))])) rfl (hb hby at_6) rfl (by decide) (cap := 5) (by decide) (by decide) (by decide) (by decide)
  obtain ⟨b5, g5⟩ : ∃ z, z = h1.size := ⟨_, rfl⟩
  rw [← g5] at Ne5 st5
  have ne_b1_b5 : b1 ≠ b5 := by rw [g5]; exact Nat.ne_of_lt (A_b1_1).lt
  have g_b5 : n0 ≤ b5 := Nat.le_trans (Nat.le_trans Z0 SZ3) (Nat.le_of_eq g5.symm)
  have sz_b5 : h0.size ≤ b5 := Nat.le_trans SZ3 (Nat.le_of_eq g5.symm)
  have A_b1_6 : own_A Z h5 b1 .long 5 (fun kk => (.long (0 : Int64))) := (A_b1_1).ext Ex5
  have SZ7 : h0.size ≤ h5.size := Nat.le_trans SZ3 Ex5.1
  have ZZ7 : n0 ≤ h5.size := Nat.le_trans Z0 SZ7
  have K8 : Keep h0 h5 [] := (K4).ext Ex5
  have A_b5_5 : own_A Z h5 b5 .int 5 (fun kk => (.int (0 : Int32))) := own_A.new Ne5
  obtain ⟨_, _, ⟨T9, L9, k9, n9⟩, -, X9, ⟨Lc9, hQ9, l9, y9, z9⟩, st9⟩ := Jvm.LawKit.callS X5 hx (y := (⟨"com/example/brisk_maze/briskmaze/search/RankedFrontierRemoveFirstPinLaw", "pickRank", "(JJJI)J"⟩ : MethodName)) hown (mvT hZ (hw _ (List.mem_of_getElem? (i := 2) rfl))) (mvT hZ (hw _ (List.mem_of_getElem? (i := 3) rfl))) (mvT hZ (hw _ (List.mem_of_getElem? (i := 4) rfl))) (mvT hZ (hw _ (List.mem_of_getElem? (i := 5) rfl))) (by decide) (backOf (W := 2) (rm1 l Z a0 hw [] q0 q1 q2 p5 h5 n0 ZZ7) hZ (hw _ (List.mem_of_getElem? (i := 5) rfl)) (hw _ (List.mem_of_getElem? (i := 4) rfl)) (by decide) (by decide)) (g := (mkF m 19 #[.val (.long q0), .second, .val (.long q1), .second, .val (.long q2), .second, .val (.int p3), .val (.int p4), .val (.int p5), .val (.ref b1), .val (.ref b5), .unset, .unset, .unset, .unset, .unset, .unset, .unset, .unset, .unset, .unset, .unset, .unset, .unset] [(.int p5), (.long q2), (.long q1), (.long q0), (.int (0 : Int32)), (.ref b1)])) rfl (by rw [hml]; rfl) (argsL := [(.long q0), (.long q1), (.long q2), (.int p5)]) (rest := [(.int (0 : Int32)), (.ref b1)]) (lenOf pd_4 rfl) rfl (by show 2 * 0 + _ ≤ _; exact Nat.le_of_eq rfl) (hb hby at_19) (fun _ _ => ⟨rfl, e5, (by decide : 2 + 0 ≤ _), (by decide : 10 + 0 ≤ _)⟩)
  dsimp only [Pt.U, Pt.locs, Pt.cells, Pt.slots] at X9 l9 y9 z9 st9 hQ9
  subst y9 z9
  obtain ⟨rfl, N9q, hh9⟩ := hQ9
  have N9 := Fr.app N0 N9q
  rw [← l9] at N9
  have qa10 := A_b1_6
  obtain ⟨c10, Ar10, Sz10, H10⟩ := qa10
  have hi11 : 0 ≤ ((0 : Int32) : Int32).toInt ∧ ((0 : Int32) : Int32).toInt < (5 : Nat) := (by decide)
  obtain ⟨T11, h11, X11, e11, W11, st11⟩ := stJ X9 hx hZ hh9 Ar10 (j := (0 : Int32)) (own_in Sz10 hi11) (g := (mkF m 22 #[.val (.long q0), .second, .val (.long q1), .second, .val (.long q2), .second, .val (.int p3), .val (.int p4), .val (.int p5), .val (.ref b1), .val (.ref b5), .unset, .unset, .unset, .unset, .unset, .unset, .unset, .unset, .unset, .unset, .unset, .unset, .unset] [(.long (f1_ret q0 q1 q2 p5)), (.int (0 : Int32)), (.ref b1)])) rfl rfl (hb hby at_22)
  have N11 := Fr.snoc X11 N9 g_b1
  have A_b1_w11 : own_A Z h11 b1 .long 5 (fun kk => (.long (if kk = ((0 : Int32) : Int32).toNatClampNeg then (f1_ret q0 q1 q2 p5) else (0 : Int64)))) := own_A.setJ A_b1_6 W11
  have A_b5_12 : own_A Z h11 b5 .int 5 (fun kk => (.int (0 : Int32))) := (A_b5_5).other W11 (Ne.symm ne_b1_b5)
  have SZ13 : h0.size ≤ h11.size := by rw [W11.size]; exact SZ7
  have ZZ13 : n0 ≤ h11.size := Nat.le_trans Z0 SZ13
  have K14 : Keep h0 h11 [] := (K8).wr W11 (Or.inr sz_b1)
  obtain ⟨_, _, ⟨T15, L15, k15, n15⟩, -, X15, ⟨Lc15, hQ15, l15, y15, z15⟩, st15⟩ := Jvm.LawKit.callS X11 hx (y := (⟨"com/example/brisk_maze/briskmaze/search/RankedFrontierRemoveFirstPinLaw", "pickCost", "(III)I"⟩ : MethodName)) hown (mvT hZ (hw _ (List.mem_of_getElem? (i := 6) rfl))) (mvT hZ (hw _ (List.mem_of_getElem? (i := 7) rfl))) (mvT hZ (hw _ (List.mem_of_getElem? (i := 4) rfl))) (mvT hZ (hw _ (List.mem_of_getElem? (i := 8) rfl))) (by decide) (backOf (W := 2) (rm2 l Z a0 hw [] p3 p4 ((p5.toUInt32 >>> ((2 : Int32) &&& 31).toUInt32).toInt32) h11 n0 ZZ13) hZ (hw _ (List.mem_of_getElem? (i := 8) rfl)) (hw _ (List.mem_of_getElem? (i := 4) rfl)) (by decide) (by decide)) (g := (mkF m 34 #[.val (.long q0), .second, .val (.long q1), .second, .val (.long q2), .second, .val (.int p3), .val (.int p4), .val (.int p5), .val (.ref b1), .val (.ref b5), .unset, .unset, .unset, .unset, .unset, .unset, .unset, .unset, .unset, .unset, .unset, .unset, .unset] [(.int ((p5.toUInt32 >>> ((2 : Int32) &&& 31).toUInt32).toInt32)), (.int p4), (.int p3), (.int (0 : Int32)), (.ref b5)])) rfl (by rw [hml]; rfl) (argsL := [(.int p3), (.int p4), (.int ((p5.toUInt32 >>> ((2 : Int32) &&& 31).toUInt32).toInt32))]) (rest := [(.int (0 : Int32)), (.ref b5)]) (lenOf pd_5 rfl) rfl (by show 2 * 0 + _ ≤ _; exact Nat.le_of_eq rfl) (hb hby at_34) (fun _ _ => ⟨rfl, e11, (by decide : 2 + 0 ≤ _), (by decide : 10 + 0 ≤ _)⟩)
  dsimp only [Pt.U, Pt.locs, Pt.cells, Pt.slots] at X15 l15 y15 z15 st15 hQ15
  subst y15 z15
  obtain ⟨rfl, N15q, hh15⟩ := hQ15
  have N15 := Fr.app N11 N15q
  rw [← l15] at N15
  have qa16 := A_b5_12
  obtain ⟨c16, Ar16, Sz16, H16⟩ := qa16
  have hi17 : 0 ≤ ((0 : Int32) : Int32).toInt ∧ ((0 : Int32) : Int32).toInt < (5 : Nat) := (by decide)
  obtain ⟨T17, h17, X17, e17, W17, st17⟩ := stI X15 hx hZ hh15 Ar16 (j := (0 : Int32)) (own_in Sz16 hi17) (g := (mkF m 37 #[.val (.long q0), .second, .val (.long q1), .second, .val (.long q2), .second, .val (.int p3), .val (.int p4), .val (.int p5), .val (.ref b1), .val (.ref b5), .unset, .unset, .unset, .unset, .unset, .unset, .unset, .unset, .unset, .unset, .unset, .unset, .unset] [(.int (f2_ret p3 p4 ((p5.toUInt32 >>> ((2 : Int32) &&& 31).toUInt32).toInt32))), (.int (0 : Int32)), (.ref b5)])) rfl rfl (hb hby at_37)
  have N17 := Fr.snoc X17 N15 g_b5
  have A_b5_w17 : own_A Z h17 b5 .int 5 (fun kk => (.int (if kk = ((0 : Int32) : Int32).toNatClampNeg then (f2_ret p3 p4 ((p5.toUInt32 >>> ((2 : Int32) &&& 31).toUInt32).toInt32)) else (0 : Int32)))) := own_A.setI A_b5_12 W17
  have A_b1_18 : own_A Z h17 b1 .long 5 (fun kk => (.long (if kk = ((0 : Int32) : Int32).toNatClampNeg then (f1_ret q0 q1 q2 p5) else (0 : Int64)))) := (A_b1_w11).other W17 ne_b1_b5
  have SZ19 : h0.size ≤ h17.size := by rw [W17.size]; exact SZ13
  have ZZ19 : n0 ≤ h17.size := Nat.le_trans Z0 SZ19
  have K20 : Keep h0 h17 [] := (K14).wr W17 (Or.inr sz_b5)
  obtain ⟨_, _, ⟨T21, L21, k21, n21⟩, -, X21, ⟨Lc21, hQ21, l21, y21, z21⟩, st21⟩ := Jvm.LawKit.callS X17 hx (y := (⟨"com/example/brisk_maze/briskmaze/search/RankedFrontierRemoveFirstPinLaw", "pickRank", "(JJJI)J"⟩ : MethodName)) hown (mvT hZ (hw _ (List.mem_of_getElem? (i := 2) rfl))) (mvT hZ (hw _ (List.mem_of_getElem? (i := 3) rfl))) (mvT hZ (hw _ (List.mem_of_getElem? (i := 4) rfl))) (mvT hZ (hw _ (List.mem_of_getElem? (i := 5) rfl))) (by decide) (backOf (W := 2) (rm1 l Z a0 hw [] q0 q1 q2 ((p5.toUInt32 >>> ((3 : Int32) &&& 31).toUInt32).toInt32) h17 n0 ZZ19) hZ (hw _ (List.mem_of_getElem? (i := 5) rfl)) (hw _ (List.mem_of_getElem? (i := 4) rfl)) (by decide) (by decide)) (g := (mkF m 49 #[.val (.long q0), .second, .val (.long q1), .second, .val (.long q2), .second, .val (.int p3), .val (.int p4), .val (.int p5), .val (.ref b1), .val (.ref b5), .unset, .unset, .unset, .unset, .unset, .unset, .unset, .unset, .unset, .unset, .unset, .unset, .unset] [(.int ((p5.toUInt32 >>> ((3 : Int32) &&& 31).toUInt32).toInt32)), (.long q2), (.long q1), (.long q0), (.int (1 : Int32)), (.ref b1)])) rfl (by rw [hml]; rfl) (argsL := [(.long q0), (.long q1), (.long q2), (.int ((p5.toUInt32 >>> ((3 : Int32) &&& 31).toUInt32).toInt32))]) (rest := [(.int (1 : Int32)), (.ref b1)]) (lenOf pd_4 rfl) rfl (by show 2 * 0 + _ ≤ _; exact Nat.le_of_eq rfl) (hb hby at_49) (fun _ _ => ⟨rfl, e17, (by decide : 2 + 0 ≤ _), (by decide : 10 + 0 ≤ _)⟩)
  dsimp only [Pt.U, Pt.locs, Pt.cells, Pt.slots] at X21 l21 y21 z21 st21 hQ21
  subst y21 z21
  obtain ⟨rfl, N21q, hh21⟩ := hQ21
  have N21 := Fr.app N17 N21q
  rw [← l21] at N21
  have qa22 := A_b1_18
  obtain ⟨c22, Ar22, Sz22, H22⟩ := qa22
  have hi23 : 0 ≤ ((1 : Int32) : Int32).toInt ∧ ((1 : Int32) : Int32).toInt < (5 : Nat) := (by decide)
  obtain ⟨T23, h23, X23, e23, W23, st23⟩ := stJ X21 hx hZ hh21 Ar22 (j := (1 : Int32)) (own_in Sz22 hi23) (g := (mkF m 52 #[.val (.long q0), .second, .val (.long q1), .second, .val (.long q2), .second, .val (.int p3), .val (.int p4), .val (.int p5), .val (.ref b1), .val (.ref b5), .unset, .unset, .unset, .unset, .unset, .unset, .unset, .unset, .unset, .unset, .unset, .unset, .unset] [(.long (f1_ret q0 q1 q2 ((p5.toUInt32 >>> ((3 : Int32) &&& 31).toUInt32).toInt32))), (.int (1 : Int32)), (.ref b1)])) rfl rfl (hb hby at_52)
  have N23 := Fr.snoc X23 N21 g_b1
  have A_b1_w23 : own_A Z h23 b1 .long 5 (fun kk => (.long (if kk = ((1 : Int32) : Int32).toNatClampNeg then (f1_ret q0 q1 q2 ((p5.toUInt32 >>> ((3 : Int32) &&& 31).toUInt32).toInt32)) else (if kk = ((0 : Int32) : Int32).toNatClampNeg then (f1_ret q0 q1 q2 p5) else (0 : Int64))))) := own_A.setJ A_b1_18 W23
  have A_b5_24 : own_A Z h23 b5 .int 5 (fun kk => (.int (if kk = ((0 : Int32) : Int32).toNatClampNeg then (f2_ret p3 p4 ((p5.toUInt32 >>> ((2 : Int32) &&& 31).toUInt32).toInt32)) else (0 : Int32)))) := (A_b5_w17).other W23 (Ne.symm ne_b1_b5)
  have SZ25 : h0.size ≤ h23.size := by rw [W23.size]; exact SZ19
  have ZZ25 : n0 ≤ h23.size := Nat.le_trans Z0 SZ25
  have K26 : Keep h0 h23 [] := (K20).wr W23 (Or.inr sz_b1)
  obtain ⟨_, _, ⟨T27, L27, k27, n27⟩, -, X27, ⟨Lc27, hQ27, l27, y27, z27⟩, st27⟩ := Jvm.LawKit.callS X23 hx (y := (⟨"com/example/brisk_maze/briskmaze/search/RankedFrontierRemoveFirstPinLaw", "pickCost", "(III)I"⟩ : MethodName)) hown (mvT hZ (hw _ (List.mem_of_getElem? (i := 6) rfl))) (mvT hZ (hw _ (List.mem_of_getElem? (i := 7) rfl))) (mvT hZ (hw _ (List.mem_of_getElem? (i := 4) rfl))) (mvT hZ (hw _ (List.mem_of_getElem? (i := 8) rfl))) (by decide) (backOf (W := 2) (rm2 l Z a0 hw [] p3 p4 ((p5.toUInt32 >>> ((5 : Int32) &&& 31).toUInt32).toInt32) h23 n0 ZZ25) hZ (hw _ (List.mem_of_getElem? (i := 8) rfl)) (hw _ (List.mem_of_getElem? (i := 4) rfl)) (by decide) (by decide)) (g := (mkF m 64 #[.val (.long q0), .second, .val (.long q1), .second, .val (.long q2), .second, .val (.int p3), .val (.int p4), .val (.int p5), .val (.ref b1), .val (.ref b5), .unset, .unset, .unset, .unset, .unset, .unset, .unset, .unset, .unset, .unset, .unset, .unset, .unset] [(.int ((p5.toUInt32 >>> ((5 : Int32) &&& 31).toUInt32).toInt32)), (.int p4), (.int p3), (.int (1 : Int32)), (.ref b5)])) rfl (by rw [hml]; rfl) (argsL := [(.int p3), (.int p4), (.int ((p5.toUInt32 >>> ((5 : Int32) &&& 31).toUInt32).toInt32))]) (rest := [(.int (1 : Int32)), (.ref b5)]) (lenOf pd_5 rfl) rfl (by show 2 * 0 + _ ≤ _; exact Nat.le_of_eq rfl) (hb hby at_64) (fun _ _ => ⟨rfl, e23, (by decide : 2 + 0 ≤ _), (by decide : 10 + 0 ≤ _)⟩)
  dsimp only [Pt.U, Pt.locs, Pt.cells, Pt.slots] at X27 l27 y27 z27 st27 hQ27
  subst y27 z27
  obtain ⟨rfl, N27q, hh27⟩ := hQ27
  have N27 := Fr.app N23 N27q
  rw [← l27] at N27
  have qa28 := A_b5_24
  obtain ⟨c28, Ar28, Sz28, H28⟩ := qa28
  have hi29 : 0 ≤ ((1 : Int32) : Int32).toInt ∧ ((1 : Int32) : Int32).toInt < (5 : Nat) := (by decide)
  obtain ⟨T29, h29, X29, e29, W29, st29⟩ := stI X27 hx hZ hh27 Ar28 (j := (1 : Int32)) (own_in Sz28 hi29) (g := (mkF m 67 #[.val (.long q0), .second, .val (.long q1), .second, .val (.long q2), .second, .val (.int p3), .val (.int p4), .val (.int p5), .val (.ref b1), .val (.ref b5), .unset, .unset, .unset, .unset, .unset, .unset, .unset, .unset, .unset, .unset, .unset, .unset, .unset] [(.int (f2_ret p3 p4 ((p5.toUInt32 >>> ((5 : Int32) &&& 31).toUInt32).toInt32))), (.int (1 : Int32)), (.ref b5)])) rfl rfl (hb hby at_67)
  have N29 := Fr.snoc X29 N27 g_b5
  have A_b5_w29 : own_A Z h29 b5 .int 5 (fun kk => (.int (if kk = ((1 : Int32) : Int32).toNatClampNeg then (f2_ret p3 p4 ((p5.toUInt32 >>> ((5 : Int32) &&& 31).toUInt32).toInt32)) else (if kk = ((0 : Int32) : Int32).toNatClampNeg then (f2_ret p3 p4 ((p5.toUInt32 >>> ((2 : Int32) &&& 31).toUInt32).toInt32)) else (0 : Int32))))) := own_A.setI A_b5_24 W29
  have A_b1_30 : own_A Z h29 b1 .long 5 (fun kk => (.long (if kk = ((1 : Int32) : Int32).toNatClampNeg then (f1_ret q0 q1 q2 ((p5.toUInt32 >>> ((3 : Int32) &&& 31).toUInt32).toInt32)) else (if kk = ((0 : Int32) : Int32).toNatClampNeg then (f1_ret q0 q1 q2 p5) else (0 : Int64))))) := (A_b1_w23).other W29 ne_b1_b5
  have SZ31 : h0.size ≤ h29.size := by rw [W29.size]; exact SZ25
  have ZZ31 : n0 ≤ h29.size := Nat.le_trans Z0 SZ31
  have K32 : Keep h0 h29 [] := (K26).wr W29 (Or.inr sz_b5)
  obtain ⟨_, _, ⟨T33, L33, k33, n33⟩, -, X33, ⟨Lc33, hQ33, l33, y33, z33⟩, st33⟩ := Jvm.LawKit.callS X29 hx (y := (⟨"com/example/brisk_maze/briskmaze/search/RankedFrontierRemoveFirstPinLaw", "pickRank", "(JJJI)J"⟩ : MethodName)) hown (mvT hZ (hw _ (List.mem_of_getElem? (i := 2) rfl))) (mvT hZ (hw _ (List.mem_of_getElem? (i := 3) rfl))) (mvT hZ (hw _ (List.mem_of_getElem? (i := 4) rfl))) (mvT hZ (hw _ (List.mem_of_getElem? (i := 5) rfl))) (by decide) (backOf (W := 2) (rm1 l Z a0 hw [] q0 q1 q2 ((p5.toUInt32 >>> ((6 : Int32) &&& 31).toUInt32).toInt32) h29 n0 ZZ31) hZ (hw _ (List.mem_of_getElem? (i := 5) rfl)) (hw _ (List.mem_of_getElem? (i := 4) rfl)) (by decide) (by decide)) (g := (mkF m 80 #[.val (.long q0), .second, .val (.long q1), .second, .val (.long q2), .second, .val (.int p3), .val (.int p4), .val (.int p5), .val (.ref b1), .val (.ref b5), .unset, .unset, .unset, .unset, .unset, .unset, .unset, .unset, .unset, .unset, .unset, .unset, .unset] [(.int ((p5.toUInt32 >>> ((6 : Int32) &&& 31).toUInt32).toInt32)), (.long q2), (.long q1), (.long q0), (.int (2 : Int32)), (.ref b1)])) rfl (by rw [hml]; rfl) (argsL := [(.long q0), (.long q1), (.long q2), (.int ((p5.toUInt32 >>> ((6 : Int32) &&& 31).toUInt32).toInt32))]) (rest := [(.int (2 : Int32)), (.ref b1)]) (lenOf pd_4 rfl) rfl (by show 2 * 0 + _ ≤ _; exact Nat.le_of_eq rfl) (hb hby at_80) (fun _ _ => ⟨rfl, e29, (by decide : 2 + 0 ≤ _), (by decide : 10 + 0 ≤ _)⟩)
  dsimp only [Pt.U, Pt.locs, Pt.cells, Pt.slots] at X33 l33 y33 z33 st33 hQ33
  subst y33 z33
  obtain ⟨rfl, N33q, hh33⟩ := hQ33
  have N33 := Fr.app N29 N33q
  rw [← l33] at N33
  have qa34 := A_b1_30
  obtain ⟨c34, Ar34, Sz34, H34⟩ := qa34
  have hi35 : 0 ≤ ((2 : Int32) : Int32).toInt ∧ ((2 : Int32) : Int32).toInt < (5 : Nat) := (by decide)
  obtain ⟨T35, h35, X35, e35, W35, st35⟩ := stJ X33 hx hZ hh33 Ar34 (j := (2 : Int32)) (own_in Sz34 hi35) (g := (mkF m 83 #[.val (.long q0), .second, .val (.long q1), .second, .val (.long q2), .second, .val (.int p3), .val (.int p4), .val (.int p5), .val (.ref b1), .val (.ref b5), .unset, .unset, .unset, .unset, .unset, .unset, .unset, .unset, .unset, .unset, .unset, .unset, .unset] [(.long (f1_ret q0 q1 q2 ((p5.toUInt32 >>> ((6 : Int32) &&& 31).toUInt32).toInt32))), (.int (2 : Int32)), (.ref b1)])) rfl rfl (hb hby at_83)
  have N35 := Fr.snoc X35 N33 g_b1
  have A_b1_w35 : own_A Z h35 b1 .long 5 (fun kk => (.long (if kk = ((2 : Int32) : Int32).toNatClampNeg then (f1_ret q0 q1 q2 ((p5.toUInt32 >>> ((6 : Int32) &&& 31).toUInt32).toInt32)) else (if kk = ((1 : Int32) : Int32).toNatClampNeg then (f1_ret q0 q1 q2 ((p5.toUInt32 >>> ((3 : Int32) &&& 31).toUInt32).toInt32)) else (if kk = ((0 : Int32) : Int32).toNatClampNeg then (f1_ret q0 q1 q2 p5) else (0 : Int64)))))) := own_A.setJ A_b1_30 W35
  have A_b5_36 : own_A Z h35 b5 .int 5 (fun kk => (.int (if kk = ((1 : Int32) : Int32).toNatClampNeg then (f2_ret p3 p4 ((p5.toUInt32 >>> ((5 : Int32) &&& 31).toUInt32).toInt32)) else (if kk = ((0 : Int32) : Int32).toNatClampNeg then (f2_ret p3 p4 ((p5.toUInt32 >>> ((2 : Int32) &&& 31).toUInt32).toInt32)) else (0 : Int32))))) := (A_b5_w29).other W35 (Ne.symm ne_b1_b5)
  have SZ37 : h0.size ≤ h35.size := by rw [W35.size]; exact SZ31
  have ZZ37 : n0 ≤ h35.size := Nat.le_trans Z0 SZ37
  have K38 : Keep h0 h35 [] := (K32).wr W35 (Or.inr sz_b1)
  obtain ⟨_, _, ⟨T39, L39, k39, n39⟩, -, X39, ⟨Lc39, hQ39, l39, y39, z39⟩, st39⟩ := Jvm.LawKit.callS X35 hx (y := (⟨"com/example/brisk_maze/briskmaze/search/RankedFrontierRemoveFirstPinLaw", "pickCost", "(III)I"⟩ : MethodName)) hown (mvT hZ (hw _ (List.mem_of_getElem? (i := 6) rfl))) (mvT hZ (hw _ (List.mem_of_getElem? (i := 7) rfl))) (mvT hZ (hw _ (List.mem_of_getElem? (i := 4) rfl))) (mvT hZ (hw _ (List.mem_of_getElem? (i := 8) rfl))) (by decide) (backOf (W := 2) (rm2 l Z a0 hw [] p3 p4 ((p5.toUInt32 >>> ((8 : Int32) &&& 31).toUInt32).toInt32) h35 n0 ZZ37) hZ (hw _ (List.mem_of_getElem? (i := 8) rfl)) (hw _ (List.mem_of_getElem? (i := 4) rfl)) (by decide) (by decide)) (g := (mkF m 96 #[.val (.long q0), .second, .val (.long q1), .second, .val (.long q2), .second, .val (.int p3), .val (.int p4), .val (.int p5), .val (.ref b1), .val (.ref b5), .unset, .unset, .unset, .unset, .unset, .unset, .unset, .unset, .unset, .unset, .unset, .unset, .unset] [(.int ((p5.toUInt32 >>> ((8 : Int32) &&& 31).toUInt32).toInt32)), (.int p4), (.int p3), (.int (2 : Int32)), (.ref b5)])) rfl (by rw [hml]; rfl) (argsL := [(.int p3), (.int p4), (.int ((p5.toUInt32 >>> ((8 : Int32) &&& 31).toUInt32).toInt32))]) (rest := [(.int (2 : Int32)), (.ref b5)]) (lenOf pd_5 rfl) rfl (by show 2 * 0 + _ ≤ _; exact Nat.le_of_eq rfl) (hb hby at_96) (fun _ _ => ⟨rfl, e35, (by decide : 2 + 0 ≤ _), (by decide : 10 + 0 ≤ _)⟩)
  dsimp only [Pt.U, Pt.locs, Pt.cells, Pt.slots] at X39 l39 y39 z39 st39 hQ39
  subst y39 z39
  obtain ⟨rfl, N39q, hh39⟩ := hQ39
  have N39 := Fr.app N35 N39q
  rw [← l39] at N39
  have qa40 := A_b5_36
  obtain ⟨c40, Ar40, Sz40, H40⟩ := qa40
  have hi41 : 0 ≤ ((2 : Int32) : Int32).toInt ∧ ((2 : Int32) : Int32).toInt < (5 : Nat) := (by decide)
  obtain ⟨T41, h41, X41, e41, W41, st41⟩ := stI X39 hx hZ hh39 Ar40 (j := (2 : Int32)) (own_in Sz40 hi41) (g := (mkF m 99 #[.val (.long q0), .second, .val (.long q1), .second, .val (.long q2), .second, .val (.int p3), .val (.int p4), .val (.int p5), .val (.ref b1), .val (.ref b5), .unset, .unset, .unset, .unset, .unset, .unset, .unset, .unset, .unset, .unset, .unset, .unset, .unset] [(.int (f2_ret p3 p4 ((p5.toUInt32 >>> ((8 : Int32) &&& 31).toUInt32).toInt32))), (.int (2 : Int32)), (.ref b5)])) rfl rfl (hb hby at_99)
  have N41 := Fr.snoc X41 N39 g_b5
  have A_b5_w41 : own_A Z h41 b5 .int 5 (fun kk => (.int (if kk = ((2 : Int32) : Int32).toNatClampNeg then (f2_ret p3 p4 ((p5.toUInt32 >>> ((8 : Int32) &&& 31).toUInt32).toInt32)) else (if kk = ((1 : Int32) : Int32).toNatClampNeg then (f2_ret p3 p4 ((p5.toUInt32 >>> ((5 : Int32) &&& 31).toUInt32).toInt32)) else (if kk = ((0 : Int32) : Int32).toNatClampNeg then (f2_ret p3 p4 ((p5.toUInt32 >>> ((2 : Int32) &&& 31).toUInt32).toInt32)) else (0 : Int32)))))) := own_A.setI A_b5_36 W41
  have A_b1_42 : own_A Z h41 b1 .long 5 (fun kk => (.long (if kk = ((2 : Int32) : Int32).toNatClampNeg then (f1_ret q0 q1 q2 ((p5.toUInt32 >>> ((6 : Int32) &&& 31).toUInt32).toInt32)) else (if kk = ((1 : Int32) : Int32).toNatClampNeg then (f1_ret q0 q1 q2 ((p5.toUInt32 >>> ((3 : Int32) &&& 31).toUInt32).toInt32)) else (if kk = ((0 : Int32) : Int32).toNatClampNeg then (f1_ret q0 q1 q2 p5) else (0 : Int64)))))) := (A_b1_w35).other W41 ne_b1_b5
  have SZ43 : h0.size ≤ h41.size := by rw [W41.size]; exact SZ37
  have ZZ43 : n0 ≤ h41.size := Nat.le_trans Z0 SZ43
  have K44 : Keep h0 h41 [] := (K38).wr W41 (Or.inr sz_b5)
  obtain ⟨_, _, ⟨T45, L45, k45, n45⟩, -, X45, ⟨Lc45, hQ45, l45, y45, z45⟩, st45⟩ := Jvm.LawKit.callS X41 hx (y := (⟨"com/example/brisk_maze/briskmaze/search/RankedFrontierRemoveFirstPinLaw", "pickRank", "(JJJI)J"⟩ : MethodName)) hown (mvT hZ (hw _ (List.mem_of_getElem? (i := 2) rfl))) (mvT hZ (hw _ (List.mem_of_getElem? (i := 3) rfl))) (mvT hZ (hw _ (List.mem_of_getElem? (i := 4) rfl))) (mvT hZ (hw _ (List.mem_of_getElem? (i := 5) rfl))) (by decide) (backOf (W := 2) (rm1 l Z a0 hw [] q0 q1 q2 ((p5.toUInt32 >>> ((9 : Int32) &&& 31).toUInt32).toInt32) h41 n0 ZZ43) hZ (hw _ (List.mem_of_getElem? (i := 5) rfl)) (hw _ (List.mem_of_getElem? (i := 4) rfl)) (by decide) (by decide)) (g := (mkF m 112 #[.val (.long q0), .second, .val (.long q1), .second, .val (.long q2), .second, .val (.int p3), .val (.int p4), .val (.int p5), .val (.ref b1), .val (.ref b5), .unset, .unset, .unset, .unset, .unset, .unset, .unset, .unset, .unset, .unset, .unset, .unset, .unset] [(.int ((p5.toUInt32 >>> ((9 : Int32) &&& 31).toUInt32).toInt32)), (.long q2), (.long q1), (.long q0), (.int (3 : Int32)), (.ref b1)])) rfl (by rw [hml]; rfl) (argsL := [(.long q0), (.long q1), (.long q2), (.int ((p5.toUInt32 >>> ((9 : Int32) &&& 31).toUInt32).toInt32))]) (rest := [(.int (3 : Int32)), (.ref b1)]) (lenOf pd_4 rfl) rfl (by show 2 * 0 + _ ≤ _; exact Nat.le_of_eq rfl) (hb hby at_112) (fun _ _ => ⟨rfl, e41, (by decide : 2 + 0 ≤ _), (by decide : 10 + 0 ≤ _)⟩)
  dsimp only [Pt.U, Pt.locs, Pt.cells, Pt.slots] at X45 l45 y45 z45 st45 hQ45
  subst y45 z45
  obtain ⟨rfl, N45q, hh45⟩ := hQ45
  have N45 := Fr.app N41 N45q
  rw [← l45] at N45
  have qa46 := A_b1_42
  obtain ⟨c46, Ar46, Sz46, H46⟩ := qa46
  have hi47 : 0 ≤ ((3 : Int32) : Int32).toInt ∧ ((3 : Int32) : Int32).toInt < (5 : Nat) := (by decide)
  obtain ⟨T47, h47, X47, e47, W47, st47⟩ := stJ X45 hx hZ hh45 Ar46 (j := (3 : Int32)) (own_in Sz46 hi47) (g := (mkF m 115 #[.val (.long q0), .second, .val (.long q1), .second, .val (.long q2), .second, .val (.int p3), .val (.int p4), .val (.int p5), .val (.ref b1), .val (.ref b5), .unset, .unset, .unset, .unset, .unset, .unset, .unset, .unset, .unset, .unset, .unset, .unset, .unset] [(.long (f1_ret q0 q1 q2 ((p5.toUInt32 >>> ((9 : Int32) &&& 31).toUInt32).toInt32))), (.int (3 : Int32)), (.ref b1)])) rfl rfl (hb hby at_115)
  have N47 := Fr.snoc X47 N45 g_b1
  have A_b1_w47 : own_A Z h47 b1 .long 5 (fun kk => (.long (if kk = ((3 : Int32) : Int32).toNatClampNeg then (f1_ret q0 q1 q2 ((p5.toUInt32 >>> ((9 : Int32) &&& 31).toUInt32).toInt32)) else (if kk = ((2 : Int32) : Int32).toNatClampNeg then (f1_ret q0 q1 q2 ((p5.toUInt32 >>> ((6 : Int32) &&& 31).toUInt32).toInt32)) else (if kk = ((1 : Int32) : Int32).toNatClampNeg then (f1_ret q0 q1 q2 ((p5.toUInt32 >>> ((3 : Int32) &&& 31).toUInt32).toInt32)) else (if kk = ((0 : Int32) : Int32).toNatClampNeg then (f1_ret q0 q1 q2 p5) else (0 : Int64))))))) := own_A.setJ A_b1_42 W47
  have A_b5_48 : own_A Z h47 b5 .int 5 (fun kk => (.int (if kk = ((2 : Int32) : Int32).toNatClampNeg then (f2_ret p3 p4 ((p5.toUInt32 >>> ((8 : Int32) &&& 31).toUInt32).toInt32)) else (if kk = ((1 : Int32) : Int32).toNatClampNeg then (f2_ret p3 p4 ((p5.toUInt32 >>> ((5 : Int32) &&& 31).toUInt32).toInt32)) else (if kk = ((0 : Int32) : Int32).toNatClampNeg then (f2_ret p3 p4 ((p5.toUInt32 >>> ((2 : Int32) &&& 31).toUInt32).toInt32)) else (0 : Int32)))))) := (A_b5_w41).other W47 (Ne.symm ne_b1_b5)
  have SZ49 : h0.size ≤ h47.size := by rw [W47.size]; exact SZ43
  have ZZ49 : n0 ≤ h47.size := Nat.le_trans Z0 SZ49
  have K50 : Keep h0 h47 [] := (K44).wr W47 (Or.inr sz_b1)
  obtain ⟨_, _, ⟨T51, L51, k51, n51⟩, -, X51, ⟨Lc51, hQ51, l51, y51, z51⟩, st51⟩ := Jvm.LawKit.callS X47 hx (y := (⟨"com/example/brisk_maze/briskmaze/search/RankedFrontierRemoveFirstPinLaw", "pickCost", "(III)I"⟩ : MethodName)) hown (mvT hZ (hw _ (List.mem_of_getElem? (i := 6) rfl))) (mvT hZ (hw _ (List.mem_of_getElem? (i := 7) rfl))) (mvT hZ (hw _ (List.mem_of_getElem? (i := 4) rfl))) (mvT hZ (hw _ (List.mem_of_getElem? (i := 8) rfl))) (by decide) (backOf (W := 2) (rm2 l Z a0 hw [] p3 p4 ((p5.toUInt32 >>> ((11 : Int32) &&& 31).toUInt32).toInt32) h47 n0 ZZ49) hZ (hw _ (List.mem_of_getElem? (i := 8) rfl)) (hw _ (List.mem_of_getElem? (i := 4) rfl)) (by decide) (by decide)) (g := (mkF m 128 #[.val (.long q0), .second, .val (.long q1), .second, .val (.long q2), .second, .val (.int p3), .val (.int p4), .val (.int p5), .val (.ref b1), .val (.ref b5), .unset, .unset, .unset, .unset, .unset, .unset, .unset, .unset, .unset, .unset, .unset, .unset, .unset] [(.int ((p5.toUInt32 >>> ((11 : Int32) &&& 31).toUInt32).toInt32)), (.int p4), (.int p3), (.int (3 : Int32)), (.ref b5)])) rfl (by rw [hml]; rfl) (argsL := [(.int p3), (.int p4), (.int ((p5.toUInt32 >>> ((11 : Int32) &&& 31).toUInt32).toInt32))]) (rest := [(.int (3 : Int32)), (.ref b5)]) (lenOf pd_5 rfl) rfl (by show 2 * 0 + _ ≤ _; exact Nat.le_of_eq rfl) (hb hby at_128) (fun _ _ => ⟨rfl, e47, (by decide : 2 + 0 ≤ _), (by decide : 10 + 0 ≤ _)⟩)
  dsimp only [Pt.U, Pt.locs, Pt.cells, Pt.slots] at X51 l51 y51 z51 st51 hQ51
  subst y51 z51
  obtain ⟨rfl, N51q, hh51⟩ := hQ51
  have N51 := Fr.app N47 N51q
  rw [← l51] at N51
  have qa52 := A_b5_48
  obtain ⟨c52, Ar52, Sz52, H52⟩ := qa52
  have hi53 : 0 ≤ ((3 : Int32) : Int32).toInt ∧ ((3 : Int32) : Int32).toInt < (5 : Nat) := (by decide)
  obtain ⟨T53, h53, X53, e53, W53, st53⟩ := stI X51 hx hZ hh51 Ar52 (j := (3 : Int32)) (own_in Sz52 hi53) (g := (mkF m 131 #[.val (.long q0), .second, .val (.long q1), .second, .val (.long q2), .second, .val (.int p3), .val (.int p4), .val (.int p5), .val (.ref b1), .val (.ref b5), .unset, .unset, .unset, .unset, .unset, .unset, .unset, .unset, .unset, .unset, .unset, .unset, .unset] [(.int (f2_ret p3 p4 ((p5.toUInt32 >>> ((11 : Int32) &&& 31).toUInt32).toInt32))), (.int (3 : Int32)), (.ref b5)])) rfl rfl (hb hby at_131)
  have N53 := Fr.snoc X53 N51 g_b5
  have A_b5_w53 : own_A Z h53 b5 .int 5 (fun kk => (.int (if kk = ((3 : Int32) : Int32).toNatClampNeg then (f2_ret p3 p4 ((p5.toUInt32 >>> ((11 : Int32) &&& 31).toUInt32).toInt32)) else (if kk = ((2 : Int32) : Int32).toNatClampNeg then (f2_ret p3 p4 ((p5.toUInt32 >>> ((8 : Int32) &&& 31).toUInt32).toInt32)) else (if kk = ((1 : Int32) : Int32).toNatClampNeg then (f2_ret p3 p4 ((p5.toUInt32 >>> ((5 : Int32) &&& 31).toUInt32).toInt32)) else (if kk = ((0 : Int32) : Int32).toNatClampNeg then (f2_ret p3 p4 ((p5.toUInt32 >>> ((2 : Int32) &&& 31).toUInt32).toInt32)) else (0 : Int32))))))) := own_A.setI A_b5_48 W53
  have A_b1_54 : own_A Z h53 b1 .long 5 (fun kk => (.long (if kk = ((3 : Int32) : Int32).toNatClampNeg then (f1_ret q0 q1 q2 ((p5.toUInt32 >>> ((9 : Int32) &&& 31).toUInt32).toInt32)) else (if kk = ((2 : Int32) : Int32).toNatClampNeg then (f1_ret q0 q1 q2 ((p5.toUInt32 >>> ((6 : Int32) &&& 31).toUInt32).toInt32)) else (if kk = ((1 : Int32) : Int32).toNatClampNeg then (f1_ret q0 q1 q2 ((p5.toUInt32 >>> ((3 : Int32) &&& 31).toUInt32).toInt32)) else (if kk = ((0 : Int32) : Int32).toNatClampNeg then (f1_ret q0 q1 q2 p5) else (0 : Int64))))))) := (A_b1_w47).other W53 ne_b1_b5
  have SZ55 : h0.size ≤ h53.size := by rw [W53.size]; exact SZ49
  have ZZ55 : n0 ≤ h53.size := Nat.le_trans Z0 SZ55
  have K56 : Keep h0 h53 [] := (K50).wr W53 (Or.inr sz_b5)
  obtain ⟨_, _, ⟨T57, L57, k57, n57⟩, -, X57, ⟨Lc57, hQ57, l57, y57, z57⟩, st57⟩ := Jvm.LawKit.callS X53 hx (y := (⟨"com/example/brisk_maze/briskmaze/search/RankedFrontierRemoveFirstPinLaw", "pickRank", "(JJJI)J"⟩ : MethodName)) hown (mvT hZ (hw _ (List.mem_of_getElem? (i := 2) rfl))) (mvT hZ (hw _ (List.mem_of_getElem? (i := 3) rfl))) (mvT hZ (hw _ (List.mem_of_getElem? (i := 4) rfl))) (mvT hZ (hw _ (List.mem_of_getElem? (i := 5) rfl))) (by decide) (backOf (W := 2) (rm1 l Z a0 hw [] q0 q1 q2 ((p5.toUInt32 >>> ((12 : Int32) &&& 31).toUInt32).toInt32) h53 n0 ZZ55) hZ (hw _ (List.mem_of_getElem? (i := 5) rfl)) (hw _ (List.mem_of_getElem? (i := 4) rfl)) (by decide) (by decide)) (g := (mkF m 144 #[.val (.long q0), .second, .val (.long q1), .second, .val (.long q2), .second, .val (.int p3), .val (.int p4), .val (.int p5), .val (.ref b1), .val (.ref b5), .unset, .unset, .unset, .unset, .unset, .unset, .unset, .unset, .unset, .unset, .unset, .unset, .unset] [(.int ((p5.toUInt32 >>> ((12 : Int32) &&& 31).toUInt32).toInt32)), (.long q2), (.long q1), (.long q0), (.int (4 : Int32)), (.ref b1)])) rfl (by rw [hml]; rfl) (argsL := [(.long q0), (.long q1), (.long q2), (.int ((p5.toUInt32 >>> ((12 : Int32) &&& 31).toUInt32).toInt32))]) (rest := [(.int (4 : Int32)), (.ref b1)]) (lenOf pd_4 rfl) rfl (by show 2 * 0 + _ ≤ _; exact Nat.le_of_eq rfl) (hb hby at_144) (fun _ _ => ⟨rfl, e53, (by decide : 2 + 0 ≤ _), (by decide : 10 + 0 ≤ _)⟩)
  dsimp only [Pt.U, Pt.locs, Pt.cells, Pt.slots] at X57 l57 y57 z57 st57 hQ57
  subst y57 z57
  obtain ⟨rfl, N57q, hh57⟩ := hQ57
  have N57 := Fr.app N53 N57q
  rw [← l57] at N57
  have qa58 := A_b1_54
  obtain ⟨c58, Ar58, Sz58, H58⟩ := qa58
  have hi59 : 0 ≤ ((4 : Int32) : Int32).toInt ∧ ((4 : Int32) : Int32).toInt < (5 : Nat) := (by decide)
  obtain ⟨T59, h59, X59, e59, W59, st59⟩ := stJ X57 hx hZ hh57 Ar58 (j := (4 : Int32)) (own_in Sz58 hi59) (g := (mkF m 147 #[.val (.long q0), .second, .val (.long q1), .second, .val (.long q2), .second, .val (.int p3), .val (.int p4), .val (.int p5), .val (.ref b1), .val (.ref b5), .unset, .unset, .unset, .unset, .unset, .unset, .unset, .unset, .unset, .unset, .unset, .unset, .unset] [(.long (f1_ret q0 q1 q2 ((p5.toUInt32 >>> ((12 : Int32) &&& 31).toUInt32).toInt32))), (.int (4 : Int32)), (.ref b1)])) rfl rfl (hb hby at_147)
  have N59 := Fr.snoc X59 N57 g_b1
  have A_b1_w59 : own_A Z h59 b1 .long 5 (fun kk => (.long (if kk = ((4 : Int32) : Int32).toNatClampNeg then (f1_ret q0 q1 q2 ((p5.toUInt32 >>> ((12 : Int32) &&& 31).toUInt32).toInt32)) else (if kk = ((3 : Int32) : Int32).toNatClampNeg then (f1_ret q0 q1 q2 ((p5.toUInt32 >>> ((9 : Int32) &&& 31).toUInt32).toInt32)) else (if kk = ((2 : Int32) : Int32).toNatClampNeg then (f1_ret q0 q1 q2 ((p5.toUInt32 >>> ((6 : Int32) &&& 31).toUInt32).toInt32)) else (if kk = ((1 : Int32) : Int32).toNatClampNeg then (f1_ret q0 q1 q2 ((p5.toUInt32 >>> ((3 : Int32) &&& 31).toUInt32).toInt32)) else (if kk = ((0 : Int32) : Int32).toNatClampNeg then (f1_ret q0 q1 q2 p5) else (0 : Int64)))))))) := own_A.setJ A_b1_54 W59
  have A_b5_60 : own_A Z h59 b5 .int 5 (fun kk => (.int (if kk = ((3 : Int32) : Int32).toNatClampNeg then (f2_ret p3 p4 ((p5.toUInt32 >>> ((11 : Int32) &&& 31).toUInt32).toInt32)) else (if kk = ((2 : Int32) : Int32).toNatClampNeg then (f2_ret p3 p4 ((p5.toUInt32 >>> ((8 : Int32) &&& 31).toUInt32).toInt32)) else (if kk = ((1 : Int32) : Int32).toNatClampNeg then (f2_ret p3 p4 ((p5.toUInt32 >>> ((5 : Int32) &&& 31).toUInt32).toInt32)) else (if kk = ((0 : Int32) : Int32).toNatClampNeg then (f2_ret p3 p4 ((p5.toUInt32 >>> ((2 : Int32) &&& 31).toUInt32).toInt32)) else (0 : Int32))))))) := (A_b5_w53).other W59 (Ne.symm ne_b1_b5)
  have SZ61 : h0.size ≤ h59.size := by rw [W59.size]; exact SZ55
  have ZZ61 : n0 ≤ h59.size := Nat.le_trans Z0 SZ61
  have K62 : Keep h0 h59 [] := (K56).wr W59 (Or.inr sz_b1)
  obtain ⟨_, _, ⟨T63, L63, k63, n63⟩, -, X63, ⟨Lc63, hQ63, l63, y63, z63⟩, st63⟩ := Jvm.LawKit.callS X59 hx (y := (⟨"com/example/brisk_maze/briskmaze/search/RankedFrontierRemoveFirstPinLaw", "pickCost", "(III)I"⟩ : MethodName)) hown (mvT hZ (hw _ (List.mem_of_getElem? (i := 6) rfl))) (mvT hZ (hw _ (List.mem_of_getElem? (i := 7) rfl))) (mvT hZ (hw _ (List.mem_of_getElem? (i := 4) rfl))) (mvT hZ (hw _ (List.mem_of_getElem? (i := 8) rfl))) (by decide) (backOf (W := 2) (rm2 l Z a0 hw [] p3 p4 ((p5.toUInt32 >>> ((14 : Int32) &&& 31).toUInt32).toInt32) h59 n0 ZZ61) hZ (hw _ (List.mem_of_getElem? (i := 8) rfl)) (hw _ (List.mem_of_getElem? (i := 4) rfl)) (by decide) (by decide)) (g := (mkF m 160 #[.val (.long q0), .second, .val (.long q1), .second, .val (.long q2), .second, .val (.int p3), .val (.int p4), .val (.int p5), .val (.ref b1), .val (.ref b5), .unset, .unset, .unset, .unset, .unset, .unset, .unset, .unset, .unset, .unset, .unset, .unset, .unset] [(.int ((p5.toUInt32 >>> ((14 : Int32) &&& 31).toUInt32).toInt32)), (.int p4), (.int p3), (.int (4 : Int32)), (.ref b5)])) rfl (by rw [hml]; rfl) (argsL := [(.int p3), (.int p4), (.int ((p5.toUInt32 >>> ((14 : Int32) &&& 31).toUInt32).toInt32))]) (rest := [(.int (4 : Int32)), (.ref b5)]) (lenOf pd_5 rfl) rfl (by show 2 * 0 + _ ≤ _; exact Nat.le_of_eq rfl) (hb hby at_160) (fun _ _ => ⟨rfl, e59, (by decide : 2 + 0 ≤ _), (by decide : 10 + 0 ≤ _)⟩)
  dsimp only [Pt.U, Pt.locs, Pt.cells, Pt.slots] at X63 l63 y63 z63 st63 hQ63
  subst y63 z63
  obtain ⟨rfl, N63q, hh63⟩ := hQ63
  have N63 := Fr.app N59 N63q
  rw [← l63] at N63
  have qa64 := A_b5_60
  obtain ⟨c64, Ar64, Sz64, H64⟩ := qa64
  have hi65 : 0 ≤ ((4 : Int32) : Int32).toInt ∧ ((4 : Int32) : Int32).toInt < (5 : Nat) := (by decide)
  obtain ⟨T65, h65, X65, e65, W65, st65⟩ := stI X63 hx hZ hh63 Ar64 (j := (4 : Int32)) (own_in Sz64 hi65) (g := (mkF m 163 #[.val (.long q0), .second, .val (.long q1), .second, .val (.long q2), .second, .val (.int p3), .val (.int p4), .val (.int p5), .val (.ref b1), .val (.ref b5), .unset, .unset, .unset, .unset, .unset, .unset, .unset, .unset, .unset, .unset, .unset, .unset, .unset] [(.int (f2_ret p3 p4 ((p5.toUInt32 >>> ((14 : Int32) &&& 31).toUInt32).toInt32))), (.int (4 : Int32)), (.ref b5)])) rfl rfl (hb hby at_163)
  have N65 := Fr.snoc X65 N63 g_b5
  have A_b5_w65 : own_A Z h65 b5 .int 5 (fun kk => (.int (if kk = ((4 : Int32) : Int32).toNatClampNeg then (f2_ret p3 p4 ((p5.toUInt32 >>> ((14 : Int32) &&& 31).toUInt32).toInt32)) else (if kk = ((3 : Int32) : Int32).toNatClampNeg then (f2_ret p3 p4 ((p5.toUInt32 >>> ((11 : Int32) &&& 31).toUInt32).toInt32)) else (if kk = ((2 : Int32) : Int32).toNatClampNeg then (f2_ret p3 p4 ((p5.toUInt32 >>> ((8 : Int32) &&& 31).toUInt32).toInt32)) else (if kk = ((1 : Int32) : Int32).toNatClampNeg then (f2_ret p3 p4 ((p5.toUInt32 >>> ((5 : Int32) &&& 31).toUInt32).toInt32)) else (if kk = ((0 : Int32) : Int32).toNatClampNeg then (f2_ret p3 p4 ((p5.toUInt32 >>> ((2 : Int32) &&& 31).toUInt32).toInt32)) else (0 : Int32)))))))) := own_A.setI A_b5_60 W65
  have A_b1_66 : own_A Z h65 b1 .long 5 (fun kk => (.long (if kk = ((4 : Int32) : Int32).toNatClampNeg then (f1_ret q0 q1 q2 ((p5.toUInt32 >>> ((12 : Int32) &&& 31).toUInt32).toInt32)) else (if kk = ((3 : Int32) : Int32).toNatClampNeg then (f1_ret q0 q1 q2 ((p5.toUInt32 >>> ((9 : Int32) &&& 31).toUInt32).toInt32)) else (if kk = ((2 : Int32) : Int32).toNatClampNeg then (f1_ret q0 q1 q2 ((p5.toUInt32 >>> ((6 : Int32) &&& 31).toUInt32).toInt32)) else (if kk = ((1 : Int32) : Int32).toNatClampNeg then (f1_ret q0 q1 q2 ((p5.toUInt32 >>> ((3 : Int32) &&& 31).toUInt32).toInt32)) else (if kk = ((0 : Int32) : Int32).toNatClampNeg then (f1_ret q0 q1 q2 p5) else (0 : Int64)))))))) := (A_b1_w59).other W65 ne_b1_b5
  have SZ67 : h0.size ≤ h65.size := by rw [W65.size]; exact SZ61
  have ZZ67 : n0 ≤ h65.size := Nat.le_trans Z0 SZ67
  have K68 : Keep h0 h65 [] := (K62).wr W65 (Or.inr sz_b5)
  obtain ⟨rr, hrr⟩ : ∃ f : Nat → Int64, f = (fun kk => (if kk = ((4 : Int32) : Int32).toNatClampNeg then (f1_ret q0 q1 q2 ((p5.toUInt32 >>> ((12 : Int32) &&& 31).toUInt32).toInt32)) else (if kk = ((3 : Int32) : Int32).toNatClampNeg then (f1_ret q0 q1 q2 ((p5.toUInt32 >>> ((9 : Int32) &&& 31).toUInt32).toInt32)) else (if kk = ((2 : Int32) : Int32).toNatClampNeg then (f1_ret q0 q1 q2 ((p5.toUInt32 >>> ((6 : Int32) &&& 31).toUInt32).toInt32)) else (if kk = ((1 : Int32) : Int32).toNatClampNeg then (f1_ret q0 q1 q2 ((p5.toUInt32 >>> ((3 : Int32) &&& 31).toUInt32).toInt32)) else (if kk = ((0 : Int32) : Int32).toNatClampNeg then (f1_ret q0 q1 q2 p5) else (0 : Int64))))))) := ⟨_, rfl⟩
  have Ag69 : own_A Z h65 b1 .long 5 (fun kk => (.long (rr kk))) := by rw [hrr]; exact A_b1_66
  obtain ⟨cc, hcc⟩ : ∃ f : Nat → Int32, f = (fun kk => (if kk = ((4 : Int32) : Int32).toNatClampNeg then (f2_ret p3 p4 ((p5.toUInt32 >>> ((14 : Int32) &&& 31).toUInt32).toInt32)) else (if kk = ((3 : Int32) : Int32).toNatClampNeg then (f2_ret p3 p4 ((p5.toUInt32 >>> ((11 : Int32) &&& 31).toUInt32).toInt32)) else (if kk = ((2 : Int32) : Int32).toNatClampNeg then (f2_ret p3 p4 ((p5.toUInt32 >>> ((8 : Int32) &&& 31).toUInt32).toInt32)) else (if kk = ((1 : Int32) : Int32).toNatClampNeg then (f2_ret p3 p4 ((p5.toUInt32 >>> ((5 : Int32) &&& 31).toUInt32).toInt32)) else (if kk = ((0 : Int32) : Int32).toNatClampNeg then (f2_ret p3 p4 ((p5.toUInt32 >>> ((2 : Int32) &&& 31).toUInt32).toInt32)) else (0 : Int32))))))) := ⟨_, rfl⟩
  have Ag70 : own_A Z h65 b5 .int 5 (fun kk => (.int (cc kk))) := by rw [hcc]; exact A_b5_w65
  obtain ⟨T71, h71, X71, e71, Ex71, Ne71, D71, -, st71⟩ := newO X65 hx hZ hown (hw _ (List.mem_of_getElem? (i := 9) rfl)) (hw _ (List.mem_of_getElem? (i := 10) rfl)) (hw _ (List.mem_of_getElem? (i := 11) rfl)) e65 (g := (mkF m 164 #[.val (.long q0), .second, .val (.long q1), .second, .val (.long q2), .second, .val (.int p3), .val (.int p4), .val (.int p5), .val (.ref b1), .val (.ref b5), .unset, .unset, .unset, .unset, .unset, .unset, .unset, .unset, .unset, .unset, .unset, .unset, .unset] [])) rfl (hb hby at_164) (by decide) (by decide)
  obtain ⟨b71, g71⟩ : ∃ z, z = h65.size := ⟨_, rfl⟩
  rw [← g71] at Ne71 D71 st71
  have ne_b1_b71 : b1 ≠ b71 := by rw [g71]; exact Nat.ne_of_lt (Ag69).lt
  have ne_b5_b71 : b5 ≠ b71 := by rw [g71]; exact Nat.ne_of_lt (Ag70).lt
  have g_b71 : n0 ≤ b71 := Nat.le_trans (Nat.le_trans Z0 SZ67) (Nat.le_of_eq g71.symm)
  have sz_b71 : h0.size ≤ b71 := Nat.le_trans SZ67 (Nat.le_of_eq g71.symm)
  have A_b1_72 : own_A Z h71 b1 .long 5 (fun kk => (.long (rr kk))) := (Ag69).ext Ex71
  have A_b5_72 : own_A Z h71 b5 .int 5 (fun kk => (.int (cc kk))) := (Ag70).ext Ex71
  have SZ73 : h0.size ≤ h71.size := Nat.le_trans SZ67 Ex71.1
  have ZZ73 : n0 ≤ h71.size := Nat.le_trans Z0 SZ73
  have K74 : Keep h0 h71 [] := (K68).ext Ex71
  have F_ranks_b71_71 : Fld Z h71 b71 "com/example/brisk_maze/briskmaze/search/RankedFrontier" "ranks" "[J" .null := D71 (Or.inl (hw _ (List.mem_of_getElem? (i := 19) rfl))) (ty := (.array .long)) (by decide)
  have F_costs_b71_71 : Fld Z h71 b71 "com/example/brisk_maze/briskmaze/search/RankedFrontier" "costs" "[I" .null := D71 (Or.inl (hw _ (List.mem_of_getElem? (i := 21) rfl))) (ty := (.array .int)) (by decide)
  have F_states_b71_71 : Fld Z h71 b71 "com/example/brisk_maze/briskmaze/search/RankedFrontier" "states" "[I" .null := D71 (Or.inl (hw _ (List.mem_of_getElem? (i := 23) rfl))) (ty := (.array .int)) (by decide)
  have F_size_b71_71 : Fld Z h71 b71 "com/example/brisk_maze/briskmaze/search/RankedFrontier" "size" "I" (.int (0 : Int32)) := D71 (Or.inl (hw _ (List.mem_of_getElem? (i := 30) rfl))) (ty := .int) (by decide)
  obtain ⟨_, _, ⟨T75, L75, k75, n75⟩, -, X75, ⟨Lc75, hQ75, l75, y75, z75⟩, st75⟩ := X71.specialBack hx (y := (⟨"com/example/brisk_maze/briskmaze/search/RankedFrontier", "<init>", "()V"⟩ : MethodName)) rfl hown (mvT hZ (hw _ (List.mem_of_getElem? (i := 12) rfl))) (mvT hZ (hw _ (List.mem_of_getElem? (i := 13) rfl))) (mvT hZ (hw _ (List.mem_of_getElem? (i := 14) rfl))) (by decide) (backOf (W := 1) (rm3 l Z a0 hw [] b71 h71 n0 ZZ73 F_ranks_b71_71 F_costs_b71_71 F_states_b71_71 Ne71 F_size_b71_71 g_b71) hZ (hw _ (List.mem_of_getElem? (i := 14) rfl)) (hw _ (List.mem_of_getElem? (i := 11) rfl)) (by decide) (by decide)) (g := (mkF m 168 #[.val (.long q0), .second, .val (.long q1), .second, .val (.long q2), .second, .val (.int p3), .val (.int p4), .val (.int p5), .val (.ref b1), .val (.ref b5), .unset, .unset, .unset, .unset, .unset, .unset, .unset, .unset, .unset, .unset, .unset, .unset, .unset] [(.ref b71), (.ref b71)])) rfl (by rw [hml]; rfl) (Steps.refl _) (a := b71) (argsL := []) (rest := [(.ref b71)]) (lenOf pd_6 rfl) rfl (by show 2 * 0 + _ ≤ _; exact Nat.le_of_eq rfl) (hb hby at_168) (fun _ _ => ⟨rfl, e71, (by decide : 3 + 3 ≤ _), (by decide : 14 + 192 ≤ _)⟩)
  dsimp only [Pt.U, Pt.locs, Pt.cells, Pt.slots] at X75 l75 y75 z75 st75 hQ75
  subst y75 z75
  obtain ⟨tr_75, tc_75, ts_75, rfl, N75q, Kc75, sz_tr_75, sz_tc_75, sz_ts_75, ne_tr_tc_75, ne_tr_ts_75, ne_tc_ts_75, P75_0, P75_1, P75_2, P75_3, P75_4, P75_5, P75_6⟩ := hQ75
  have N75 := Fr.app N65 N75q
  rw [← l75] at N75
  have A_b1_76 : own_A Z T75.heap b1 .long 5 (fun kk => (.long (rr kk))) := (A_b1_72).keep Kc75 (ninS ne_b1_b71 nin0)
  have A_b5_76 : own_A Z T75.heap b5 .int 5 (fun kk => (.int (cc kk))) := (A_b5_72).keep Kc75 (ninS ne_b5_b71 nin0)
  have E_b71_76 : Exa Z T75.heap b71 "com/example/brisk_maze/briskmaze/search/RankedFrontier" := (Ne71).keep Kc75
  have SZ77 : h0.size ≤ T75.heap.size := Nat.le_trans SZ73 Kc75.1
  have ZZ77 : n0 ≤ T75.heap.size := Nat.le_trans Z0 SZ77
  have K78 : Keep h0 T75.heap [] := (K74).trans Kc75 (allS (Or.inr sz_b71) all0)
  have ne_b1_tr_75 : b1 ≠ tr_75 := Nat.ne_of_lt (Nat.lt_of_lt_of_le (A_b1_72).lt sz_tr_75)
  have ne_b5_tr_75 : b5 ≠ tr_75 := Nat.ne_of_lt (Nat.lt_of_lt_of_le (A_b5_72).lt sz_tr_75)
  have ne_b71_tr_75 : b71 ≠ tr_75 := Nat.ne_of_lt (Nat.lt_of_lt_of_le (Ne71).lt sz_tr_75)
  have g_tr_75 : n0 ≤ tr_75 := Nat.le_trans (Nat.le_trans Z0 SZ73) sz_tr_75
  have szz_tr_75 : h0.size ≤ tr_75 := Nat.le_trans SZ73 sz_tr_75
  have ne_b1_tc_75 : b1 ≠ tc_75 := Nat.ne_of_lt (Nat.lt_of_lt_of_le (A_b1_72).lt sz_tc_75)
  have ne_b5_tc_75 : b5 ≠ tc_75 := Nat.ne_of_lt (Nat.lt_of_lt_of_le (A_b5_72).lt sz_tc_75)
  have ne_b71_tc_75 : b71 ≠ tc_75 := Nat.ne_of_lt (Nat.lt_of_lt_of_le (Ne71).lt sz_tc_75)
  have g_tc_75 : n0 ≤ tc_75 := Nat.le_trans (Nat.le_trans Z0 SZ73) sz_tc_75
  have szz_tc_75 : h0.size ≤ tc_75 := Nat.le_trans SZ73 sz_tc_75
  have ne_b1_ts_75 : b1 ≠ ts_75 := Nat.ne_of_lt (Nat.lt_of_lt_of_le (A_b1_72).lt sz_ts_75)
  have ne_b5_ts_75 : b5 ≠ ts_75 := Nat.ne_of_lt (Nat.lt_of_lt_of_le (A_b5_72).lt sz_ts_75)
  have ne_b71_ts_75 : b71 ≠ ts_75 := Nat.ne_of_lt (Nat.lt_of_lt_of_le (Ne71).lt sz_ts_75)
  have g_ts_75 : n0 ≤ ts_75 := Nat.le_trans (Nat.le_trans Z0 SZ73) sz_ts_75
  have szz_ts_75 : h0.size ≤ ts_75 := Nat.le_trans SZ73 sz_ts_75
  have qa79 := A_b1_76
  obtain ⟨c79, Ar79, Sz79, H79⟩ := qa79
  have hi80 : 0 ≤ ((0 : Int32) : Int32).toInt ∧ ((0 : Int32) : Int32).toInt < (5 : Nat) := (by decide)
  obtain ⟨va0, hva0⟩ : ∃ z, z = ((rr ((0 : Int32) : Int32).toNatClampNeg)) := ⟨_, rfl⟩
  have hl80 : c79.slots[((0 : Int32) : Int32).toNatClampNeg]? = some (.long va0) := by rw [hva0]; exact H79 _ (own_ix hi80)
  have qa81 := A_b5_76
  obtain ⟨c81, Ar81, Sz81, H81⟩ := qa81
  have hi82 : 0 ≤ ((0 : Int32) : Int32).toInt ∧ ((0 : Int32) : Int32).toInt < (5 : Nat) := (by decide)
  obtain ⟨vb0, hvb0⟩ : ∃ z, z = ((cc ((0 : Int32) : Int32).toNatClampNeg)) := ⟨_, rfl⟩
  have hl82 : c81.slots[((0 : Int32) : Int32).toNatClampNeg]? = some (.int vb0) := by rw [hvb0]; exact H81 _ (own_ix hi82)
  obtain ⟨cq83, kq83, q83a, q83b, q83c⟩ := isOf hZ rfl (E_b71_76)
  obtain ⟨_, _, ⟨T83, L83, k83, n83⟩, -, X83, ⟨Lc83, hQ83, l83, y83, z83⟩, st83⟩ := X75.virtualBack hx (y := (⟨"com/example/brisk_maze/briskmaze/search/RankedFrontier", "add", "(IJI)V"⟩ : MethodName)) (z := (⟨"com/example/brisk_maze/briskmaze/search/RankedFrontier", "add", "(IJI)V"⟩ : MethodName)) hown (mvT hZ (hw _ (List.mem_of_getElem? (i := 24) rfl))) (mvT hZ (hw _ (List.mem_of_getElem? (i := 25) rfl))) (notFace_of_selects (args := #[]) (mvT hZ (hw _ (List.mem_of_getElem? (i := 27) rfl)))) (mvT hZ (hw _ (List.mem_of_getElem? (i := 27) rfl))) (mvT hZ (hw _ (List.mem_of_getElem? (i := 26) rfl))) (by decide) (backOf (W := 0) (rm5 l Z a0 hw [] b71 (100 : Int32) va0 vb0 tr_75 tc_75 ts_75 (fun _ => ((0 : Int64), (0 : Int32), (0 : Int32))) (0 : Nat) T75.heap n0 ZZ77 P75_0 P75_1 P75_2 E_b71_76 P75_3 P75_4 P75_5 P75_6 g_tr_75 g_tc_75 g_ts_75 g_b71 ne_b71_tr_75 ne_b71_tc_75 ne_b71_ts_75 ne_tr_tc_75 ne_tr_ts_75 ne_tc_ts_75 (by decide) (fun j _ j1 => absurd j1 (Nat.not_lt_zero _))) hZ (hw _ (List.mem_of_getElem? (i := 28) rfl)) (hw _ (List.mem_of_getElem? (i := 11) rfl)) (by decide) (by decide)) q83a q83c (g := (mkF m 185 #[.val (.long q0), .second, .val (.long q1), .second, .val (.long q2), .second, .val (.int p3), .val (.int p4), .val (.int p5), .val (.ref b1), .val (.ref b5), .val (.ref b71), .unset, .unset, .unset, .unset, .unset, .unset, .unset, .unset, .unset, .unset, .unset, .unset] [(.int vb0), (.long va0), (.int (100 : Int32)), (.ref b71)])) rfl (by rw [hml]; rfl) (Steps.refl _) (argsL := [(.int (100 : Int32)), (.long va0), (.int vb0)]) (rest := []) (lenOf pd_7 rfl) rfl (by show 2 * 0 + _ ≤ _; exact Nat.le_of_eq rfl) (hb hby at_185) (fun _ _ => ⟨rfl, rfl, (by decide : 6 + 0 ≤ _), (by decide : 206 + 0 ≤ _)⟩)
  dsimp only [Pt.U, Pt.locs, Pt.cells, Pt.slots] at X83 l83 y83 z83 st83 hQ83
  subst y83 z83
  obtain ⟨f2_83, rfl, N83q, Kc83, P83_0, P83_1, P83_2, P83_3, P83_4, P83_5, P83_6, P83_7, P83_8⟩ := hQ83
  have N83 := Fr.app N75 N83q
  rw [← l83] at N83
  have A_b1_84 : own_A Z T83.heap b1 .long 5 (fun kk => (.long (rr kk))) := (A_b1_76).keep Kc83 (ninS ne_b1_tr_75 (ninS ne_b1_tc_75 (ninS ne_b1_ts_75 (ninS ne_b1_b71 nin0))))
  have A_b5_84 : own_A Z T83.heap b5 .int 5 (fun kk => (.int (cc kk))) := (A_b5_76).keep Kc83 (ninS ne_b5_tr_75 (ninS ne_b5_tc_75 (ninS ne_b5_ts_75 (ninS ne_b5_b71 nin0))))
  have E_b71_84 : Exa Z T83.heap b71 "com/example/brisk_maze/briskmaze/search/RankedFrontier" := (E_b71_76).keep Kc83
  have SZ85 : h0.size ≤ T83.heap.size := Nat.le_trans SZ77 Kc83.1
  have ZZ85 : n0 ≤ T83.heap.size := Nat.le_trans Z0 SZ85
  have K86 : Keep h0 T83.heap [] := (K78).trans Kc83 (allS (Or.inr szz_tr_75) (allS (Or.inr szz_tc_75) (allS (Or.inr szz_ts_75) (allS (Or.inr sz_b71) all0))))
  have qa87 := A_b1_84
  obtain ⟨c87, Ar87, Sz87, H87⟩ := qa87
  have hi88 : 0 ≤ ((1 : Int32) : Int32).toInt ∧ ((1 : Int32) : Int32).toInt < (5 : Nat) := (by decide)
  obtain ⟨va1, hva1⟩ : ∃ z, z = ((rr ((1 : Int32) : Int32).toNatClampNeg)) := ⟨_, rfl⟩
  have hl88 : c87.slots[((1 : Int32) : Int32).toNatClampNeg]? = some (.long va1) := by rw [hva1]; exact H87 _ (own_ix hi88)
  have qa89 := A_b5_84
  obtain ⟨c89, Ar89, Sz89, H89⟩ := qa89
  have hi90 : 0 ≤ ((1 : Int32) : Int32).toInt ∧ ((1 : Int32) : Int32).toInt < (5 : Nat) := (by decide)
  obtain ⟨vb1, hvb1⟩ : ∃ z, z = ((cc ((1 : Int32) : Int32).toNatClampNeg)) := ⟨_, rfl⟩
  have hl90 : c89.slots[((1 : Int32) : Int32).toNatClampNeg]? = some (.int vb1) := by rw [hvb1]; exact H89 _ (own_ix hi90)
  obtain ⟨cq91, kq91, q91a, q91b, q91c⟩ := isOf hZ rfl (E_b71_84)
  obtain ⟨_, _, ⟨T91, L91, k91, n91⟩, -, X91, ⟨Lc91, hQ91, l91, y91, z91⟩, st91⟩ := X83.virtualBack hx (y := (⟨"com/example/brisk_maze/briskmaze/search/RankedFrontier", "add", "(IJI)V"⟩ : MethodName)) (z := (⟨"com/example/brisk_maze/briskmaze/search/RankedFrontier", "add", "(IJI)V"⟩ : MethodName)) hown (mvT hZ (hw _ (List.mem_of_getElem? (i := 24) rfl))) (mvT hZ (hw _ (List.mem_of_getElem? (i := 25) rfl))) (notFace_of_selects (args := #[]) (mvT hZ (hw _ (List.mem_of_getElem? (i := 27) rfl)))) (mvT hZ (hw _ (List.mem_of_getElem? (i := 27) rfl))) (mvT hZ (hw _ (List.mem_of_getElem? (i := 26) rfl))) (by decide) (backOf (W := 0) (rm5 l Z a0 hw [] b71 (101 : Int32) va1 vb1 tr_75 tc_75 ts_75 f2_83 (1 : Nat) T83.heap n0 ZZ85 P83_1 P83_2 P83_3 E_b71_84 P83_0 P83_4 P83_5 P83_6 g_tr_75 g_tc_75 g_ts_75 g_b71 ne_b71_tr_75 ne_b71_tc_75 ne_b71_ts_75 ne_tr_tc_75 ne_tr_ts_75 ne_tc_ts_75 (by decide) P83_7) hZ (hw _ (List.mem_of_getElem? (i := 28) rfl)) (hw _ (List.mem_of_getElem? (i := 11) rfl)) (by decide) (by decide)) q91a q91c (g := (mkF m 200 #[.val (.long q0), .second, .val (.long q1), .second, .val (.long q2), .second, .val (.int p3), .val (.int p4), .val (.int p5), .val (.ref b1), .val (.ref b5), .val (.ref b71), .unset, .unset, .unset, .unset, .unset, .unset, .unset, .unset, .unset, .unset, .unset, .unset] [(.int vb1), (.long va1), (.int (101 : Int32)), (.ref b71)])) rfl (by rw [hml]; rfl) (Steps.refl _) (argsL := [(.int (101 : Int32)), (.long va1), (.int vb1)]) (rest := []) (lenOf pd_7 rfl) rfl (by show 2 * 0 + _ ≤ _; exact Nat.le_of_eq rfl) (hb hby at_200) (fun _ _ => ⟨rfl, rfl, (by decide : 6 + 0 ≤ _), (by decide : 206 + 0 ≤ _)⟩)
  dsimp only [Pt.U, Pt.locs, Pt.cells, Pt.slots] at X91 l91 y91 z91 st91 hQ91
  subst y91 z91
  obtain ⟨f2_91, rfl, N91q, Kc91, P91_0, P91_1, P91_2, P91_3, P91_4, P91_5, P91_6, P91_7, P91_8⟩ := hQ91
  have N91 := Fr.app N83 N91q
  rw [← l91] at N91
  have A_b1_92 : own_A Z T91.heap b1 .long 5 (fun kk => (.long (rr kk))) := (A_b1_84).keep Kc91 (ninS ne_b1_tr_75 (ninS ne_b1_tc_75 (ninS ne_b1_ts_75 (ninS ne_b1_b71 nin0))))
  have A_b5_92 : own_A Z T91.heap b5 .int 5 (fun kk => (.int (cc kk))) := (A_b5_84).keep Kc91 (ninS ne_b5_tr_75 (ninS ne_b5_tc_75 (ninS ne_b5_ts_75 (ninS ne_b5_b71 nin0))))
  have E_b71_92 : Exa Z T91.heap b71 "com/example/brisk_maze/briskmaze/search/RankedFrontier" := (E_b71_84).keep Kc91
  have SZ93 : h0.size ≤ T91.heap.size := Nat.le_trans SZ85 Kc91.1
  have ZZ93 : n0 ≤ T91.heap.size := Nat.le_trans Z0 SZ93
  have K94 : Keep h0 T91.heap [] := (K86).trans Kc91 (allS (Or.inr szz_tr_75) (allS (Or.inr szz_tc_75) (allS (Or.inr szz_ts_75) (allS (Or.inr sz_b71) all0))))
  have qa95 := A_b1_92
  obtain ⟨c95, Ar95, Sz95, H95⟩ := qa95
  have hi96 : 0 ≤ ((2 : Int32) : Int32).toInt ∧ ((2 : Int32) : Int32).toInt < (5 : Nat) := (by decide)
  obtain ⟨va2, hva2⟩ : ∃ z, z = ((rr ((2 : Int32) : Int32).toNatClampNeg)) := ⟨_, rfl⟩
  have hl96 : c95.slots[((2 : Int32) : Int32).toNatClampNeg]? = some (.long va2) := by rw [hva2]; exact H95 _ (own_ix hi96)
  have qa97 := A_b5_92
  obtain ⟨c97, Ar97, Sz97, H97⟩ := qa97
  have hi98 : 0 ≤ ((2 : Int32) : Int32).toInt ∧ ((2 : Int32) : Int32).toInt < (5 : Nat) := (by decide)
  obtain ⟨vb2, hvb2⟩ : ∃ z, z = ((cc ((2 : Int32) : Int32).toNatClampNeg)) := ⟨_, rfl⟩
  have hl98 : c97.slots[((2 : Int32) : Int32).toNatClampNeg]? = some (.int vb2) := by rw [hvb2]; exact H97 _ (own_ix hi98)
  obtain ⟨cq99, kq99, q99a, q99b, q99c⟩ := isOf hZ rfl (E_b71_92)
  obtain ⟨_, _, ⟨T99, L99, k99, n99⟩, -, X99, ⟨Lc99, hQ99, l99, y99, z99⟩, st99⟩ := X91.virtualBack hx (y := (⟨"com/example/brisk_maze/briskmaze/search/RankedFrontier", "add", "(IJI)V"⟩ : MethodName)) (z := (⟨"com/example/brisk_maze/briskmaze/search/RankedFrontier", "add", "(IJI)V"⟩ : MethodName)) hown (mvT hZ (hw _ (List.mem_of_getElem? (i := 24) rfl))) (mvT hZ (hw _ (List.mem_of_getElem? (i := 25) rfl))) (notFace_of_selects (args := #[]) (mvT hZ (hw _ (List.mem_of_getElem? (i := 27) rfl)))) (mvT hZ (hw _ (List.mem_of_getElem? (i := 27) rfl))) (mvT hZ (hw _ (List.mem_of_getElem? (i := 26) rfl))) (by decide) (backOf (W := 0) (rm5 l Z a0 hw [] b71 (102 : Int32) va2 vb2 tr_75 tc_75 ts_75 f2_91 (2 : Nat) T91.heap n0 ZZ93 P91_1 P91_2 P91_3 E_b71_92 P91_0 P91_4 P91_5 P91_6 g_tr_75 g_tc_75 g_ts_75 g_b71 ne_b71_tr_75 ne_b71_tc_75 ne_b71_ts_75 ne_tr_tc_75 ne_tr_ts_75 ne_tc_ts_75 (by decide) P91_7) hZ (hw _ (List.mem_of_getElem? (i := 28) rfl)) (hw _ (List.mem_of_getElem? (i := 11) rfl)) (by decide) (by decide)) q99a q99c (g := (mkF m 215 #[.val (.long q0), .second, .val (.long q1), .second, .val (.long q2), .second, .val (.int p3), .val (.int p4), .val (.int p5), .val (.ref b1), .val (.ref b5), .val (.ref b71), .unset, .unset, .unset, .unset, .unset, .unset, .unset, .unset, .unset, .unset, .unset, .unset] [(.int vb2), (.long va2), (.int (102 : Int32)), (.ref b71)])) rfl (by rw [hml]; rfl) (Steps.refl _) (argsL := [(.int (102 : Int32)), (.long va2), (.int vb2)]) (rest := []) (lenOf pd_7 rfl) rfl (by show 2 * 0 + _ ≤ _; exact Nat.le_of_eq rfl) (hb hby at_215) (fun _ _ => ⟨rfl, rfl, (by decide : 6 + 0 ≤ _), (by decide : 206 + 0 ≤ _)⟩)
  dsimp only [Pt.U, Pt.locs, Pt.cells, Pt.slots] at X99 l99 y99 z99 st99 hQ99
  subst y99 z99
  obtain ⟨f2_99, rfl, N99q, Kc99, P99_0, P99_1, P99_2, P99_3, P99_4, P99_5, P99_6, P99_7, P99_8⟩ := hQ99
  have N99 := Fr.app N91 N99q
  rw [← l99] at N99
  have A_b1_100 : own_A Z T99.heap b1 .long 5 (fun kk => (.long (rr kk))) := (A_b1_92).keep Kc99 (ninS ne_b1_tr_75 (ninS ne_b1_tc_75 (ninS ne_b1_ts_75 (ninS ne_b1_b71 nin0))))
  have A_b5_100 : own_A Z T99.heap b5 .int 5 (fun kk => (.int (cc kk))) := (A_b5_92).keep Kc99 (ninS ne_b5_tr_75 (ninS ne_b5_tc_75 (ninS ne_b5_ts_75 (ninS ne_b5_b71 nin0))))
  have E_b71_100 : Exa Z T99.heap b71 "com/example/brisk_maze/briskmaze/search/RankedFrontier" := (E_b71_92).keep Kc99
  have SZ101 : h0.size ≤ T99.heap.size := Nat.le_trans SZ93 Kc99.1
  have ZZ101 : n0 ≤ T99.heap.size := Nat.le_trans Z0 SZ101
  have K102 : Keep h0 T99.heap [] := (K94).trans Kc99 (allS (Or.inr szz_tr_75) (allS (Or.inr szz_tc_75) (allS (Or.inr szz_ts_75) (allS (Or.inr sz_b71) all0))))
  have qa103 := A_b1_100
  obtain ⟨c103, Ar103, Sz103, H103⟩ := qa103
  have hi104 : 0 ≤ ((3 : Int32) : Int32).toInt ∧ ((3 : Int32) : Int32).toInt < (5 : Nat) := (by decide)
  obtain ⟨va3, hva3⟩ : ∃ z, z = ((rr ((3 : Int32) : Int32).toNatClampNeg)) := ⟨_, rfl⟩
  have hl104 : c103.slots[((3 : Int32) : Int32).toNatClampNeg]? = some (.long va3) := by rw [hva3]; exact H103 _ (own_ix hi104)
  have qa105 := A_b5_100
  obtain ⟨c105, Ar105, Sz105, H105⟩ := qa105
  have hi106 : 0 ≤ ((3 : Int32) : Int32).toInt ∧ ((3 : Int32) : Int32).toInt < (5 : Nat) := (by decide)
  obtain ⟨vb3, hvb3⟩ : ∃ z, z = ((cc ((3 : Int32) : Int32).toNatClampNeg)) := ⟨_, rfl⟩
  have hl106 : c105.slots[((3 : Int32) : Int32).toNatClampNeg]? = some (.int vb3) := by rw [hvb3]; exact H105 _ (own_ix hi106)
  obtain ⟨cq107, kq107, q107a, q107b, q107c⟩ := isOf hZ rfl (E_b71_100)
  obtain ⟨_, _, ⟨T107, L107, k107, n107⟩, -, X107, ⟨Lc107, hQ107, l107, y107, z107⟩, st107⟩ := X99.virtualBack hx (y := (⟨"com/example/brisk_maze/briskmaze/search/RankedFrontier", "add", "(IJI)V"⟩ : MethodName)) (z := (⟨"com/example/brisk_maze/briskmaze/search/RankedFrontier", "add", "(IJI)V"⟩ : MethodName)) hown (mvT hZ (hw _ (List.mem_of_getElem? (i := 24) rfl))) (mvT hZ (hw _ (List.mem_of_getElem? (i := 25) rfl))) (notFace_of_selects (args := #[]) (mvT hZ (hw _ (List.mem_of_getElem? (i := 27) rfl)))) (mvT hZ (hw _ (List.mem_of_getElem? (i := 27) rfl))) (mvT hZ (hw _ (List.mem_of_getElem? (i := 26) rfl))) (by decide) (backOf (W := 0) (rm5 l Z a0 hw [] b71 (103 : Int32) va3 vb3 tr_75 tc_75 ts_75 f2_99 (3 : Nat) T99.heap n0 ZZ101 P99_1 P99_2 P99_3 E_b71_100 P99_0 P99_4 P99_5 P99_6 g_tr_75 g_tc_75 g_ts_75 g_b71 ne_b71_tr_75 ne_b71_tc_75 ne_b71_ts_75 ne_tr_tc_75 ne_tr_ts_75 ne_tc_ts_75 (by decide) P99_7) hZ (hw _ (List.mem_of_getElem? (i := 28) rfl)) (hw _ (List.mem_of_getElem? (i := 11) rfl)) (by decide) (by decide)) q107a q107c (g := (mkF m 230 #[.val (.long q0), .second, .val (.long q1), .second, .val (.long q2), .second, .val (.int p3), .val (.int p4), .val (.int p5), .val (.ref b1), .val (.ref b5), .val (.ref b71), .unset, .unset, .unset, .unset, .unset, .unset, .unset, .unset, .unset, .unset, .unset, .unset] [(.int vb3), (.long va3), (.int (103 : Int32)), (.ref b71)])) rfl (by rw [hml]; rfl) (Steps.refl _) (argsL := [(.int (103 : Int32)), (.long va3), (.int vb3)]) (rest := []) (lenOf pd_7 rfl) rfl (by show 2 * 0 + _ ≤ _; exact Nat.le_of_eq rfl) (hb hby at_230) (fun _ _ => ⟨rfl, rfl, (by decide : 6 + 0 ≤ _), (by decide : 206 + 0 ≤ _)⟩)
  dsimp only [Pt.U, Pt.locs, Pt.cells, Pt.slots] at X107 l107 y107 z107 st107 hQ107
  subst y107 z107
  obtain ⟨f2_107, rfl, N107q, Kc107, P107_0, P107_1, P107_2, P107_3, P107_4, P107_5, P107_6, P107_7, P107_8⟩ := hQ107
  have N107 := Fr.app N99 N107q
  rw [← l107] at N107
  have A_b1_108 : own_A Z T107.heap b1 .long 5 (fun kk => (.long (rr kk))) := (A_b1_100).keep Kc107 (ninS ne_b1_tr_75 (ninS ne_b1_tc_75 (ninS ne_b1_ts_75 (ninS ne_b1_b71 nin0))))
  have A_b5_108 : own_A Z T107.heap b5 .int 5 (fun kk => (.int (cc kk))) := (A_b5_100).keep Kc107 (ninS ne_b5_tr_75 (ninS ne_b5_tc_75 (ninS ne_b5_ts_75 (ninS ne_b5_b71 nin0))))
  have E_b71_108 : Exa Z T107.heap b71 "com/example/brisk_maze/briskmaze/search/RankedFrontier" := (E_b71_100).keep Kc107
  have SZ109 : h0.size ≤ T107.heap.size := Nat.le_trans SZ101 Kc107.1
  have ZZ109 : n0 ≤ T107.heap.size := Nat.le_trans Z0 SZ109
  have K110 : Keep h0 T107.heap [] := (K102).trans Kc107 (allS (Or.inr szz_tr_75) (allS (Or.inr szz_tc_75) (allS (Or.inr szz_ts_75) (allS (Or.inr sz_b71) all0))))
  have qa111 := A_b1_108
  obtain ⟨c111, Ar111, Sz111, H111⟩ := qa111
  have hi112 : 0 ≤ ((4 : Int32) : Int32).toInt ∧ ((4 : Int32) : Int32).toInt < (5 : Nat) := (by decide)
  obtain ⟨va4, hva4⟩ : ∃ z, z = ((rr ((4 : Int32) : Int32).toNatClampNeg)) := ⟨_, rfl⟩
  have hl112 : c111.slots[((4 : Int32) : Int32).toNatClampNeg]? = some (.long va4) := by rw [hva4]; exact H111 _ (own_ix hi112)
  have qa113 := A_b5_108
  obtain ⟨c113, Ar113, Sz113, H113⟩ := qa113
  have hi114 : 0 ≤ ((4 : Int32) : Int32).toInt ∧ ((4 : Int32) : Int32).toInt < (5 : Nat) := (by decide)
  obtain ⟨vb4, hvb4⟩ : ∃ z, z = ((cc ((4 : Int32) : Int32).toNatClampNeg)) := ⟨_, rfl⟩
  have hl114 : c113.slots[((4 : Int32) : Int32).toNatClampNeg]? = some (.int vb4) := by rw [hvb4]; exact H113 _ (own_ix hi114)
  obtain ⟨cq115, kq115, q115a, q115b, q115c⟩ := isOf hZ rfl (E_b71_108)
  obtain ⟨_, _, ⟨T115, L115, k115, n115⟩, -, X115, ⟨Lc115, hQ115, l115, y115, z115⟩, st115⟩ := X107.virtualBack hx (y := (⟨"com/example/brisk_maze/briskmaze/search/RankedFrontier", "add", "(IJI)V"⟩ : MethodName)) (z := (⟨"com/example/brisk_maze/briskmaze/search/RankedFrontier", "add", "(IJI)V"⟩ : MethodName)) hown (mvT hZ (hw _ (List.mem_of_getElem? (i := 24) rfl))) (mvT hZ (hw _ (List.mem_of_getElem? (i := 25) rfl))) (notFace_of_selects (args := #[]) (mvT hZ (hw _ (List.mem_of_getElem? (i := 27) rfl)))) (mvT hZ (hw _ (List.mem_of_getElem? (i := 27) rfl))) (mvT hZ (hw _ (List.mem_of_getElem? (i := 26) rfl))) (by decide) (backOf (W := 0) (rm5 l Z a0 hw [] b71 (104 : Int32) va4 vb4 tr_75 tc_75 ts_75 f2_107 (4 : Nat) T107.heap n0 ZZ109 P107_1 P107_2 P107_3 E_b71_108 P107_0 P107_4 P107_5 P107_6 g_tr_75 g_tc_75 g_ts_75 g_b71 ne_b71_tr_75 ne_b71_tc_75 ne_b71_ts_75 ne_tr_tc_75 ne_tr_ts_75 ne_tc_ts_75 (by decide) P107_7) hZ (hw _ (List.mem_of_getElem? (i := 28) rfl)) (hw _ (List.mem_of_getElem? (i := 11) rfl)) (by decide) (by decide)) q115a q115c (g := (mkF m 245 #[.val (.long q0), .second, .val (.long q1), .second, .val (.long q2), .second, .val (.int p3), .val (.int p4), .val (.int p5), .val (.ref b1), .val (.ref b5), .val (.ref b71), .unset, .unset, .unset, .unset, .unset, .unset, .unset, .unset, .unset, .unset, .unset, .unset] [(.int vb4), (.long va4), (.int (104 : Int32)), (.ref b71)])) rfl (by rw [hml]; rfl) (Steps.refl _) (argsL := [(.int (104 : Int32)), (.long va4), (.int vb4)]) (rest := []) (lenOf pd_7 rfl) rfl (by show 2 * 0 + _ ≤ _; exact Nat.le_of_eq rfl) (hb hby at_245) (fun _ _ => ⟨rfl, rfl, (by decide : 6 + 0 ≤ _), (by decide : 206 + 0 ≤ _)⟩)
  dsimp only [Pt.U, Pt.locs, Pt.cells, Pt.slots] at X115 l115 y115 z115 st115 hQ115
  subst y115 z115
  obtain ⟨f2_115, rfl, N115q, Kc115, P115_0, P115_1, P115_2, P115_3, P115_4, P115_5, P115_6, P115_7, P115_8⟩ := hQ115
  have N115 := Fr.app N107 N115q
  rw [← l115] at N115
  have A_b1_116 : own_A Z T115.heap b1 .long 5 (fun kk => (.long (rr kk))) := (A_b1_108).keep Kc115 (ninS ne_b1_tr_75 (ninS ne_b1_tc_75 (ninS ne_b1_ts_75 (ninS ne_b1_b71 nin0))))
  have A_b5_116 : own_A Z T115.heap b5 .int 5 (fun kk => (.int (cc kk))) := (A_b5_108).keep Kc115 (ninS ne_b5_tr_75 (ninS ne_b5_tc_75 (ninS ne_b5_ts_75 (ninS ne_b5_b71 nin0))))
  have E_b71_116 : Exa Z T115.heap b71 "com/example/brisk_maze/briskmaze/search/RankedFrontier" := (E_b71_108).keep Kc115
  have SZ117 : h0.size ≤ T115.heap.size := Nat.le_trans SZ109 Kc115.1
  have ZZ117 : n0 ≤ T115.heap.size := Nat.le_trans Z0 SZ117
  have K118 : Keep h0 T115.heap [] := (K110).trans Kc115 (allS (Or.inr szz_tr_75) (allS (Or.inr szz_tc_75) (allS (Or.inr szz_ts_75) (allS (Or.inr sz_b71) all0))))
  obtain ⟨cq119, kq119, q119a, q119b, q119c⟩ := isOf hZ rfl (E_b71_116)
  obtain ⟨_, _, ⟨T119, L119, k119, n119⟩, -, X119, ⟨Lc119, hQ119, l119, y119, z119⟩, st119⟩ := X115.virtualBack hx (y := (⟨"com/example/brisk_maze/briskmaze/search/RankedFrontier", "removeFirst", "()I"⟩ : MethodName)) (z := (⟨"com/example/brisk_maze/briskmaze/search/RankedFrontier", "removeFirst", "()I"⟩ : MethodName)) hown (mvT hZ (hw _ (List.mem_of_getElem? (i := 42) rfl))) (mvT hZ (hw _ (List.mem_of_getElem? (i := 43) rfl))) (notFace_of_selects (args := #[]) (mvT hZ (hw _ (List.mem_of_getElem? (i := 45) rfl)))) (mvT hZ (hw _ (List.mem_of_getElem? (i := 45) rfl))) (mvT hZ (hw _ (List.mem_of_getElem? (i := 44) rfl))) (by decide) (backOf (W := 0) (rm9 l Z a0 hw [] b71 tr_75 tc_75 ts_75 f2_115 (4 : Nat) T115.heap n0 ZZ117 P115_1 P115_2 P115_3 E_b71_116 P115_0 P115_4 P115_5 P115_6 g_tr_75 g_tc_75 g_ts_75 g_b71 ne_b71_tr_75 ne_b71_tc_75 ne_b71_ts_75 ne_tr_tc_75 ne_tr_ts_75 ne_tc_ts_75 (by decide) P115_7) hZ (hw _ (List.mem_of_getElem? (i := 46) rfl)) (hw _ (List.mem_of_getElem? (i := 11) rfl)) (by decide) (by decide)) q119a q119c (g := (mkF m 250 #[.val (.long q0), .second, .val (.long q1), .second, .val (.long q2), .second, .val (.int p3), .val (.int p4), .val (.int p5), .val (.ref b1), .val (.ref b5), .val (.ref b71), .unset, .unset, .unset, .unset, .unset, .unset, .unset, .unset, .unset, .unset, .unset, .unset] [(.ref b71)])) rfl (by rw [hml]; rfl) (Steps.refl _) (argsL := []) (rest := []) (lenOf pd_8 rfl) rfl (by show 2 * 0 + _ ≤ _; exact Nat.le_of_eq rfl) (hb hby at_250) (fun _ _ => ⟨rfl, rfl, (by decide : 6 + 0 ≤ _), (by decide : 206 + 0 ≤ _)⟩)
  dsimp only [Pt.U, Pt.locs, Pt.cells, Pt.slots] at X119 l119 y119 z119 st119 hQ119
  subst y119 z119
  obtain ⟨f2_119, rfl, N119q, Kc119, P119_0, P119_1, P119_2, P119_3, P119_4, P119_5, P119_6, P119_7, P119_8⟩ := hQ119
  have N119 := Fr.app N115 N119q
  rw [← l119] at N119
  have A_b1_120 : own_A Z T119.heap b1 .long 5 (fun kk => (.long (rr kk))) := (A_b1_116).keep Kc119 (ninS ne_b1_tr_75 (ninS ne_b1_tc_75 (ninS ne_b1_ts_75 (ninS ne_b1_b71 nin0))))
  have A_b5_120 : own_A Z T119.heap b5 .int 5 (fun kk => (.int (cc kk))) := (A_b5_116).keep Kc119 (ninS ne_b5_tr_75 (ninS ne_b5_tc_75 (ninS ne_b5_ts_75 (ninS ne_b5_b71 nin0))))
  have E_b71_120 : Exa Z T119.heap b71 "com/example/brisk_maze/briskmaze/search/RankedFrontier" := (E_b71_116).keep Kc119
  have SZ121 : h0.size ≤ T119.heap.size := Nat.le_trans SZ117 Kc119.1
  have ZZ121 : n0 ≤ T119.heap.size := Nat.le_trans Z0 SZ121
  have K122 : Keep h0 T119.heap [] := (K118).trans Kc119 (allS (Or.inr szz_tr_75) (allS (Or.inr szz_tc_75) (allS (Or.inr szz_ts_75) (allS (Or.inr sz_b71) all0))))
  obtain ⟨cq123, kq123, q123a, q123b, q123c⟩ := isOf hZ rfl (E_b71_120)
  obtain ⟨_, _, ⟨T123, L123, k123, n123⟩, -, X123, ⟨Lc123, hQ123, l123, y123, z123⟩, st123⟩ := X119.virtualBack hx (y := (⟨"com/example/brisk_maze/briskmaze/search/RankedFrontier", "removeFirst", "()I"⟩ : MethodName)) (z := (⟨"com/example/brisk_maze/briskmaze/search/RankedFrontier", "removeFirst", "()I"⟩ : MethodName)) hown (mvT hZ (hw _ (List.mem_of_getElem? (i := 42) rfl))) (mvT hZ (hw _ (List.mem_of_getElem? (i := 43) rfl))) (notFace_of_selects (args := #[]) (mvT hZ (hw _ (List.mem_of_getElem? (i := 45) rfl)))) (mvT hZ (hw _ (List.mem_of_getElem? (i := 45) rfl))) (mvT hZ (hw _ (List.mem_of_getElem? (i := 44) rfl))) (by decide) (backOf (W := 0) (rm9 l Z a0 hw [] b71 tr_75 tc_75 ts_75 f2_119 (3 : Nat) T119.heap n0 ZZ121 P119_1 P119_2 P119_3 E_b71_120 P119_0 P119_4 P119_5 P119_6 g_tr_75 g_tc_75 g_ts_75 g_b71 ne_b71_tr_75 ne_b71_tc_75 ne_b71_ts_75 ne_tr_tc_75 ne_tr_ts_75 ne_tc_ts_75 (by decide) P119_7) hZ (hw _ (List.mem_of_getElem? (i := 46) rfl)) (hw _ (List.mem_of_getElem? (i := 11) rfl)) (by decide) (by decide)) q123a q123c (g := (mkF m 257 #[.val (.long q0), .second, .val (.long q1), .second, .val (.long q2), .second, .val (.int p3), .val (.int p4), .val (.int p5), .val (.ref b1), .val (.ref b5), .val (.ref b71), .val (.int ((f2_115 0).2.2)), .unset, .unset, .unset, .unset, .unset, .unset, .unset, .unset, .unset, .unset, .unset] [(.ref b71)])) rfl (by rw [hml]; rfl) (Steps.refl _) (argsL := []) (rest := []) (lenOf pd_8 rfl) rfl (by show 2 * 0 + _ ≤ _; exact Nat.le_of_eq rfl) (hb hby at_257) (fun _ _ => ⟨rfl, rfl, (by decide : 6 + 0 ≤ _), (by decide : 206 + 0 ≤ _)⟩)
  dsimp only [Pt.U, Pt.locs, Pt.cells, Pt.slots] at X123 l123 y123 z123 st123 hQ123
  subst y123 z123
  obtain ⟨f2_123, rfl, N123q, Kc123, P123_0, P123_1, P123_2, P123_3, P123_4, P123_5, P123_6, P123_7, P123_8⟩ := hQ123
  have N123 := Fr.app N119 N123q
  rw [← l123] at N123
  have A_b1_124 : own_A Z T123.heap b1 .long 5 (fun kk => (.long (rr kk))) := (A_b1_120).keep Kc123 (ninS ne_b1_tr_75 (ninS ne_b1_tc_75 (ninS ne_b1_ts_75 (ninS ne_b1_b71 nin0))))
  have A_b5_124 : own_A Z T123.heap b5 .int 5 (fun kk => (.int (cc kk))) := (A_b5_120).keep Kc123 (ninS ne_b5_tr_75 (ninS ne_b5_tc_75 (ninS ne_b5_ts_75 (ninS ne_b5_b71 nin0))))
  have E_b71_124 : Exa Z T123.heap b71 "com/example/brisk_maze/briskmaze/search/RankedFrontier" := (E_b71_120).keep Kc123
  have SZ125 : h0.size ≤ T123.heap.size := Nat.le_trans SZ121 Kc123.1
  have ZZ125 : n0 ≤ T123.heap.size := Nat.le_trans Z0 SZ125
  have K126 : Keep h0 T123.heap [] := (K122).trans Kc123 (allS (Or.inr szz_tr_75) (allS (Or.inr szz_tc_75) (allS (Or.inr szz_ts_75) (allS (Or.inr sz_b71) all0))))
  obtain ⟨cq127, kq127, q127a, q127b, q127c⟩ := isOf hZ rfl (E_b71_124)
  obtain ⟨_, _, ⟨T127, L127, k127, n127⟩, -, X127, ⟨Lc127, hQ127, l127, y127, z127⟩, st127⟩ := X123.virtualBack hx (y := (⟨"com/example/brisk_maze/briskmaze/search/RankedFrontier", "removeFirst", "()I"⟩ : MethodName)) (z := (⟨"com/example/brisk_maze/briskmaze/search/RankedFrontier", "removeFirst", "()I"⟩ : MethodName)) hown (mvT hZ (hw _ (List.mem_of_getElem? (i := 42) rfl))) (mvT hZ (hw _ (List.mem_of_getElem? (i := 43) rfl))) (notFace_of_selects (args := #[]) (mvT hZ (hw _ (List.mem_of_getElem? (i := 45) rfl)))) (mvT hZ (hw _ (List.mem_of_getElem? (i := 45) rfl))) (mvT hZ (hw _ (List.mem_of_getElem? (i := 44) rfl))) (by decide) (backOf (W := 0) (rm9 l Z a0 hw [] b71 tr_75 tc_75 ts_75 f2_123 (2 : Nat) T123.heap n0 ZZ125 P123_1 P123_2 P123_3 E_b71_124 P123_0 P123_4 P123_5 P123_6 g_tr_75 g_tc_75 g_ts_75 g_b71 ne_b71_tr_75 ne_b71_tc_75 ne_b71_ts_75 ne_tr_tc_75 ne_tr_ts_75 ne_tc_ts_75 (by decide) P123_7) hZ (hw _ (List.mem_of_getElem? (i := 46) rfl)) (hw _ (List.mem_of_getElem? (i := 11) rfl)) (by decide) (by decide)) q127a q127c (g := (mkF m 264 #[.val (.long q0), .second, .val (.long q1), .second, .val (.long q2), .second, .val (.int p3), .val (.int p4), .val (.int p5), .val (.ref b1), .val (.ref b5), .val (.ref b71), .val (.int ((f2_115 0).2.2)), .val (.int ((f2_119 0).2.2)), .unset, .unset, .unset, .unset, .unset, .unset, .unset, .unset, .unset, .unset] [(.ref b71)])) rfl (by rw [hml]; rfl) (Steps.refl _) (argsL := []) (rest := []) (lenOf pd_8 rfl) rfl (by show 2 * 0 + _ ≤ _; exact Nat.le_of_eq rfl) (hb hby at_264) (fun _ _ => ⟨rfl, rfl, (by decide : 6 + 0 ≤ _), (by decide : 206 + 0 ≤ _)⟩)
  dsimp only [Pt.U, Pt.locs, Pt.cells, Pt.slots] at X127 l127 y127 z127 st127 hQ127
  subst y127 z127
  obtain ⟨f2_127, rfl, N127q, Kc127, P127_0, P127_1, P127_2, P127_3, P127_4, P127_5, P127_6, P127_7, P127_8⟩ := hQ127
  have N127 := Fr.app N123 N127q
  rw [← l127] at N127
  have A_b1_128 : own_A Z T127.heap b1 .long 5 (fun kk => (.long (rr kk))) := (A_b1_124).keep Kc127 (ninS ne_b1_tr_75 (ninS ne_b1_tc_75 (ninS ne_b1_ts_75 (ninS ne_b1_b71 nin0))))
  have A_b5_128 : own_A Z T127.heap b5 .int 5 (fun kk => (.int (cc kk))) := (A_b5_124).keep Kc127 (ninS ne_b5_tr_75 (ninS ne_b5_tc_75 (ninS ne_b5_ts_75 (ninS ne_b5_b71 nin0))))
  have E_b71_128 : Exa Z T127.heap b71 "com/example/brisk_maze/briskmaze/search/RankedFrontier" := (E_b71_124).keep Kc127
  have SZ129 : h0.size ≤ T127.heap.size := Nat.le_trans SZ125 Kc127.1
  have ZZ129 : n0 ≤ T127.heap.size := Nat.le_trans Z0 SZ129
  have K130 : Keep h0 T127.heap [] := (K126).trans Kc127 (allS (Or.inr szz_tr_75) (allS (Or.inr szz_tc_75) (allS (Or.inr szz_ts_75) (allS (Or.inr sz_b71) all0))))
  obtain ⟨cq131, kq131, q131a, q131b, q131c⟩ := isOf hZ rfl (E_b71_128)
  obtain ⟨_, _, ⟨T131, L131, k131, n131⟩, -, X131, ⟨Lc131, hQ131, l131, y131, z131⟩, st131⟩ := X127.virtualBack hx (y := (⟨"com/example/brisk_maze/briskmaze/search/RankedFrontier", "removeFirst", "()I"⟩ : MethodName)) (z := (⟨"com/example/brisk_maze/briskmaze/search/RankedFrontier", "removeFirst", "()I"⟩ : MethodName)) hown (mvT hZ (hw _ (List.mem_of_getElem? (i := 42) rfl))) (mvT hZ (hw _ (List.mem_of_getElem? (i := 43) rfl))) (notFace_of_selects (args := #[]) (mvT hZ (hw _ (List.mem_of_getElem? (i := 45) rfl)))) (mvT hZ (hw _ (List.mem_of_getElem? (i := 45) rfl))) (mvT hZ (hw _ (List.mem_of_getElem? (i := 44) rfl))) (by decide) (backOf (W := 0) (rm9 l Z a0 hw [] b71 tr_75 tc_75 ts_75 f2_127 (1 : Nat) T127.heap n0 ZZ129 P127_1 P127_2 P127_3 E_b71_128 P127_0 P127_4 P127_5 P127_6 g_tr_75 g_tc_75 g_ts_75 g_b71 ne_b71_tr_75 ne_b71_tc_75 ne_b71_ts_75 ne_tr_tc_75 ne_tr_ts_75 ne_tc_ts_75 (by decide) P127_7) hZ (hw _ (List.mem_of_getElem? (i := 46) rfl)) (hw _ (List.mem_of_getElem? (i := 11) rfl)) (by decide) (by decide)) q131a q131c (g := (mkF m 271 #[.val (.long q0), .second, .val (.long q1), .second, .val (.long q2), .second, .val (.int p3), .val (.int p4), .val (.int p5), .val (.ref b1), .val (.ref b5), .val (.ref b71), .val (.int ((f2_115 0).2.2)), .val (.int ((f2_119 0).2.2)), .val (.int ((f2_123 0).2.2)), .unset, .unset, .unset, .unset, .unset, .unset, .unset, .unset, .unset] [(.ref b71)])) rfl (by rw [hml]; rfl) (Steps.refl _) (argsL := []) (rest := []) (lenOf pd_8 rfl) rfl (by show 2 * 0 + _ ≤ _; exact Nat.le_of_eq rfl) (hb hby at_271) (fun _ _ => ⟨rfl, rfl, (by decide : 6 + 0 ≤ _), (by decide : 206 + 0 ≤ _)⟩)
  dsimp only [Pt.U, Pt.locs, Pt.cells, Pt.slots] at X131 l131 y131 z131 st131 hQ131
  subst y131 z131
  obtain ⟨f2_131, rfl, N131q, Kc131, P131_0, P131_1, P131_2, P131_3, P131_4, P131_5, P131_6, P131_7, P131_8⟩ := hQ131
  have N131 := Fr.app N127 N131q
  rw [← l131] at N131
  have A_b1_132 : own_A Z T131.heap b1 .long 5 (fun kk => (.long (rr kk))) := (A_b1_128).keep Kc131 (ninS ne_b1_tr_75 (ninS ne_b1_tc_75 (ninS ne_b1_ts_75 (ninS ne_b1_b71 nin0))))
  have A_b5_132 : own_A Z T131.heap b5 .int 5 (fun kk => (.int (cc kk))) := (A_b5_128).keep Kc131 (ninS ne_b5_tr_75 (ninS ne_b5_tc_75 (ninS ne_b5_ts_75 (ninS ne_b5_b71 nin0))))
  have E_b71_132 : Exa Z T131.heap b71 "com/example/brisk_maze/briskmaze/search/RankedFrontier" := (E_b71_128).keep Kc131
  have SZ133 : h0.size ≤ T131.heap.size := Nat.le_trans SZ129 Kc131.1
  have ZZ133 : n0 ≤ T131.heap.size := Nat.le_trans Z0 SZ133
  have K134 : Keep h0 T131.heap [] := (K130).trans Kc131 (allS (Or.inr szz_tr_75) (allS (Or.inr szz_tc_75) (allS (Or.inr szz_ts_75) (allS (Or.inr sz_b71) all0))))
  obtain ⟨cq135, kq135, q135a, q135b, q135c⟩ := isOf hZ rfl (E_b71_132)
  obtain ⟨_, _, ⟨T135, L135, k135, n135⟩, -, X135, ⟨Lc135, hQ135, l135, y135, z135⟩, st135⟩ := X131.virtualBack hx (y := (⟨"com/example/brisk_maze/briskmaze/search/RankedFrontier", "removeFirst", "()I"⟩ : MethodName)) (z := (⟨"com/example/brisk_maze/briskmaze/search/RankedFrontier", "removeFirst", "()I"⟩ : MethodName)) hown (mvT hZ (hw _ (List.mem_of_getElem? (i := 42) rfl))) (mvT hZ (hw _ (List.mem_of_getElem? (i := 43) rfl))) (notFace_of_selects (args := #[]) (mvT hZ (hw _ (List.mem_of_getElem? (i := 45) rfl)))) (mvT hZ (hw _ (List.mem_of_getElem? (i := 45) rfl))) (mvT hZ (hw _ (List.mem_of_getElem? (i := 44) rfl))) (by decide) (backOf (W := 0) (rm9 l Z a0 hw [] b71 tr_75 tc_75 ts_75 f2_131 (0 : Nat) T131.heap n0 ZZ133 P131_1 P131_2 P131_3 E_b71_132 P131_0 P131_4 P131_5 P131_6 g_tr_75 g_tc_75 g_ts_75 g_b71 ne_b71_tr_75 ne_b71_tc_75 ne_b71_ts_75 ne_tr_tc_75 ne_tr_ts_75 ne_tc_ts_75 (by decide) P131_7) hZ (hw _ (List.mem_of_getElem? (i := 46) rfl)) (hw _ (List.mem_of_getElem? (i := 11) rfl)) (by decide) (by decide)) q135a q135c (g := (mkF m 278 #[.val (.long q0), .second, .val (.long q1), .second, .val (.long q2), .second, .val (.int p3), .val (.int p4), .val (.int p5), .val (.ref b1), .val (.ref b5), .val (.ref b71), .val (.int ((f2_115 0).2.2)), .val (.int ((f2_119 0).2.2)), .val (.int ((f2_123 0).2.2)), .val (.int ((f2_127 0).2.2)), .unset, .unset, .unset, .unset, .unset, .unset, .unset, .unset] [(.ref b71)])) rfl (by rw [hml]; rfl) (Steps.refl _) (argsL := []) (rest := []) (lenOf pd_8 rfl) rfl (by show 2 * 0 + _ ≤ _; exact Nat.le_of_eq rfl) (hb hby at_278) (fun _ _ => ⟨rfl, rfl, (by decide : 6 + 0 ≤ _), (by decide : 206 + 0 ≤ _)⟩)
  dsimp only [Pt.U, Pt.locs, Pt.cells, Pt.slots] at X135 l135 y135 z135 st135 hQ135
  subst y135 z135
  obtain ⟨f2_135, rfl, N135q, Kc135, P135_0, P135_1, P135_2, P135_3, P135_4, P135_5, P135_6, P135_7, P135_8⟩ := hQ135
  have N135 := Fr.app N131 N135q
  rw [← l135] at N135
  have A_b1_136 : own_A Z T135.heap b1 .long 5 (fun kk => (.long (rr kk))) := (A_b1_132).keep Kc135 (ninS ne_b1_tr_75 (ninS ne_b1_tc_75 (ninS ne_b1_ts_75 (ninS ne_b1_b71 nin0))))
  have A_b5_136 : own_A Z T135.heap b5 .int 5 (fun kk => (.int (cc kk))) := (A_b5_132).keep Kc135 (ninS ne_b5_tr_75 (ninS ne_b5_tc_75 (ninS ne_b5_ts_75 (ninS ne_b5_b71 nin0))))
  have E_b71_136 : Exa Z T135.heap b71 "com/example/brisk_maze/briskmaze/search/RankedFrontier" := (E_b71_132).keep Kc135
  have SZ137 : h0.size ≤ T135.heap.size := Nat.le_trans SZ133 Kc135.1
  have ZZ137 : n0 ≤ T135.heap.size := Nat.le_trans Z0 SZ137
  have K138 : Keep h0 T135.heap [] := (K134).trans Kc135 (allS (Or.inr szz_tr_75) (allS (Or.inr szz_tc_75) (allS (Or.inr szz_ts_75) (allS (Or.inr sz_b71) all0))))
  obtain ⟨cq139, kq139, q139a, q139b, q139c⟩ := isOf hZ rfl (E_b71_136)
  obtain ⟨_, _, ⟨T139, L139, k139, n139⟩, -, X139, ⟨Lc139, hQ139, l139, y139, z139⟩, st139⟩ := X135.virtualBack hx (y := (⟨"com/example/brisk_maze/briskmaze/search/RankedFrontier", "isEmpty", "()Z"⟩ : MethodName)) (z := (⟨"com/example/brisk_maze/briskmaze/search/RankedFrontier", "isEmpty", "()Z"⟩ : MethodName)) hown (mvT hZ (hw _ (List.mem_of_getElem? (i := 47) rfl))) (mvT hZ (hw _ (List.mem_of_getElem? (i := 48) rfl))) (notFace_of_selects (args := #[]) (mvT hZ (hw _ (List.mem_of_getElem? (i := 50) rfl)))) (mvT hZ (hw _ (List.mem_of_getElem? (i := 50) rfl))) (mvT hZ (hw _ (List.mem_of_getElem? (i := 49) rfl))) (by decide) (backOf (W := 0) (rm10 l Z a0 hw [] b71 ((0 : Nat).toInt32) T135.heap n0 ZZ137 P135_0) hZ (hw _ (List.mem_of_getElem? (i := 51) rfl)) (hw _ (List.mem_of_getElem? (i := 11) rfl)) (by decide) (by decide)) q139a q139c (g := (mkF m 285 #[.val (.long q0), .second, .val (.long q1), .second, .val (.long q2), .second, .val (.int p3), .val (.int p4), .val (.int p5), .val (.ref b1), .val (.ref b5), .val (.ref b71), .val (.int ((f2_115 0).2.2)), .val (.int ((f2_119 0).2.2)), .val (.int ((f2_123 0).2.2)), .val (.int ((f2_127 0).2.2)), .val (.int ((f2_131 0).2.2)), .unset, .unset, .unset, .unset, .unset, .unset, .unset] [(.ref b71)])) rfl (by rw [hml]; rfl) (Steps.refl _) (argsL := []) (rest := []) (lenOf pd_9 rfl) rfl (by show 2 * 0 + _ ≤ _; exact Nat.le_of_eq rfl) (hb hby at_285) (fun _ _ => ⟨rfl, rfl, (by decide : 6 + 0 ≤ _), (by decide : 206 + 0 ≤ _)⟩)
  dsimp only [Pt.U, Pt.locs, Pt.cells, Pt.slots] at X139 l139 y139 z139 st139 hQ139
  subst y139 z139
  obtain ⟨rfl, N139q, hh139⟩ := hQ139
  have N139 := Fr.app N135 N139q
  rw [← l139] at N139
  have D0 := own_DL0 rr cc (fun _ => ((0 : Int64), (0 : Int32), (0 : Int32)))
  have EQ0 : (va0, vb0, (100 : Int32)) = own_ent rr cc 0 := by rw [hva0, hvb0]; rfl
  have R0 := P83_8
  rw [EQ0] at R0
  have D1 := own_DL_add D0 R0
  have EQ1 : (va1, vb1, (101 : Int32)) = own_ent rr cc 1 := by rw [hva1, hvb1]; rfl
  have R1 := P91_8
  rw [EQ1] at R1
  have D2 := own_DL_add D1 R1
  have EQ2 : (va2, vb2, (102 : Int32)) = own_ent rr cc 2 := by rw [hva2, hvb2]; rfl
  have R2 := P99_8
  rw [EQ2] at R2
  have D3 := own_DL_add D2 R2
  have EQ3 : (va3, vb3, (103 : Int32)) = own_ent rr cc 3 := by rw [hva3, hvb3]; rfl
  have R3 := P107_8
  rw [EQ3] at R3
  have D4 := own_DL_add D3 R3
  have EQ4 : (va4, vb4, (104 : Int32)) = own_ent rr cc 4 := by rw [hva4, hvb4]; rfl
  have R4 := P115_8
  rw [EQ4] at R4
  have D5 := own_DL_add D4 R4
  obtain ⟨l0, hl0, hu0, he0, G0, hb0⟩ := own_DL_rem D5 P115_7 P119_8
  obtain ⟨l1, hl1, hu1, he1, G1, hb1⟩ := own_DL_rem G0 P119_7 P123_8
  obtain ⟨l2, hl2, hu2, he2, G2, hb2⟩ := own_DL_rem G1 P123_7 P127_8
  obtain ⟨l3, hl3, hu3, he3, G3, hb3⟩ := own_DL_rem G2 P127_7 P131_8
  obtain ⟨l4, hl4, hu4, he4, G4, hb4⟩ := own_DL_rem G3 P131_7 P135_8
  have pre140 : ∀ t, Steps p.tables e below (T139.setTop (mkF m 290 #[.val (.long q0), .second, .val (.long q1), .second, .val (.long q2), .second, .val (.int p3), .val (.int p4), .val (.int p5), .val (.ref b1), .val (.ref b5), .val (.ref b71), .val (.int ((f2_115 0).2.2)), .val (.int ((f2_119 0).2.2)), .val (.int ((f2_123 0).2.2)), .val (.int ((f2_127 0).2.2)), .val (.int ((f2_131 0).2.2)), .val (.int ((f10_12 ((0 : Nat).toInt32)) &&& 1)), .unset, .unset, .unset, .unset, .unset, .unset] [])) t → Steps p.tables e below (s₁.setTop (entryFrame m #[(.long q0), (.long q1), (.long q2), (.int p3), (.int p4), (.int p5)] maxLocals)) t := fun t k => pre0 t (by
    show Steps p.tables e below (s₁.setTop (mkF m 0 #[.val (.long q0), .second, .val (.long q1), .second, .val (.long q2), .second, .val (.int p3), .val (.int p4), .val (.int p5), .unset, .unset, .unset, .unset, .unset, .unset, .unset, .unset, .unset, .unset, .unset, .unset, .unset, .unset, .unset] [])) _
    refine XS.iconst X0.here hx rfl (hb hby at_0) ?_
    show Steps p.tables e below (s₁.setTop (mkF m 1 #[.val (.long q0), .second, .val (.long q1), .second, .val (.long q2), .second, .val (.int p3), .val (.int p4), .val (.int p5), .unset, .unset, .unset, .unset, .unset, .unset, .unset, .unset, .unset, .unset, .unset, .unset, .unset, .unset, .unset] [(.int (5 : Int32))])) _
    refine st1 _ ?_
    show Steps p.tables e below (T1.setTop (mkF m 3 #[.val (.long q0), .second, .val (.long q1), .second, .val (.long q2), .second, .val (.int p3), .val (.int p4), .val (.int p5), .unset, .unset, .unset, .unset, .unset, .unset, .unset, .unset, .unset, .unset, .unset, .unset, .unset, .unset, .unset] [(.ref b1)])) _
    refine XS.astore X1.here hx rfl (hb hby at_3) rfl rfl (l' := #[.val (.long q0), .second, .val (.long q1), .second, .val (.long q2), .second, .val (.int p3), .val (.int p4), .val (.int p5), .val (.ref b1), .unset, .unset, .unset, .unset, .unset, .unset, .unset, .unset, .unset, .unset, .unset, .unset, .unset, .unset]) rfl ?_
    show Steps p.tables e below (T1.setTop (mkF m 5 #[.val (.long q0), .second, .val (.long q1), .second, .val (.long q2), .second, .val (.int p3), .val (.int p4), .val (.int p5), .val (.ref b1), .unset, .unset, .unset, .unset, .unset, .unset, .unset, .unset, .unset, .unset, .unset, .unset, .unset, .unset] [])) _
    refine XS.iconst X1.here hx rfl (hb hby at_5) ?_
    show Steps p.tables e below (T1.setTop (mkF m 6 #[.val (.long q0), .second, .val (.long q1), .second, .val (.long q2), .second, .val (.int p3), .val (.int p4), .val (.int p5), .val (.ref b1), .unset, .unset, .unset, .unset, .unset, .unset, .unset, .unset, .unset, .unset, .unset, .unset, .unset, .unset] [(.int (5 : Int32))])) _
    refine st5 _ ?_
    show Steps p.tables e below (T5.setTop (mkF m 8 #[.val (.long q0), .second, .val (.long q1), .second, .val (.long q2), .second, .val (.int p3), .val (.int p4), .val (.int p5), .val (.ref b1), .unset, .unset, .unset, .unset, .unset, .unset, .unset, .unset, .unset, .unset, .unset, .unset, .unset, .unset] [(.ref b5)])) _
    refine XS.astore X5.here hx rfl (hb hby at_8) rfl rfl (l' := #[.val (.long q0), .second, .val (.long q1), .second, .val (.long q2), .second, .val (.int p3), .val (.int p4), .val (.int p5), .val (.ref b1), .val (.ref b5), .unset, .unset, .unset, .unset, .unset, .unset, .unset, .unset, .unset, .unset, .unset, .unset, .unset]) rfl ?_
    show Steps p.tables e below (T5.setTop (mkF m 10 #[.val (.long q0), .second, .val (.long q1), .second, .val (.long q2), .second, .val (.int p3), .val (.int p4), .val (.int p5), .val (.ref b1), .val (.ref b5), .unset, .unset, .unset, .unset, .unset, .unset, .unset, .unset, .unset, .unset, .unset, .unset, .unset] [])) _
    refine XS.aload X5.here hx rfl (hb hby at_10) rfl rfl ?_
    show Steps p.tables e below (T5.setTop (mkF m 12 #[.val (.long q0), .second, .val (.long q1), .second, .val (.long q2), .second, .val (.int p3), .val (.int p4), .val (.int p5), .val (.ref b1), .val (.ref b5), .unset, .unset, .unset, .unset, .unset, .unset, .unset, .unset, .unset, .unset, .unset, .unset, .unset] [(.ref b1)])) _
    refine XS.iconst X5.here hx rfl (hb hby at_12) ?_
    show Steps p.tables e below (T5.setTop (mkF m 13 #[.val (.long q0), .second, .val (.long q1), .second, .val (.long q2), .second, .val (.int p3), .val (.int p4), .val (.int p5), .val (.ref b1), .val (.ref b5), .unset, .unset, .unset, .unset, .unset, .unset, .unset, .unset, .unset, .unset, .unset, .unset, .unset] [(.int (0 : Int32)), (.ref b1)])) _
    refine XS.lloadN X5.here hx rfl (hb hby at_13) rfl ?_
    show Steps p.tables e below (T5.setTop (mkF m 14 #[.val (.long q0), .second, .val (.long q1), .second, .val (.long q2), .second, .val (.int p3), .val (.int p4), .val (.int p5), .val (.ref b1), .val (.ref b5), .unset, .unset, .unset, .unset, .unset, .unset, .unset, .unset, .unset, .unset, .unset, .unset, .unset] [(.long q0), (.int (0 : Int32)), (.ref b1)])) _
    refine XS.lloadN X5.here hx rfl (hb hby at_14) rfl ?_
    show Steps p.tables e below (T5.setTop (mkF m 15 #[.val (.long q0), .second, .val (.long q1), .second, .val (.long q2), .second, .val (.int p3), .val (.int p4), .val (.int p5), .val (.ref b1), .val (.ref b5), .unset, .unset, .unset, .unset, .unset, .unset, .unset, .unset, .unset, .unset, .unset, .unset, .unset] [(.long q1), (.long q0), (.int (0 : Int32)), (.ref b1)])) _
    refine XS.lload X5.here hx rfl (hb hby at_15) rfl ?_
    show Steps p.tables e below (T5.setTop (mkF m 17 #[.val (.long q0), .second, .val (.long q1), .second, .val (.long q2), .second, .val (.int p3), .val (.int p4), .val (.int p5), .val (.ref b1), .val (.ref b5), .unset, .unset, .unset, .unset, .unset, .unset, .unset, .unset, .unset, .unset, .unset, .unset, .unset] [(.long q2), (.long q1), (.long q0), (.int (0 : Int32)), (.ref b1)])) _
    refine XS.iload X5.here hx rfl (hb hby at_17) rfl ?_
    show Steps p.tables e below (T5.setTop (mkF m 19 #[.val (.long q0), .second, .val (.long q1), .second, .val (.long q2), .second, .val (.int p3), .val (.int p4), .val (.int p5), .val (.ref b1), .val (.ref b5), .unset, .unset, .unset, .unset, .unset, .unset, .unset, .unset, .unset, .unset, .unset, .unset, .unset] [(.int p5), (.long q2), (.long q1), (.long q0), (.int (0 : Int32)), (.ref b1)])) _
    refine st9 _ ?_
    show Steps p.tables e below (T9.setTop (mkF m 22 #[.val (.long q0), .second, .val (.long q1), .second, .val (.long q2), .second, .val (.int p3), .val (.int p4), .val (.int p5), .val (.ref b1), .val (.ref b5), .unset, .unset, .unset, .unset, .unset, .unset, .unset, .unset, .unset, .unset, .unset, .unset, .unset] [(.long (f1_ret q0 q1 q2 p5)), (.int (0 : Int32)), (.ref b1)])) _
    refine st11 _ ?_
    show Steps p.tables e below (T11.setTop (mkF m 23 #[.val (.long q0), .second, .val (.long q1), .second, .val (.long q2), .second, .val (.int p3), .val (.int p4), .val (.int p5), .val (.ref b1), .val (.ref b5), .unset, .unset, .unset, .unset, .unset, .unset, .unset, .unset, .unset, .unset, .unset, .unset, .unset] [])) _
    refine XS.aload X11.here hx rfl (hb hby at_23) rfl rfl ?_
    show Steps p.tables e below (T11.setTop (mkF m 25 #[.val (.long q0), .second, .val (.long q1), .second, .val (.long q2), .second, .val (.int p3), .val (.int p4), .val (.int p5), .val (.ref b1), .val (.ref b5), .unset, .unset, .unset, .unset, .unset, .unset, .unset, .unset, .unset, .unset, .unset, .unset, .unset] [(.ref b5)])) _
    refine XS.iconst X11.here hx rfl (hb hby at_25) ?_
    show Steps p.tables e below (T11.setTop (mkF m 26 #[.val (.long q0), .second, .val (.long q1), .second, .val (.long q2), .second, .val (.int p3), .val (.int p4), .val (.int p5), .val (.ref b1), .val (.ref b5), .unset, .unset, .unset, .unset, .unset, .unset, .unset, .unset, .unset, .unset, .unset, .unset, .unset] [(.int (0 : Int32)), (.ref b5)])) _
    refine XS.iload X11.here hx rfl (hb hby at_26) rfl ?_
    show Steps p.tables e below (T11.setTop (mkF m 28 #[.val (.long q0), .second, .val (.long q1), .second, .val (.long q2), .second, .val (.int p3), .val (.int p4), .val (.int p5), .val (.ref b1), .val (.ref b5), .unset, .unset, .unset, .unset, .unset, .unset, .unset, .unset, .unset, .unset, .unset, .unset, .unset] [(.int p3), (.int (0 : Int32)), (.ref b5)])) _
    refine XS.iload X11.here hx rfl (hb hby at_28) rfl ?_
    show Steps p.tables e below (T11.setTop (mkF m 30 #[.val (.long q0), .second, .val (.long q1), .second, .val (.long q2), .second, .val (.int p3), .val (.int p4), .val (.int p5), .val (.ref b1), .val (.ref b5), .unset, .unset, .unset, .unset, .unset, .unset, .unset, .unset, .unset, .unset, .unset, .unset, .unset] [(.int p4), (.int p3), (.int (0 : Int32)), (.ref b5)])) _
    refine XS.iload X11.here hx rfl (hb hby at_30) rfl ?_
    show Steps p.tables e below (T11.setTop (mkF m 32 #[.val (.long q0), .second, .val (.long q1), .second, .val (.long q2), .second, .val (.int p3), .val (.int p4), .val (.int p5), .val (.ref b1), .val (.ref b5), .unset, .unset, .unset, .unset, .unset, .unset, .unset, .unset, .unset, .unset, .unset, .unset, .unset] [(.int p5), (.int p4), (.int p3), (.int (0 : Int32)), (.ref b5)])) _
    refine XS.iconst X11.here hx rfl (hb hby at_32) ?_
    show Steps p.tables e below (T11.setTop (mkF m 33 #[.val (.long q0), .second, .val (.long q1), .second, .val (.long q2), .second, .val (.int p3), .val (.int p4), .val (.int p5), .val (.ref b1), .val (.ref b5), .unset, .unset, .unset, .unset, .unset, .unset, .unset, .unset, .unset, .unset, .unset, .unset, .unset] [(.int (2 : Int32)), (.int p5), (.int p4), (.int p3), (.int (0 : Int32)), (.ref b5)])) _
    refine XS.iushr X11.here hx rfl (hb hby at_33) rfl ?_
    show Steps p.tables e below (T11.setTop (mkF m 34 #[.val (.long q0), .second, .val (.long q1), .second, .val (.long q2), .second, .val (.int p3), .val (.int p4), .val (.int p5), .val (.ref b1), .val (.ref b5), .unset, .unset, .unset, .unset, .unset, .unset, .unset, .unset, .unset, .unset, .unset, .unset, .unset] [(.int ((p5.toUInt32 >>> ((2 : Int32) &&& 31).toUInt32).toInt32)), (.int p4), (.int p3), (.int (0 : Int32)), (.ref b5)])) _
    refine st15 _ ?_
    show Steps p.tables e below (T15.setTop (mkF m 37 #[.val (.long q0), .second, .val (.long q1), .second, .val (.long q2), .second, .val (.int p3), .val (.int p4), .val (.int p5), .val (.ref b1), .val (.ref b5), .unset, .unset, .unset, .unset, .unset, .unset, .unset, .unset, .unset, .unset, .unset, .unset, .unset] [(.int (f2_ret p3 p4 ((p5.toUInt32 >>> ((2 : Int32) &&& 31).toUInt32).toInt32))), (.int (0 : Int32)), (.ref b5)])) _
    refine st17 _ ?_
    show Steps p.tables e below (T17.setTop (mkF m 38 #[.val (.long q0), .second, .val (.long q1), .second, .val (.long q2), .second, .val (.int p3), .val (.int p4), .val (.int p5), .val (.ref b1), .val (.ref b5), .unset, .unset, .unset, .unset, .unset, .unset, .unset, .unset, .unset, .unset, .unset, .unset, .unset] [])) _
    refine XS.aload X17.here hx rfl (hb hby at_38) rfl rfl ?_
    show Steps p.tables e below (T17.setTop (mkF m 40 #[.val (.long q0), .second, .val (.long q1), .second, .val (.long q2), .second, .val (.int p3), .val (.int p4), .val (.int p5), .val (.ref b1), .val (.ref b5), .unset, .unset, .unset, .unset, .unset, .unset, .unset, .unset, .unset, .unset, .unset, .unset, .unset] [(.ref b1)])) _
    refine XS.iconst X17.here hx rfl (hb hby at_40) ?_
    show Steps p.tables e below (T17.setTop (mkF m 41 #[.val (.long q0), .second, .val (.long q1), .second, .val (.long q2), .second, .val (.int p3), .val (.int p4), .val (.int p5), .val (.ref b1), .val (.ref b5), .unset, .unset, .unset, .unset, .unset, .unset, .unset, .unset, .unset, .unset, .unset, .unset, .unset] [(.int (1 : Int32)), (.ref b1)])) _
    refine XS.lloadN X17.here hx rfl (hb hby at_41) rfl ?_
    show Steps p.tables e below (T17.setTop (mkF m 42 #[.val (.long q0), .second, .val (.long q1), .second, .val (.long q2), .second, .val (.int p3), .val (.int p4), .val (.int p5), .val (.ref b1), .val (.ref b5), .unset, .unset, .unset, .unset, .unset, .unset, .unset, .unset, .unset, .unset, .unset, .unset, .unset] [(.long q0), (.int (1 : Int32)), (.ref b1)])) _
    refine XS.lloadN X17.here hx rfl (hb hby at_42) rfl ?_
    show Steps p.tables e below (T17.setTop (mkF m 43 #[.val (.long q0), .second, .val (.long q1), .second, .val (.long q2), .second, .val (.int p3), .val (.int p4), .val (.int p5), .val (.ref b1), .val (.ref b5), .unset, .unset, .unset, .unset, .unset, .unset, .unset, .unset, .unset, .unset, .unset, .unset, .unset] [(.long q1), (.long q0), (.int (1 : Int32)), (.ref b1)])) _
    refine XS.lload X17.here hx rfl (hb hby at_43) rfl ?_
    show Steps p.tables e below (T17.setTop (mkF m 45 #[.val (.long q0), .second, .val (.long q1), .second, .val (.long q2), .second, .val (.int p3), .val (.int p4), .val (.int p5), .val (.ref b1), .val (.ref b5), .unset, .unset, .unset, .unset, .unset, .unset, .unset, .unset, .unset, .unset, .unset, .unset, .unset] [(.long q2), (.long q1), (.long q0), (.int (1 : Int32)), (.ref b1)])) _
    refine XS.iload X17.here hx rfl (hb hby at_45) rfl ?_
    show Steps p.tables e below (T17.setTop (mkF m 47 #[.val (.long q0), .second, .val (.long q1), .second, .val (.long q2), .second, .val (.int p3), .val (.int p4), .val (.int p5), .val (.ref b1), .val (.ref b5), .unset, .unset, .unset, .unset, .unset, .unset, .unset, .unset, .unset, .unset, .unset, .unset, .unset] [(.int p5), (.long q2), (.long q1), (.long q0), (.int (1 : Int32)), (.ref b1)])) _
    refine XS.iconst X17.here hx rfl (hb hby at_47) ?_
    show Steps p.tables e below (T17.setTop (mkF m 48 #[.val (.long q0), .second, .val (.long q1), .second, .val (.long q2), .second, .val (.int p3), .val (.int p4), .val (.int p5), .val (.ref b1), .val (.ref b5), .unset, .unset, .unset, .unset, .unset, .unset, .unset, .unset, .unset, .unset, .unset, .unset, .unset] [(.int (3 : Int32)), (.int p5), (.long q2), (.long q1), (.long q0), (.int (1 : Int32)), (.ref b1)])) _
    refine XS.iushr X17.here hx rfl (hb hby at_48) rfl ?_
    show Steps p.tables e below (T17.setTop (mkF m 49 #[.val (.long q0), .second, .val (.long q1), .second, .val (.long q2), .second, .val (.int p3), .val (.int p4), .val (.int p5), .val (.ref b1), .val (.ref b5), .unset, .unset, .unset, .unset, .unset, .unset, .unset, .unset, .unset, .unset, .unset, .unset, .unset] [(.int ((p5.toUInt32 >>> ((3 : Int32) &&& 31).toUInt32).toInt32)), (.long q2), (.long q1), (.long q0), (.int (1 : Int32)), (.ref b1)])) _
    refine st21 _ ?_
    show Steps p.tables e below (T21.setTop (mkF m 52 #[.val (.long q0), .second, .val (.long q1), .second, .val (.long q2), .second, .val (.int p3), .val (.int p4), .val (.int p5), .val (.ref b1), .val (.ref b5), .unset, .unset, .unset, .unset, .unset, .unset, .unset, .unset, .unset, .unset, .unset, .unset, .unset] [(.long (f1_ret q0 q1 q2 ((p5.toUInt32 >>> ((3 : Int32) &&& 31).toUInt32).toInt32))), (.int (1 : Int32)), (.ref b1)])) _
    refine st23 _ ?_
    show Steps p.tables e below (T23.setTop (mkF m 53 #[.val (.long q0), .second, .val (.long q1), .second, .val (.long q2), .second, .val (.int p3), .val (.int p4), .val (.int p5), .val (.ref b1), .val (.ref b5), .unset, .unset, .unset, .unset, .unset, .unset, .unset, .unset, .unset, .unset, .unset, .unset, .unset] [])) _
    refine XS.aload X23.here hx rfl (hb hby at_53) rfl rfl ?_
    show Steps p.tables e below (T23.setTop (mkF m 55 #[.val (.long q0), .second, .val (.long q1), .second, .val (.long q2), .second, .val (.int p3), .val (.int p4), .val (.int p5), .val (.ref b1), .val (.ref b5), .unset, .unset, .unset, .unset, .unset, .unset, .unset, .unset, .unset, .unset, .unset, .unset, .unset] [(.ref b5)])) _
    refine XS.iconst X23.here hx rfl (hb hby at_55) ?_
    show Steps p.tables e below (T23.setTop (mkF m 56 #[.val (.long q0), .second, .val (.long q1), .second, .val (.long q2), .second, .val (.int p3), .val (.int p4), .val (.int p5), .val (.ref b1), .val (.ref b5), .unset, .unset, .unset, .unset, .unset, .unset, .unset, .unset, .unset, .unset, .unset, .unset, .unset] [(.int (1 : Int32)), (.ref b5)])) _
    refine XS.iload X23.here hx rfl (hb hby at_56) rfl ?_
    show Steps p.tables e below (T23.setTop (mkF m 58 #[.val (.long q0), .second, .val (.long q1), .second, .val (.long q2), .second, .val (.int p3), .val (.int p4), .val (.int p5), .val (.ref b1), .val (.ref b5), .unset, .unset, .unset, .unset, .unset, .unset, .unset, .unset, .unset, .unset, .unset, .unset, .unset] [(.int p3), (.int (1 : Int32)), (.ref b5)])) _
    refine XS.iload X23.here hx rfl (hb hby at_58) rfl ?_
    show Steps p.tables e below (T23.setTop (mkF m 60 #[.val (.long q0), .second, .val (.long q1), .second, .val (.long q2), .second, .val (.int p3), .val (.int p4), .val (.int p5), .val (.ref b1), .val (.ref b5), .unset, .unset, .unset, .unset, .unset, .unset, .unset, .unset, .unset, .unset, .unset, .unset, .unset] [(.int p4), (.int p3), (.int (1 : Int32)), (.ref b5)])) _
    refine XS.iload X23.here hx rfl (hb hby at_60) rfl ?_
    show Steps p.tables e below (T23.setTop (mkF m 62 #[.val (.long q0), .second, .val (.long q1), .second, .val (.long q2), .second, .val (.int p3), .val (.int p4), .val (.int p5), .val (.ref b1), .val (.ref b5), .unset, .unset, .unset, .unset, .unset, .unset, .unset, .unset, .unset, .unset, .unset, .unset, .unset] [(.int p5), (.int p4), (.int p3), (.int (1 : Int32)), (.ref b5)])) _
    refine XS.iconst X23.here hx rfl (hb hby at_62) ?_
    show Steps p.tables e below (T23.setTop (mkF m 63 #[.val (.long q0), .second, .val (.long q1), .second, .val (.long q2), .second, .val (.int p3), .val (.int p4), .val (.int p5), .val (.ref b1), .val (.ref b5), .unset, .unset, .unset, .unset, .unset, .unset, .unset, .unset, .unset, .unset, .unset, .unset, .unset] [(.int (5 : Int32)), (.int p5), (.int p4), (.int p3), (.int (1 : Int32)), (.ref b5)])) _
    refine XS.iushr X23.here hx rfl (hb hby at_63) rfl ?_
    show Steps p.tables e below (T23.setTop (mkF m 64 #[.val (.long q0), .second, .val (.long q1), .second, .val (.long q2), .second, .val (.int p3), .val (.int p4), .val (.int p5), .val (.ref b1), .val (.ref b5), .unset, .unset, .unset, .unset, .unset, .unset, .unset, .unset, .unset, .unset, .unset, .unset, .unset] [(.int ((p5.toUInt32 >>> ((5 : Int32) &&& 31).toUInt32).toInt32)), (.int p4), (.int p3), (.int (1 : Int32)), (.ref b5)])) _
    refine st27 _ ?_
    show Steps p.tables e below (T27.setTop (mkF m 67 #[.val (.long q0), .second, .val (.long q1), .second, .val (.long q2), .second, .val (.int p3), .val (.int p4), .val (.int p5), .val (.ref b1), .val (.ref b5), .unset, .unset, .unset, .unset, .unset, .unset, .unset, .unset, .unset, .unset, .unset, .unset, .unset] [(.int (f2_ret p3 p4 ((p5.toUInt32 >>> ((5 : Int32) &&& 31).toUInt32).toInt32))), (.int (1 : Int32)), (.ref b5)])) _
    refine st29 _ ?_
    show Steps p.tables e below (T29.setTop (mkF m 68 #[.val (.long q0), .second, .val (.long q1), .second, .val (.long q2), .second, .val (.int p3), .val (.int p4), .val (.int p5), .val (.ref b1), .val (.ref b5), .unset, .unset, .unset, .unset, .unset, .unset, .unset, .unset, .unset, .unset, .unset, .unset, .unset] [])) _
    refine XS.aload X29.here hx rfl (hb hby at_68) rfl rfl ?_
    show Steps p.tables e below (T29.setTop (mkF m 70 #[.val (.long q0), .second, .val (.long q1), .second, .val (.long q2), .second, .val (.int p3), .val (.int p4), .val (.int p5), .val (.ref b1), .val (.ref b5), .unset, .unset, .unset, .unset, .unset, .unset, .unset, .unset, .unset, .unset, .unset, .unset, .unset] [(.ref b1)])) _
    refine XS.iconst X29.here hx rfl (hb hby at_70) ?_
    show Steps p.tables e below (T29.setTop (mkF m 71 #[.val (.long q0), .second, .val (.long q1), .second, .val (.long q2), .second, .val (.int p3), .val (.int p4), .val (.int p5), .val (.ref b1), .val (.ref b5), .unset, .unset, .unset, .unset, .unset, .unset, .unset, .unset, .unset, .unset, .unset, .unset, .unset] [(.int (2 : Int32)), (.ref b1)])) _
    refine XS.lloadN X29.here hx rfl (hb hby at_71) rfl ?_
    show Steps p.tables e below (T29.setTop (mkF m 72 #[.val (.long q0), .second, .val (.long q1), .second, .val (.long q2), .second, .val (.int p3), .val (.int p4), .val (.int p5), .val (.ref b1), .val (.ref b5), .unset, .unset, .unset, .unset, .unset, .unset, .unset, .unset, .unset, .unset, .unset, .unset, .unset] [(.long q0), (.int (2 : Int32)), (.ref b1)])) _
    refine XS.lloadN X29.here hx rfl (hb hby at_72) rfl ?_
    show Steps p.tables e below (T29.setTop (mkF m 73 #[.val (.long q0), .second, .val (.long q1), .second, .val (.long q2), .second, .val (.int p3), .val (.int p4), .val (.int p5), .val (.ref b1), .val (.ref b5), .unset, .unset, .unset, .unset, .unset, .unset, .unset, .unset, .unset, .unset, .unset, .unset, .unset] [(.long q1), (.long q0), (.int (2 : Int32)), (.ref b1)])) _
    refine XS.lload X29.here hx rfl (hb hby at_73) rfl ?_
    show Steps p.tables e below (T29.setTop (mkF m 75 #[.val (.long q0), .second, .val (.long q1), .second, .val (.long q2), .second, .val (.int p3), .val (.int p4), .val (.int p5), .val (.ref b1), .val (.ref b5), .unset, .unset, .unset, .unset, .unset, .unset, .unset, .unset, .unset, .unset, .unset, .unset, .unset] [(.long q2), (.long q1), (.long q0), (.int (2 : Int32)), (.ref b1)])) _
    refine XS.iload X29.here hx rfl (hb hby at_75) rfl ?_
    show Steps p.tables e below (T29.setTop (mkF m 77 #[.val (.long q0), .second, .val (.long q1), .second, .val (.long q2), .second, .val (.int p3), .val (.int p4), .val (.int p5), .val (.ref b1), .val (.ref b5), .unset, .unset, .unset, .unset, .unset, .unset, .unset, .unset, .unset, .unset, .unset, .unset, .unset] [(.int p5), (.long q2), (.long q1), (.long q0), (.int (2 : Int32)), (.ref b1)])) _
    refine XS.bipush X29.here hx rfl (hb hby at_77) ?_
    show Steps p.tables e below (T29.setTop (mkF m 79 #[.val (.long q0), .second, .val (.long q1), .second, .val (.long q2), .second, .val (.int p3), .val (.int p4), .val (.int p5), .val (.ref b1), .val (.ref b5), .unset, .unset, .unset, .unset, .unset, .unset, .unset, .unset, .unset, .unset, .unset, .unset, .unset] [(.int (6 : Int32)), (.int p5), (.long q2), (.long q1), (.long q0), (.int (2 : Int32)), (.ref b1)])) _
    refine XS.iushr X29.here hx rfl (hb hby at_79) rfl ?_
    show Steps p.tables e below (T29.setTop (mkF m 80 #[.val (.long q0), .second, .val (.long q1), .second, .val (.long q2), .second, .val (.int p3), .val (.int p4), .val (.int p5), .val (.ref b1), .val (.ref b5), .unset, .unset, .unset, .unset, .unset, .unset, .unset, .unset, .unset, .unset, .unset, .unset, .unset] [(.int ((p5.toUInt32 >>> ((6 : Int32) &&& 31).toUInt32).toInt32)), (.long q2), (.long q1), (.long q0), (.int (2 : Int32)), (.ref b1)])) _
    refine st33 _ ?_
    show Steps p.tables e below (T33.setTop (mkF m 83 #[.val (.long q0), .second, .val (.long q1), .second, .val (.long q2), .second, .val (.int p3), .val (.int p4), .val (.int p5), .val (.ref b1), .val (.ref b5), .unset, .unset, .unset, .unset, .unset, .unset, .unset, .unset, .unset, .unset, .unset, .unset, .unset] [(.long (f1_ret q0 q1 q2 ((p5.toUInt32 >>> ((6 : Int32) &&& 31).toUInt32).toInt32))), (.int (2 : Int32)), (.ref b1)])) _
    refine st35 _ ?_
    show Steps p.tables e below (T35.setTop (mkF m 84 #[.val (.long q0), .second, .val (.long q1), .second, .val (.long q2), .second, .val (.int p3), .val (.int p4), .val (.int p5), .val (.ref b1), .val (.ref b5), .unset, .unset, .unset, .unset, .unset, .unset, .unset, .unset, .unset, .unset, .unset, .unset, .unset] [])) _
    refine XS.aload X35.here hx rfl (hb hby at_84) rfl rfl ?_
    show Steps p.tables e below (T35.setTop (mkF m 86 #[.val (.long q0), .second, .val (.long q1), .second, .val (.long q2), .second, .val (.int p3), .val (.int p4), .val (.int p5), .val (.ref b1), .val (.ref b5), .unset, .unset, .unset, .unset, .unset, .unset, .unset, .unset, .unset, .unset, .unset, .unset, .unset] [(.ref b5)])) _
    refine XS.iconst X35.here hx rfl (hb hby at_86) ?_
    show Steps p.tables e below (T35.setTop (mkF m 87 #[.val (.long q0), .second, .val (.long q1), .second, .val (.long q2), .second, .val (.int p3), .val (.int p4), .val (.int p5), .val (.ref b1), .val (.ref b5), .unset, .unset, .unset, .unset, .unset, .unset, .unset, .unset, .unset, .unset, .unset, .unset, .unset] [(.int (2 : Int32)), (.ref b5)])) _
    refine XS.iload X35.here hx rfl (hb hby at_87) rfl ?_
    show Steps p.tables e below (T35.setTop (mkF m 89 #[.val (.long q0), .second, .val (.long q1), .second, .val (.long q2), .second, .val (.int p3), .val (.int p4), .val (.int p5), .val (.ref b1), .val (.ref b5), .unset, .unset, .unset, .unset, .unset, .unset, .unset, .unset, .unset, .unset, .unset, .unset, .unset] [(.int p3), (.int (2 : Int32)), (.ref b5)])) _
    refine XS.iload X35.here hx rfl (hb hby at_89) rfl ?_
    show Steps p.tables e below (T35.setTop (mkF m 91 #[.val (.long q0), .second, .val (.long q1), .second, .val (.long q2), .second, .val (.int p3), .val (.int p4), .val (.int p5), .val (.ref b1), .val (.ref b5), .unset, .unset, .unset, .unset, .unset, .unset, .unset, .unset, .unset, .unset, .unset, .unset, .unset] [(.int p4), (.int p3), (.int (2 : Int32)), (.ref b5)])) _
    refine XS.iload X35.here hx rfl (hb hby at_91) rfl ?_
    show Steps p.tables e below (T35.setTop (mkF m 93 #[.val (.long q0), .second, .val (.long q1), .second, .val (.long q2), .second, .val (.int p3), .val (.int p4), .val (.int p5), .val (.ref b1), .val (.ref b5), .unset, .unset, .unset, .unset, .unset, .unset, .unset, .unset, .unset, .unset, .unset, .unset, .unset] [(.int p5), (.int p4), (.int p3), (.int (2 : Int32)), (.ref b5)])) _
    refine XS.bipush X35.here hx rfl (hb hby at_93) ?_
    show Steps p.tables e below (T35.setTop (mkF m 95 #[.val (.long q0), .second, .val (.long q1), .second, .val (.long q2), .second, .val (.int p3), .val (.int p4), .val (.int p5), .val (.ref b1), .val (.ref b5), .unset, .unset, .unset, .unset, .unset, .unset, .unset, .unset, .unset, .unset, .unset, .unset, .unset] [(.int (8 : Int32)), (.int p5), (.int p4), (.int p3), (.int (2 : Int32)), (.ref b5)])) _
    refine XS.iushr X35.here hx rfl (hb hby at_95) rfl ?_
    show Steps p.tables e below (T35.setTop (mkF m 96 #[.val (.long q0), .second, .val (.long q1), .second, .val (.long q2), .second, .val (.int p3), .val (.int p4), .val (.int p5), .val (.ref b1), .val (.ref b5), .unset, .unset, .unset, .unset, .unset, .unset, .unset, .unset, .unset, .unset, .unset, .unset, .unset] [(.int ((p5.toUInt32 >>> ((8 : Int32) &&& 31).toUInt32).toInt32)), (.int p4), (.int p3), (.int (2 : Int32)), (.ref b5)])) _
    refine st39 _ ?_
    show Steps p.tables e below (T39.setTop (mkF m 99 #[.val (.long q0), .second, .val (.long q1), .second, .val (.long q2), .second, .val (.int p3), .val (.int p4), .val (.int p5), .val (.ref b1), .val (.ref b5), .unset, .unset, .unset, .unset, .unset, .unset, .unset, .unset, .unset, .unset, .unset, .unset, .unset] [(.int (f2_ret p3 p4 ((p5.toUInt32 >>> ((8 : Int32) &&& 31).toUInt32).toInt32))), (.int (2 : Int32)), (.ref b5)])) _
    refine st41 _ ?_
    show Steps p.tables e below (T41.setTop (mkF m 100 #[.val (.long q0), .second, .val (.long q1), .second, .val (.long q2), .second, .val (.int p3), .val (.int p4), .val (.int p5), .val (.ref b1), .val (.ref b5), .unset, .unset, .unset, .unset, .unset, .unset, .unset, .unset, .unset, .unset, .unset, .unset, .unset] [])) _
    refine XS.aload X41.here hx rfl (hb hby at_100) rfl rfl ?_
    show Steps p.tables e below (T41.setTop (mkF m 102 #[.val (.long q0), .second, .val (.long q1), .second, .val (.long q2), .second, .val (.int p3), .val (.int p4), .val (.int p5), .val (.ref b1), .val (.ref b5), .unset, .unset, .unset, .unset, .unset, .unset, .unset, .unset, .unset, .unset, .unset, .unset, .unset] [(.ref b1)])) _
    refine XS.iconst X41.here hx rfl (hb hby at_102) ?_
    show Steps p.tables e below (T41.setTop (mkF m 103 #[.val (.long q0), .second, .val (.long q1), .second, .val (.long q2), .second, .val (.int p3), .val (.int p4), .val (.int p5), .val (.ref b1), .val (.ref b5), .unset, .unset, .unset, .unset, .unset, .unset, .unset, .unset, .unset, .unset, .unset, .unset, .unset] [(.int (3 : Int32)), (.ref b1)])) _
    refine XS.lloadN X41.here hx rfl (hb hby at_103) rfl ?_
    show Steps p.tables e below (T41.setTop (mkF m 104 #[.val (.long q0), .second, .val (.long q1), .second, .val (.long q2), .second, .val (.int p3), .val (.int p4), .val (.int p5), .val (.ref b1), .val (.ref b5), .unset, .unset, .unset, .unset, .unset, .unset, .unset, .unset, .unset, .unset, .unset, .unset, .unset] [(.long q0), (.int (3 : Int32)), (.ref b1)])) _
    refine XS.lloadN X41.here hx rfl (hb hby at_104) rfl ?_
    show Steps p.tables e below (T41.setTop (mkF m 105 #[.val (.long q0), .second, .val (.long q1), .second, .val (.long q2), .second, .val (.int p3), .val (.int p4), .val (.int p5), .val (.ref b1), .val (.ref b5), .unset, .unset, .unset, .unset, .unset, .unset, .unset, .unset, .unset, .unset, .unset, .unset, .unset] [(.long q1), (.long q0), (.int (3 : Int32)), (.ref b1)])) _
    refine XS.lload X41.here hx rfl (hb hby at_105) rfl ?_
    show Steps p.tables e below (T41.setTop (mkF m 107 #[.val (.long q0), .second, .val (.long q1), .second, .val (.long q2), .second, .val (.int p3), .val (.int p4), .val (.int p5), .val (.ref b1), .val (.ref b5), .unset, .unset, .unset, .unset, .unset, .unset, .unset, .unset, .unset, .unset, .unset, .unset, .unset] [(.long q2), (.long q1), (.long q0), (.int (3 : Int32)), (.ref b1)])) _
    refine XS.iload X41.here hx rfl (hb hby at_107) rfl ?_
    show Steps p.tables e below (T41.setTop (mkF m 109 #[.val (.long q0), .second, .val (.long q1), .second, .val (.long q2), .second, .val (.int p3), .val (.int p4), .val (.int p5), .val (.ref b1), .val (.ref b5), .unset, .unset, .unset, .unset, .unset, .unset, .unset, .unset, .unset, .unset, .unset, .unset, .unset] [(.int p5), (.long q2), (.long q1), (.long q0), (.int (3 : Int32)), (.ref b1)])) _
    refine XS.bipush X41.here hx rfl (hb hby at_109) ?_
    show Steps p.tables e below (T41.setTop (mkF m 111 #[.val (.long q0), .second, .val (.long q1), .second, .val (.long q2), .second, .val (.int p3), .val (.int p4), .val (.int p5), .val (.ref b1), .val (.ref b5), .unset, .unset, .unset, .unset, .unset, .unset, .unset, .unset, .unset, .unset, .unset, .unset, .unset] [(.int (9 : Int32)), (.int p5), (.long q2), (.long q1), (.long q0), (.int (3 : Int32)), (.ref b1)])) _
    refine XS.iushr X41.here hx rfl (hb hby at_111) rfl ?_
    show Steps p.tables e below (T41.setTop (mkF m 112 #[.val (.long q0), .second, .val (.long q1), .second, .val (.long q2), .second, .val (.int p3), .val (.int p4), .val (.int p5), .val (.ref b1), .val (.ref b5), .unset, .unset, .unset, .unset, .unset, .unset, .unset, .unset, .unset, .unset, .unset, .unset, .unset] [(.int ((p5.toUInt32 >>> ((9 : Int32) &&& 31).toUInt32).toInt32)), (.long q2), (.long q1), (.long q0), (.int (3 : Int32)), (.ref b1)])) _
    refine st45 _ ?_
    show Steps p.tables e below (T45.setTop (mkF m 115 #[.val (.long q0), .second, .val (.long q1), .second, .val (.long q2), .second, .val (.int p3), .val (.int p4), .val (.int p5), .val (.ref b1), .val (.ref b5), .unset, .unset, .unset, .unset, .unset, .unset, .unset, .unset, .unset, .unset, .unset, .unset, .unset] [(.long (f1_ret q0 q1 q2 ((p5.toUInt32 >>> ((9 : Int32) &&& 31).toUInt32).toInt32))), (.int (3 : Int32)), (.ref b1)])) _
    refine st47 _ ?_
    show Steps p.tables e below (T47.setTop (mkF m 116 #[.val (.long q0), .second, .val (.long q1), .second, .val (.long q2), .second, .val (.int p3), .val (.int p4), .val (.int p5), .val (.ref b1), .val (.ref b5), .unset, .unset, .unset, .unset, .unset, .unset, .unset, .unset, .unset, .unset, .unset, .unset, .unset] [])) _
    refine XS.aload X47.here hx rfl (hb hby at_116) rfl rfl ?_
    show Steps p.tables e below (T47.setTop (mkF m 118 #[.val (.long q0), .second, .val (.long q1), .second, .val (.long q2), .second, .val (.int p3), .val (.int p4), .val (.int p5), .val (.ref b1), .val (.ref b5), .unset, .unset, .unset, .unset, .unset, .unset, .unset, .unset, .unset, .unset, .unset, .unset, .unset] [(.ref b5)])) _
    refine XS.iconst X47.here hx rfl (hb hby at_118) ?_
    show Steps p.tables e below (T47.setTop (mkF m 119 #[.val (.long q0), .second, .val (.long q1), .second, .val (.long q2), .second, .val (.int p3), .val (.int p4), .val (.int p5), .val (.ref b1), .val (.ref b5), .unset, .unset, .unset, .unset, .unset, .unset, .unset, .unset, .unset, .unset, .unset, .unset, .unset] [(.int (3 : Int32)), (.ref b5)])) _
    refine XS.iload X47.here hx rfl (hb hby at_119) rfl ?_
    show Steps p.tables e below (T47.setTop (mkF m 121 #[.val (.long q0), .second, .val (.long q1), .second, .val (.long q2), .second, .val (.int p3), .val (.int p4), .val (.int p5), .val (.ref b1), .val (.ref b5), .unset, .unset, .unset, .unset, .unset, .unset, .unset, .unset, .unset, .unset, .unset, .unset, .unset] [(.int p3), (.int (3 : Int32)), (.ref b5)])) _
    refine XS.iload X47.here hx rfl (hb hby at_121) rfl ?_
    show Steps p.tables e below (T47.setTop (mkF m 123 #[.val (.long q0), .second, .val (.long q1), .second, .val (.long q2), .second, .val (.int p3), .val (.int p4), .val (.int p5), .val (.ref b1), .val (.ref b5), .unset, .unset, .unset, .unset, .unset, .unset, .unset, .unset, .unset, .unset, .unset, .unset, .unset] [(.int p4), (.int p3), (.int (3 : Int32)), (.ref b5)])) _
    refine XS.iload X47.here hx rfl (hb hby at_123) rfl ?_
    show Steps p.tables e below (T47.setTop (mkF m 125 #[.val (.long q0), .second, .val (.long q1), .second, .val (.long q2), .second, .val (.int p3), .val (.int p4), .val (.int p5), .val (.ref b1), .val (.ref b5), .unset, .unset, .unset, .unset, .unset, .unset, .unset, .unset, .unset, .unset, .unset, .unset, .unset] [(.int p5), (.int p4), (.int p3), (.int (3 : Int32)), (.ref b5)])) _
    refine XS.bipush X47.here hx rfl (hb hby at_125) ?_
    show Steps p.tables e below (T47.setTop (mkF m 127 #[.val (.long q0), .second, .val (.long q1), .second, .val (.long q2), .second, .val (.int p3), .val (.int p4), .val (.int p5), .val (.ref b1), .val (.ref b5), .unset, .unset, .unset, .unset, .unset, .unset, .unset, .unset, .unset, .unset, .unset, .unset, .unset] [(.int (11 : Int32)), (.int p5), (.int p4), (.int p3), (.int (3 : Int32)), (.ref b5)])) _
    refine XS.iushr X47.here hx rfl (hb hby at_127) rfl ?_
    show Steps p.tables e below (T47.setTop (mkF m 128 #[.val (.long q0), .second, .val (.long q1), .second, .val (.long q2), .second, .val (.int p3), .val (.int p4), .val (.int p5), .val (.ref b1), .val (.ref b5), .unset, .unset, .unset, .unset, .unset, .unset, .unset, .unset, .unset, .unset, .unset, .unset, .unset] [(.int ((p5.toUInt32 >>> ((11 : Int32) &&& 31).toUInt32).toInt32)), (.int p4), (.int p3), (.int (3 : Int32)), (.ref b5)])) _
    refine st51 _ ?_
    show Steps p.tables e below (T51.setTop (mkF m 131 #[.val (.long q0), .second, .val (.long q1), .second, .val (.long q2), .second, .val (.int p3), .val (.int p4), .val (.int p5), .val (.ref b1), .val (.ref b5), .unset, .unset, .unset, .unset, .unset, .unset, .unset, .unset, .unset, .unset, .unset, .unset, .unset] [(.int (f2_ret p3 p4 ((p5.toUInt32 >>> ((11 : Int32) &&& 31).toUInt32).toInt32))), (.int (3 : Int32)), (.ref b5)])) _
    refine st53 _ ?_
    show Steps p.tables e below (T53.setTop (mkF m 132 #[.val (.long q0), .second, .val (.long q1), .second, .val (.long q2), .second, .val (.int p3), .val (.int p4), .val (.int p5), .val (.ref b1), .val (.ref b5), .unset, .unset, .unset, .unset, .unset, .unset, .unset, .unset, .unset, .unset, .unset, .unset, .unset] [])) _
    refine XS.aload X53.here hx rfl (hb hby at_132) rfl rfl ?_
    show Steps p.tables e below (T53.setTop (mkF m 134 #[.val (.long q0), .second, .val (.long q1), .second, .val (.long q2), .second, .val (.int p3), .val (.int p4), .val (.int p5), .val (.ref b1), .val (.ref b5), .unset, .unset, .unset, .unset, .unset, .unset, .unset, .unset, .unset, .unset, .unset, .unset, .unset] [(.ref b1)])) _
    refine XS.iconst X53.here hx rfl (hb hby at_134) ?_
    show Steps p.tables e below (T53.setTop (mkF m 135 #[.val (.long q0), .second, .val (.long q1), .second, .val (.long q2), .second, .val (.int p3), .val (.int p4), .val (.int p5), .val (.ref b1), .val (.ref b5), .unset, .unset, .unset, .unset, .unset, .unset, .unset, .unset, .unset, .unset, .unset, .unset, .unset] [(.int (4 : Int32)), (.ref b1)])) _
    refine XS.lloadN X53.here hx rfl (hb hby at_135) rfl ?_
    show Steps p.tables e below (T53.setTop (mkF m 136 #[.val (.long q0), .second, .val (.long q1), .second, .val (.long q2), .second, .val (.int p3), .val (.int p4), .val (.int p5), .val (.ref b1), .val (.ref b5), .unset, .unset, .unset, .unset, .unset, .unset, .unset, .unset, .unset, .unset, .unset, .unset, .unset] [(.long q0), (.int (4 : Int32)), (.ref b1)])) _
    refine XS.lloadN X53.here hx rfl (hb hby at_136) rfl ?_
    show Steps p.tables e below (T53.setTop (mkF m 137 #[.val (.long q0), .second, .val (.long q1), .second, .val (.long q2), .second, .val (.int p3), .val (.int p4), .val (.int p5), .val (.ref b1), .val (.ref b5), .unset, .unset, .unset, .unset, .unset, .unset, .unset, .unset, .unset, .unset, .unset, .unset, .unset] [(.long q1), (.long q0), (.int (4 : Int32)), (.ref b1)])) _
    refine XS.lload X53.here hx rfl (hb hby at_137) rfl ?_
    show Steps p.tables e below (T53.setTop (mkF m 139 #[.val (.long q0), .second, .val (.long q1), .second, .val (.long q2), .second, .val (.int p3), .val (.int p4), .val (.int p5), .val (.ref b1), .val (.ref b5), .unset, .unset, .unset, .unset, .unset, .unset, .unset, .unset, .unset, .unset, .unset, .unset, .unset] [(.long q2), (.long q1), (.long q0), (.int (4 : Int32)), (.ref b1)])) _
    refine XS.iload X53.here hx rfl (hb hby at_139) rfl ?_
    show Steps p.tables e below (T53.setTop (mkF m 141 #[.val (.long q0), .second, .val (.long q1), .second, .val (.long q2), .second, .val (.int p3), .val (.int p4), .val (.int p5), .val (.ref b1), .val (.ref b5), .unset, .unset, .unset, .unset, .unset, .unset, .unset, .unset, .unset, .unset, .unset, .unset, .unset] [(.int p5), (.long q2), (.long q1), (.long q0), (.int (4 : Int32)), (.ref b1)])) _
    refine XS.bipush X53.here hx rfl (hb hby at_141) ?_
    show Steps p.tables e below (T53.setTop (mkF m 143 #[.val (.long q0), .second, .val (.long q1), .second, .val (.long q2), .second, .val (.int p3), .val (.int p4), .val (.int p5), .val (.ref b1), .val (.ref b5), .unset, .unset, .unset, .unset, .unset, .unset, .unset, .unset, .unset, .unset, .unset, .unset, .unset] [(.int (12 : Int32)), (.int p5), (.long q2), (.long q1), (.long q0), (.int (4 : Int32)), (.ref b1)])) _
    refine XS.iushr X53.here hx rfl (hb hby at_143) rfl ?_
    show Steps p.tables e below (T53.setTop (mkF m 144 #[.val (.long q0), .second, .val (.long q1), .second, .val (.long q2), .second, .val (.int p3), .val (.int p4), .val (.int p5), .val (.ref b1), .val (.ref b5), .unset, .unset, .unset, .unset, .unset, .unset, .unset, .unset, .unset, .unset, .unset, .unset, .unset] [(.int ((p5.toUInt32 >>> ((12 : Int32) &&& 31).toUInt32).toInt32)), (.long q2), (.long q1), (.long q0), (.int (4 : Int32)), (.ref b1)])) _
    refine st57 _ ?_
    show Steps p.tables e below (T57.setTop (mkF m 147 #[.val (.long q0), .second, .val (.long q1), .second, .val (.long q2), .second, .val (.int p3), .val (.int p4), .val (.int p5), .val (.ref b1), .val (.ref b5), .unset, .unset, .unset, .unset, .unset, .unset, .unset, .unset, .unset, .unset, .unset, .unset, .unset] [(.long (f1_ret q0 q1 q2 ((p5.toUInt32 >>> ((12 : Int32) &&& 31).toUInt32).toInt32))), (.int (4 : Int32)), (.ref b1)])) _
    refine st59 _ ?_
    show Steps p.tables e below (T59.setTop (mkF m 148 #[.val (.long q0), .second, .val (.long q1), .second, .val (.long q2), .second, .val (.int p3), .val (.int p4), .val (.int p5), .val (.ref b1), .val (.ref b5), .unset, .unset, .unset, .unset, .unset, .unset, .unset, .unset, .unset, .unset, .unset, .unset, .unset] [])) _
    refine XS.aload X59.here hx rfl (hb hby at_148) rfl rfl ?_
    show Steps p.tables e below (T59.setTop (mkF m 150 #[.val (.long q0), .second, .val (.long q1), .second, .val (.long q2), .second, .val (.int p3), .val (.int p4), .val (.int p5), .val (.ref b1), .val (.ref b5), .unset, .unset, .unset, .unset, .unset, .unset, .unset, .unset, .unset, .unset, .unset, .unset, .unset] [(.ref b5)])) _
    refine XS.iconst X59.here hx rfl (hb hby at_150) ?_
    show Steps p.tables e below (T59.setTop (mkF m 151 #[.val (.long q0), .second, .val (.long q1), .second, .val (.long q2), .second, .val (.int p3), .val (.int p4), .val (.int p5), .val (.ref b1), .val (.ref b5), .unset, .unset, .unset, .unset, .unset, .unset, .unset, .unset, .unset, .unset, .unset, .unset, .unset] [(.int (4 : Int32)), (.ref b5)])) _
    refine XS.iload X59.here hx rfl (hb hby at_151) rfl ?_
    show Steps p.tables e below (T59.setTop (mkF m 153 #[.val (.long q0), .second, .val (.long q1), .second, .val (.long q2), .second, .val (.int p3), .val (.int p4), .val (.int p5), .val (.ref b1), .val (.ref b5), .unset, .unset, .unset, .unset, .unset, .unset, .unset, .unset, .unset, .unset, .unset, .unset, .unset] [(.int p3), (.int (4 : Int32)), (.ref b5)])) _
    refine XS.iload X59.here hx rfl (hb hby at_153) rfl ?_
    show Steps p.tables e below (T59.setTop (mkF m 155 #[.val (.long q0), .second, .val (.long q1), .second, .val (.long q2), .second, .val (.int p3), .val (.int p4), .val (.int p5), .val (.ref b1), .val (.ref b5), .unset, .unset, .unset, .unset, .unset, .unset, .unset, .unset, .unset, .unset, .unset, .unset, .unset] [(.int p4), (.int p3), (.int (4 : Int32)), (.ref b5)])) _
    refine XS.iload X59.here hx rfl (hb hby at_155) rfl ?_
    show Steps p.tables e below (T59.setTop (mkF m 157 #[.val (.long q0), .second, .val (.long q1), .second, .val (.long q2), .second, .val (.int p3), .val (.int p4), .val (.int p5), .val (.ref b1), .val (.ref b5), .unset, .unset, .unset, .unset, .unset, .unset, .unset, .unset, .unset, .unset, .unset, .unset, .unset] [(.int p5), (.int p4), (.int p3), (.int (4 : Int32)), (.ref b5)])) _
    refine XS.bipush X59.here hx rfl (hb hby at_157) ?_
    show Steps p.tables e below (T59.setTop (mkF m 159 #[.val (.long q0), .second, .val (.long q1), .second, .val (.long q2), .second, .val (.int p3), .val (.int p4), .val (.int p5), .val (.ref b1), .val (.ref b5), .unset, .unset, .unset, .unset, .unset, .unset, .unset, .unset, .unset, .unset, .unset, .unset, .unset] [(.int (14 : Int32)), (.int p5), (.int p4), (.int p3), (.int (4 : Int32)), (.ref b5)])) _
    refine XS.iushr X59.here hx rfl (hb hby at_159) rfl ?_
    show Steps p.tables e below (T59.setTop (mkF m 160 #[.val (.long q0), .second, .val (.long q1), .second, .val (.long q2), .second, .val (.int p3), .val (.int p4), .val (.int p5), .val (.ref b1), .val (.ref b5), .unset, .unset, .unset, .unset, .unset, .unset, .unset, .unset, .unset, .unset, .unset, .unset, .unset] [(.int ((p5.toUInt32 >>> ((14 : Int32) &&& 31).toUInt32).toInt32)), (.int p4), (.int p3), (.int (4 : Int32)), (.ref b5)])) _
    refine st63 _ ?_
    show Steps p.tables e below (T63.setTop (mkF m 163 #[.val (.long q0), .second, .val (.long q1), .second, .val (.long q2), .second, .val (.int p3), .val (.int p4), .val (.int p5), .val (.ref b1), .val (.ref b5), .unset, .unset, .unset, .unset, .unset, .unset, .unset, .unset, .unset, .unset, .unset, .unset, .unset] [(.int (f2_ret p3 p4 ((p5.toUInt32 >>> ((14 : Int32) &&& 31).toUInt32).toInt32))), (.int (4 : Int32)), (.ref b5)])) _
    refine st65 _ ?_
    show Steps p.tables e below (T65.setTop (mkF m 164 #[.val (.long q0), .second, .val (.long q1), .second, .val (.long q2), .second, .val (.int p3), .val (.int p4), .val (.int p5), .val (.ref b1), .val (.ref b5), .unset, .unset, .unset, .unset, .unset, .unset, .unset, .unset, .unset, .unset, .unset, .unset, .unset] [])) _
    refine st71 _ ?_
    show Steps p.tables e below (T71.setTop (mkF m 167 #[.val (.long q0), .second, .val (.long q1), .second, .val (.long q2), .second, .val (.int p3), .val (.int p4), .val (.int p5), .val (.ref b1), .val (.ref b5), .unset, .unset, .unset, .unset, .unset, .unset, .unset, .unset, .unset, .unset, .unset, .unset, .unset] [(.ref b71)])) _
    refine XS.dup X71.here hx rfl (hb hby at_167) rfl rfl ?_
    show Steps p.tables e below (T71.setTop (mkF m 168 #[.val (.long q0), .second, .val (.long q1), .second, .val (.long q2), .second, .val (.int p3), .val (.int p4), .val (.int p5), .val (.ref b1), .val (.ref b5), .unset, .unset, .unset, .unset, .unset, .unset, .unset, .unset, .unset, .unset, .unset, .unset, .unset] [(.ref b71), (.ref b71)])) _
    refine st75.trans ?_
    show Steps p.tables e below (T75.setTop (mkF m 171 #[.val (.long q0), .second, .val (.long q1), .second, .val (.long q2), .second, .val (.int p3), .val (.int p4), .val (.int p5), .val (.ref b1), .val (.ref b5), .unset, .unset, .unset, .unset, .unset, .unset, .unset, .unset, .unset, .unset, .unset, .unset, .unset] [(.ref b71)])) _
    refine XS.astore X75.here hx rfl (hb hby at_171) rfl rfl (l' := #[.val (.long q0), .second, .val (.long q1), .second, .val (.long q2), .second, .val (.int p3), .val (.int p4), .val (.int p5), .val (.ref b1), .val (.ref b5), .val (.ref b71), .unset, .unset, .unset, .unset, .unset, .unset, .unset, .unset, .unset, .unset, .unset, .unset]) rfl ?_
    show Steps p.tables e below (T75.setTop (mkF m 173 #[.val (.long q0), .second, .val (.long q1), .second, .val (.long q2), .second, .val (.int p3), .val (.int p4), .val (.int p5), .val (.ref b1), .val (.ref b5), .val (.ref b71), .unset, .unset, .unset, .unset, .unset, .unset, .unset, .unset, .unset, .unset, .unset, .unset] [])) _
    refine XS.aload X75.here hx rfl (hb hby at_173) rfl rfl ?_
    show Steps p.tables e below (T75.setTop (mkF m 175 #[.val (.long q0), .second, .val (.long q1), .second, .val (.long q2), .second, .val (.int p3), .val (.int p4), .val (.int p5), .val (.ref b1), .val (.ref b5), .val (.ref b71), .unset, .unset, .unset, .unset, .unset, .unset, .unset, .unset, .unset, .unset, .unset, .unset] [(.ref b71)])) _
    refine XS.bipush X75.here hx rfl (hb hby at_175) ?_
    show Steps p.tables e below (T75.setTop (mkF m 177 #[.val (.long q0), .second, .val (.long q1), .second, .val (.long q2), .second, .val (.int p3), .val (.int p4), .val (.int p5), .val (.ref b1), .val (.ref b5), .val (.ref b71), .unset, .unset, .unset, .unset, .unset, .unset, .unset, .unset, .unset, .unset, .unset, .unset] [(.int (100 : Int32)), (.ref b71)])) _
    refine XS.aload X75.here hx rfl (hb hby at_177) rfl rfl ?_
    show Steps p.tables e below (T75.setTop (mkF m 179 #[.val (.long q0), .second, .val (.long q1), .second, .val (.long q2), .second, .val (.int p3), .val (.int p4), .val (.int p5), .val (.ref b1), .val (.ref b5), .val (.ref b71), .unset, .unset, .unset, .unset, .unset, .unset, .unset, .unset, .unset, .unset, .unset, .unset] [(.ref b1), (.int (100 : Int32)), (.ref b71)])) _
    refine XS.iconst X75.here hx rfl (hb hby at_179) ?_
    show Steps p.tables e below (T75.setTop (mkF m 180 #[.val (.long q0), .second, .val (.long q1), .second, .val (.long q2), .second, .val (.int p3), .val (.int p4), .val (.int p5), .val (.ref b1), .val (.ref b5), .val (.ref b71), .unset, .unset, .unset, .unset, .unset, .unset, .unset, .unset, .unset, .unset, .unset, .unset] [(.int (0 : Int32)), (.ref b1), (.int (100 : Int32)), (.ref b71)])) _
    refine X75.laload hx (j := (0 : Int32)) (v := (.long va0)) Ar79.1 (State.isArrayOf_alike hZ.alike Ar79.2.1) Ar79.2.2 (own_in Sz79 hi80) hl80 (g := (mkF m 180 #[.val (.long q0), .second, .val (.long q1), .second, .val (.long q2), .second, .val (.int p3), .val (.int p4), .val (.int p5), .val (.ref b1), .val (.ref b5), .val (.ref b71), .unset, .unset, .unset, .unset, .unset, .unset, .unset, .unset, .unset, .unset, .unset, .unset] [(.int (0 : Int32)), (.ref b1), (.int (100 : Int32)), (.ref b71)])) rfl rfl (hb hby at_180) _ ?_
    show Steps p.tables e below (T75.setTop (mkF m 181 #[.val (.long q0), .second, .val (.long q1), .second, .val (.long q2), .second, .val (.int p3), .val (.int p4), .val (.int p5), .val (.ref b1), .val (.ref b5), .val (.ref b71), .unset, .unset, .unset, .unset, .unset, .unset, .unset, .unset, .unset, .unset, .unset, .unset] [(.long va0), (.int (100 : Int32)), (.ref b71)])) _
    refine XS.aload X75.here hx rfl (hb hby at_181) rfl rfl ?_
    show Steps p.tables e below (T75.setTop (mkF m 183 #[.val (.long q0), .second, .val (.long q1), .second, .val (.long q2), .second, .val (.int p3), .val (.int p4), .val (.int p5), .val (.ref b1), .val (.ref b5), .val (.ref b71), .unset, .unset, .unset, .unset, .unset, .unset, .unset, .unset, .unset, .unset, .unset, .unset] [(.ref b5), (.long va0), (.int (100 : Int32)), (.ref b71)])) _
    refine XS.iconst X75.here hx rfl (hb hby at_183) ?_
    show Steps p.tables e below (T75.setTop (mkF m 184 #[.val (.long q0), .second, .val (.long q1), .second, .val (.long q2), .second, .val (.int p3), .val (.int p4), .val (.int p5), .val (.ref b1), .val (.ref b5), .val (.ref b71), .unset, .unset, .unset, .unset, .unset, .unset, .unset, .unset, .unset, .unset, .unset, .unset] [(.int (0 : Int32)), (.ref b5), (.long va0), (.int (100 : Int32)), (.ref b71)])) _
    refine X75.iaload hx (j := (0 : Int32)) (v := (.int vb0)) Ar81.1 (State.isArrayOf_alike hZ.alike Ar81.2.1) Ar81.2.2 (own_in Sz81 hi82) hl82 (g := (mkF m 184 #[.val (.long q0), .second, .val (.long q1), .second, .val (.long q2), .second, .val (.int p3), .val (.int p4), .val (.int p5), .val (.ref b1), .val (.ref b5), .val (.ref b71), .unset, .unset, .unset, .unset, .unset, .unset, .unset, .unset, .unset, .unset, .unset, .unset] [(.int (0 : Int32)), (.ref b5), (.long va0), (.int (100 : Int32)), (.ref b71)])) rfl rfl (hb hby at_184) _ ?_
    show Steps p.tables e below (T75.setTop (mkF m 185 #[.val (.long q0), .second, .val (.long q1), .second, .val (.long q2), .second, .val (.int p3), .val (.int p4), .val (.int p5), .val (.ref b1), .val (.ref b5), .val (.ref b71), .unset, .unset, .unset, .unset, .unset, .unset, .unset, .unset, .unset, .unset, .unset, .unset] [(.int vb0), (.long va0), (.int (100 : Int32)), (.ref b71)])) _
    refine st83.trans ?_
    show Steps p.tables e below (T83.setTop (mkF m 188 #[.val (.long q0), .second, .val (.long q1), .second, .val (.long q2), .second, .val (.int p3), .val (.int p4), .val (.int p5), .val (.ref b1), .val (.ref b5), .val (.ref b71), .unset, .unset, .unset, .unset, .unset, .unset, .unset, .unset, .unset, .unset, .unset, .unset] [])) _
    refine XS.aload X83.here hx rfl (hb hby at_188) rfl rfl ?_
    show Steps p.tables e below (T83.setTop (mkF m 190 #[.val (.long q0), .second, .val (.long q1), .second, .val (.long q2), .second, .val (.int p3), .val (.int p4), .val (.int p5), .val (.ref b1), .val (.ref b5), .val (.ref b71), .unset, .unset, .unset, .unset, .unset, .unset, .unset, .unset, .unset, .unset, .unset, .unset] [(.ref b71)])) _
    refine XS.bipush X83.here hx rfl (hb hby at_190) ?_
    show Steps p.tables e below (T83.setTop (mkF m 192 #[.val (.long q0), .second, .val (.long q1), .second, .val (.long q2), .second, .val (.int p3), .val (.int p4), .val (.int p5), .val (.ref b1), .val (.ref b5), .val (.ref b71), .unset, .unset, .unset, .unset, .unset, .unset, .unset, .unset, .unset, .unset, .unset, .unset] [(.int (101 : Int32)), (.ref b71)])) _
    refine XS.aload X83.here hx rfl (hb hby at_192) rfl rfl ?_
    show Steps p.tables e below (T83.setTop (mkF m 194 #[.val (.long q0), .second, .val (.long q1), .second, .val (.long q2), .second, .val (.int p3), .val (.int p4), .val (.int p5), .val (.ref b1), .val (.ref b5), .val (.ref b71), .unset, .unset, .unset, .unset, .unset, .unset, .unset, .unset, .unset, .unset, .unset, .unset] [(.ref b1), (.int (101 : Int32)), (.ref b71)])) _
    refine XS.iconst X83.here hx rfl (hb hby at_194) ?_
    show Steps p.tables e below (T83.setTop (mkF m 195 #[.val (.long q0), .second, .val (.long q1), .second, .val (.long q2), .second, .val (.int p3), .val (.int p4), .val (.int p5), .val (.ref b1), .val (.ref b5), .val (.ref b71), .unset, .unset, .unset, .unset, .unset, .unset, .unset, .unset, .unset, .unset, .unset, .unset] [(.int (1 : Int32)), (.ref b1), (.int (101 : Int32)), (.ref b71)])) _
    refine X83.laload hx (j := (1 : Int32)) (v := (.long va1)) Ar87.1 (State.isArrayOf_alike hZ.alike Ar87.2.1) Ar87.2.2 (own_in Sz87 hi88) hl88 (g := (mkF m 195 #[.val (.long q0), .second, .val (.long q1), .second, .val (.long q2), .second, .val (.int p3), .val (.int p4), .val (.int p5), .val (.ref b1), .val (.ref b5), .val (.ref b71), .unset, .unset, .unset, .unset, .unset, .unset, .unset, .unset, .unset, .unset, .unset, .unset] [(.int (1 : Int32)), (.ref b1), (.int (101 : Int32)), (.ref b71)])) rfl rfl (hb hby at_195) _ ?_
    show Steps p.tables e below (T83.setTop (mkF m 196 #[.val (.long q0), .second, .val (.long q1), .second, .val (.long q2), .second, .val (.int p3), .val (.int p4), .val (.int p5), .val (.ref b1), .val (.ref b5), .val (.ref b71), .unset, .unset, .unset, .unset, .unset, .unset, .unset, .unset, .unset, .unset, .unset, .unset] [(.long va1), (.int (101 : Int32)), (.ref b71)])) _
    refine XS.aload X83.here hx rfl (hb hby at_196) rfl rfl ?_
    show Steps p.tables e below (T83.setTop (mkF m 198 #[.val (.long q0), .second, .val (.long q1), .second, .val (.long q2), .second, .val (.int p3), .val (.int p4), .val (.int p5), .val (.ref b1), .val (.ref b5), .val (.ref b71), .unset, .unset, .unset, .unset, .unset, .unset, .unset, .unset, .unset, .unset, .unset, .unset] [(.ref b5), (.long va1), (.int (101 : Int32)), (.ref b71)])) _
    refine XS.iconst X83.here hx rfl (hb hby at_198) ?_
    show Steps p.tables e below (T83.setTop (mkF m 199 #[.val (.long q0), .second, .val (.long q1), .second, .val (.long q2), .second, .val (.int p3), .val (.int p4), .val (.int p5), .val (.ref b1), .val (.ref b5), .val (.ref b71), .unset, .unset, .unset, .unset, .unset, .unset, .unset, .unset, .unset, .unset, .unset, .unset] [(.int (1 : Int32)), (.ref b5), (.long va1), (.int (101 : Int32)), (.ref b71)])) _
    refine X83.iaload hx (j := (1 : Int32)) (v := (.int vb1)) Ar89.1 (State.isArrayOf_alike hZ.alike Ar89.2.1) Ar89.2.2 (own_in Sz89 hi90) hl90 (g := (mkF m 199 #[.val (.long q0), .second, .val (.long q1), .second, .val (.long q2), .second, .val (.int p3), .val (.int p4), .val (.int p5), .val (.ref b1), .val (.ref b5), .val (.ref b71), .unset, .unset, .unset, .unset, .unset, .unset, .unset, .unset, .unset, .unset, .unset, .unset] [(.int (1 : Int32)), (.ref b5), (.long va1), (.int (101 : Int32)), (.ref b71)])) rfl rfl (hb hby at_199) _ ?_
    show Steps p.tables e below (T83.setTop (mkF m 200 #[.val (.long q0), .second, .val (.long q1), .second, .val (.long q2), .second, .val (.int p3), .val (.int p4), .val (.int p5), .val (.ref b1), .val (.ref b5), .val (.ref b71), .unset, .unset, .unset, .unset, .unset, .unset, .unset, .unset, .unset, .unset, .unset, .unset] [(.int vb1), (.long va1), (.int (101 : Int32)), (.ref b71)])) _
    refine st91.trans ?_
    show Steps p.tables e below (T91.setTop (mkF m 203 #[.val (.long q0), .second, .val (.long q1), .second, .val (.long q2), .second, .val (.int p3), .val (.int p4), .val (.int p5), .val (.ref b1), .val (.ref b5), .val (.ref b71), .unset, .unset, .unset, .unset, .unset, .unset, .unset, .unset, .unset, .unset, .unset, .unset] [])) _
    refine XS.aload X91.here hx rfl (hb hby at_203) rfl rfl ?_
    show Steps p.tables e below (T91.setTop (mkF m 205 #[.val (.long q0), .second, .val (.long q1), .second, .val (.long q2), .second, .val (.int p3), .val (.int p4), .val (.int p5), .val (.ref b1), .val (.ref b5), .val (.ref b71), .unset, .unset, .unset, .unset, .unset, .unset, .unset, .unset, .unset, .unset, .unset, .unset] [(.ref b71)])) _
    refine XS.bipush X91.here hx rfl (hb hby at_205) ?_
    show Steps p.tables e below (T91.setTop (mkF m 207 #[.val (.long q0), .second, .val (.long q1), .second, .val (.long q2), .second, .val (.int p3), .val (.int p4), .val (.int p5), .val (.ref b1), .val (.ref b5), .val (.ref b71), .unset, .unset, .unset, .unset, .unset, .unset, .unset, .unset, .unset, .unset, .unset, .unset] [(.int (102 : Int32)), (.ref b71)])) _
    refine XS.aload X91.here hx rfl (hb hby at_207) rfl rfl ?_
    show Steps p.tables e below (T91.setTop (mkF m 209 #[.val (.long q0), .second, .val (.long q1), .second, .val (.long q2), .second, .val (.int p3), .val (.int p4), .val (.int p5), .val (.ref b1), .val (.ref b5), .val (.ref b71), .unset, .unset, .unset, .unset, .unset, .unset, .unset, .unset, .unset, .unset, .unset, .unset] [(.ref b1), (.int (102 : Int32)), (.ref b71)])) _
    refine XS.iconst X91.here hx rfl (hb hby at_209) ?_
    show Steps p.tables e below (T91.setTop (mkF m 210 #[.val (.long q0), .second, .val (.long q1), .second, .val (.long q2), .second, .val (.int p3), .val (.int p4), .val (.int p5), .val (.ref b1), .val (.ref b5), .val (.ref b71), .unset, .unset, .unset, .unset, .unset, .unset, .unset, .unset, .unset, .unset, .unset, .unset] [(.int (2 : Int32)), (.ref b1), (.int (102 : Int32)), (.ref b71)])) _
    refine X91.laload hx (j := (2 : Int32)) (v := (.long va2)) Ar95.1 (State.isArrayOf_alike hZ.alike Ar95.2.1) Ar95.2.2 (own_in Sz95 hi96) hl96 (g := (mkF m 210 #[.val (.long q0), .second, .val (.long q1), .second, .val (.long q2), .second, .val (.int p3), .val (.int p4), .val (.int p5), .val (.ref b1), .val (.ref b5), .val (.ref b71), .unset, .unset, .unset, .unset, .unset, .unset, .unset, .unset, .unset, .unset, .unset, .unset] [(.int (2 : Int32)), (.ref b1), (.int (102 : Int32)), (.ref b71)])) rfl rfl (hb hby at_210) _ ?_
    show Steps p.tables e below (T91.setTop (mkF m 211 #[.val (.long q0), .second, .val (.long q1), .second, .val (.long q2), .second, .val (.int p3), .val (.int p4), .val (.int p5), .val (.ref b1), .val (.ref b5), .val (.ref b71), .unset, .unset, .unset, .unset, .unset, .unset, .unset, .unset, .unset, .unset, .unset, .unset] [(.long va2), (.int (102 : Int32)), (.ref b71)])) _
    refine XS.aload X91.here hx rfl (hb hby at_211) rfl rfl ?_
    show Steps p.tables e below (T91.setTop (mkF m 213 #[.val (.long q0), .second, .val (.long q1), .second, .val (.long q2), .second, .val (.int p3), .val (.int p4), .val (.int p5), .val (.ref b1), .val (.ref b5), .val (.ref b71), .unset, .unset, .unset, .unset, .unset, .unset, .unset, .unset, .unset, .unset, .unset, .unset] [(.ref b5), (.long va2), (.int (102 : Int32)), (.ref b71)])) _
    refine XS.iconst X91.here hx rfl (hb hby at_213) ?_
    show Steps p.tables e below (T91.setTop (mkF m 214 #[.val (.long q0), .second, .val (.long q1), .second, .val (.long q2), .second, .val (.int p3), .val (.int p4), .val (.int p5), .val (.ref b1), .val (.ref b5), .val (.ref b71), .unset, .unset, .unset, .unset, .unset, .unset, .unset, .unset, .unset, .unset, .unset, .unset] [(.int (2 : Int32)), (.ref b5), (.long va2), (.int (102 : Int32)), (.ref b71)])) _
    refine X91.iaload hx (j := (2 : Int32)) (v := (.int vb2)) Ar97.1 (State.isArrayOf_alike hZ.alike Ar97.2.1) Ar97.2.2 (own_in Sz97 hi98) hl98 (g := (mkF m 214 #[.val (.long q0), .second, .val (.long q1), .second, .val (.long q2), .second, .val (.int p3), .val (.int p4), .val (.int p5), .val (.ref b1), .val (.ref b5), .val (.ref b71), .unset, .unset, .unset, .unset, .unset, .unset, .unset, .unset, .unset, .unset, .unset, .unset] [(.int (2 : Int32)), (.ref b5), (.long va2), (.int (102 : Int32)), (.ref b71)])) rfl rfl (hb hby at_214) _ ?_
    show Steps p.tables e below (T91.setTop (mkF m 215 #[.val (.long q0), .second, .val (.long q1), .second, .val (.long q2), .second, .val (.int p3), .val (.int p4), .val (.int p5), .val (.ref b1), .val (.ref b5), .val (.ref b71), .unset, .unset, .unset, .unset, .unset, .unset, .unset, .unset, .unset, .unset, .unset, .unset] [(.int vb2), (.long va2), (.int (102 : Int32)), (.ref b71)])) _
    refine st99.trans ?_
    show Steps p.tables e below (T99.setTop (mkF m 218 #[.val (.long q0), .second, .val (.long q1), .second, .val (.long q2), .second, .val (.int p3), .val (.int p4), .val (.int p5), .val (.ref b1), .val (.ref b5), .val (.ref b71), .unset, .unset, .unset, .unset, .unset, .unset, .unset, .unset, .unset, .unset, .unset, .unset] [])) _
    refine XS.aload X99.here hx rfl (hb hby at_218) rfl rfl ?_
    show Steps p.tables e below (T99.setTop (mkF m 220 #[.val (.long q0), .second, .val (.long q1), .second, .val (.long q2), .second, .val (.int p3), .val (.int p4), .val (.int p5), .val (.ref b1), .val (.ref b5), .val (.ref b71), .unset, .unset, .unset, .unset, .unset, .unset, .unset, .unset, .unset, .unset, .unset, .unset] [(.ref b71)])) _
    refine XS.bipush X99.here hx rfl (hb hby at_220) ?_
    show Steps p.tables e below (T99.setTop (mkF m 222 #[.val (.long q0), .second, .val (.long q1), .second, .val (.long q2), .second, .val (.int p3), .val (.int p4), .val (.int p5), .val (.ref b1), .val (.ref b5), .val (.ref b71), .unset, .unset, .unset, .unset, .unset, .unset, .unset, .unset, .unset, .unset, .unset, .unset] [(.int (103 : Int32)), (.ref b71)])) _
    refine XS.aload X99.here hx rfl (hb hby at_222) rfl rfl ?_
    show Steps p.tables e below (T99.setTop (mkF m 224 #[.val (.long q0), .second, .val (.long q1), .second, .val (.long q2), .second, .val (.int p3), .val (.int p4), .val (.int p5), .val (.ref b1), .val (.ref b5), .val (.ref b71), .unset, .unset, .unset, .unset, .unset, .unset, .unset, .unset, .unset, .unset, .unset, .unset] [(.ref b1), (.int (103 : Int32)), (.ref b71)])) _
    refine XS.iconst X99.here hx rfl (hb hby at_224) ?_
    show Steps p.tables e below (T99.setTop (mkF m 225 #[.val (.long q0), .second, .val (.long q1), .second, .val (.long q2), .second, .val (.int p3), .val (.int p4), .val (.int p5), .val (.ref b1), .val (.ref b5), .val (.ref b71), .unset, .unset, .unset, .unset, .unset, .unset, .unset, .unset, .unset, .unset, .unset, .unset] [(.int (3 : Int32)), (.ref b1), (.int (103 : Int32)), (.ref b71)])) _
    refine X99.laload hx (j := (3 : Int32)) (v := (.long va3)) Ar103.1 (State.isArrayOf_alike hZ.alike Ar103.2.1) Ar103.2.2 (own_in Sz103 hi104) hl104 (g := (mkF m 225 #[.val (.long q0), .second, .val (.long q1), .second, .val (.long q2), .second, .val (.int p3), .val (.int p4), .val (.int p5), .val (.ref b1), .val (.ref b5), .val (.ref b71), .unset, .unset, .unset, .unset, .unset, .unset, .unset, .unset, .unset, .unset, .unset, .unset] [(.int (3 : Int32)), (.ref b1), (.int (103 : Int32)), (.ref b71)])) rfl rfl (hb hby at_225) _ ?_
    show Steps p.tables e below (T99.setTop (mkF m 226 #[.val (.long q0), .second, .val (.long q1), .second, .val (.long q2), .second, .val (.int p3), .val (.int p4), .val (.int p5), .val (.ref b1), .val (.ref b5), .val (.ref b71), .unset, .unset, .unset, .unset, .unset, .unset, .unset, .unset, .unset, .unset, .unset, .unset] [(.long va3), (.int (103 : Int32)), (.ref b71)])) _
    refine XS.aload X99.here hx rfl (hb hby at_226) rfl rfl ?_
    show Steps p.tables e below (T99.setTop (mkF m 228 #[.val (.long q0), .second, .val (.long q1), .second, .val (.long q2), .second, .val (.int p3), .val (.int p4), .val (.int p5), .val (.ref b1), .val (.ref b5), .val (.ref b71), .unset, .unset, .unset, .unset, .unset, .unset, .unset, .unset, .unset, .unset, .unset, .unset] [(.ref b5), (.long va3), (.int (103 : Int32)), (.ref b71)])) _
    refine XS.iconst X99.here hx rfl (hb hby at_228) ?_
    show Steps p.tables e below (T99.setTop (mkF m 229 #[.val (.long q0), .second, .val (.long q1), .second, .val (.long q2), .second, .val (.int p3), .val (.int p4), .val (.int p5), .val (.ref b1), .val (.ref b5), .val (.ref b71), .unset, .unset, .unset, .unset, .unset, .unset, .unset, .unset, .unset, .unset, .unset, .unset] [(.int (3 : Int32)), (.ref b5), (.long va3), (.int (103 : Int32)), (.ref b71)])) _
    refine X99.iaload hx (j := (3 : Int32)) (v := (.int vb3)) Ar105.1 (State.isArrayOf_alike hZ.alike Ar105.2.1) Ar105.2.2 (own_in Sz105 hi106) hl106 (g := (mkF m 229 #[.val (.long q0), .second, .val (.long q1), .second, .val (.long q2), .second, .val (.int p3), .val (.int p4), .val (.int p5), .val (.ref b1), .val (.ref b5), .val (.ref b71), .unset, .unset, .unset, .unset, .unset, .unset, .unset, .unset, .unset, .unset, .unset, .unset] [(.int (3 : Int32)), (.ref b5), (.long va3), (.int (103 : Int32)), (.ref b71)])) rfl rfl (hb hby at_229) _ ?_
    show Steps p.tables e below (T99.setTop (mkF m 230 #[.val (.long q0), .second, .val (.long q1), .second, .val (.long q2), .second, .val (.int p3), .val (.int p4), .val (.int p5), .val (.ref b1), .val (.ref b5), .val (.ref b71), .unset, .unset, .unset, .unset, .unset, .unset, .unset, .unset, .unset, .unset, .unset, .unset] [(.int vb3), (.long va3), (.int (103 : Int32)), (.ref b71)])) _
    refine st107.trans ?_
    show Steps p.tables e below (T107.setTop (mkF m 233 #[.val (.long q0), .second, .val (.long q1), .second, .val (.long q2), .second, .val (.int p3), .val (.int p4), .val (.int p5), .val (.ref b1), .val (.ref b5), .val (.ref b71), .unset, .unset, .unset, .unset, .unset, .unset, .unset, .unset, .unset, .unset, .unset, .unset] [])) _
    refine XS.aload X107.here hx rfl (hb hby at_233) rfl rfl ?_
    show Steps p.tables e below (T107.setTop (mkF m 235 #[.val (.long q0), .second, .val (.long q1), .second, .val (.long q2), .second, .val (.int p3), .val (.int p4), .val (.int p5), .val (.ref b1), .val (.ref b5), .val (.ref b71), .unset, .unset, .unset, .unset, .unset, .unset, .unset, .unset, .unset, .unset, .unset, .unset] [(.ref b71)])) _
    refine XS.bipush X107.here hx rfl (hb hby at_235) ?_
    show Steps p.tables e below (T107.setTop (mkF m 237 #[.val (.long q0), .second, .val (.long q1), .second, .val (.long q2), .second, .val (.int p3), .val (.int p4), .val (.int p5), .val (.ref b1), .val (.ref b5), .val (.ref b71), .unset, .unset, .unset, .unset, .unset, .unset, .unset, .unset, .unset, .unset, .unset, .unset] [(.int (104 : Int32)), (.ref b71)])) _
    refine XS.aload X107.here hx rfl (hb hby at_237) rfl rfl ?_
    show Steps p.tables e below (T107.setTop (mkF m 239 #[.val (.long q0), .second, .val (.long q1), .second, .val (.long q2), .second, .val (.int p3), .val (.int p4), .val (.int p5), .val (.ref b1), .val (.ref b5), .val (.ref b71), .unset, .unset, .unset, .unset, .unset, .unset, .unset, .unset, .unset, .unset, .unset, .unset] [(.ref b1), (.int (104 : Int32)), (.ref b71)])) _
    refine XS.iconst X107.here hx rfl (hb hby at_239) ?_
    show Steps p.tables e below (T107.setTop (mkF m 240 #[.val (.long q0), .second, .val (.long q1), .second, .val (.long q2), .second, .val (.int p3), .val (.int p4), .val (.int p5), .val (.ref b1), .val (.ref b5), .val (.ref b71), .unset, .unset, .unset, .unset, .unset, .unset, .unset, .unset, .unset, .unset, .unset, .unset] [(.int (4 : Int32)), (.ref b1), (.int (104 : Int32)), (.ref b71)])) _
    refine X107.laload hx (j := (4 : Int32)) (v := (.long va4)) Ar111.1 (State.isArrayOf_alike hZ.alike Ar111.2.1) Ar111.2.2 (own_in Sz111 hi112) hl112 (g := (mkF m 240 #[.val (.long q0), .second, .val (.long q1), .second, .val (.long q2), .second, .val (.int p3), .val (.int p4), .val (.int p5), .val (.ref b1), .val (.ref b5), .val (.ref b71), .unset, .unset, .unset, .unset, .unset, .unset, .unset, .unset, .unset, .unset, .unset, .unset] [(.int (4 : Int32)), (.ref b1), (.int (104 : Int32)), (.ref b71)])) rfl rfl (hb hby at_240) _ ?_
    show Steps p.tables e below (T107.setTop (mkF m 241 #[.val (.long q0), .second, .val (.long q1), .second, .val (.long q2), .second, .val (.int p3), .val (.int p4), .val (.int p5), .val (.ref b1), .val (.ref b5), .val (.ref b71), .unset, .unset, .unset, .unset, .unset, .unset, .unset, .unset, .unset, .unset, .unset, .unset] [(.long va4), (.int (104 : Int32)), (.ref b71)])) _
    refine XS.aload X107.here hx rfl (hb hby at_241) rfl rfl ?_
    show Steps p.tables e below (T107.setTop (mkF m 243 #[.val (.long q0), .second, .val (.long q1), .second, .val (.long q2), .second, .val (.int p3), .val (.int p4), .val (.int p5), .val (.ref b1), .val (.ref b5), .val (.ref b71), .unset, .unset, .unset, .unset, .unset, .unset, .unset, .unset, .unset, .unset, .unset, .unset] [(.ref b5), (.long va4), (.int (104 : Int32)), (.ref b71)])) _
    refine XS.iconst X107.here hx rfl (hb hby at_243) ?_
    show Steps p.tables e below (T107.setTop (mkF m 244 #[.val (.long q0), .second, .val (.long q1), .second, .val (.long q2), .second, .val (.int p3), .val (.int p4), .val (.int p5), .val (.ref b1), .val (.ref b5), .val (.ref b71), .unset, .unset, .unset, .unset, .unset, .unset, .unset, .unset, .unset, .unset, .unset, .unset] [(.int (4 : Int32)), (.ref b5), (.long va4), (.int (104 : Int32)), (.ref b71)])) _
    refine X107.iaload hx (j := (4 : Int32)) (v := (.int vb4)) Ar113.1 (State.isArrayOf_alike hZ.alike Ar113.2.1) Ar113.2.2 (own_in Sz113 hi114) hl114 (g := (mkF m 244 #[.val (.long q0), .second, .val (.long q1), .second, .val (.long q2), .second, .val (.int p3), .val (.int p4), .val (.int p5), .val (.ref b1), .val (.ref b5), .val (.ref b71), .unset, .unset, .unset, .unset, .unset, .unset, .unset, .unset, .unset, .unset, .unset, .unset] [(.int (4 : Int32)), (.ref b5), (.long va4), (.int (104 : Int32)), (.ref b71)])) rfl rfl (hb hby at_244) _ ?_
    show Steps p.tables e below (T107.setTop (mkF m 245 #[.val (.long q0), .second, .val (.long q1), .second, .val (.long q2), .second, .val (.int p3), .val (.int p4), .val (.int p5), .val (.ref b1), .val (.ref b5), .val (.ref b71), .unset, .unset, .unset, .unset, .unset, .unset, .unset, .unset, .unset, .unset, .unset, .unset] [(.int vb4), (.long va4), (.int (104 : Int32)), (.ref b71)])) _
    refine st115.trans ?_
    show Steps p.tables e below (T115.setTop (mkF m 248 #[.val (.long q0), .second, .val (.long q1), .second, .val (.long q2), .second, .val (.int p3), .val (.int p4), .val (.int p5), .val (.ref b1), .val (.ref b5), .val (.ref b71), .unset, .unset, .unset, .unset, .unset, .unset, .unset, .unset, .unset, .unset, .unset, .unset] [])) _
    refine XS.aload X115.here hx rfl (hb hby at_248) rfl rfl ?_
    show Steps p.tables e below (T115.setTop (mkF m 250 #[.val (.long q0), .second, .val (.long q1), .second, .val (.long q2), .second, .val (.int p3), .val (.int p4), .val (.int p5), .val (.ref b1), .val (.ref b5), .val (.ref b71), .unset, .unset, .unset, .unset, .unset, .unset, .unset, .unset, .unset, .unset, .unset, .unset] [(.ref b71)])) _
    refine st119.trans ?_
    show Steps p.tables e below (T119.setTop (mkF m 253 #[.val (.long q0), .second, .val (.long q1), .second, .val (.long q2), .second, .val (.int p3), .val (.int p4), .val (.int p5), .val (.ref b1), .val (.ref b5), .val (.ref b71), .unset, .unset, .unset, .unset, .unset, .unset, .unset, .unset, .unset, .unset, .unset, .unset] [(.int ((f2_115 0).2.2))])) _
    refine XS.istore X119.here hx rfl (hb hby at_253) rfl (l' := #[.val (.long q0), .second, .val (.long q1), .second, .val (.long q2), .second, .val (.int p3), .val (.int p4), .val (.int p5), .val (.ref b1), .val (.ref b5), .val (.ref b71), .val (.int ((f2_115 0).2.2)), .unset, .unset, .unset, .unset, .unset, .unset, .unset, .unset, .unset, .unset, .unset]) rfl ?_
    show Steps p.tables e below (T119.setTop (mkF m 255 #[.val (.long q0), .second, .val (.long q1), .second, .val (.long q2), .second, .val (.int p3), .val (.int p4), .val (.int p5), .val (.ref b1), .val (.ref b5), .val (.ref b71), .val (.int ((f2_115 0).2.2)), .unset, .unset, .unset, .unset, .unset, .unset, .unset, .unset, .unset, .unset, .unset] [])) _
    refine XS.aload X119.here hx rfl (hb hby at_255) rfl rfl ?_
    show Steps p.tables e below (T119.setTop (mkF m 257 #[.val (.long q0), .second, .val (.long q1), .second, .val (.long q2), .second, .val (.int p3), .val (.int p4), .val (.int p5), .val (.ref b1), .val (.ref b5), .val (.ref b71), .val (.int ((f2_115 0).2.2)), .unset, .unset, .unset, .unset, .unset, .unset, .unset, .unset, .unset, .unset, .unset] [(.ref b71)])) _
    refine st123.trans ?_
    show Steps p.tables e below (T123.setTop (mkF m 260 #[.val (.long q0), .second, .val (.long q1), .second, .val (.long q2), .second, .val (.int p3), .val (.int p4), .val (.int p5), .val (.ref b1), .val (.ref b5), .val (.ref b71), .val (.int ((f2_115 0).2.2)), .unset, .unset, .unset, .unset, .unset, .unset, .unset, .unset, .unset, .unset, .unset] [(.int ((f2_119 0).2.2))])) _
    refine XS.istore X123.here hx rfl (hb hby at_260) rfl (l' := #[.val (.long q0), .second, .val (.long q1), .second, .val (.long q2), .second, .val (.int p3), .val (.int p4), .val (.int p5), .val (.ref b1), .val (.ref b5), .val (.ref b71), .val (.int ((f2_115 0).2.2)), .val (.int ((f2_119 0).2.2)), .unset, .unset, .unset, .unset, .unset, .unset, .unset, .unset, .unset, .unset]) rfl ?_
    show Steps p.tables e below (T123.setTop (mkF m 262 #[.val (.long q0), .second, .val (.long q1), .second, .val (.long q2), .second, .val (.int p3), .val (.int p4), .val (.int p5), .val (.ref b1), .val (.ref b5), .val (.ref b71), .val (.int ((f2_115 0).2.2)), .val (.int ((f2_119 0).2.2)), .unset, .unset, .unset, .unset, .unset, .unset, .unset, .unset, .unset, .unset] [])) _
    refine XS.aload X123.here hx rfl (hb hby at_262) rfl rfl ?_
    show Steps p.tables e below (T123.setTop (mkF m 264 #[.val (.long q0), .second, .val (.long q1), .second, .val (.long q2), .second, .val (.int p3), .val (.int p4), .val (.int p5), .val (.ref b1), .val (.ref b5), .val (.ref b71), .val (.int ((f2_115 0).2.2)), .val (.int ((f2_119 0).2.2)), .unset, .unset, .unset, .unset, .unset, .unset, .unset, .unset, .unset, .unset] [(.ref b71)])) _
    refine st127.trans ?_
    show Steps p.tables e below (T127.setTop (mkF m 267 #[.val (.long q0), .second, .val (.long q1), .second, .val (.long q2), .second, .val (.int p3), .val (.int p4), .val (.int p5), .val (.ref b1), .val (.ref b5), .val (.ref b71), .val (.int ((f2_115 0).2.2)), .val (.int ((f2_119 0).2.2)), .unset, .unset, .unset, .unset, .unset, .unset, .unset, .unset, .unset, .unset] [(.int ((f2_123 0).2.2))])) _
    refine XS.istore X127.here hx rfl (hb hby at_267) rfl (l' := #[.val (.long q0), .second, .val (.long q1), .second, .val (.long q2), .second, .val (.int p3), .val (.int p4), .val (.int p5), .val (.ref b1), .val (.ref b5), .val (.ref b71), .val (.int ((f2_115 0).2.2)), .val (.int ((f2_119 0).2.2)), .val (.int ((f2_123 0).2.2)), .unset, .unset, .unset, .unset, .unset, .unset, .unset, .unset, .unset]) rfl ?_
    show Steps p.tables e below (T127.setTop (mkF m 269 #[.val (.long q0), .second, .val (.long q1), .second, .val (.long q2), .second, .val (.int p3), .val (.int p4), .val (.int p5), .val (.ref b1), .val (.ref b5), .val (.ref b71), .val (.int ((f2_115 0).2.2)), .val (.int ((f2_119 0).2.2)), .val (.int ((f2_123 0).2.2)), .unset, .unset, .unset, .unset, .unset, .unset, .unset, .unset, .unset] [])) _
    refine XS.aload X127.here hx rfl (hb hby at_269) rfl rfl ?_
    show Steps p.tables e below (T127.setTop (mkF m 271 #[.val (.long q0), .second, .val (.long q1), .second, .val (.long q2), .second, .val (.int p3), .val (.int p4), .val (.int p5), .val (.ref b1), .val (.ref b5), .val (.ref b71), .val (.int ((f2_115 0).2.2)), .val (.int ((f2_119 0).2.2)), .val (.int ((f2_123 0).2.2)), .unset, .unset, .unset, .unset, .unset, .unset, .unset, .unset, .unset] [(.ref b71)])) _
    refine st131.trans ?_
    show Steps p.tables e below (T131.setTop (mkF m 274 #[.val (.long q0), .second, .val (.long q1), .second, .val (.long q2), .second, .val (.int p3), .val (.int p4), .val (.int p5), .val (.ref b1), .val (.ref b5), .val (.ref b71), .val (.int ((f2_115 0).2.2)), .val (.int ((f2_119 0).2.2)), .val (.int ((f2_123 0).2.2)), .unset, .unset, .unset, .unset, .unset, .unset, .unset, .unset, .unset] [(.int ((f2_127 0).2.2))])) _
    refine XS.istore X131.here hx rfl (hb hby at_274) rfl (l' := #[.val (.long q0), .second, .val (.long q1), .second, .val (.long q2), .second, .val (.int p3), .val (.int p4), .val (.int p5), .val (.ref b1), .val (.ref b5), .val (.ref b71), .val (.int ((f2_115 0).2.2)), .val (.int ((f2_119 0).2.2)), .val (.int ((f2_123 0).2.2)), .val (.int ((f2_127 0).2.2)), .unset, .unset, .unset, .unset, .unset, .unset, .unset, .unset]) rfl ?_
    show Steps p.tables e below (T131.setTop (mkF m 276 #[.val (.long q0), .second, .val (.long q1), .second, .val (.long q2), .second, .val (.int p3), .val (.int p4), .val (.int p5), .val (.ref b1), .val (.ref b5), .val (.ref b71), .val (.int ((f2_115 0).2.2)), .val (.int ((f2_119 0).2.2)), .val (.int ((f2_123 0).2.2)), .val (.int ((f2_127 0).2.2)), .unset, .unset, .unset, .unset, .unset, .unset, .unset, .unset] [])) _
    refine XS.aload X131.here hx rfl (hb hby at_276) rfl rfl ?_
    show Steps p.tables e below (T131.setTop (mkF m 278 #[.val (.long q0), .second, .val (.long q1), .second, .val (.long q2), .second, .val (.int p3), .val (.int p4), .val (.int p5), .val (.ref b1), .val (.ref b5), .val (.ref b71), .val (.int ((f2_115 0).2.2)), .val (.int ((f2_119 0).2.2)), .val (.int ((f2_123 0).2.2)), .val (.int ((f2_127 0).2.2)), .unset, .unset, .unset, .unset, .unset, .unset, .unset, .unset] [(.ref b71)])) _
    refine st135.trans ?_
    show Steps p.tables e below (T135.setTop (mkF m 281 #[.val (.long q0), .second, .val (.long q1), .second, .val (.long q2), .second, .val (.int p3), .val (.int p4), .val (.int p5), .val (.ref b1), .val (.ref b5), .val (.ref b71), .val (.int ((f2_115 0).2.2)), .val (.int ((f2_119 0).2.2)), .val (.int ((f2_123 0).2.2)), .val (.int ((f2_127 0).2.2)), .unset, .unset, .unset, .unset, .unset, .unset, .unset, .unset] [(.int ((f2_131 0).2.2))])) _
    refine XS.istore X135.here hx rfl (hb hby at_281) rfl (l' := #[.val (.long q0), .second, .val (.long q1), .second, .val (.long q2), .second, .val (.int p3), .val (.int p4), .val (.int p5), .val (.ref b1), .val (.ref b5), .val (.ref b71), .val (.int ((f2_115 0).2.2)), .val (.int ((f2_119 0).2.2)), .val (.int ((f2_123 0).2.2)), .val (.int ((f2_127 0).2.2)), .val (.int ((f2_131 0).2.2)), .unset, .unset, .unset, .unset, .unset, .unset, .unset]) rfl ?_
    show Steps p.tables e below (T135.setTop (mkF m 283 #[.val (.long q0), .second, .val (.long q1), .second, .val (.long q2), .second, .val (.int p3), .val (.int p4), .val (.int p5), .val (.ref b1), .val (.ref b5), .val (.ref b71), .val (.int ((f2_115 0).2.2)), .val (.int ((f2_119 0).2.2)), .val (.int ((f2_123 0).2.2)), .val (.int ((f2_127 0).2.2)), .val (.int ((f2_131 0).2.2)), .unset, .unset, .unset, .unset, .unset, .unset, .unset] [])) _
    refine XS.aload X135.here hx rfl (hb hby at_283) rfl rfl ?_
    show Steps p.tables e below (T135.setTop (mkF m 285 #[.val (.long q0), .second, .val (.long q1), .second, .val (.long q2), .second, .val (.int p3), .val (.int p4), .val (.int p5), .val (.ref b1), .val (.ref b5), .val (.ref b71), .val (.int ((f2_115 0).2.2)), .val (.int ((f2_119 0).2.2)), .val (.int ((f2_123 0).2.2)), .val (.int ((f2_127 0).2.2)), .val (.int ((f2_131 0).2.2)), .unset, .unset, .unset, .unset, .unset, .unset, .unset] [(.ref b71)])) _
    refine st139.trans ?_
    show Steps p.tables e below (T139.setTop (mkF m 288 #[.val (.long q0), .second, .val (.long q1), .second, .val (.long q2), .second, .val (.int p3), .val (.int p4), .val (.int p5), .val (.ref b1), .val (.ref b5), .val (.ref b71), .val (.int ((f2_115 0).2.2)), .val (.int ((f2_119 0).2.2)), .val (.int ((f2_123 0).2.2)), .val (.int ((f2_127 0).2.2)), .val (.int ((f2_131 0).2.2)), .unset, .unset, .unset, .unset, .unset, .unset, .unset] [(.int ((f10_12 ((0 : Nat).toInt32)) &&& 1))])) _
    refine XS.istore X139.here hx rfl (hb hby at_288) rfl (l' := #[.val (.long q0), .second, .val (.long q1), .second, .val (.long q2), .second, .val (.int p3), .val (.int p4), .val (.int p5), .val (.ref b1), .val (.ref b5), .val (.ref b71), .val (.int ((f2_115 0).2.2)), .val (.int ((f2_119 0).2.2)), .val (.int ((f2_123 0).2.2)), .val (.int ((f2_127 0).2.2)), .val (.int ((f2_131 0).2.2)), .val (.int ((f10_12 ((0 : Nat).toInt32)) &&& 1)), .unset, .unset, .unset, .unset, .unset, .unset]) rfl ?_
    show Steps p.tables e below (T139.setTop (mkF m 290 #[.val (.long q0), .second, .val (.long q1), .second, .val (.long q2), .second, .val (.int p3), .val (.int p4), .val (.int p5), .val (.ref b1), .val (.ref b5), .val (.ref b71), .val (.int ((f2_115 0).2.2)), .val (.int ((f2_119 0).2.2)), .val (.int ((f2_123 0).2.2)), .val (.int ((f2_127 0).2.2)), .val (.int ((f2_131 0).2.2)), .val (.int ((f10_12 ((0 : Nat).toInt32)) &&& 1)), .unset, .unset, .unset, .unset, .unset, .unset] [])) _
    exact k)
  have hre141 : ((f2_115 0).2.2) = ((100 + l0).toInt32) := by rw [show ((f2_115 0).2.2) = (own_ent rr cc l0).2.2 from congrArg (fun x => x.2.2) he0]; rfl
  have pre141 : ∀ t, Steps p.tables e below (T139.setTop (mkF m 290 #[.val (.long q0), .second, .val (.long q1), .second, .val (.long q2), .second, .val (.int p3), .val (.int p4), .val (.int p5), .val (.ref b1), .val (.ref b5), .val (.ref b71), .val (.int ((100 + l0).toInt32)), .val (.int ((f2_119 0).2.2)), .val (.int ((f2_123 0).2.2)), .val (.int ((f2_127 0).2.2)), .val (.int ((f2_131 0).2.2)), .val (.int ((f10_12 ((0 : Nat).toInt32)) &&& 1)), .unset, .unset, .unset, .unset, .unset, .unset] [])) t → Steps p.tables e below (s₁.setTop (entryFrame m #[(.long q0), (.long q1), (.long q2), (.int p3), (.int p4), (.int p5)] maxLocals)) t := fun t k => pre140 t (by rw [hre141]; exact k)
  have pre142 : ∀ t, Steps p.tables e below (T139.setTop (mkF m 290 #[.val (.long q0), .second, .val (.long q1), .second, .val (.long q2), .second, .val (.int p3), .val (.int p4), .val (.int p5), .val (.ref b1), .val (.ref b5), .val (.ref b71), .val (.int ((100 + l0).toInt32)), .val (.int ((f2_119 0).2.2)), .val (.int ((f2_123 0).2.2)), .val (.int ((f2_127 0).2.2)), .val (.int ((f2_131 0).2.2)), .val (.int ((f10_12 ((0 : Nat).toInt32)) &&& 1)), .unset, .unset, .unset, .unset, .unset, .unset] [])) t → Steps p.tables e below (s₁.setTop (entryFrame m #[(.long q0), (.long q1), (.long q2), (.int p3), (.int p4), (.int p5)] maxLocals)) t := fun t k => pre141 t (by
    show Steps p.tables e below (T139.setTop (mkF m 290 #[.val (.long q0), .second, .val (.long q1), .second, .val (.long q2), .second, .val (.int p3), .val (.int p4), .val (.int p5), .val (.ref b1), .val (.ref b5), .val (.ref b71), .val (.int ((100 + l0).toInt32)), .val (.int ((f2_119 0).2.2)), .val (.int ((f2_123 0).2.2)), .val (.int ((f2_127 0).2.2)), .val (.int ((f2_131 0).2.2)), .val (.int ((f10_12 ((0 : Nat).toInt32)) &&& 1)), .unset, .unset, .unset, .unset, .unset, .unset] [])) _
    exact k)
  have hre143 : ((f2_119 0).2.2) = ((100 + l1).toInt32) := by rw [show ((f2_119 0).2.2) = (own_ent rr cc l1).2.2 from congrArg (fun x => x.2.2) he1]; rfl
  have pre143 : ∀ t, Steps p.tables e below (T139.setTop (mkF m 290 #[.val (.long q0), .second, .val (.long q1), .second, .val (.long q2), .second, .val (.int p3), .val (.int p4), .val (.int p5), .val (.ref b1), .val (.ref b5), .val (.ref b71), .val (.int ((100 + l0).toInt32)), .val (.int ((100 + l1).toInt32)), .val (.int ((f2_123 0).2.2)), .val (.int ((f2_127 0).2.2)), .val (.int ((f2_131 0).2.2)), .val (.int ((f10_12 ((0 : Nat).toInt32)) &&& 1)), .unset, .unset, .unset, .unset, .unset, .unset] [])) t → Steps p.tables e below (s₁.setTop (entryFrame m #[(.long q0), (.long q1), (.long q2), (.int p3), (.int p4), (.int p5)] maxLocals)) t := fun t k => pre142 t (by rw [hre143]; exact k)
  have pre144 : ∀ t, Steps p.tables e below (T139.setTop (mkF m 290 #[.val (.long q0), .second, .val (.long q1), .second, .val (.long q2), .second, .val (.int p3), .val (.int p4), .val (.int p5), .val (.ref b1), .val (.ref b5), .val (.ref b71), .val (.int ((100 + l0).toInt32)), .val (.int ((100 + l1).toInt32)), .val (.int ((f2_123 0).2.2)), .val (.int ((f2_127 0).2.2)), .val (.int ((f2_131 0).2.2)), .val (.int ((f10_12 ((0 : Nat).toInt32)) &&& 1)), .unset, .unset, .unset, .unset, .unset, .unset] [])) t → Steps p.tables e below (s₁.setTop (entryFrame m #[(.long q0), (.long q1), (.long q2), (.int p3), (.int p4), (.int p5)] maxLocals)) t := fun t k => pre143 t (by
    show Steps p.tables e below (T139.setTop (mkF m 290 #[.val (.long q0), .second, .val (.long q1), .second, .val (.long q2), .second, .val (.int p3), .val (.int p4), .val (.int p5), .val (.ref b1), .val (.ref b5), .val (.ref b71), .val (.int ((100 + l0).toInt32)), .val (.int ((100 + l1).toInt32)), .val (.int ((f2_123 0).2.2)), .val (.int ((f2_127 0).2.2)), .val (.int ((f2_131 0).2.2)), .val (.int ((f10_12 ((0 : Nat).toInt32)) &&& 1)), .unset, .unset, .unset, .unset, .unset, .unset] [])) _
    exact k)
  have hre145 : ((f2_123 0).2.2) = ((100 + l2).toInt32) := by rw [show ((f2_123 0).2.2) = (own_ent rr cc l2).2.2 from congrArg (fun x => x.2.2) he2]; rfl
  have pre145 : ∀ t, Steps p.tables e below (T139.setTop (mkF m 290 #[.val (.long q0), .second, .val (.long q1), .second, .val (.long q2), .second, .val (.int p3), .val (.int p4), .val (.int p5), .val (.ref b1), .val (.ref b5), .val (.ref b71), .val (.int ((100 + l0).toInt32)), .val (.int ((100 + l1).toInt32)), .val (.int ((100 + l2).toInt32)), .val (.int ((f2_127 0).2.2)), .val (.int ((f2_131 0).2.2)), .val (.int ((f10_12 ((0 : Nat).toInt32)) &&& 1)), .unset, .unset, .unset, .unset, .unset, .unset] [])) t → Steps p.tables e below (s₁.setTop (entryFrame m #[(.long q0), (.long q1), (.long q2), (.int p3), (.int p4), (.int p5)] maxLocals)) t := fun t k => pre144 t (by rw [hre145]; exact k)
  have pre146 : ∀ t, Steps p.tables e below (T139.setTop (mkF m 290 #[.val (.long q0), .second, .val (.long q1), .second, .val (.long q2), .second, .val (.int p3), .val (.int p4), .val (.int p5), .val (.ref b1), .val (.ref b5), .val (.ref b71), .val (.int ((100 + l0).toInt32)), .val (.int ((100 + l1).toInt32)), .val (.int ((100 + l2).toInt32)), .val (.int ((f2_127 0).2.2)), .val (.int ((f2_131 0).2.2)), .val (.int ((f10_12 ((0 : Nat).toInt32)) &&& 1)), .unset, .unset, .unset, .unset, .unset, .unset] [])) t → Steps p.tables e below (s₁.setTop (entryFrame m #[(.long q0), (.long q1), (.long q2), (.int p3), (.int p4), (.int p5)] maxLocals)) t := fun t k => pre145 t (by
    show Steps p.tables e below (T139.setTop (mkF m 290 #[.val (.long q0), .second, .val (.long q1), .second, .val (.long q2), .second, .val (.int p3), .val (.int p4), .val (.int p5), .val (.ref b1), .val (.ref b5), .val (.ref b71), .val (.int ((100 + l0).toInt32)), .val (.int ((100 + l1).toInt32)), .val (.int ((100 + l2).toInt32)), .val (.int ((f2_127 0).2.2)), .val (.int ((f2_131 0).2.2)), .val (.int ((f10_12 ((0 : Nat).toInt32)) &&& 1)), .unset, .unset, .unset, .unset, .unset, .unset] [])) _
    exact k)
  have hre147 : ((f2_127 0).2.2) = ((100 + l3).toInt32) := by rw [show ((f2_127 0).2.2) = (own_ent rr cc l3).2.2 from congrArg (fun x => x.2.2) he3]; rfl
  have pre147 : ∀ t, Steps p.tables e below (T139.setTop (mkF m 290 #[.val (.long q0), .second, .val (.long q1), .second, .val (.long q2), .second, .val (.int p3), .val (.int p4), .val (.int p5), .val (.ref b1), .val (.ref b5), .val (.ref b71), .val (.int ((100 + l0).toInt32)), .val (.int ((100 + l1).toInt32)), .val (.int ((100 + l2).toInt32)), .val (.int ((100 + l3).toInt32)), .val (.int ((f2_131 0).2.2)), .val (.int ((f10_12 ((0 : Nat).toInt32)) &&& 1)), .unset, .unset, .unset, .unset, .unset, .unset] [])) t → Steps p.tables e below (s₁.setTop (entryFrame m #[(.long q0), (.long q1), (.long q2), (.int p3), (.int p4), (.int p5)] maxLocals)) t := fun t k => pre146 t (by rw [hre147]; exact k)
  have pre148 : ∀ t, Steps p.tables e below (T139.setTop (mkF m 290 #[.val (.long q0), .second, .val (.long q1), .second, .val (.long q2), .second, .val (.int p3), .val (.int p4), .val (.int p5), .val (.ref b1), .val (.ref b5), .val (.ref b71), .val (.int ((100 + l0).toInt32)), .val (.int ((100 + l1).toInt32)), .val (.int ((100 + l2).toInt32)), .val (.int ((100 + l3).toInt32)), .val (.int ((f2_131 0).2.2)), .val (.int ((f10_12 ((0 : Nat).toInt32)) &&& 1)), .unset, .unset, .unset, .unset, .unset, .unset] [])) t → Steps p.tables e below (s₁.setTop (entryFrame m #[(.long q0), (.long q1), (.long q2), (.int p3), (.int p4), (.int p5)] maxLocals)) t := fun t k => pre147 t (by
    show Steps p.tables e below (T139.setTop (mkF m 290 #[.val (.long q0), .second, .val (.long q1), .second, .val (.long q2), .second, .val (.int p3), .val (.int p4), .val (.int p5), .val (.ref b1), .val (.ref b5), .val (.ref b71), .val (.int ((100 + l0).toInt32)), .val (.int ((100 + l1).toInt32)), .val (.int ((100 + l2).toInt32)), .val (.int ((100 + l3).toInt32)), .val (.int ((f2_131 0).2.2)), .val (.int ((f10_12 ((0 : Nat).toInt32)) &&& 1)), .unset, .unset, .unset, .unset, .unset, .unset] [])) _
    exact k)
  have hre149 : ((f2_131 0).2.2) = ((100 + l4).toInt32) := by rw [show ((f2_131 0).2.2) = (own_ent rr cc l4).2.2 from congrArg (fun x => x.2.2) he4]; rfl
  have pre149 : ∀ t, Steps p.tables e below (T139.setTop (mkF m 290 #[.val (.long q0), .second, .val (.long q1), .second, .val (.long q2), .second, .val (.int p3), .val (.int p4), .val (.int p5), .val (.ref b1), .val (.ref b5), .val (.ref b71), .val (.int ((100 + l0).toInt32)), .val (.int ((100 + l1).toInt32)), .val (.int ((100 + l2).toInt32)), .val (.int ((100 + l3).toInt32)), .val (.int ((100 + l4).toInt32)), .val (.int ((f10_12 ((0 : Nat).toInt32)) &&& 1)), .unset, .unset, .unset, .unset, .unset, .unset] [])) t → Steps p.tables e below (s₁.setTop (entryFrame m #[(.long q0), (.long q1), (.long q2), (.int p3), (.int p4), (.int p5)] maxLocals)) t := fun t k => pre148 t (by rw [hre149]; exact k)
  have hn0 : ¬ own_bf (own_ent rr cc l1) (own_ent rr cc l0) := by have q := hb0 0 (by decide); rw [he1] at q; exact q
  have hn1 : ¬ own_bf (own_ent rr cc l2) (own_ent rr cc l1) := by have q := hb1 0 (by decide); rw [he2] at q; exact q
  have hn2 : ¬ own_bf (own_ent rr cc l3) (own_ent rr cc l2) := by have q := hb2 0 (by decide); rw [he3] at q; exact q
  have hn3 : ¬ own_bf (own_ent rr cc l4) (own_ent rr cc l3) := by have q := hb3 0 (by decide); rw [he4] at q; exact q
  have hnod : [l4, l3, l2, l1, l0].Nodup := by
    simp only [List.nodup_cons, List.nodup_nil]
    exact ⟨hu4, hu3, hu2, hu1, by simp, trivial⟩
  obtain ⟨_, _, ⟨T150, L150, k150, n150⟩, -, X150, ⟨Lc150, hQ150, l150, y150, z150⟩, st150⟩ := Jvm.LawKit.callS X139 hx (y := (⟨"com/example/brisk_maze/briskmaze/search/RankedFrontierRemoveFirstPinLaw", "inRange", "(I)Z"⟩ : MethodName)) hown (mvT hZ (hw _ (List.mem_of_getElem? (i := 52) rfl))) (mvT hZ (hw _ (List.mem_of_getElem? (i := 53) rfl))) (mvT hZ (hw _ (List.mem_of_getElem? (i := 4) rfl))) (mvT hZ (hw _ (List.mem_of_getElem? (i := 54) rfl))) (by decide) (backOf (W := 0) (rm11 l Z a0 hw [] ((100 + l0).toInt32) T135.heap n0 ZZ137) hZ (hw _ (List.mem_of_getElem? (i := 54) rfl)) (hw _ (List.mem_of_getElem? (i := 4) rfl)) (by decide) (by decide)) (g := (mkF m 299 #[.val (.long q0), .second, .val (.long q1), .second, .val (.long q2), .second, .val (.int p3), .val (.int p4), .val (.int p5), .val (.ref b1), .val (.ref b5), .val (.ref b71), .val (.int ((100 + l0).toInt32)), .val (.int ((100 + l1).toInt32)), .val (.int ((100 + l2).toInt32)), .val (.int ((100 + l3).toInt32)), .val (.int ((100 + l4).toInt32)), .val (.int ((f10_12 ((0 : Nat).toInt32)) &&& 1)), .unset, .unset, .unset, .unset, .unset, .unset] [(.int ((100 + l0).toInt32))])) rfl (by rw [hml]; rfl) (argsL := [(.int ((100 + l0).toInt32))]) (rest := []) (lenOf pd_10 rfl) rfl (by show 2 * 0 + _ ≤ _; exact Nat.le_of_eq rfl) (hb hby at_299) (fun _ _ => ⟨rfl, hh139, (by decide : 6 + 0 ≤ _), (by decide : 206 + 0 ≤ _)⟩)
  dsimp only [Pt.U, Pt.locs, Pt.cells, Pt.slots] at X150 l150 y150 z150 st150 hQ150
  subst y150 z150
  obtain ⟨rfl, N150q, hh150⟩ := hQ150
  have N150 := Fr.app N139 N150q
  rw [← l150] at N150
  obtain ⟨_, _, ⟨T151, L151, k151, n151⟩, -, X151, ⟨Lc151, hQ151, l151, y151, z151⟩, st151⟩ := Jvm.LawKit.callS X150 hx (y := (⟨"com/example/brisk_maze/briskmaze/search/RankedFrontierRemoveFirstPinLaw", "inRange", "(I)Z"⟩ : MethodName)) hown (mvT hZ (hw _ (List.mem_of_getElem? (i := 52) rfl))) (mvT hZ (hw _ (List.mem_of_getElem? (i := 53) rfl))) (mvT hZ (hw _ (List.mem_of_getElem? (i := 4) rfl))) (mvT hZ (hw _ (List.mem_of_getElem? (i := 54) rfl))) (by decide) (backOf (W := 0) (rm11 l Z a0 hw [] ((100 + l1).toInt32) T135.heap n0 ZZ137) hZ (hw _ (List.mem_of_getElem? (i := 54) rfl)) (hw _ (List.mem_of_getElem? (i := 4) rfl)) (by decide) (by decide)) (g := (mkF m 307 #[.val (.long q0), .second, .val (.long q1), .second, .val (.long q2), .second, .val (.int p3), .val (.int p4), .val (.int p5), .val (.ref b1), .val (.ref b5), .val (.ref b71), .val (.int ((100 + l0).toInt32)), .val (.int ((100 + l1).toInt32)), .val (.int ((100 + l2).toInt32)), .val (.int ((100 + l3).toInt32)), .val (.int ((100 + l4).toInt32)), .val (.int ((f10_12 ((0 : Nat).toInt32)) &&& 1)), .unset, .unset, .unset, .unset, .unset, .unset] [(.int ((100 + l1).toInt32))])) rfl (by rw [hml]; rfl) (argsL := [(.int ((100 + l1).toInt32))]) (rest := []) (lenOf pd_10 rfl) rfl (by show 2 * 0 + _ ≤ _; exact Nat.le_of_eq rfl) (hb hby at_307) (fun _ _ => ⟨rfl, hh150, (by decide : 6 + 0 ≤ _), (by decide : 206 + 0 ≤ _)⟩)
  dsimp only [Pt.U, Pt.locs, Pt.cells, Pt.slots] at X151 l151 y151 z151 st151 hQ151
  subst y151 z151
  obtain ⟨rfl, N151q, hh151⟩ := hQ151
  have N151 := Fr.app N150 N151q
  rw [← l151] at N151
  obtain ⟨_, _, ⟨T152, L152, k152, n152⟩, -, X152, ⟨Lc152, hQ152, l152, y152, z152⟩, st152⟩ := Jvm.LawKit.callS X151 hx (y := (⟨"com/example/brisk_maze/briskmaze/search/RankedFrontierRemoveFirstPinLaw", "inRange", "(I)Z"⟩ : MethodName)) hown (mvT hZ (hw _ (List.mem_of_getElem? (i := 52) rfl))) (mvT hZ (hw _ (List.mem_of_getElem? (i := 53) rfl))) (mvT hZ (hw _ (List.mem_of_getElem? (i := 4) rfl))) (mvT hZ (hw _ (List.mem_of_getElem? (i := 54) rfl))) (by decide) (backOf (W := 0) (rm11 l Z a0 hw [] ((100 + l2).toInt32) T135.heap n0 ZZ137) hZ (hw _ (List.mem_of_getElem? (i := 54) rfl)) (hw _ (List.mem_of_getElem? (i := 4) rfl)) (by decide) (by decide)) (g := (mkF m 315 #[.val (.long q0), .second, .val (.long q1), .second, .val (.long q2), .second, .val (.int p3), .val (.int p4), .val (.int p5), .val (.ref b1), .val (.ref b5), .val (.ref b71), .val (.int ((100 + l0).toInt32)), .val (.int ((100 + l1).toInt32)), .val (.int ((100 + l2).toInt32)), .val (.int ((100 + l3).toInt32)), .val (.int ((100 + l4).toInt32)), .val (.int ((f10_12 ((0 : Nat).toInt32)) &&& 1)), .unset, .unset, .unset, .unset, .unset, .unset] [(.int ((100 + l2).toInt32))])) rfl (by rw [hml]; rfl) (argsL := [(.int ((100 + l2).toInt32))]) (rest := []) (lenOf pd_10 rfl) rfl (by show 2 * 0 + _ ≤ _; exact Nat.le_of_eq rfl) (hb hby at_315) (fun _ _ => ⟨rfl, hh151, (by decide : 6 + 0 ≤ _), (by decide : 206 + 0 ≤ _)⟩)
  dsimp only [Pt.U, Pt.locs, Pt.cells, Pt.slots] at X152 l152 y152 z152 st152 hQ152
  subst y152 z152
  obtain ⟨rfl, N152q, hh152⟩ := hQ152
  have N152 := Fr.app N151 N152q
  rw [← l152] at N152
  obtain ⟨_, _, ⟨T153, L153, k153, n153⟩, -, X153, ⟨Lc153, hQ153, l153, y153, z153⟩, st153⟩ := Jvm.LawKit.callS X152 hx (y := (⟨"com/example/brisk_maze/briskmaze/search/RankedFrontierRemoveFirstPinLaw", "inRange", "(I)Z"⟩ : MethodName)) hown (mvT hZ (hw _ (List.mem_of_getElem? (i := 52) rfl))) (mvT hZ (hw _ (List.mem_of_getElem? (i := 53) rfl))) (mvT hZ (hw _ (List.mem_of_getElem? (i := 4) rfl))) (mvT hZ (hw _ (List.mem_of_getElem? (i := 54) rfl))) (by decide) (backOf (W := 0) (rm11 l Z a0 hw [] ((100 + l3).toInt32) T135.heap n0 ZZ137) hZ (hw _ (List.mem_of_getElem? (i := 54) rfl)) (hw _ (List.mem_of_getElem? (i := 4) rfl)) (by decide) (by decide)) (g := (mkF m 323 #[.val (.long q0), .second, .val (.long q1), .second, .val (.long q2), .second, .val (.int p3), .val (.int p4), .val (.int p5), .val (.ref b1), .val (.ref b5), .val (.ref b71), .val (.int ((100 + l0).toInt32)), .val (.int ((100 + l1).toInt32)), .val (.int ((100 + l2).toInt32)), .val (.int ((100 + l3).toInt32)), .val (.int ((100 + l4).toInt32)), .val (.int ((f10_12 ((0 : Nat).toInt32)) &&& 1)), .unset, .unset, .unset, .unset, .unset, .unset] [(.int ((100 + l3).toInt32))])) rfl (by rw [hml]; rfl) (argsL := [(.int ((100 + l3).toInt32))]) (rest := []) (lenOf pd_10 rfl) rfl (by show 2 * 0 + _ ≤ _; exact Nat.le_of_eq rfl) (hb hby at_323) (fun _ _ => ⟨rfl, hh152, (by decide : 6 + 0 ≤ _), (by decide : 206 + 0 ≤ _)⟩)
  dsimp only [Pt.U, Pt.locs, Pt.cells, Pt.slots] at X153 l153 y153 z153 st153 hQ153
  subst y153 z153
  obtain ⟨rfl, N153q, hh153⟩ := hQ153
  have N153 := Fr.app N152 N153q
  rw [← l153] at N153
  obtain ⟨_, _, ⟨T154, L154, k154, n154⟩, -, X154, ⟨Lc154, hQ154, l154, y154, z154⟩, st154⟩ := Jvm.LawKit.callS X153 hx (y := (⟨"com/example/brisk_maze/briskmaze/search/RankedFrontierRemoveFirstPinLaw", "inRange", "(I)Z"⟩ : MethodName)) hown (mvT hZ (hw _ (List.mem_of_getElem? (i := 52) rfl))) (mvT hZ (hw _ (List.mem_of_getElem? (i := 53) rfl))) (mvT hZ (hw _ (List.mem_of_getElem? (i := 4) rfl))) (mvT hZ (hw _ (List.mem_of_getElem? (i := 54) rfl))) (by decide) (backOf (W := 0) (rm11 l Z a0 hw [] ((100 + l4).toInt32) T135.heap n0 ZZ137) hZ (hw _ (List.mem_of_getElem? (i := 54) rfl)) (hw _ (List.mem_of_getElem? (i := 4) rfl)) (by decide) (by decide)) (g := (mkF m 331 #[.val (.long q0), .second, .val (.long q1), .second, .val (.long q2), .second, .val (.int p3), .val (.int p4), .val (.int p5), .val (.ref b1), .val (.ref b5), .val (.ref b71), .val (.int ((100 + l0).toInt32)), .val (.int ((100 + l1).toInt32)), .val (.int ((100 + l2).toInt32)), .val (.int ((100 + l3).toInt32)), .val (.int ((100 + l4).toInt32)), .val (.int ((f10_12 ((0 : Nat).toInt32)) &&& 1)), .unset, .unset, .unset, .unset, .unset, .unset] [(.int ((100 + l4).toInt32))])) rfl (by rw [hml]; rfl) (argsL := [(.int ((100 + l4).toInt32))]) (rest := []) (lenOf pd_10 rfl) rfl (by show 2 * 0 + _ ≤ _; exact Nat.le_of_eq rfl) (hb hby at_331) (fun _ _ => ⟨rfl, hh153, (by decide : 6 + 0 ≤ _), (by decide : 206 + 0 ≤ _)⟩)
  dsimp only [Pt.U, Pt.locs, Pt.cells, Pt.slots] at X154 l154 y154 z154 st154 hQ154
  subst y154 z154
  obtain ⟨rfl, N154q, hh154⟩ := hQ154
  have N154 := Fr.app N153 N154q
  rw [← l154] at N154
  have pre155 : ∀ t, Steps p.tables e below (T154.setTop (mkF m 346 #[.val (.long q0), .second, .val (.long q1), .second, .val (.long q2), .second, .val (.int p3), .val (.int p4), .val (.int p5), .val (.ref b1), .val (.ref b5), .val (.ref b71), .val (.int ((100 + l0).toInt32)), .val (.int ((100 + l1).toInt32)), .val (.int ((100 + l2).toInt32)), .val (.int ((100 + l3).toInt32)), .val (.int ((100 + l4).toInt32)), .val (.int ((f10_12 ((0 : Nat).toInt32)) &&& 1)), .val (.int (((100 + l0).toInt32) - (100 : Int32))), .unset, .unset, .unset, .unset, .unset] [])) t → Steps p.tables e below (s₁.setTop (entryFrame m #[(.long q0), (.long q1), (.long q2), (.int p3), (.int p4), (.int p5)] maxLocals)) t := fun t k => pre149 t (by
    show Steps p.tables e below (T139.setTop (mkF m 290 #[.val (.long q0), .second, .val (.long q1), .second, .val (.long q2), .second, .val (.int p3), .val (.int p4), .val (.int p5), .val (.ref b1), .val (.ref b5), .val (.ref b71), .val (.int ((100 + l0).toInt32)), .val (.int ((100 + l1).toInt32)), .val (.int ((100 + l2).toInt32)), .val (.int ((100 + l3).toInt32)), .val (.int ((100 + l4).toInt32)), .val (.int ((f10_12 ((0 : Nat).toInt32)) &&& 1)), .unset, .unset, .unset, .unset, .unset, .unset] [])) _
    refine XS.iload X139.here hx rfl (hb hby at_290) rfl ?_
    show Steps p.tables e below (T139.setTop (mkF m 292 #[.val (.long q0), .second, .val (.long q1), .second, .val (.long q2), .second, .val (.int p3), .val (.int p4), .val (.int p5), .val (.ref b1), .val (.ref b5), .val (.ref b71), .val (.int ((100 + l0).toInt32)), .val (.int ((100 + l1).toInt32)), .val (.int ((100 + l2).toInt32)), .val (.int ((100 + l3).toInt32)), .val (.int ((100 + l4).toInt32)), .val (.int ((f10_12 ((0 : Nat).toInt32)) &&& 1)), .unset, .unset, .unset, .unset, .unset, .unset] [(.int ((f10_12 ((0 : Nat).toInt32)) &&& 1))])) _
    refine XS.ifYes X139.here hx rfl (pc0 := 292) (pc' := 297) rfl (hb hby at_292) rfl ((if0 _ _).trans (feq (show ¬ (((f10_12 ((0 : Nat).toInt32)) &&& 1) = (0 : Int32)) from by decide)).2) (by decide) (by decide) ?_
    show Steps p.tables e below (T139.setTop (mkF m 297 #[.val (.long q0), .second, .val (.long q1), .second, .val (.long q2), .second, .val (.int p3), .val (.int p4), .val (.int p5), .val (.ref b1), .val (.ref b5), .val (.ref b71), .val (.int ((100 + l0).toInt32)), .val (.int ((100 + l1).toInt32)), .val (.int ((100 + l2).toInt32)), .val (.int ((100 + l3).toInt32)), .val (.int ((100 + l4).toInt32)), .val (.int ((f10_12 ((0 : Nat).toInt32)) &&& 1)), .unset, .unset, .unset, .unset, .unset, .unset] [])) _
    refine XS.iload X139.here hx rfl (hb hby at_297) rfl ?_
    show Steps p.tables e below (T139.setTop (mkF m 299 #[.val (.long q0), .second, .val (.long q1), .second, .val (.long q2), .second, .val (.int p3), .val (.int p4), .val (.int p5), .val (.ref b1), .val (.ref b5), .val (.ref b71), .val (.int ((100 + l0).toInt32)), .val (.int ((100 + l1).toInt32)), .val (.int ((100 + l2).toInt32)), .val (.int ((100 + l3).toInt32)), .val (.int ((100 + l4).toInt32)), .val (.int ((f10_12 ((0 : Nat).toInt32)) &&& 1)), .unset, .unset, .unset, .unset, .unset, .unset] [(.int ((100 + l0).toInt32))])) _
    refine st150 _ ?_
    show Steps p.tables e below (T150.setTop (mkF m 302 #[.val (.long q0), .second, .val (.long q1), .second, .val (.long q2), .second, .val (.int p3), .val (.int p4), .val (.int p5), .val (.ref b1), .val (.ref b5), .val (.ref b71), .val (.int ((100 + l0).toInt32)), .val (.int ((100 + l1).toInt32)), .val (.int ((100 + l2).toInt32)), .val (.int ((100 + l3).toInt32)), .val (.int ((100 + l4).toInt32)), .val (.int ((f10_12 ((0 : Nat).toInt32)) &&& 1)), .unset, .unset, .unset, .unset, .unset, .unset] [(.int (f11_ret ((100 + l0).toInt32)))])) _
    refine XS.ifNo X150.here hx rfl (hb hby at_302) rfl ((if0 _ _).trans (feq (show ¬ ((f11_ret ((100 + l0).toInt32)) = (0 : Int32)) from own_inr ⟨l0, hl0⟩)).1) ?_
    show Steps p.tables e below (T150.setTop (mkF m 305 #[.val (.long q0), .second, .val (.long q1), .second, .val (.long q2), .second, .val (.int p3), .val (.int p4), .val (.int p5), .val (.ref b1), .val (.ref b5), .val (.ref b71), .val (.int ((100 + l0).toInt32)), .val (.int ((100 + l1).toInt32)), .val (.int ((100 + l2).toInt32)), .val (.int ((100 + l3).toInt32)), .val (.int ((100 + l4).toInt32)), .val (.int ((f10_12 ((0 : Nat).toInt32)) &&& 1)), .unset, .unset, .unset, .unset, .unset, .unset] [])) _
    refine XS.iload X150.here hx rfl (hb hby at_305) rfl ?_
    show Steps p.tables e below (T150.setTop (mkF m 307 #[.val (.long q0), .second, .val (.long q1), .second, .val (.long q2), .second, .val (.int p3), .val (.int p4), .val (.int p5), .val (.ref b1), .val (.ref b5), .val (.ref b71), .val (.int ((100 + l0).toInt32)), .val (.int ((100 + l1).toInt32)), .val (.int ((100 + l2).toInt32)), .val (.int ((100 + l3).toInt32)), .val (.int ((100 + l4).toInt32)), .val (.int ((f10_12 ((0 : Nat).toInt32)) &&& 1)), .unset, .unset, .unset, .unset, .unset, .unset] [(.int ((100 + l1).toInt32))])) _
    refine st151 _ ?_
    show Steps p.tables e below (T151.setTop (mkF m 310 #[.val (.long q0), .second, .val (.long q1), .second, .val (.long q2), .second, .val (.int p3), .val (.int p4), .val (.int p5), .val (.ref b1), .val (.ref b5), .val (.ref b71), .val (.int ((100 + l0).toInt32)), .val (.int ((100 + l1).toInt32)), .val (.int ((100 + l2).toInt32)), .val (.int ((100 + l3).toInt32)), .val (.int ((100 + l4).toInt32)), .val (.int ((f10_12 ((0 : Nat).toInt32)) &&& 1)), .unset, .unset, .unset, .unset, .unset, .unset] [(.int (f11_ret ((100 + l1).toInt32)))])) _
    refine XS.ifNo X151.here hx rfl (hb hby at_310) rfl ((if0 _ _).trans (feq (show ¬ ((f11_ret ((100 + l1).toInt32)) = (0 : Int32)) from own_inr ⟨l1, hl1⟩)).1) ?_
    show Steps p.tables e below (T151.setTop (mkF m 313 #[.val (.long q0), .second, .val (.long q1), .second, .val (.long q2), .second, .val (.int p3), .val (.int p4), .val (.int p5), .val (.ref b1), .val (.ref b5), .val (.ref b71), .val (.int ((100 + l0).toInt32)), .val (.int ((100 + l1).toInt32)), .val (.int ((100 + l2).toInt32)), .val (.int ((100 + l3).toInt32)), .val (.int ((100 + l4).toInt32)), .val (.int ((f10_12 ((0 : Nat).toInt32)) &&& 1)), .unset, .unset, .unset, .unset, .unset, .unset] [])) _
    refine XS.iload X151.here hx rfl (hb hby at_313) rfl ?_
    show Steps p.tables e below (T151.setTop (mkF m 315 #[.val (.long q0), .second, .val (.long q1), .second, .val (.long q2), .second, .val (.int p3), .val (.int p4), .val (.int p5), .val (.ref b1), .val (.ref b5), .val (.ref b71), .val (.int ((100 + l0).toInt32)), .val (.int ((100 + l1).toInt32)), .val (.int ((100 + l2).toInt32)), .val (.int ((100 + l3).toInt32)), .val (.int ((100 + l4).toInt32)), .val (.int ((f10_12 ((0 : Nat).toInt32)) &&& 1)), .unset, .unset, .unset, .unset, .unset, .unset] [(.int ((100 + l2).toInt32))])) _
    refine st152 _ ?_
    show Steps p.tables e below (T152.setTop (mkF m 318 #[.val (.long q0), .second, .val (.long q1), .second, .val (.long q2), .second, .val (.int p3), .val (.int p4), .val (.int p5), .val (.ref b1), .val (.ref b5), .val (.ref b71), .val (.int ((100 + l0).toInt32)), .val (.int ((100 + l1).toInt32)), .val (.int ((100 + l2).toInt32)), .val (.int ((100 + l3).toInt32)), .val (.int ((100 + l4).toInt32)), .val (.int ((f10_12 ((0 : Nat).toInt32)) &&& 1)), .unset, .unset, .unset, .unset, .unset, .unset] [(.int (f11_ret ((100 + l2).toInt32)))])) _
    refine XS.ifNo X152.here hx rfl (hb hby at_318) rfl ((if0 _ _).trans (feq (show ¬ ((f11_ret ((100 + l2).toInt32)) = (0 : Int32)) from own_inr ⟨l2, hl2⟩)).1) ?_
    show Steps p.tables e below (T152.setTop (mkF m 321 #[.val (.long q0), .second, .val (.long q1), .second, .val (.long q2), .second, .val (.int p3), .val (.int p4), .val (.int p5), .val (.ref b1), .val (.ref b5), .val (.ref b71), .val (.int ((100 + l0).toInt32)), .val (.int ((100 + l1).toInt32)), .val (.int ((100 + l2).toInt32)), .val (.int ((100 + l3).toInt32)), .val (.int ((100 + l4).toInt32)), .val (.int ((f10_12 ((0 : Nat).toInt32)) &&& 1)), .unset, .unset, .unset, .unset, .unset, .unset] [])) _
    refine XS.iload X152.here hx rfl (hb hby at_321) rfl ?_
    show Steps p.tables e below (T152.setTop (mkF m 323 #[.val (.long q0), .second, .val (.long q1), .second, .val (.long q2), .second, .val (.int p3), .val (.int p4), .val (.int p5), .val (.ref b1), .val (.ref b5), .val (.ref b71), .val (.int ((100 + l0).toInt32)), .val (.int ((100 + l1).toInt32)), .val (.int ((100 + l2).toInt32)), .val (.int ((100 + l3).toInt32)), .val (.int ((100 + l4).toInt32)), .val (.int ((f10_12 ((0 : Nat).toInt32)) &&& 1)), .unset, .unset, .unset, .unset, .unset, .unset] [(.int ((100 + l3).toInt32))])) _
    refine st153 _ ?_
    show Steps p.tables e below (T153.setTop (mkF m 326 #[.val (.long q0), .second, .val (.long q1), .second, .val (.long q2), .second, .val (.int p3), .val (.int p4), .val (.int p5), .val (.ref b1), .val (.ref b5), .val (.ref b71), .val (.int ((100 + l0).toInt32)), .val (.int ((100 + l1).toInt32)), .val (.int ((100 + l2).toInt32)), .val (.int ((100 + l3).toInt32)), .val (.int ((100 + l4).toInt32)), .val (.int ((f10_12 ((0 : Nat).toInt32)) &&& 1)), .unset, .unset, .unset, .unset, .unset, .unset] [(.int (f11_ret ((100 + l3).toInt32)))])) _
    refine XS.ifNo X153.here hx rfl (hb hby at_326) rfl ((if0 _ _).trans (feq (show ¬ ((f11_ret ((100 + l3).toInt32)) = (0 : Int32)) from own_inr ⟨l3, hl3⟩)).1) ?_
    show Steps p.tables e below (T153.setTop (mkF m 329 #[.val (.long q0), .second, .val (.long q1), .second, .val (.long q2), .second, .val (.int p3), .val (.int p4), .val (.int p5), .val (.ref b1), .val (.ref b5), .val (.ref b71), .val (.int ((100 + l0).toInt32)), .val (.int ((100 + l1).toInt32)), .val (.int ((100 + l2).toInt32)), .val (.int ((100 + l3).toInt32)), .val (.int ((100 + l4).toInt32)), .val (.int ((f10_12 ((0 : Nat).toInt32)) &&& 1)), .unset, .unset, .unset, .unset, .unset, .unset] [])) _
    refine XS.iload X153.here hx rfl (hb hby at_329) rfl ?_
    show Steps p.tables e below (T153.setTop (mkF m 331 #[.val (.long q0), .second, .val (.long q1), .second, .val (.long q2), .second, .val (.int p3), .val (.int p4), .val (.int p5), .val (.ref b1), .val (.ref b5), .val (.ref b71), .val (.int ((100 + l0).toInt32)), .val (.int ((100 + l1).toInt32)), .val (.int ((100 + l2).toInt32)), .val (.int ((100 + l3).toInt32)), .val (.int ((100 + l4).toInt32)), .val (.int ((f10_12 ((0 : Nat).toInt32)) &&& 1)), .unset, .unset, .unset, .unset, .unset, .unset] [(.int ((100 + l4).toInt32))])) _
    refine st154 _ ?_
    show Steps p.tables e below (T154.setTop (mkF m 334 #[.val (.long q0), .second, .val (.long q1), .second, .val (.long q2), .second, .val (.int p3), .val (.int p4), .val (.int p5), .val (.ref b1), .val (.ref b5), .val (.ref b71), .val (.int ((100 + l0).toInt32)), .val (.int ((100 + l1).toInt32)), .val (.int ((100 + l2).toInt32)), .val (.int ((100 + l3).toInt32)), .val (.int ((100 + l4).toInt32)), .val (.int ((f10_12 ((0 : Nat).toInt32)) &&& 1)), .unset, .unset, .unset, .unset, .unset, .unset] [(.int (f11_ret ((100 + l4).toInt32)))])) _
    refine XS.ifYes X154.here hx rfl (pc0 := 334) (pc' := 339) rfl (hb hby at_334) rfl ((if0 _ _).trans (feq (show ¬ ((f11_ret ((100 + l4).toInt32)) = (0 : Int32)) from own_inr ⟨l4, hl4⟩)).2) (by decide) (by decide) ?_
    show Steps p.tables e below (T154.setTop (mkF m 339 #[.val (.long q0), .second, .val (.long q1), .second, .val (.long q2), .second, .val (.int p3), .val (.int p4), .val (.int p5), .val (.ref b1), .val (.ref b5), .val (.ref b71), .val (.int ((100 + l0).toInt32)), .val (.int ((100 + l1).toInt32)), .val (.int ((100 + l2).toInt32)), .val (.int ((100 + l3).toInt32)), .val (.int ((100 + l4).toInt32)), .val (.int ((f10_12 ((0 : Nat).toInt32)) &&& 1)), .unset, .unset, .unset, .unset, .unset, .unset] [])) _
    refine XS.iload X154.here hx rfl (hb hby at_339) rfl ?_
    show Steps p.tables e below (T154.setTop (mkF m 341 #[.val (.long q0), .second, .val (.long q1), .second, .val (.long q2), .second, .val (.int p3), .val (.int p4), .val (.int p5), .val (.ref b1), .val (.ref b5), .val (.ref b71), .val (.int ((100 + l0).toInt32)), .val (.int ((100 + l1).toInt32)), .val (.int ((100 + l2).toInt32)), .val (.int ((100 + l3).toInt32)), .val (.int ((100 + l4).toInt32)), .val (.int ((f10_12 ((0 : Nat).toInt32)) &&& 1)), .unset, .unset, .unset, .unset, .unset, .unset] [(.int ((100 + l0).toInt32))])) _
    refine XS.bipush X154.here hx rfl (hb hby at_341) ?_
    show Steps p.tables e below (T154.setTop (mkF m 343 #[.val (.long q0), .second, .val (.long q1), .second, .val (.long q2), .second, .val (.int p3), .val (.int p4), .val (.int p5), .val (.ref b1), .val (.ref b5), .val (.ref b71), .val (.int ((100 + l0).toInt32)), .val (.int ((100 + l1).toInt32)), .val (.int ((100 + l2).toInt32)), .val (.int ((100 + l3).toInt32)), .val (.int ((100 + l4).toInt32)), .val (.int ((f10_12 ((0 : Nat).toInt32)) &&& 1)), .unset, .unset, .unset, .unset, .unset, .unset] [(.int (100 : Int32)), (.int ((100 + l0).toInt32))])) _
    refine XS.isub X154.here hx rfl (hb hby at_343) rfl ?_
    show Steps p.tables e below (T154.setTop (mkF m 344 #[.val (.long q0), .second, .val (.long q1), .second, .val (.long q2), .second, .val (.int p3), .val (.int p4), .val (.int p5), .val (.ref b1), .val (.ref b5), .val (.ref b71), .val (.int ((100 + l0).toInt32)), .val (.int ((100 + l1).toInt32)), .val (.int ((100 + l2).toInt32)), .val (.int ((100 + l3).toInt32)), .val (.int ((100 + l4).toInt32)), .val (.int ((f10_12 ((0 : Nat).toInt32)) &&& 1)), .unset, .unset, .unset, .unset, .unset, .unset] [(.int (((100 + l0).toInt32) - (100 : Int32)))])) _
    refine XS.istore X154.here hx rfl (hb hby at_344) rfl (l' := #[.val (.long q0), .second, .val (.long q1), .second, .val (.long q2), .second, .val (.int p3), .val (.int p4), .val (.int p5), .val (.ref b1), .val (.ref b5), .val (.ref b71), .val (.int ((100 + l0).toInt32)), .val (.int ((100 + l1).toInt32)), .val (.int ((100 + l2).toInt32)), .val (.int ((100 + l3).toInt32)), .val (.int ((100 + l4).toInt32)), .val (.int ((f10_12 ((0 : Nat).toInt32)) &&& 1)), .val (.int (((100 + l0).toInt32) - (100 : Int32))), .unset, .unset, .unset, .unset, .unset]) rfl ?_
    show Steps p.tables e below (T154.setTop (mkF m 346 #[.val (.long q0), .second, .val (.long q1), .second, .val (.long q2), .second, .val (.int p3), .val (.int p4), .val (.int p5), .val (.ref b1), .val (.ref b5), .val (.ref b71), .val (.int ((100 + l0).toInt32)), .val (.int ((100 + l1).toInt32)), .val (.int ((100 + l2).toInt32)), .val (.int ((100 + l3).toInt32)), .val (.int ((100 + l4).toInt32)), .val (.int ((f10_12 ((0 : Nat).toInt32)) &&& 1)), .val (.int (((100 + l0).toInt32) - (100 : Int32))), .unset, .unset, .unset, .unset, .unset] [])) _
    exact k)
  have hre156 : (((100 + l0).toInt32) - (100 : Int32)) = (l0.toInt32) := own_less ⟨l0, hl0⟩
  have pre156 : ∀ t, Steps p.tables e below (T154.setTop (mkF m 346 #[.val (.long q0), .second, .val (.long q1), .second, .val (.long q2), .second, .val (.int p3), .val (.int p4), .val (.int p5), .val (.ref b1), .val (.ref b5), .val (.ref b71), .val (.int ((100 + l0).toInt32)), .val (.int ((100 + l1).toInt32)), .val (.int ((100 + l2).toInt32)), .val (.int ((100 + l3).toInt32)), .val (.int ((100 + l4).toInt32)), .val (.int ((f10_12 ((0 : Nat).toInt32)) &&& 1)), .val (.int (l0.toInt32)), .unset, .unset, .unset, .unset, .unset] [])) t → Steps p.tables e below (s₁.setTop (entryFrame m #[(.long q0), (.long q1), (.long q2), (.int p3), (.int p4), (.int p5)] maxLocals)) t := fun t k => pre155 t (by rw [hre156]; exact k)
  have pre157 : ∀ t, Steps p.tables e below (T154.setTop (mkF m 353 #[.val (.long q0), .second, .val (.long q1), .second, .val (.long q2), .second, .val (.int p3), .val (.int p4), .val (.int p5), .val (.ref b1), .val (.ref b5), .val (.ref b71), .val (.int ((100 + l0).toInt32)), .val (.int ((100 + l1).toInt32)), .val (.int ((100 + l2).toInt32)), .val (.int ((100 + l3).toInt32)), .val (.int ((100 + l4).toInt32)), .val (.int ((f10_12 ((0 : Nat).toInt32)) &&& 1)), .val (.int (l0.toInt32)), .val (.int (((100 + l1).toInt32) - (100 : Int32))), .unset, .unset, .unset, .unset] [])) t → Steps p.tables e below (s₁.setTop (entryFrame m #[(.long q0), (.long q1), (.long q2), (.int p3), (.int p4), (.int p5)] maxLocals)) t := fun t k => pre156 t (by
    show Steps p.tables e below (T154.setTop (mkF m 346 #[.val (.long q0), .second, .val (.long q1), .second, .val (.long q2), .second, .val (.int p3), .val (.int p4), .val (.int p5), .val (.ref b1), .val (.ref b5), .val (.ref b71), .val (.int ((100 + l0).toInt32)), .val (.int ((100 + l1).toInt32)), .val (.int ((100 + l2).toInt32)), .val (.int ((100 + l3).toInt32)), .val (.int ((100 + l4).toInt32)), .val (.int ((f10_12 ((0 : Nat).toInt32)) &&& 1)), .val (.int (l0.toInt32)), .unset, .unset, .unset, .unset, .unset] [])) _
    refine XS.iload X154.here hx rfl (hb hby at_346) rfl ?_
    show Steps p.tables e below (T154.setTop (mkF m 348 #[.val (.long q0), .second, .val (.long q1), .second, .val (.long q2), .second, .val (.int p3), .val (.int p4), .val (.int p5), .val (.ref b1), .val (.ref b5), .val (.ref b71), .val (.int ((100 + l0).toInt32)), .val (.int ((100 + l1).toInt32)), .val (.int ((100 + l2).toInt32)), .val (.int ((100 + l3).toInt32)), .val (.int ((100 + l4).toInt32)), .val (.int ((f10_12 ((0 : Nat).toInt32)) &&& 1)), .val (.int (l0.toInt32)), .unset, .unset, .unset, .unset, .unset] [(.int ((100 + l1).toInt32))])) _
    refine XS.bipush X154.here hx rfl (hb hby at_348) ?_
    show Steps p.tables e below (T154.setTop (mkF m 350 #[.val (.long q0), .second, .val (.long q1), .second, .val (.long q2), .second, .val (.int p3), .val (.int p4), .val (.int p5), .val (.ref b1), .val (.ref b5), .val (.ref b71), .val (.int ((100 + l0).toInt32)), .val (.int ((100 + l1).toInt32)), .val (.int ((100 + l2).toInt32)), .val (.int ((100 + l3).toInt32)), .val (.int ((100 + l4).toInt32)), .val (.int ((f10_12 ((0 : Nat).toInt32)) &&& 1)), .val (.int (l0.toInt32)), .unset, .unset, .unset, .unset, .unset] [(.int (100 : Int32)), (.int ((100 + l1).toInt32))])) _
    refine XS.isub X154.here hx rfl (hb hby at_350) rfl ?_
    show Steps p.tables e below (T154.setTop (mkF m 351 #[.val (.long q0), .second, .val (.long q1), .second, .val (.long q2), .second, .val (.int p3), .val (.int p4), .val (.int p5), .val (.ref b1), .val (.ref b5), .val (.ref b71), .val (.int ((100 + l0).toInt32)), .val (.int ((100 + l1).toInt32)), .val (.int ((100 + l2).toInt32)), .val (.int ((100 + l3).toInt32)), .val (.int ((100 + l4).toInt32)), .val (.int ((f10_12 ((0 : Nat).toInt32)) &&& 1)), .val (.int (l0.toInt32)), .unset, .unset, .unset, .unset, .unset] [(.int (((100 + l1).toInt32) - (100 : Int32)))])) _
    refine XS.istore X154.here hx rfl (hb hby at_351) rfl (l' := #[.val (.long q0), .second, .val (.long q1), .second, .val (.long q2), .second, .val (.int p3), .val (.int p4), .val (.int p5), .val (.ref b1), .val (.ref b5), .val (.ref b71), .val (.int ((100 + l0).toInt32)), .val (.int ((100 + l1).toInt32)), .val (.int ((100 + l2).toInt32)), .val (.int ((100 + l3).toInt32)), .val (.int ((100 + l4).toInt32)), .val (.int ((f10_12 ((0 : Nat).toInt32)) &&& 1)), .val (.int (l0.toInt32)), .val (.int (((100 + l1).toInt32) - (100 : Int32))), .unset, .unset, .unset, .unset]) rfl ?_
    show Steps p.tables e below (T154.setTop (mkF m 353 #[.val (.long q0), .second, .val (.long q1), .second, .val (.long q2), .second, .val (.int p3), .val (.int p4), .val (.int p5), .val (.ref b1), .val (.ref b5), .val (.ref b71), .val (.int ((100 + l0).toInt32)), .val (.int ((100 + l1).toInt32)), .val (.int ((100 + l2).toInt32)), .val (.int ((100 + l3).toInt32)), .val (.int ((100 + l4).toInt32)), .val (.int ((f10_12 ((0 : Nat).toInt32)) &&& 1)), .val (.int (l0.toInt32)), .val (.int (((100 + l1).toInt32) - (100 : Int32))), .unset, .unset, .unset, .unset] [])) _
    exact k)
  have hre158 : (((100 + l1).toInt32) - (100 : Int32)) = (l1.toInt32) := own_less ⟨l1, hl1⟩
  have pre158 : ∀ t, Steps p.tables e below (T154.setTop (mkF m 353 #[.val (.long q0), .second, .val (.long q1), .second, .val (.long q2), .second, .val (.int p3), .val (.int p4), .val (.int p5), .val (.ref b1), .val (.ref b5), .val (.ref b71), .val (.int ((100 + l0).toInt32)), .val (.int ((100 + l1).toInt32)), .val (.int ((100 + l2).toInt32)), .val (.int ((100 + l3).toInt32)), .val (.int ((100 + l4).toInt32)), .val (.int ((f10_12 ((0 : Nat).toInt32)) &&& 1)), .val (.int (l0.toInt32)), .val (.int (l1.toInt32)), .unset, .unset, .unset, .unset] [])) t → Steps p.tables e below (s₁.setTop (entryFrame m #[(.long q0), (.long q1), (.long q2), (.int p3), (.int p4), (.int p5)] maxLocals)) t := fun t k => pre157 t (by rw [hre158]; exact k)
  have pre159 : ∀ t, Steps p.tables e below (T154.setTop (mkF m 360 #[.val (.long q0), .second, .val (.long q1), .second, .val (.long q2), .second, .val (.int p3), .val (.int p4), .val (.int p5), .val (.ref b1), .val (.ref b5), .val (.ref b71), .val (.int ((100 + l0).toInt32)), .val (.int ((100 + l1).toInt32)), .val (.int ((100 + l2).toInt32)), .val (.int ((100 + l3).toInt32)), .val (.int ((100 + l4).toInt32)), .val (.int ((f10_12 ((0 : Nat).toInt32)) &&& 1)), .val (.int (l0.toInt32)), .val (.int (l1.toInt32)), .val (.int (((100 + l2).toInt32) - (100 : Int32))), .unset, .unset, .unset] [])) t → Steps p.tables e below (s₁.setTop (entryFrame m #[(.long q0), (.long q1), (.long q2), (.int p3), (.int p4), (.int p5)] maxLocals)) t := fun t k => pre158 t (by
    show Steps p.tables e below (T154.setTop (mkF m 353 #[.val (.long q0), .second, .val (.long q1), .second, .val (.long q2), .second, .val (.int p3), .val (.int p4), .val (.int p5), .val (.ref b1), .val (.ref b5), .val (.ref b71), .val (.int ((100 + l0).toInt32)), .val (.int ((100 + l1).toInt32)), .val (.int ((100 + l2).toInt32)), .val (.int ((100 + l3).toInt32)), .val (.int ((100 + l4).toInt32)), .val (.int ((f10_12 ((0 : Nat).toInt32)) &&& 1)), .val (.int (l0.toInt32)), .val (.int (l1.toInt32)), .unset, .unset, .unset, .unset] [])) _
    refine XS.iload X154.here hx rfl (hb hby at_353) rfl ?_
    show Steps p.tables e below (T154.setTop (mkF m 355 #[.val (.long q0), .second, .val (.long q1), .second, .val (.long q2), .second, .val (.int p3), .val (.int p4), .val (.int p5), .val (.ref b1), .val (.ref b5), .val (.ref b71), .val (.int ((100 + l0).toInt32)), .val (.int ((100 + l1).toInt32)), .val (.int ((100 + l2).toInt32)), .val (.int ((100 + l3).toInt32)), .val (.int ((100 + l4).toInt32)), .val (.int ((f10_12 ((0 : Nat).toInt32)) &&& 1)), .val (.int (l0.toInt32)), .val (.int (l1.toInt32)), .unset, .unset, .unset, .unset] [(.int ((100 + l2).toInt32))])) _
    refine XS.bipush X154.here hx rfl (hb hby at_355) ?_
    show Steps p.tables e below (T154.setTop (mkF m 357 #[.val (.long q0), .second, .val (.long q1), .second, .val (.long q2), .second, .val (.int p3), .val (.int p4), .val (.int p5), .val (.ref b1), .val (.ref b5), .val (.ref b71), .val (.int ((100 + l0).toInt32)), .val (.int ((100 + l1).toInt32)), .val (.int ((100 + l2).toInt32)), .val (.int ((100 + l3).toInt32)), .val (.int ((100 + l4).toInt32)), .val (.int ((f10_12 ((0 : Nat).toInt32)) &&& 1)), .val (.int (l0.toInt32)), .val (.int (l1.toInt32)), .unset, .unset, .unset, .unset] [(.int (100 : Int32)), (.int ((100 + l2).toInt32))])) _
    refine XS.isub X154.here hx rfl (hb hby at_357) rfl ?_
    show Steps p.tables e below (T154.setTop (mkF m 358 #[.val (.long q0), .second, .val (.long q1), .second, .val (.long q2), .second, .val (.int p3), .val (.int p4), .val (.int p5), .val (.ref b1), .val (.ref b5), .val (.ref b71), .val (.int ((100 + l0).toInt32)), .val (.int ((100 + l1).toInt32)), .val (.int ((100 + l2).toInt32)), .val (.int ((100 + l3).toInt32)), .val (.int ((100 + l4).toInt32)), .val (.int ((f10_12 ((0 : Nat).toInt32)) &&& 1)), .val (.int (l0.toInt32)), .val (.int (l1.toInt32)), .unset, .unset, .unset, .unset] [(.int (((100 + l2).toInt32) - (100 : Int32)))])) _
    refine XS.istore X154.here hx rfl (hb hby at_358) rfl (l' := #[.val (.long q0), .second, .val (.long q1), .second, .val (.long q2), .second, .val (.int p3), .val (.int p4), .val (.int p5), .val (.ref b1), .val (.ref b5), .val (.ref b71), .val (.int ((100 + l0).toInt32)), .val (.int ((100 + l1).toInt32)), .val (.int ((100 + l2).toInt32)), .val (.int ((100 + l3).toInt32)), .val (.int ((100 + l4).toInt32)), .val (.int ((f10_12 ((0 : Nat).toInt32)) &&& 1)), .val (.int (l0.toInt32)), .val (.int (l1.toInt32)), .val (.int (((100 + l2).toInt32) - (100 : Int32))), .unset, .unset, .unset]) rfl ?_
    show Steps p.tables e below (T154.setTop (mkF m 360 #[.val (.long q0), .second, .val (.long q1), .second, .val (.long q2), .second, .val (.int p3), .val (.int p4), .val (.int p5), .val (.ref b1), .val (.ref b5), .val (.ref b71), .val (.int ((100 + l0).toInt32)), .val (.int ((100 + l1).toInt32)), .val (.int ((100 + l2).toInt32)), .val (.int ((100 + l3).toInt32)), .val (.int ((100 + l4).toInt32)), .val (.int ((f10_12 ((0 : Nat).toInt32)) &&& 1)), .val (.int (l0.toInt32)), .val (.int (l1.toInt32)), .val (.int (((100 + l2).toInt32) - (100 : Int32))), .unset, .unset, .unset] [])) _
    exact k)
  have hre160 : (((100 + l2).toInt32) - (100 : Int32)) = (l2.toInt32) := own_less ⟨l2, hl2⟩
  have pre160 : ∀ t, Steps p.tables e below (T154.setTop (mkF m 360 #[.val (.long q0), .second, .val (.long q1), .second, .val (.long q2), .second, .val (.int p3), .val (.int p4), .val (.int p5), .val (.ref b1), .val (.ref b5), .val (.ref b71), .val (.int ((100 + l0).toInt32)), .val (.int ((100 + l1).toInt32)), .val (.int ((100 + l2).toInt32)), .val (.int ((100 + l3).toInt32)), .val (.int ((100 + l4).toInt32)), .val (.int ((f10_12 ((0 : Nat).toInt32)) &&& 1)), .val (.int (l0.toInt32)), .val (.int (l1.toInt32)), .val (.int (l2.toInt32)), .unset, .unset, .unset] [])) t → Steps p.tables e below (s₁.setTop (entryFrame m #[(.long q0), (.long q1), (.long q2), (.int p3), (.int p4), (.int p5)] maxLocals)) t := fun t k => pre159 t (by rw [hre160]; exact k)
  have pre161 : ∀ t, Steps p.tables e below (T154.setTop (mkF m 367 #[.val (.long q0), .second, .val (.long q1), .second, .val (.long q2), .second, .val (.int p3), .val (.int p4), .val (.int p5), .val (.ref b1), .val (.ref b5), .val (.ref b71), .val (.int ((100 + l0).toInt32)), .val (.int ((100 + l1).toInt32)), .val (.int ((100 + l2).toInt32)), .val (.int ((100 + l3).toInt32)), .val (.int ((100 + l4).toInt32)), .val (.int ((f10_12 ((0 : Nat).toInt32)) &&& 1)), .val (.int (l0.toInt32)), .val (.int (l1.toInt32)), .val (.int (l2.toInt32)), .val (.int (((100 + l3).toInt32) - (100 : Int32))), .unset, .unset] [])) t → Steps p.tables e below (s₁.setTop (entryFrame m #[(.long q0), (.long q1), (.long q2), (.int p3), (.int p4), (.int p5)] maxLocals)) t := fun t k => pre160 t (by
    show Steps p.tables e below (T154.setTop (mkF m 360 #[.val (.long q0), .second, .val (.long q1), .second, .val (.long q2), .second, .val (.int p3), .val (.int p4), .val (.int p5), .val (.ref b1), .val (.ref b5), .val (.ref b71), .val (.int ((100 + l0).toInt32)), .val (.int ((100 + l1).toInt32)), .val (.int ((100 + l2).toInt32)), .val (.int ((100 + l3).toInt32)), .val (.int ((100 + l4).toInt32)), .val (.int ((f10_12 ((0 : Nat).toInt32)) &&& 1)), .val (.int (l0.toInt32)), .val (.int (l1.toInt32)), .val (.int (l2.toInt32)), .unset, .unset, .unset] [])) _
    refine XS.iload X154.here hx rfl (hb hby at_360) rfl ?_
    show Steps p.tables e below (T154.setTop (mkF m 362 #[.val (.long q0), .second, .val (.long q1), .second, .val (.long q2), .second, .val (.int p3), .val (.int p4), .val (.int p5), .val (.ref b1), .val (.ref b5), .val (.ref b71), .val (.int ((100 + l0).toInt32)), .val (.int ((100 + l1).toInt32)), .val (.int ((100 + l2).toInt32)), .val (.int ((100 + l3).toInt32)), .val (.int ((100 + l4).toInt32)), .val (.int ((f10_12 ((0 : Nat).toInt32)) &&& 1)), .val (.int (l0.toInt32)), .val (.int (l1.toInt32)), .val (.int (l2.toInt32)), .unset, .unset, .unset] [(.int ((100 + l3).toInt32))])) _
    refine XS.bipush X154.here hx rfl (hb hby at_362) ?_
    show Steps p.tables e below (T154.setTop (mkF m 364 #[.val (.long q0), .second, .val (.long q1), .second, .val (.long q2), .second, .val (.int p3), .val (.int p4), .val (.int p5), .val (.ref b1), .val (.ref b5), .val (.ref b71), .val (.int ((100 + l0).toInt32)), .val (.int ((100 + l1).toInt32)), .val (.int ((100 + l2).toInt32)), .val (.int ((100 + l3).toInt32)), .val (.int ((100 + l4).toInt32)), .val (.int ((f10_12 ((0 : Nat).toInt32)) &&& 1)), .val (.int (l0.toInt32)), .val (.int (l1.toInt32)), .val (.int (l2.toInt32)), .unset, .unset, .unset] [(.int (100 : Int32)), (.int ((100 + l3).toInt32))])) _
    refine XS.isub X154.here hx rfl (hb hby at_364) rfl ?_
    show Steps p.tables e below (T154.setTop (mkF m 365 #[.val (.long q0), .second, .val (.long q1), .second, .val (.long q2), .second, .val (.int p3), .val (.int p4), .val (.int p5), .val (.ref b1), .val (.ref b5), .val (.ref b71), .val (.int ((100 + l0).toInt32)), .val (.int ((100 + l1).toInt32)), .val (.int ((100 + l2).toInt32)), .val (.int ((100 + l3).toInt32)), .val (.int ((100 + l4).toInt32)), .val (.int ((f10_12 ((0 : Nat).toInt32)) &&& 1)), .val (.int (l0.toInt32)), .val (.int (l1.toInt32)), .val (.int (l2.toInt32)), .unset, .unset, .unset] [(.int (((100 + l3).toInt32) - (100 : Int32)))])) _
    refine XS.istore X154.here hx rfl (hb hby at_365) rfl (l' := #[.val (.long q0), .second, .val (.long q1), .second, .val (.long q2), .second, .val (.int p3), .val (.int p4), .val (.int p5), .val (.ref b1), .val (.ref b5), .val (.ref b71), .val (.int ((100 + l0).toInt32)), .val (.int ((100 + l1).toInt32)), .val (.int ((100 + l2).toInt32)), .val (.int ((100 + l3).toInt32)), .val (.int ((100 + l4).toInt32)), .val (.int ((f10_12 ((0 : Nat).toInt32)) &&& 1)), .val (.int (l0.toInt32)), .val (.int (l1.toInt32)), .val (.int (l2.toInt32)), .val (.int (((100 + l3).toInt32) - (100 : Int32))), .unset, .unset]) rfl ?_
    show Steps p.tables e below (T154.setTop (mkF m 367 #[.val (.long q0), .second, .val (.long q1), .second, .val (.long q2), .second, .val (.int p3), .val (.int p4), .val (.int p5), .val (.ref b1), .val (.ref b5), .val (.ref b71), .val (.int ((100 + l0).toInt32)), .val (.int ((100 + l1).toInt32)), .val (.int ((100 + l2).toInt32)), .val (.int ((100 + l3).toInt32)), .val (.int ((100 + l4).toInt32)), .val (.int ((f10_12 ((0 : Nat).toInt32)) &&& 1)), .val (.int (l0.toInt32)), .val (.int (l1.toInt32)), .val (.int (l2.toInt32)), .val (.int (((100 + l3).toInt32) - (100 : Int32))), .unset, .unset] [])) _
    exact k)
  have hre162 : (((100 + l3).toInt32) - (100 : Int32)) = (l3.toInt32) := own_less ⟨l3, hl3⟩
  have pre162 : ∀ t, Steps p.tables e below (T154.setTop (mkF m 367 #[.val (.long q0), .second, .val (.long q1), .second, .val (.long q2), .second, .val (.int p3), .val (.int p4), .val (.int p5), .val (.ref b1), .val (.ref b5), .val (.ref b71), .val (.int ((100 + l0).toInt32)), .val (.int ((100 + l1).toInt32)), .val (.int ((100 + l2).toInt32)), .val (.int ((100 + l3).toInt32)), .val (.int ((100 + l4).toInt32)), .val (.int ((f10_12 ((0 : Nat).toInt32)) &&& 1)), .val (.int (l0.toInt32)), .val (.int (l1.toInt32)), .val (.int (l2.toInt32)), .val (.int (l3.toInt32)), .unset, .unset] [])) t → Steps p.tables e below (s₁.setTop (entryFrame m #[(.long q0), (.long q1), (.long q2), (.int p3), (.int p4), (.int p5)] maxLocals)) t := fun t k => pre161 t (by rw [hre162]; exact k)
  have pre163 : ∀ t, Steps p.tables e below (T154.setTop (mkF m 374 #[.val (.long q0), .second, .val (.long q1), .second, .val (.long q2), .second, .val (.int p3), .val (.int p4), .val (.int p5), .val (.ref b1), .val (.ref b5), .val (.ref b71), .val (.int ((100 + l0).toInt32)), .val (.int ((100 + l1).toInt32)), .val (.int ((100 + l2).toInt32)), .val (.int ((100 + l3).toInt32)), .val (.int ((100 + l4).toInt32)), .val (.int ((f10_12 ((0 : Nat).toInt32)) &&& 1)), .val (.int (l0.toInt32)), .val (.int (l1.toInt32)), .val (.int (l2.toInt32)), .val (.int (l3.toInt32)), .val (.int (((100 + l4).toInt32) - (100 : Int32))), .unset] [])) t → Steps p.tables e below (s₁.setTop (entryFrame m #[(.long q0), (.long q1), (.long q2), (.int p3), (.int p4), (.int p5)] maxLocals)) t := fun t k => pre162 t (by
    show Steps p.tables e below (T154.setTop (mkF m 367 #[.val (.long q0), .second, .val (.long q1), .second, .val (.long q2), .second, .val (.int p3), .val (.int p4), .val (.int p5), .val (.ref b1), .val (.ref b5), .val (.ref b71), .val (.int ((100 + l0).toInt32)), .val (.int ((100 + l1).toInt32)), .val (.int ((100 + l2).toInt32)), .val (.int ((100 + l3).toInt32)), .val (.int ((100 + l4).toInt32)), .val (.int ((f10_12 ((0 : Nat).toInt32)) &&& 1)), .val (.int (l0.toInt32)), .val (.int (l1.toInt32)), .val (.int (l2.toInt32)), .val (.int (l3.toInt32)), .unset, .unset] [])) _
    refine XS.iload X154.here hx rfl (hb hby at_367) rfl ?_
    show Steps p.tables e below (T154.setTop (mkF m 369 #[.val (.long q0), .second, .val (.long q1), .second, .val (.long q2), .second, .val (.int p3), .val (.int p4), .val (.int p5), .val (.ref b1), .val (.ref b5), .val (.ref b71), .val (.int ((100 + l0).toInt32)), .val (.int ((100 + l1).toInt32)), .val (.int ((100 + l2).toInt32)), .val (.int ((100 + l3).toInt32)), .val (.int ((100 + l4).toInt32)), .val (.int ((f10_12 ((0 : Nat).toInt32)) &&& 1)), .val (.int (l0.toInt32)), .val (.int (l1.toInt32)), .val (.int (l2.toInt32)), .val (.int (l3.toInt32)), .unset, .unset] [(.int ((100 + l4).toInt32))])) _
    refine XS.bipush X154.here hx rfl (hb hby at_369) ?_
    show Steps p.tables e below (T154.setTop (mkF m 371 #[.val (.long q0), .second, .val (.long q1), .second, .val (.long q2), .second, .val (.int p3), .val (.int p4), .val (.int p5), .val (.ref b1), .val (.ref b5), .val (.ref b71), .val (.int ((100 + l0).toInt32)), .val (.int ((100 + l1).toInt32)), .val (.int ((100 + l2).toInt32)), .val (.int ((100 + l3).toInt32)), .val (.int ((100 + l4).toInt32)), .val (.int ((f10_12 ((0 : Nat).toInt32)) &&& 1)), .val (.int (l0.toInt32)), .val (.int (l1.toInt32)), .val (.int (l2.toInt32)), .val (.int (l3.toInt32)), .unset, .unset] [(.int (100 : Int32)), (.int ((100 + l4).toInt32))])) _
    refine XS.isub X154.here hx rfl (hb hby at_371) rfl ?_
    show Steps p.tables e below (T154.setTop (mkF m 372 #[.val (.long q0), .second, .val (.long q1), .second, .val (.long q2), .second, .val (.int p3), .val (.int p4), .val (.int p5), .val (.ref b1), .val (.ref b5), .val (.ref b71), .val (.int ((100 + l0).toInt32)), .val (.int ((100 + l1).toInt32)), .val (.int ((100 + l2).toInt32)), .val (.int ((100 + l3).toInt32)), .val (.int ((100 + l4).toInt32)), .val (.int ((f10_12 ((0 : Nat).toInt32)) &&& 1)), .val (.int (l0.toInt32)), .val (.int (l1.toInt32)), .val (.int (l2.toInt32)), .val (.int (l3.toInt32)), .unset, .unset] [(.int (((100 + l4).toInt32) - (100 : Int32)))])) _
    refine XS.istore X154.here hx rfl (hb hby at_372) rfl (l' := #[.val (.long q0), .second, .val (.long q1), .second, .val (.long q2), .second, .val (.int p3), .val (.int p4), .val (.int p5), .val (.ref b1), .val (.ref b5), .val (.ref b71), .val (.int ((100 + l0).toInt32)), .val (.int ((100 + l1).toInt32)), .val (.int ((100 + l2).toInt32)), .val (.int ((100 + l3).toInt32)), .val (.int ((100 + l4).toInt32)), .val (.int ((f10_12 ((0 : Nat).toInt32)) &&& 1)), .val (.int (l0.toInt32)), .val (.int (l1.toInt32)), .val (.int (l2.toInt32)), .val (.int (l3.toInt32)), .val (.int (((100 + l4).toInt32) - (100 : Int32))), .unset]) rfl ?_
    show Steps p.tables e below (T154.setTop (mkF m 374 #[.val (.long q0), .second, .val (.long q1), .second, .val (.long q2), .second, .val (.int p3), .val (.int p4), .val (.int p5), .val (.ref b1), .val (.ref b5), .val (.ref b71), .val (.int ((100 + l0).toInt32)), .val (.int ((100 + l1).toInt32)), .val (.int ((100 + l2).toInt32)), .val (.int ((100 + l3).toInt32)), .val (.int ((100 + l4).toInt32)), .val (.int ((f10_12 ((0 : Nat).toInt32)) &&& 1)), .val (.int (l0.toInt32)), .val (.int (l1.toInt32)), .val (.int (l2.toInt32)), .val (.int (l3.toInt32)), .val (.int (((100 + l4).toInt32) - (100 : Int32))), .unset] [])) _
    exact k)
  have hre164 : (((100 + l4).toInt32) - (100 : Int32)) = (l4.toInt32) := own_less ⟨l4, hl4⟩
  have pre164 : ∀ t, Steps p.tables e below (T154.setTop (mkF m 374 #[.val (.long q0), .second, .val (.long q1), .second, .val (.long q2), .second, .val (.int p3), .val (.int p4), .val (.int p5), .val (.ref b1), .val (.ref b5), .val (.ref b71), .val (.int ((100 + l0).toInt32)), .val (.int ((100 + l1).toInt32)), .val (.int ((100 + l2).toInt32)), .val (.int ((100 + l3).toInt32)), .val (.int ((100 + l4).toInt32)), .val (.int ((f10_12 ((0 : Nat).toInt32)) &&& 1)), .val (.int (l0.toInt32)), .val (.int (l1.toInt32)), .val (.int (l2.toInt32)), .val (.int (l3.toInt32)), .val (.int (l4.toInt32)), .unset] [])) t → Steps p.tables e below (s₁.setTop (entryFrame m #[(.long q0), (.long q1), (.long q2), (.int p3), (.int p4), (.int p5)] maxLocals)) t := fun t k => pre163 t (by rw [hre164]; exact k)
  have qa165 := A_b1_136
  obtain ⟨c165, Ar165, Sz165, H165⟩ := qa165
  have hi166 : 0 ≤ ((l0.toInt32) : Int32).toInt ∧ ((l0.toInt32) : Int32).toInt < (5 : Nat) := (own_bd hl0 (by decide))
  have hl166 : c165.slots[((l0.toInt32) : Int32).toNatClampNeg]? = some (.long ((rr ((l0.toInt32) : Int32).toNatClampNeg))) := H165 _ (own_ix hi166)
  have qa167 := A_b5_136
  obtain ⟨c167, Ar167, Sz167, H167⟩ := qa167
  have hi168 : 0 ≤ ((l0.toInt32) : Int32).toInt ∧ ((l0.toInt32) : Int32).toInt < (5 : Nat) := (own_bd hl0 (by decide))
  have hl168 : c167.slots[((l0.toInt32) : Int32).toNatClampNeg]? = some (.int ((cc ((l0.toInt32) : Int32).toNatClampNeg))) := H167 _ (own_ix hi168)
  have qa169 := A_b1_136
  obtain ⟨c169, Ar169, Sz169, H169⟩ := qa169
  have hi170 : 0 ≤ ((l1.toInt32) : Int32).toInt ∧ ((l1.toInt32) : Int32).toInt < (5 : Nat) := (own_bd hl1 (by decide))
  have hl170 : c169.slots[((l1.toInt32) : Int32).toNatClampNeg]? = some (.long ((rr ((l1.toInt32) : Int32).toNatClampNeg))) := H169 _ (own_ix hi170)
  have qa171 := A_b5_136
  obtain ⟨c171, Ar171, Sz171, H171⟩ := qa171
  have hi172 : 0 ≤ ((l1.toInt32) : Int32).toInt ∧ ((l1.toInt32) : Int32).toInt < (5 : Nat) := (own_bd hl1 (by decide))
  have hl172 : c171.slots[((l1.toInt32) : Int32).toNatClampNeg]? = some (.int ((cc ((l1.toInt32) : Int32).toNatClampNeg))) := H171 _ (own_ix hi172)
  obtain ⟨_, _, ⟨T173, L173, k173, n173⟩, -, X173, ⟨Lc173, hQ173, l173, y173, z173⟩, st173⟩ := Jvm.LawKit.callS X154 hx (y := (⟨"com/example/brisk_maze/briskmaze/search/RankedFrontierRemoveFirstPinLaw", "notBefore", "(JIJI)Z"⟩ : MethodName)) hown (mvT hZ (hw _ (List.mem_of_getElem? (i := 55) rfl))) (mvT hZ (hw _ (List.mem_of_getElem? (i := 56) rfl))) (mvT hZ (hw _ (List.mem_of_getElem? (i := 4) rfl))) (mvT hZ (hw _ (List.mem_of_getElem? (i := 57) rfl))) (by decide) (backOf (W := 0) (rm12 l Z a0 hw [] ((rr ((l0.toInt32) : Int32).toNatClampNeg)) ((cc ((l0.toInt32) : Int32).toNatClampNeg)) ((rr ((l1.toInt32) : Int32).toNatClampNeg)) ((cc ((l1.toInt32) : Int32).toNatClampNeg)) T135.heap n0 ZZ137) hZ (hw _ (List.mem_of_getElem? (i := 57) rfl)) (hw _ (List.mem_of_getElem? (i := 4) rfl)) (by decide) (by decide)) (g := (mkF m 429 #[.val (.long q0), .second, .val (.long q1), .second, .val (.long q2), .second, .val (.int p3), .val (.int p4), .val (.int p5), .val (.ref b1), .val (.ref b5), .val (.ref b71), .val (.int ((100 + l0).toInt32)), .val (.int ((100 + l1).toInt32)), .val (.int ((100 + l2).toInt32)), .val (.int ((100 + l3).toInt32)), .val (.int ((100 + l4).toInt32)), .val (.int ((f10_12 ((0 : Nat).toInt32)) &&& 1)), .val (.int (l0.toInt32)), .val (.int (l1.toInt32)), .val (.int (l2.toInt32)), .val (.int (l3.toInt32)), .val (.int (l4.toInt32)), .val (.int ((((((1 : Int32) <<< ((l0.toInt32) &&& 31)) ||| ((1 : Int32) <<< ((l1.toInt32) &&& 31))) ||| ((1 : Int32) <<< ((l2.toInt32) &&& 31))) ||| ((1 : Int32) <<< ((l3.toInt32) &&& 31))) ||| ((1 : Int32) <<< ((l4.toInt32) &&& 31))))] [(.int ((cc ((l1.toInt32) : Int32).toNatClampNeg))), (.long ((rr ((l1.toInt32) : Int32).toNatClampNeg))), (.int ((cc ((l0.toInt32) : Int32).toNatClampNeg))), (.long ((rr ((l0.toInt32) : Int32).toNatClampNeg)))])) rfl (by rw [hml]; rfl) (argsL := [(.long ((rr ((l0.toInt32) : Int32).toNatClampNeg))), (.int ((cc ((l0.toInt32) : Int32).toNatClampNeg))), (.long ((rr ((l1.toInt32) : Int32).toNatClampNeg))), (.int ((cc ((l1.toInt32) : Int32).toNatClampNeg)))]) (rest := []) (lenOf pd_0 rfl) rfl (by show 2 * 0 + _ ≤ _; exact Nat.le_of_eq rfl) (hb hby at_429) (fun _ _ => ⟨rfl, hh154, (by decide : 6 + 0 ≤ _), (by decide : 206 + 0 ≤ _)⟩)
  dsimp only [Pt.U, Pt.locs, Pt.cells, Pt.slots] at X173 l173 y173 z173 st173 hQ173
  subst y173 z173
  obtain ⟨rfl, N173q, hh173⟩ := hQ173
  have N173 := Fr.app N154 N173q
  rw [← l173] at N173
  have qa174 := A_b1_136
  obtain ⟨c174, Ar174, Sz174, H174⟩ := qa174
  have hi175 : 0 ≤ ((l1.toInt32) : Int32).toInt ∧ ((l1.toInt32) : Int32).toInt < (5 : Nat) := (own_bd hl1 (by decide))
  have hl175 : c174.slots[((l1.toInt32) : Int32).toNatClampNeg]? = some (.long ((rr ((l1.toInt32) : Int32).toNatClampNeg))) := H174 _ (own_ix hi175)
  have qa176 := A_b5_136
  obtain ⟨c176, Ar176, Sz176, H176⟩ := qa176
  have hi177 : 0 ≤ ((l1.toInt32) : Int32).toInt ∧ ((l1.toInt32) : Int32).toInt < (5 : Nat) := (own_bd hl1 (by decide))
  have hl177 : c176.slots[((l1.toInt32) : Int32).toNatClampNeg]? = some (.int ((cc ((l1.toInt32) : Int32).toNatClampNeg))) := H176 _ (own_ix hi177)
  have qa178 := A_b1_136
  obtain ⟨c178, Ar178, Sz178, H178⟩ := qa178
  have hi179 : 0 ≤ ((l2.toInt32) : Int32).toInt ∧ ((l2.toInt32) : Int32).toInt < (5 : Nat) := (own_bd hl2 (by decide))
  have hl179 : c178.slots[((l2.toInt32) : Int32).toNatClampNeg]? = some (.long ((rr ((l2.toInt32) : Int32).toNatClampNeg))) := H178 _ (own_ix hi179)
  have qa180 := A_b5_136
  obtain ⟨c180, Ar180, Sz180, H180⟩ := qa180
  have hi181 : 0 ≤ ((l2.toInt32) : Int32).toInt ∧ ((l2.toInt32) : Int32).toInt < (5 : Nat) := (own_bd hl2 (by decide))
  have hl181 : c180.slots[((l2.toInt32) : Int32).toNatClampNeg]? = some (.int ((cc ((l2.toInt32) : Int32).toNatClampNeg))) := H180 _ (own_ix hi181)
  obtain ⟨_, _, ⟨T182, L182, k182, n182⟩, -, X182, ⟨Lc182, hQ182, l182, y182, z182⟩, st182⟩ := Jvm.LawKit.callS X173 hx (y := (⟨"com/example/brisk_maze/briskmaze/search/RankedFrontierRemoveFirstPinLaw", "notBefore", "(JIJI)Z"⟩ : MethodName)) hown (mvT hZ (hw _ (List.mem_of_getElem? (i := 55) rfl))) (mvT hZ (hw _ (List.mem_of_getElem? (i := 56) rfl))) (mvT hZ (hw _ (List.mem_of_getElem? (i := 4) rfl))) (mvT hZ (hw _ (List.mem_of_getElem? (i := 57) rfl))) (by decide) (backOf (W := 0) (rm12 l Z a0 hw [] ((rr ((l1.toInt32) : Int32).toNatClampNeg)) ((cc ((l1.toInt32) : Int32).toNatClampNeg)) ((rr ((l2.toInt32) : Int32).toNatClampNeg)) ((cc ((l2.toInt32) : Int32).toNatClampNeg)) T135.heap n0 ZZ137) hZ (hw _ (List.mem_of_getElem? (i := 57) rfl)) (hw _ (List.mem_of_getElem? (i := 4) rfl)) (by decide) (by decide)) (g := (mkF m 455 #[.val (.long q0), .second, .val (.long q1), .second, .val (.long q2), .second, .val (.int p3), .val (.int p4), .val (.int p5), .val (.ref b1), .val (.ref b5), .val (.ref b71), .val (.int ((100 + l0).toInt32)), .val (.int ((100 + l1).toInt32)), .val (.int ((100 + l2).toInt32)), .val (.int ((100 + l3).toInt32)), .val (.int ((100 + l4).toInt32)), .val (.int ((f10_12 ((0 : Nat).toInt32)) &&& 1)), .val (.int (l0.toInt32)), .val (.int (l1.toInt32)), .val (.int (l2.toInt32)), .val (.int (l3.toInt32)), .val (.int (l4.toInt32)), .val (.int ((((((1 : Int32) <<< ((l0.toInt32) &&& 31)) ||| ((1 : Int32) <<< ((l1.toInt32) &&& 31))) ||| ((1 : Int32) <<< ((l2.toInt32) &&& 31))) ||| ((1 : Int32) <<< ((l3.toInt32) &&& 31))) ||| ((1 : Int32) <<< ((l4.toInt32) &&& 31))))] [(.int ((cc ((l2.toInt32) : Int32).toNatClampNeg))), (.long ((rr ((l2.toInt32) : Int32).toNatClampNeg))), (.int ((cc ((l1.toInt32) : Int32).toNatClampNeg))), (.long ((rr ((l1.toInt32) : Int32).toNatClampNeg)))])) rfl (by rw [hml]; rfl) (argsL := [(.long ((rr ((l1.toInt32) : Int32).toNatClampNeg))), (.int ((cc ((l1.toInt32) : Int32).toNatClampNeg))), (.long ((rr ((l2.toInt32) : Int32).toNatClampNeg))), (.int ((cc ((l2.toInt32) : Int32).toNatClampNeg)))]) (rest := []) (lenOf pd_0 rfl) rfl (by show 2 * 0 + _ ≤ _; exact Nat.le_of_eq rfl) (hb hby at_455) (fun _ _ => ⟨rfl, hh173, (by decide : 6 + 0 ≤ _), (by decide : 206 + 0 ≤ _)⟩)
  dsimp only [Pt.U, Pt.locs, Pt.cells, Pt.slots] at X182 l182 y182 z182 st182 hQ182
  subst y182 z182
  obtain ⟨rfl, N182q, hh182⟩ := hQ182
  have N182 := Fr.app N173 N182q
  rw [← l182] at N182
  have qa183 := A_b1_136
  obtain ⟨c183, Ar183, Sz183, H183⟩ := qa183
  have hi184 : 0 ≤ ((l2.toInt32) : Int32).toInt ∧ ((l2.toInt32) : Int32).toInt < (5 : Nat) := (own_bd hl2 (by decide))
  have hl184 : c183.slots[((l2.toInt32) : Int32).toNatClampNeg]? = some (.long ((rr ((l2.toInt32) : Int32).toNatClampNeg))) := H183 _ (own_ix hi184)
  have qa185 := A_b5_136
  obtain ⟨c185, Ar185, Sz185, H185⟩ := qa185
  have hi186 : 0 ≤ ((l2.toInt32) : Int32).toInt ∧ ((l2.toInt32) : Int32).toInt < (5 : Nat) := (own_bd hl2 (by decide))
  have hl186 : c185.slots[((l2.toInt32) : Int32).toNatClampNeg]? = some (.int ((cc ((l2.toInt32) : Int32).toNatClampNeg))) := H185 _ (own_ix hi186)
  have qa187 := A_b1_136
  obtain ⟨c187, Ar187, Sz187, H187⟩ := qa187
  have hi188 : 0 ≤ ((l3.toInt32) : Int32).toInt ∧ ((l3.toInt32) : Int32).toInt < (5 : Nat) := (own_bd hl3 (by decide))
  have hl188 : c187.slots[((l3.toInt32) : Int32).toNatClampNeg]? = some (.long ((rr ((l3.toInt32) : Int32).toNatClampNeg))) := H187 _ (own_ix hi188)
  have qa189 := A_b5_136
  obtain ⟨c189, Ar189, Sz189, H189⟩ := qa189
  have hi190 : 0 ≤ ((l3.toInt32) : Int32).toInt ∧ ((l3.toInt32) : Int32).toInt < (5 : Nat) := (own_bd hl3 (by decide))
  have hl190 : c189.slots[((l3.toInt32) : Int32).toNatClampNeg]? = some (.int ((cc ((l3.toInt32) : Int32).toNatClampNeg))) := H189 _ (own_ix hi190)
  obtain ⟨_, _, ⟨T191, L191, k191, n191⟩, -, X191, ⟨Lc191, hQ191, l191, y191, z191⟩, st191⟩ := Jvm.LawKit.callS X182 hx (y := (⟨"com/example/brisk_maze/briskmaze/search/RankedFrontierRemoveFirstPinLaw", "notBefore", "(JIJI)Z"⟩ : MethodName)) hown (mvT hZ (hw _ (List.mem_of_getElem? (i := 55) rfl))) (mvT hZ (hw _ (List.mem_of_getElem? (i := 56) rfl))) (mvT hZ (hw _ (List.mem_of_getElem? (i := 4) rfl))) (mvT hZ (hw _ (List.mem_of_getElem? (i := 57) rfl))) (by decide) (backOf (W := 0) (rm12 l Z a0 hw [] ((rr ((l2.toInt32) : Int32).toNatClampNeg)) ((cc ((l2.toInt32) : Int32).toNatClampNeg)) ((rr ((l3.toInt32) : Int32).toNatClampNeg)) ((cc ((l3.toInt32) : Int32).toNatClampNeg)) T135.heap n0 ZZ137) hZ (hw _ (List.mem_of_getElem? (i := 57) rfl)) (hw _ (List.mem_of_getElem? (i := 4) rfl)) (by decide) (by decide)) (g := (mkF m 481 #[.val (.long q0), .second, .val (.long q1), .second, .val (.long q2), .second, .val (.int p3), .val (.int p4), .val (.int p5), .val (.ref b1), .val (.ref b5), .val (.ref b71), .val (.int ((100 + l0).toInt32)), .val (.int ((100 + l1).toInt32)), .val (.int ((100 + l2).toInt32)), .val (.int ((100 + l3).toInt32)), .val (.int ((100 + l4).toInt32)), .val (.int ((f10_12 ((0 : Nat).toInt32)) &&& 1)), .val (.int (l0.toInt32)), .val (.int (l1.toInt32)), .val (.int (l2.toInt32)), .val (.int (l3.toInt32)), .val (.int (l4.toInt32)), .val (.int ((((((1 : Int32) <<< ((l0.toInt32) &&& 31)) ||| ((1 : Int32) <<< ((l1.toInt32) &&& 31))) ||| ((1 : Int32) <<< ((l2.toInt32) &&& 31))) ||| ((1 : Int32) <<< ((l3.toInt32) &&& 31))) ||| ((1 : Int32) <<< ((l4.toInt32) &&& 31))))] [(.int ((cc ((l3.toInt32) : Int32).toNatClampNeg))), (.long ((rr ((l3.toInt32) : Int32).toNatClampNeg))), (.int ((cc ((l2.toInt32) : Int32).toNatClampNeg))), (.long ((rr ((l2.toInt32) : Int32).toNatClampNeg)))])) rfl (by rw [hml]; rfl) (argsL := [(.long ((rr ((l2.toInt32) : Int32).toNatClampNeg))), (.int ((cc ((l2.toInt32) : Int32).toNatClampNeg))), (.long ((rr ((l3.toInt32) : Int32).toNatClampNeg))), (.int ((cc ((l3.toInt32) : Int32).toNatClampNeg)))]) (rest := []) (lenOf pd_0 rfl) rfl (by show 2 * 0 + _ ≤ _; exact Nat.le_of_eq rfl) (hb hby at_481) (fun _ _ => ⟨rfl, hh182, (by decide : 6 + 0 ≤ _), (by decide : 206 + 0 ≤ _)⟩)
  dsimp only [Pt.U, Pt.locs, Pt.cells, Pt.slots] at X191 l191 y191 z191 st191 hQ191
  subst y191 z191
  obtain ⟨rfl, N191q, hh191⟩ := hQ191
  have N191 := Fr.app N182 N191q
  rw [← l191] at N191
  have qa192 := A_b1_136
  obtain ⟨c192, Ar192, Sz192, H192⟩ := qa192
  have hi193 : 0 ≤ ((l3.toInt32) : Int32).toInt ∧ ((l3.toInt32) : Int32).toInt < (5 : Nat) := (own_bd hl3 (by decide))
  have hl193 : c192.slots[((l3.toInt32) : Int32).toNatClampNeg]? = some (.long ((rr ((l3.toInt32) : Int32).toNatClampNeg))) := H192 _ (own_ix hi193)
  have qa194 := A_b5_136
  obtain ⟨c194, Ar194, Sz194, H194⟩ := qa194
  have hi195 : 0 ≤ ((l3.toInt32) : Int32).toInt ∧ ((l3.toInt32) : Int32).toInt < (5 : Nat) := (own_bd hl3 (by decide))
  have hl195 : c194.slots[((l3.toInt32) : Int32).toNatClampNeg]? = some (.int ((cc ((l3.toInt32) : Int32).toNatClampNeg))) := H194 _ (own_ix hi195)
  have qa196 := A_b1_136
  obtain ⟨c196, Ar196, Sz196, H196⟩ := qa196
  have hi197 : 0 ≤ ((l4.toInt32) : Int32).toInt ∧ ((l4.toInt32) : Int32).toInt < (5 : Nat) := (own_bd hl4 (by decide))
  have hl197 : c196.slots[((l4.toInt32) : Int32).toNatClampNeg]? = some (.long ((rr ((l4.toInt32) : Int32).toNatClampNeg))) := H196 _ (own_ix hi197)
  have qa198 := A_b5_136
  obtain ⟨c198, Ar198, Sz198, H198⟩ := qa198
  have hi199 : 0 ≤ ((l4.toInt32) : Int32).toInt ∧ ((l4.toInt32) : Int32).toInt < (5 : Nat) := (own_bd hl4 (by decide))
  have hl199 : c198.slots[((l4.toInt32) : Int32).toNatClampNeg]? = some (.int ((cc ((l4.toInt32) : Int32).toNatClampNeg))) := H198 _ (own_ix hi199)
  obtain ⟨_, _, ⟨T200, L200, k200, n200⟩, -, X200, ⟨Lc200, hQ200, l200, y200, z200⟩, st200⟩ := Jvm.LawKit.callS X191 hx (y := (⟨"com/example/brisk_maze/briskmaze/search/RankedFrontierRemoveFirstPinLaw", "notBefore", "(JIJI)Z"⟩ : MethodName)) hown (mvT hZ (hw _ (List.mem_of_getElem? (i := 55) rfl))) (mvT hZ (hw _ (List.mem_of_getElem? (i := 56) rfl))) (mvT hZ (hw _ (List.mem_of_getElem? (i := 4) rfl))) (mvT hZ (hw _ (List.mem_of_getElem? (i := 57) rfl))) (by decide) (backOf (W := 0) (rm12 l Z a0 hw [] ((rr ((l3.toInt32) : Int32).toNatClampNeg)) ((cc ((l3.toInt32) : Int32).toNatClampNeg)) ((rr ((l4.toInt32) : Int32).toNatClampNeg)) ((cc ((l4.toInt32) : Int32).toNatClampNeg)) T135.heap n0 ZZ137) hZ (hw _ (List.mem_of_getElem? (i := 57) rfl)) (hw _ (List.mem_of_getElem? (i := 4) rfl)) (by decide) (by decide)) (g := (mkF m 507 #[.val (.long q0), .second, .val (.long q1), .second, .val (.long q2), .second, .val (.int p3), .val (.int p4), .val (.int p5), .val (.ref b1), .val (.ref b5), .val (.ref b71), .val (.int ((100 + l0).toInt32)), .val (.int ((100 + l1).toInt32)), .val (.int ((100 + l2).toInt32)), .val (.int ((100 + l3).toInt32)), .val (.int ((100 + l4).toInt32)), .val (.int ((f10_12 ((0 : Nat).toInt32)) &&& 1)), .val (.int (l0.toInt32)), .val (.int (l1.toInt32)), .val (.int (l2.toInt32)), .val (.int (l3.toInt32)), .val (.int (l4.toInt32)), .val (.int ((((((1 : Int32) <<< ((l0.toInt32) &&& 31)) ||| ((1 : Int32) <<< ((l1.toInt32) &&& 31))) ||| ((1 : Int32) <<< ((l2.toInt32) &&& 31))) ||| ((1 : Int32) <<< ((l3.toInt32) &&& 31))) ||| ((1 : Int32) <<< ((l4.toInt32) &&& 31))))] [(.int ((cc ((l4.toInt32) : Int32).toNatClampNeg))), (.long ((rr ((l4.toInt32) : Int32).toNatClampNeg))), (.int ((cc ((l3.toInt32) : Int32).toNatClampNeg))), (.long ((rr ((l3.toInt32) : Int32).toNatClampNeg)))])) rfl (by rw [hml]; rfl) (argsL := [(.long ((rr ((l3.toInt32) : Int32).toNatClampNeg))), (.int ((cc ((l3.toInt32) : Int32).toNatClampNeg))), (.long ((rr ((l4.toInt32) : Int32).toNatClampNeg))), (.int ((cc ((l4.toInt32) : Int32).toNatClampNeg)))]) (rest := []) (lenOf pd_0 rfl) rfl (by show 2 * 0 + _ ≤ _; exact Nat.le_of_eq rfl) (hb hby at_507) (fun _ _ => ⟨rfl, hh191, (by decide : 6 + 0 ≤ _), (by decide : 206 + 0 ≤ _)⟩)
  dsimp only [Pt.U, Pt.locs, Pt.cells, Pt.slots] at X200 l200 y200 z200 st200 hQ200
  subst y200 z200
  obtain ⟨rfl, N200q, hh200⟩ := hQ200
  have N200 := Fr.app N191 N200q
  rw [← l200] at N200
  have pre201 : ∀ t, Steps p.tables e below (T200.setTop (mkF m 518 #[.val (.long q0), .second, .val (.long q1), .second, .val (.long q2), .second, .val (.int p3), .val (.int p4), .val (.int p5), .val (.ref b1), .val (.ref b5), .val (.ref b71), .val (.int ((100 + l0).toInt32)), .val (.int ((100 + l1).toInt32)), .val (.int ((100 + l2).toInt32)), .val (.int ((100 + l3).toInt32)), .val (.int ((100 + l4).toInt32)), .val (.int ((f10_12 ((0 : Nat).toInt32)) &&& 1)), .val (.int (l0.toInt32)), .val (.int (l1.toInt32)), .val (.int (l2.toInt32)), .val (.int (l3.toInt32)), .val (.int (l4.toInt32)), .val (.int ((((((1 : Int32) <<< ((l0.toInt32) &&& 31)) ||| ((1 : Int32) <<< ((l1.toInt32) &&& 31))) ||| ((1 : Int32) <<< ((l2.toInt32) &&& 31))) ||| ((1 : Int32) <<< ((l3.toInt32) &&& 31))) ||| ((1 : Int32) <<< ((l4.toInt32) &&& 31))))] [(.int (1 : Int32))])) t → Steps p.tables e below (s₁.setTop (entryFrame m #[(.long q0), (.long q1), (.long q2), (.int p3), (.int p4), (.int p5)] maxLocals)) t := fun t k => pre164 t (by
    show Steps p.tables e below (T154.setTop (mkF m 374 #[.val (.long q0), .second, .val (.long q1), .second, .val (.long q2), .second, .val (.int p3), .val (.int p4), .val (.int p5), .val (.ref b1), .val (.ref b5), .val (.ref b71), .val (.int ((100 + l0).toInt32)), .val (.int ((100 + l1).toInt32)), .val (.int ((100 + l2).toInt32)), .val (.int ((100 + l3).toInt32)), .val (.int ((100 + l4).toInt32)), .val (.int ((f10_12 ((0 : Nat).toInt32)) &&& 1)), .val (.int (l0.toInt32)), .val (.int (l1.toInt32)), .val (.int (l2.toInt32)), .val (.int (l3.toInt32)), .val (.int (l4.toInt32)), .unset] [])) _
    refine XS.iconst X154.here hx rfl (hb hby at_374) ?_
    show Steps p.tables e below (T154.setTop (mkF m 375 #[.val (.long q0), .second, .val (.long q1), .second, .val (.long q2), .second, .val (.int p3), .val (.int p4), .val (.int p5), .val (.ref b1), .val (.ref b5), .val (.ref b71), .val (.int ((100 + l0).toInt32)), .val (.int ((100 + l1).toInt32)), .val (.int ((100 + l2).toInt32)), .val (.int ((100 + l3).toInt32)), .val (.int ((100 + l4).toInt32)), .val (.int ((f10_12 ((0 : Nat).toInt32)) &&& 1)), .val (.int (l0.toInt32)), .val (.int (l1.toInt32)), .val (.int (l2.toInt32)), .val (.int (l3.toInt32)), .val (.int (l4.toInt32)), .unset] [(.int (1 : Int32))])) _
    refine XS.iload X154.here hx rfl (hb hby at_375) rfl ?_
    show Steps p.tables e below (T154.setTop (mkF m 377 #[.val (.long q0), .second, .val (.long q1), .second, .val (.long q2), .second, .val (.int p3), .val (.int p4), .val (.int p5), .val (.ref b1), .val (.ref b5), .val (.ref b71), .val (.int ((100 + l0).toInt32)), .val (.int ((100 + l1).toInt32)), .val (.int ((100 + l2).toInt32)), .val (.int ((100 + l3).toInt32)), .val (.int ((100 + l4).toInt32)), .val (.int ((f10_12 ((0 : Nat).toInt32)) &&& 1)), .val (.int (l0.toInt32)), .val (.int (l1.toInt32)), .val (.int (l2.toInt32)), .val (.int (l3.toInt32)), .val (.int (l4.toInt32)), .unset] [(.int (l0.toInt32)), (.int (1 : Int32))])) _
    refine XS.ishl X154.here hx rfl (hb hby at_377) rfl ?_
    show Steps p.tables e below (T154.setTop (mkF m 378 #[.val (.long q0), .second, .val (.long q1), .second, .val (.long q2), .second, .val (.int p3), .val (.int p4), .val (.int p5), .val (.ref b1), .val (.ref b5), .val (.ref b71), .val (.int ((100 + l0).toInt32)), .val (.int ((100 + l1).toInt32)), .val (.int ((100 + l2).toInt32)), .val (.int ((100 + l3).toInt32)), .val (.int ((100 + l4).toInt32)), .val (.int ((f10_12 ((0 : Nat).toInt32)) &&& 1)), .val (.int (l0.toInt32)), .val (.int (l1.toInt32)), .val (.int (l2.toInt32)), .val (.int (l3.toInt32)), .val (.int (l4.toInt32)), .unset] [(.int ((1 : Int32) <<< ((l0.toInt32) &&& 31)))])) _
    refine XS.iconst X154.here hx rfl (hb hby at_378) ?_
    show Steps p.tables e below (T154.setTop (mkF m 379 #[.val (.long q0), .second, .val (.long q1), .second, .val (.long q2), .second, .val (.int p3), .val (.int p4), .val (.int p5), .val (.ref b1), .val (.ref b5), .val (.ref b71), .val (.int ((100 + l0).toInt32)), .val (.int ((100 + l1).toInt32)), .val (.int ((100 + l2).toInt32)), .val (.int ((100 + l3).toInt32)), .val (.int ((100 + l4).toInt32)), .val (.int ((f10_12 ((0 : Nat).toInt32)) &&& 1)), .val (.int (l0.toInt32)), .val (.int (l1.toInt32)), .val (.int (l2.toInt32)), .val (.int (l3.toInt32)), .val (.int (l4.toInt32)), .unset] [(.int (1 : Int32)), (.int ((1 : Int32) <<< ((l0.toInt32) &&& 31)))])) _
    refine XS.iload X154.here hx rfl (hb hby at_379) rfl ?_
    show Steps p.tables e below (T154.setTop (mkF m 381 #[.val (.long q0), .second, .val (.long q1), .second, .val (.long q2), .second, .val (.int p3), .val (.int p4), .val (.int p5), .val (.ref b1), .val (.ref b5), .val (.ref b71), .val (.int ((100 + l0).toInt32)), .val (.int ((100 + l1).toInt32)), .val (.int ((100 + l2).toInt32)), .val (.int ((100 + l3).toInt32)), .val (.int ((100 + l4).toInt32)), .val (.int ((f10_12 ((0 : Nat).toInt32)) &&& 1)), .val (.int (l0.toInt32)), .val (.int (l1.toInt32)), .val (.int (l2.toInt32)), .val (.int (l3.toInt32)), .val (.int (l4.toInt32)), .unset] [(.int (l1.toInt32)), (.int (1 : Int32)), (.int ((1 : Int32) <<< ((l0.toInt32) &&& 31)))])) _
    refine XS.ishl X154.here hx rfl (hb hby at_381) rfl ?_
    show Steps p.tables e below (T154.setTop (mkF m 382 #[.val (.long q0), .second, .val (.long q1), .second, .val (.long q2), .second, .val (.int p3), .val (.int p4), .val (.int p5), .val (.ref b1), .val (.ref b5), .val (.ref b71), .val (.int ((100 + l0).toInt32)), .val (.int ((100 + l1).toInt32)), .val (.int ((100 + l2).toInt32)), .val (.int ((100 + l3).toInt32)), .val (.int ((100 + l4).toInt32)), .val (.int ((f10_12 ((0 : Nat).toInt32)) &&& 1)), .val (.int (l0.toInt32)), .val (.int (l1.toInt32)), .val (.int (l2.toInt32)), .val (.int (l3.toInt32)), .val (.int (l4.toInt32)), .unset] [(.int ((1 : Int32) <<< ((l1.toInt32) &&& 31))), (.int ((1 : Int32) <<< ((l0.toInt32) &&& 31)))])) _
    refine XS.ior X154.here hx rfl (hb hby at_382) rfl ?_
    show Steps p.tables e below (T154.setTop (mkF m 383 #[.val (.long q0), .second, .val (.long q1), .second, .val (.long q2), .second, .val (.int p3), .val (.int p4), .val (.int p5), .val (.ref b1), .val (.ref b5), .val (.ref b71), .val (.int ((100 + l0).toInt32)), .val (.int ((100 + l1).toInt32)), .val (.int ((100 + l2).toInt32)), .val (.int ((100 + l3).toInt32)), .val (.int ((100 + l4).toInt32)), .val (.int ((f10_12 ((0 : Nat).toInt32)) &&& 1)), .val (.int (l0.toInt32)), .val (.int (l1.toInt32)), .val (.int (l2.toInt32)), .val (.int (l3.toInt32)), .val (.int (l4.toInt32)), .unset] [(.int (((1 : Int32) <<< ((l0.toInt32) &&& 31)) ||| ((1 : Int32) <<< ((l1.toInt32) &&& 31))))])) _
    refine XS.iconst X154.here hx rfl (hb hby at_383) ?_
    show Steps p.tables e below (T154.setTop (mkF m 384 #[.val (.long q0), .second, .val (.long q1), .second, .val (.long q2), .second, .val (.int p3), .val (.int p4), .val (.int p5), .val (.ref b1), .val (.ref b5), .val (.ref b71), .val (.int ((100 + l0).toInt32)), .val (.int ((100 + l1).toInt32)), .val (.int ((100 + l2).toInt32)), .val (.int ((100 + l3).toInt32)), .val (.int ((100 + l4).toInt32)), .val (.int ((f10_12 ((0 : Nat).toInt32)) &&& 1)), .val (.int (l0.toInt32)), .val (.int (l1.toInt32)), .val (.int (l2.toInt32)), .val (.int (l3.toInt32)), .val (.int (l4.toInt32)), .unset] [(.int (1 : Int32)), (.int (((1 : Int32) <<< ((l0.toInt32) &&& 31)) ||| ((1 : Int32) <<< ((l1.toInt32) &&& 31))))])) _
    refine XS.iload X154.here hx rfl (hb hby at_384) rfl ?_
    show Steps p.tables e below (T154.setTop (mkF m 386 #[.val (.long q0), .second, .val (.long q1), .second, .val (.long q2), .second, .val (.int p3), .val (.int p4), .val (.int p5), .val (.ref b1), .val (.ref b5), .val (.ref b71), .val (.int ((100 + l0).toInt32)), .val (.int ((100 + l1).toInt32)), .val (.int ((100 + l2).toInt32)), .val (.int ((100 + l3).toInt32)), .val (.int ((100 + l4).toInt32)), .val (.int ((f10_12 ((0 : Nat).toInt32)) &&& 1)), .val (.int (l0.toInt32)), .val (.int (l1.toInt32)), .val (.int (l2.toInt32)), .val (.int (l3.toInt32)), .val (.int (l4.toInt32)), .unset] [(.int (l2.toInt32)), (.int (1 : Int32)), (.int (((1 : Int32) <<< ((l0.toInt32) &&& 31)) ||| ((1 : Int32) <<< ((l1.toInt32) &&& 31))))])) _
    refine XS.ishl X154.here hx rfl (hb hby at_386) rfl ?_
    show Steps p.tables e below (T154.setTop (mkF m 387 #[.val (.long q0), .second, .val (.long q1), .second, .val (.long q2), .second, .val (.int p3), .val (.int p4), .val (.int p5), .val (.ref b1), .val (.ref b5), .val (.ref b71), .val (.int ((100 + l0).toInt32)), .val (.int ((100 + l1).toInt32)), .val (.int ((100 + l2).toInt32)), .val (.int ((100 + l3).toInt32)), .val (.int ((100 + l4).toInt32)), .val (.int ((f10_12 ((0 : Nat).toInt32)) &&& 1)), .val (.int (l0.toInt32)), .val (.int (l1.toInt32)), .val (.int (l2.toInt32)), .val (.int (l3.toInt32)), .val (.int (l4.toInt32)), .unset] [(.int ((1 : Int32) <<< ((l2.toInt32) &&& 31))), (.int (((1 : Int32) <<< ((l0.toInt32) &&& 31)) ||| ((1 : Int32) <<< ((l1.toInt32) &&& 31))))])) _
    refine XS.ior X154.here hx rfl (hb hby at_387) rfl ?_
    show Steps p.tables e below (T154.setTop (mkF m 388 #[.val (.long q0), .second, .val (.long q1), .second, .val (.long q2), .second, .val (.int p3), .val (.int p4), .val (.int p5), .val (.ref b1), .val (.ref b5), .val (.ref b71), .val (.int ((100 + l0).toInt32)), .val (.int ((100 + l1).toInt32)), .val (.int ((100 + l2).toInt32)), .val (.int ((100 + l3).toInt32)), .val (.int ((100 + l4).toInt32)), .val (.int ((f10_12 ((0 : Nat).toInt32)) &&& 1)), .val (.int (l0.toInt32)), .val (.int (l1.toInt32)), .val (.int (l2.toInt32)), .val (.int (l3.toInt32)), .val (.int (l4.toInt32)), .unset] [(.int ((((1 : Int32) <<< ((l0.toInt32) &&& 31)) ||| ((1 : Int32) <<< ((l1.toInt32) &&& 31))) ||| ((1 : Int32) <<< ((l2.toInt32) &&& 31))))])) _
    refine XS.iconst X154.here hx rfl (hb hby at_388) ?_
    show Steps p.tables e below (T154.setTop (mkF m 389 #[.val (.long q0), .second, .val (.long q1), .second, .val (.long q2), .second, .val (.int p3), .val (.int p4), .val (.int p5), .val (.ref b1), .val (.ref b5), .val (.ref b71), .val (.int ((100 + l0).toInt32)), .val (.int ((100 + l1).toInt32)), .val (.int ((100 + l2).toInt32)), .val (.int ((100 + l3).toInt32)), .val (.int ((100 + l4).toInt32)), .val (.int ((f10_12 ((0 : Nat).toInt32)) &&& 1)), .val (.int (l0.toInt32)), .val (.int (l1.toInt32)), .val (.int (l2.toInt32)), .val (.int (l3.toInt32)), .val (.int (l4.toInt32)), .unset] [(.int (1 : Int32)), (.int ((((1 : Int32) <<< ((l0.toInt32) &&& 31)) ||| ((1 : Int32) <<< ((l1.toInt32) &&& 31))) ||| ((1 : Int32) <<< ((l2.toInt32) &&& 31))))])) _
    refine XS.iload X154.here hx rfl (hb hby at_389) rfl ?_
    show Steps p.tables e below (T154.setTop (mkF m 391 #[.val (.long q0), .second, .val (.long q1), .second, .val (.long q2), .second, .val (.int p3), .val (.int p4), .val (.int p5), .val (.ref b1), .val (.ref b5), .val (.ref b71), .val (.int ((100 + l0).toInt32)), .val (.int ((100 + l1).toInt32)), .val (.int ((100 + l2).toInt32)), .val (.int ((100 + l3).toInt32)), .val (.int ((100 + l4).toInt32)), .val (.int ((f10_12 ((0 : Nat).toInt32)) &&& 1)), .val (.int (l0.toInt32)), .val (.int (l1.toInt32)), .val (.int (l2.toInt32)), .val (.int (l3.toInt32)), .val (.int (l4.toInt32)), .unset] [(.int (l3.toInt32)), (.int (1 : Int32)), (.int ((((1 : Int32) <<< ((l0.toInt32) &&& 31)) ||| ((1 : Int32) <<< ((l1.toInt32) &&& 31))) ||| ((1 : Int32) <<< ((l2.toInt32) &&& 31))))])) _
    refine XS.ishl X154.here hx rfl (hb hby at_391) rfl ?_
    show Steps p.tables e below (T154.setTop (mkF m 392 #[.val (.long q0), .second, .val (.long q1), .second, .val (.long q2), .second, .val (.int p3), .val (.int p4), .val (.int p5), .val (.ref b1), .val (.ref b5), .val (.ref b71), .val (.int ((100 + l0).toInt32)), .val (.int ((100 + l1).toInt32)), .val (.int ((100 + l2).toInt32)), .val (.int ((100 + l3).toInt32)), .val (.int ((100 + l4).toInt32)), .val (.int ((f10_12 ((0 : Nat).toInt32)) &&& 1)), .val (.int (l0.toInt32)), .val (.int (l1.toInt32)), .val (.int (l2.toInt32)), .val (.int (l3.toInt32)), .val (.int (l4.toInt32)), .unset] [(.int ((1 : Int32) <<< ((l3.toInt32) &&& 31))), (.int ((((1 : Int32) <<< ((l0.toInt32) &&& 31)) ||| ((1 : Int32) <<< ((l1.toInt32) &&& 31))) ||| ((1 : Int32) <<< ((l2.toInt32) &&& 31))))])) _
    refine XS.ior X154.here hx rfl (hb hby at_392) rfl ?_
    show Steps p.tables e below (T154.setTop (mkF m 393 #[.val (.long q0), .second, .val (.long q1), .second, .val (.long q2), .second, .val (.int p3), .val (.int p4), .val (.int p5), .val (.ref b1), .val (.ref b5), .val (.ref b71), .val (.int ((100 + l0).toInt32)), .val (.int ((100 + l1).toInt32)), .val (.int ((100 + l2).toInt32)), .val (.int ((100 + l3).toInt32)), .val (.int ((100 + l4).toInt32)), .val (.int ((f10_12 ((0 : Nat).toInt32)) &&& 1)), .val (.int (l0.toInt32)), .val (.int (l1.toInt32)), .val (.int (l2.toInt32)), .val (.int (l3.toInt32)), .val (.int (l4.toInt32)), .unset] [(.int (((((1 : Int32) <<< ((l0.toInt32) &&& 31)) ||| ((1 : Int32) <<< ((l1.toInt32) &&& 31))) ||| ((1 : Int32) <<< ((l2.toInt32) &&& 31))) ||| ((1 : Int32) <<< ((l3.toInt32) &&& 31))))])) _
    refine XS.iconst X154.here hx rfl (hb hby at_393) ?_
    show Steps p.tables e below (T154.setTop (mkF m 394 #[.val (.long q0), .second, .val (.long q1), .second, .val (.long q2), .second, .val (.int p3), .val (.int p4), .val (.int p5), .val (.ref b1), .val (.ref b5), .val (.ref b71), .val (.int ((100 + l0).toInt32)), .val (.int ((100 + l1).toInt32)), .val (.int ((100 + l2).toInt32)), .val (.int ((100 + l3).toInt32)), .val (.int ((100 + l4).toInt32)), .val (.int ((f10_12 ((0 : Nat).toInt32)) &&& 1)), .val (.int (l0.toInt32)), .val (.int (l1.toInt32)), .val (.int (l2.toInt32)), .val (.int (l3.toInt32)), .val (.int (l4.toInt32)), .unset] [(.int (1 : Int32)), (.int (((((1 : Int32) <<< ((l0.toInt32) &&& 31)) ||| ((1 : Int32) <<< ((l1.toInt32) &&& 31))) ||| ((1 : Int32) <<< ((l2.toInt32) &&& 31))) ||| ((1 : Int32) <<< ((l3.toInt32) &&& 31))))])) _
    refine XS.iload X154.here hx rfl (hb hby at_394) rfl ?_
    show Steps p.tables e below (T154.setTop (mkF m 396 #[.val (.long q0), .second, .val (.long q1), .second, .val (.long q2), .second, .val (.int p3), .val (.int p4), .val (.int p5), .val (.ref b1), .val (.ref b5), .val (.ref b71), .val (.int ((100 + l0).toInt32)), .val (.int ((100 + l1).toInt32)), .val (.int ((100 + l2).toInt32)), .val (.int ((100 + l3).toInt32)), .val (.int ((100 + l4).toInt32)), .val (.int ((f10_12 ((0 : Nat).toInt32)) &&& 1)), .val (.int (l0.toInt32)), .val (.int (l1.toInt32)), .val (.int (l2.toInt32)), .val (.int (l3.toInt32)), .val (.int (l4.toInt32)), .unset] [(.int (l4.toInt32)), (.int (1 : Int32)), (.int (((((1 : Int32) <<< ((l0.toInt32) &&& 31)) ||| ((1 : Int32) <<< ((l1.toInt32) &&& 31))) ||| ((1 : Int32) <<< ((l2.toInt32) &&& 31))) ||| ((1 : Int32) <<< ((l3.toInt32) &&& 31))))])) _
    refine XS.ishl X154.here hx rfl (hb hby at_396) rfl ?_
    show Steps p.tables e below (T154.setTop (mkF m 397 #[.val (.long q0), .second, .val (.long q1), .second, .val (.long q2), .second, .val (.int p3), .val (.int p4), .val (.int p5), .val (.ref b1), .val (.ref b5), .val (.ref b71), .val (.int ((100 + l0).toInt32)), .val (.int ((100 + l1).toInt32)), .val (.int ((100 + l2).toInt32)), .val (.int ((100 + l3).toInt32)), .val (.int ((100 + l4).toInt32)), .val (.int ((f10_12 ((0 : Nat).toInt32)) &&& 1)), .val (.int (l0.toInt32)), .val (.int (l1.toInt32)), .val (.int (l2.toInt32)), .val (.int (l3.toInt32)), .val (.int (l4.toInt32)), .unset] [(.int ((1 : Int32) <<< ((l4.toInt32) &&& 31))), (.int (((((1 : Int32) <<< ((l0.toInt32) &&& 31)) ||| ((1 : Int32) <<< ((l1.toInt32) &&& 31))) ||| ((1 : Int32) <<< ((l2.toInt32) &&& 31))) ||| ((1 : Int32) <<< ((l3.toInt32) &&& 31))))])) _
    refine XS.ior X154.here hx rfl (hb hby at_397) rfl ?_
    show Steps p.tables e below (T154.setTop (mkF m 398 #[.val (.long q0), .second, .val (.long q1), .second, .val (.long q2), .second, .val (.int p3), .val (.int p4), .val (.int p5), .val (.ref b1), .val (.ref b5), .val (.ref b71), .val (.int ((100 + l0).toInt32)), .val (.int ((100 + l1).toInt32)), .val (.int ((100 + l2).toInt32)), .val (.int ((100 + l3).toInt32)), .val (.int ((100 + l4).toInt32)), .val (.int ((f10_12 ((0 : Nat).toInt32)) &&& 1)), .val (.int (l0.toInt32)), .val (.int (l1.toInt32)), .val (.int (l2.toInt32)), .val (.int (l3.toInt32)), .val (.int (l4.toInt32)), .unset] [(.int ((((((1 : Int32) <<< ((l0.toInt32) &&& 31)) ||| ((1 : Int32) <<< ((l1.toInt32) &&& 31))) ||| ((1 : Int32) <<< ((l2.toInt32) &&& 31))) ||| ((1 : Int32) <<< ((l3.toInt32) &&& 31))) ||| ((1 : Int32) <<< ((l4.toInt32) &&& 31))))])) _
    refine XS.istore X154.here hx rfl (hb hby at_398) rfl (l' := #[.val (.long q0), .second, .val (.long q1), .second, .val (.long q2), .second, .val (.int p3), .val (.int p4), .val (.int p5), .val (.ref b1), .val (.ref b5), .val (.ref b71), .val (.int ((100 + l0).toInt32)), .val (.int ((100 + l1).toInt32)), .val (.int ((100 + l2).toInt32)), .val (.int ((100 + l3).toInt32)), .val (.int ((100 + l4).toInt32)), .val (.int ((f10_12 ((0 : Nat).toInt32)) &&& 1)), .val (.int (l0.toInt32)), .val (.int (l1.toInt32)), .val (.int (l2.toInt32)), .val (.int (l3.toInt32)), .val (.int (l4.toInt32)), .val (.int ((((((1 : Int32) <<< ((l0.toInt32) &&& 31)) ||| ((1 : Int32) <<< ((l1.toInt32) &&& 31))) ||| ((1 : Int32) <<< ((l2.toInt32) &&& 31))) ||| ((1 : Int32) <<< ((l3.toInt32) &&& 31))) ||| ((1 : Int32) <<< ((l4.toInt32) &&& 31))))]) rfl ?_
    show Steps p.tables e below (T154.setTop (mkF m 400 #[.val (.long q0), .second, .val (.long q1), .second, .val (.long q2), .second, .val (.int p3), .val (.int p4), .val (.int p5), .val (.ref b1), .val (.ref b5), .val (.ref b71), .val (.int ((100 + l0).toInt32)), .val (.int ((100 + l1).toInt32)), .val (.int ((100 + l2).toInt32)), .val (.int ((100 + l3).toInt32)), .val (.int ((100 + l4).toInt32)), .val (.int ((f10_12 ((0 : Nat).toInt32)) &&& 1)), .val (.int (l0.toInt32)), .val (.int (l1.toInt32)), .val (.int (l2.toInt32)), .val (.int (l3.toInt32)), .val (.int (l4.toInt32)), .val (.int ((((((1 : Int32) <<< ((l0.toInt32) &&& 31)) ||| ((1 : Int32) <<< ((l1.toInt32) &&& 31))) ||| ((1 : Int32) <<< ((l2.toInt32) &&& 31))) ||| ((1 : Int32) <<< ((l3.toInt32) &&& 31))) ||| ((1 : Int32) <<< ((l4.toInt32) &&& 31))))] [])) _
    refine XS.iload X154.here hx rfl (hb hby at_400) rfl ?_
    show Steps p.tables e below (T154.setTop (mkF m 402 #[.val (.long q0), .second, .val (.long q1), .second, .val (.long q2), .second, .val (.int p3), .val (.int p4), .val (.int p5), .val (.ref b1), .val (.ref b5), .val (.ref b71), .val (.int ((100 + l0).toInt32)), .val (.int ((100 + l1).toInt32)), .val (.int ((100 + l2).toInt32)), .val (.int ((100 + l3).toInt32)), .val (.int ((100 + l4).toInt32)), .val (.int ((f10_12 ((0 : Nat).toInt32)) &&& 1)), .val (.int (l0.toInt32)), .val (.int (l1.toInt32)), .val (.int (l2.toInt32)), .val (.int (l3.toInt32)), .val (.int (l4.toInt32)), .val (.int ((((((1 : Int32) <<< ((l0.toInt32) &&& 31)) ||| ((1 : Int32) <<< ((l1.toInt32) &&& 31))) ||| ((1 : Int32) <<< ((l2.toInt32) &&& 31))) ||| ((1 : Int32) <<< ((l3.toInt32) &&& 31))) ||| ((1 : Int32) <<< ((l4.toInt32) &&& 31))))] [(.int ((((((1 : Int32) <<< ((l0.toInt32) &&& 31)) ||| ((1 : Int32) <<< ((l1.toInt32) &&& 31))) ||| ((1 : Int32) <<< ((l2.toInt32) &&& 31))) ||| ((1 : Int32) <<< ((l3.toInt32) &&& 31))) ||| ((1 : Int32) <<< ((l4.toInt32) &&& 31))))])) _
    refine XS.bipush X154.here hx rfl (hb hby at_402) ?_
    show Steps p.tables e below (T154.setTop (mkF m 404 #[.val (.long q0), .second, .val (.long q1), .second, .val (.long q2), .second, .val (.int p3), .val (.int p4), .val (.int p5), .val (.ref b1), .val (.ref b5), .val (.ref b71), .val (.int ((100 + l0).toInt32)), .val (.int ((100 + l1).toInt32)), .val (.int ((100 + l2).toInt32)), .val (.int ((100 + l3).toInt32)), .val (.int ((100 + l4).toInt32)), .val (.int ((f10_12 ((0 : Nat).toInt32)) &&& 1)), .val (.int (l0.toInt32)), .val (.int (l1.toInt32)), .val (.int (l2.toInt32)), .val (.int (l3.toInt32)), .val (.int (l4.toInt32)), .val (.int ((((((1 : Int32) <<< ((l0.toInt32) &&& 31)) ||| ((1 : Int32) <<< ((l1.toInt32) &&& 31))) ||| ((1 : Int32) <<< ((l2.toInt32) &&& 31))) ||| ((1 : Int32) <<< ((l3.toInt32) &&& 31))) ||| ((1 : Int32) <<< ((l4.toInt32) &&& 31))))] [(.int (31 : Int32)), (.int ((((((1 : Int32) <<< ((l0.toInt32) &&& 31)) ||| ((1 : Int32) <<< ((l1.toInt32) &&& 31))) ||| ((1 : Int32) <<< ((l2.toInt32) &&& 31))) ||| ((1 : Int32) <<< ((l3.toInt32) &&& 31))) ||| ((1 : Int32) <<< ((l4.toInt32) &&& 31))))])) _
    refine XS.icmpYes X154.here hx rfl (pc0 := 404) (pc' := 409) rfl (hb hby at_404) rfl (teq (show ((((((1 : Int32) <<< ((l0.toInt32) &&& 31)) ||| ((1 : Int32) <<< ((l1.toInt32) &&& 31))) ||| ((1 : Int32) <<< ((l2.toInt32) &&& 31))) ||| ((1 : Int32) <<< ((l3.toInt32) &&& 31))) ||| ((1 : Int32) <<< ((l4.toInt32) &&& 31))) = (31 : Int32) from own_seenN hl0 hl1 hl2 hl3 hl4 hnod)).1 (by decide) (by decide) ?_
    show Steps p.tables e below (T154.setTop (mkF m 409 #[.val (.long q0), .second, .val (.long q1), .second, .val (.long q2), .second, .val (.int p3), .val (.int p4), .val (.int p5), .val (.ref b1), .val (.ref b5), .val (.ref b71), .val (.int ((100 + l0).toInt32)), .val (.int ((100 + l1).toInt32)), .val (.int ((100 + l2).toInt32)), .val (.int ((100 + l3).toInt32)), .val (.int ((100 + l4).toInt32)), .val (.int ((f10_12 ((0 : Nat).toInt32)) &&& 1)), .val (.int (l0.toInt32)), .val (.int (l1.toInt32)), .val (.int (l2.toInt32)), .val (.int (l3.toInt32)), .val (.int (l4.toInt32)), .val (.int ((((((1 : Int32) <<< ((l0.toInt32) &&& 31)) ||| ((1 : Int32) <<< ((l1.toInt32) &&& 31))) ||| ((1 : Int32) <<< ((l2.toInt32) &&& 31))) ||| ((1 : Int32) <<< ((l3.toInt32) &&& 31))) ||| ((1 : Int32) <<< ((l4.toInt32) &&& 31))))] [])) _
    refine XS.aload X154.here hx rfl (hb hby at_409) rfl rfl ?_
    show Steps p.tables e below (T154.setTop (mkF m 411 #[.val (.long q0), .second, .val (.long q1), .second, .val (.long q2), .second, .val (.int p3), .val (.int p4), .val (.int p5), .val (.ref b1), .val (.ref b5), .val (.ref b71), .val (.int ((100 + l0).toInt32)), .val (.int ((100 + l1).toInt32)), .val (.int ((100 + l2).toInt32)), .val (.int ((100 + l3).toInt32)), .val (.int ((100 + l4).toInt32)), .val (.int ((f10_12 ((0 : Nat).toInt32)) &&& 1)), .val (.int (l0.toInt32)), .val (.int (l1.toInt32)), .val (.int (l2.toInt32)), .val (.int (l3.toInt32)), .val (.int (l4.toInt32)), .val (.int ((((((1 : Int32) <<< ((l0.toInt32) &&& 31)) ||| ((1 : Int32) <<< ((l1.toInt32) &&& 31))) ||| ((1 : Int32) <<< ((l2.toInt32) &&& 31))) ||| ((1 : Int32) <<< ((l3.toInt32) &&& 31))) ||| ((1 : Int32) <<< ((l4.toInt32) &&& 31))))] [(.ref b1)])) _
    refine XS.iload X154.here hx rfl (hb hby at_411) rfl ?_
    show Steps p.tables e below (T154.setTop (mkF m 413 #[.val (.long q0), .second, .val (.long q1), .second, .val (.long q2), .second, .val (.int p3), .val (.int p4), .val (.int p5), .val (.ref b1), .val (.ref b5), .val (.ref b71), .val (.int ((100 + l0).toInt32)), .val (.int ((100 + l1).toInt32)), .val (.int ((100 + l2).toInt32)), .val (.int ((100 + l3).toInt32)), .val (.int ((100 + l4).toInt32)), .val (.int ((f10_12 ((0 : Nat).toInt32)) &&& 1)), .val (.int (l0.toInt32)), .val (.int (l1.toInt32)), .val (.int (l2.toInt32)), .val (.int (l3.toInt32)), .val (.int (l4.toInt32)), .val (.int ((((((1 : Int32) <<< ((l0.toInt32) &&& 31)) ||| ((1 : Int32) <<< ((l1.toInt32) &&& 31))) ||| ((1 : Int32) <<< ((l2.toInt32) &&& 31))) ||| ((1 : Int32) <<< ((l3.toInt32) &&& 31))) ||| ((1 : Int32) <<< ((l4.toInt32) &&& 31))))] [(.int (l0.toInt32)), (.ref b1)])) _
    refine X154.laload hx (j := (l0.toInt32)) (v := (.long ((rr ((l0.toInt32) : Int32).toNatClampNeg)))) (by rw [hh154]; exact Ar165.1) (State.isArrayOf_alike hZ.alike Ar165.2.1) Ar165.2.2 (own_in Sz165 hi166) hl166 (g := (mkF m 413 #[.val (.long q0), .second, .val (.long q1), .second, .val (.long q2), .second, .val (.int p3), .val (.int p4), .val (.int p5), .val (.ref b1), .val (.ref b5), .val (.ref b71), .val (.int ((100 + l0).toInt32)), .val (.int ((100 + l1).toInt32)), .val (.int ((100 + l2).toInt32)), .val (.int ((100 + l3).toInt32)), .val (.int ((100 + l4).toInt32)), .val (.int ((f10_12 ((0 : Nat).toInt32)) &&& 1)), .val (.int (l0.toInt32)), .val (.int (l1.toInt32)), .val (.int (l2.toInt32)), .val (.int (l3.toInt32)), .val (.int (l4.toInt32)), .val (.int ((((((1 : Int32) <<< ((l0.toInt32) &&& 31)) ||| ((1 : Int32) <<< ((l1.toInt32) &&& 31))) ||| ((1 : Int32) <<< ((l2.toInt32) &&& 31))) ||| ((1 : Int32) <<< ((l3.toInt32) &&& 31))) ||| ((1 : Int32) <<< ((l4.toInt32) &&& 31))))] [(.int (l0.toInt32)), (.ref b1)])) rfl rfl (hb hby at_413) _ ?_
    show Steps p.tables e below (T154.setTop (mkF m 414 #[.val (.long q0), .second, .val (.long q1), .second, .val (.long q2), .second, .val (.int p3), .val (.int p4), .val (.int p5), .val (.ref b1), .val (.ref b5), .val (.ref b71), .val (.int ((100 + l0).toInt32)), .val (.int ((100 + l1).toInt32)), .val (.int ((100 + l2).toInt32)), .val (.int ((100 + l3).toInt32)), .val (.int ((100 + l4).toInt32)), .val (.int ((f10_12 ((0 : Nat).toInt32)) &&& 1)), .val (.int (l0.toInt32)), .val (.int (l1.toInt32)), .val (.int (l2.toInt32)), .val (.int (l3.toInt32)), .val (.int (l4.toInt32)), .val (.int ((((((1 : Int32) <<< ((l0.toInt32) &&& 31)) ||| ((1 : Int32) <<< ((l1.toInt32) &&& 31))) ||| ((1 : Int32) <<< ((l2.toInt32) &&& 31))) ||| ((1 : Int32) <<< ((l3.toInt32) &&& 31))) ||| ((1 : Int32) <<< ((l4.toInt32) &&& 31))))] [(.long ((rr ((l0.toInt32) : Int32).toNatClampNeg)))])) _
    refine XS.aload X154.here hx rfl (hb hby at_414) rfl rfl ?_
    show Steps p.tables e below (T154.setTop (mkF m 416 #[.val (.long q0), .second, .val (.long q1), .second, .val (.long q2), .second, .val (.int p3), .val (.int p4), .val (.int p5), .val (.ref b1), .val (.ref b5), .val (.ref b71), .val (.int ((100 + l0).toInt32)), .val (.int ((100 + l1).toInt32)), .val (.int ((100 + l2).toInt32)), .val (.int ((100 + l3).toInt32)), .val (.int ((100 + l4).toInt32)), .val (.int ((f10_12 ((0 : Nat).toInt32)) &&& 1)), .val (.int (l0.toInt32)), .val (.int (l1.toInt32)), .val (.int (l2.toInt32)), .val (.int (l3.toInt32)), .val (.int (l4.toInt32)), .val (.int ((((((1 : Int32) <<< ((l0.toInt32) &&& 31)) ||| ((1 : Int32) <<< ((l1.toInt32) &&& 31))) ||| ((1 : Int32) <<< ((l2.toInt32) &&& 31))) ||| ((1 : Int32) <<< ((l3.toInt32) &&& 31))) ||| ((1 : Int32) <<< ((l4.toInt32) &&& 31))))] [(.ref b5), (.long ((rr ((l0.toInt32) : Int32).toNatClampNeg)))])) _
    refine XS.iload X154.here hx rfl (hb hby at_416) rfl ?_
    show Steps p.tables e below (T154.setTop (mkF m 418 #[.val (.long q0), .second, .val (.long q1), .second, .val (.long q2), .second, .val (.int p3), .val (.int p4), .val (.int p5), .val (.ref b1), .val (.ref b5), .val (.ref b71), .val (.int ((100 + l0).toInt32)), .val (.int ((100 + l1).toInt32)), .val (.int ((100 + l2).toInt32)), .val (.int ((100 + l3).toInt32)), .val (.int ((100 + l4).toInt32)), .val (.int ((f10_12 ((0 : Nat).toInt32)) &&& 1)), .val (.int (l0.toInt32)), .val (.int (l1.toInt32)), .val (.int (l2.toInt32)), .val (.int (l3.toInt32)), .val (.int (l4.toInt32)), .val (.int ((((((1 : Int32) <<< ((l0.toInt32) &&& 31)) ||| ((1 : Int32) <<< ((l1.toInt32) &&& 31))) ||| ((1 : Int32) <<< ((l2.toInt32) &&& 31))) ||| ((1 : Int32) <<< ((l3.toInt32) &&& 31))) ||| ((1 : Int32) <<< ((l4.toInt32) &&& 31))))] [(.int (l0.toInt32)), (.ref b5), (.long ((rr ((l0.toInt32) : Int32).toNatClampNeg)))])) _
    refine X154.iaload hx (j := (l0.toInt32)) (v := (.int ((cc ((l0.toInt32) : Int32).toNatClampNeg)))) (by rw [hh154]; exact Ar167.1) (State.isArrayOf_alike hZ.alike Ar167.2.1) Ar167.2.2 (own_in Sz167 hi168) hl168 (g := (mkF m 418 #[.val (.long q0), .second, .val (.long q1), .second, .val (.long q2), .second, .val (.int p3), .val (.int p4), .val (.int p5), .val (.ref b1), .val (.ref b5), .val (.ref b71), .val (.int ((100 + l0).toInt32)), .val (.int ((100 + l1).toInt32)), .val (.int ((100 + l2).toInt32)), .val (.int ((100 + l3).toInt32)), .val (.int ((100 + l4).toInt32)), .val (.int ((f10_12 ((0 : Nat).toInt32)) &&& 1)), .val (.int (l0.toInt32)), .val (.int (l1.toInt32)), .val (.int (l2.toInt32)), .val (.int (l3.toInt32)), .val (.int (l4.toInt32)), .val (.int ((((((1 : Int32) <<< ((l0.toInt32) &&& 31)) ||| ((1 : Int32) <<< ((l1.toInt32) &&& 31))) ||| ((1 : Int32) <<< ((l2.toInt32) &&& 31))) ||| ((1 : Int32) <<< ((l3.toInt32) &&& 31))) ||| ((1 : Int32) <<< ((l4.toInt32) &&& 31))))] [(.int (l0.toInt32)), (.ref b5), (.long ((rr ((l0.toInt32) : Int32).toNatClampNeg)))])) rfl rfl (hb hby at_418) _ ?_
    show Steps p.tables e below (T154.setTop (mkF m 419 #[.val (.long q0), .second, .val (.long q1), .second, .val (.long q2), .second, .val (.int p3), .val (.int p4), .val (.int p5), .val (.ref b1), .val (.ref b5), .val (.ref b71), .val (.int ((100 + l0).toInt32)), .val (.int ((100 + l1).toInt32)), .val (.int ((100 + l2).toInt32)), .val (.int ((100 + l3).toInt32)), .val (.int ((100 + l4).toInt32)), .val (.int ((f10_12 ((0 : Nat).toInt32)) &&& 1)), .val (.int (l0.toInt32)), .val (.int (l1.toInt32)), .val (.int (l2.toInt32)), .val (.int (l3.toInt32)), .val (.int (l4.toInt32)), .val (.int ((((((1 : Int32) <<< ((l0.toInt32) &&& 31)) ||| ((1 : Int32) <<< ((l1.toInt32) &&& 31))) ||| ((1 : Int32) <<< ((l2.toInt32) &&& 31))) ||| ((1 : Int32) <<< ((l3.toInt32) &&& 31))) ||| ((1 : Int32) <<< ((l4.toInt32) &&& 31))))] [(.int ((cc ((l0.toInt32) : Int32).toNatClampNeg))), (.long ((rr ((l0.toInt32) : Int32).toNatClampNeg)))])) _
    refine XS.aload X154.here hx rfl (hb hby at_419) rfl rfl ?_
    show Steps p.tables e below (T154.setTop (mkF m 421 #[.val (.long q0), .second, .val (.long q1), .second, .val (.long q2), .second, .val (.int p3), .val (.int p4), .val (.int p5), .val (.ref b1), .val (.ref b5), .val (.ref b71), .val (.int ((100 + l0).toInt32)), .val (.int ((100 + l1).toInt32)), .val (.int ((100 + l2).toInt32)), .val (.int ((100 + l3).toInt32)), .val (.int ((100 + l4).toInt32)), .val (.int ((f10_12 ((0 : Nat).toInt32)) &&& 1)), .val (.int (l0.toInt32)), .val (.int (l1.toInt32)), .val (.int (l2.toInt32)), .val (.int (l3.toInt32)), .val (.int (l4.toInt32)), .val (.int ((((((1 : Int32) <<< ((l0.toInt32) &&& 31)) ||| ((1 : Int32) <<< ((l1.toInt32) &&& 31))) ||| ((1 : Int32) <<< ((l2.toInt32) &&& 31))) ||| ((1 : Int32) <<< ((l3.toInt32) &&& 31))) ||| ((1 : Int32) <<< ((l4.toInt32) &&& 31))))] [(.ref b1), (.int ((cc ((l0.toInt32) : Int32).toNatClampNeg))), (.long ((rr ((l0.toInt32) : Int32).toNatClampNeg)))])) _
    refine XS.iload X154.here hx rfl (hb hby at_421) rfl ?_
    show Steps p.tables e below (T154.setTop (mkF m 423 #[.val (.long q0), .second, .val (.long q1), .second, .val (.long q2), .second, .val (.int p3), .val (.int p4), .val (.int p5), .val (.ref b1), .val (.ref b5), .val (.ref b71), .val (.int ((100 + l0).toInt32)), .val (.int ((100 + l1).toInt32)), .val (.int ((100 + l2).toInt32)), .val (.int ((100 + l3).toInt32)), .val (.int ((100 + l4).toInt32)), .val (.int ((f10_12 ((0 : Nat).toInt32)) &&& 1)), .val (.int (l0.toInt32)), .val (.int (l1.toInt32)), .val (.int (l2.toInt32)), .val (.int (l3.toInt32)), .val (.int (l4.toInt32)), .val (.int ((((((1 : Int32) <<< ((l0.toInt32) &&& 31)) ||| ((1 : Int32) <<< ((l1.toInt32) &&& 31))) ||| ((1 : Int32) <<< ((l2.toInt32) &&& 31))) ||| ((1 : Int32) <<< ((l3.toInt32) &&& 31))) ||| ((1 : Int32) <<< ((l4.toInt32) &&& 31))))] [(.int (l1.toInt32)), (.ref b1), (.int ((cc ((l0.toInt32) : Int32).toNatClampNeg))), (.long ((rr ((l0.toInt32) : Int32).toNatClampNeg)))])) _
    refine X154.laload hx (j := (l1.toInt32)) (v := (.long ((rr ((l1.toInt32) : Int32).toNatClampNeg)))) (by rw [hh154]; exact Ar169.1) (State.isArrayOf_alike hZ.alike Ar169.2.1) Ar169.2.2 (own_in Sz169 hi170) hl170 (g := (mkF m 423 #[.val (.long q0), .second, .val (.long q1), .second, .val (.long q2), .second, .val (.int p3), .val (.int p4), .val (.int p5), .val (.ref b1), .val (.ref b5), .val (.ref b71), .val (.int ((100 + l0).toInt32)), .val (.int ((100 + l1).toInt32)), .val (.int ((100 + l2).toInt32)), .val (.int ((100 + l3).toInt32)), .val (.int ((100 + l4).toInt32)), .val (.int ((f10_12 ((0 : Nat).toInt32)) &&& 1)), .val (.int (l0.toInt32)), .val (.int (l1.toInt32)), .val (.int (l2.toInt32)), .val (.int (l3.toInt32)), .val (.int (l4.toInt32)), .val (.int ((((((1 : Int32) <<< ((l0.toInt32) &&& 31)) ||| ((1 : Int32) <<< ((l1.toInt32) &&& 31))) ||| ((1 : Int32) <<< ((l2.toInt32) &&& 31))) ||| ((1 : Int32) <<< ((l3.toInt32) &&& 31))) ||| ((1 : Int32) <<< ((l4.toInt32) &&& 31))))] [(.int (l1.toInt32)), (.ref b1), (.int ((cc ((l0.toInt32) : Int32).toNatClampNeg))), (.long ((rr ((l0.toInt32) : Int32).toNatClampNeg)))])) rfl rfl (hb hby at_423) _ ?_
    show Steps p.tables e below (T154.setTop (mkF m 424 #[.val (.long q0), .second, .val (.long q1), .second, .val (.long q2), .second, .val (.int p3), .val (.int p4), .val (.int p5), .val (.ref b1), .val (.ref b5), .val (.ref b71), .val (.int ((100 + l0).toInt32)), .val (.int ((100 + l1).toInt32)), .val (.int ((100 + l2).toInt32)), .val (.int ((100 + l3).toInt32)), .val (.int ((100 + l4).toInt32)), .val (.int ((f10_12 ((0 : Nat).toInt32)) &&& 1)), .val (.int (l0.toInt32)), .val (.int (l1.toInt32)), .val (.int (l2.toInt32)), .val (.int (l3.toInt32)), .val (.int (l4.toInt32)), .val (.int ((((((1 : Int32) <<< ((l0.toInt32) &&& 31)) ||| ((1 : Int32) <<< ((l1.toInt32) &&& 31))) ||| ((1 : Int32) <<< ((l2.toInt32) &&& 31))) ||| ((1 : Int32) <<< ((l3.toInt32) &&& 31))) ||| ((1 : Int32) <<< ((l4.toInt32) &&& 31))))] [(.long ((rr ((l1.toInt32) : Int32).toNatClampNeg))), (.int ((cc ((l0.toInt32) : Int32).toNatClampNeg))), (.long ((rr ((l0.toInt32) : Int32).toNatClampNeg)))])) _
    refine XS.aload X154.here hx rfl (hb hby at_424) rfl rfl ?_
    show Steps p.tables e below (T154.setTop (mkF m 426 #[.val (.long q0), .second, .val (.long q1), .second, .val (.long q2), .second, .val (.int p3), .val (.int p4), .val (.int p5), .val (.ref b1), .val (.ref b5), .val (.ref b71), .val (.int ((100 + l0).toInt32)), .val (.int ((100 + l1).toInt32)), .val (.int ((100 + l2).toInt32)), .val (.int ((100 + l3).toInt32)), .val (.int ((100 + l4).toInt32)), .val (.int ((f10_12 ((0 : Nat).toInt32)) &&& 1)), .val (.int (l0.toInt32)), .val (.int (l1.toInt32)), .val (.int (l2.toInt32)), .val (.int (l3.toInt32)), .val (.int (l4.toInt32)), .val (.int ((((((1 : Int32) <<< ((l0.toInt32) &&& 31)) ||| ((1 : Int32) <<< ((l1.toInt32) &&& 31))) ||| ((1 : Int32) <<< ((l2.toInt32) &&& 31))) ||| ((1 : Int32) <<< ((l3.toInt32) &&& 31))) ||| ((1 : Int32) <<< ((l4.toInt32) &&& 31))))] [(.ref b5), (.long ((rr ((l1.toInt32) : Int32).toNatClampNeg))), (.int ((cc ((l0.toInt32) : Int32).toNatClampNeg))), (.long ((rr ((l0.toInt32) : Int32).toNatClampNeg)))])) _
    refine XS.iload X154.here hx rfl (hb hby at_426) rfl ?_
    show Steps p.tables e below (T154.setTop (mkF m 428 #[.val (.long q0), .second, .val (.long q1), .second, .val (.long q2), .second, .val (.int p3), .val (.int p4), .val (.int p5), .val (.ref b1), .val (.ref b5), .val (.ref b71), .val (.int ((100 + l0).toInt32)), .val (.int ((100 + l1).toInt32)), .val (.int ((100 + l2).toInt32)), .val (.int ((100 + l3).toInt32)), .val (.int ((100 + l4).toInt32)), .val (.int ((f10_12 ((0 : Nat).toInt32)) &&& 1)), .val (.int (l0.toInt32)), .val (.int (l1.toInt32)), .val (.int (l2.toInt32)), .val (.int (l3.toInt32)), .val (.int (l4.toInt32)), .val (.int ((((((1 : Int32) <<< ((l0.toInt32) &&& 31)) ||| ((1 : Int32) <<< ((l1.toInt32) &&& 31))) ||| ((1 : Int32) <<< ((l2.toInt32) &&& 31))) ||| ((1 : Int32) <<< ((l3.toInt32) &&& 31))) ||| ((1 : Int32) <<< ((l4.toInt32) &&& 31))))] [(.int (l1.toInt32)), (.ref b5), (.long ((rr ((l1.toInt32) : Int32).toNatClampNeg))), (.int ((cc ((l0.toInt32) : Int32).toNatClampNeg))), (.long ((rr ((l0.toInt32) : Int32).toNatClampNeg)))])) _
    refine X154.iaload hx (j := (l1.toInt32)) (v := (.int ((cc ((l1.toInt32) : Int32).toNatClampNeg)))) (by rw [hh154]; exact Ar171.1) (State.isArrayOf_alike hZ.alike Ar171.2.1) Ar171.2.2 (own_in Sz171 hi172) hl172 (g := (mkF m 428 #[.val (.long q0), .second, .val (.long q1), .second, .val (.long q2), .second, .val (.int p3), .val (.int p4), .val (.int p5), .val (.ref b1), .val (.ref b5), .val (.ref b71), .val (.int ((100 + l0).toInt32)), .val (.int ((100 + l1).toInt32)), .val (.int ((100 + l2).toInt32)), .val (.int ((100 + l3).toInt32)), .val (.int ((100 + l4).toInt32)), .val (.int ((f10_12 ((0 : Nat).toInt32)) &&& 1)), .val (.int (l0.toInt32)), .val (.int (l1.toInt32)), .val (.int (l2.toInt32)), .val (.int (l3.toInt32)), .val (.int (l4.toInt32)), .val (.int ((((((1 : Int32) <<< ((l0.toInt32) &&& 31)) ||| ((1 : Int32) <<< ((l1.toInt32) &&& 31))) ||| ((1 : Int32) <<< ((l2.toInt32) &&& 31))) ||| ((1 : Int32) <<< ((l3.toInt32) &&& 31))) ||| ((1 : Int32) <<< ((l4.toInt32) &&& 31))))] [(.int (l1.toInt32)), (.ref b5), (.long ((rr ((l1.toInt32) : Int32).toNatClampNeg))), (.int ((cc ((l0.toInt32) : Int32).toNatClampNeg))), (.long ((rr ((l0.toInt32) : Int32).toNatClampNeg)))])) rfl rfl (hb hby at_428) _ ?_
    show Steps p.tables e below (T154.setTop (mkF m 429 #[.val (.long q0), .second, .val (.long q1), .second, .val (.long q2), .second, .val (.int p3), .val (.int p4), .val (.int p5), .val (.ref b1), .val (.ref b5), .val (.ref b71), .val (.int ((100 + l0).toInt32)), .val (.int ((100 + l1).toInt32)), .val (.int ((100 + l2).toInt32)), .val (.int ((100 + l3).toInt32)), .val (.int ((100 + l4).toInt32)), .val (.int ((f10_12 ((0 : Nat).toInt32)) &&& 1)), .val (.int (l0.toInt32)), .val (.int (l1.toInt32)), .val (.int (l2.toInt32)), .val (.int (l3.toInt32)), .val (.int (l4.toInt32)), .val (.int ((((((1 : Int32) <<< ((l0.toInt32) &&& 31)) ||| ((1 : Int32) <<< ((l1.toInt32) &&& 31))) ||| ((1 : Int32) <<< ((l2.toInt32) &&& 31))) ||| ((1 : Int32) <<< ((l3.toInt32) &&& 31))) ||| ((1 : Int32) <<< ((l4.toInt32) &&& 31))))] [(.int ((cc ((l1.toInt32) : Int32).toNatClampNeg))), (.long ((rr ((l1.toInt32) : Int32).toNatClampNeg))), (.int ((cc ((l0.toInt32) : Int32).toNatClampNeg))), (.long ((rr ((l0.toInt32) : Int32).toNatClampNeg)))])) _
    refine st173 _ ?_
    show Steps p.tables e below (T173.setTop (mkF m 432 #[.val (.long q0), .second, .val (.long q1), .second, .val (.long q2), .second, .val (.int p3), .val (.int p4), .val (.int p5), .val (.ref b1), .val (.ref b5), .val (.ref b71), .val (.int ((100 + l0).toInt32)), .val (.int ((100 + l1).toInt32)), .val (.int ((100 + l2).toInt32)), .val (.int ((100 + l3).toInt32)), .val (.int ((100 + l4).toInt32)), .val (.int ((f10_12 ((0 : Nat).toInt32)) &&& 1)), .val (.int (l0.toInt32)), .val (.int (l1.toInt32)), .val (.int (l2.toInt32)), .val (.int (l3.toInt32)), .val (.int (l4.toInt32)), .val (.int ((((((1 : Int32) <<< ((l0.toInt32) &&& 31)) ||| ((1 : Int32) <<< ((l1.toInt32) &&& 31))) ||| ((1 : Int32) <<< ((l2.toInt32) &&& 31))) ||| ((1 : Int32) <<< ((l3.toInt32) &&& 31))) ||| ((1 : Int32) <<< ((l4.toInt32) &&& 31))))] [(.int (f12_ret ((rr ((l0.toInt32) : Int32).toNatClampNeg)) ((cc ((l0.toInt32) : Int32).toNatClampNeg)) ((rr ((l1.toInt32) : Int32).toNatClampNeg)) ((cc ((l1.toInt32) : Int32).toNatClampNeg))))])) _
    refine XS.ifNo X173.here hx rfl (hb hby at_432) rfl ((if0 _ _).trans (feq (show ¬ ((f12_ret ((rr ((l0.toInt32) : Int32).toNatClampNeg)) ((cc ((l0.toInt32) : Int32).toNatClampNeg)) ((rr ((l1.toInt32) : Int32).toNatClampNeg)) ((cc ((l1.toInt32) : Int32).toNatClampNeg))) = (0 : Int32)) from by rw [own_tn (show l0 < 2147483648 by omega), own_tn (show l1 < 2147483648 by omega)]; exact own_nb hn0)).1) ?_
    show Steps p.tables e below (T173.setTop (mkF m 435 #[.val (.long q0), .second, .val (.long q1), .second, .val (.long q2), .second, .val (.int p3), .val (.int p4), .val (.int p5), .val (.ref b1), .val (.ref b5), .val (.ref b71), .val (.int ((100 + l0).toInt32)), .val (.int ((100 + l1).toInt32)), .val (.int ((100 + l2).toInt32)), .val (.int ((100 + l3).toInt32)), .val (.int ((100 + l4).toInt32)), .val (.int ((f10_12 ((0 : Nat).toInt32)) &&& 1)), .val (.int (l0.toInt32)), .val (.int (l1.toInt32)), .val (.int (l2.toInt32)), .val (.int (l3.toInt32)), .val (.int (l4.toInt32)), .val (.int ((((((1 : Int32) <<< ((l0.toInt32) &&& 31)) ||| ((1 : Int32) <<< ((l1.toInt32) &&& 31))) ||| ((1 : Int32) <<< ((l2.toInt32) &&& 31))) ||| ((1 : Int32) <<< ((l3.toInt32) &&& 31))) ||| ((1 : Int32) <<< ((l4.toInt32) &&& 31))))] [])) _
    refine XS.aload X173.here hx rfl (hb hby at_435) rfl rfl ?_
    show Steps p.tables e below (T173.setTop (mkF m 437 #[.val (.long q0), .second, .val (.long q1), .second, .val (.long q2), .second, .val (.int p3), .val (.int p4), .val (.int p5), .val (.ref b1), .val (.ref b5), .val (.ref b71), .val (.int ((100 + l0).toInt32)), .val (.int ((100 + l1).toInt32)), .val (.int ((100 + l2).toInt32)), .val (.int ((100 + l3).toInt32)), .val (.int ((100 + l4).toInt32)), .val (.int ((f10_12 ((0 : Nat).toInt32)) &&& 1)), .val (.int (l0.toInt32)), .val (.int (l1.toInt32)), .val (.int (l2.toInt32)), .val (.int (l3.toInt32)), .val (.int (l4.toInt32)), .val (.int ((((((1 : Int32) <<< ((l0.toInt32) &&& 31)) ||| ((1 : Int32) <<< ((l1.toInt32) &&& 31))) ||| ((1 : Int32) <<< ((l2.toInt32) &&& 31))) ||| ((1 : Int32) <<< ((l3.toInt32) &&& 31))) ||| ((1 : Int32) <<< ((l4.toInt32) &&& 31))))] [(.ref b1)])) _
    refine XS.iload X173.here hx rfl (hb hby at_437) rfl ?_
    show Steps p.tables e below (T173.setTop (mkF m 439 #[.val (.long q0), .second, .val (.long q1), .second, .val (.long q2), .second, .val (.int p3), .val (.int p4), .val (.int p5), .val (.ref b1), .val (.ref b5), .val (.ref b71), .val (.int ((100 + l0).toInt32)), .val (.int ((100 + l1).toInt32)), .val (.int ((100 + l2).toInt32)), .val (.int ((100 + l3).toInt32)), .val (.int ((100 + l4).toInt32)), .val (.int ((f10_12 ((0 : Nat).toInt32)) &&& 1)), .val (.int (l0.toInt32)), .val (.int (l1.toInt32)), .val (.int (l2.toInt32)), .val (.int (l3.toInt32)), .val (.int (l4.toInt32)), .val (.int ((((((1 : Int32) <<< ((l0.toInt32) &&& 31)) ||| ((1 : Int32) <<< ((l1.toInt32) &&& 31))) ||| ((1 : Int32) <<< ((l2.toInt32) &&& 31))) ||| ((1 : Int32) <<< ((l3.toInt32) &&& 31))) ||| ((1 : Int32) <<< ((l4.toInt32) &&& 31))))] [(.int (l1.toInt32)), (.ref b1)])) _
    refine X173.laload hx (j := (l1.toInt32)) (v := (.long ((rr ((l1.toInt32) : Int32).toNatClampNeg)))) (by rw [hh173]; exact Ar174.1) (State.isArrayOf_alike hZ.alike Ar174.2.1) Ar174.2.2 (own_in Sz174 hi175) hl175 (g := (mkF m 439 #[.val (.long q0), .second, .val (.long q1), .second, .val (.long q2), .second, .val (.int p3), .val (.int p4), .val (.int p5), .val (.ref b1), .val (.ref b5), .val (.ref b71), .val (.int ((100 + l0).toInt32)), .val (.int ((100 + l1).toInt32)), .val (.int ((100 + l2).toInt32)), .val (.int ((100 + l3).toInt32)), .val (.int ((100 + l4).toInt32)), .val (.int ((f10_12 ((0 : Nat).toInt32)) &&& 1)), .val (.int (l0.toInt32)), .val (.int (l1.toInt32)), .val (.int (l2.toInt32)), .val (.int (l3.toInt32)), .val (.int (l4.toInt32)), .val (.int ((((((1 : Int32) <<< ((l0.toInt32) &&& 31)) ||| ((1 : Int32) <<< ((l1.toInt32) &&& 31))) ||| ((1 : Int32) <<< ((l2.toInt32) &&& 31))) ||| ((1 : Int32) <<< ((l3.toInt32) &&& 31))) ||| ((1 : Int32) <<< ((l4.toInt32) &&& 31))))] [(.int (l1.toInt32)), (.ref b1)])) rfl rfl (hb hby at_439) _ ?_
    show Steps p.tables e below (T173.setTop (mkF m 440 #[.val (.long q0), .second, .val (.long q1), .second, .val (.long q2), .second, .val (.int p3), .val (.int p4), .val (.int p5), .val (.ref b1), .val (.ref b5), .val (.ref b71), .val (.int ((100 + l0).toInt32)), .val (.int ((100 + l1).toInt32)), .val (.int ((100 + l2).toInt32)), .val (.int ((100 + l3).toInt32)), .val (.int ((100 + l4).toInt32)), .val (.int ((f10_12 ((0 : Nat).toInt32)) &&& 1)), .val (.int (l0.toInt32)), .val (.int (l1.toInt32)), .val (.int (l2.toInt32)), .val (.int (l3.toInt32)), .val (.int (l4.toInt32)), .val (.int ((((((1 : Int32) <<< ((l0.toInt32) &&& 31)) ||| ((1 : Int32) <<< ((l1.toInt32) &&& 31))) ||| ((1 : Int32) <<< ((l2.toInt32) &&& 31))) ||| ((1 : Int32) <<< ((l3.toInt32) &&& 31))) ||| ((1 : Int32) <<< ((l4.toInt32) &&& 31))))] [(.long ((rr ((l1.toInt32) : Int32).toNatClampNeg)))])) _
    refine XS.aload X173.here hx rfl (hb hby at_440) rfl rfl ?_
    show Steps p.tables e below (T173.setTop (mkF m 442 #[.val (.long q0), .second, .val (.long q1), .second, .val (.long q2), .second, .val (.int p3), .val (.int p4), .val (.int p5), .val (.ref b1), .val (.ref b5), .val (.ref b71), .val (.int ((100 + l0).toInt32)), .val (.int ((100 + l1).toInt32)), .val (.int ((100 + l2).toInt32)), .val (.int ((100 + l3).toInt32)), .val (.int ((100 + l4).toInt32)), .val (.int ((f10_12 ((0 : Nat).toInt32)) &&& 1)), .val (.int (l0.toInt32)), .val (.int (l1.toInt32)), .val (.int (l2.toInt32)), .val (.int (l3.toInt32)), .val (.int (l4.toInt32)), .val (.int ((((((1 : Int32) <<< ((l0.toInt32) &&& 31)) ||| ((1 : Int32) <<< ((l1.toInt32) &&& 31))) ||| ((1 : Int32) <<< ((l2.toInt32) &&& 31))) ||| ((1 : Int32) <<< ((l3.toInt32) &&& 31))) ||| ((1 : Int32) <<< ((l4.toInt32) &&& 31))))] [(.ref b5), (.long ((rr ((l1.toInt32) : Int32).toNatClampNeg)))])) _
    refine XS.iload X173.here hx rfl (hb hby at_442) rfl ?_
    show Steps p.tables e below (T173.setTop (mkF m 444 #[.val (.long q0), .second, .val (.long q1), .second, .val (.long q2), .second, .val (.int p3), .val (.int p4), .val (.int p5), .val (.ref b1), .val (.ref b5), .val (.ref b71), .val (.int ((100 + l0).toInt32)), .val (.int ((100 + l1).toInt32)), .val (.int ((100 + l2).toInt32)), .val (.int ((100 + l3).toInt32)), .val (.int ((100 + l4).toInt32)), .val (.int ((f10_12 ((0 : Nat).toInt32)) &&& 1)), .val (.int (l0.toInt32)), .val (.int (l1.toInt32)), .val (.int (l2.toInt32)), .val (.int (l3.toInt32)), .val (.int (l4.toInt32)), .val (.int ((((((1 : Int32) <<< ((l0.toInt32) &&& 31)) ||| ((1 : Int32) <<< ((l1.toInt32) &&& 31))) ||| ((1 : Int32) <<< ((l2.toInt32) &&& 31))) ||| ((1 : Int32) <<< ((l3.toInt32) &&& 31))) ||| ((1 : Int32) <<< ((l4.toInt32) &&& 31))))] [(.int (l1.toInt32)), (.ref b5), (.long ((rr ((l1.toInt32) : Int32).toNatClampNeg)))])) _
    refine X173.iaload hx (j := (l1.toInt32)) (v := (.int ((cc ((l1.toInt32) : Int32).toNatClampNeg)))) (by rw [hh173]; exact Ar176.1) (State.isArrayOf_alike hZ.alike Ar176.2.1) Ar176.2.2 (own_in Sz176 hi177) hl177 (g := (mkF m 444 #[.val (.long q0), .second, .val (.long q1), .second, .val (.long q2), .second, .val (.int p3), .val (.int p4), .val (.int p5), .val (.ref b1), .val (.ref b5), .val (.ref b71), .val (.int ((100 + l0).toInt32)), .val (.int ((100 + l1).toInt32)), .val (.int ((100 + l2).toInt32)), .val (.int ((100 + l3).toInt32)), .val (.int ((100 + l4).toInt32)), .val (.int ((f10_12 ((0 : Nat).toInt32)) &&& 1)), .val (.int (l0.toInt32)), .val (.int (l1.toInt32)), .val (.int (l2.toInt32)), .val (.int (l3.toInt32)), .val (.int (l4.toInt32)), .val (.int ((((((1 : Int32) <<< ((l0.toInt32) &&& 31)) ||| ((1 : Int32) <<< ((l1.toInt32) &&& 31))) ||| ((1 : Int32) <<< ((l2.toInt32) &&& 31))) ||| ((1 : Int32) <<< ((l3.toInt32) &&& 31))) ||| ((1 : Int32) <<< ((l4.toInt32) &&& 31))))] [(.int (l1.toInt32)), (.ref b5), (.long ((rr ((l1.toInt32) : Int32).toNatClampNeg)))])) rfl rfl (hb hby at_444) _ ?_
    show Steps p.tables e below (T173.setTop (mkF m 445 #[.val (.long q0), .second, .val (.long q1), .second, .val (.long q2), .second, .val (.int p3), .val (.int p4), .val (.int p5), .val (.ref b1), .val (.ref b5), .val (.ref b71), .val (.int ((100 + l0).toInt32)), .val (.int ((100 + l1).toInt32)), .val (.int ((100 + l2).toInt32)), .val (.int ((100 + l3).toInt32)), .val (.int ((100 + l4).toInt32)), .val (.int ((f10_12 ((0 : Nat).toInt32)) &&& 1)), .val (.int (l0.toInt32)), .val (.int (l1.toInt32)), .val (.int (l2.toInt32)), .val (.int (l3.toInt32)), .val (.int (l4.toInt32)), .val (.int ((((((1 : Int32) <<< ((l0.toInt32) &&& 31)) ||| ((1 : Int32) <<< ((l1.toInt32) &&& 31))) ||| ((1 : Int32) <<< ((l2.toInt32) &&& 31))) ||| ((1 : Int32) <<< ((l3.toInt32) &&& 31))) ||| ((1 : Int32) <<< ((l4.toInt32) &&& 31))))] [(.int ((cc ((l1.toInt32) : Int32).toNatClampNeg))), (.long ((rr ((l1.toInt32) : Int32).toNatClampNeg)))])) _
    refine XS.aload X173.here hx rfl (hb hby at_445) rfl rfl ?_
    show Steps p.tables e below (T173.setTop (mkF m 447 #[.val (.long q0), .second, .val (.long q1), .second, .val (.long q2), .second, .val (.int p3), .val (.int p4), .val (.int p5), .val (.ref b1), .val (.ref b5), .val (.ref b71), .val (.int ((100 + l0).toInt32)), .val (.int ((100 + l1).toInt32)), .val (.int ((100 + l2).toInt32)), .val (.int ((100 + l3).toInt32)), .val (.int ((100 + l4).toInt32)), .val (.int ((f10_12 ((0 : Nat).toInt32)) &&& 1)), .val (.int (l0.toInt32)), .val (.int (l1.toInt32)), .val (.int (l2.toInt32)), .val (.int (l3.toInt32)), .val (.int (l4.toInt32)), .val (.int ((((((1 : Int32) <<< ((l0.toInt32) &&& 31)) ||| ((1 : Int32) <<< ((l1.toInt32) &&& 31))) ||| ((1 : Int32) <<< ((l2.toInt32) &&& 31))) ||| ((1 : Int32) <<< ((l3.toInt32) &&& 31))) ||| ((1 : Int32) <<< ((l4.toInt32) &&& 31))))] [(.ref b1), (.int ((cc ((l1.toInt32) : Int32).toNatClampNeg))), (.long ((rr ((l1.toInt32) : Int32).toNatClampNeg)))])) _
    refine XS.iload X173.here hx rfl (hb hby at_447) rfl ?_
    show Steps p.tables e below (T173.setTop (mkF m 449 #[.val (.long q0), .second, .val (.long q1), .second, .val (.long q2), .second, .val (.int p3), .val (.int p4), .val (.int p5), .val (.ref b1), .val (.ref b5), .val (.ref b71), .val (.int ((100 + l0).toInt32)), .val (.int ((100 + l1).toInt32)), .val (.int ((100 + l2).toInt32)), .val (.int ((100 + l3).toInt32)), .val (.int ((100 + l4).toInt32)), .val (.int ((f10_12 ((0 : Nat).toInt32)) &&& 1)), .val (.int (l0.toInt32)), .val (.int (l1.toInt32)), .val (.int (l2.toInt32)), .val (.int (l3.toInt32)), .val (.int (l4.toInt32)), .val (.int ((((((1 : Int32) <<< ((l0.toInt32) &&& 31)) ||| ((1 : Int32) <<< ((l1.toInt32) &&& 31))) ||| ((1 : Int32) <<< ((l2.toInt32) &&& 31))) ||| ((1 : Int32) <<< ((l3.toInt32) &&& 31))) ||| ((1 : Int32) <<< ((l4.toInt32) &&& 31))))] [(.int (l2.toInt32)), (.ref b1), (.int ((cc ((l1.toInt32) : Int32).toNatClampNeg))), (.long ((rr ((l1.toInt32) : Int32).toNatClampNeg)))])) _
    refine X173.laload hx (j := (l2.toInt32)) (v := (.long ((rr ((l2.toInt32) : Int32).toNatClampNeg)))) (by rw [hh173]; exact Ar178.1) (State.isArrayOf_alike hZ.alike Ar178.2.1) Ar178.2.2 (own_in Sz178 hi179) hl179 (g := (mkF m 449 #[.val (.long q0), .second, .val (.long q1), .second, .val (.long q2), .second, .val (.int p3), .val (.int p4), .val (.int p5), .val (.ref b1), .val (.ref b5), .val (.ref b71), .val (.int ((100 + l0).toInt32)), .val (.int ((100 + l1).toInt32)), .val (.int ((100 + l2).toInt32)), .val (.int ((100 + l3).toInt32)), .val (.int ((100 + l4).toInt32)), .val (.int ((f10_12 ((0 : Nat).toInt32)) &&& 1)), .val (.int (l0.toInt32)), .val (.int (l1.toInt32)), .val (.int (l2.toInt32)), .val (.int (l3.toInt32)), .val (.int (l4.toInt32)), .val (.int ((((((1 : Int32) <<< ((l0.toInt32) &&& 31)) ||| ((1 : Int32) <<< ((l1.toInt32) &&& 31))) ||| ((1 : Int32) <<< ((l2.toInt32) &&& 31))) ||| ((1 : Int32) <<< ((l3.toInt32) &&& 31))) ||| ((1 : Int32) <<< ((l4.toInt32) &&& 31))))] [(.int (l2.toInt32)), (.ref b1), (.int ((cc ((l1.toInt32) : Int32).toNatClampNeg))), (.long ((rr ((l1.toInt32) : Int32).toNatClampNeg)))])) rfl rfl (hb hby at_449) _ ?_
    show Steps p.tables e below (T173.setTop (mkF m 450 #[.val (.long q0), .second, .val (.long q1), .second, .val (.long q2), .second, .val (.int p3), .val (.int p4), .val (.int p5), .val (.ref b1), .val (.ref b5), .val (.ref b71), .val (.int ((100 + l0).toInt32)), .val (.int ((100 + l1).toInt32)), .val (.int ((100 + l2).toInt32)), .val (.int ((100 + l3).toInt32)), .val (.int ((100 + l4).toInt32)), .val (.int ((f10_12 ((0 : Nat).toInt32)) &&& 1)), .val (.int (l0.toInt32)), .val (.int (l1.toInt32)), .val (.int (l2.toInt32)), .val (.int (l3.toInt32)), .val (.int (l4.toInt32)), .val (.int ((((((1 : Int32) <<< ((l0.toInt32) &&& 31)) ||| ((1 : Int32) <<< ((l1.toInt32) &&& 31))) ||| ((1 : Int32) <<< ((l2.toInt32) &&& 31))) ||| ((1 : Int32) <<< ((l3.toInt32) &&& 31))) ||| ((1 : Int32) <<< ((l4.toInt32) &&& 31))))] [(.long ((rr ((l2.toInt32) : Int32).toNatClampNeg))), (.int ((cc ((l1.toInt32) : Int32).toNatClampNeg))), (.long ((rr ((l1.toInt32) : Int32).toNatClampNeg)))])) _
    refine XS.aload X173.here hx rfl (hb hby at_450) rfl rfl ?_
    show Steps p.tables e below (T173.setTop (mkF m 452 #[.val (.long q0), .second, .val (.long q1), .second, .val (.long q2), .second, .val (.int p3), .val (.int p4), .val (.int p5), .val (.ref b1), .val (.ref b5), .val (.ref b71), .val (.int ((100 + l0).toInt32)), .val (.int ((100 + l1).toInt32)), .val (.int ((100 + l2).toInt32)), .val (.int ((100 + l3).toInt32)), .val (.int ((100 + l4).toInt32)), .val (.int ((f10_12 ((0 : Nat).toInt32)) &&& 1)), .val (.int (l0.toInt32)), .val (.int (l1.toInt32)), .val (.int (l2.toInt32)), .val (.int (l3.toInt32)), .val (.int (l4.toInt32)), .val (.int ((((((1 : Int32) <<< ((l0.toInt32) &&& 31)) ||| ((1 : Int32) <<< ((l1.toInt32) &&& 31))) ||| ((1 : Int32) <<< ((l2.toInt32) &&& 31))) ||| ((1 : Int32) <<< ((l3.toInt32) &&& 31))) ||| ((1 : Int32) <<< ((l4.toInt32) &&& 31))))] [(.ref b5), (.long ((rr ((l2.toInt32) : Int32).toNatClampNeg))), (.int ((cc ((l1.toInt32) : Int32).toNatClampNeg))), (.long ((rr ((l1.toInt32) : Int32).toNatClampNeg)))])) _
    refine XS.iload X173.here hx rfl (hb hby at_452) rfl ?_
    show Steps p.tables e below (T173.setTop (mkF m 454 #[.val (.long q0), .second, .val (.long q1), .second, .val (.long q2), .second, .val (.int p3), .val (.int p4), .val (.int p5), .val (.ref b1), .val (.ref b5), .val (.ref b71), .val (.int ((100 + l0).toInt32)), .val (.int ((100 + l1).toInt32)), .val (.int ((100 + l2).toInt32)), .val (.int ((100 + l3).toInt32)), .val (.int ((100 + l4).toInt32)), .val (.int ((f10_12 ((0 : Nat).toInt32)) &&& 1)), .val (.int (l0.toInt32)), .val (.int (l1.toInt32)), .val (.int (l2.toInt32)), .val (.int (l3.toInt32)), .val (.int (l4.toInt32)), .val (.int ((((((1 : Int32) <<< ((l0.toInt32) &&& 31)) ||| ((1 : Int32) <<< ((l1.toInt32) &&& 31))) ||| ((1 : Int32) <<< ((l2.toInt32) &&& 31))) ||| ((1 : Int32) <<< ((l3.toInt32) &&& 31))) ||| ((1 : Int32) <<< ((l4.toInt32) &&& 31))))] [(.int (l2.toInt32)), (.ref b5), (.long ((rr ((l2.toInt32) : Int32).toNatClampNeg))), (.int ((cc ((l1.toInt32) : Int32).toNatClampNeg))), (.long ((rr ((l1.toInt32) : Int32).toNatClampNeg)))])) _
    refine X173.iaload hx (j := (l2.toInt32)) (v := (.int ((cc ((l2.toInt32) : Int32).toNatClampNeg)))) (by rw [hh173]; exact Ar180.1) (State.isArrayOf_alike hZ.alike Ar180.2.1) Ar180.2.2 (own_in Sz180 hi181) hl181 (g := (mkF m 454 #[.val (.long q0), .second, .val (.long q1), .second, .val (.long q2), .second, .val (.int p3), .val (.int p4), .val (.int p5), .val (.ref b1), .val (.ref b5), .val (.ref b71), .val (.int ((100 + l0).toInt32)), .val (.int ((100 + l1).toInt32)), .val (.int ((100 + l2).toInt32)), .val (.int ((100 + l3).toInt32)), .val (.int ((100 + l4).toInt32)), .val (.int ((f10_12 ((0 : Nat).toInt32)) &&& 1)), .val (.int (l0.toInt32)), .val (.int (l1.toInt32)), .val (.int (l2.toInt32)), .val (.int (l3.toInt32)), .val (.int (l4.toInt32)), .val (.int ((((((1 : Int32) <<< ((l0.toInt32) &&& 31)) ||| ((1 : Int32) <<< ((l1.toInt32) &&& 31))) ||| ((1 : Int32) <<< ((l2.toInt32) &&& 31))) ||| ((1 : Int32) <<< ((l3.toInt32) &&& 31))) ||| ((1 : Int32) <<< ((l4.toInt32) &&& 31))))] [(.int (l2.toInt32)), (.ref b5), (.long ((rr ((l2.toInt32) : Int32).toNatClampNeg))), (.int ((cc ((l1.toInt32) : Int32).toNatClampNeg))), (.long ((rr ((l1.toInt32) : Int32).toNatClampNeg)))])) rfl rfl (hb hby at_454) _ ?_
    show Steps p.tables e below (T173.setTop (mkF m 455 #[.val (.long q0), .second, .val (.long q1), .second, .val (.long q2), .second, .val (.int p3), .val (.int p4), .val (.int p5), .val (.ref b1), .val (.ref b5), .val (.ref b71), .val (.int ((100 + l0).toInt32)), .val (.int ((100 + l1).toInt32)), .val (.int ((100 + l2).toInt32)), .val (.int ((100 + l3).toInt32)), .val (.int ((100 + l4).toInt32)), .val (.int ((f10_12 ((0 : Nat).toInt32)) &&& 1)), .val (.int (l0.toInt32)), .val (.int (l1.toInt32)), .val (.int (l2.toInt32)), .val (.int (l3.toInt32)), .val (.int (l4.toInt32)), .val (.int ((((((1 : Int32) <<< ((l0.toInt32) &&& 31)) ||| ((1 : Int32) <<< ((l1.toInt32) &&& 31))) ||| ((1 : Int32) <<< ((l2.toInt32) &&& 31))) ||| ((1 : Int32) <<< ((l3.toInt32) &&& 31))) ||| ((1 : Int32) <<< ((l4.toInt32) &&& 31))))] [(.int ((cc ((l2.toInt32) : Int32).toNatClampNeg))), (.long ((rr ((l2.toInt32) : Int32).toNatClampNeg))), (.int ((cc ((l1.toInt32) : Int32).toNatClampNeg))), (.long ((rr ((l1.toInt32) : Int32).toNatClampNeg)))])) _
    refine st182 _ ?_
    show Steps p.tables e below (T182.setTop (mkF m 458 #[.val (.long q0), .second, .val (.long q1), .second, .val (.long q2), .second, .val (.int p3), .val (.int p4), .val (.int p5), .val (.ref b1), .val (.ref b5), .val (.ref b71), .val (.int ((100 + l0).toInt32)), .val (.int ((100 + l1).toInt32)), .val (.int ((100 + l2).toInt32)), .val (.int ((100 + l3).toInt32)), .val (.int ((100 + l4).toInt32)), .val (.int ((f10_12 ((0 : Nat).toInt32)) &&& 1)), .val (.int (l0.toInt32)), .val (.int (l1.toInt32)), .val (.int (l2.toInt32)), .val (.int (l3.toInt32)), .val (.int (l4.toInt32)), .val (.int ((((((1 : Int32) <<< ((l0.toInt32) &&& 31)) ||| ((1 : Int32) <<< ((l1.toInt32) &&& 31))) ||| ((1 : Int32) <<< ((l2.toInt32) &&& 31))) ||| ((1 : Int32) <<< ((l3.toInt32) &&& 31))) ||| ((1 : Int32) <<< ((l4.toInt32) &&& 31))))] [(.int (f12_ret ((rr ((l1.toInt32) : Int32).toNatClampNeg)) ((cc ((l1.toInt32) : Int32).toNatClampNeg)) ((rr ((l2.toInt32) : Int32).toNatClampNeg)) ((cc ((l2.toInt32) : Int32).toNatClampNeg))))])) _
    refine XS.ifNo X182.here hx rfl (hb hby at_458) rfl ((if0 _ _).trans (feq (show ¬ ((f12_ret ((rr ((l1.toInt32) : Int32).toNatClampNeg)) ((cc ((l1.toInt32) : Int32).toNatClampNeg)) ((rr ((l2.toInt32) : Int32).toNatClampNeg)) ((cc ((l2.toInt32) : Int32).toNatClampNeg))) = (0 : Int32)) from by rw [own_tn (show l1 < 2147483648 by omega), own_tn (show l2 < 2147483648 by omega)]; exact own_nb hn1)).1) ?_
    show Steps p.tables e below (T182.setTop (mkF m 461 #[.val (.long q0), .second, .val (.long q1), .second, .val (.long q2), .second, .val (.int p3), .val (.int p4), .val (.int p5), .val (.ref b1), .val (.ref b5), .val (.ref b71), .val (.int ((100 + l0).toInt32)), .val (.int ((100 + l1).toInt32)), .val (.int ((100 + l2).toInt32)), .val (.int ((100 + l3).toInt32)), .val (.int ((100 + l4).toInt32)), .val (.int ((f10_12 ((0 : Nat).toInt32)) &&& 1)), .val (.int (l0.toInt32)), .val (.int (l1.toInt32)), .val (.int (l2.toInt32)), .val (.int (l3.toInt32)), .val (.int (l4.toInt32)), .val (.int ((((((1 : Int32) <<< ((l0.toInt32) &&& 31)) ||| ((1 : Int32) <<< ((l1.toInt32) &&& 31))) ||| ((1 : Int32) <<< ((l2.toInt32) &&& 31))) ||| ((1 : Int32) <<< ((l3.toInt32) &&& 31))) ||| ((1 : Int32) <<< ((l4.toInt32) &&& 31))))] [])) _
    refine XS.aload X182.here hx rfl (hb hby at_461) rfl rfl ?_
    show Steps p.tables e below (T182.setTop (mkF m 463 #[.val (.long q0), .second, .val (.long q1), .second, .val (.long q2), .second, .val (.int p3), .val (.int p4), .val (.int p5), .val (.ref b1), .val (.ref b5), .val (.ref b71), .val (.int ((100 + l0).toInt32)), .val (.int ((100 + l1).toInt32)), .val (.int ((100 + l2).toInt32)), .val (.int ((100 + l3).toInt32)), .val (.int ((100 + l4).toInt32)), .val (.int ((f10_12 ((0 : Nat).toInt32)) &&& 1)), .val (.int (l0.toInt32)), .val (.int (l1.toInt32)), .val (.int (l2.toInt32)), .val (.int (l3.toInt32)), .val (.int (l4.toInt32)), .val (.int ((((((1 : Int32) <<< ((l0.toInt32) &&& 31)) ||| ((1 : Int32) <<< ((l1.toInt32) &&& 31))) ||| ((1 : Int32) <<< ((l2.toInt32) &&& 31))) ||| ((1 : Int32) <<< ((l3.toInt32) &&& 31))) ||| ((1 : Int32) <<< ((l4.toInt32) &&& 31))))] [(.ref b1)])) _
    refine XS.iload X182.here hx rfl (hb hby at_463) rfl ?_
    show Steps p.tables e below (T182.setTop (mkF m 465 #[.val (.long q0), .second, .val (.long q1), .second, .val (.long q2), .second, .val (.int p3), .val (.int p4), .val (.int p5), .val (.ref b1), .val (.ref b5), .val (.ref b71), .val (.int ((100 + l0).toInt32)), .val (.int ((100 + l1).toInt32)), .val (.int ((100 + l2).toInt32)), .val (.int ((100 + l3).toInt32)), .val (.int ((100 + l4).toInt32)), .val (.int ((f10_12 ((0 : Nat).toInt32)) &&& 1)), .val (.int (l0.toInt32)), .val (.int (l1.toInt32)), .val (.int (l2.toInt32)), .val (.int (l3.toInt32)), .val (.int (l4.toInt32)), .val (.int ((((((1 : Int32) <<< ((l0.toInt32) &&& 31)) ||| ((1 : Int32) <<< ((l1.toInt32) &&& 31))) ||| ((1 : Int32) <<< ((l2.toInt32) &&& 31))) ||| ((1 : Int32) <<< ((l3.toInt32) &&& 31))) ||| ((1 : Int32) <<< ((l4.toInt32) &&& 31))))] [(.int (l2.toInt32)), (.ref b1)])) _
    refine X182.laload hx (j := (l2.toInt32)) (v := (.long ((rr ((l2.toInt32) : Int32).toNatClampNeg)))) (by rw [hh182]; exact Ar183.1) (State.isArrayOf_alike hZ.alike Ar183.2.1) Ar183.2.2 (own_in Sz183 hi184) hl184 (g := (mkF m 465 #[.val (.long q0), .second, .val (.long q1), .second, .val (.long q2), .second, .val (.int p3), .val (.int p4), .val (.int p5), .val (.ref b1), .val (.ref b5), .val (.ref b71), .val (.int ((100 + l0).toInt32)), .val (.int ((100 + l1).toInt32)), .val (.int ((100 + l2).toInt32)), .val (.int ((100 + l3).toInt32)), .val (.int ((100 + l4).toInt32)), .val (.int ((f10_12 ((0 : Nat).toInt32)) &&& 1)), .val (.int (l0.toInt32)), .val (.int (l1.toInt32)), .val (.int (l2.toInt32)), .val (.int (l3.toInt32)), .val (.int (l4.toInt32)), .val (.int ((((((1 : Int32) <<< ((l0.toInt32) &&& 31)) ||| ((1 : Int32) <<< ((l1.toInt32) &&& 31))) ||| ((1 : Int32) <<< ((l2.toInt32) &&& 31))) ||| ((1 : Int32) <<< ((l3.toInt32) &&& 31))) ||| ((1 : Int32) <<< ((l4.toInt32) &&& 31))))] [(.int (l2.toInt32)), (.ref b1)])) rfl rfl (hb hby at_465) _ ?_
    show Steps p.tables e below (T182.setTop (mkF m 466 #[.val (.long q0), .second, .val (.long q1), .second, .val (.long q2), .second, .val (.int p3), .val (.int p4), .val (.int p5), .val (.ref b1), .val (.ref b5), .val (.ref b71), .val (.int ((100 + l0).toInt32)), .val (.int ((100 + l1).toInt32)), .val (.int ((100 + l2).toInt32)), .val (.int ((100 + l3).toInt32)), .val (.int ((100 + l4).toInt32)), .val (.int ((f10_12 ((0 : Nat).toInt32)) &&& 1)), .val (.int (l0.toInt32)), .val (.int (l1.toInt32)), .val (.int (l2.toInt32)), .val (.int (l3.toInt32)), .val (.int (l4.toInt32)), .val (.int ((((((1 : Int32) <<< ((l0.toInt32) &&& 31)) ||| ((1 : Int32) <<< ((l1.toInt32) &&& 31))) ||| ((1 : Int32) <<< ((l2.toInt32) &&& 31))) ||| ((1 : Int32) <<< ((l3.toInt32) &&& 31))) ||| ((1 : Int32) <<< ((l4.toInt32) &&& 31))))] [(.long ((rr ((l2.toInt32) : Int32).toNatClampNeg)))])) _
    refine XS.aload X182.here hx rfl (hb hby at_466) rfl rfl ?_
    show Steps p.tables e below (T182.setTop (mkF m 468 #[.val (.long q0), .second, .val (.long q1), .second, .val (.long q2), .second, .val (.int p3), .val (.int p4), .val (.int p5), .val (.ref b1), .val (.ref b5), .val (.ref b71), .val (.int ((100 + l0).toInt32)), .val (.int ((100 + l1).toInt32)), .val (.int ((100 + l2).toInt32)), .val (.int ((100 + l3).toInt32)), .val (.int ((100 + l4).toInt32)), .val (.int ((f10_12 ((0 : Nat).toInt32)) &&& 1)), .val (.int (l0.toInt32)), .val (.int (l1.toInt32)), .val (.int (l2.toInt32)), .val (.int (l3.toInt32)), .val (.int (l4.toInt32)), .val (.int ((((((1 : Int32) <<< ((l0.toInt32) &&& 31)) ||| ((1 : Int32) <<< ((l1.toInt32) &&& 31))) ||| ((1 : Int32) <<< ((l2.toInt32) &&& 31))) ||| ((1 : Int32) <<< ((l3.toInt32) &&& 31))) ||| ((1 : Int32) <<< ((l4.toInt32) &&& 31))))] [(.ref b5), (.long ((rr ((l2.toInt32) : Int32).toNatClampNeg)))])) _
    refine XS.iload X182.here hx rfl (hb hby at_468) rfl ?_
    show Steps p.tables e below (T182.setTop (mkF m 470 #[.val (.long q0), .second, .val (.long q1), .second, .val (.long q2), .second, .val (.int p3), .val (.int p4), .val (.int p5), .val (.ref b1), .val (.ref b5), .val (.ref b71), .val (.int ((100 + l0).toInt32)), .val (.int ((100 + l1).toInt32)), .val (.int ((100 + l2).toInt32)), .val (.int ((100 + l3).toInt32)), .val (.int ((100 + l4).toInt32)), .val (.int ((f10_12 ((0 : Nat).toInt32)) &&& 1)), .val (.int (l0.toInt32)), .val (.int (l1.toInt32)), .val (.int (l2.toInt32)), .val (.int (l3.toInt32)), .val (.int (l4.toInt32)), .val (.int ((((((1 : Int32) <<< ((l0.toInt32) &&& 31)) ||| ((1 : Int32) <<< ((l1.toInt32) &&& 31))) ||| ((1 : Int32) <<< ((l2.toInt32) &&& 31))) ||| ((1 : Int32) <<< ((l3.toInt32) &&& 31))) ||| ((1 : Int32) <<< ((l4.toInt32) &&& 31))))] [(.int (l2.toInt32)), (.ref b5), (.long ((rr ((l2.toInt32) : Int32).toNatClampNeg)))])) _
    refine X182.iaload hx (j := (l2.toInt32)) (v := (.int ((cc ((l2.toInt32) : Int32).toNatClampNeg)))) (by rw [hh182]; exact Ar185.1) (State.isArrayOf_alike hZ.alike Ar185.2.1) Ar185.2.2 (own_in Sz185 hi186) hl186 (g := (mkF m 470 #[.val (.long q0), .second, .val (.long q1), .second, .val (.long q2), .second, .val (.int p3), .val (.int p4), .val (.int p5), .val (.ref b1), .val (.ref b5), .val (.ref b71), .val (.int ((100 + l0).toInt32)), .val (.int ((100 + l1).toInt32)), .val (.int ((100 + l2).toInt32)), .val (.int ((100 + l3).toInt32)), .val (.int ((100 + l4).toInt32)), .val (.int ((f10_12 ((0 : Nat).toInt32)) &&& 1)), .val (.int (l0.toInt32)), .val (.int (l1.toInt32)), .val (.int (l2.toInt32)), .val (.int (l3.toInt32)), .val (.int (l4.toInt32)), .val (.int ((((((1 : Int32) <<< ((l0.toInt32) &&& 31)) ||| ((1 : Int32) <<< ((l1.toInt32) &&& 31))) ||| ((1 : Int32) <<< ((l2.toInt32) &&& 31))) ||| ((1 : Int32) <<< ((l3.toInt32) &&& 31))) ||| ((1 : Int32) <<< ((l4.toInt32) &&& 31))))] [(.int (l2.toInt32)), (.ref b5), (.long ((rr ((l2.toInt32) : Int32).toNatClampNeg)))])) rfl rfl (hb hby at_470) _ ?_
    show Steps p.tables e below (T182.setTop (mkF m 471 #[.val (.long q0), .second, .val (.long q1), .second, .val (.long q2), .second, .val (.int p3), .val (.int p4), .val (.int p5), .val (.ref b1), .val (.ref b5), .val (.ref b71), .val (.int ((100 + l0).toInt32)), .val (.int ((100 + l1).toInt32)), .val (.int ((100 + l2).toInt32)), .val (.int ((100 + l3).toInt32)), .val (.int ((100 + l4).toInt32)), .val (.int ((f10_12 ((0 : Nat).toInt32)) &&& 1)), .val (.int (l0.toInt32)), .val (.int (l1.toInt32)), .val (.int (l2.toInt32)), .val (.int (l3.toInt32)), .val (.int (l4.toInt32)), .val (.int ((((((1 : Int32) <<< ((l0.toInt32) &&& 31)) ||| ((1 : Int32) <<< ((l1.toInt32) &&& 31))) ||| ((1 : Int32) <<< ((l2.toInt32) &&& 31))) ||| ((1 : Int32) <<< ((l3.toInt32) &&& 31))) ||| ((1 : Int32) <<< ((l4.toInt32) &&& 31))))] [(.int ((cc ((l2.toInt32) : Int32).toNatClampNeg))), (.long ((rr ((l2.toInt32) : Int32).toNatClampNeg)))])) _
    refine XS.aload X182.here hx rfl (hb hby at_471) rfl rfl ?_
    show Steps p.tables e below (T182.setTop (mkF m 473 #[.val (.long q0), .second, .val (.long q1), .second, .val (.long q2), .second, .val (.int p3), .val (.int p4), .val (.int p5), .val (.ref b1), .val (.ref b5), .val (.ref b71), .val (.int ((100 + l0).toInt32)), .val (.int ((100 + l1).toInt32)), .val (.int ((100 + l2).toInt32)), .val (.int ((100 + l3).toInt32)), .val (.int ((100 + l4).toInt32)), .val (.int ((f10_12 ((0 : Nat).toInt32)) &&& 1)), .val (.int (l0.toInt32)), .val (.int (l1.toInt32)), .val (.int (l2.toInt32)), .val (.int (l3.toInt32)), .val (.int (l4.toInt32)), .val (.int ((((((1 : Int32) <<< ((l0.toInt32) &&& 31)) ||| ((1 : Int32) <<< ((l1.toInt32) &&& 31))) ||| ((1 : Int32) <<< ((l2.toInt32) &&& 31))) ||| ((1 : Int32) <<< ((l3.toInt32) &&& 31))) ||| ((1 : Int32) <<< ((l4.toInt32) &&& 31))))] [(.ref b1), (.int ((cc ((l2.toInt32) : Int32).toNatClampNeg))), (.long ((rr ((l2.toInt32) : Int32).toNatClampNeg)))])) _
    refine XS.iload X182.here hx rfl (hb hby at_473) rfl ?_
    show Steps p.tables e below (T182.setTop (mkF m 475 #[.val (.long q0), .second, .val (.long q1), .second, .val (.long q2), .second, .val (.int p3), .val (.int p4), .val (.int p5), .val (.ref b1), .val (.ref b5), .val (.ref b71), .val (.int ((100 + l0).toInt32)), .val (.int ((100 + l1).toInt32)), .val (.int ((100 + l2).toInt32)), .val (.int ((100 + l3).toInt32)), .val (.int ((100 + l4).toInt32)), .val (.int ((f10_12 ((0 : Nat).toInt32)) &&& 1)), .val (.int (l0.toInt32)), .val (.int (l1.toInt32)), .val (.int (l2.toInt32)), .val (.int (l3.toInt32)), .val (.int (l4.toInt32)), .val (.int ((((((1 : Int32) <<< ((l0.toInt32) &&& 31)) ||| ((1 : Int32) <<< ((l1.toInt32) &&& 31))) ||| ((1 : Int32) <<< ((l2.toInt32) &&& 31))) ||| ((1 : Int32) <<< ((l3.toInt32) &&& 31))) ||| ((1 : Int32) <<< ((l4.toInt32) &&& 31))))] [(.int (l3.toInt32)), (.ref b1), (.int ((cc ((l2.toInt32) : Int32).toNatClampNeg))), (.long ((rr ((l2.toInt32) : Int32).toNatClampNeg)))])) _
    refine X182.laload hx (j := (l3.toInt32)) (v := (.long ((rr ((l3.toInt32) : Int32).toNatClampNeg)))) (by rw [hh182]; exact Ar187.1) (State.isArrayOf_alike hZ.alike Ar187.2.1) Ar187.2.2 (own_in Sz187 hi188) hl188 (g := (mkF m 475 #[.val (.long q0), .second, .val (.long q1), .second, .val (.long q2), .second, .val (.int p3), .val (.int p4), .val (.int p5), .val (.ref b1), .val (.ref b5), .val (.ref b71), .val (.int ((100 + l0).toInt32)), .val (.int ((100 + l1).toInt32)), .val (.int ((100 + l2).toInt32)), .val (.int ((100 + l3).toInt32)), .val (.int ((100 + l4).toInt32)), .val (.int ((f10_12 ((0 : Nat).toInt32)) &&& 1)), .val (.int (l0.toInt32)), .val (.int (l1.toInt32)), .val (.int (l2.toInt32)), .val (.int (l3.toInt32)), .val (.int (l4.toInt32)), .val (.int ((((((1 : Int32) <<< ((l0.toInt32) &&& 31)) ||| ((1 : Int32) <<< ((l1.toInt32) &&& 31))) ||| ((1 : Int32) <<< ((l2.toInt32) &&& 31))) ||| ((1 : Int32) <<< ((l3.toInt32) &&& 31))) ||| ((1 : Int32) <<< ((l4.toInt32) &&& 31))))] [(.int (l3.toInt32)), (.ref b1), (.int ((cc ((l2.toInt32) : Int32).toNatClampNeg))), (.long ((rr ((l2.toInt32) : Int32).toNatClampNeg)))])) rfl rfl (hb hby at_475) _ ?_
    show Steps p.tables e below (T182.setTop (mkF m 476 #[.val (.long q0), .second, .val (.long q1), .second, .val (.long q2), .second, .val (.int p3), .val (.int p4), .val (.int p5), .val (.ref b1), .val (.ref b5), .val (.ref b71), .val (.int ((100 + l0).toInt32)), .val (.int ((100 + l1).toInt32)), .val (.int ((100 + l2).toInt32)), .val (.int ((100 + l3).toInt32)), .val (.int ((100 + l4).toInt32)), .val (.int ((f10_12 ((0 : Nat).toInt32)) &&& 1)), .val (.int (l0.toInt32)), .val (.int (l1.toInt32)), .val (.int (l2.toInt32)), .val (.int (l3.toInt32)), .val (.int (l4.toInt32)), .val (.int ((((((1 : Int32) <<< ((l0.toInt32) &&& 31)) ||| ((1 : Int32) <<< ((l1.toInt32) &&& 31))) ||| ((1 : Int32) <<< ((l2.toInt32) &&& 31))) ||| ((1 : Int32) <<< ((l3.toInt32) &&& 31))) ||| ((1 : Int32) <<< ((l4.toInt32) &&& 31))))] [(.long ((rr ((l3.toInt32) : Int32).toNatClampNeg))), (.int ((cc ((l2.toInt32) : Int32).toNatClampNeg))), (.long ((rr ((l2.toInt32) : Int32).toNatClampNeg)))])) _
    refine XS.aload X182.here hx rfl (hb hby at_476) rfl rfl ?_
    show Steps p.tables e below (T182.setTop (mkF m 478 #[.val (.long q0), .second, .val (.long q1), .second, .val (.long q2), .second, .val (.int p3), .val (.int p4), .val (.int p5), .val (.ref b1), .val (.ref b5), .val (.ref b71), .val (.int ((100 + l0).toInt32)), .val (.int ((100 + l1).toInt32)), .val (.int ((100 + l2).toInt32)), .val (.int ((100 + l3).toInt32)), .val (.int ((100 + l4).toInt32)), .val (.int ((f10_12 ((0 : Nat).toInt32)) &&& 1)), .val (.int (l0.toInt32)), .val (.int (l1.toInt32)), .val (.int (l2.toInt32)), .val (.int (l3.toInt32)), .val (.int (l4.toInt32)), .val (.int ((((((1 : Int32) <<< ((l0.toInt32) &&& 31)) ||| ((1 : Int32) <<< ((l1.toInt32) &&& 31))) ||| ((1 : Int32) <<< ((l2.toInt32) &&& 31))) ||| ((1 : Int32) <<< ((l3.toInt32) &&& 31))) ||| ((1 : Int32) <<< ((l4.toInt32) &&& 31))))] [(.ref b5), (.long ((rr ((l3.toInt32) : Int32).toNatClampNeg))), (.int ((cc ((l2.toInt32) : Int32).toNatClampNeg))), (.long ((rr ((l2.toInt32) : Int32).toNatClampNeg)))])) _
    refine XS.iload X182.here hx rfl (hb hby at_478) rfl ?_
    show Steps p.tables e below (T182.setTop (mkF m 480 #[.val (.long q0), .second, .val (.long q1), .second, .val (.long q2), .second, .val (.int p3), .val (.int p4), .val (.int p5), .val (.ref b1), .val (.ref b5), .val (.ref b71), .val (.int ((100 + l0).toInt32)), .val (.int ((100 + l1).toInt32)), .val (.int ((100 + l2).toInt32)), .val (.int ((100 + l3).toInt32)), .val (.int ((100 + l4).toInt32)), .val (.int ((f10_12 ((0 : Nat).toInt32)) &&& 1)), .val (.int (l0.toInt32)), .val (.int (l1.toInt32)), .val (.int (l2.toInt32)), .val (.int (l3.toInt32)), .val (.int (l4.toInt32)), .val (.int ((((((1 : Int32) <<< ((l0.toInt32) &&& 31)) ||| ((1 : Int32) <<< ((l1.toInt32) &&& 31))) ||| ((1 : Int32) <<< ((l2.toInt32) &&& 31))) ||| ((1 : Int32) <<< ((l3.toInt32) &&& 31))) ||| ((1 : Int32) <<< ((l4.toInt32) &&& 31))))] [(.int (l3.toInt32)), (.ref b5), (.long ((rr ((l3.toInt32) : Int32).toNatClampNeg))), (.int ((cc ((l2.toInt32) : Int32).toNatClampNeg))), (.long ((rr ((l2.toInt32) : Int32).toNatClampNeg)))])) _
    refine X182.iaload hx (j := (l3.toInt32)) (v := (.int ((cc ((l3.toInt32) : Int32).toNatClampNeg)))) (by rw [hh182]; exact Ar189.1) (State.isArrayOf_alike hZ.alike Ar189.2.1) Ar189.2.2 (own_in Sz189 hi190) hl190 (g := (mkF m 480 #[.val (.long q0), .second, .val (.long q1), .second, .val (.long q2), .second, .val (.int p3), .val (.int p4), .val (.int p5), .val (.ref b1), .val (.ref b5), .val (.ref b71), .val (.int ((100 + l0).toInt32)), .val (.int ((100 + l1).toInt32)), .val (.int ((100 + l2).toInt32)), .val (.int ((100 + l3).toInt32)), .val (.int ((100 + l4).toInt32)), .val (.int ((f10_12 ((0 : Nat).toInt32)) &&& 1)), .val (.int (l0.toInt32)), .val (.int (l1.toInt32)), .val (.int (l2.toInt32)), .val (.int (l3.toInt32)), .val (.int (l4.toInt32)), .val (.int ((((((1 : Int32) <<< ((l0.toInt32) &&& 31)) ||| ((1 : Int32) <<< ((l1.toInt32) &&& 31))) ||| ((1 : Int32) <<< ((l2.toInt32) &&& 31))) ||| ((1 : Int32) <<< ((l3.toInt32) &&& 31))) ||| ((1 : Int32) <<< ((l4.toInt32) &&& 31))))] [(.int (l3.toInt32)), (.ref b5), (.long ((rr ((l3.toInt32) : Int32).toNatClampNeg))), (.int ((cc ((l2.toInt32) : Int32).toNatClampNeg))), (.long ((rr ((l2.toInt32) : Int32).toNatClampNeg)))])) rfl rfl (hb hby at_480) _ ?_
    show Steps p.tables e below (T182.setTop (mkF m 481 #[.val (.long q0), .second, .val (.long q1), .second, .val (.long q2), .second, .val (.int p3), .val (.int p4), .val (.int p5), .val (.ref b1), .val (.ref b5), .val (.ref b71), .val (.int ((100 + l0).toInt32)), .val (.int ((100 + l1).toInt32)), .val (.int ((100 + l2).toInt32)), .val (.int ((100 + l3).toInt32)), .val (.int ((100 + l4).toInt32)), .val (.int ((f10_12 ((0 : Nat).toInt32)) &&& 1)), .val (.int (l0.toInt32)), .val (.int (l1.toInt32)), .val (.int (l2.toInt32)), .val (.int (l3.toInt32)), .val (.int (l4.toInt32)), .val (.int ((((((1 : Int32) <<< ((l0.toInt32) &&& 31)) ||| ((1 : Int32) <<< ((l1.toInt32) &&& 31))) ||| ((1 : Int32) <<< ((l2.toInt32) &&& 31))) ||| ((1 : Int32) <<< ((l3.toInt32) &&& 31))) ||| ((1 : Int32) <<< ((l4.toInt32) &&& 31))))] [(.int ((cc ((l3.toInt32) : Int32).toNatClampNeg))), (.long ((rr ((l3.toInt32) : Int32).toNatClampNeg))), (.int ((cc ((l2.toInt32) : Int32).toNatClampNeg))), (.long ((rr ((l2.toInt32) : Int32).toNatClampNeg)))])) _
    refine st191 _ ?_
    show Steps p.tables e below (T191.setTop (mkF m 484 #[.val (.long q0), .second, .val (.long q1), .second, .val (.long q2), .second, .val (.int p3), .val (.int p4), .val (.int p5), .val (.ref b1), .val (.ref b5), .val (.ref b71), .val (.int ((100 + l0).toInt32)), .val (.int ((100 + l1).toInt32)), .val (.int ((100 + l2).toInt32)), .val (.int ((100 + l3).toInt32)), .val (.int ((100 + l4).toInt32)), .val (.int ((f10_12 ((0 : Nat).toInt32)) &&& 1)), .val (.int (l0.toInt32)), .val (.int (l1.toInt32)), .val (.int (l2.toInt32)), .val (.int (l3.toInt32)), .val (.int (l4.toInt32)), .val (.int ((((((1 : Int32) <<< ((l0.toInt32) &&& 31)) ||| ((1 : Int32) <<< ((l1.toInt32) &&& 31))) ||| ((1 : Int32) <<< ((l2.toInt32) &&& 31))) ||| ((1 : Int32) <<< ((l3.toInt32) &&& 31))) ||| ((1 : Int32) <<< ((l4.toInt32) &&& 31))))] [(.int (f12_ret ((rr ((l2.toInt32) : Int32).toNatClampNeg)) ((cc ((l2.toInt32) : Int32).toNatClampNeg)) ((rr ((l3.toInt32) : Int32).toNatClampNeg)) ((cc ((l3.toInt32) : Int32).toNatClampNeg))))])) _
    refine XS.ifNo X191.here hx rfl (hb hby at_484) rfl ((if0 _ _).trans (feq (show ¬ ((f12_ret ((rr ((l2.toInt32) : Int32).toNatClampNeg)) ((cc ((l2.toInt32) : Int32).toNatClampNeg)) ((rr ((l3.toInt32) : Int32).toNatClampNeg)) ((cc ((l3.toInt32) : Int32).toNatClampNeg))) = (0 : Int32)) from by rw [own_tn (show l2 < 2147483648 by omega), own_tn (show l3 < 2147483648 by omega)]; exact own_nb hn2)).1) ?_
    show Steps p.tables e below (T191.setTop (mkF m 487 #[.val (.long q0), .second, .val (.long q1), .second, .val (.long q2), .second, .val (.int p3), .val (.int p4), .val (.int p5), .val (.ref b1), .val (.ref b5), .val (.ref b71), .val (.int ((100 + l0).toInt32)), .val (.int ((100 + l1).toInt32)), .val (.int ((100 + l2).toInt32)), .val (.int ((100 + l3).toInt32)), .val (.int ((100 + l4).toInt32)), .val (.int ((f10_12 ((0 : Nat).toInt32)) &&& 1)), .val (.int (l0.toInt32)), .val (.int (l1.toInt32)), .val (.int (l2.toInt32)), .val (.int (l3.toInt32)), .val (.int (l4.toInt32)), .val (.int ((((((1 : Int32) <<< ((l0.toInt32) &&& 31)) ||| ((1 : Int32) <<< ((l1.toInt32) &&& 31))) ||| ((1 : Int32) <<< ((l2.toInt32) &&& 31))) ||| ((1 : Int32) <<< ((l3.toInt32) &&& 31))) ||| ((1 : Int32) <<< ((l4.toInt32) &&& 31))))] [])) _
    refine XS.aload X191.here hx rfl (hb hby at_487) rfl rfl ?_
    show Steps p.tables e below (T191.setTop (mkF m 489 #[.val (.long q0), .second, .val (.long q1), .second, .val (.long q2), .second, .val (.int p3), .val (.int p4), .val (.int p5), .val (.ref b1), .val (.ref b5), .val (.ref b71), .val (.int ((100 + l0).toInt32)), .val (.int ((100 + l1).toInt32)), .val (.int ((100 + l2).toInt32)), .val (.int ((100 + l3).toInt32)), .val (.int ((100 + l4).toInt32)), .val (.int ((f10_12 ((0 : Nat).toInt32)) &&& 1)), .val (.int (l0.toInt32)), .val (.int (l1.toInt32)), .val (.int (l2.toInt32)), .val (.int (l3.toInt32)), .val (.int (l4.toInt32)), .val (.int ((((((1 : Int32) <<< ((l0.toInt32) &&& 31)) ||| ((1 : Int32) <<< ((l1.toInt32) &&& 31))) ||| ((1 : Int32) <<< ((l2.toInt32) &&& 31))) ||| ((1 : Int32) <<< ((l3.toInt32) &&& 31))) ||| ((1 : Int32) <<< ((l4.toInt32) &&& 31))))] [(.ref b1)])) _
    refine XS.iload X191.here hx rfl (hb hby at_489) rfl ?_
    show Steps p.tables e below (T191.setTop (mkF m 491 #[.val (.long q0), .second, .val (.long q1), .second, .val (.long q2), .second, .val (.int p3), .val (.int p4), .val (.int p5), .val (.ref b1), .val (.ref b5), .val (.ref b71), .val (.int ((100 + l0).toInt32)), .val (.int ((100 + l1).toInt32)), .val (.int ((100 + l2).toInt32)), .val (.int ((100 + l3).toInt32)), .val (.int ((100 + l4).toInt32)), .val (.int ((f10_12 ((0 : Nat).toInt32)) &&& 1)), .val (.int (l0.toInt32)), .val (.int (l1.toInt32)), .val (.int (l2.toInt32)), .val (.int (l3.toInt32)), .val (.int (l4.toInt32)), .val (.int ((((((1 : Int32) <<< ((l0.toInt32) &&& 31)) ||| ((1 : Int32) <<< ((l1.toInt32) &&& 31))) ||| ((1 : Int32) <<< ((l2.toInt32) &&& 31))) ||| ((1 : Int32) <<< ((l3.toInt32) &&& 31))) ||| ((1 : Int32) <<< ((l4.toInt32) &&& 31))))] [(.int (l3.toInt32)), (.ref b1)])) _
    refine X191.laload hx (j := (l3.toInt32)) (v := (.long ((rr ((l3.toInt32) : Int32).toNatClampNeg)))) (by rw [hh191]; exact Ar192.1) (State.isArrayOf_alike hZ.alike Ar192.2.1) Ar192.2.2 (own_in Sz192 hi193) hl193 (g := (mkF m 491 #[.val (.long q0), .second, .val (.long q1), .second, .val (.long q2), .second, .val (.int p3), .val (.int p4), .val (.int p5), .val (.ref b1), .val (.ref b5), .val (.ref b71), .val (.int ((100 + l0).toInt32)), .val (.int ((100 + l1).toInt32)), .val (.int ((100 + l2).toInt32)), .val (.int ((100 + l3).toInt32)), .val (.int ((100 + l4).toInt32)), .val (.int ((f10_12 ((0 : Nat).toInt32)) &&& 1)), .val (.int (l0.toInt32)), .val (.int (l1.toInt32)), .val (.int (l2.toInt32)), .val (.int (l3.toInt32)), .val (.int (l4.toInt32)), .val (.int ((((((1 : Int32) <<< ((l0.toInt32) &&& 31)) ||| ((1 : Int32) <<< ((l1.toInt32) &&& 31))) ||| ((1 : Int32) <<< ((l2.toInt32) &&& 31))) ||| ((1 : Int32) <<< ((l3.toInt32) &&& 31))) ||| ((1 : Int32) <<< ((l4.toInt32) &&& 31))))] [(.int (l3.toInt32)), (.ref b1)])) rfl rfl (hb hby at_491) _ ?_
    show Steps p.tables e below (T191.setTop (mkF m 492 #[.val (.long q0), .second, .val (.long q1), .second, .val (.long q2), .second, .val (.int p3), .val (.int p4), .val (.int p5), .val (.ref b1), .val (.ref b5), .val (.ref b71), .val (.int ((100 + l0).toInt32)), .val (.int ((100 + l1).toInt32)), .val (.int ((100 + l2).toInt32)), .val (.int ((100 + l3).toInt32)), .val (.int ((100 + l4).toInt32)), .val (.int ((f10_12 ((0 : Nat).toInt32)) &&& 1)), .val (.int (l0.toInt32)), .val (.int (l1.toInt32)), .val (.int (l2.toInt32)), .val (.int (l3.toInt32)), .val (.int (l4.toInt32)), .val (.int ((((((1 : Int32) <<< ((l0.toInt32) &&& 31)) ||| ((1 : Int32) <<< ((l1.toInt32) &&& 31))) ||| ((1 : Int32) <<< ((l2.toInt32) &&& 31))) ||| ((1 : Int32) <<< ((l3.toInt32) &&& 31))) ||| ((1 : Int32) <<< ((l4.toInt32) &&& 31))))] [(.long ((rr ((l3.toInt32) : Int32).toNatClampNeg)))])) _
    refine XS.aload X191.here hx rfl (hb hby at_492) rfl rfl ?_
    show Steps p.tables e below (T191.setTop (mkF m 494 #[.val (.long q0), .second, .val (.long q1), .second, .val (.long q2), .second, .val (.int p3), .val (.int p4), .val (.int p5), .val (.ref b1), .val (.ref b5), .val (.ref b71), .val (.int ((100 + l0).toInt32)), .val (.int ((100 + l1).toInt32)), .val (.int ((100 + l2).toInt32)), .val (.int ((100 + l3).toInt32)), .val (.int ((100 + l4).toInt32)), .val (.int ((f10_12 ((0 : Nat).toInt32)) &&& 1)), .val (.int (l0.toInt32)), .val (.int (l1.toInt32)), .val (.int (l2.toInt32)), .val (.int (l3.toInt32)), .val (.int (l4.toInt32)), .val (.int ((((((1 : Int32) <<< ((l0.toInt32) &&& 31)) ||| ((1 : Int32) <<< ((l1.toInt32) &&& 31))) ||| ((1 : Int32) <<< ((l2.toInt32) &&& 31))) ||| ((1 : Int32) <<< ((l3.toInt32) &&& 31))) ||| ((1 : Int32) <<< ((l4.toInt32) &&& 31))))] [(.ref b5), (.long ((rr ((l3.toInt32) : Int32).toNatClampNeg)))])) _
    refine XS.iload X191.here hx rfl (hb hby at_494) rfl ?_
    show Steps p.tables e below (T191.setTop (mkF m 496 #[.val (.long q0), .second, .val (.long q1), .second, .val (.long q2), .second, .val (.int p3), .val (.int p4), .val (.int p5), .val (.ref b1), .val (.ref b5), .val (.ref b71), .val (.int ((100 + l0).toInt32)), .val (.int ((100 + l1).toInt32)), .val (.int ((100 + l2).toInt32)), .val (.int ((100 + l3).toInt32)), .val (.int ((100 + l4).toInt32)), .val (.int ((f10_12 ((0 : Nat).toInt32)) &&& 1)), .val (.int (l0.toInt32)), .val (.int (l1.toInt32)), .val (.int (l2.toInt32)), .val (.int (l3.toInt32)), .val (.int (l4.toInt32)), .val (.int ((((((1 : Int32) <<< ((l0.toInt32) &&& 31)) ||| ((1 : Int32) <<< ((l1.toInt32) &&& 31))) ||| ((1 : Int32) <<< ((l2.toInt32) &&& 31))) ||| ((1 : Int32) <<< ((l3.toInt32) &&& 31))) ||| ((1 : Int32) <<< ((l4.toInt32) &&& 31))))] [(.int (l3.toInt32)), (.ref b5), (.long ((rr ((l3.toInt32) : Int32).toNatClampNeg)))])) _
    refine X191.iaload hx (j := (l3.toInt32)) (v := (.int ((cc ((l3.toInt32) : Int32).toNatClampNeg)))) (by rw [hh191]; exact Ar194.1) (State.isArrayOf_alike hZ.alike Ar194.2.1) Ar194.2.2 (own_in Sz194 hi195) hl195 (g := (mkF m 496 #[.val (.long q0), .second, .val (.long q1), .second, .val (.long q2), .second, .val (.int p3), .val (.int p4), .val (.int p5), .val (.ref b1), .val (.ref b5), .val (.ref b71), .val (.int ((100 + l0).toInt32)), .val (.int ((100 + l1).toInt32)), .val (.int ((100 + l2).toInt32)), .val (.int ((100 + l3).toInt32)), .val (.int ((100 + l4).toInt32)), .val (.int ((f10_12 ((0 : Nat).toInt32)) &&& 1)), .val (.int (l0.toInt32)), .val (.int (l1.toInt32)), .val (.int (l2.toInt32)), .val (.int (l3.toInt32)), .val (.int (l4.toInt32)), .val (.int ((((((1 : Int32) <<< ((l0.toInt32) &&& 31)) ||| ((1 : Int32) <<< ((l1.toInt32) &&& 31))) ||| ((1 : Int32) <<< ((l2.toInt32) &&& 31))) ||| ((1 : Int32) <<< ((l3.toInt32) &&& 31))) ||| ((1 : Int32) <<< ((l4.toInt32) &&& 31))))] [(.int (l3.toInt32)), (.ref b5), (.long ((rr ((l3.toInt32) : Int32).toNatClampNeg)))])) rfl rfl (hb hby at_496) _ ?_
    show Steps p.tables e below (T191.setTop (mkF m 497 #[.val (.long q0), .second, .val (.long q1), .second, .val (.long q2), .second, .val (.int p3), .val (.int p4), .val (.int p5), .val (.ref b1), .val (.ref b5), .val (.ref b71), .val (.int ((100 + l0).toInt32)), .val (.int ((100 + l1).toInt32)), .val (.int ((100 + l2).toInt32)), .val (.int ((100 + l3).toInt32)), .val (.int ((100 + l4).toInt32)), .val (.int ((f10_12 ((0 : Nat).toInt32)) &&& 1)), .val (.int (l0.toInt32)), .val (.int (l1.toInt32)), .val (.int (l2.toInt32)), .val (.int (l3.toInt32)), .val (.int (l4.toInt32)), .val (.int ((((((1 : Int32) <<< ((l0.toInt32) &&& 31)) ||| ((1 : Int32) <<< ((l1.toInt32) &&& 31))) ||| ((1 : Int32) <<< ((l2.toInt32) &&& 31))) ||| ((1 : Int32) <<< ((l3.toInt32) &&& 31))) ||| ((1 : Int32) <<< ((l4.toInt32) &&& 31))))] [(.int ((cc ((l3.toInt32) : Int32).toNatClampNeg))), (.long ((rr ((l3.toInt32) : Int32).toNatClampNeg)))])) _
    refine XS.aload X191.here hx rfl (hb hby at_497) rfl rfl ?_
    show Steps p.tables e below (T191.setTop (mkF m 499 #[.val (.long q0), .second, .val (.long q1), .second, .val (.long q2), .second, .val (.int p3), .val (.int p4), .val (.int p5), .val (.ref b1), .val (.ref b5), .val (.ref b71), .val (.int ((100 + l0).toInt32)), .val (.int ((100 + l1).toInt32)), .val (.int ((100 + l2).toInt32)), .val (.int ((100 + l3).toInt32)), .val (.int ((100 + l4).toInt32)), .val (.int ((f10_12 ((0 : Nat).toInt32)) &&& 1)), .val (.int (l0.toInt32)), .val (.int (l1.toInt32)), .val (.int (l2.toInt32)), .val (.int (l3.toInt32)), .val (.int (l4.toInt32)), .val (.int ((((((1 : Int32) <<< ((l0.toInt32) &&& 31)) ||| ((1 : Int32) <<< ((l1.toInt32) &&& 31))) ||| ((1 : Int32) <<< ((l2.toInt32) &&& 31))) ||| ((1 : Int32) <<< ((l3.toInt32) &&& 31))) ||| ((1 : Int32) <<< ((l4.toInt32) &&& 31))))] [(.ref b1), (.int ((cc ((l3.toInt32) : Int32).toNatClampNeg))), (.long ((rr ((l3.toInt32) : Int32).toNatClampNeg)))])) _
    refine XS.iload X191.here hx rfl (hb hby at_499) rfl ?_
    show Steps p.tables e below (T191.setTop (mkF m 501 #[.val (.long q0), .second, .val (.long q1), .second, .val (.long q2), .second, .val (.int p3), .val (.int p4), .val (.int p5), .val (.ref b1), .val (.ref b5), .val (.ref b71), .val (.int ((100 + l0).toInt32)), .val (.int ((100 + l1).toInt32)), .val (.int ((100 + l2).toInt32)), .val (.int ((100 + l3).toInt32)), .val (.int ((100 + l4).toInt32)), .val (.int ((f10_12 ((0 : Nat).toInt32)) &&& 1)), .val (.int (l0.toInt32)), .val (.int (l1.toInt32)), .val (.int (l2.toInt32)), .val (.int (l3.toInt32)), .val (.int (l4.toInt32)), .val (.int ((((((1 : Int32) <<< ((l0.toInt32) &&& 31)) ||| ((1 : Int32) <<< ((l1.toInt32) &&& 31))) ||| ((1 : Int32) <<< ((l2.toInt32) &&& 31))) ||| ((1 : Int32) <<< ((l3.toInt32) &&& 31))) ||| ((1 : Int32) <<< ((l4.toInt32) &&& 31))))] [(.int (l4.toInt32)), (.ref b1), (.int ((cc ((l3.toInt32) : Int32).toNatClampNeg))), (.long ((rr ((l3.toInt32) : Int32).toNatClampNeg)))])) _
    refine X191.laload hx (j := (l4.toInt32)) (v := (.long ((rr ((l4.toInt32) : Int32).toNatClampNeg)))) (by rw [hh191]; exact Ar196.1) (State.isArrayOf_alike hZ.alike Ar196.2.1) Ar196.2.2 (own_in Sz196 hi197) hl197 (g := (mkF m 501 #[.val (.long q0), .second, .val (.long q1), .second, .val (.long q2), .second, .val (.int p3), .val (.int p4), .val (.int p5), .val (.ref b1), .val (.ref b5), .val (.ref b71), .val (.int ((100 + l0).toInt32)), .val (.int ((100 + l1).toInt32)), .val (.int ((100 + l2).toInt32)), .val (.int ((100 + l3).toInt32)), .val (.int ((100 + l4).toInt32)), .val (.int ((f10_12 ((0 : Nat).toInt32)) &&& 1)), .val (.int (l0.toInt32)), .val (.int (l1.toInt32)), .val (.int (l2.toInt32)), .val (.int (l3.toInt32)), .val (.int (l4.toInt32)), .val (.int ((((((1 : Int32) <<< ((l0.toInt32) &&& 31)) ||| ((1 : Int32) <<< ((l1.toInt32) &&& 31))) ||| ((1 : Int32) <<< ((l2.toInt32) &&& 31))) ||| ((1 : Int32) <<< ((l3.toInt32) &&& 31))) ||| ((1 : Int32) <<< ((l4.toInt32) &&& 31))))] [(.int (l4.toInt32)), (.ref b1), (.int ((cc ((l3.toInt32) : Int32).toNatClampNeg))), (.long ((rr ((l3.toInt32) : Int32).toNatClampNeg)))])) rfl rfl (hb hby at_501) _ ?_
    show Steps p.tables e below (T191.setTop (mkF m 502 #[.val (.long q0), .second, .val (.long q1), .second, .val (.long q2), .second, .val (.int p3), .val (.int p4), .val (.int p5), .val (.ref b1), .val (.ref b5), .val (.ref b71), .val (.int ((100 + l0).toInt32)), .val (.int ((100 + l1).toInt32)), .val (.int ((100 + l2).toInt32)), .val (.int ((100 + l3).toInt32)), .val (.int ((100 + l4).toInt32)), .val (.int ((f10_12 ((0 : Nat).toInt32)) &&& 1)), .val (.int (l0.toInt32)), .val (.int (l1.toInt32)), .val (.int (l2.toInt32)), .val (.int (l3.toInt32)), .val (.int (l4.toInt32)), .val (.int ((((((1 : Int32) <<< ((l0.toInt32) &&& 31)) ||| ((1 : Int32) <<< ((l1.toInt32) &&& 31))) ||| ((1 : Int32) <<< ((l2.toInt32) &&& 31))) ||| ((1 : Int32) <<< ((l3.toInt32) &&& 31))) ||| ((1 : Int32) <<< ((l4.toInt32) &&& 31))))] [(.long ((rr ((l4.toInt32) : Int32).toNatClampNeg))), (.int ((cc ((l3.toInt32) : Int32).toNatClampNeg))), (.long ((rr ((l3.toInt32) : Int32).toNatClampNeg)))])) _
    refine XS.aload X191.here hx rfl (hb hby at_502) rfl rfl ?_
    show Steps p.tables e below (T191.setTop (mkF m 504 #[.val (.long q0), .second, .val (.long q1), .second, .val (.long q2), .second, .val (.int p3), .val (.int p4), .val (.int p5), .val (.ref b1), .val (.ref b5), .val (.ref b71), .val (.int ((100 + l0).toInt32)), .val (.int ((100 + l1).toInt32)), .val (.int ((100 + l2).toInt32)), .val (.int ((100 + l3).toInt32)), .val (.int ((100 + l4).toInt32)), .val (.int ((f10_12 ((0 : Nat).toInt32)) &&& 1)), .val (.int (l0.toInt32)), .val (.int (l1.toInt32)), .val (.int (l2.toInt32)), .val (.int (l3.toInt32)), .val (.int (l4.toInt32)), .val (.int ((((((1 : Int32) <<< ((l0.toInt32) &&& 31)) ||| ((1 : Int32) <<< ((l1.toInt32) &&& 31))) ||| ((1 : Int32) <<< ((l2.toInt32) &&& 31))) ||| ((1 : Int32) <<< ((l3.toInt32) &&& 31))) ||| ((1 : Int32) <<< ((l4.toInt32) &&& 31))))] [(.ref b5), (.long ((rr ((l4.toInt32) : Int32).toNatClampNeg))), (.int ((cc ((l3.toInt32) : Int32).toNatClampNeg))), (.long ((rr ((l3.toInt32) : Int32).toNatClampNeg)))])) _
    refine XS.iload X191.here hx rfl (hb hby at_504) rfl ?_
    show Steps p.tables e below (T191.setTop (mkF m 506 #[.val (.long q0), .second, .val (.long q1), .second, .val (.long q2), .second, .val (.int p3), .val (.int p4), .val (.int p5), .val (.ref b1), .val (.ref b5), .val (.ref b71), .val (.int ((100 + l0).toInt32)), .val (.int ((100 + l1).toInt32)), .val (.int ((100 + l2).toInt32)), .val (.int ((100 + l3).toInt32)), .val (.int ((100 + l4).toInt32)), .val (.int ((f10_12 ((0 : Nat).toInt32)) &&& 1)), .val (.int (l0.toInt32)), .val (.int (l1.toInt32)), .val (.int (l2.toInt32)), .val (.int (l3.toInt32)), .val (.int (l4.toInt32)), .val (.int ((((((1 : Int32) <<< ((l0.toInt32) &&& 31)) ||| ((1 : Int32) <<< ((l1.toInt32) &&& 31))) ||| ((1 : Int32) <<< ((l2.toInt32) &&& 31))) ||| ((1 : Int32) <<< ((l3.toInt32) &&& 31))) ||| ((1 : Int32) <<< ((l4.toInt32) &&& 31))))] [(.int (l4.toInt32)), (.ref b5), (.long ((rr ((l4.toInt32) : Int32).toNatClampNeg))), (.int ((cc ((l3.toInt32) : Int32).toNatClampNeg))), (.long ((rr ((l3.toInt32) : Int32).toNatClampNeg)))])) _
    refine X191.iaload hx (j := (l4.toInt32)) (v := (.int ((cc ((l4.toInt32) : Int32).toNatClampNeg)))) (by rw [hh191]; exact Ar198.1) (State.isArrayOf_alike hZ.alike Ar198.2.1) Ar198.2.2 (own_in Sz198 hi199) hl199 (g := (mkF m 506 #[.val (.long q0), .second, .val (.long q1), .second, .val (.long q2), .second, .val (.int p3), .val (.int p4), .val (.int p5), .val (.ref b1), .val (.ref b5), .val (.ref b71), .val (.int ((100 + l0).toInt32)), .val (.int ((100 + l1).toInt32)), .val (.int ((100 + l2).toInt32)), .val (.int ((100 + l3).toInt32)), .val (.int ((100 + l4).toInt32)), .val (.int ((f10_12 ((0 : Nat).toInt32)) &&& 1)), .val (.int (l0.toInt32)), .val (.int (l1.toInt32)), .val (.int (l2.toInt32)), .val (.int (l3.toInt32)), .val (.int (l4.toInt32)), .val (.int ((((((1 : Int32) <<< ((l0.toInt32) &&& 31)) ||| ((1 : Int32) <<< ((l1.toInt32) &&& 31))) ||| ((1 : Int32) <<< ((l2.toInt32) &&& 31))) ||| ((1 : Int32) <<< ((l3.toInt32) &&& 31))) ||| ((1 : Int32) <<< ((l4.toInt32) &&& 31))))] [(.int (l4.toInt32)), (.ref b5), (.long ((rr ((l4.toInt32) : Int32).toNatClampNeg))), (.int ((cc ((l3.toInt32) : Int32).toNatClampNeg))), (.long ((rr ((l3.toInt32) : Int32).toNatClampNeg)))])) rfl rfl (hb hby at_506) _ ?_
    show Steps p.tables e below (T191.setTop (mkF m 507 #[.val (.long q0), .second, .val (.long q1), .second, .val (.long q2), .second, .val (.int p3), .val (.int p4), .val (.int p5), .val (.ref b1), .val (.ref b5), .val (.ref b71), .val (.int ((100 + l0).toInt32)), .val (.int ((100 + l1).toInt32)), .val (.int ((100 + l2).toInt32)), .val (.int ((100 + l3).toInt32)), .val (.int ((100 + l4).toInt32)), .val (.int ((f10_12 ((0 : Nat).toInt32)) &&& 1)), .val (.int (l0.toInt32)), .val (.int (l1.toInt32)), .val (.int (l2.toInt32)), .val (.int (l3.toInt32)), .val (.int (l4.toInt32)), .val (.int ((((((1 : Int32) <<< ((l0.toInt32) &&& 31)) ||| ((1 : Int32) <<< ((l1.toInt32) &&& 31))) ||| ((1 : Int32) <<< ((l2.toInt32) &&& 31))) ||| ((1 : Int32) <<< ((l3.toInt32) &&& 31))) ||| ((1 : Int32) <<< ((l4.toInt32) &&& 31))))] [(.int ((cc ((l4.toInt32) : Int32).toNatClampNeg))), (.long ((rr ((l4.toInt32) : Int32).toNatClampNeg))), (.int ((cc ((l3.toInt32) : Int32).toNatClampNeg))), (.long ((rr ((l3.toInt32) : Int32).toNatClampNeg)))])) _
    refine st200 _ ?_
    show Steps p.tables e below (T200.setTop (mkF m 510 #[.val (.long q0), .second, .val (.long q1), .second, .val (.long q2), .second, .val (.int p3), .val (.int p4), .val (.int p5), .val (.ref b1), .val (.ref b5), .val (.ref b71), .val (.int ((100 + l0).toInt32)), .val (.int ((100 + l1).toInt32)), .val (.int ((100 + l2).toInt32)), .val (.int ((100 + l3).toInt32)), .val (.int ((100 + l4).toInt32)), .val (.int ((f10_12 ((0 : Nat).toInt32)) &&& 1)), .val (.int (l0.toInt32)), .val (.int (l1.toInt32)), .val (.int (l2.toInt32)), .val (.int (l3.toInt32)), .val (.int (l4.toInt32)), .val (.int ((((((1 : Int32) <<< ((l0.toInt32) &&& 31)) ||| ((1 : Int32) <<< ((l1.toInt32) &&& 31))) ||| ((1 : Int32) <<< ((l2.toInt32) &&& 31))) ||| ((1 : Int32) <<< ((l3.toInt32) &&& 31))) ||| ((1 : Int32) <<< ((l4.toInt32) &&& 31))))] [(.int (f12_ret ((rr ((l3.toInt32) : Int32).toNatClampNeg)) ((cc ((l3.toInt32) : Int32).toNatClampNeg)) ((rr ((l4.toInt32) : Int32).toNatClampNeg)) ((cc ((l4.toInt32) : Int32).toNatClampNeg))))])) _
    refine XS.ifNo X200.here hx rfl (hb hby at_510) rfl ((if0 _ _).trans (feq (show ¬ ((f12_ret ((rr ((l3.toInt32) : Int32).toNatClampNeg)) ((cc ((l3.toInt32) : Int32).toNatClampNeg)) ((rr ((l4.toInt32) : Int32).toNatClampNeg)) ((cc ((l4.toInt32) : Int32).toNatClampNeg))) = (0 : Int32)) from by rw [own_tn (show l3 < 2147483648 by omega), own_tn (show l4 < 2147483648 by omega)]; exact own_nb hn3)).1) ?_
    show Steps p.tables e below (T200.setTop (mkF m 513 #[.val (.long q0), .second, .val (.long q1), .second, .val (.long q2), .second, .val (.int p3), .val (.int p4), .val (.int p5), .val (.ref b1), .val (.ref b5), .val (.ref b71), .val (.int ((100 + l0).toInt32)), .val (.int ((100 + l1).toInt32)), .val (.int ((100 + l2).toInt32)), .val (.int ((100 + l3).toInt32)), .val (.int ((100 + l4).toInt32)), .val (.int ((f10_12 ((0 : Nat).toInt32)) &&& 1)), .val (.int (l0.toInt32)), .val (.int (l1.toInt32)), .val (.int (l2.toInt32)), .val (.int (l3.toInt32)), .val (.int (l4.toInt32)), .val (.int ((((((1 : Int32) <<< ((l0.toInt32) &&& 31)) ||| ((1 : Int32) <<< ((l1.toInt32) &&& 31))) ||| ((1 : Int32) <<< ((l2.toInt32) &&& 31))) ||| ((1 : Int32) <<< ((l3.toInt32) &&& 31))) ||| ((1 : Int32) <<< ((l4.toInt32) &&& 31))))] [])) _
    refine XS.iconst X200.here hx rfl (hb hby at_513) ?_
    show Steps p.tables e below (T200.setTop (mkF m 514 #[.val (.long q0), .second, .val (.long q1), .second, .val (.long q2), .second, .val (.int p3), .val (.int p4), .val (.int p5), .val (.ref b1), .val (.ref b5), .val (.ref b71), .val (.int ((100 + l0).toInt32)), .val (.int ((100 + l1).toInt32)), .val (.int ((100 + l2).toInt32)), .val (.int ((100 + l3).toInt32)), .val (.int ((100 + l4).toInt32)), .val (.int ((f10_12 ((0 : Nat).toInt32)) &&& 1)), .val (.int (l0.toInt32)), .val (.int (l1.toInt32)), .val (.int (l2.toInt32)), .val (.int (l3.toInt32)), .val (.int (l4.toInt32)), .val (.int ((((((1 : Int32) <<< ((l0.toInt32) &&& 31)) ||| ((1 : Int32) <<< ((l1.toInt32) &&& 31))) ||| ((1 : Int32) <<< ((l2.toInt32) &&& 31))) ||| ((1 : Int32) <<< ((l3.toInt32) &&& 31))) ||| ((1 : Int32) <<< ((l4.toInt32) &&& 31))))] [(.int (1 : Int32))])) _
    refine XS.goto X200.here hx rfl (pc0 := 514) (pc' := 518) rfl (hb hby at_514) (by decide) (by decide) ?_
    show Steps p.tables e below (T200.setTop (mkF m 518 #[.val (.long q0), .second, .val (.long q1), .second, .val (.long q2), .second, .val (.int p3), .val (.int p4), .val (.int p5), .val (.ref b1), .val (.ref b5), .val (.ref b71), .val (.int ((100 + l0).toInt32)), .val (.int ((100 + l1).toInt32)), .val (.int ((100 + l2).toInt32)), .val (.int ((100 + l3).toInt32)), .val (.int ((100 + l4).toInt32)), .val (.int ((f10_12 ((0 : Nat).toInt32)) &&& 1)), .val (.int (l0.toInt32)), .val (.int (l1.toInt32)), .val (.int (l2.toInt32)), .val (.int (l3.toInt32)), .val (.int (l4.toInt32)), .val (.int ((((((1 : Int32) <<< ((l0.toInt32) &&& 31)) ||| ((1 : Int32) <<< ((l1.toInt32) &&& 31))) ||| ((1 : Int32) <<< ((l2.toInt32) &&& 31))) ||| ((1 : Int32) <<< ((l3.toInt32) &&& 31))) ||| ((1 : Int32) <<< ((l4.toInt32) &&& 31))))] [(.int (1 : Int32))])) _
    exact k)
  obtain ⟨fs, hr, hrun, hended, hW, hsame⟩ := X200.leave (v := some (.int (1 : Int32))) (fun h => by rw [Bd.returns] at h; cases h)
  refine ⟨_, _, pre201 _ ?_, hrun, hended, _, _, rfl, ?_, ⟨_, rfl⟩, hW, hsame.mono (by decide) (by decide)⟩
  · exact retN X200 hx (t := .boolean) Bd.returns (by simp) (hb hby at_518) hr
  · show Q0 Z q0 q1 q2 p3 p4 p5 h0 n0 _ T200.heap _
    rw [hh200]
    exact ⟨rfl, N200⟩
set_option maxRecDepth 65536 in
set_option maxHeartbeats 40000000 in
theorem comes_1 {Post : Tables → Env → Array Value → State → Outcome → State → Prop} (hpost : ∀ tb e args s v u, (limb_1_1.after args s (.returned v) u = true ∧ limb_1_2.after args s (.returned v) u = true ∧ True) → FrameEnd s (.returned v) u (Jvm.fieldLocs frame_1_writes args s ++ Jvm.arrayLocs frame_1_arrays args s ++ Jvm.staticLocs frame_1_statics s) 24 512 → Post tb e args s (.returned v) u) :
    ArmFor flags0 classFile x code maxLocals ret World_1 tables_1 room_1 Calls_1 rest_1 Pre_1 Post := by
  intro l hfl _ _ p e ha hc hk s m args below hf hA hF happ hP
  obtain ⟨hcalls, hrest, hpre⟩ := hP
  obtain ⟨-, -, -, hnamed, -, -, -, hat⟩ := (Spec.applies_iff hf).mp happ
  obtain ⟨hg, hn⟩ := and_e (Cond.before_iff.mp (show (Jvm.Cond.and given_1 narrow_1).before args s = true from hpre))
  obtain ⟨h1, g0⟩ := and_e hg
  obtain ⟨u0, g1⟩ := and_e g0
  obtain ⟨u1, g2⟩ := and_e g1
  obtain ⟨u2, g3⟩ := and_e g2
  obtain ⟨u3, g4⟩ := and_e g3
  obtain ⟨u4, g5⟩ := and_e g4
  obtain ⟨w0, w1, w2, w3, w4, w5, rfl⟩ : ∃ w0 w1 w2 w3 w4 w5 : Value, args = #[w0, w1, w2, w3, w4, w5] := by
    have hs : args.size = 6 := by simpa [Cond.value, given_1] using h1
    obtain ⟨L⟩ := args
    match L, hs with
    | [w0, w1, w2, w3, w4, w5], _ => exact ⟨w0, w1, w2, w3, w4, w5, rfl⟩
  have hw := fun d (hd : d ∈ tables_1) => atoms_spec (ws := Jvm.Cond.code x code maxLocals ret :: tables_1) hat d (List.mem_cons_of_mem _ hd)
  have hfit : Fit s := fun {y c} hc i hi => by
    obtain ⟨ha, rfl⟩ := Array.getElem?_eq_some_iff.mp hc
    have q := List.all_eq_true.mp ((Array.all_eq_true_iff_forall_mem.mp hF) _ (Array.getElem_mem ha)) i (List.mem_range.mpr hi)
    simpa [Array.getElem?_eq_getElem hi] using q
  obtain ⟨i0, e0⟩ := isL_v u0
  obtain rfl : w0 = (.long i0) := Option.some.inj e0
  obtain ⟨i1, e1⟩ := isL_v u1
  obtain rfl : w1 = (.long i1) := Option.some.inj e1
  obtain ⟨i2, e2⟩ := isL_v u2
  obtain rfl : w2 = (.long i2) := Option.some.inj e2
  obtain ⟨i3, e3⟩ := is_v u3
  obtain rfl : w3 = (.int i3) := Option.some.inj e3
  obtain ⟨i4, e4⟩ := is_v u4
  obtain rfl : w4 = (.int i4) := Option.some.inj e4
  obtain ⟨i5, e5⟩ := is_v g5
  obtain rfl : w5 = (.int i5) := Option.some.inj e5
  obtain ⟨n, o, h1, h2, h3, _, L, rfl, ⟨rfl, N⟩, hq⟩ := rm0 l s _ hw tables_1 i0 i1 i2 i3 i4 i5  s.heap s.heap.size (Nat.le_refl _)  p e ha hc hk s m _ below hf ((Spec.applies_iff_loose hf).mp happ).1 ⟨rfl, State.Warmed39.refl s, rfl⟩ trivial
  refine ⟨n, _, h1, h2, h3, hpost _ _ _ _ _ _ ⟨Cond.after_iff.mpr rfl, Cond.after_iff.mpr (eq_i res_at (Term.int_eval (1)) rfl), trivial⟩ ⟨hq.1, hq.2.1, (hq.2.2.sift fun y hy => Or.inr (N y hy)).mono (by decide) (by decide)⟩⟩
theorem main_1_1 : Claimed_1_1 := comes_1 fun _ _ _ _ _ _ h hF => ⟨h.1, hF⟩
theorem main_1_2 : Claimed_1_2 := comes_1 fun _ _ _ _ _ _ h hF => ⟨h.2.1, hF⟩
end Jvm.Pilot.@@N@@
namespace Jvm.Pilot.@@N@@
open Jvm Jvm.ClassFile Sem Op Lib Jvm.Free Jvm.Stand Jvm.Pilot.@@N@@.Jvm.D
/-! MADE BY PROGRAM (witnessworld.py) out of the Statement's table words and the real class files: 11 classes; the members and pool entries that the words name. The judged class is class 1, her method 5. -/
namespace start1
open Jvm.ClassFile
def u (s : String) : CpInfo := .utf8 (stringToUtf16 s)
/-- a pool by its gaps: so many unusable entries, then the entry; so many at the end -/
def gap : Nat → List CpInfo → List CpInfo
  | 0, r => r
  | n + 1, r => .unusable :: gap n r
def poolList (es : List (Nat × CpInfo)) (last : Nat) : List CpInfo := es.foldr (fun e r => gap e.1 (e.2 :: r)) (gap last [])
def pool (es : List (Nat × CpInfo)) (last : Nat) : Array CpInfo := ⟨poolList es last⟩
def fileOf (pool : Array CpInfo) (this : Nat) (attrs : Array Attribute := #[]) (ms : Array MethodInfo := #[]) (fl : Nat := 33) (sup : Nat := 0) (ifs : Array Nat := #[]) (fds : Array FieldInfo := #[]) : ClassFile where
  minorVersion := 0
  majorVersion := 65
  constantPool := pool
  accessFlags := fl
  thisClass := this
  superClass := sup
  interfaces := ifs
  fields := fds
  methods := ms
  attributes := attrs
def plain (name : String) (sup : Option ClassId) : Class where
  name := name
  kind := .ordinary
  loader := none
  accessFlags := 33
  super := sup
  interfaces := #[]
  cf := none
  fields := #[]
  methods := #[]
  instanceTypes := #[]
  staticTypes := #[]
  resolved := #[]
  callSites := []
  init := .initialized
  statics := none
  mirror := none

def pool0 : Array CpInfo := pool [(5, u "<init>"), (0, u "()V"), (1, .class_ 10), (1, u "java/lang/Object")] 113

def k0c0 : Code := { maxStack := 0, maxLocals := 1, code := object_method_1_code, exceptionTable := #[], attributes := #[] }
def k0m0 : Method := { name := "<init>", desc := "()V", sig := { parameters := [], returnType := none }, accessFlags := 1, code := some k0c0 }
/-- java/lang/Object -/
def k0 : Class := { plain "java/lang/Object" none with
  accessFlags := 33
  interfaces := #[]
  cf := some (fileOf pool0 8 #[] #[{ accessFlags := 1, nameIndex := 5, descriptorIndex := 6, attributes := #[] }] 33 0 #[] #[])
  fields := #[]
  methods := #[k0m0]
  instanceTypes := #[]
  staticTypes := #[]
  resolved := Array.replicate 124 none
  statics := none }

def pool1 : Array CpInfo := pool [(2, .class_ 4), (0, .nameAndType 5 6), (0, u "java/lang/Object"), (0, u "<init>"), (0, u "()V"), (0, .methodref 8 9), (0, .class_ 10), (0, .nameAndType 11 12), (0, u "com/example/brisk_maze/briskmaze/search/RankedFrontierRemoveFirstPinLaw"), (0, u "pickRank"), (0, u "(JJJI)J"), (0, .methodref 8 14), (0, .nameAndType 15 16), (0, u "pickCost"), (0, u "(III)I"), (0, .class_ 18), (0, u "com/example/brisk_maze/briskmaze/search/RankedFrontier"), (0, .methodref 17 3), (0, .methodref 17 21), (0, .nameAndType 22 23), (0, u "add"), (0, u "(IJI)V"), (0, .methodref 17 25), (0, .nameAndType 26 27), (0, u "removeFirst"), (0, u "()I"), (0, .methodref 17 29), (0, .nameAndType 30 31), (0, u "isEmpty"), (0, u "()Z"), (0, .methodref 8 33), (0, .nameAndType 34 35), (0, u "inRange"), (0, u "(I)Z"), (0, .methodref 8 37), (0, .nameAndType 38 39), (0, u "notBefore"), (0, u "(JIJI)Z"), (3, u "law"), (0, u "(JJJIII)Z")] 6

def k1m0 : Method := { name := "<init>", desc := "()V", sig := { parameters := [], returnType := none }, accessFlags := 1, code := none }
def k1c1 : Code := { maxStack := 2, maxLocals := 8, code := method_2_code, exceptionTable := #[], attributes := #[] }
def k1m1 : Method := { name := "pickRank", desc := "(JJJI)J", sig := { parameters := [.long, .long, .long, .int], returnType := some .long }, accessFlags := 10, code := some k1c1 }
def k1c2 : Code := { maxStack := 2, maxLocals := 3, code := method_3_code, exceptionTable := #[], attributes := #[] }
def k1m2 : Method := { name := "pickCost", desc := "(III)I", sig := { parameters := [.int, .int, .int], returnType := some .int }, accessFlags := 10, code := some k1c2 }
def k1c3 : Code := { maxStack := 2, maxLocals := 1, code := method_4_code, exceptionTable := #[], attributes := #[] }
def k1m3 : Method := { name := "inRange", desc := "(I)Z", sig := { parameters := [.int], returnType := some .boolean }, accessFlags := 10, code := some k1c3 }
def k1c4 : Code := { maxStack := 4, maxLocals := 6, code := method_5_code, exceptionTable := #[], attributes := #[] }
def k1m4 : Method := { name := "notBefore", desc := "(JIJI)Z", sig := { parameters := [.long, .int, .long, .int], returnType := some .boolean }, accessFlags := 10, code := some k1c4 }
def k1c5 : Code := { maxStack := 10, maxLocals := 24, code := code, exceptionTable := #[], attributes := #[] }
def k1m5 : Method := { name := "law", desc := "(JJJIII)Z", sig := { parameters := [.long, .long, .long, .int, .int, .int], returnType := some .boolean }, accessFlags := 9, code := some k1c5 }
/-- com/example/brisk_maze/briskmaze/search/RankedFrontierRemoveFirstPinLaw -/
def k1 : Class := { plain "com/example/brisk_maze/briskmaze/search/RankedFrontierRemoveFirstPinLaw" (some 0) with
  accessFlags := 49
  interfaces := #[]
  cf := some (fileOf pool1 8 #[] #[{ accessFlags := 1, nameIndex := 5, descriptorIndex := 6, attributes := #[] }, { accessFlags := 10, nameIndex := 11, descriptorIndex := 12, attributes := #[] }, { accessFlags := 10, nameIndex := 15, descriptorIndex := 16, attributes := #[] }, { accessFlags := 10, nameIndex := 34, descriptorIndex := 35, attributes := #[] }, { accessFlags := 10, nameIndex := 38, descriptorIndex := 39, attributes := #[] }, { accessFlags := 9, nameIndex := 43, descriptorIndex := 44, attributes := #[] }] 49 2 #[] #[])
  fields := #[]
  methods := #[k1m0, k1m1, k1m2, k1m3, k1m4, k1m5]
  instanceTypes := #[]
  staticTypes := #[]
  resolved := Array.replicate 51 none
  statics := none }

def pool2 : Array CpInfo := pool [(1, .methodref 2 3), (0, .class_ 4), (0, .nameAndType 5 6), (0, u "java/lang/Object"), (0, u "<init>"), (0, u "()V"), (0, .class_ 8), (0, u "com/example/brisk_maze/briskmaze/search/RankedFrontier"), (0, .fieldref 7 10), (0, .nameAndType 11 12), (0, u "ranks"), (0, u "[J"), (0, .fieldref 7 14), (0, .nameAndType 15 16), (0, u "costs"), (0, u "[I"), (0, .fieldref 7 18), (0, .nameAndType 19 16), (0, u "states"), (0, .fieldref 7 21), (0, .nameAndType 22 23), (0, u "size"), (0, u "I"), (3, .methodref 7 28), (0, .nameAndType 29 30), (0, u "precedes"), (0, u "(JII)Z"), (0, .methodref 7 32), (0, .nameAndType 33 34), (0, u "move"), (0, u "(II)V"), (0, .methodref 7 36), (0, .nameAndType 37 38), (0, u "place"), (0, u "(IJII)V"), (0, .methodref 7 40), (0, .nameAndType 29 41), (0, u "(JIJI)Z"), (17, u "INITIAL_CAPACITY"), (4, u "isEmpty"), (0, u "()Z"), (1, u "add"), (0, u "(IJI)V"), (0, u "removeFirst"), (0, u "()I")] 2

def k2c0 : Code := { maxStack := 2, maxLocals := 1, code := prog_53_method_1_code, exceptionTable := #[], attributes := #[] }
def k2m0 : Method := { name := "<init>", desc := "()V", sig := { parameters := [], returnType := none }, accessFlags := 0, code := some k2c0 }
def k2c1 : Code := { maxStack := 1, maxLocals := 1, code := prog_53_method_2_code, exceptionTable := #[], attributes := #[] }
def k2m1 : Method := { name := "isEmpty", desc := "()Z", sig := { parameters := [], returnType := some .boolean }, accessFlags := 0, code := some k2c1 }
def k2c2 : Code := { maxStack := 6, maxLocals := 7, code := prog_53_method_3_code, exceptionTable := #[], attributes := #[] }
def k2m2 : Method := { name := "add", desc := "(IJI)V", sig := { parameters := [.int, .long, .int], returnType := none }, accessFlags := 0, code := some k2c2 }
def k2c3 : Code := { maxStack := 6, maxLocals := 9, code := prog_53_method_4_code, exceptionTable := #[], attributes := #[] }
def k2m3 : Method := { name := "removeFirst", desc := "()I", sig := { parameters := [], returnType := some .int }, accessFlags := 0, code := some k2c3 }
def k2c4 : Code := { maxStack := 7, maxLocals := 5, code := prog_53_method_5_code, exceptionTable := #[], attributes := #[] }
def k2m4 : Method := { name := "precedes", desc := "(JII)Z", sig := { parameters := [.long, .int, .int], returnType := some .boolean }, accessFlags := 2, code := some k2c4 }
def k2c5 : Code := { maxStack := 4, maxLocals := 6, code := prog_53_method_6_code, exceptionTable := #[], attributes := #[] }
def k2m5 : Method := { name := "precedes", desc := "(JIJI)Z", sig := { parameters := [.long, .int, .long, .int], returnType := some .boolean }, accessFlags := 10, code := some k2c5 }
def k2c6 : Code := { maxStack := 7, maxLocals := 3, code := prog_53_method_7_code, exceptionTable := #[], attributes := #[] }
def k2m6 : Method := { name := "move", desc := "(II)V", sig := { parameters := [.int, .int], returnType := none }, accessFlags := 2, code := some k2c6 }
def k2c7 : Code := { maxStack := 4, maxLocals := 6, code := prog_53_method_8_code, exceptionTable := #[], attributes := #[] }
def k2m7 : Method := { name := "place", desc := "(IJII)V", sig := { parameters := [.int, .long, .int, .int], returnType := none }, accessFlags := 2, code := some k2c7 }
/-- com/example/brisk_maze/briskmaze/search/RankedFrontier -/
def k2 : Class := { plain "com/example/brisk_maze/briskmaze/search/RankedFrontier" (some 0) with
  accessFlags := 32
  interfaces := #[]
  cf := some (fileOf pool2 7 #[] #[{ accessFlags := 0, nameIndex := 5, descriptorIndex := 6, attributes := #[] }, { accessFlags := 0, nameIndex := 64, descriptorIndex := 65, attributes := #[] }, { accessFlags := 0, nameIndex := 67, descriptorIndex := 68, attributes := #[] }, { accessFlags := 0, nameIndex := 69, descriptorIndex := 70, attributes := #[] }, { accessFlags := 2, nameIndex := 29, descriptorIndex := 30, attributes := #[] }, { accessFlags := 10, nameIndex := 29, descriptorIndex := 41, attributes := #[] }, { accessFlags := 2, nameIndex := 33, descriptorIndex := 34, attributes := #[] }, { accessFlags := 2, nameIndex := 37, descriptorIndex := 38, attributes := #[] }] 32 2 #[] #[{ accessFlags := 26, nameIndex := 59, descriptorIndex := 23, attributes := #[] }, { accessFlags := 2, nameIndex := 11, descriptorIndex := 12, attributes := #[] }, { accessFlags := 2, nameIndex := 15, descriptorIndex := 16, attributes := #[] }, { accessFlags := 2, nameIndex := 19, descriptorIndex := 16, attributes := #[] }, { accessFlags := 2, nameIndex := 22, descriptorIndex := 23, attributes := #[] }])
  fields := #[{ name := "INITIAL_CAPACITY", type := .int, accessFlags := 26, slot := 0, constantValue := 0 }, { name := "ranks", type := (.array .long), accessFlags := 2, slot := 0, constantValue := 0 }, { name := "costs", type := (.array .int), accessFlags := 2, slot := 1, constantValue := 0 }, { name := "states", type := (.array .int), accessFlags := 2, slot := 2, constantValue := 0 }, { name := "size", type := .int, accessFlags := 2, slot := 3, constantValue := 0 }]
  methods := #[k2m0, k2m1, k2m2, k2m3, k2m4, k2m5, k2m6, k2m7]
  instanceTypes := #[(.array .long), (.array .int), (.array .int), .int]
  staticTypes := #[.int]
  resolved := Array.replicate 73 none
  statics := none }

def pool3 : Array CpInfo := pool [(1, u "java/lang/Cloneable"), (0, .class_ 1), (0, u "java/lang/Object"), (0, .class_ 3)] 3

/-- java/lang/Cloneable -/
def k3 : Class := { plain "java/lang/Cloneable" (some 0) with
  accessFlags := 1537
  interfaces := #[]
  cf := some (fileOf pool3 2 #[] #[] 1537 4 #[] #[])
  fields := #[]
  methods := #[]
  instanceTypes := #[]
  staticTypes := #[]
  resolved := Array.replicate 8 none
  statics := none }

def pool4 : Array CpInfo := pool [(1, u "java/io/Serializable"), (0, .class_ 1), (0, u "java/lang/Object"), (0, .class_ 3)] 3

/-- java/io/Serializable -/
def k4 : Class := { plain "java/io/Serializable" (some 0) with
  accessFlags := 1537
  interfaces := #[]
  cf := some (fileOf pool4 2 #[] #[] 1537 4 #[] #[])
  fields := #[]
  methods := #[]
  instanceTypes := #[]
  staticTypes := #[]
  resolved := Array.replicate 8 none
  statics := none }

/-- the primitive byte -/
def k5 : Class := { plain "byte" none with kind := .primitive 'B', accessFlags := 0x411 }
/-- [B -/
def k6 : Class := { plain "[B" (some 0) with kind := .array 5 .byte, interfaces := #[3, 4], accessFlags := 1041 }

/-- the primitive int -/
def k7 : Class := { plain "int" none with kind := .primitive 'I', accessFlags := 0x411 }
/-- [I -/
def k8 : Class := { plain "[I" (some 0) with kind := .array 7 .int, interfaces := #[3, 4], accessFlags := 1041 }

/-- the primitive long -/
def k9 : Class := { plain "long" none with kind := .primitive 'J', accessFlags := 0x411 }
/-- [J -/
def k10 : Class := { plain "[J" (some 0) with kind := .array 9 .long, interfaces := #[3, 4], accessFlags := 1041 }

def heap : Heap := #[]
def classes : Array Class := #[k0, k1, k2, k3, k4, k5, k6, k7, k8, k9, k10]
def interned : List (Array UInt16 × Addr) := []
def slotsUsed : Nat := 0
def theMethod : MethodId := ⟨1, 5⟩
def args0 : Array Value := #[.long 5, .long 7, .long 3, .int 2, .int 4, .int 9]
def aboutOver (below : List Frame) : State where
  vm := { classes := classes, interned := interned.toArray }
  heap := heap
  slotsUsed := slotsUsed
  threads := #[{ frames := .invoking theMethod args0 :: below }]
def below0 : List Frame := [.native { method := ⟨0, 0⟩, args := #[] }]
def about1 : State := aboutOver below0
def p0 : Program := .bare "" "" ""
def e0 : Env := launch0.env 0 0 0
theorem w_frames : about1.frames = Frame.invoking theMethod args0 :: below0 := rfl
set_option maxRecDepth 65536 in
theorem w_args : argsFit about1.vm theMethod args0 = true := by decide +kernel
set_option maxRecDepth 65536 in
theorem w_heap : heapFits about1 = true := by decide +kernel
set_option maxRecDepth 65536 in
theorem w_runnable : about1.curStatus? = some .runnable := by decide +kernel
set_option maxRecDepth 65536 in
theorem w_alone : about1.alone = true := by decide +kernel
set_option maxRecDepth 65536 in
theorem w_named : about1.methodNamed? x = some theMethod := by decide +kernel
set_option maxRecDepth 65536 in
theorem w_hears : about1.hears theMethod below0 = true := by decide +kernel
set_option maxRecDepth 65536 in
theorem w_ripe : about1.ripe theMethod args0 below0 = true := by decide +kernel
theorem w_running : about1.status = .running := rfl
set_option maxRecDepth 65536 in
theorem w_room : about1.hasRoom e0.platform room_1 = true :=
  launch0.hasRoom_least _ room_1 (by decide +kernel) (by decide +kernel) (by decide +kernel) (by decide +kernel) (by decide +kernel) (by decide +kernel)
theorem allAtoms_all (ts : List Jvm.Cond) (a : Array Jvm.Value) (st : Jvm.State) : (allAtoms ts).before a st = ts.all (fun c => c.before a st) := by
  induction ts with
  | nil => rfl
  | cons c t ih =>
    show (Jvm.Cond.and c (allAtoms t)).before a st = _
    rw [Jvm.Cond.before_and, ih, List.all_cons]
def words1 : List Jvm.Cond := Jvm.Cond.code x code maxLocals ret :: tables_1
/-- a 'code' word, met by the world's own term for the bytes: nothing is compared byte by byte -/
theorem code_word {y : MethodName} {bytes : ByteArray} {mx : Nat} {rt : Option FieldType} {a : Array Value} {s : State} {m : MethodId} {meth : Method} {c : Code} (h1 : s.methodNamed? y = some m) (h2 : s.vm.method? m = some meth) (h3 : meth.code = some c) (h4 : c.code = bytes)
    (h5 : (c.maxLocals == mx && c.exceptionTable.isEmpty && decide (c.maxStack ≤ mostOperands) && decide (meth.sig.returnType = rt) && !meth.locks && decide (parseMethodDescriptor y.desc = some meth.sig)) = true) : (Jvm.Cond.code y bytes mx rt).before a s = true := by
  simp only [Bool.and_eq_true, beq_iff_eq, Bool.not_eq_true', decide_eq_true_eq] at h5
  obtain ⟨⟨⟨⟨⟨g1, g2⟩, g3⟩, g4⟩, g5⟩, g6⟩ := h5
  simp [Cond.before, Cond.holds, Cond.value, h1, h2, h3, h4, g1, g2, g3, g4, g5, g6]
def isCode : Jvm.Cond → Bool
  | .code _ _ _ _ => true
  | _ => false
theorem all_split {L : List Jvm.Cond} {P : Jvm.Cond → Bool} (h1 : L.all (fun c => isCode c || P c) = true) (h2 : ∀ c ∈ L.filter isCode, P c = true) : L.all P = true := by
  refine List.all_eq_true.mpr fun c hc => ?_
  have h := List.all_eq_true.mp h1 c hc
  rcases Bool.eq_false_or_eq_true (isCode c) with hi | hi
  · exact h2 c (List.mem_filter.mpr ⟨hc, hi⟩)
  · simpa [hi] using h
set_option maxRecDepth 65536 in
theorem w_c0 : (Jvm.Cond.code x code maxLocals ret).before args0 about1 = true := code_word (m := ⟨1, 5⟩) (meth := k1m5) (c := k1c5) (by decide +kernel) rfl rfl rfl (by decide +kernel)
set_option maxRecDepth 65536 in
theorem w_c1 : (Jvm.Cond.code ({ cls := "com/example/brisk_maze/briskmaze/search/RankedFrontierRemoveFirstPinLaw", name := "pickRank", desc := "(JJJI)J" } : Jvm.MethodName) method_2_code (8 : Nat) (Option.some Jvm.ClassFile.FieldType.long)).before args0 about1 = true := code_word (m := ⟨1, 1⟩) (meth := k1m1) (c := k1c1) (by decide +kernel) rfl rfl rfl (by decide +kernel)
set_option maxRecDepth 65536 in
theorem w_c2 : (Jvm.Cond.code ({ cls := "com/example/brisk_maze/briskmaze/search/RankedFrontierRemoveFirstPinLaw", name := "pickCost", desc := "(III)I" } : Jvm.MethodName) method_3_code (3 : Nat) (Option.some Jvm.ClassFile.FieldType.int)).before args0 about1 = true := code_word (m := ⟨1, 2⟩) (meth := k1m2) (c := k1c2) (by decide +kernel) rfl rfl rfl (by decide +kernel)
set_option maxRecDepth 65536 in
theorem w_c3 : (Jvm.Cond.code ({ cls := "com/example/brisk_maze/briskmaze/search/RankedFrontier", name := "<init>", desc := "()V" } : Jvm.MethodName) prog_53_method_1_code (1 : Nat) (Option.none : Option Jvm.ClassFile.FieldType)).before args0 about1 = true := code_word (m := ⟨2, 0⟩) (meth := k2m0) (c := k2c0) (by decide +kernel) rfl rfl rfl (by decide +kernel)
set_option maxRecDepth 65536 in
theorem w_c4 : (Jvm.Cond.code ({ cls := "java/lang/Object", name := "<init>", desc := "()V" } : Jvm.MethodName) object_method_1_code (1 : Nat) (Option.none : Option Jvm.ClassFile.FieldType)).before args0 about1 = true := code_word (m := ⟨0, 0⟩) (meth := k0m0) (c := k0c0) (by decide +kernel) rfl rfl rfl (by decide +kernel)
set_option maxRecDepth 65536 in
theorem w_c5 : (Jvm.Cond.code ({ cls := "com/example/brisk_maze/briskmaze/search/RankedFrontier", name := "add", desc := "(IJI)V" } : Jvm.MethodName) prog_53_method_3_code (7 : Nat) (Option.none : Option Jvm.ClassFile.FieldType)).before args0 about1 = true := code_word (m := ⟨2, 2⟩) (meth := k2m2) (c := k2c2) (by decide +kernel) rfl rfl rfl (by decide +kernel)
set_option maxRecDepth 65536 in
theorem w_c6 : (Jvm.Cond.code ({ cls := "com/example/brisk_maze/briskmaze/search/RankedFrontier", name := "place", desc := "(IJII)V" } : Jvm.MethodName) prog_53_method_8_code (6 : Nat) (Option.none : Option Jvm.ClassFile.FieldType)).before args0 about1 = true := code_word (m := ⟨2, 7⟩) (meth := k2m7) (c := k2c7) (by decide +kernel) rfl rfl rfl (by decide +kernel)
set_option maxRecDepth 65536 in
theorem w_c7 : (Jvm.Cond.code ({ cls := "com/example/brisk_maze/briskmaze/search/RankedFrontier", name := "precedes", desc := "(JII)Z" } : Jvm.MethodName) prog_53_method_5_code (5 : Nat) (Option.some Jvm.ClassFile.FieldType.boolean)).before args0 about1 = true := code_word (m := ⟨2, 4⟩) (meth := k2m4) (c := k2c4) (by decide +kernel) rfl rfl rfl (by decide +kernel)
set_option maxRecDepth 65536 in
theorem w_c8 : (Jvm.Cond.code ({ cls := "com/example/brisk_maze/briskmaze/search/RankedFrontier", name := "precedes", desc := "(JIJI)Z" } : Jvm.MethodName) prog_53_method_6_code (6 : Nat) (Option.some Jvm.ClassFile.FieldType.boolean)).before args0 about1 = true := code_word (m := ⟨2, 5⟩) (meth := k2m5) (c := k2c5) (by decide +kernel) rfl rfl rfl (by decide +kernel)
set_option maxRecDepth 65536 in
theorem w_c9 : (Jvm.Cond.code ({ cls := "com/example/brisk_maze/briskmaze/search/RankedFrontier", name := "removeFirst", desc := "()I" } : Jvm.MethodName) prog_53_method_4_code (9 : Nat) (Option.some Jvm.ClassFile.FieldType.int)).before args0 about1 = true := code_word (m := ⟨2, 3⟩) (meth := k2m3) (c := k2c3) (by decide +kernel) rfl rfl rfl (by decide +kernel)
set_option maxRecDepth 65536 in
theorem w_c10 : (Jvm.Cond.code ({ cls := "com/example/brisk_maze/briskmaze/search/RankedFrontier", name := "isEmpty", desc := "()Z" } : Jvm.MethodName) prog_53_method_2_code (1 : Nat) (Option.some Jvm.ClassFile.FieldType.boolean)).before args0 about1 = true := code_word (m := ⟨2, 1⟩) (meth := k2m1) (c := k2c1) (by decide +kernel) rfl rfl rfl (by decide +kernel)
set_option maxRecDepth 65536 in
theorem w_c11 : (Jvm.Cond.code ({ cls := "com/example/brisk_maze/briskmaze/search/RankedFrontierRemoveFirstPinLaw", name := "inRange", desc := "(I)Z" } : Jvm.MethodName) method_4_code (1 : Nat) (Option.some Jvm.ClassFile.FieldType.boolean)).before args0 about1 = true := code_word (m := ⟨1, 3⟩) (meth := k1m3) (c := k1c3) (by decide +kernel) rfl rfl rfl (by decide +kernel)
set_option maxRecDepth 65536 in
theorem w_c12 : (Jvm.Cond.code ({ cls := "com/example/brisk_maze/briskmaze/search/RankedFrontierRemoveFirstPinLaw", name := "notBefore", desc := "(JIJI)Z" } : Jvm.MethodName) method_5_code (6 : Nat) (Option.some Jvm.ClassFile.FieldType.boolean)).before args0 about1 = true := code_word (m := ⟨1, 4⟩) (meth := k1m4) (c := k1c4) (by decide +kernel) rfl rfl rfl (by decide +kernel)
set_option maxRecDepth 65536 in
theorem w_c13 : (Jvm.Cond.code ({ cls := "com/example/brisk_maze/briskmaze/search/RankedFrontier", name := "move", desc := "(II)V" } : Jvm.MethodName) prog_53_method_7_code (3 : Nat) (Option.none : Option Jvm.ClassFile.FieldType)).before args0 about1 = true := code_word (m := ⟨2, 6⟩) (meth := k2m6) (c := k2c6) (by decide +kernel) rfl rfl rfl (by decide +kernel)
def codes1 : List Jvm.Cond := [Jvm.Cond.code x code maxLocals ret, Jvm.Cond.code ({ cls := "com/example/brisk_maze/briskmaze/search/RankedFrontierRemoveFirstPinLaw", name := "pickRank", desc := "(JJJI)J" } : Jvm.MethodName) method_2_code (8 : Nat) (Option.some Jvm.ClassFile.FieldType.long), Jvm.Cond.code ({ cls := "com/example/brisk_maze/briskmaze/search/RankedFrontierRemoveFirstPinLaw", name := "pickCost", desc := "(III)I" } : Jvm.MethodName) method_3_code (3 : Nat) (Option.some Jvm.ClassFile.FieldType.int), Jvm.Cond.code ({ cls := "com/example/brisk_maze/briskmaze/search/RankedFrontier", name := "<init>", desc := "()V" } : Jvm.MethodName) prog_53_method_1_code (1 : Nat) (Option.none : Option Jvm.ClassFile.FieldType), Jvm.Cond.code ({ cls := "java/lang/Object", name := "<init>", desc := "()V" } : Jvm.MethodName) object_method_1_code (1 : Nat) (Option.none : Option Jvm.ClassFile.FieldType), Jvm.Cond.code ({ cls := "com/example/brisk_maze/briskmaze/search/RankedFrontier", name := "add", desc := "(IJI)V" } : Jvm.MethodName) prog_53_method_3_code (7 : Nat) (Option.none : Option Jvm.ClassFile.FieldType), Jvm.Cond.code ({ cls := "com/example/brisk_maze/briskmaze/search/RankedFrontier", name := "place", desc := "(IJII)V" } : Jvm.MethodName) prog_53_method_8_code (6 : Nat) (Option.none : Option Jvm.ClassFile.FieldType), Jvm.Cond.code ({ cls := "com/example/brisk_maze/briskmaze/search/RankedFrontier", name := "precedes", desc := "(JII)Z" } : Jvm.MethodName) prog_53_method_5_code (5 : Nat) (Option.some Jvm.ClassFile.FieldType.boolean), Jvm.Cond.code ({ cls := "com/example/brisk_maze/briskmaze/search/RankedFrontier", name := "precedes", desc := "(JIJI)Z" } : Jvm.MethodName) prog_53_method_6_code (6 : Nat) (Option.some Jvm.ClassFile.FieldType.boolean), Jvm.Cond.code ({ cls := "com/example/brisk_maze/briskmaze/search/RankedFrontier", name := "removeFirst", desc := "()I" } : Jvm.MethodName) prog_53_method_4_code (9 : Nat) (Option.some Jvm.ClassFile.FieldType.int), Jvm.Cond.code ({ cls := "com/example/brisk_maze/briskmaze/search/RankedFrontier", name := "isEmpty", desc := "()Z" } : Jvm.MethodName) prog_53_method_2_code (1 : Nat) (Option.some Jvm.ClassFile.FieldType.boolean), Jvm.Cond.code ({ cls := "com/example/brisk_maze/briskmaze/search/RankedFrontierRemoveFirstPinLaw", name := "inRange", desc := "(I)Z" } : Jvm.MethodName) method_4_code (1 : Nat) (Option.some Jvm.ClassFile.FieldType.boolean), Jvm.Cond.code ({ cls := "com/example/brisk_maze/briskmaze/search/RankedFrontierRemoveFirstPinLaw", name := "notBefore", desc := "(JIJI)Z" } : Jvm.MethodName) method_5_code (6 : Nat) (Option.some Jvm.ClassFile.FieldType.boolean), Jvm.Cond.code ({ cls := "com/example/brisk_maze/briskmaze/search/RankedFrontier", name := "move", desc := "(II)V" } : Jvm.MethodName) prog_53_method_7_code (3 : Nat) (Option.none : Option Jvm.ClassFile.FieldType)]
set_option maxRecDepth 65536 in
theorem codes_eq : words1.filter isCode = codes1 := rfl
theorem w_codes : ∀ c ∈ words1.filter isCode, c.before args0 about1 = true := by
  rw [codes_eq]
  intro c hc
  simp only [codes1, List.mem_cons, List.not_mem_nil, or_false] at hc
  rcases hc with rfl | rfl | rfl | rfl | rfl | rfl | rfl | rfl | rfl | rfl | rfl | rfl | rfl | rfl
  · exact w_c0
  · exact w_c1
  · exact w_c2
  · exact w_c3
  · exact w_c4
  · exact w_c5
  · exact w_c6
  · exact w_c7
  · exact w_c8
  · exact w_c9
  · exact w_c10
  · exact w_c11
  · exact w_c12
  · exact w_c13
set_option maxRecDepth 65536 in
theorem w_t1 : (words1.take 24).all (fun c => isCode c || c.before args0 about1) = true := by decide +kernel
set_option maxRecDepth 65536 in
theorem w_t2 : ((words1.drop 24).take 24).all (fun c => isCode c || c.before args0 about1) = true := by decide +kernel
set_option maxRecDepth 65536 in
theorem w_t3 : ((words1.drop 24).drop 24).all (fun c => isCode c || c.before args0 about1) = true := by decide +kernel
theorem w_tables : (allAtoms (Jvm.Cond.code x code maxLocals ret :: tables_1)).before args0 about1 = true := by
  rw [allAtoms_all]
  show words1.all (fun c => c.before args0 about1) = true
  refine all_split ?_ w_codes
  rw [← List.take_append_drop 24 words1, List.all_append, w_t1, ← List.take_append_drop 24 (words1.drop 24), List.all_append, w_t2, w_t3]
  rfl
set_option maxRecDepth 65536 in
theorem w_case : (Jvm.Cond.and given_1 narrow_1).before args0 about1 = true := by decide +kernel
theorem w_applies : (headSpec (Jvm.Cond.code x code maxLocals ret :: tables_1) room_1).applies x e0.platform about1 = true :=
  (Spec.applies_iff w_frames).mpr ⟨w_running, w_runnable, w_alone, w_named, w_hears, w_ripe, w_room, w_tables⟩
theorem atStart : AtStart classFile x code maxLocals ret World_1 tables_1 room_1 Calls_1 rest_1 Pre_1 launch0 p0 e0 about1 theMethod args0 below0 :=
  ⟨lists_1, trivial, launch0.admits_env _ _ _, launch0.least_env, fairChoices_fair.cas, fairChoices_fair.clock, w_frames, w_args, w_heap, w_applies, trivial, trivial, w_case⟩
end start1
theorem witness_1 : WitnessClaimed_1 := ⟨start1.p0, start1.e0, start1.about1, start1.theMethod, start1.args0, start1.below0, start1.atStart⟩
end Jvm.Pilot.@@N@@
