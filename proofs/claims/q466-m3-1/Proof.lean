import JvmDerived
import JvmDerived.Pilot.@@N@@Statement
import JvmDerived.Pilot.@@N@@Code
set_option linter.unusedVariables false
set_option linter.unusedSimpArgs false
namespace Jvm.RoadKit
open Sem ClassFile Op Lib Jvm.Stand Jvm.Free Jvm.LawKit
section New
variable {p : Program} {l : Launch} {e : Env} {R : Room} {s : State} {m : MethodId} {args : Array Value} {below : List Frame} {meth : Method} {c : Code} {T : State} {locs : List Loc} {cells slots : Nat}
theorem retI (X : Stand p l e R s m args below meth c T locs cells slots) (hx : p.tables.exec = Jvm.exec) {pc : Nat} {Ls : Array Slot} {z : Int32} {rest : List Value} (hret : meth.sig.returnType = some .int) (hd : decode c.code pc = .ok (.ireturn, 1)) {fs : List Frame}
    (hl : ∀ (f : JFrame) (acts : List Action), f.method = m → f.locked = none → f.entered = [] → (doReturn e (T.setTop f) acts (some (.int z))).1 = T.setFrames fs) : Steps p.tables e below (T.setTop (mkF m pc Ls (.int z :: rest))) (T.setFrames fs) := by
  have hm' : T.vm.method? m = some meth := X.method'
  have hn : narrow .int (.int z) = .int z := rfl
  show Steps p.tables e below (T.setTop { method := m, pc := pc, locals := Ls, stack := _ :: rest, locked := none }) _
  jvm_step X.here [X.here.top, hx, hd, hm', hret, hn]
  first | (intro acts; rw [hl _ acts rfl rfl rfl]) | rw [hl _ _ rfl rfl rfl]
  exact Steps.refl _
end New
end Jvm.RoadKit
namespace Jvm.Pilot.@@N@@
open Jvm Jvm.ClassFile Sem Op Lib Jvm.Free Jvm.Stand Jvm.LawKit Jvm.RoadKit Bundle Jvm.Pilot.@@N@@.Jvm.D
theorem own_selp {s : State} {args : Array Value} {y : MethodName} {n : Nat} (wi : (Jvm.Cond.instantiable y.cls n).before args s = true) (hp : s.PrivateAt y) (hi : (Jvm.Cond.instanceMethod y).before args s = true) (hy : y.cls ≠ "java/lang/invoke/MethodHandle" ∧ y.cls ≠ "java/lang/invoke/VarHandle") : (Jvm.Cond.selects y.cls y y).before args s = true := by
  obtain ⟨c, k, h1, h2, h3, h4, -⟩ := Cond.instantiable_spec wi
  exact selects_self_of_private h1 h2 (Bool.or_eq_false_iff.mp h4).1 hp hi hy
theorem own_cat {v : Value} (h : v.isRef = true) : v.category = 1 := by rcases ref_cases h with rfl | ⟨_, rfl⟩ <;> rfl
theorem own_ltL {x y : Int64} (h : x < y) : ifCond.holds .lt (lcmpW x y) = true ∧ ifCond.holds .ge (lcmpW x y) = false ∧ ifCond.holds .gt (lcmpW y x) = true ∧ ifCond.holds .le (lcmpW y x) = false :=
  ⟨(if0 _ _).trans (tlt ((lw_lt x y).mpr h)).1, (if0 _ _).trans (tlt ((lw_lt x y).mpr h)).2.1, (if0 _ _).trans (tlt ((lw_gt y x).mpr h)).2.2.1, (if0 _ _).trans (tlt ((lw_gt y x).mpr h)).2.2.2⟩
theorem own_fltL {x y : Int64} (h : ¬ x < y) : ifCond.holds .lt (lcmpW x y) = false ∧ ifCond.holds .ge (lcmpW x y) = true ∧ ifCond.holds .gt (lcmpW y x) = false ∧ ifCond.holds .le (lcmpW y x) = true :=
  ⟨(if0 _ _).trans (flt (fun q => h ((lw_lt x y).mp q))).1, (if0 _ _).trans (flt (fun q => h ((lw_lt x y).mp q))).2.1, (if0 _ _).trans (flt (fun q => h ((lw_gt y x).mp q))).2.2.1, (if0 _ _).trans (flt (fun q => h ((lw_gt y x).mp q))).2.2.2⟩
theorem own_eqL {x y : Int64} (h : x = y) : ifCond.holds .eq (lcmpW x y) = true ∧ ifCond.holds .ne (lcmpW x y) = false :=
  ⟨(if0 _ _).trans (teq ((lw_eq x y).mpr h)).1, (if0 _ _).trans (teq ((lw_eq x y).mpr h)).2⟩
theorem own_neL {x y : Int64} (h : ¬ x = y) : ifCond.holds .eq (lcmpW x y) = false ∧ ifCond.holds .ne (lcmpW x y) = true :=
  ⟨(if0 _ _).trans (feq (fun q => h ((lw_eq x y).mp q))).1, (if0 _ _).trans (feq (fun q => h ((lw_eq x y).mp q))).2⟩

theorem own_fin {c : Int32} {N : Nat} (h0 : 0 ≤ c.toInt) (h1 : c.toInt < N) (hN : N ≤ 2147483648) : ∃ n : Fin N, c = n.1.toInt32 := by
  refine ⟨⟨c.toInt.toNat, by omega⟩, ?_⟩
  apply Int32.toInt_inj.mp
  rw [len_toInt (by show c.toInt.toNat < 2 ^ 31; omega)]
  show c.toInt = ((c.toInt.toNat : Nat) : Int)
  omega
theorem own_lt {x y : Int32} (h : x < y) : x.toInt < y.toInt := Int32.lt_iff_toInt_lt.mp h
theorem own_nlt' {x y : Int32} (h : ¬ x < y) : y.toInt ≤ x.toInt := by rw [Int32.lt_iff_toInt_lt] at h; omega
theorem own_nlt {x y : Int32} {k : Int} (h : k ≤ x.toInt) (hk : y.toInt ≤ k) : ¬ x < y := by rw [Int32.lt_iff_toInt_lt]; omega
theorem own_gt {x y : Int32} {k : Int} (h : k ≤ x.toInt) (hk : y.toInt < k) : y < x := by rw [Int32.lt_iff_toInt_lt]; omega
theorem own_ne {x y : Int32} {k : Int} (h : k ≤ x.toInt) (hk : y.toInt < k) : ¬ x = y := by rintro rfl; omega
theorem own_gtn {x y : Int32} {k : Int} (h : x.toInt < k) (hk : k ≤ y.toInt) : x < y := by rw [Int32.lt_iff_toInt_lt]; omega
theorem own_nel {x y : Int32} {k : Int} (h : x.toInt < k) (hk : k ≤ y.toInt) : ¬ x = y := by rintro rfl; omega
theorem own_lt' {x y : Int32} (h : x < y) : x.toInt + 1 ≤ y.toInt := by have := own_lt h; omega
theorem own_le' {x y : Int32} (h : ¬ y < x) : x.toInt < y.toInt + 1 := by have := own_nlt' h; omega

section own_fl
open Jvm.FP.Core

theorem own_zfin {f : Fmt} (s : Bool) (c : Nat) (q : Int) : zval f (.fin s c q) = signed s (inUnits c q f.qmin) := rfl

theorem own_mul_units {a b : UInt64} (ha : DFin a) (hb : DFin b) :
    ∃ s c e, val64 (dmul a b) = round b64 (.fin s c e) ∧ 2 * b64.qmin ≤ e ∧
      signed s (inUnits c e (2 * b64.qmin)) = zval b64 (val64 a) * zval b64 (val64 b) := by
  obtain ⟨s, c, q, ha⟩ := ha
  obtain ⟨t, d, r, hb⟩ := hb
  have fa := val64_fits a
  have fb := val64_fits b
  rw [ha] at fa
  rw [hb] at fb
  obtain ⟨e1, e2, e3⟩ := product_units fa fb
  refine ⟨s != t, c * d, q + r, ?_, e2, ?_⟩
  · rw [val64_dmul, ha, hb, e1]
  · rw [e3, signed_xor, ha, hb]; rfl

theorem own_two_qmin : 2 ^ (b64.qmin - 2 * b64.qmin).toNat = one64 := by
  rw [← pow_qmin64]; congr 2

theorem own_mul_le {a b : UInt64} {V : Datum} (ha : DFin a) (hb : DFin b) (hV : Jvm.FP.Core.fits b64 V) (hn : V ≠ .nan)
    (h : zval b64 (val64 a) * zval b64 (val64 b) ≤ zval b64 V * (one64 : Int)) :
    zval b64 (val64 (dmul a b)) ≤ zval b64 V := by
  obtain ⟨s, c, e, e1, e2, e3⟩ := own_mul_units ha hb
  rw [e1]
  refine zval_round_le good_b64 hV hn (e0 := 2 * b64.qmin) (by decide) e2 ?_
  rw [e3, own_two_qmin]; exact h

theorem own_mul_ge {a b : UInt64} {V : Datum} (ha : DFin a) (hb : DFin b) (hV : Jvm.FP.Core.fits b64 V) (hn : V ≠ .nan)
    (h : zval b64 V * (one64 : Int) ≤ zval b64 (val64 a) * zval b64 (val64 b)) :
    zval b64 V ≤ zval b64 (val64 (dmul a b)) := by
  obtain ⟨s, c, e, e1, e2, e3⟩ := own_mul_units ha hb
  rw [e1]
  refine zval_round_ge good_b64 hV hn (e0 := 2 * b64.qmin) (by decide) e2 ?_
  rw [e3, own_two_qmin]; exact h

theorem own_mul_eq {a b : UInt64} {V : Datum} (ha : DFin a) (hb : DFin b) (hV : Jvm.FP.Core.fits b64 V) (hn : V ≠ .nan)
    (h : zval b64 (val64 a) * zval b64 (val64 b) = zval b64 V * (one64 : Int)) :
    zval b64 (val64 (dmul a b)) = zval b64 V :=
  Int.le_antisymm (own_mul_le ha hb hV hn (by omega)) (own_mul_ge ha hb hV hn (by omega))

theorem own_mul_nn {a b : UInt64} (ha : DFin a) (hb : DFin b) : val64 (dmul a b) ≠ .nan := by
  obtain ⟨s, c, e, e1, e2, e3⟩ := own_mul_units ha hb
  rw [e1]; exact roundRatio_ne_nan b64 s c 1 e

/-- A product that does not go beyond finite bounds is finite. -/
theorem own_fin_of {a : UInt64} (hn : val64 a ≠ .nan) (h : zmag b64 (val64 a) < b64.tails * 2 ^ (b64.exps - 2)) : DFin a := by
  cases hd : val64 a with
  | nan => exact absurd hd hn
  | inf s => rw [hd] at h; exact absurd h (Nat.lt_irrefl _)
  | fin s c q => exact ⟨s, c, q, hd⟩

theorem own_div_rr {a b : UInt64} (ha : DFin a) (hb : DFin b) (pb : zmag b64 (val64 b) ≠ 0) :
    val64 (ddiv a b) = roundRatio b64 (sgn (val64 a) != sgn (val64 b)) (zmag b64 (val64 a)) (zmag b64 (val64 b)) 0 := by
  obtain ⟨s, c, q, ha⟩ := ha
  obtain ⟨t, d, r, hb⟩ := hb
  have fa := (val64_fits a)
  have fb := (val64_fits b)
  rw [ha] at fa
  rw [hb] at fb
  have fa := fa.2.1
  have fb := fb.2.1
  rw [hb] at pb
  rw [val64_ddiv, ha, hb]
  change inUnits d r b64.qmin ≠ 0 at pb
  have hd : d ≠ 0 := by
    rintro rfl
    exact pb (Nat.zero_mul _)
  have e : quotient b64 (.fin s c q) (.fin t d r) = roundRatio b64 (s != t) c d (q - r) := by
    show (if d = 0 then _ else _) = _
    rw [if_neg hd]
  rw [e]
  refine roundRatio_congr (Nat.pos_of_ne_zero hd) (Nat.pos_of_ne_zero pb) ?_
  show c * inUnits d r b64.qmin * 2 ^ (q - r - 0).toNat = inUnits c q b64.qmin * d * 2 ^ (0 - (q - r)).toNat
  unfold inUnits
  have e : (r - b64.qmin).toNat + (q - r - 0).toNat = (q - b64.qmin).toNat + (0 - (q - r)).toNat := by omega
  calc c * (d * 2 ^ (r - b64.qmin).toNat) * 2 ^ (q - r - 0).toNat
      = c * d * (2 ^ (r - b64.qmin).toNat * 2 ^ (q - r - 0).toNat) := by ac_rfl
    _ = c * d * (2 ^ (q - b64.qmin).toNat * 2 ^ (0 - (q - r)).toNat) := by rw [← Nat.pow_add, e, Nat.pow_add]
    _ = c * 2 ^ (q - b64.qmin).toNat * d * 2 ^ (0 - (q - r)).toNat := by ac_rfl

theorem own_rr_le {s : Bool} {A B : Nat} {V : Datum} (hB : 0 < B) (hV : Jvm.FP.Core.fits b64 V) (hn : V ≠ .nan)
    (h : A * one64 ≤ zmag b64 V * B) : zmag b64 (roundRatio b64 s A B 0) ≤ zmag b64 V := by
  refine zmag_roundRatio_le good_b64 hB hV hn (Int.le_refl _) (by decide) ?_
  rw [Int.sub_self, show (0 : Int).toNat = 0 from rfl, Nat.pow_zero, Nat.mul_one]
  unfold inUnits
  rw [Int.zero_sub, pow_qmin64]; exact h

theorem own_rr_ge {s : Bool} {A B : Nat} {V : Datum} (hB : 0 < B) (hV : Jvm.FP.Core.fits b64 V)
    (h : zmag b64 V * B ≤ A * one64) : zmag b64 V ≤ zmag b64 (roundRatio b64 s A B 0) := by
  refine zmag_roundRatio_ge good_b64 hB hV (Int.le_refl _) (by decide) ?_
  rw [Int.sub_self, show (0 : Int).toNat = 0 from rfl, Nat.pow_zero, Nat.mul_one]
  unfold inUnits
  rw [Int.zero_sub, pow_qmin64]; exact h

theorem own_mono_nat {a b a' b' x y : Nat} (hb : 0 < b) (hb' : 0 < b') (h : a * b' ≤ a' * b)
    (h1 : y * b < a) (h2 : a' < x * b')
    (d1 : ((a : Int) - (x : Int) * b).natAbs ≤ ((a : Int) - (y : Int) * b).natAbs)
    (d2 : ((a' : Int) - (y : Int) * b').natAbs ≤ ((a' : Int) - (x : Int) * b').natAbs) : a * b' = a' * b := by
  have l1 : a < x * b := by
    refine Nat.lt_of_mul_lt_mul_right (a := b') ?_
    calc a * b' ≤ a' * b := h
      _ < x * b' * b := Nat.mul_lt_mul_of_pos_right h2 hb
      _ = x * b * b' := by ac_rfl
  have l2 : y * b' < a' := by
    refine Nat.lt_of_mul_lt_mul_right (a := b) ?_
    calc y * b' * b = y * b * b' := by ac_rfl
      _ < a * b' := Nat.mul_lt_mul_of_pos_right h1 hb'
      _ ≤ a' * b := h
  have m1 : x * b + y * b ≤ 2 * a := by
    rw [← Int.natCast_mul, ← Int.natCast_mul] at d1
    omega
  have m2 : 2 * a' ≤ x * b' + y * b' := by
    rw [← Int.natCast_mul, ← Int.natCast_mul] at d2
    omega
  have m3 : 2 * a' * b ≤ (x * b' + y * b') * b := Nat.mul_le_mul_right _ m2
  have m4 : (x * b + y * b) * b' ≤ 2 * a * b' := Nat.mul_le_mul_right _ m1
  have m5 : (x * b' + y * b') * b = (x * b + y * b) * b' := by
    rw [Nat.add_mul, Nat.add_mul]; congr 1 <;> ac_rfl
  rw [Nat.mul_assoc] at m3 m4
  omega

theorem own_rr_mono {s : Bool} {A B A' B' c c' : Nat} {q q' : Int} (hB : 0 < B) (hB' : 0 < B')
    (hx : roundRatio b64 s A B 0 = .fin s c q) (hy : roundRatio b64 s A' B' 0 = .fin s c' q')
    (h : A * B' ≤ A' * B) : zmag b64 (roundRatio b64 s A B 0) ≤ zmag b64 (roundRatio b64 s A' B' 0) := by
  refine Nat.le_of_not_lt fun hlt => ?_
  have fx := roundRatio_fits good_b64 s A hB 0
  have fy := roundRatio_fits good_b64 s A' hB' 0
  have h1 : zmag b64 (roundRatio b64 s A' B' 0) * B < A * one64 := Nat.lt_of_not_le fun hle =>
    Nat.lt_irrefl _ (Nat.lt_of_lt_of_le hlt (own_rr_le hB fy (by rw [hy]; exact Datum.noConfusion) hle))
  have h2 : A' * one64 < zmag b64 (roundRatio b64 s A B 0) * B' := Nat.lt_of_not_le fun hle =>
    Nat.lt_irrefl _ (Nat.lt_of_lt_of_le hlt (own_rr_ge hB' fx hle))
  have zx : zmag b64 (roundRatio b64 s A B 0) = inUnits c q b64.qmin := by rw [hx]; rfl
  have zy : zmag b64 (roundRatio b64 s A' B' 0) = inUnits c' q' b64.qmin := by rw [hy]; rfl
  rw [hx] at fx
  rw [hy] at fy
  have d1 := roundRatio_nearest good_b64 hB hx fy.1 fy.2.1 (Int.le_refl _) (show b64.qmin ≤ 0 by decide)
  have d2 := roundRatio_nearest good_b64 hB' hy fx.1 fx.2.1 (Int.le_refl _) (show b64.qmin ≤ 0 by decide)
  unfold distance at d1 d2
  have u : ∀ A : Nat, inUnits A 0 b64.qmin = A * one64 := by
    intro A; unfold inUnits; rw [Int.zero_sub, pow_qmin64]
  rw [u, ← zx, ← zy] at d1
  rw [u, ← zx, ← zy] at d2
  have hh : A * one64 * B' ≤ A' * one64 * B := by
    calc A * one64 * B' = A * B' * one64 := Nat.mul_right_comm ..
      _ ≤ A' * B * one64 := Nat.mul_le_mul_right _ h
      _ = A' * one64 * B := Nat.mul_right_comm ..
  have e := own_mono_nat hB hB' hh h1 h2 d1 d2
  have e2 : A * B' = A' * B := by
    refine Nat.eq_of_mul_eq_mul_right one64_pos ?_
    calc A * B' * one64 = A * one64 * B' := Nat.mul_right_comm ..
      _ = A' * one64 * B := e
      _ = A' * B * one64 := Nat.mul_right_comm ..
  rw [roundRatio_congr hB hB' (show A * B' * 2 ^ (0 - 0 : Int).toNat = A' * B * 2 ^ (0 - 0 : Int).toNat by rw [e2])] at hlt
  exact Nat.lt_irrefl _ hlt

end own_fl

section own_fl466
open Jvm.FP.Core

theorem own466_one : zmag b64 (val64 4607182418800017408) = one64 := by decide +kernel
theorem own466_two63 : zmag b64 (val64 4890909195324358656) = 9223372036854775808 * one64 := by decide +kernel
theorem own466_tiny : zmag b64 (val64 4323455642275676160) * 9223372036854775808 = one64 := by decide +kernel
theorem own466_onetop : one64 < b64.tails * 2 ^ (b64.exps - 2) := by decide +kernel

theorem own466_rr {n : Int64} (h : 0 ≤ n.toInt) : val64 (l2d n) = roundRatio b64 false n.toInt.toNat 1 0 := by
  have h1 : val64 (l2d n) = roundRatio b64 (decide (n.toInt < 0)) n.toInt.natAbs 1 0 := val64_l2d n
  rw [h1, decide_eq_false (by omega)]
  congr 1
  omega

theorem own466_shape {n : Int64} (h : 0 ≤ n.toInt) : ∃ c q, val64 (l2d n) = .fin false c q := by
  obtain ⟨c, q, e⟩ := l2d_shape n
  rw [decide_eq_false (by omega)] at e
  exact ⟨c, q, e⟩

theorem own466_sgn {n : Int64} (h : 0 ≤ n.toInt) : sgn (val64 (l2d n)) = false := by
  rw [own466_rr h, sgn_roundRatio]

theorem own466_zval {a : UInt64} (h : sgn (val64 a) = false) : zval b64 (val64 a) = (zmag b64 (val64 a) : Int) := by
  unfold zval signed
  rw [h]; rfl

theorem own466_lmono {n m : Int64} (h : 0 ≤ n.toInt) (h1 : n.toInt ≤ m.toInt) :
    zmag b64 (val64 (l2d n)) ≤ zmag b64 (val64 (l2d m)) := by
  obtain ⟨c, q, e⟩ := own466_shape h
  obtain ⟨c', q', e'⟩ := own466_shape (n := m) (by omega)
  rw [own466_rr h] at e ⊢
  rw [own466_rr (n := m) (by omega)] at e' ⊢
  exact own_rr_mono (by decide) (by decide) e e' (by omega)

theorem own466_lge {n : Int64} (h : 1 ≤ n.toInt) : one64 ≤ zmag b64 (val64 (l2d n)) := by
  rw [own466_rr (by omega), ← own466_one]
  refine own_rr_ge (by decide) (val64_fits _) ?_
  rw [own466_one, Nat.mul_one]
  exact Nat.le_mul_of_pos_left _ (by omega)

theorem own466_lle {n : Int64} (h : 0 ≤ n.toInt) : zmag b64 (val64 (l2d n)) ≤ 9223372036854775808 * one64 := by
  rw [own466_rr h, ← own466_two63]
  refine own_rr_le (by decide) (val64_fits _) (by decide +kernel) ?_
  rw [own466_two63, Nat.mul_one]
  exact Nat.mul_le_mul_right _ (by have := n.toInt_lt; omega)

theorem own466_lpos {n : Int64} (h : 1 ≤ n.toInt) : zmag b64 (val64 (l2d n)) ≠ 0 := by
  have := own466_lge h
  have := one64_pos
  omega

theorem own466_pow {n : Int64} {k : Nat} (hk : k ≤ 62) (h : n.toInt = ((2 ^ k : Nat) : Int)) :
    zmag b64 (val64 (l2d n)) = 2 ^ k * one64 := by
  obtain ⟨c, q, e1, e2⟩ := round_exact good_b64 false (c := 1) (q := (k : Int)) (by decide) (by
    rw [show b64.qmin = -1074 from by decide]; omega) (by rw [show b64.qmax = 971 from by decide]; omega)
  have f : Jvm.FP.Core.fits b64 (.fin false c q) := e1 ▸ round_fits good_b64 _
  have z : zmag b64 (.fin false c q) = 2 ^ k * one64 := by
    show inUnits c q b64.qmin = _
    rw [e2, ← pow_qmin64, ← Nat.pow_add]
    unfold inUnits
    rw [Nat.one_mul]
    congr 1
  have hn : n.toInt.toNat = 2 ^ k := by rw [h]; exact Int.toNat_natCast _
  rw [own466_rr (by rw [h]; exact Int.natCast_nonneg _), ← z, hn]
  refine Nat.le_antisymm (own_rr_le (by decide) f Datum.noConfusion ?_) (own_rr_ge (by decide) f ?_)
  · rw [z, Nat.mul_one]; exact Nat.le_refl _
  · rw [z, Nat.mul_one]; exact Nat.le_refl _

theorem own466_part {n : Int64} (h : 0 ≤ n.toInt) {k : Nat} (hk : k ≤ 62) :
    ∃ c q, Jvm.FP.Core.fits b64 (.fin false c q) ∧ zmag b64 (.fin false c q) * 2 ^ k = zmag b64 (val64 (l2d n)) := by
  by_cases h0 : n.toInt = 0
  · refine ⟨0, b64.qmin, zero_fits good_b64 _, ?_⟩
    have : n = 0 := Int64.toInt_inj.mp h0
    subst this
    rw [Jvm.FP.Core.l2d_zero, val64_zero]
    show inUnits 0 b64.qmin b64.qmin * 2 ^ k = inUnits 0 b64.qmin b64.qmin
    unfold inUnits
    rw [Nat.zero_mul, Nat.zero_mul]
  · obtain ⟨c, q, e⟩ := own466_shape h
    have hge := own466_lge (n := n) (by omega)
    have f := val64_fits (l2d n)
    rw [e] at f hge
    change one64 ≤ inUnits c q b64.qmin at hge
    have hc : c < 2 ^ 53 := f.1
    have hq1 := f.2.1
    have hq2 := f.2.2.1
    rw [show b64.qmax = 971 from by decide] at hq2
    have hq : (-53 : Int) ≤ q := by
      refine Int.le_of_not_gt fun hlt => ?_
      have : inUnits c q b64.qmin < one64 := by
        unfold inUnits one64
        rw [show b64.qmin = -1074 from by decide]
        calc c * 2 ^ (q - -1074).toNat < 2 ^ 53 * 2 ^ (q - -1074).toNat := Nat.mul_lt_mul_of_pos_right hc (Nat.two_pow_pos _)
          _ = 2 ^ (53 + (q - -1074).toNat) := (Nat.pow_add ..).symm
          _ ≤ 2 ^ 1074 := Nat.pow_le_pow_right (by decide) (by omega)
      omega
    obtain ⟨c', q', e1, e2⟩ := round_exact good_b64 false (c := c) (q := q - k) hc (by
      rw [show b64.qmin = -1074 from by decide]; omega) (by rw [show b64.qmax = 971 from by decide]; omega)
    refine ⟨c', q', e1 ▸ round_fits good_b64 _, ?_⟩
    show inUnits c' q' b64.qmin * 2 ^ k = _
    rw [e2, e]
    show inUnits c (q - k) b64.qmin * 2 ^ k = inUnits c q b64.qmin
    unfold inUnits
    rw [Nat.mul_assoc, ← Nat.pow_add]
    congr 2
    rw [show b64.qmin = -1074 from by decide]; omega

def own466_hr (h t : Int64) : UInt64 := ddiv (l2d h) (l2d t)

theorem own466_hrr {h t : Int64} (h0 : 0 ≤ h.toInt) (ht : 1 ≤ t.toInt) :
    val64 (own466_hr h t) = roundRatio b64 false (zmag b64 (val64 (l2d h))) (zmag b64 (val64 (l2d t))) 0 := by
  have := own_div_rr (l2d_fin h) (l2d_fin t) (own466_lpos ht)
  rw [own466_sgn h0, own466_sgn (n := t) (by omega)] at this
  exact this

theorem own466_hn {h t : Int64} (h0 : 0 ≤ h.toInt) (ht : 1 ≤ t.toInt) : val64 (own466_hr h t) ≠ .nan := by
  rw [own466_hrr h0 ht]; exact roundRatio_ne_nan _ _ _ _ _

theorem own466_hs {h t : Int64} (h0 : 0 ≤ h.toInt) (ht : 1 ≤ t.toInt) : sgn (val64 (own466_hr h t)) = false := by
  rw [own466_hrr h0 ht]; exact sgn_roundRatio ..

theorem own466_le1 {h t : Int64} (h0 : 0 ≤ h.toInt) (ht : 1 ≤ t.toInt) (hh : h.toInt ≤ t.toInt) :
    zmag b64 (val64 (own466_hr h t)) ≤ one64 := by
  rw [own466_hrr h0 ht, ← own466_one]
  refine own_rr_le (Nat.pos_of_ne_zero (own466_lpos ht)) (val64_fits _) (by decide +kernel) ?_
  rw [own466_one, Nat.mul_comm]
  exact Nat.mul_le_mul_left _ (own466_lmono h0 hh)

theorem own466_hfin {h t : Int64} (h0 : 0 ≤ h.toInt) (ht : 1 ≤ t.toInt) (hh : h.toInt ≤ t.toInt) : DFin (own466_hr h t) :=
  own_fin_of (own466_hn h0 ht) (Nat.lt_of_le_of_lt (own466_le1 h0 ht hh) own466_onetop)

theorem own466_hfin2 {h t : Int64} (h0 : 0 ≤ h.toInt) (ht : 1 ≤ t.toInt) (hh : h.toInt ≤ t.toInt) :
    ∃ c q, val64 (own466_hr h t) = .fin false c q := by
  obtain ⟨s, c, q, e⟩ := own466_hfin h0 ht hh
  have := own466_hs h0 ht
  rw [e] at this
  change s = false at this
  subst this
  exact ⟨c, q, e⟩

theorem own466_mulfin {h t : Int64} (h0 : 0 ≤ h.toInt) (ht : 1 ≤ t.toInt) (hh : h.toInt ≤ t.toInt) :
    val64 (dmul (own466_hr h t) (l2d t)) ≠ .nan := own_mul_nn (own466_hfin h0 ht hh) (l2d_fin t)

theorem own466_exact {h t : Int64} {k : Nat} (hk : k ≤ 62) (ht : t.toInt = ((2 ^ k : Nat) : Int)) (h0 : 0 ≤ h.toInt) (hh : h.toInt ≤ t.toInt) :
    dcmp (dmul (own466_hr h t) (l2d t)) (l2d h) = some .eq := by
  have ht1 : 1 ≤ t.toInt := by have := Nat.two_pow_pos k; omega
  obtain ⟨c, q, f, e⟩ := own466_part h0 hk
  have hz : zmag b64 (val64 (own466_hr h t)) = zmag b64 (.fin false c q) := by
    rw [own466_hrr h0 ht1]
    have e2 : zmag b64 (val64 (l2d h)) * one64 = zmag b64 (.fin false c q) * zmag b64 (val64 (l2d t)) := by
      rw [own466_pow hk ht, ← e, Nat.mul_assoc]
    exact Nat.le_antisymm (own_rr_le (Nat.pos_of_ne_zero (own466_lpos ht1)) f Datum.noConfusion (Nat.le_of_eq e2))
      (own_rr_ge (Nat.pos_of_ne_zero (own466_lpos ht1)) f (Nat.le_of_eq e2.symm))
  rw [dcmp_eq]
  refine ⟨own466_mulfin h0 ht1 hh, (l2d_fin h).ne_nan, ?_⟩
  refine own_mul_eq (own466_hfin h0 ht1 hh) (l2d_fin t) (val64_fits _) (l2d_fin h).ne_nan ?_
  rw [own466_zval (own466_hs h0 ht1), own466_zval (own466_sgn h0), own466_zval (own466_sgn (n := t) (by omega)), hz,
    own466_pow hk ht, ← e, ← Int.natCast_mul, ← Int.natCast_mul, Nat.mul_assoc]

theorem own466_ge0 {h t : Int64} (h0 : 0 ≤ h.toInt) (ht : 1 ≤ t.toInt) :
    dcmp 0 (own466_hr h t) = some .lt ∨ dcmp 0 (own466_hr h t) = some .eq := by
  rw [dcmp_le]
  refine ⟨by decide +kernel, own466_hn h0 ht, ?_⟩
  rw [zval64_zero, own466_zval (own466_hs h0 ht)]; omega

theorem own466_cmp1 {h t : Int64} (h0 : 0 ≤ h.toInt) (ht : 1 ≤ t.toInt) (hh : h.toInt ≤ t.toInt) :
    dcmp (own466_hr h t) 4607182418800017408 = some .lt ∨ dcmp (own466_hr h t) 4607182418800017408 = some .eq := by
  rw [dcmp_le]
  refine ⟨own466_hn h0 ht, by decide +kernel, ?_⟩
  have := own466_le1 h0 ht hh
  rw [own466_zval (own466_hs h0 ht), own466_zval (show sgn (val64 4607182418800017408) = false by decide +kernel), own466_one]
  omega

theorem own466_eq0 {h t : Int64} (h0 : 0 ≤ h.toInt) (ht : 1 ≤ t.toInt) :
    dcmp (own466_hr h t) 0 = some .eq ↔ h.toInt = 0 := by
  rw [dcmp_eq, zval64_zero, own466_zval (own466_hs h0 ht)]
  constructor
  · rintro ⟨_, _, z⟩
    refine Decidable.byContradiction fun hne => ?_
    have h1 := own466_lge (n := h) (by omega)
    have h2 := own466_lle (n := t) (by omega)
    have : zmag b64 (val64 4323455642275676160) ≤ zmag b64 (val64 (own466_hr h t)) := by
      rw [own466_hrr h0 ht]
      refine own_rr_ge (Nat.pos_of_ne_zero (own466_lpos ht)) (val64_fits _) ?_
      calc zmag b64 (val64 4323455642275676160) * zmag b64 (val64 (l2d t))
          ≤ zmag b64 (val64 4323455642275676160) * (9223372036854775808 * one64) := Nat.mul_le_mul_left _ h2
        _ = one64 * one64 := by rw [← Nat.mul_assoc, own466_tiny]
        _ ≤ zmag b64 (val64 (l2d h)) * one64 := Nat.mul_le_mul_right _ h1
    have h3 : 0 < zmag b64 (val64 4323455642275676160) := by decide +kernel
    omega
  · intro hz
    refine ⟨own466_hn h0 ht, by decide +kernel, ?_⟩
    have : h = 0 := Int64.toInt_inj.mp hz
    subst this
    have : zmag b64 (val64 (own466_hr 0 t)) ≤ zmag b64 (val64 0) := by
      rw [own466_hrr h0 ht]
      refine own_rr_le (Nat.pos_of_ne_zero (own466_lpos ht)) (val64_fits _) (by decide +kernel) ?_
      rw [Jvm.FP.Core.l2d_zero, show zmag b64 (val64 0) = 0 from by rw [val64_zero]; exact Nat.zero_mul _, Nat.zero_mul, Nat.zero_mul]
      exact Nat.le_refl _
    rw [show zmag b64 (val64 0) = 0 from by rw [val64_zero]; exact Nat.zero_mul _] at this
    omega

theorem own466_mono {h t u : Int64} (h0 : 0 ≤ h.toInt) (ht : 1 ≤ t.toInt) (hh : h.toInt ≤ t.toInt) (hu : t.toInt ≤ u.toInt) :
    dcmp (own466_hr h u) (own466_hr h t) = some .lt ∨ dcmp (own466_hr h u) (own466_hr h t) = some .eq := by
  rw [dcmp_le]
  refine ⟨own466_hn h0 (by omega), own466_hn h0 ht, ?_⟩
  rw [own466_zval (own466_hs h0 ht), own466_zval (own466_hs h0 (t := u) (by omega))]
  obtain ⟨c, q, e⟩ := own466_hfin2 h0 ht hh
  obtain ⟨c', q', e'⟩ := own466_hfin2 h0 (t := u) (by omega) (by omega)
  rw [own466_hrr h0 ht] at e ⊢
  rw [own466_hrr h0 (t := u) (by omega)] at e' ⊢
  refine Int.ofNat_le.mpr (own_rr_mono (Nat.pos_of_ne_zero (own466_lpos (by omega))) (Nat.pos_of_ne_zero (own466_lpos ht)) e' e ?_)
  exact Nat.mul_le_mul_left _ (own466_lmono (by omega) hu)

end own_fl466


theorem own466_div {h t : Int64} (ht : ¬ t = 0) : Jvm.FP.Core.val64 (Jvm.FP.Core.ddiv (Jvm.FP.Core.l2d h) (Jvm.FP.Core.l2d t)) ≠ .nan := by
  have pb : Jvm.FP.Core.zmag Jvm.FP.Core.b64 (Jvm.FP.Core.val64 (Jvm.FP.Core.l2d t)) ≠ 0 := by
    rw [Jvm.FP.Core.zmag_bits (Jvm.FP.Core.l2d_fin t).ne_nan, Ne, Jvm.FP.Core.unitsOf_eq_zero]
    exact Jvm.FP.Core.l2d_ne_zero ht
  rw [own_div_rr (Jvm.FP.Core.l2d_fin h) (Jvm.FP.Core.l2d_fin t) pb]
  exact Jvm.FP.Core.roundRatio_ne_nan _ _ _ _ _
theorem own_nnd {h t : Int64} (ht : ¬ t = 0) : Jvm.Free.Fl.NoNaN64 (FP.ddiv (FP.l2d h) (FP.l2d t)) :=
  Jvm.Free.Fl.noNaN64_no.mpr ((Jvm.FP.Core.notNaN_iff _).mpr (own466_div ht))
def own_rate (h m : Int64) : UInt64 := if (h + m) = (0 : Int64) then (4607182418800017408 : UInt64) else (FP.ddiv (FP.l2d h) (FP.l2d (h + m)))
theorem own_rate0 : own_rate 0 0 = (4607182418800017408 : UInt64) := by decide
theorem own_rateN {h m : Int64} (h0 : ¬ (h + m) = (0 : Int64)) : own_rate h m = own466_hr h (h + m) := by
  unfold own_rate; rw [if_neg h0]; rfl
theorem own_sum {h m : Int64} (h0 : 0 ≤ h.toInt) (m0 : 0 ≤ m.toInt) (b : h.toInt + m.toInt < 9223372036854775808) : (h + m).toInt = h.toInt + m.toInt := by
  have := c_ladd h m
  have := rng64 (h + m)
  omega
theorem own_le1 {h m : Int64} (h0 : 0 ≤ h.toInt) (m0 : 0 ≤ m.toInt) (b : h.toInt + m.toInt < 9223372036854775808) :
    FP.dcmp (own_rate h m) (4607182418800017408 : UInt64) = some .lt ∨ FP.dcmp (own_rate h m) (4607182418800017408 : UInt64) = some .eq := by
  have s := own_sum h0 m0 b
  by_cases z : (h + m) = (0 : Int64)
  · unfold own_rate; rw [if_pos z]; exact Or.inr (by decide +kernel)
  · rw [own_rateN z]
    have z' : (h + m).toInt ≠ 0 := fun q => z (Int64.toInt_inj.mp q)
    exact own466_cmp1 h0 (by omega) (by omega)
theorem own_mono {h m m' : Int64} (h0 : 0 ≤ h.toInt) (m0 : 0 ≤ m.toInt) (e : m'.toInt = m.toInt + 1) (b : h.toInt + m'.toInt < 9223372036854775808) :
    FP.dcmp (own_rate h m') (own_rate h m) = some .lt ∨ FP.dcmp (own_rate h m') (own_rate h m) = some .eq := by
  have s := own_sum h0 m0 (by omega)
  have s' := own_sum (h := h) (m := m') h0 (by omega) b
  have z' : ¬ (h + m') = (0 : Int64) := by
    intro q
    have := congrArg Int64.toInt q
    rw [s', show (0 : Int64).toInt = 0 from rfl] at this
    omega
  by_cases z : (h + m) = (0 : Int64)
  · have : own_rate h m = (4607182418800017408 : UInt64) := by unfold own_rate; rw [if_pos z]
    rw [this]
    exact own_le1 h0 (by omega) b
  · rw [own_rateN z, own_rateN z']
    have z1 : (h + m).toInt ≠ 0 := fun q => z (Int64.toInt_inj.mp q)
    exact own466_mono h0 (by omega) (by omega) (by omega)
theorem own_ge0 {h m : Int64} (h0 : 0 ≤ h.toInt) (m0 : 0 ≤ m.toInt) (b : h.toInt + m.toInt < 9223372036854775808) :
    FP.dcmp (0 : UInt64) (own_rate h m) = some .lt ∨ FP.dcmp (0 : UInt64) (own_rate h m) = some .eq := by
  have s := own_sum h0 m0 b
  by_cases z : (h + m) = (0 : Int64)
  · unfold own_rate; rw [if_pos z]; exact Or.inl (by decide +kernel)
  · rw [own_rateN z]
    have z' : (h + m).toInt ≠ 0 := fun q => z (Int64.toInt_inj.mp q)
    exact own466_ge0 h0 (by omega)
theorem own_eq0 {h m : Int64} (h0 : 0 ≤ h.toInt) (m0 : 0 ≤ m.toInt) (b : h.toInt + m.toInt < 9223372036854775808) (z : ¬ (h = 0 ∧ m = 0)) :
    FP.dcmp (own_rate h m) (0 : UInt64) = some .eq ↔ h = 0 := by
  have s := own_sum h0 m0 b
  have z1 : ¬ (h + m) = (0 : Int64) := by
    intro q
    have q := congrArg Int64.toInt q
    rw [s, show (0 : Int64).toInt = 0 from rfl] at q
    exact z ⟨Int64.toInt_inj.mp (by rw [show (0 : Int64).toInt = 0 from rfl]; omega), Int64.toInt_inj.mp (by rw [show (0 : Int64).toInt = 0 from rfl]; omega)⟩
  rw [own_rateN z1]
  have z' : (h + m).toInt ≠ 0 := fun q => z1 (Int64.toInt_inj.mp q)
  rw [show h = 0 ↔ h.toInt = 0 from ⟨fun q => by rw [q]; rfl, fun q => Int64.toInt_inj.mp q⟩]
  exact own466_eq0 h0 (by omega)
theorem own_back {h m t : Int64} {k : Nat} (hk : k ≤ 62) (ht : t.toInt = ((2 ^ k : Nat) : Int)) (h0 : 0 ≤ h.toInt) (hh : h.toInt ≤ t.toInt) (e : h + m = t) :
    FP.dcmp (FP.dmul (own_rate h m) (FP.l2d t)) (FP.l2d h) = some .eq ∧ Jvm.Free.Fl.NoNaN64 (FP.dmul (own_rate h m) (FP.l2d t)) := by
  have p := Nat.two_pow_pos k
  have z : ¬ (h + m) = (0 : Int64) := by
    rw [e]
    rintro rfl
    rw [show (0 : Int64).toInt = 0 from rfl] at ht
    omega
  rw [own_rateN z, e]
  exact ⟨own466_exact hk ht h0 hh, Jvm.Free.Fl.noNaN64_no.mpr ((Jvm.FP.Core.notNaN_iff _).mpr (own466_mulfin h0 (by omega) hh))⟩
theorem own_cl {o : Option Ordering} : cmpValue o .l = (0 : Int32) ↔ o = some .eq := by rcases o with _ | (_ | _ | _) <;> decide
theorem own_cg {o : Option Ordering} (h : o = some .lt ∨ o = some .eq) : ¬ (0 : Int32) < cmpValue o .g := by rcases h with h | h <;> rw [h] <;> decide

theorem d2_0 : decode jdk_30_method_1_code 0 = .ok (.aload_n 0, 1) := by decide +kernel
theorem d2_1 : decode jdk_30_method_1_code 1 = .ok (.invokespecial 1, 3) := by decide +kernel
theorem d2_4 : decode jdk_30_method_1_code 4 = .ok (.return_, 1) := by decide +kernel
theorem pn_0 : plainName "java/lang/Record" = true := by first | (simp [plainName, overriddenIn]; done) | decide +kernel
theorem ef_2 (m : MethodId) (o0 : Addr) : entryFrame m #[(.ref o0)] 1 = mkF m 0 #[.val (.ref o0)] [] := by first | (simp [entryFrame, mkF, argsToLocals, Value.category]; done) | rfl

def Q2 (Z : State) (o0 : Addr) (h0 : Heap) (n0 : Nat) (v : Option Value) (h : Heap) (L : List Loc) : Prop := v = none ∧ Fr n0 L ∧ h = h0 ∧ L = []
set_option maxRecDepth 65536 in
set_option maxHeartbeats 40000000 in
theorem rm2 (l : Launch) (Z : State) (a0 : Array Value) (hw : ∀ d ∈ tables_1, d.before a0 Z = true) (ws : List Jvm.Cond) (o0 : Addr) (h0 : Heap) (n0 : Nat) (Z0 : n0 ≤ h0.size)  :
    MetFree l (⟨"java/lang/Record", "<init>", "()V"⟩ : MethodName) (head1 (Jvm.Cond.code (⟨"java/lang/Record", "<init>", "()V"⟩ : MethodName) jdk_30_method_1_code 1 none :: ws) ({ frames := 1, cells := 0, slots := 0, locals := 12 } : Room)) (fun a U => a = #[(.ref o0)] ∧ Z.Warmed39 U.vm ∧ U.heap = h0) (fun _ _ _ _ _ => True) (fun _ U o U' => ∃ v L, o = .returned v ∧ Q2 Z o0 h0 n0 v U'.heap L ∧ FrameEnd U o U' L ({ frames := 1, cells := 0, slots := 0, locals := 12 } : Room).cells ({ frames := 1, cells := 0, slots := 0, locals := 12 } : Room).slots) := by
  refine MetFree.of_bodySF (plainFor_of_name pn_0) hisR ?_
  intro p e s m args below meth c s₁ Bd hml0 hP hK
  obtain ⟨rfl, hZ, hh⟩ := hP
  have hx := Bd.exec
  have hby := Bd.bytes
  have hml : c.maxLocals = 1 := hml0
  have hown : s.vm.findClass "java/lang/Record" = some m.cls := findClass_of_methodNamed Bd.named
  have hnm := (name_of_methodNamed Bd.named Bd.method).1
  have X0 : Stand p l e ({ frames := 1, cells := 0, slots := 0, locals := 12 } : Room) s m #[(.ref o0)] below meth c s₁ [] 0 0 := Stand.of_body Bd
  have e0 : s₁.heap = h0 := by rw [← hh, Bd.state]; rfl
  have N0 := Fr.nil n0
  have pre0 : ∀ t, Steps p.tables e below (s₁.setTop (mkF m 0 #[.val (.ref o0)] [])) t → Steps p.tables e below (s₁.setTop (entryFrame m #[(.ref o0)] 1)) t := fun t k => castTop (ef_2 m o0) k
  obtain ⟨T1, X1, e1, st1⟩ := initO X0 hx hZ hown (hw _ (List.mem_of_getElem? (i := 13) rfl)) (hw _ (List.mem_of_getElem? (i := 14) rfl)) (hw _ (List.mem_of_getElem? (i := 15) rfl)) e0 (g := (mkF m 1 #[.val (.ref o0)] [(.ref o0)])) rfl (by rw [hml]; rfl) rfl (hb hby d2_1) (by decide) (W := 0) (by show 2 * 0 + _ ≤ _; exact Nat.le_of_eq rfl) (by decide)
  have pre2 : ∀ t, Steps p.tables e below (T1.setTop (mkF m 4 #[.val (.ref o0)] [])) t → Steps p.tables e below (s₁.setTop (entryFrame m #[(.ref o0)] 1)) t := fun t k => pre0 t (by
    show Steps p.tables e below (s₁.setTop (mkF m 0 #[.val (.ref o0)] [])) _
    refine XS.aloadN X0.here hx rfl (hb hby d2_0) rfl rfl ?_
    show Steps p.tables e below (s₁.setTop (mkF m 1 #[.val (.ref o0)] [(.ref o0)])) _
    refine st1 _ ?_
    show Steps p.tables e below (T1.setTop (mkF m 4 #[.val (.ref o0)] [])) _
    exact k)
  obtain ⟨fs, hr, hrun, hended, hW, hsame⟩ := X1.leave (v := none) (fun _ => rfl)
  refine ⟨_, _, pre2 _ ?_, hrun, hended, _, _, rfl, ?_, ⟨_, rfl⟩, hW, hsame.mono (by decide) (by decide)⟩
  · exact X1.returnOut hx Bd.returns (hb hby d2_4) hr
  · show Q2 Z o0 h0 n0 _ T1.heap _
    rw [e1]
    exact ⟨rfl, N0, rfl, rfl⟩
theorem d1_0 : decode prog_9_method_1_code 0 = .ok (.aload_n 0, 1) := by decide +kernel
theorem d1_1 : decode prog_9_method_1_code 1 = .ok (.invokespecial 1, 3) := by decide +kernel
theorem d1_4 : decode prog_9_method_1_code 4 = .ok (.aload_n 0, 1) := by decide +kernel
theorem d1_5 : decode prog_9_method_1_code 5 = .ok (.lload_n 1, 1) := by decide +kernel
theorem d1_6 : decode prog_9_method_1_code 6 = .ok (.putfield 7, 3) := by decide +kernel
theorem d1_9 : decode prog_9_method_1_code 9 = .ok (.aload_n 0, 1) := by decide +kernel
theorem d1_10 : decode prog_9_method_1_code 10 = .ok (.lload_n 3, 1) := by decide +kernel
theorem d1_11 : decode prog_9_method_1_code 11 = .ok (.putfield 13, 3) := by decide +kernel
theorem d1_14 : decode prog_9_method_1_code 14 = .ok (.aload_n 0, 1) := by decide +kernel
theorem d1_15 : decode prog_9_method_1_code 15 = .ok (.lload 5, 2) := by decide +kernel
theorem d1_17 : decode prog_9_method_1_code 17 = .ok (.putfield 16, 3) := by decide +kernel
theorem d1_20 : decode prog_9_method_1_code 20 = .ok (.aload_n 0, 1) := by decide +kernel
theorem d1_21 : decode prog_9_method_1_code 21 = .ok (.lload 7, 2) := by decide +kernel
theorem d1_23 : decode prog_9_method_1_code 23 = .ok (.putfield 19, 3) := by decide +kernel
theorem d1_26 : decode prog_9_method_1_code 26 = .ok (.aload_n 0, 1) := by decide +kernel
theorem d1_27 : decode prog_9_method_1_code 27 = .ok (.lload 9, 2) := by decide +kernel
theorem d1_29 : decode prog_9_method_1_code 29 = .ok (.putfield 22, 3) := by decide +kernel
theorem d1_32 : decode prog_9_method_1_code 32 = .ok (.aload_n 0, 1) := by decide +kernel
theorem d1_33 : decode prog_9_method_1_code 33 = .ok (.lload 11, 2) := by decide +kernel
theorem d1_35 : decode prog_9_method_1_code 35 = .ok (.putfield 25, 3) := by decide +kernel
theorem d1_38 : decode prog_9_method_1_code 38 = .ok (.return_, 1) := by decide +kernel
theorem pn_1 : plainName "com/example/sketchgate/sketchgate/model/CacheStats" = true := by first | (simp [plainName, overriddenIn]; done) | decide +kernel
theorem pd_0 : parseMethodDescriptor "()V" = some ⟨[], none⟩ := by decide +kernel
theorem ef_1 (m : MethodId) (o0 : Addr) (q1 : Int64) (q2 : Int64) (q3 : Int64) (q4 : Int64) (q5 : Int64) (q6 : Int64) : entryFrame m #[(.ref o0), (.long q1), (.long q2), (.long q3), (.long q4), (.long q5), (.long q6)] 13 = mkF m 0 #[.val (.ref o0), .val (.long q1), .second, .val (.long q2), .second, .val (.long q3), .second, .val (.long q4), .second, .val (.long q5), .second, .val (.long q6), .second] [] := by first | (simp [entryFrame, mkF, argsToLocals, Value.category]; done) | rfl

def Q1 (Z : State) (o0 : Addr) (q1 : Int64) (q2 : Int64) (q3 : Int64) (q4 : Int64) (q5 : Int64) (q6 : Int64) (w0 w1 w2 w3 w4 w5 : Int64) (h0 : Heap) (n0 : Nat) (v : Option Value) (h : Heap) (L : List Loc) : Prop := v = none ∧ Fr n0 L ∧ Keep h0 h [o0] ∧ (Fld Z h o0 "com/example/sketchgate/sketchgate/model/CacheStats" "hitCount" "J" (.long q1)) ∧ (Fld Z h o0 "com/example/sketchgate/sketchgate/model/CacheStats" "missCount" "J" (.long q2))
set_option maxRecDepth 65536 in
set_option maxHeartbeats 40000000 in
theorem rm1 (l : Launch) (Z : State) (a0 : Array Value) (hw : ∀ d ∈ tables_1, d.before a0 Z = true) (ws : List Jvm.Cond) (o0 : Addr) (q1 : Int64) (q2 : Int64) (q3 : Int64) (q4 : Int64) (q5 : Int64) (q6 : Int64) (w0 w1 w2 w3 w4 w5 : Int64) (h0 : Heap) (n0 : Nat) (Z0 : n0 ≤ h0.size) (F_hitCount_o0 : Fld Z h0 o0 "com/example/sketchgate/sketchgate/model/CacheStats" "hitCount" "J" (.long w0)) (F_missCount_o0 : Fld Z h0 o0 "com/example/sketchgate/sketchgate/model/CacheStats" "missCount" "J" (.long w1)) (F_loadSuccessCount_o0 : Fld Z h0 o0 "com/example/sketchgate/sketchgate/model/CacheStats" "loadSuccessCount" "J" (.long w2)) (F_loadFailureCount_o0 : Fld Z h0 o0 "com/example/sketchgate/sketchgate/model/CacheStats" "loadFailureCount" "J" (.long w3)) (F_totalLoadTime_o0 : Fld Z h0 o0 "com/example/sketchgate/sketchgate/model/CacheStats" "totalLoadTime" "J" (.long w4)) (F_evictionCount_o0 : Fld Z h0 o0 "com/example/sketchgate/sketchgate/model/CacheStats" "evictionCount" "J" (.long w5)) (E_o0 : Exa Z h0 o0 "com/example/sketchgate/sketchgate/model/CacheStats") (g_o0 : n0 ≤ o0) :
    MetFree l (⟨"com/example/sketchgate/sketchgate/model/CacheStats", "<init>", "(JJJJJJ)V"⟩ : MethodName) (head1 (Jvm.Cond.code (⟨"com/example/sketchgate/sketchgate/model/CacheStats", "<init>", "(JJJJJJ)V"⟩ : MethodName) prog_9_method_1_code 13 none :: ws) ({ frames := 2, cells := 0, slots := 0, locals := 24 } : Room)) (fun a U => a = #[(.ref o0), (.long q1), (.long q2), (.long q3), (.long q4), (.long q5), (.long q6)] ∧ Z.Warmed39 U.vm ∧ U.heap = h0) (fun _ _ _ _ _ => True) (fun _ U o U' => ∃ v L, o = .returned v ∧ Q1 Z o0 q1 q2 q3 q4 q5 q6 w0 w1 w2 w3 w4 w5 h0 n0 v U'.heap L ∧ FrameEnd U o U' L ({ frames := 2, cells := 0, slots := 0, locals := 24 } : Room).cells ({ frames := 2, cells := 0, slots := 0, locals := 24 } : Room).slots) := by
  refine MetFree.of_bodySF (plainFor_of_name pn_1) hisR ?_
  intro p e s m args below meth c s₁ Bd hml0 hP hK
  obtain ⟨rfl, hZ, hh⟩ := hP
  have hx := Bd.exec
  have hby := Bd.bytes
  have hml : c.maxLocals = 13 := hml0
  have hown : s.vm.findClass "com/example/sketchgate/sketchgate/model/CacheStats" = some m.cls := findClass_of_methodNamed Bd.named
  have hnm := (name_of_methodNamed Bd.named Bd.method).1
  have X0 : Stand p l e ({ frames := 2, cells := 0, slots := 0, locals := 24 } : Room) s m #[(.ref o0), (.long q1), (.long q2), (.long q3), (.long q4), (.long q5), (.long q6)] below meth c s₁ [] 0 0 := Stand.of_body Bd
  have e0 : s₁.heap = h0 := by rw [← hh, Bd.state]; rfl
  have N0 := Fr.nil n0
  have pre0 : ∀ t, Steps p.tables e below (s₁.setTop (mkF m 0 #[.val (.ref o0), .val (.long q1), .second, .val (.long q2), .second, .val (.long q3), .second, .val (.long q4), .second, .val (.long q5), .second, .val (.long q6), .second] [])) t → Steps p.tables e below (s₁.setTop (entryFrame m #[(.ref o0), (.long q1), (.long q2), (.long q3), (.long q4), (.long q5), (.long q6)] 13)) t := fun t k => castTop (ef_1 m o0 q1 q2 q3 q4 q5 q6) k
  obtain ⟨_, _, ⟨T1, L1, k1, n1⟩, -, X1, ⟨Lc1, hQ1, l1, y1, z1⟩, st1⟩ := X0.specialBack hx (y := (⟨"java/lang/Record", "<init>", "()V"⟩ : MethodName)) rfl hown (mvT hZ (hw _ (List.mem_of_getElem? (i := 8) rfl))) (mvT hZ (hw _ (List.mem_of_getElem? (i := 9) rfl))) (mvT hZ (hw _ (List.mem_of_getElem? (i := 12) rfl))) (by decide) (backOf (W := 0) (rm2 l Z a0 hw [] o0 h0 n0 Z0) hZ (hw _ (List.mem_of_getElem? (i := 12) rfl)) (hw _ (List.mem_of_getElem? (i := 11) rfl)) (by decide) (by decide)) (g := (mkF m 1 #[.val (.ref o0), .val (.long q1), .second, .val (.long q2), .second, .val (.long q3), .second, .val (.long q4), .second, .val (.long q5), .second, .val (.long q6), .second] [(.ref o0)])) rfl (by rw [hml]; rfl) (Steps.refl _) (a := o0) (argsL := []) (rest := []) (lenOf pd_0 rfl) rfl (by show 2 * 0 + _ ≤ _; exact Nat.le_of_eq rfl) (hb hby d1_1) (fun _ _ => ⟨rfl, e0, (by decide : 0 + 0 ≤ _), (by decide : 0 + 0 ≤ _)⟩)
  dsimp only [Pt.U, Pt.locs, Pt.cells, Pt.slots] at X1 l1 y1 z1 st1 hQ1
  subst y1 z1
  obtain ⟨rfl, N1q, hh1, rfl⟩ := hQ1
  have N1 := Fr.app N0 N1q
  rw [← l1] at N1
  obtain ⟨T2, h2, X2, e2, W2, st2⟩ := putF X1 hx hZ hown (host := "") (Or.inl (hw _ (List.mem_of_getElem? (i := 16) rfl))) Via.refl hh1 F_hitCount_o0 E_o0 (Or.inr ⟨(hw _ (List.mem_of_getElem? (i := 17) rfl)), rfl, hnm⟩) (hw _ (List.mem_of_getElem? (i := 3) rfl)) (ty := .long) (by decide) rfl rfl (g := (mkF m 6 #[.val (.ref o0), .val (.long q1), .second, .val (.long q2), .second, .val (.long q3), .second, .val (.long q4), .second, .val (.long q5), .second, .val (.long q6), .second] [(.long q1), (.ref o0)])) rfl rfl (hb hby d1_6)
  have N2 := Fr.snoc X2 N1 g_o0
  have F_hitCount_o0_w2 : Fld Z h2 o0 "com/example/sketchgate/sketchgate/model/CacheStats" "hitCount" "J" (.long q1) := (F_hitCount_o0).same W2
  have F_missCount_o0_3 : Fld Z h2 o0 "com/example/sketchgate/sketchgate/model/CacheStats" "missCount" "J" (.long w1) := (F_missCount_o0).other W2 (Or.inr (slot_ne (Or.inr (hw _ (List.mem_of_getElem? (i := 19) rfl))) (Or.inr (hw _ (List.mem_of_getElem? (i := 17) rfl))) (by decide) (t := .long) (t' := .long) (by decide) (by decide)))
  have F_loadSuccessCount_o0_3 : Fld Z h2 o0 "com/example/sketchgate/sketchgate/model/CacheStats" "loadSuccessCount" "J" (.long w2) := (F_loadSuccessCount_o0).other W2 (Or.inr (slot_ne (Or.inr (hw _ (List.mem_of_getElem? (i := 21) rfl))) (Or.inr (hw _ (List.mem_of_getElem? (i := 17) rfl))) (by decide) (t := .long) (t' := .long) (by decide) (by decide)))
  have F_loadFailureCount_o0_3 : Fld Z h2 o0 "com/example/sketchgate/sketchgate/model/CacheStats" "loadFailureCount" "J" (.long w3) := (F_loadFailureCount_o0).other W2 (Or.inr (slot_ne (Or.inr (hw _ (List.mem_of_getElem? (i := 23) rfl))) (Or.inr (hw _ (List.mem_of_getElem? (i := 17) rfl))) (by decide) (t := .long) (t' := .long) (by decide) (by decide)))
  have F_totalLoadTime_o0_3 : Fld Z h2 o0 "com/example/sketchgate/sketchgate/model/CacheStats" "totalLoadTime" "J" (.long w4) := (F_totalLoadTime_o0).other W2 (Or.inr (slot_ne (Or.inr (hw _ (List.mem_of_getElem? (i := 25) rfl))) (Or.inr (hw _ (List.mem_of_getElem? (i := 17) rfl))) (by decide) (t := .long) (t' := .long) (by decide) (by decide)))
  have F_evictionCount_o0_3 : Fld Z h2 o0 "com/example/sketchgate/sketchgate/model/CacheStats" "evictionCount" "J" (.long w5) := (F_evictionCount_o0).other W2 (Or.inr (slot_ne (Or.inr (hw _ (List.mem_of_getElem? (i := 27) rfl))) (Or.inr (hw _ (List.mem_of_getElem? (i := 17) rfl))) (by decide) (t := .long) (t' := .long) (by decide) (by decide)))
  have E_o0_3 : Exa Z h2 o0 "com/example/sketchgate/sketchgate/model/CacheStats" := (E_o0).wr W2
  have SZ4 : h0.size ≤ h2.size := by rw [W2.size]; exact (Nat.le_refl _)
  have ZZ4 : n0 ≤ h2.size := Nat.le_trans Z0 SZ4
  have K5 : Keep h0 h2 [o0] := ((Keep.refl h0 [o0])).wr W2 (Or.inl (List.mem_of_getElem? (i := 0) rfl))
  obtain ⟨T6, h6, X6, e6, W6, st6⟩ := putF X2 hx hZ hown (host := "") (Or.inl (hw _ (List.mem_of_getElem? (i := 18) rfl))) Via.refl e2 F_missCount_o0_3 E_o0_3 (Or.inr ⟨(hw _ (List.mem_of_getElem? (i := 19) rfl)), rfl, hnm⟩) (hw _ (List.mem_of_getElem? (i := 3) rfl)) (ty := .long) (by decide) rfl rfl (g := (mkF m 11 #[.val (.ref o0), .val (.long q1), .second, .val (.long q2), .second, .val (.long q3), .second, .val (.long q4), .second, .val (.long q5), .second, .val (.long q6), .second] [(.long q2), (.ref o0)])) rfl rfl (hb hby d1_11)
  have N6 := Fr.snoc X6 N2 g_o0
  have F_missCount_o0_w6 : Fld Z h6 o0 "com/example/sketchgate/sketchgate/model/CacheStats" "missCount" "J" (.long q2) := (F_missCount_o0_3).same W6
  have F_loadSuccessCount_o0_7 : Fld Z h6 o0 "com/example/sketchgate/sketchgate/model/CacheStats" "loadSuccessCount" "J" (.long w2) := (F_loadSuccessCount_o0_3).other W6 (Or.inr (slot_ne (Or.inr (hw _ (List.mem_of_getElem? (i := 21) rfl))) (Or.inr (hw _ (List.mem_of_getElem? (i := 19) rfl))) (by decide) (t := .long) (t' := .long) (by decide) (by decide)))
  have F_loadFailureCount_o0_7 : Fld Z h6 o0 "com/example/sketchgate/sketchgate/model/CacheStats" "loadFailureCount" "J" (.long w3) := (F_loadFailureCount_o0_3).other W6 (Or.inr (slot_ne (Or.inr (hw _ (List.mem_of_getElem? (i := 23) rfl))) (Or.inr (hw _ (List.mem_of_getElem? (i := 19) rfl))) (by decide) (t := .long) (t' := .long) (by decide) (by decide)))
  have F_totalLoadTime_o0_7 : Fld Z h6 o0 "com/example/sketchgate/sketchgate/model/CacheStats" "totalLoadTime" "J" (.long w4) := (F_totalLoadTime_o0_3).other W6 (Or.inr (slot_ne (Or.inr (hw _ (List.mem_of_getElem? (i := 25) rfl))) (Or.inr (hw _ (List.mem_of_getElem? (i := 19) rfl))) (by decide) (t := .long) (t' := .long) (by decide) (by decide)))
  have F_evictionCount_o0_7 : Fld Z h6 o0 "com/example/sketchgate/sketchgate/model/CacheStats" "evictionCount" "J" (.long w5) := (F_evictionCount_o0_3).other W6 (Or.inr (slot_ne (Or.inr (hw _ (List.mem_of_getElem? (i := 27) rfl))) (Or.inr (hw _ (List.mem_of_getElem? (i := 19) rfl))) (by decide) (t := .long) (t' := .long) (by decide) (by decide)))
  have E_o0_7 : Exa Z h6 o0 "com/example/sketchgate/sketchgate/model/CacheStats" := (E_o0_3).wr W6
  have F_hitCount_o0_7 : Fld Z h6 o0 "com/example/sketchgate/sketchgate/model/CacheStats" "hitCount" "J" (.long q1) := (F_hitCount_o0_w2).other W6 (Or.inr (slot_ne (Or.inr (hw _ (List.mem_of_getElem? (i := 17) rfl))) (Or.inr (hw _ (List.mem_of_getElem? (i := 19) rfl))) (by decide) (t := .long) (t' := .long) (by decide) (by decide)))
  have SZ8 : h0.size ≤ h6.size := by rw [W6.size]; exact SZ4
  have ZZ8 : n0 ≤ h6.size := Nat.le_trans Z0 SZ8
  have K9 : Keep h0 h6 [o0] := (K5).wr W6 (Or.inl (List.mem_of_getElem? (i := 0) rfl))
  obtain ⟨T10, h10, X10, e10, W10, st10⟩ := putF X6 hx hZ hown (host := "") (Or.inl (hw _ (List.mem_of_getElem? (i := 20) rfl))) Via.refl e6 F_loadSuccessCount_o0_7 E_o0_7 (Or.inr ⟨(hw _ (List.mem_of_getElem? (i := 21) rfl)), rfl, hnm⟩) (hw _ (List.mem_of_getElem? (i := 3) rfl)) (ty := .long) (by decide) rfl rfl (g := (mkF m 17 #[.val (.ref o0), .val (.long q1), .second, .val (.long q2), .second, .val (.long q3), .second, .val (.long q4), .second, .val (.long q5), .second, .val (.long q6), .second] [(.long q3), (.ref o0)])) rfl rfl (hb hby d1_17)
  have N10 := Fr.snoc X10 N6 g_o0
  have F_loadSuccessCount_o0_w10 : Fld Z h10 o0 "com/example/sketchgate/sketchgate/model/CacheStats" "loadSuccessCount" "J" (.long q3) := (F_loadSuccessCount_o0_7).same W10
  have F_loadFailureCount_o0_11 : Fld Z h10 o0 "com/example/sketchgate/sketchgate/model/CacheStats" "loadFailureCount" "J" (.long w3) := (F_loadFailureCount_o0_7).other W10 (Or.inr (slot_ne (Or.inr (hw _ (List.mem_of_getElem? (i := 23) rfl))) (Or.inr (hw _ (List.mem_of_getElem? (i := 21) rfl))) (by decide) (t := .long) (t' := .long) (by decide) (by decide)))
  have F_totalLoadTime_o0_11 : Fld Z h10 o0 "com/example/sketchgate/sketchgate/model/CacheStats" "totalLoadTime" "J" (.long w4) := (F_totalLoadTime_o0_7).other W10 (Or.inr (slot_ne (Or.inr (hw _ (List.mem_of_getElem? (i := 25) rfl))) (Or.inr (hw _ (List.mem_of_getElem? (i := 21) rfl))) (by decide) (t := .long) (t' := .long) (by decide) (by decide)))
  have F_evictionCount_o0_11 : Fld Z h10 o0 "com/example/sketchgate/sketchgate/model/CacheStats" "evictionCount" "J" (.long w5) := (F_evictionCount_o0_7).other W10 (Or.inr (slot_ne (Or.inr (hw _ (List.mem_of_getElem? (i := 27) rfl))) (Or.inr (hw _ (List.mem_of_getElem? (i := 21) rfl))) (by decide) (t := .long) (t' := .long) (by decide) (by decide)))
  have E_o0_11 : Exa Z h10 o0 "com/example/sketchgate/sketchgate/model/CacheStats" := (E_o0_7).wr W10
  have F_hitCount_o0_11 : Fld Z h10 o0 "com/example/sketchgate/sketchgate/model/CacheStats" "hitCount" "J" (.long q1) := (F_hitCount_o0_7).other W10 (Or.inr (slot_ne (Or.inr (hw _ (List.mem_of_getElem? (i := 17) rfl))) (Or.inr (hw _ (List.mem_of_getElem? (i := 21) rfl))) (by decide) (t := .long) (t' := .long) (by decide) (by decide)))
  have F_missCount_o0_11 : Fld Z h10 o0 "com/example/sketchgate/sketchgate/model/CacheStats" "missCount" "J" (.long q2) := (F_missCount_o0_w6).other W10 (Or.inr (slot_ne (Or.inr (hw _ (List.mem_of_getElem? (i := 19) rfl))) (Or.inr (hw _ (List.mem_of_getElem? (i := 21) rfl))) (by decide) (t := .long) (t' := .long) (by decide) (by decide)))
  have SZ12 : h0.size ≤ h10.size := by rw [W10.size]; exact SZ8
  have ZZ12 : n0 ≤ h10.size := Nat.le_trans Z0 SZ12
  have K13 : Keep h0 h10 [o0] := (K9).wr W10 (Or.inl (List.mem_of_getElem? (i := 0) rfl))
  obtain ⟨T14, h14, X14, e14, W14, st14⟩ := putF X10 hx hZ hown (host := "") (Or.inl (hw _ (List.mem_of_getElem? (i := 22) rfl))) Via.refl e10 F_loadFailureCount_o0_11 E_o0_11 (Or.inr ⟨(hw _ (List.mem_of_getElem? (i := 23) rfl)), rfl, hnm⟩) (hw _ (List.mem_of_getElem? (i := 3) rfl)) (ty := .long) (by decide) rfl rfl (g := (mkF m 23 #[.val (.ref o0), .val (.long q1), .second, .val (.long q2), .second, .val (.long q3), .second, .val (.long q4), .second, .val (.long q5), .second, .val (.long q6), .second] [(.long q4), (.ref o0)])) rfl rfl (hb hby d1_23)
  have N14 := Fr.snoc X14 N10 g_o0
  have F_loadFailureCount_o0_w14 : Fld Z h14 o0 "com/example/sketchgate/sketchgate/model/CacheStats" "loadFailureCount" "J" (.long q4) := (F_loadFailureCount_o0_11).same W14
  have F_totalLoadTime_o0_15 : Fld Z h14 o0 "com/example/sketchgate/sketchgate/model/CacheStats" "totalLoadTime" "J" (.long w4) := (F_totalLoadTime_o0_11).other W14 (Or.inr (slot_ne (Or.inr (hw _ (List.mem_of_getElem? (i := 25) rfl))) (Or.inr (hw _ (List.mem_of_getElem? (i := 23) rfl))) (by decide) (t := .long) (t' := .long) (by decide) (by decide)))
  have F_evictionCount_o0_15 : Fld Z h14 o0 "com/example/sketchgate/sketchgate/model/CacheStats" "evictionCount" "J" (.long w5) := (F_evictionCount_o0_11).other W14 (Or.inr (slot_ne (Or.inr (hw _ (List.mem_of_getElem? (i := 27) rfl))) (Or.inr (hw _ (List.mem_of_getElem? (i := 23) rfl))) (by decide) (t := .long) (t' := .long) (by decide) (by decide)))
  have E_o0_15 : Exa Z h14 o0 "com/example/sketchgate/sketchgate/model/CacheStats" := (E_o0_11).wr W14
  have F_hitCount_o0_15 : Fld Z h14 o0 "com/example/sketchgate/sketchgate/model/CacheStats" "hitCount" "J" (.long q1) := (F_hitCount_o0_11).other W14 (Or.inr (slot_ne (Or.inr (hw _ (List.mem_of_getElem? (i := 17) rfl))) (Or.inr (hw _ (List.mem_of_getElem? (i := 23) rfl))) (by decide) (t := .long) (t' := .long) (by decide) (by decide)))
  have F_missCount_o0_15 : Fld Z h14 o0 "com/example/sketchgate/sketchgate/model/CacheStats" "missCount" "J" (.long q2) := (F_missCount_o0_11).other W14 (Or.inr (slot_ne (Or.inr (hw _ (List.mem_of_getElem? (i := 19) rfl))) (Or.inr (hw _ (List.mem_of_getElem? (i := 23) rfl))) (by decide) (t := .long) (t' := .long) (by decide) (by decide)))
  have F_loadSuccessCount_o0_15 : Fld Z h14 o0 "com/example/sketchgate/sketchgate/model/CacheStats" "loadSuccessCount" "J" (.long q3) := (F_loadSuccessCount_o0_w10).other W14 (Or.inr (slot_ne (Or.inr (hw _ (List.mem_of_getElem? (i := 21) rfl))) (Or.inr (hw _ (List.mem_of_getElem? (i := 23) rfl))) (by decide) (t := .long) (t' := .long) (by decide) (by decide)))
  have SZ16 : h0.size ≤ h14.size := by rw [W14.size]; exact SZ12
  have ZZ16 : n0 ≤ h14.size := Nat.le_trans Z0 SZ16
  have K17 : Keep h0 h14 [o0] := (K13).wr W14 (Or.inl (List.mem_of_getElem? (i := 0) rfl))
  obtain ⟨T18, h18, X18, e18, W18, st18⟩ := putF X14 hx hZ hown (host := "") (Or.inl (hw _ (List.mem_of_getElem? (i := 24) rfl))) Via.refl e14 F_totalLoadTime_o0_15 E_o0_15 (Or.inr ⟨(hw _ (List.mem_of_getElem? (i := 25) rfl)), rfl, hnm⟩) (hw _ (List.mem_of_getElem? (i := 3) rfl)) (ty := .long) (by decide) rfl rfl (g := (mkF m 29 #[.val (.ref o0), .val (.long q1), .second, .val (.long q2), .second, .val (.long q3), .second, .val (.long q4), .second, .val (.long q5), .second, .val (.long q6), .second] [(.long q5), (.ref o0)])) rfl rfl (hb hby d1_29)
  have N18 := Fr.snoc X18 N14 g_o0
  have F_totalLoadTime_o0_w18 : Fld Z h18 o0 "com/example/sketchgate/sketchgate/model/CacheStats" "totalLoadTime" "J" (.long q5) := (F_totalLoadTime_o0_15).same W18
  have F_evictionCount_o0_19 : Fld Z h18 o0 "com/example/sketchgate/sketchgate/model/CacheStats" "evictionCount" "J" (.long w5) := (F_evictionCount_o0_15).other W18 (Or.inr (slot_ne (Or.inr (hw _ (List.mem_of_getElem? (i := 27) rfl))) (Or.inr (hw _ (List.mem_of_getElem? (i := 25) rfl))) (by decide) (t := .long) (t' := .long) (by decide) (by decide)))
  have E_o0_19 : Exa Z h18 o0 "com/example/sketchgate/sketchgate/model/CacheStats" := (E_o0_15).wr W18
  have F_hitCount_o0_19 : Fld Z h18 o0 "com/example/sketchgate/sketchgate/model/CacheStats" "hitCount" "J" (.long q1) := (F_hitCount_o0_15).other W18 (Or.inr (slot_ne (Or.inr (hw _ (List.mem_of_getElem? (i := 17) rfl))) (Or.inr (hw _ (List.mem_of_getElem? (i := 25) rfl))) (by decide) (t := .long) (t' := .long) (by decide) (by decide)))
  have F_missCount_o0_19 : Fld Z h18 o0 "com/example/sketchgate/sketchgate/model/CacheStats" "missCount" "J" (.long q2) := (F_missCount_o0_15).other W18 (Or.inr (slot_ne (Or.inr (hw _ (List.mem_of_getElem? (i := 19) rfl))) (Or.inr (hw _ (List.mem_of_getElem? (i := 25) rfl))) (by decide) (t := .long) (t' := .long) (by decide) (by decide)))
  have F_loadSuccessCount_o0_19 : Fld Z h18 o0 "com/example/sketchgate/sketchgate/model/CacheStats" "loadSuccessCount" "J" (.long q3) := (F_loadSuccessCount_o0_15).other W18 (Or.inr (slot_ne (Or.inr (hw _ (List.mem_of_getElem? (i := 21) rfl))) (Or.inr (hw _ (List.mem_of_getElem? (i := 25) rfl))) (by decide) (t := .long) (t' := .long) (by decide) (by decide)))
  have F_loadFailureCount_o0_19 : Fld Z h18 o0 "com/example/sketchgate/sketchgate/model/CacheStats" "loadFailureCount" "J" (.long q4) := (F_loadFailureCount_o0_w14).other W18 (Or.inr (slot_ne (Or.inr (hw _ (List.mem_of_getElem? (i := 23) rfl))) (Or.inr (hw _ (List.mem_of_getElem? (i := 25) rfl))) (by decide) (t := .long) (t' := .long) (by decide) (by decide)))
  have SZ20 : h0.size ≤ h18.size := by rw [W18.size]; exact SZ16
  have ZZ20 : n0 ≤ h18.size := Nat.le_trans Z0 SZ20
  have K21 : Keep h0 h18 [o0] := (K17).wr W18 (Or.inl (List.mem_of_getElem? (i := 0) rfl))
  obtain ⟨T22, h22, X22, e22, W22, st22⟩ := putF X18 hx hZ hown (host := "") (Or.inl (hw _ (List.mem_of_getElem? (i := 26) rfl))) Via.refl e18 F_evictionCount_o0_19 E_o0_19 (Or.inr ⟨(hw _ (List.mem_of_getElem? (i := 27) rfl)), rfl, hnm⟩) (hw _ (List.mem_of_getElem? (i := 3) rfl)) (ty := .long) (by decide) rfl rfl (g := (mkF m 35 #[.val (.ref o0), .val (.long q1), .second, .val (.long q2), .second, .val (.long q3), .second, .val (.long q4), .second, .val (.long q5), .second, .val (.long q6), .second] [(.long q6), (.ref o0)])) rfl rfl (hb hby d1_35)
  have N22 := Fr.snoc X22 N18 g_o0
  have F_evictionCount_o0_w22 : Fld Z h22 o0 "com/example/sketchgate/sketchgate/model/CacheStats" "evictionCount" "J" (.long q6) := (F_evictionCount_o0_19).same W22
  have E_o0_23 : Exa Z h22 o0 "com/example/sketchgate/sketchgate/model/CacheStats" := (E_o0_19).wr W22
  have F_hitCount_o0_23 : Fld Z h22 o0 "com/example/sketchgate/sketchgate/model/CacheStats" "hitCount" "J" (.long q1) := (F_hitCount_o0_19).other W22 (Or.inr (slot_ne (Or.inr (hw _ (List.mem_of_getElem? (i := 17) rfl))) (Or.inr (hw _ (List.mem_of_getElem? (i := 27) rfl))) (by decide) (t := .long) (t' := .long) (by decide) (by decide)))
  have F_missCount_o0_23 : Fld Z h22 o0 "com/example/sketchgate/sketchgate/model/CacheStats" "missCount" "J" (.long q2) := (F_missCount_o0_19).other W22 (Or.inr (slot_ne (Or.inr (hw _ (List.mem_of_getElem? (i := 19) rfl))) (Or.inr (hw _ (List.mem_of_getElem? (i := 27) rfl))) (by decide) (t := .long) (t' := .long) (by decide) (by decide)))
  have F_loadSuccessCount_o0_23 : Fld Z h22 o0 "com/example/sketchgate/sketchgate/model/CacheStats" "loadSuccessCount" "J" (.long q3) := (F_loadSuccessCount_o0_19).other W22 (Or.inr (slot_ne (Or.inr (hw _ (List.mem_of_getElem? (i := 21) rfl))) (Or.inr (hw _ (List.mem_of_getElem? (i := 27) rfl))) (by decide) (t := .long) (t' := .long) (by decide) (by decide)))
  have F_loadFailureCount_o0_23 : Fld Z h22 o0 "com/example/sketchgate/sketchgate/model/CacheStats" "loadFailureCount" "J" (.long q4) := (F_loadFailureCount_o0_19).other W22 (Or.inr (slot_ne (Or.inr (hw _ (List.mem_of_getElem? (i := 23) rfl))) (Or.inr (hw _ (List.mem_of_getElem? (i := 27) rfl))) (by decide) (t := .long) (t' := .long) (by decide) (by decide)))
  have F_totalLoadTime_o0_23 : Fld Z h22 o0 "com/example/sketchgate/sketchgate/model/CacheStats" "totalLoadTime" "J" (.long q5) := (F_totalLoadTime_o0_w18).other W22 (Or.inr (slot_ne (Or.inr (hw _ (List.mem_of_getElem? (i := 25) rfl))) (Or.inr (hw _ (List.mem_of_getElem? (i := 27) rfl))) (by decide) (t := .long) (t' := .long) (by decide) (by decide)))
  have SZ24 : h0.size ≤ h22.size := by rw [W22.size]; exact SZ20
  have ZZ24 : n0 ≤ h22.size := Nat.le_trans Z0 SZ24
  have K25 : Keep h0 h22 [o0] := (K21).wr W22 (Or.inl (List.mem_of_getElem? (i := 0) rfl))
  have pre26 : ∀ t, Steps p.tables e below (T22.setTop (mkF m 38 #[.val (.ref o0), .val (.long q1), .second, .val (.long q2), .second, .val (.long q3), .second, .val (.long q4), .second, .val (.long q5), .second, .val (.long q6), .second] [])) t → Steps p.tables e below (s₁.setTop (entryFrame m #[(.ref o0), (.long q1), (.long q2), (.long q3), (.long q4), (.long q5), (.long q6)] 13)) t := fun t k => pre0 t (by
    show Steps p.tables e below (s₁.setTop (mkF m 0 #[.val (.ref o0), .val (.long q1), .second, .val (.long q2), .second, .val (.long q3), .second, .val (.long q4), .second, .val (.long q5), .second, .val (.long q6), .second] [])) _
    refine XS.aloadN X0.here hx rfl (hb hby d1_0) rfl rfl ?_
    show Steps p.tables e below (s₁.setTop (mkF m 1 #[.val (.ref o0), .val (.long q1), .second, .val (.long q2), .second, .val (.long q3), .second, .val (.long q4), .second, .val (.long q5), .second, .val (.long q6), .second] [(.ref o0)])) _
    refine st1.trans ?_
    show Steps p.tables e below (T1.setTop (mkF m 4 #[.val (.ref o0), .val (.long q1), .second, .val (.long q2), .second, .val (.long q3), .second, .val (.long q4), .second, .val (.long q5), .second, .val (.long q6), .second] [])) _
    refine XS.aloadN X1.here hx rfl (hb hby d1_4) rfl rfl ?_
    show Steps p.tables e below (T1.setTop (mkF m 5 #[.val (.ref o0), .val (.long q1), .second, .val (.long q2), .second, .val (.long q3), .second, .val (.long q4), .second, .val (.long q5), .second, .val (.long q6), .second] [(.ref o0)])) _
    refine XS.lloadN X1.here hx rfl (hb hby d1_5) rfl ?_
    show Steps p.tables e below (T1.setTop (mkF m 6 #[.val (.ref o0), .val (.long q1), .second, .val (.long q2), .second, .val (.long q3), .second, .val (.long q4), .second, .val (.long q5), .second, .val (.long q6), .second] [(.long q1), (.ref o0)])) _
    refine st2 _ ?_
    show Steps p.tables e below (T2.setTop (mkF m 9 #[.val (.ref o0), .val (.long q1), .second, .val (.long q2), .second, .val (.long q3), .second, .val (.long q4), .second, .val (.long q5), .second, .val (.long q6), .second] [])) _
    refine XS.aloadN X2.here hx rfl (hb hby d1_9) rfl rfl ?_
    show Steps p.tables e below (T2.setTop (mkF m 10 #[.val (.ref o0), .val (.long q1), .second, .val (.long q2), .second, .val (.long q3), .second, .val (.long q4), .second, .val (.long q5), .second, .val (.long q6), .second] [(.ref o0)])) _
    refine XS.lloadN X2.here hx rfl (hb hby d1_10) rfl ?_
    show Steps p.tables e below (T2.setTop (mkF m 11 #[.val (.ref o0), .val (.long q1), .second, .val (.long q2), .second, .val (.long q3), .second, .val (.long q4), .second, .val (.long q5), .second, .val (.long q6), .second] [(.long q2), (.ref o0)])) _
    refine st6 _ ?_
    show Steps p.tables e below (T6.setTop (mkF m 14 #[.val (.ref o0), .val (.long q1), .second, .val (.long q2), .second, .val (.long q3), .second, .val (.long q4), .second, .val (.long q5), .second, .val (.long q6), .second] [])) _
    refine XS.aloadN X6.here hx rfl (hb hby d1_14) rfl rfl ?_
    show Steps p.tables e below (T6.setTop (mkF m 15 #[.val (.ref o0), .val (.long q1), .second, .val (.long q2), .second, .val (.long q3), .second, .val (.long q4), .second, .val (.long q5), .second, .val (.long q6), .second] [(.ref o0)])) _
    refine XS.lload X6.here hx rfl (hb hby d1_15) rfl ?_
    show Steps p.tables e below (T6.setTop (mkF m 17 #[.val (.ref o0), .val (.long q1), .second, .val (.long q2), .second, .val (.long q3), .second, .val (.long q4), .second, .val (.long q5), .second, .val (.long q6), .second] [(.long q3), (.ref o0)])) _
    refine st10 _ ?_
    show Steps p.tables e below (T10.setTop (mkF m 20 #[.val (.ref o0), .val (.long q1), .second, .val (.long q2), .second, .val (.long q3), .second, .val (.long q4), .second, .val (.long q5), .second, .val (.long q6), .second] [])) _
    refine XS.aloadN X10.here hx rfl (hb hby d1_20) rfl rfl ?_
    show Steps p.tables e below (T10.setTop (mkF m 21 #[.val (.ref o0), .val (.long q1), .second, .val (.long q2), .second, .val (.long q3), .second, .val (.long q4), .second, .val (.long q5), .second, .val (.long q6), .second] [(.ref o0)])) _
    refine XS.lload X10.here hx rfl (hb hby d1_21) rfl ?_
    show Steps p.tables e below (T10.setTop (mkF m 23 #[.val (.ref o0), .val (.long q1), .second, .val (.long q2), .second, .val (.long q3), .second, .val (.long q4), .second, .val (.long q5), .second, .val (.long q6), .second] [(.long q4), (.ref o0)])) _
    refine st14 _ ?_
    show Steps p.tables e below (T14.setTop (mkF m 26 #[.val (.ref o0), .val (.long q1), .second, .val (.long q2), .second, .val (.long q3), .second, .val (.long q4), .second, .val (.long q5), .second, .val (.long q6), .second] [])) _
    refine XS.aloadN X14.here hx rfl (hb hby d1_26) rfl rfl ?_
    show Steps p.tables e below (T14.setTop (mkF m 27 #[.val (.ref o0), .val (.long q1), .second, .val (.long q2), .second, .val (.long q3), .second, .val (.long q4), .second, .val (.long q5), .second, .val (.long q6), .second] [(.ref o0)])) _
    refine XS.lload X14.here hx rfl (hb hby d1_27) rfl ?_
    show Steps p.tables e below (T14.setTop (mkF m 29 #[.val (.ref o0), .val (.long q1), .second, .val (.long q2), .second, .val (.long q3), .second, .val (.long q4), .second, .val (.long q5), .second, .val (.long q6), .second] [(.long q5), (.ref o0)])) _
    refine st18 _ ?_
    show Steps p.tables e below (T18.setTop (mkF m 32 #[.val (.ref o0), .val (.long q1), .second, .val (.long q2), .second, .val (.long q3), .second, .val (.long q4), .second, .val (.long q5), .second, .val (.long q6), .second] [])) _
    refine XS.aloadN X18.here hx rfl (hb hby d1_32) rfl rfl ?_
    show Steps p.tables e below (T18.setTop (mkF m 33 #[.val (.ref o0), .val (.long q1), .second, .val (.long q2), .second, .val (.long q3), .second, .val (.long q4), .second, .val (.long q5), .second, .val (.long q6), .second] [(.ref o0)])) _
    refine XS.lload X18.here hx rfl (hb hby d1_33) rfl ?_
    show Steps p.tables e below (T18.setTop (mkF m 35 #[.val (.ref o0), .val (.long q1), .second, .val (.long q2), .second, .val (.long q3), .second, .val (.long q4), .second, .val (.long q5), .second, .val (.long q6), .second] [(.long q6), (.ref o0)])) _
    refine st22 _ ?_
    show Steps p.tables e below (T22.setTop (mkF m 38 #[.val (.ref o0), .val (.long q1), .second, .val (.long q2), .second, .val (.long q3), .second, .val (.long q4), .second, .val (.long q5), .second, .val (.long q6), .second] [])) _
    exact k)
  obtain ⟨fs, hr, hrun, hended, hW, hsame⟩ := X22.leave (v := none) (fun _ => rfl)
  refine ⟨_, _, pre26 _ ?_, hrun, hended, _, _, rfl, ?_, ⟨_, rfl⟩, hW, hsame.mono (by decide) (by decide)⟩
  · exact X22.returnOut hx Bd.returns (hb hby d1_38) hr
  · show Q1 Z o0 q1 q2 q3 q4 q5 q6 w0 w1 w2 w3 w4 w5 h0 n0 _ T22.heap _
    rw [e22]
    exact ⟨rfl, N22, K25, F_hitCount_o0_23, F_missCount_o0_23⟩
theorem d5_0 : decode prog_9_method_2_code 0 = .ok (.aload_n 0, 1) := by decide +kernel
theorem d5_1 : decode prog_9_method_2_code 1 = .ok (.getfield 7, 3) := by decide +kernel
theorem d5_4 : decode prog_9_method_2_code 4 = .ok (.aload_n 0, 1) := by decide +kernel
theorem d5_5 : decode prog_9_method_2_code 5 = .ok (.getfield 13, 3) := by decide +kernel
theorem d5_8 : decode prog_9_method_2_code 8 = .ok (.ladd, 1) := by decide +kernel
theorem d5_9 : decode prog_9_method_2_code 9 = .ok (.lreturn, 1) := by decide +kernel
theorem ef_5 (m : MethodId) (o0 : Addr) : entryFrame m #[(.ref o0)] 1 = mkF m 0 #[.val (.ref o0)] [] := by first | (simp [entryFrame, mkF, argsToLocals, Value.category]; done) | rfl

def Q5 (Z : State) (o0 : Addr) (w w2 : Int64) (h0 : Heap) (n0 : Nat) (v : Option Value) (h : Heap) (L : List Loc) : Prop := v = some (.long (w + w2)) ∧ Fr n0 L ∧ h = h0 ∧ L = []
set_option maxRecDepth 65536 in
set_option maxHeartbeats 40000000 in
theorem rm5 (l : Launch) (Z : State) (a0 : Array Value) (hw : ∀ d ∈ tables_1, d.before a0 Z = true) (ws : List Jvm.Cond) (o0 : Addr) (w w2 : Int64) (h0 : Heap) (n0 : Nat) (Z0 : n0 ≤ h0.size) (F_hitCount_o0 : Fld Z h0 o0 "com/example/sketchgate/sketchgate/model/CacheStats" "hitCount" "J" (.long w)) (F_missCount_o0 : Fld Z h0 o0 "com/example/sketchgate/sketchgate/model/CacheStats" "missCount" "J" (.long w2)) :
    MetFree l (⟨"com/example/sketchgate/sketchgate/model/CacheStats", "requestCount", "()J"⟩ : MethodName) (head1 (Jvm.Cond.code (⟨"com/example/sketchgate/sketchgate/model/CacheStats", "requestCount", "()J"⟩ : MethodName) prog_9_method_2_code 1 (some .long) :: ws) ({ frames := 0, cells := 0, slots := 0, locals := 0 } : Room)) (fun a U => a = #[(.ref o0)] ∧ Z.Warmed39 U.vm ∧ U.heap = h0) (fun _ _ _ _ _ => True) (fun _ U o U' => ∃ v L, o = .returned v ∧ Q5 Z o0 w w2 h0 n0 v U'.heap L ∧ FrameEnd U o U' L ({ frames := 0, cells := 0, slots := 0, locals := 0 } : Room).cells ({ frames := 0, cells := 0, slots := 0, locals := 0 } : Room).slots) := by
  refine MetFree.of_bodySF (plainFor_of_name pn_1) hisR ?_
  intro p e s m args below meth c s₁ Bd hml0 hP hK
  obtain ⟨rfl, hZ, hh⟩ := hP
  have hx := Bd.exec
  have hby := Bd.bytes
  have hml : c.maxLocals = 1 := hml0
  have hown : s.vm.findClass "com/example/sketchgate/sketchgate/model/CacheStats" = some m.cls := findClass_of_methodNamed Bd.named
  have hnm := (name_of_methodNamed Bd.named Bd.method).1
  have X0 : Stand p l e ({ frames := 0, cells := 0, slots := 0, locals := 0 } : Room) s m #[(.ref o0)] below meth c s₁ [] 0 0 := Stand.of_body Bd
  have e0 : s₁.heap = h0 := by rw [← hh, Bd.state]; rfl
  have N0 := Fr.nil n0
  have pre0 : ∀ t, Steps p.tables e below (s₁.setTop (mkF m 0 #[.val (.ref o0)] [])) t → Steps p.tables e below (s₁.setTop (entryFrame m #[(.ref o0)] 1)) t := fun t k => castTop (ef_5 m o0) k
  obtain ⟨T1, X1, e1, st1⟩ := getF X0 hx hZ hown (host := "") (Or.inl (hw _ (List.mem_of_getElem? (i := 16) rfl))) Via.refl e0 F_hitCount_o0 (g := (mkF m 1 #[.val (.ref o0)] [(.ref o0)])) rfl rfl (hb hby d5_1)
  obtain ⟨T2, X2, e2, st2⟩ := getF X1 hx hZ hown (host := "") (Or.inl (hw _ (List.mem_of_getElem? (i := 18) rfl))) Via.refl e1 F_missCount_o0 (g := (mkF m 5 #[.val (.ref o0)] [(.ref o0), (.long w)])) rfl rfl (hb hby d5_5)
  have pre3 : ∀ t, Steps p.tables e below (T2.setTop (mkF m 9 #[.val (.ref o0)] [(.long (w + w2))])) t → Steps p.tables e below (s₁.setTop (entryFrame m #[(.ref o0)] 1)) t := fun t k => pre0 t (by
    show Steps p.tables e below (s₁.setTop (mkF m 0 #[.val (.ref o0)] [])) _
    refine XS.aloadN X0.here hx rfl (hb hby d5_0) rfl rfl ?_
    show Steps p.tables e below (s₁.setTop (mkF m 1 #[.val (.ref o0)] [(.ref o0)])) _
    refine st1 _ ?_
    show Steps p.tables e below (T1.setTop (mkF m 4 #[.val (.ref o0)] [(.long w)])) _
    refine XS.aloadN X1.here hx rfl (hb hby d5_4) rfl rfl ?_
    show Steps p.tables e below (T1.setTop (mkF m 5 #[.val (.ref o0)] [(.ref o0), (.long w)])) _
    refine st2 _ ?_
    show Steps p.tables e below (T2.setTop (mkF m 8 #[.val (.ref o0)] [(.long w2), (.long w)])) _
    refine XS.ladd X2.here hx rfl (hb hby d5_8) rfl ?_
    show Steps p.tables e below (T2.setTop (mkF m 9 #[.val (.ref o0)] [(.long (w + w2))])) _
    exact k)
  obtain ⟨fs, hr, hrun, hended, hW, hsame⟩ := X2.leave (v := some (.long (w + w2))) (fun h => by rw [Bd.returns] at h; cases h)
  refine ⟨_, _, pre3 _ ?_, hrun, hended, _, _, rfl, ?_, ⟨_, rfl⟩, hW, hsame.mono (by decide) (by decide)⟩
  · exact retOut X2 hx Bd.returns rfl (Or.inr (Or.inl ⟨rfl, rfl, _, rfl⟩)) (hb hby d5_9) hr
  · show Q5 Z o0 w w2 h0 n0 _ T2.heap _
    rw [e2]
    exact ⟨rfl, N0, rfl, rfl⟩
theorem d4_0 : decode prog_9_method_3_code 0 = .ok (.aload_n 0, 1) := by decide +kernel
theorem d4_1 : decode prog_9_method_3_code 1 = .ok (.invokevirtual 28, 3) := by decide +kernel
theorem d4_4 : decode prog_9_method_3_code 4 = .ok (.lstore_n 1, 1) := by decide +kernel
theorem d4_5 : decode prog_9_method_3_code 5 = .ok (.lload_n 1, 1) := by decide +kernel
theorem d4_6 : decode prog_9_method_3_code 6 = .ok (.lconst 0, 1) := by decide +kernel
theorem d4_7 : decode prog_9_method_3_code 7 = .ok (.lcmp, 1) := by decide +kernel
theorem d4_8 : decode prog_9_method_3_code 8 = .ok (.ifCond .ne 7, 3) := by decide +kernel
theorem d4_11 : decode prog_9_method_3_code 11 = .ok (.dconst 1, 1) := by decide +kernel
theorem d4_12 : decode prog_9_method_3_code 12 = .ok (.goto 11, 3) := by decide +kernel
theorem d4_15 : decode prog_9_method_3_code 15 = .ok (.aload_n 0, 1) := by decide +kernel
theorem d4_16 : decode prog_9_method_3_code 16 = .ok (.getfield 7, 3) := by decide +kernel
theorem d4_19 : decode prog_9_method_3_code 19 = .ok (.l2d, 1) := by decide +kernel
theorem d4_20 : decode prog_9_method_3_code 20 = .ok (.lload_n 1, 1) := by decide +kernel
theorem d4_21 : decode prog_9_method_3_code 21 = .ok (.l2d, 1) := by decide +kernel
theorem d4_22 : decode prog_9_method_3_code 22 = .ok (.ddiv, 1) := by decide +kernel
theorem d4_23 : decode prog_9_method_3_code 23 = .ok (.dreturn, 1) := by decide +kernel
theorem pd_1 : parseMethodDescriptor "()J" = some ⟨[], some .long⟩ := by decide +kernel
theorem ef_4 (m : MethodId) (o0 : Addr) : entryFrame m #[(.ref o0)] 3 = mkF m 0 #[.val (.ref o0), .unset, .unset] [] := by first | (simp [entryFrame, mkF, argsToLocals, Value.category]; done) | rfl

def Q4 (Z : State) (o0 : Addr) (w w2 : Int64) (h0 : Heap) (n0 : Nat) (v : Option Value) (h : Heap) (L : List Loc) : Prop := v = some (.double (own_rate w w2)) ∧ Fr n0 L ∧ h = h0
set_option maxRecDepth 65536 in
set_option maxHeartbeats 40000000 in
theorem rm4 (l : Launch) (Z : State) (a0 : Array Value) (hw : ∀ d ∈ tables_1, d.before a0 Z = true) (ws : List Jvm.Cond) (o0 : Addr) (w w2 : Int64) (h0 : Heap) (n0 : Nat) (Z0 : n0 ≤ h0.size) (F_hitCount_o0 : Fld Z h0 o0 "com/example/sketchgate/sketchgate/model/CacheStats" "hitCount" "J" (.long w)) (F_missCount_o0 : Fld Z h0 o0 "com/example/sketchgate/sketchgate/model/CacheStats" "missCount" "J" (.long w2)) (E_o0 : Exa Z h0 o0 "com/example/sketchgate/sketchgate/model/CacheStats") :
    MetFree l (⟨"com/example/sketchgate/sketchgate/model/CacheStats", "hitRate", "()D"⟩ : MethodName) (head1 (Jvm.Cond.code (⟨"com/example/sketchgate/sketchgate/model/CacheStats", "hitRate", "()D"⟩ : MethodName) prog_9_method_3_code 3 (some .double) :: ws) ({ frames := 1, cells := 0, slots := 0, locals := 12 } : Room)) (fun a U => a = #[(.ref o0)] ∧ Z.Warmed39 U.vm ∧ U.heap = h0) (fun _ _ _ _ _ => True) (fun _ U o U' => ∃ v L, o = .returned v ∧ Q4 Z o0 w w2 h0 n0 v U'.heap L ∧ FrameEnd U o U' L ({ frames := 1, cells := 0, slots := 0, locals := 12 } : Room).cells ({ frames := 1, cells := 0, slots := 0, locals := 12 } : Room).slots) := by
  refine MetFree.of_bodySF (plainFor_of_name pn_1) hisR ?_
  intro p e s m args below meth c s₁ Bd hml0 hP hK
  obtain ⟨rfl, hZ, hh⟩ := hP
  have hx := Bd.exec
  have hby := Bd.bytes
  have hml : c.maxLocals = 3 := hml0
  have hown : s.vm.findClass "com/example/sketchgate/sketchgate/model/CacheStats" = some m.cls := findClass_of_methodNamed Bd.named
  have hnm := (name_of_methodNamed Bd.named Bd.method).1
  have X0 : Stand p l e ({ frames := 1, cells := 0, slots := 0, locals := 12 } : Room) s m #[(.ref o0)] below meth c s₁ [] 0 0 := Stand.of_body Bd
  have e0 : s₁.heap = h0 := by rw [← hh, Bd.state]; rfl
  have N0 := Fr.nil n0
  have pre0 : ∀ t, Steps p.tables e below (s₁.setTop (mkF m 0 #[.val (.ref o0), .unset, .unset] [])) t → Steps p.tables e below (s₁.setTop (entryFrame m #[(.ref o0)] 3)) t := fun t k => castTop (ef_4 m o0) k
  obtain ⟨cq1, kq1, q1a, q1b, q1c⟩ := isOf hZ e0 (E_o0)
  obtain ⟨_, _, ⟨T1, L1, k1, n1⟩, -, X1, ⟨Lc1, hQ1, l1, y1, z1⟩, st1⟩ := X0.virtualBack hx (y := (⟨"com/example/sketchgate/sketchgate/model/CacheStats", "requestCount", "()J"⟩ : MethodName)) (z := (⟨"com/example/sketchgate/sketchgate/model/CacheStats", "requestCount", "()J"⟩ : MethodName)) hown (mvT hZ (hw _ (List.mem_of_getElem? (i := 33) rfl))) (mvT hZ (hw _ (List.mem_of_getElem? (i := 34) rfl))) (notFace_of_selects (args := #[]) (mvT hZ (hw _ (List.mem_of_getElem? (i := 36) rfl)))) (mvT hZ (hw _ (List.mem_of_getElem? (i := 36) rfl))) (mvT hZ (hw _ (List.mem_of_getElem? (i := 35) rfl))) (by decide) (backOf (W := 0) (rm5 l Z a0 hw [] o0 w w2 h0 n0 Z0 F_hitCount_o0 F_missCount_o0) hZ (hw _ (List.mem_of_getElem? (i := 37) rfl)) (hw _ (List.mem_of_getElem? (i := 4) rfl)) (by decide) (by decide)) q1a q1c (g := (mkF m 1 #[.val (.ref o0), .unset, .unset] [(.ref o0)])) rfl (by rw [hml]; rfl) (Steps.refl _) (argsL := []) (rest := []) (lenOf pd_1 rfl) rfl (by show 2 * 0 + _ ≤ _; exact Nat.le_of_eq rfl) (hb hby d4_1) (fun _ _ => ⟨rfl, e0, (by decide : 0 + 0 ≤ _), (by decide : 0 + 0 ≤ _)⟩)
  dsimp only [Pt.U, Pt.locs, Pt.cells, Pt.slots] at X1 l1 y1 z1 st1 hQ1
  subst y1 z1
  obtain ⟨rfl, N1q, hh1, rfl⟩ := hQ1
  have N1 := Fr.app N0 N1q
  rw [← l1] at N1
  have pre2 : ∀ t, Steps p.tables e below (T1.setTop (mkF m 8 #[.val (.ref o0), .val (.long (w + w2)), .second] [(.int (lcmpW (w + w2) (0 : Int64)))])) t → Steps p.tables e below (s₁.setTop (entryFrame m #[(.ref o0)] 3)) t := fun t k => pre0 t (by
    show Steps p.tables e below (s₁.setTop (mkF m 0 #[.val (.ref o0), .unset, .unset] [])) _
    refine XS.aloadN X0.here hx rfl (hb hby d4_0) rfl rfl ?_
    show Steps p.tables e below (s₁.setTop (mkF m 1 #[.val (.ref o0), .unset, .unset] [(.ref o0)])) _
    refine st1.trans ?_
    show Steps p.tables e below (T1.setTop (mkF m 4 #[.val (.ref o0), .unset, .unset] [(.long (w + w2))])) _
    refine XS.lstoreN X1.here hx rfl (hb hby d4_4) rfl (l' := #[.val (.ref o0), .val (.long (w + w2)), .second]) rfl ?_
    show Steps p.tables e below (T1.setTop (mkF m 5 #[.val (.ref o0), .val (.long (w + w2)), .second] [])) _
    refine XS.lloadN X1.here hx rfl (hb hby d4_5) rfl ?_
    show Steps p.tables e below (T1.setTop (mkF m 6 #[.val (.ref o0), .val (.long (w + w2)), .second] [(.long (w + w2))])) _
    refine XS.lconst X1.here hx rfl (hb hby d4_6) ?_
    show Steps p.tables e below (T1.setTop (mkF m 7 #[.val (.ref o0), .val (.long (w + w2)), .second] [(.long (0 : Int64)), (.long (w + w2))])) _
    refine XS.lcmp X1.here hx rfl (hb hby d4_7) rfl ?_
    show Steps p.tables e below (T1.setTop (mkF m 8 #[.val (.ref o0), .val (.long (w + w2)), .second] [(.int (lcmpW (w + w2) (0 : Int64)))])) _
    exact k)
  by_cases hs3 : (w + w2) = (0 : Int64)
  · have pre4 : ∀ t, Steps p.tables e below (T1.setTop (mkF m 23 #[.val (.ref o0), .val (.long (w + w2)), .second] [(.double (4607182418800017408 : UInt64))])) t → Steps p.tables e below (s₁.setTop (entryFrame m #[(.ref o0)] 3)) t := fun t k => pre2 t (by
      refine XS.ifNo X1.here hx rfl (hb hby d4_8) rfl (own_eqL hs3).2 ?_
      show Steps p.tables e below (T1.setTop (mkF m 11 #[.val (.ref o0), .val (.long (w + w2)), .second] [])) _
      refine XS.dconst1 X1.here hx rfl (v := (4607182418800017408 : UInt64)) (hb hby d4_11) rfl ?_
      show Steps p.tables e below (T1.setTop (mkF m 12 #[.val (.ref o0), .val (.long (w + w2)), .second] [(.double (4607182418800017408 : UInt64))])) _
      refine XS.goto X1.here hx rfl (pc0 := 12) (pc' := 23) rfl (hb hby d4_12) (by decide) (by decide) ?_
      show Steps p.tables e below (T1.setTop (mkF m 23 #[.val (.ref o0), .val (.long (w + w2)), .second] [(.double (4607182418800017408 : UInt64))])) _
      exact k)
    obtain ⟨fs, hr, hrun, hended, hW, hsame⟩ := X1.leave (v := some (.double (4607182418800017408 : UInt64))) (fun h => by rw [Bd.returns] at h; cases h)
    refine ⟨_, _, pre4 _ ?_, hrun, hended, _, _, rfl, ?_, ⟨_, rfl⟩, hW, hsame.mono (by decide) (by decide)⟩
    · exact retOut X1 hx Bd.returns rfl (Or.inr (Or.inr (Or.inl ⟨rfl, rfl, _, rfl⟩))) (hb hby d4_23) hr
    · show Q4 Z o0 w w2 h0 n0 _ T1.heap _
      rw [hh1]
      exact ⟨congrArg (fun z => some (Value.double z)) (show _ = own_rate w w2 by unfold own_rate; rw [if_pos hs3]), N1, rfl⟩
  · obtain ⟨T5, X5, e5, st5⟩ := getF X1 hx hZ hown (host := "") (Or.inl (hw _ (List.mem_of_getElem? (i := 16) rfl))) Via.refl hh1 F_hitCount_o0 (g := (mkF m 16 #[.val (.ref o0), .val (.long (w + w2)), .second] [(.ref o0)])) rfl rfl (hb hby d4_16)
    have pre6 : ∀ t, Steps p.tables e below (T5.setTop (mkF m 23 #[.val (.ref o0), .val (.long (w + w2)), .second] [(.double (FP.ddiv (FP.l2d w) (FP.l2d (w + w2))))])) t → Steps p.tables e below (s₁.setTop (entryFrame m #[(.ref o0)] 3)) t := fun t k => pre2 t (by
      refine XS.ifYes X1.here hx rfl (pc0 := 8) (pc' := 15) rfl (hb hby d4_8) rfl (own_neL hs3).2 (by decide) (by decide) ?_
      show Steps p.tables e below (T1.setTop (mkF m 15 #[.val (.ref o0), .val (.long (w + w2)), .second] [])) _
      refine XS.aloadN X1.here hx rfl (hb hby d4_15) rfl rfl ?_
      show Steps p.tables e below (T1.setTop (mkF m 16 #[.val (.ref o0), .val (.long (w + w2)), .second] [(.ref o0)])) _
      refine st5 _ ?_
      show Steps p.tables e below (T5.setTop (mkF m 19 #[.val (.ref o0), .val (.long (w + w2)), .second] [(.long w)])) _
      refine XS.l2dS X5.here hx rfl (hb hby d4_19) rfl rfl ?_
      show Steps p.tables e below (T5.setTop (mkF m 20 #[.val (.ref o0), .val (.long (w + w2)), .second] [(.double (FP.l2d w))])) _
      refine XS.lloadN X5.here hx rfl (hb hby d4_20) rfl ?_
      show Steps p.tables e below (T5.setTop (mkF m 21 #[.val (.ref o0), .val (.long (w + w2)), .second] [(.long (w + w2)), (.double (FP.l2d w))])) _
      refine XS.l2dS X5.here hx rfl (hb hby d4_21) rfl rfl ?_
      show Steps p.tables e below (T5.setTop (mkF m 22 #[.val (.ref o0), .val (.long (w + w2)), .second] [(.double (FP.l2d (w + w2))), (.double (FP.l2d w))])) _
      refine XS.ddivS X5.here hx rfl (hb hby d4_22) rfl (own_nnd hs3) rfl ?_
      show Steps p.tables e below (T5.setTop (mkF m 23 #[.val (.ref o0), .val (.long (w + w2)), .second] [(.double (FP.ddiv (FP.l2d w) (FP.l2d (w + w2))))])) _
      exact k)
    obtain ⟨fs, hr, hrun, hended, hW, hsame⟩ := X5.leave (v := some (.double (FP.ddiv (FP.l2d w) (FP.l2d (w + w2))))) (fun h => by rw [Bd.returns] at h; cases h)
    refine ⟨_, _, pre6 _ ?_, hrun, hended, _, _, rfl, ?_, ⟨_, rfl⟩, hW, hsame.mono (by decide) (by decide)⟩
    · exact retOut X5 hx Bd.returns rfl (Or.inr (Or.inr (Or.inl ⟨rfl, rfl, _, rfl⟩))) (hb hby d4_23) hr
    · show Q4 Z o0 w w2 h0 n0 _ T5.heap _
      rw [e5]
      exact ⟨congrArg (fun z => some (Value.double z)) (show _ = own_rate w w2 by unfold own_rate; rw [if_neg hs3]), N1, rfl⟩
theorem pn_2 : plainName "com/example/sketchgate/sketchgate/model/CacheStatsHitRatePinLaw" = true := by first | (simp [plainName, overriddenIn]; done) | decide +kernel
theorem pd_2 : parseMethodDescriptor "(JJJJJJ)V" = some ⟨[.long, .long, .long, .long, .long, .long], none⟩ := by decide +kernel
theorem pd_3 : parseMethodDescriptor "()D" = some ⟨[], some .double⟩ := by decide +kernel
theorem ef_0 (m : MethodId) (q0 : Int64) (q1 : Int64) (p2 : Int32) (q3 : Int64) (q4 : Int64) (q5 : Int64) : entryFrame m #[(.long q0), (.long q1), (.int p2), (.long q3), (.long q4), (.long q5)] maxLocals = mkF m 0 #[.val (.long q0), .second, .val (.long q1), .second, .val (.int p2), .val (.long q3), .second, .val (.long q4), .second, .val (.long q5), .second, .unset, .unset, .unset, .unset, .unset, .unset, .unset, .unset, .unset, .unset, .unset, .unset, .unset, .unset, .unset, .unset, .unset, .unset, .unset, .unset, .unset, .unset, .unset] [] := by first | (simp [entryFrame, mkF, argsToLocals, Value.category, maxLocals]; done) | rfl
def f0_8 (p2 : Int32) : Int32 := ((p2 &&& (2147483647 : Int32)) % (63 : Int32))
def f0_14 (p2 : Int32) : Int64 := ((1 : Int64) <<< ((f0_8 p2) &&& 0x3f).toInt64)
def f0_26 (q0 : Int64) (p2 : Int32) : Int64 := ((q0 &&& (9223372036854775807 : Int64)) - ((q0 &&& (9223372036854775807 : Int64)) / ((f0_14 p2) + (1 : Int64))) * ((f0_14 p2) + (1 : Int64)))
def f0_124 (q0 : Int64) : Int64 := (((q0 &&& (9223372036854775807 : Int64)).toUInt64 >>> ((1 : Int32) &&& 0x3f).toInt64.toUInt64).toInt64)
def f0_133 (q1 : Int64) : Int64 := (((q1 &&& (9223372036854775807 : Int64)).toUInt64 >>> ((1 : Int32) &&& 0x3f).toInt64.toUInt64).toInt64)
def f0_243 (q0 : Int64) (q1 : Int64) : Int32 := (if (f0_124 q0) = (0 : Int64) then (if (f0_133 q1) = (0 : Int64) then (if (cmpValue (FP.dcmp (own_rate (f0_124 q0) (f0_133 q1)) (4607182418800017408 : UInt64)) .l) = (0 : Int32) then (1 : Int32) else (0 : Int32)) else (if (0 : Int32) < (cmpValue (FP.dcmp (0 : UInt64) (own_rate (f0_124 q0) (f0_133 q1))) .g) then (0 : Int32) else (if (0 : Int32) < (cmpValue (FP.dcmp (own_rate (f0_124 q0) (f0_133 q1)) (4607182418800017408 : UInt64)) .g) then (0 : Int32) else (if (cmpValue (FP.dcmp (own_rate (f0_124 q0) (f0_133 q1)) (0 : UInt64)) .l) = (0 : Int32) then (1 : Int32) else (0 : Int32))))) else (if (0 : Int32) < (cmpValue (FP.dcmp (0 : UInt64) (own_rate (f0_124 q0) (f0_133 q1))) .g) then (0 : Int32) else (if (0 : Int32) < (cmpValue (FP.dcmp (own_rate (f0_124 q0) (f0_133 q1)) (4607182418800017408 : UInt64)) .g) then (0 : Int32) else (if (cmpValue (FP.dcmp (own_rate (f0_124 q0) (f0_133 q1)) (0 : UInt64)) .l) = (0 : Int32) then (0 : Int32) else (1 : Int32)))))

theorem own_k (p2 : Int32) : ∃ n : Fin 63, f0_8 p2 = n.1.toInt32 := by
  obtain ⟨h0, h1⟩ := c_and p2 2147483647 (by decide)
  have e : (f0_8 p2).toInt = (p2 &&& 2147483647).toInt.tmod 63 := Int32.toInt_mod _ _
  have h2 := Int.tmod_nonneg 63 h0
  have h3 := Int.tmod_lt_of_pos (p2 &&& 2147483647).toInt (show (0 : Int) < 63 by decide)
  exact own_fin (N := 63) (by rw [e]; exact h2) (by rw [e]; exact h3) (by decide)
theorem own_shl : ∀ n : Fin 63, ((1 : Int64) <<< ((n.1.toInt32) &&& 0x3f).toInt64).toInt = ((2 ^ n.1 : Nat) : Int) := by decide +kernel
theorem own_tot (p2 : Int32) : ∃ k : Nat, k ≤ 62 ∧ (f0_14 p2).toInt = ((2 ^ k : Nat) : Int) := by
  obtain ⟨n, e⟩ := own_k p2
  refine ⟨n.1, by have := n.2; omega, ?_⟩
  unfold f0_14
  rw [e]
  exact own_shl n
theorem own_totb (p2 : Int32) : 1 ≤ (f0_14 p2).toInt ∧ (f0_14 p2).toInt ≤ 4611686018427387904 := by
  obtain ⟨k, hk, e⟩ := own_tot p2
  have h1 := Nat.two_pow_pos k
  have h2 : 2 ^ k ≤ 2 ^ 62 := Nat.pow_le_pow_right (by decide) hk
  rw [show (2 : Nat) ^ 62 = 4611686018427387904 from rfl] at h2
  rw [e]
  omega
theorem own_tot1 (p2 : Int32) : ((f0_14 p2) + (1 : Int64)).toInt = (f0_14 p2).toInt + 1 := by
  have := own_totb p2
  have h := own_sum (h := f0_14 p2) (m := 1) (by omega) (by decide) (by rw [show (1 : Int64).toInt = 1 from rfl]; omega)
  rw [h]; rfl
theorem own_nz25 (p2 : Int32) : ((f0_14 p2) + (1 : Int64)) ≠ 0 := by
  intro q
  have h := own_tot1 p2
  have := own_totb p2
  rw [q, show (0 : Int64).toInt = 0 from rfl] at h
  omega
theorem own_h (q0 : Int64) (p2 : Int32) : 0 ≤ (f0_26 q0 p2).toInt ∧ (f0_26 q0 p2).toInt ≤ (f0_14 p2).toInt := by
  have e := c_maskL q0 9223372036854775807 63 (by decide) (by decide)
  have p : 0 ≤ (q0 &&& (9223372036854775807 : Int64)).toInt := by rw [e]; omega
  have b := own_totb p2
  have r := (c_lrem (q0 &&& (9223372036854775807 : Int64)) ((f0_14 p2) + (1 : Int64)) ((f0_14 p2).toInt + 1) (own_tot1 p2)).1 p
  have r2 : (f0_26 q0 p2).toInt = (q0 &&& (9223372036854775807 : Int64)).toInt % ((f0_14 p2).toInt + 1) := r
  have g1 := Int.emod_nonneg (q0 &&& (9223372036854775807 : Int64)).toInt (show (f0_14 p2).toInt + 1 ≠ 0 by omega)
  have g2 := Int.emod_lt_of_pos (q0 &&& (9223372036854775807 : Int64)).toInt (show 0 < (f0_14 p2).toInt + 1 by omega)
  omega
theorem own_back0 (q0 : Int64) (p2 : Int32) : FP.dcmp (FP.dmul (own_rate (f0_26 q0 p2) ((f0_14 p2) - (f0_26 q0 p2))) (FP.l2d (f0_14 p2))) (FP.l2d (f0_26 q0 p2)) = some .eq ∧ Jvm.Free.Fl.NoNaN64 (FP.dmul (own_rate (f0_26 q0 p2) ((f0_14 p2) - (f0_26 q0 p2))) (FP.l2d (f0_14 p2))) := by
  obtain ⟨k, hk, e⟩ := own_tot p2
  obtain ⟨h0, h1⟩ := own_h q0 p2
  refine own_back hk e h0 h1 ?_
  apply Int64.toInt_inj.mp
  have a1 := c_ladd (f0_26 q0 p2) ((f0_14 p2) - (f0_26 q0 p2))
  have a2 := c_lsub (f0_14 p2) (f0_26 q0 p2)
  have a3 := rng64 ((f0_26 q0 p2) + ((f0_14 p2) - (f0_26 q0 p2)))
  have a4 := rng64 (f0_14 p2)
  omega
theorem own_nn67 (q0 : Int64) (p2 : Int32) : Jvm.Free.Fl.NoNaN64 (FP.dmul (own_rate (f0_26 q0 p2) ((f0_14 p2) - (f0_26 q0 p2))) (FP.l2d (f0_14 p2))) := (own_back0 q0 p2).2
theorem own_c72 (q0 : Int64) (p2 : Int32) : (cmpValue (FP.dcmp (FP.dmul (own_rate (f0_26 q0 p2) ((f0_14 p2) - (f0_26 q0 p2))) (FP.l2d (f0_14 p2))) (FP.l2d (f0_26 q0 p2))) .l) = (0 : Int32) := own_cl.mpr (own_back0 q0 p2).1
theorem own_g1 (q0 : Int64) : 0 ≤ (f0_124 q0).toInt ∧ (f0_124 q0).toInt < 4611686018427387904 := by
  have e := c_maskL q0 9223372036854775807 63 (by decide) (by decide)
  have r := c_lushr (q0 &&& (9223372036854775807 : Int64)) 1 1 (by decide) (by decide)
  have r2 : (f0_124 q0).toInt = ((q0 &&& (9223372036854775807 : Int64)).toInt % 18446744073709551616) / (2 ^ 1 : Nat) := r
  rw [show ((2 ^ 1 : Nat) : Int) = 2 from rfl] at r2
  rw [show ((2 ^ 63 : Nat) : Int) = 9223372036854775808 from rfl] at e
  omega
theorem own_g2 (q1 : Int64) : 0 ≤ (f0_133 q1).toInt ∧ (f0_133 q1).toInt < 4611686018427387904 := own_g1 q1
theorem own_c275 (q0 q1 : Int64) : ¬ ((0 : Int32) < (cmpValue (FP.dcmp (own_rate (f0_124 q0) ((f0_133 q1) + (1 : Int64))) (own_rate (f0_124 q0) (f0_133 q1))) .g)) := by
  have h1 := own_g1 q0
  have h2 := own_g2 q1
  have e : ((f0_133 q1) + (1 : Int64)).toInt = (f0_133 q1).toInt + 1 := by
    rw [own_sum h2.1 (by decide) (by rw [show (1 : Int64).toInt = 1 from rfl]; omega)]; rfl
  exact own_cg (own_mono h1.1 h2.1 e (by omega))
theorem own_c297 (q0 q1 : Int64) : ¬ ((f0_243 q0 q1) = (0 : Int32)) := by
  have h1 := own_g1 q0
  have h2 := own_g2 q1
  have b : (f0_124 q0).toInt + (f0_133 q1).toInt < 9223372036854775808 := by omega
  have a0 := own_cg (own_ge0 h1.1 h2.1 b)
  have a1 := own_cg (own_le1 h1.1 h2.1 b)
  have a2 := own_eq0 h1.1 h2.1 b
  unfold f0_243
  by_cases z1 : (f0_124 q0) = (0 : Int64)
  · rw [if_pos z1]
    by_cases z2 : (f0_133 q1) = (0 : Int64)
    · rw [if_pos z2, z1, z2, own_rate0, if_pos (own_cl.mpr (by decide +kernel))]
      decide
    · rw [if_neg z2, if_neg a0, if_neg a1, if_pos (own_cl.mpr ((a2 (fun q => z2 q.2)).mpr z1))]
      decide
  · rw [if_neg z1, if_neg a0, if_neg a1, if_neg (fun q => z1 ((a2 (fun q => z1 q.1)).mp (own_cl.mp q)))]
    decide
def Q0 (Z : State) (q0 : Int64) (q1 : Int64) (p2 : Int32) (q3 : Int64) (q4 : Int64) (q5 : Int64) (h0 : Heap) (n0 : Nat) (v : Option Value) (h : Heap) (L : List Loc) : Prop := v = some (.int 1) ∧ Fr n0 L
set_option maxRecDepth 65536 in
set_option maxHeartbeats 40000000 in
theorem rm0 (l : Launch) (Z : State) (a0 : Array Value) (hw : ∀ d ∈ tables_1, d.before a0 Z = true) (ws : List Jvm.Cond) (q0 : Int64) (q1 : Int64) (p2 : Int32) (q3 : Int64) (q4 : Int64) (q5 : Int64) (h0 : Heap) (n0 : Nat) (Z0 : n0 ≤ h0.size)  :
    MetFree l x (head1 (Jvm.Cond.code x code maxLocals ret :: ws) room_1) (fun a U => a = #[(.long q0), (.long q1), (.int p2), (.long q3), (.long q4), (.long q5)] ∧ Z.Warmed39 U.vm ∧ U.heap = h0) (fun _ _ _ _ _ => True) (fun _ U o U' => ∃ v L, o = .returned v ∧ Q0 Z q0 q1 p2 q3 q4 q5 h0 n0 v U'.heap L ∧ FrameEnd U o U' L room_1.cells room_1.slots) := by
  refine MetFree.of_bodySF (plainFor_of_name pn_2) hisR ?_
  intro p e s m args below meth c s₁ Bd hml0 hP hK
  obtain ⟨rfl, hZ, hh⟩ := hP
  have hx := Bd.exec
  have hby := Bd.bytes
  have hml : c.maxLocals = 34 := hml0
  have hown : s.vm.findClass "com/example/sketchgate/sketchgate/model/CacheStatsHitRatePinLaw" = some m.cls := findClass_of_methodNamed Bd.named
  have hnm := (name_of_methodNamed Bd.named Bd.method).1
  have X0 : Stand p l e room_1 s m #[(.long q0), (.long q1), (.int p2), (.long q3), (.long q4), (.long q5)] below meth c s₁ [] 0 0 := Stand.of_body Bd
  have e0 : s₁.heap = h0 := by rw [← hh, Bd.state]; rfl
  have N0 := Fr.nil n0
  have pre0 : ∀ t, Steps p.tables e below (s₁.setTop (mkF m 0 #[.val (.long q0), .second, .val (.long q1), .second, .val (.int p2), .val (.long q3), .second, .val (.long q4), .second, .val (.long q5), .second, .unset, .unset, .unset, .unset, .unset, .unset, .unset, .unset, .unset, .unset, .unset, .unset, .unset, .unset, .unset, .unset, .unset, .unset, .unset, .unset, .unset, .unset, .unset] [])) t → Steps p.tables e below (s₁.setTop (entryFrame m #[(.long q0), (.long q1), (.int p2), (.long q3), (.long q4), (.long q5)] maxLocals)) t := fun t k => castTop (ef_0 m q0 q1 p2 q3 q4 q5) k
  obtain ⟨T1, h1, X1, e1, Ex1, Ne1, D1, -, st1⟩ := newO X0 hx hZ hown (hw _ (List.mem_of_getElem? (i := 2) rfl)) (hw _ (List.mem_of_getElem? (i := 3) rfl)) (hw _ (List.mem_of_getElem? (i := 4) rfl)) e0 (g := (mkF m 35 #[.val (.long q0), .second, .val (.long q1), .second, .val (.int p2), .val (.long q3), .second, .val (.long q4), .second, .val (.long q5), .second, .val (.int (f0_8 p2)), .val (.long (f0_14 p2)), .second, .val (.long (f0_26 q0 p2)), .second, .val (.long ((f0_14 p2) - (f0_26 q0 p2))), .second, .unset, .unset, .unset, .unset, .unset, .unset, .unset, .unset, .unset, .unset, .unset, .unset, .unset, .unset, .unset, .unset] [])) rfl (hb hby at_35) (by decide) (by decide)
  obtain ⟨b1, g1⟩ : ∃ z, z = h0.size := ⟨_, rfl⟩
  rw [← g1] at Ne1 D1 st1
  have g_b1 : n0 ≤ b1 := Nat.le_trans (Nat.le_trans Z0 (Nat.le_refl _)) (Nat.le_of_eq g1.symm)
  have sz_b1 : h0.size ≤ b1 := Nat.le_trans (Nat.le_refl _) (Nat.le_of_eq g1.symm)
  have SZ3 : h0.size ≤ h1.size := Nat.le_trans (Nat.le_refl _) Ex1.1
  have ZZ3 : n0 ≤ h1.size := Nat.le_trans Z0 SZ3
  have K4 : Keep h0 h1 [] := ((Keep.refl h0 [])).ext Ex1
  have F_hitCount_b1_1 : Fld Z h1 b1 "com/example/sketchgate/sketchgate/model/CacheStats" "hitCount" "J" (.long (0 : Int64)) := D1 (Or.inr (hw _ (List.mem_of_getElem? (i := 17) rfl))) (ty := .long) (by decide)
  have F_missCount_b1_1 : Fld Z h1 b1 "com/example/sketchgate/sketchgate/model/CacheStats" "missCount" "J" (.long (0 : Int64)) := D1 (Or.inr (hw _ (List.mem_of_getElem? (i := 19) rfl))) (ty := .long) (by decide)
  have F_loadSuccessCount_b1_1 : Fld Z h1 b1 "com/example/sketchgate/sketchgate/model/CacheStats" "loadSuccessCount" "J" (.long (0 : Int64)) := D1 (Or.inr (hw _ (List.mem_of_getElem? (i := 21) rfl))) (ty := .long) (by decide)
  have F_loadFailureCount_b1_1 : Fld Z h1 b1 "com/example/sketchgate/sketchgate/model/CacheStats" "loadFailureCount" "J" (.long (0 : Int64)) := D1 (Or.inr (hw _ (List.mem_of_getElem? (i := 23) rfl))) (ty := .long) (by decide)
  have F_totalLoadTime_b1_1 : Fld Z h1 b1 "com/example/sketchgate/sketchgate/model/CacheStats" "totalLoadTime" "J" (.long (0 : Int64)) := D1 (Or.inr (hw _ (List.mem_of_getElem? (i := 25) rfl))) (ty := .long) (by decide)
  have F_evictionCount_b1_1 : Fld Z h1 b1 "com/example/sketchgate/sketchgate/model/CacheStats" "evictionCount" "J" (.long (0 : Int64)) := D1 (Or.inr (hw _ (List.mem_of_getElem? (i := 27) rfl))) (ty := .long) (by decide)
  obtain ⟨_, _, ⟨T5, L5, k5, n5⟩, -, X5, ⟨Lc5, hQ5, l5, y5, z5⟩, st5⟩ := X1.specialBack hx (y := (⟨"com/example/sketchgate/sketchgate/model/CacheStats", "<init>", "(JJJJJJ)V"⟩ : MethodName)) rfl hown (mvT hZ (hw _ (List.mem_of_getElem? (i := 5) rfl))) (mvT hZ (hw _ (List.mem_of_getElem? (i := 6) rfl))) (mvT hZ (hw _ (List.mem_of_getElem? (i := 7) rfl))) (by decide) (backOf (W := 1) (rm1 l Z a0 hw [] b1 (f0_26 q0 p2) ((f0_14 p2) - (f0_26 q0 p2)) q3 q4 q5 q0 (0 : Int64) (0 : Int64) (0 : Int64) (0 : Int64) (0 : Int64) (0 : Int64) h1 n0 ZZ3 F_hitCount_b1_1 F_missCount_b1_1 F_loadSuccessCount_b1_1 F_loadFailureCount_b1_1 F_totalLoadTime_b1_1 F_evictionCount_b1_1 Ne1 g_b1) hZ (hw _ (List.mem_of_getElem? (i := 7) rfl)) (hw _ (List.mem_of_getElem? (i := 4) rfl)) (by decide) (by decide)) (g := (mkF m 50 #[.val (.long q0), .second, .val (.long q1), .second, .val (.int p2), .val (.long q3), .second, .val (.long q4), .second, .val (.long q5), .second, .val (.int (f0_8 p2)), .val (.long (f0_14 p2)), .second, .val (.long (f0_26 q0 p2)), .second, .val (.long ((f0_14 p2) - (f0_26 q0 p2))), .second, .unset, .unset, .unset, .unset, .unset, .unset, .unset, .unset, .unset, .unset, .unset, .unset, .unset, .unset, .unset, .unset] [(.long q0), (.long q5), (.long q4), (.long q3), (.long ((f0_14 p2) - (f0_26 q0 p2))), (.long (f0_26 q0 p2)), (.ref b1), (.ref b1)])) rfl (by rw [hml]; rfl) (Steps.refl _) (a := b1) (argsL := [(.long (f0_26 q0 p2)), (.long ((f0_14 p2) - (f0_26 q0 p2))), (.long q3), (.long q4), (.long q5), (.long q0)]) (rest := [(.ref b1)]) (lenOf pd_2 rfl) rfl (by show 2 * 0 + _ ≤ _; exact Nat.le_of_eq rfl) (hb hby at_50) (fun _ _ => ⟨rfl, e1, (by decide : 1 + 0 ≤ _), (by decide : 6 + 0 ≤ _)⟩)
  dsimp only [Pt.U, Pt.locs, Pt.cells, Pt.slots] at X5 l5 y5 z5 st5 hQ5
  subst y5 z5
  obtain ⟨rfl, N5q, Kc5, P5_0, P5_1⟩ := hQ5
  have N5 := Fr.app N0 N5q
  rw [← l5] at N5
  have E_b1_6 : Exa Z T5.heap b1 "com/example/sketchgate/sketchgate/model/CacheStats" := (Ne1).keep Kc5
  have SZ7 : h0.size ≤ T5.heap.size := Nat.le_trans SZ3 Kc5.1
  have ZZ7 : n0 ≤ T5.heap.size := Nat.le_trans Z0 SZ7
  have K8 : Keep h0 T5.heap [] := (K4).trans Kc5 (allS (Or.inr sz_b1) all0)
  obtain ⟨cq9, kq9, q9a, q9b, q9c⟩ := isOf hZ rfl (E_b1_6)
  obtain ⟨_, _, ⟨T9, L9, k9, n9⟩, -, X9, ⟨Lc9, hQ9, l9, y9, z9⟩, st9⟩ := X5.virtualBack hx (y := (⟨"com/example/sketchgate/sketchgate/model/CacheStats", "hitRate", "()D"⟩ : MethodName)) (z := (⟨"com/example/sketchgate/sketchgate/model/CacheStats", "hitRate", "()D"⟩ : MethodName)) hown (mvT hZ (hw _ (List.mem_of_getElem? (i := 28) rfl))) (mvT hZ (hw _ (List.mem_of_getElem? (i := 29) rfl))) (notFace_of_selects (args := #[]) (mvT hZ (hw _ (List.mem_of_getElem? (i := 31) rfl)))) (mvT hZ (hw _ (List.mem_of_getElem? (i := 31) rfl))) (mvT hZ (hw _ (List.mem_of_getElem? (i := 30) rfl))) (by decide) (backOf (W := 0) (rm4 l Z a0 hw [] b1 (f0_26 q0 p2) ((f0_14 p2) - (f0_26 q0 p2)) T5.heap n0 ZZ7 P5_0 P5_1 E_b1_6) hZ (hw _ (List.mem_of_getElem? (i := 32) rfl)) (hw _ (List.mem_of_getElem? (i := 4) rfl)) (by decide) (by decide)) q9a q9c (g := (mkF m 57 #[.val (.long q0), .second, .val (.long q1), .second, .val (.int p2), .val (.long q3), .second, .val (.long q4), .second, .val (.long q5), .second, .val (.int (f0_8 p2)), .val (.long (f0_14 p2)), .second, .val (.long (f0_26 q0 p2)), .second, .val (.long ((f0_14 p2) - (f0_26 q0 p2))), .second, .val (.ref b1), .unset, .unset, .unset, .unset, .unset, .unset, .unset, .unset, .unset, .unset, .unset, .unset, .unset, .unset, .unset] [(.ref b1)])) rfl (by rw [hml]; rfl) (Steps.refl _) (argsL := []) (rest := []) (lenOf pd_3 rfl) rfl (by show 2 * 0 + _ ≤ _; exact Nat.le_of_eq rfl) (hb hby at_57) (fun _ _ => ⟨rfl, rfl, (by decide : 1 + 0 ≤ _), (by decide : 6 + 0 ≤ _)⟩)
  dsimp only [Pt.U, Pt.locs, Pt.cells, Pt.slots] at X9 l9 y9 z9 st9 hQ9
  subst y9 z9
  obtain ⟨rfl, N9q, hh9⟩ := hQ9
  have N9 := Fr.app N5 N9q
  rw [← l9] at N9
  obtain ⟨T10, h10, X10, e10, Ex10, Ne10, D10, -, st10⟩ := newO X9 hx hZ hown (hw _ (List.mem_of_getElem? (i := 2) rfl)) (hw _ (List.mem_of_getElem? (i := 3) rfl)) (hw _ (List.mem_of_getElem? (i := 4) rfl)) hh9 (g := (mkF m 82 #[.val (.long q0), .second, .val (.long q1), .second, .val (.int p2), .val (.long q3), .second, .val (.long q4), .second, .val (.long q5), .second, .val (.int (f0_8 p2)), .val (.long (f0_14 p2)), .second, .val (.long (f0_26 q0 p2)), .second, .val (.long ((f0_14 p2) - (f0_26 q0 p2))), .second, .val (.ref b1), .val (.double (own_rate (f0_26 q0 p2) ((f0_14 p2) - (f0_26 q0 p2)))), .second, .val (.int (1 : Int32)), .unset, .unset, .unset, .unset, .unset, .unset, .unset, .unset, .unset, .unset, .unset, .unset] [])) rfl (hb hby at_82) (by decide) (by decide)
  obtain ⟨b10, g10⟩ : ∃ z, z = T5.heap.size := ⟨_, rfl⟩
  rw [← g10] at Ne10 D10 st10
  have ne_b1_b10 : b1 ≠ b10 := by rw [g10]; exact Nat.ne_of_lt (E_b1_6).lt
  have g_b10 : n0 ≤ b10 := Nat.le_trans (Nat.le_trans Z0 SZ7) (Nat.le_of_eq g10.symm)
  have sz_b10 : h0.size ≤ b10 := Nat.le_trans SZ7 (Nat.le_of_eq g10.symm)
  have E_b1_11 : Exa Z h10 b1 "com/example/sketchgate/sketchgate/model/CacheStats" := (E_b1_6).ext Ex10
  have F_hitCount_b1_11 : Fld Z h10 b1 "com/example/sketchgate/sketchgate/model/CacheStats" "hitCount" "J" (.long (f0_26 q0 p2)) := (P5_0).ext Ex10
  have F_missCount_b1_11 : Fld Z h10 b1 "com/example/sketchgate/sketchgate/model/CacheStats" "missCount" "J" (.long ((f0_14 p2) - (f0_26 q0 p2))) := (P5_1).ext Ex10
  have SZ12 : h0.size ≤ h10.size := Nat.le_trans SZ7 Ex10.1
  have ZZ12 : n0 ≤ h10.size := Nat.le_trans Z0 SZ12
  have K13 : Keep h0 h10 [] := (K8).ext Ex10
  have F_hitCount_b10_10 : Fld Z h10 b10 "com/example/sketchgate/sketchgate/model/CacheStats" "hitCount" "J" (.long (0 : Int64)) := D10 (Or.inr (hw _ (List.mem_of_getElem? (i := 17) rfl))) (ty := .long) (by decide)
  have F_missCount_b10_10 : Fld Z h10 b10 "com/example/sketchgate/sketchgate/model/CacheStats" "missCount" "J" (.long (0 : Int64)) := D10 (Or.inr (hw _ (List.mem_of_getElem? (i := 19) rfl))) (ty := .long) (by decide)
  have F_loadSuccessCount_b10_10 : Fld Z h10 b10 "com/example/sketchgate/sketchgate/model/CacheStats" "loadSuccessCount" "J" (.long (0 : Int64)) := D10 (Or.inr (hw _ (List.mem_of_getElem? (i := 21) rfl))) (ty := .long) (by decide)
  have F_loadFailureCount_b10_10 : Fld Z h10 b10 "com/example/sketchgate/sketchgate/model/CacheStats" "loadFailureCount" "J" (.long (0 : Int64)) := D10 (Or.inr (hw _ (List.mem_of_getElem? (i := 23) rfl))) (ty := .long) (by decide)
  have F_totalLoadTime_b10_10 : Fld Z h10 b10 "com/example/sketchgate/sketchgate/model/CacheStats" "totalLoadTime" "J" (.long (0 : Int64)) := D10 (Or.inr (hw _ (List.mem_of_getElem? (i := 25) rfl))) (ty := .long) (by decide)
  have F_evictionCount_b10_10 : Fld Z h10 b10 "com/example/sketchgate/sketchgate/model/CacheStats" "evictionCount" "J" (.long (0 : Int64)) := D10 (Or.inr (hw _ (List.mem_of_getElem? (i := 27) rfl))) (ty := .long) (by decide)
  obtain ⟨_, _, ⟨T14, L14, k14, n14⟩, -, X14, ⟨Lc14, hQ14, l14, y14, z14⟩, st14⟩ := X10.specialBack hx (y := (⟨"com/example/sketchgate/sketchgate/model/CacheStats", "<init>", "(JJJJJJ)V"⟩ : MethodName)) rfl hown (mvT hZ (hw _ (List.mem_of_getElem? (i := 5) rfl))) (mvT hZ (hw _ (List.mem_of_getElem? (i := 6) rfl))) (mvT hZ (hw _ (List.mem_of_getElem? (i := 7) rfl))) (by decide) (backOf (W := 1) (rm1 l Z a0 hw [] b10 (0 : Int64) (0 : Int64) q3 q4 q5 q1 (0 : Int64) (0 : Int64) (0 : Int64) (0 : Int64) (0 : Int64) (0 : Int64) h10 n0 ZZ12 F_hitCount_b10_10 F_missCount_b10_10 F_loadSuccessCount_b10_10 F_loadFailureCount_b10_10 F_totalLoadTime_b10_10 F_evictionCount_b10_10 Ne10 g_b10) hZ (hw _ (List.mem_of_getElem? (i := 7) rfl)) (hw _ (List.mem_of_getElem? (i := 4) rfl)) (by decide) (by decide)) (g := (mkF m 95 #[.val (.long q0), .second, .val (.long q1), .second, .val (.int p2), .val (.long q3), .second, .val (.long q4), .second, .val (.long q5), .second, .val (.int (f0_8 p2)), .val (.long (f0_14 p2)), .second, .val (.long (f0_26 q0 p2)), .second, .val (.long ((f0_14 p2) - (f0_26 q0 p2))), .second, .val (.ref b1), .val (.double (own_rate (f0_26 q0 p2) ((f0_14 p2) - (f0_26 q0 p2)))), .second, .val (.int (1 : Int32)), .unset, .unset, .unset, .unset, .unset, .unset, .unset, .unset, .unset, .unset, .unset, .unset] [(.long q1), (.long q5), (.long q4), (.long q3), (.long (0 : Int64)), (.long (0 : Int64)), (.ref b10), (.ref b10)])) rfl (by rw [hml]; rfl) (Steps.refl _) (a := b10) (argsL := [(.long (0 : Int64)), (.long (0 : Int64)), (.long q3), (.long q4), (.long q5), (.long q1)]) (rest := [(.ref b10)]) (lenOf pd_2 rfl) rfl (by show 2 * 0 + _ ≤ _; exact Nat.le_of_eq rfl) (hb hby at_95) (fun _ _ => ⟨rfl, e10, (by decide : 2 + 0 ≤ _), (by decide : 12 + 0 ≤ _)⟩)
  dsimp only [Pt.U, Pt.locs, Pt.cells, Pt.slots] at X14 l14 y14 z14 st14 hQ14
  subst y14 z14
  obtain ⟨rfl, N14q, Kc14, P14_0, P14_1⟩ := hQ14
  have N14 := Fr.app N9 N14q
  rw [← l14] at N14
  have E_b1_15 : Exa Z T14.heap b1 "com/example/sketchgate/sketchgate/model/CacheStats" := (E_b1_11).keep Kc14
  have F_hitCount_b1_15 : Fld Z T14.heap b1 "com/example/sketchgate/sketchgate/model/CacheStats" "hitCount" "J" (.long (f0_26 q0 p2)) := (F_hitCount_b1_11).keep Kc14 (ninS ne_b1_b10 nin0)
  have F_missCount_b1_15 : Fld Z T14.heap b1 "com/example/sketchgate/sketchgate/model/CacheStats" "missCount" "J" (.long ((f0_14 p2) - (f0_26 q0 p2))) := (F_missCount_b1_11).keep Kc14 (ninS ne_b1_b10 nin0)
  have E_b10_15 : Exa Z T14.heap b10 "com/example/sketchgate/sketchgate/model/CacheStats" := (Ne10).keep Kc14
  have SZ16 : h0.size ≤ T14.heap.size := Nat.le_trans SZ12 Kc14.1
  have ZZ16 : n0 ≤ T14.heap.size := Nat.le_trans Z0 SZ16
  have K17 : Keep h0 T14.heap [] := (K13).trans Kc14 (allS (Or.inr sz_b10) all0)
  obtain ⟨cq18, kq18, q18a, q18b, q18c⟩ := isOf hZ rfl (E_b10_15)
  obtain ⟨_, _, ⟨T18, L18, k18, n18⟩, -, X18, ⟨Lc18, hQ18, l18, y18, z18⟩, st18⟩ := X14.virtualBack hx (y := (⟨"com/example/sketchgate/sketchgate/model/CacheStats", "hitRate", "()D"⟩ : MethodName)) (z := (⟨"com/example/sketchgate/sketchgate/model/CacheStats", "hitRate", "()D"⟩ : MethodName)) hown (mvT hZ (hw _ (List.mem_of_getElem? (i := 28) rfl))) (mvT hZ (hw _ (List.mem_of_getElem? (i := 29) rfl))) (notFace_of_selects (args := #[]) (mvT hZ (hw _ (List.mem_of_getElem? (i := 31) rfl)))) (mvT hZ (hw _ (List.mem_of_getElem? (i := 31) rfl))) (mvT hZ (hw _ (List.mem_of_getElem? (i := 30) rfl))) (by decide) (backOf (W := 0) (rm4 l Z a0 hw [] b10 (0 : Int64) (0 : Int64) T14.heap n0 ZZ16 P14_0 P14_1 E_b10_15) hZ (hw _ (List.mem_of_getElem? (i := 32) rfl)) (hw _ (List.mem_of_getElem? (i := 4) rfl)) (by decide) (by decide)) q18a q18c (g := (mkF m 102 #[.val (.long q0), .second, .val (.long q1), .second, .val (.int p2), .val (.long q3), .second, .val (.long q4), .second, .val (.long q5), .second, .val (.int (f0_8 p2)), .val (.long (f0_14 p2)), .second, .val (.long (f0_26 q0 p2)), .second, .val (.long ((f0_14 p2) - (f0_26 q0 p2))), .second, .val (.ref b1), .val (.double (own_rate (f0_26 q0 p2) ((f0_14 p2) - (f0_26 q0 p2)))), .second, .val (.int (1 : Int32)), .val (.ref b10), .unset, .unset, .unset, .unset, .unset, .unset, .unset, .unset, .unset, .unset, .unset] [(.ref b10)])) rfl (by rw [hml]; rfl) (Steps.refl _) (argsL := []) (rest := []) (lenOf pd_3 rfl) rfl (by show 2 * 0 + _ ≤ _; exact Nat.le_of_eq rfl) (hb hby at_102) (fun _ _ => ⟨rfl, rfl, (by decide : 2 + 0 ≤ _), (by decide : 12 + 0 ≤ _)⟩)
  dsimp only [Pt.U, Pt.locs, Pt.cells, Pt.slots] at X18 l18 y18 z18 st18 hQ18
  subst y18 z18
  obtain ⟨rfl, N18q, hh18⟩ := hQ18
  have N18 := Fr.app N14 N18q
  rw [← l18] at N18
  obtain ⟨T19, h19, X19, e19, Ex19, Ne19, D19, -, st19⟩ := newO X18 hx hZ hown (hw _ (List.mem_of_getElem? (i := 2) rfl)) (hw _ (List.mem_of_getElem? (i := 3) rfl)) (hw _ (List.mem_of_getElem? (i := 4) rfl)) hh18 (g := (mkF m 135 #[.val (.long q0), .second, .val (.long q1), .second, .val (.int p2), .val (.long q3), .second, .val (.long q4), .second, .val (.long q5), .second, .val (.int (f0_8 p2)), .val (.long (f0_14 p2)), .second, .val (.long (f0_26 q0 p2)), .second, .val (.long ((f0_14 p2) - (f0_26 q0 p2))), .second, .val (.ref b1), .val (.double (own_rate (f0_26 q0 p2) ((f0_14 p2) - (f0_26 q0 p2)))), .second, .val (.int (1 : Int32)), .val (.ref b10), .val (.int (1 : Int32)), .val (.long (f0_124 q0)), .second, .val (.long (f0_133 q1)), .second, .unset, .unset, .unset, .unset, .unset, .unset] [])) rfl (hb hby at_135) (by decide) (by decide)
  obtain ⟨b19, g19⟩ : ∃ z, z = T14.heap.size := ⟨_, rfl⟩
  rw [← g19] at Ne19 D19 st19
  have ne_b1_b19 : b1 ≠ b19 := by rw [g19]; exact Nat.ne_of_lt (E_b1_15).lt
  have ne_b10_b19 : b10 ≠ b19 := by rw [g19]; exact Nat.ne_of_lt (E_b10_15).lt
  have g_b19 : n0 ≤ b19 := Nat.le_trans (Nat.le_trans Z0 SZ16) (Nat.le_of_eq g19.symm)
  have sz_b19 : h0.size ≤ b19 := Nat.le_trans SZ16 (Nat.le_of_eq g19.symm)
  have E_b1_20 : Exa Z h19 b1 "com/example/sketchgate/sketchgate/model/CacheStats" := (E_b1_15).ext Ex19
  have F_hitCount_b1_20 : Fld Z h19 b1 "com/example/sketchgate/sketchgate/model/CacheStats" "hitCount" "J" (.long (f0_26 q0 p2)) := (F_hitCount_b1_15).ext Ex19
  have F_missCount_b1_20 : Fld Z h19 b1 "com/example/sketchgate/sketchgate/model/CacheStats" "missCount" "J" (.long ((f0_14 p2) - (f0_26 q0 p2))) := (F_missCount_b1_15).ext Ex19
  have E_b10_20 : Exa Z h19 b10 "com/example/sketchgate/sketchgate/model/CacheStats" := (E_b10_15).ext Ex19
  have F_hitCount_b10_20 : Fld Z h19 b10 "com/example/sketchgate/sketchgate/model/CacheStats" "hitCount" "J" (.long (0 : Int64)) := (P14_0).ext Ex19
  have F_missCount_b10_20 : Fld Z h19 b10 "com/example/sketchgate/sketchgate/model/CacheStats" "missCount" "J" (.long (0 : Int64)) := (P14_1).ext Ex19
  have SZ21 : h0.size ≤ h19.size := Nat.le_trans SZ16 Ex19.1
  have ZZ21 : n0 ≤ h19.size := Nat.le_trans Z0 SZ21
  have K22 : Keep h0 h19 [] := (K17).ext Ex19
  have F_hitCount_b19_19 : Fld Z h19 b19 "com/example/sketchgate/sketchgate/model/CacheStats" "hitCount" "J" (.long (0 : Int64)) := D19 (Or.inr (hw _ (List.mem_of_getElem? (i := 17) rfl))) (ty := .long) (by decide)
  have F_missCount_b19_19 : Fld Z h19 b19 "com/example/sketchgate/sketchgate/model/CacheStats" "missCount" "J" (.long (0 : Int64)) := D19 (Or.inr (hw _ (List.mem_of_getElem? (i := 19) rfl))) (ty := .long) (by decide)
  have F_loadSuccessCount_b19_19 : Fld Z h19 b19 "com/example/sketchgate/sketchgate/model/CacheStats" "loadSuccessCount" "J" (.long (0 : Int64)) := D19 (Or.inr (hw _ (List.mem_of_getElem? (i := 21) rfl))) (ty := .long) (by decide)
  have F_loadFailureCount_b19_19 : Fld Z h19 b19 "com/example/sketchgate/sketchgate/model/CacheStats" "loadFailureCount" "J" (.long (0 : Int64)) := D19 (Or.inr (hw _ (List.mem_of_getElem? (i := 23) rfl))) (ty := .long) (by decide)
  have F_totalLoadTime_b19_19 : Fld Z h19 b19 "com/example/sketchgate/sketchgate/model/CacheStats" "totalLoadTime" "J" (.long (0 : Int64)) := D19 (Or.inr (hw _ (List.mem_of_getElem? (i := 25) rfl))) (ty := .long) (by decide)
  have F_evictionCount_b19_19 : Fld Z h19 b19 "com/example/sketchgate/sketchgate/model/CacheStats" "evictionCount" "J" (.long (0 : Int64)) := D19 (Or.inr (hw _ (List.mem_of_getElem? (i := 27) rfl))) (ty := .long) (by decide)
  obtain ⟨_, _, ⟨T23, L23, k23, n23⟩, -, X23, ⟨Lc23, hQ23, l23, y23, z23⟩, st23⟩ := X19.specialBack hx (y := (⟨"com/example/sketchgate/sketchgate/model/CacheStats", "<init>", "(JJJJJJ)V"⟩ : MethodName)) rfl hown (mvT hZ (hw _ (List.mem_of_getElem? (i := 5) rfl))) (mvT hZ (hw _ (List.mem_of_getElem? (i := 6) rfl))) (mvT hZ (hw _ (List.mem_of_getElem? (i := 7) rfl))) (by decide) (backOf (W := 1) (rm1 l Z a0 hw [] b19 (f0_124 q0) (f0_133 q1) q3 q4 q5 (p2.toInt64) (0 : Int64) (0 : Int64) (0 : Int64) (0 : Int64) (0 : Int64) (0 : Int64) h19 n0 ZZ21 F_hitCount_b19_19 F_missCount_b19_19 F_loadSuccessCount_b19_19 F_loadFailureCount_b19_19 F_totalLoadTime_b19_19 F_evictionCount_b19_19 Ne19 g_b19) hZ (hw _ (List.mem_of_getElem? (i := 7) rfl)) (hw _ (List.mem_of_getElem? (i := 4) rfl)) (by decide) (by decide)) (g := (mkF m 152 #[.val (.long q0), .second, .val (.long q1), .second, .val (.int p2), .val (.long q3), .second, .val (.long q4), .second, .val (.long q5), .second, .val (.int (f0_8 p2)), .val (.long (f0_14 p2)), .second, .val (.long (f0_26 q0 p2)), .second, .val (.long ((f0_14 p2) - (f0_26 q0 p2))), .second, .val (.ref b1), .val (.double (own_rate (f0_26 q0 p2) ((f0_14 p2) - (f0_26 q0 p2)))), .second, .val (.int (1 : Int32)), .val (.ref b10), .val (.int (1 : Int32)), .val (.long (f0_124 q0)), .second, .val (.long (f0_133 q1)), .second, .unset, .unset, .unset, .unset, .unset, .unset] [(.long (p2.toInt64)), (.long q5), (.long q4), (.long q3), (.long (f0_133 q1)), (.long (f0_124 q0)), (.ref b19), (.ref b19)])) rfl (by rw [hml]; rfl) (Steps.refl _) (a := b19) (argsL := [(.long (f0_124 q0)), (.long (f0_133 q1)), (.long q3), (.long q4), (.long q5), (.long (p2.toInt64))]) (rest := [(.ref b19)]) (lenOf pd_2 rfl) rfl (by show 2 * 0 + _ ≤ _; exact Nat.le_of_eq rfl) (hb hby at_152) (fun _ _ => ⟨rfl, e19, (by decide : 3 + 0 ≤ _), (by decide : 18 + 0 ≤ _)⟩)
  dsimp only [Pt.U, Pt.locs, Pt.cells, Pt.slots] at X23 l23 y23 z23 st23 hQ23
  subst y23 z23
  obtain ⟨rfl, N23q, Kc23, P23_0, P23_1⟩ := hQ23
  have N23 := Fr.app N18 N23q
  rw [← l23] at N23
  have E_b1_24 : Exa Z T23.heap b1 "com/example/sketchgate/sketchgate/model/CacheStats" := (E_b1_20).keep Kc23
  have F_hitCount_b1_24 : Fld Z T23.heap b1 "com/example/sketchgate/sketchgate/model/CacheStats" "hitCount" "J" (.long (f0_26 q0 p2)) := (F_hitCount_b1_20).keep Kc23 (ninS ne_b1_b19 nin0)
  have F_missCount_b1_24 : Fld Z T23.heap b1 "com/example/sketchgate/sketchgate/model/CacheStats" "missCount" "J" (.long ((f0_14 p2) - (f0_26 q0 p2))) := (F_missCount_b1_20).keep Kc23 (ninS ne_b1_b19 nin0)
  have E_b10_24 : Exa Z T23.heap b10 "com/example/sketchgate/sketchgate/model/CacheStats" := (E_b10_20).keep Kc23
  have F_hitCount_b10_24 : Fld Z T23.heap b10 "com/example/sketchgate/sketchgate/model/CacheStats" "hitCount" "J" (.long (0 : Int64)) := (F_hitCount_b10_20).keep Kc23 (ninS ne_b10_b19 nin0)
  have F_missCount_b10_24 : Fld Z T23.heap b10 "com/example/sketchgate/sketchgate/model/CacheStats" "missCount" "J" (.long (0 : Int64)) := (F_missCount_b10_20).keep Kc23 (ninS ne_b10_b19 nin0)
  have E_b19_24 : Exa Z T23.heap b19 "com/example/sketchgate/sketchgate/model/CacheStats" := (Ne19).keep Kc23
  have SZ25 : h0.size ≤ T23.heap.size := Nat.le_trans SZ21 Kc23.1
  have ZZ25 : n0 ≤ T23.heap.size := Nat.le_trans Z0 SZ25
  have K26 : Keep h0 T23.heap [] := (K22).trans Kc23 (allS (Or.inr sz_b19) all0)
  obtain ⟨cq27, kq27, q27a, q27b, q27c⟩ := isOf hZ rfl (E_b19_24)
  obtain ⟨_, _, ⟨T27, L27, k27, n27⟩, -, X27, ⟨Lc27, hQ27, l27, y27, z27⟩, st27⟩ := X23.virtualBack hx (y := (⟨"com/example/sketchgate/sketchgate/model/CacheStats", "hitRate", "()D"⟩ : MethodName)) (z := (⟨"com/example/sketchgate/sketchgate/model/CacheStats", "hitRate", "()D"⟩ : MethodName)) hown (mvT hZ (hw _ (List.mem_of_getElem? (i := 28) rfl))) (mvT hZ (hw _ (List.mem_of_getElem? (i := 29) rfl))) (notFace_of_selects (args := #[]) (mvT hZ (hw _ (List.mem_of_getElem? (i := 31) rfl)))) (mvT hZ (hw _ (List.mem_of_getElem? (i := 31) rfl))) (mvT hZ (hw _ (List.mem_of_getElem? (i := 30) rfl))) (by decide) (backOf (W := 0) (rm4 l Z a0 hw [] b19 (f0_124 q0) (f0_133 q1) T23.heap n0 ZZ25 P23_0 P23_1 E_b19_24) hZ (hw _ (List.mem_of_getElem? (i := 32) rfl)) (hw _ (List.mem_of_getElem? (i := 4) rfl)) (by decide) (by decide)) q27a q27c (g := (mkF m 159 #[.val (.long q0), .second, .val (.long q1), .second, .val (.int p2), .val (.long q3), .second, .val (.long q4), .second, .val (.long q5), .second, .val (.int (f0_8 p2)), .val (.long (f0_14 p2)), .second, .val (.long (f0_26 q0 p2)), .second, .val (.long ((f0_14 p2) - (f0_26 q0 p2))), .second, .val (.ref b1), .val (.double (own_rate (f0_26 q0 p2) ((f0_14 p2) - (f0_26 q0 p2)))), .second, .val (.int (1 : Int32)), .val (.ref b10), .val (.int (1 : Int32)), .val (.long (f0_124 q0)), .second, .val (.long (f0_133 q1)), .second, .val (.ref b19), .unset, .unset, .unset, .unset, .unset] [(.ref b19)])) rfl (by rw [hml]; rfl) (Steps.refl _) (argsL := []) (rest := []) (lenOf pd_3 rfl) rfl (by show 2 * 0 + _ ≤ _; exact Nat.le_of_eq rfl) (hb hby at_159) (fun _ _ => ⟨rfl, rfl, (by decide : 3 + 0 ≤ _), (by decide : 18 + 0 ≤ _)⟩)
  dsimp only [Pt.U, Pt.locs, Pt.cells, Pt.slots] at X27 l27 y27 z27 st27 hQ27
  subst y27 z27
  obtain ⟨rfl, N27q, hh27⟩ := hQ27
  have N27 := Fr.app N23 N27q
  rw [← l27] at N27
  have pre28 : ∀ t, Steps p.tables e below (T27.setTop (mkF m 168 #[.val (.long q0), .second, .val (.long q1), .second, .val (.int p2), .val (.long q3), .second, .val (.long q4), .second, .val (.long q5), .second, .val (.int (f0_8 p2)), .val (.long (f0_14 p2)), .second, .val (.long (f0_26 q0 p2)), .second, .val (.long ((f0_14 p2) - (f0_26 q0 p2))), .second, .val (.ref b1), .val (.double (own_rate (f0_26 q0 p2) ((f0_14 p2) - (f0_26 q0 p2)))), .second, .val (.int (1 : Int32)), .val (.ref b10), .val (.int (1 : Int32)), .val (.long (f0_124 q0)), .second, .val (.long (f0_133 q1)), .second, .val (.ref b19), .val (.double (own_rate (f0_124 q0) (f0_133 q1))), .second, .unset, .unset, .unset] [(.int (lcmpW (f0_124 q0) (0 : Int64)))])) t → Steps p.tables e below (s₁.setTop (entryFrame m #[(.long q0), (.long q1), (.int p2), (.long q3), (.long q4), (.long q5)] maxLocals)) t := fun t k => pre0 t (by
    show Steps p.tables e below (s₁.setTop (mkF m 0 #[.val (.long q0), .second, .val (.long q1), .second, .val (.int p2), .val (.long q3), .second, .val (.long q4), .second, .val (.long q5), .second, .unset, .unset, .unset, .unset, .unset, .unset, .unset, .unset, .unset, .unset, .unset, .unset, .unset, .unset, .unset, .unset, .unset, .unset, .unset, .unset, .unset, .unset, .unset] [])) _
    refine XS.iload X0.here hx rfl (hb hby at_0) rfl ?_
    show Steps p.tables e below (s₁.setTop (mkF m 2 #[.val (.long q0), .second, .val (.long q1), .second, .val (.int p2), .val (.long q3), .second, .val (.long q4), .second, .val (.long q5), .second, .unset, .unset, .unset, .unset, .unset, .unset, .unset, .unset, .unset, .unset, .unset, .unset, .unset, .unset, .unset, .unset, .unset, .unset, .unset, .unset, .unset, .unset, .unset] [(.int p2)])) _
    refine X0.ldcInt hx hown (mvT hZ (hw _ (List.mem_of_getElem? (i := 0) rfl))) (g := (mkF m 2 #[.val (.long q0), .second, .val (.long q1), .second, .val (.int p2), .val (.long q3), .second, .val (.long q4), .second, .val (.long q5), .second, .unset, .unset, .unset, .unset, .unset, .unset, .unset, .unset, .unset, .unset, .unset, .unset, .unset, .unset, .unset, .unset, .unset, .unset, .unset, .unset, .unset, .unset, .unset] [(.int p2)])) rfl (hb hby at_2) _ ?_
    show Steps p.tables e below (s₁.setTop (mkF m 4 #[.val (.long q0), .second, .val (.long q1), .second, .val (.int p2), .val (.long q3), .second, .val (.long q4), .second, .val (.long q5), .second, .unset, .unset, .unset, .unset, .unset, .unset, .unset, .unset, .unset, .unset, .unset, .unset, .unset, .unset, .unset, .unset, .unset, .unset, .unset, .unset, .unset, .unset, .unset] [(.int (2147483647 : Int32)), (.int p2)])) _
    refine XS.iand X0.here hx rfl (hb hby at_4) rfl ?_
    show Steps p.tables e below (s₁.setTop (mkF m 5 #[.val (.long q0), .second, .val (.long q1), .second, .val (.int p2), .val (.long q3), .second, .val (.long q4), .second, .val (.long q5), .second, .unset, .unset, .unset, .unset, .unset, .unset, .unset, .unset, .unset, .unset, .unset, .unset, .unset, .unset, .unset, .unset, .unset, .unset, .unset, .unset, .unset, .unset, .unset] [(.int (p2 &&& (2147483647 : Int32)))])) _
    refine XS.bipush X0.here hx rfl (hb hby at_5) ?_
    show Steps p.tables e below (s₁.setTop (mkF m 7 #[.val (.long q0), .second, .val (.long q1), .second, .val (.int p2), .val (.long q3), .second, .val (.long q4), .second, .val (.long q5), .second, .unset, .unset, .unset, .unset, .unset, .unset, .unset, .unset, .unset, .unset, .unset, .unset, .unset, .unset, .unset, .unset, .unset, .unset, .unset, .unset, .unset, .unset, .unset] [(.int (63 : Int32)), (.int (p2 &&& (2147483647 : Int32)))])) _
    refine iremM (g := (mkF m 7 #[.val (.long q0), .second, .val (.long q1), .second, .val (.int p2), .val (.long q3), .second, .val (.long q4), .second, .val (.long q5), .second, .unset, .unset, .unset, .unset, .unset, .unset, .unset, .unset, .unset, .unset, .unset, .unset, .unset, .unset, .unset, .unset, .unset, .unset, .unset, .unset, .unset, .unset, .unset] [(.int (63 : Int32)), (.int (p2 &&& (2147483647 : Int32)))])) X0 hx rfl (hb hby at_7) rfl (by decide) ?_
    show Steps p.tables e below (s₁.setTop (mkF m 8 #[.val (.long q0), .second, .val (.long q1), .second, .val (.int p2), .val (.long q3), .second, .val (.long q4), .second, .val (.long q5), .second, .unset, .unset, .unset, .unset, .unset, .unset, .unset, .unset, .unset, .unset, .unset, .unset, .unset, .unset, .unset, .unset, .unset, .unset, .unset, .unset, .unset, .unset, .unset] [(.int ((p2 &&& (2147483647 : Int32)) % (63 : Int32)))])) _
    refine XS.istore X0.here hx rfl (hb hby at_8) rfl (l' := #[.val (.long q0), .second, .val (.long q1), .second, .val (.int p2), .val (.long q3), .second, .val (.long q4), .second, .val (.long q5), .second, .val (.int (f0_8 p2)), .unset, .unset, .unset, .unset, .unset, .unset, .unset, .unset, .unset, .unset, .unset, .unset, .unset, .unset, .unset, .unset, .unset, .unset, .unset, .unset, .unset, .unset]) rfl ?_
    show Steps p.tables e below (s₁.setTop (mkF m 10 #[.val (.long q0), .second, .val (.long q1), .second, .val (.int p2), .val (.long q3), .second, .val (.long q4), .second, .val (.long q5), .second, .val (.int (f0_8 p2)), .unset, .unset, .unset, .unset, .unset, .unset, .unset, .unset, .unset, .unset, .unset, .unset, .unset, .unset, .unset, .unset, .unset, .unset, .unset, .unset, .unset, .unset] [])) _
    refine XS.lconst X0.here hx rfl (hb hby at_10) ?_
    show Steps p.tables e below (s₁.setTop (mkF m 11 #[.val (.long q0), .second, .val (.long q1), .second, .val (.int p2), .val (.long q3), .second, .val (.long q4), .second, .val (.long q5), .second, .val (.int (f0_8 p2)), .unset, .unset, .unset, .unset, .unset, .unset, .unset, .unset, .unset, .unset, .unset, .unset, .unset, .unset, .unset, .unset, .unset, .unset, .unset, .unset, .unset, .unset] [(.long (1 : Int64))])) _
    refine XS.iload X0.here hx rfl (hb hby at_11) rfl ?_
    show Steps p.tables e below (s₁.setTop (mkF m 13 #[.val (.long q0), .second, .val (.long q1), .second, .val (.int p2), .val (.long q3), .second, .val (.long q4), .second, .val (.long q5), .second, .val (.int (f0_8 p2)), .unset, .unset, .unset, .unset, .unset, .unset, .unset, .unset, .unset, .unset, .unset, .unset, .unset, .unset, .unset, .unset, .unset, .unset, .unset, .unset, .unset, .unset] [(.int (f0_8 p2)), (.long (1 : Int64))])) _
    refine XS.lshl X0.here hx rfl (hb hby at_13) rfl ?_
    show Steps p.tables e below (s₁.setTop (mkF m 14 #[.val (.long q0), .second, .val (.long q1), .second, .val (.int p2), .val (.long q3), .second, .val (.long q4), .second, .val (.long q5), .second, .val (.int (f0_8 p2)), .unset, .unset, .unset, .unset, .unset, .unset, .unset, .unset, .unset, .unset, .unset, .unset, .unset, .unset, .unset, .unset, .unset, .unset, .unset, .unset, .unset, .unset] [(.long ((1 : Int64) <<< ((f0_8 p2) &&& 0x3f).toInt64))])) _
    refine XS.lstore X0.here hx rfl (hb hby at_14) rfl (l' := #[.val (.long q0), .second, .val (.long q1), .second, .val (.int p2), .val (.long q3), .second, .val (.long q4), .second, .val (.long q5), .second, .val (.int (f0_8 p2)), .val (.long (f0_14 p2)), .second, .unset, .unset, .unset, .unset, .unset, .unset, .unset, .unset, .unset, .unset, .unset, .unset, .unset, .unset, .unset, .unset, .unset, .unset, .unset, .unset]) rfl ?_
    show Steps p.tables e below (s₁.setTop (mkF m 16 #[.val (.long q0), .second, .val (.long q1), .second, .val (.int p2), .val (.long q3), .second, .val (.long q4), .second, .val (.long q5), .second, .val (.int (f0_8 p2)), .val (.long (f0_14 p2)), .second, .unset, .unset, .unset, .unset, .unset, .unset, .unset, .unset, .unset, .unset, .unset, .unset, .unset, .unset, .unset, .unset, .unset, .unset, .unset, .unset] [])) _
    refine XS.lloadN X0.here hx rfl (hb hby at_16) rfl ?_
    show Steps p.tables e below (s₁.setTop (mkF m 17 #[.val (.long q0), .second, .val (.long q1), .second, .val (.int p2), .val (.long q3), .second, .val (.long q4), .second, .val (.long q5), .second, .val (.int (f0_8 p2)), .val (.long (f0_14 p2)), .second, .unset, .unset, .unset, .unset, .unset, .unset, .unset, .unset, .unset, .unset, .unset, .unset, .unset, .unset, .unset, .unset, .unset, .unset, .unset, .unset] [(.long q0)])) _
    refine X0.ldc2Long hx hown (mvT hZ (hw _ (List.mem_of_getElem? (i := 1) rfl))) (g := (mkF m 17 #[.val (.long q0), .second, .val (.long q1), .second, .val (.int p2), .val (.long q3), .second, .val (.long q4), .second, .val (.long q5), .second, .val (.int (f0_8 p2)), .val (.long (f0_14 p2)), .second, .unset, .unset, .unset, .unset, .unset, .unset, .unset, .unset, .unset, .unset, .unset, .unset, .unset, .unset, .unset, .unset, .unset, .unset, .unset, .unset] [(.long q0)])) rfl (hb hby at_17) _ ?_
    show Steps p.tables e below (s₁.setTop (mkF m 20 #[.val (.long q0), .second, .val (.long q1), .second, .val (.int p2), .val (.long q3), .second, .val (.long q4), .second, .val (.long q5), .second, .val (.int (f0_8 p2)), .val (.long (f0_14 p2)), .second, .unset, .unset, .unset, .unset, .unset, .unset, .unset, .unset, .unset, .unset, .unset, .unset, .unset, .unset, .unset, .unset, .unset, .unset, .unset, .unset] [(.long (9223372036854775807 : Int64)), (.long q0)])) _
    refine XS.land X0.here hx rfl (hb hby at_20) rfl ?_
    show Steps p.tables e below (s₁.setTop (mkF m 21 #[.val (.long q0), .second, .val (.long q1), .second, .val (.int p2), .val (.long q3), .second, .val (.long q4), .second, .val (.long q5), .second, .val (.int (f0_8 p2)), .val (.long (f0_14 p2)), .second, .unset, .unset, .unset, .unset, .unset, .unset, .unset, .unset, .unset, .unset, .unset, .unset, .unset, .unset, .unset, .unset, .unset, .unset, .unset, .unset] [(.long (q0 &&& (9223372036854775807 : Int64)))])) _
    refine XS.lload X0.here hx rfl (hb hby at_21) rfl ?_
    show Steps p.tables e below (s₁.setTop (mkF m 23 #[.val (.long q0), .second, .val (.long q1), .second, .val (.int p2), .val (.long q3), .second, .val (.long q4), .second, .val (.long q5), .second, .val (.int (f0_8 p2)), .val (.long (f0_14 p2)), .second, .unset, .unset, .unset, .unset, .unset, .unset, .unset, .unset, .unset, .unset, .unset, .unset, .unset, .unset, .unset, .unset, .unset, .unset, .unset, .unset] [(.long (f0_14 p2)), (.long (q0 &&& (9223372036854775807 : Int64)))])) _
    refine XS.lconst X0.here hx rfl (hb hby at_23) ?_
    show Steps p.tables e below (s₁.setTop (mkF m 24 #[.val (.long q0), .second, .val (.long q1), .second, .val (.int p2), .val (.long q3), .second, .val (.long q4), .second, .val (.long q5), .second, .val (.int (f0_8 p2)), .val (.long (f0_14 p2)), .second, .unset, .unset, .unset, .unset, .unset, .unset, .unset, .unset, .unset, .unset, .unset, .unset, .unset, .unset, .unset, .unset, .unset, .unset, .unset, .unset] [(.long (1 : Int64)), (.long (f0_14 p2)), (.long (q0 &&& (9223372036854775807 : Int64)))])) _
    refine XS.ladd X0.here hx rfl (hb hby at_24) rfl ?_
    show Steps p.tables e below (s₁.setTop (mkF m 25 #[.val (.long q0), .second, .val (.long q1), .second, .val (.int p2), .val (.long q3), .second, .val (.long q4), .second, .val (.long q5), .second, .val (.int (f0_8 p2)), .val (.long (f0_14 p2)), .second, .unset, .unset, .unset, .unset, .unset, .unset, .unset, .unset, .unset, .unset, .unset, .unset, .unset, .unset, .unset, .unset, .unset, .unset, .unset, .unset] [(.long ((f0_14 p2) + (1 : Int64))), (.long (q0 &&& (9223372036854775807 : Int64)))])) _
    refine XS.lrem X0.here hx rfl (hb hby at_25) rfl (own_nz25 p2) ?_
    show Steps p.tables e below (s₁.setTop (mkF m 26 #[.val (.long q0), .second, .val (.long q1), .second, .val (.int p2), .val (.long q3), .second, .val (.long q4), .second, .val (.long q5), .second, .val (.int (f0_8 p2)), .val (.long (f0_14 p2)), .second, .unset, .unset, .unset, .unset, .unset, .unset, .unset, .unset, .unset, .unset, .unset, .unset, .unset, .unset, .unset, .unset, .unset, .unset, .unset, .unset] [(.long ((q0 &&& (9223372036854775807 : Int64)) - ((q0 &&& (9223372036854775807 : Int64)) / ((f0_14 p2) + (1 : Int64))) * ((f0_14 p2) + (1 : Int64))))])) _
    refine XS.lstore X0.here hx rfl (hb hby at_26) rfl (l' := #[.val (.long q0), .second, .val (.long q1), .second, .val (.int p2), .val (.long q3), .second, .val (.long q4), .second, .val (.long q5), .second, .val (.int (f0_8 p2)), .val (.long (f0_14 p2)), .second, .val (.long (f0_26 q0 p2)), .second, .unset, .unset, .unset, .unset, .unset, .unset, .unset, .unset, .unset, .unset, .unset, .unset, .unset, .unset, .unset, .unset, .unset, .unset]) rfl ?_
    show Steps p.tables e below (s₁.setTop (mkF m 28 #[.val (.long q0), .second, .val (.long q1), .second, .val (.int p2), .val (.long q3), .second, .val (.long q4), .second, .val (.long q5), .second, .val (.int (f0_8 p2)), .val (.long (f0_14 p2)), .second, .val (.long (f0_26 q0 p2)), .second, .unset, .unset, .unset, .unset, .unset, .unset, .unset, .unset, .unset, .unset, .unset, .unset, .unset, .unset, .unset, .unset, .unset, .unset] [])) _
    refine XS.lload X0.here hx rfl (hb hby at_28) rfl ?_
    show Steps p.tables e below (s₁.setTop (mkF m 30 #[.val (.long q0), .second, .val (.long q1), .second, .val (.int p2), .val (.long q3), .second, .val (.long q4), .second, .val (.long q5), .second, .val (.int (f0_8 p2)), .val (.long (f0_14 p2)), .second, .val (.long (f0_26 q0 p2)), .second, .unset, .unset, .unset, .unset, .unset, .unset, .unset, .unset, .unset, .unset, .unset, .unset, .unset, .unset, .unset, .unset, .unset, .unset] [(.long (f0_14 p2))])) _
    refine XS.lload X0.here hx rfl (hb hby at_30) rfl ?_
    show Steps p.tables e below (s₁.setTop (mkF m 32 #[.val (.long q0), .second, .val (.long q1), .second, .val (.int p2), .val (.long q3), .second, .val (.long q4), .second, .val (.long q5), .second, .val (.int (f0_8 p2)), .val (.long (f0_14 p2)), .second, .val (.long (f0_26 q0 p2)), .second, .unset, .unset, .unset, .unset, .unset, .unset, .unset, .unset, .unset, .unset, .unset, .unset, .unset, .unset, .unset, .unset, .unset, .unset] [(.long (f0_26 q0 p2)), (.long (f0_14 p2))])) _
    refine XS.lsub X0.here hx rfl (hb hby at_32) rfl ?_
    show Steps p.tables e below (s₁.setTop (mkF m 33 #[.val (.long q0), .second, .val (.long q1), .second, .val (.int p2), .val (.long q3), .second, .val (.long q4), .second, .val (.long q5), .second, .val (.int (f0_8 p2)), .val (.long (f0_14 p2)), .second, .val (.long (f0_26 q0 p2)), .second, .unset, .unset, .unset, .unset, .unset, .unset, .unset, .unset, .unset, .unset, .unset, .unset, .unset, .unset, .unset, .unset, .unset, .unset] [(.long ((f0_14 p2) - (f0_26 q0 p2)))])) _
    refine XS.lstore X0.here hx rfl (hb hby at_33) rfl (l' := #[.val (.long q0), .second, .val (.long q1), .second, .val (.int p2), .val (.long q3), .second, .val (.long q4), .second, .val (.long q5), .second, .val (.int (f0_8 p2)), .val (.long (f0_14 p2)), .second, .val (.long (f0_26 q0 p2)), .second, .val (.long ((f0_14 p2) - (f0_26 q0 p2))), .second, .unset, .unset, .unset, .unset, .unset, .unset, .unset, .unset, .unset, .unset, .unset, .unset, .unset, .unset, .unset, .unset]) rfl ?_
    show Steps p.tables e below (s₁.setTop (mkF m 35 #[.val (.long q0), .second, .val (.long q1), .second, .val (.int p2), .val (.long q3), .second, .val (.long q4), .second, .val (.long q5), .second, .val (.int (f0_8 p2)), .val (.long (f0_14 p2)), .second, .val (.long (f0_26 q0 p2)), .second, .val (.long ((f0_14 p2) - (f0_26 q0 p2))), .second, .unset, .unset, .unset, .unset, .unset, .unset, .unset, .unset, .unset, .unset, .unset, .unset, .unset, .unset, .unset, .unset] [])) _
    refine st1 _ ?_
    show Steps p.tables e below (T1.setTop (mkF m 38 #[.val (.long q0), .second, .val (.long q1), .second, .val (.int p2), .val (.long q3), .second, .val (.long q4), .second, .val (.long q5), .second, .val (.int (f0_8 p2)), .val (.long (f0_14 p2)), .second, .val (.long (f0_26 q0 p2)), .second, .val (.long ((f0_14 p2) - (f0_26 q0 p2))), .second, .unset, .unset, .unset, .unset, .unset, .unset, .unset, .unset, .unset, .unset, .unset, .unset, .unset, .unset, .unset, .unset] [(.ref b1)])) _
    refine XS.dup X1.here hx rfl (hb hby at_38) rfl rfl ?_
    show Steps p.tables e below (T1.setTop (mkF m 39 #[.val (.long q0), .second, .val (.long q1), .second, .val (.int p2), .val (.long q3), .second, .val (.long q4), .second, .val (.long q5), .second, .val (.int (f0_8 p2)), .val (.long (f0_14 p2)), .second, .val (.long (f0_26 q0 p2)), .second, .val (.long ((f0_14 p2) - (f0_26 q0 p2))), .second, .unset, .unset, .unset, .unset, .unset, .unset, .unset, .unset, .unset, .unset, .unset, .unset, .unset, .unset, .unset, .unset] [(.ref b1), (.ref b1)])) _
    refine XS.lload X1.here hx rfl (hb hby at_39) rfl ?_
    show Steps p.tables e below (T1.setTop (mkF m 41 #[.val (.long q0), .second, .val (.long q1), .second, .val (.int p2), .val (.long q3), .second, .val (.long q4), .second, .val (.long q5), .second, .val (.int (f0_8 p2)), .val (.long (f0_14 p2)), .second, .val (.long (f0_26 q0 p2)), .second, .val (.long ((f0_14 p2) - (f0_26 q0 p2))), .second, .unset, .unset, .unset, .unset, .unset, .unset, .unset, .unset, .unset, .unset, .unset, .unset, .unset, .unset, .unset, .unset] [(.long (f0_26 q0 p2)), (.ref b1), (.ref b1)])) _
    refine XS.lload X1.here hx rfl (hb hby at_41) rfl ?_
    show Steps p.tables e below (T1.setTop (mkF m 43 #[.val (.long q0), .second, .val (.long q1), .second, .val (.int p2), .val (.long q3), .second, .val (.long q4), .second, .val (.long q5), .second, .val (.int (f0_8 p2)), .val (.long (f0_14 p2)), .second, .val (.long (f0_26 q0 p2)), .second, .val (.long ((f0_14 p2) - (f0_26 q0 p2))), .second, .unset, .unset, .unset, .unset, .unset, .unset, .unset, .unset, .unset, .unset, .unset, .unset, .unset, .unset, .unset, .unset] [(.long ((f0_14 p2) - (f0_26 q0 p2))), (.long (f0_26 q0 p2)), (.ref b1), (.ref b1)])) _
    refine XS.lload X1.here hx rfl (hb hby at_43) rfl ?_
    show Steps p.tables e below (T1.setTop (mkF m 45 #[.val (.long q0), .second, .val (.long q1), .second, .val (.int p2), .val (.long q3), .second, .val (.long q4), .second, .val (.long q5), .second, .val (.int (f0_8 p2)), .val (.long (f0_14 p2)), .second, .val (.long (f0_26 q0 p2)), .second, .val (.long ((f0_14 p2) - (f0_26 q0 p2))), .second, .unset, .unset, .unset, .unset, .unset, .unset, .unset, .unset, .unset, .unset, .unset, .unset, .unset, .unset, .unset, .unset] [(.long q3), (.long ((f0_14 p2) - (f0_26 q0 p2))), (.long (f0_26 q0 p2)), (.ref b1), (.ref b1)])) _
    refine XS.lload X1.here hx rfl (hb hby at_45) rfl ?_
    show Steps p.tables e below (T1.setTop (mkF m 47 #[.val (.long q0), .second, .val (.long q1), .second, .val (.int p2), .val (.long q3), .second, .val (.long q4), .second, .val (.long q5), .second, .val (.int (f0_8 p2)), .val (.long (f0_14 p2)), .second, .val (.long (f0_26 q0 p2)), .second, .val (.long ((f0_14 p2) - (f0_26 q0 p2))), .second, .unset, .unset, .unset, .unset, .unset, .unset, .unset, .unset, .unset, .unset, .unset, .unset, .unset, .unset, .unset, .unset] [(.long q4), (.long q3), (.long ((f0_14 p2) - (f0_26 q0 p2))), (.long (f0_26 q0 p2)), (.ref b1), (.ref b1)])) _
    refine XS.lload X1.here hx rfl (hb hby at_47) rfl ?_
    show Steps p.tables e below (T1.setTop (mkF m 49 #[.val (.long q0), .second, .val (.long q1), .second, .val (.int p2), .val (.long q3), .second, .val (.long q4), .second, .val (.long q5), .second, .val (.int (f0_8 p2)), .val (.long (f0_14 p2)), .second, .val (.long (f0_26 q0 p2)), .second, .val (.long ((f0_14 p2) - (f0_26 q0 p2))), .second, .unset, .unset, .unset, .unset, .unset, .unset, .unset, .unset, .unset, .unset, .unset, .unset, .unset, .unset, .unset, .unset] [(.long q5), (.long q4), (.long q3), (.long ((f0_14 p2) - (f0_26 q0 p2))), (.long (f0_26 q0 p2)), (.ref b1), (.ref b1)])) _
    refine XS.lloadN X1.here hx rfl (hb hby at_49) rfl ?_
    show Steps p.tables e below (T1.setTop (mkF m 50 #[.val (.long q0), .second, .val (.long q1), .second, .val (.int p2), .val (.long q3), .second, .val (.long q4), .second, .val (.long q5), .second, .val (.int (f0_8 p2)), .val (.long (f0_14 p2)), .second, .val (.long (f0_26 q0 p2)), .second, .val (.long ((f0_14 p2) - (f0_26 q0 p2))), .second, .unset, .unset, .unset, .unset, .unset, .unset, .unset, .unset, .unset, .unset, .unset, .unset, .unset, .unset, .unset, .unset] [(.long q0), (.long q5), (.long q4), (.long q3), (.long ((f0_14 p2) - (f0_26 q0 p2))), (.long (f0_26 q0 p2)), (.ref b1), (.ref b1)])) _
    refine st5.trans ?_
    show Steps p.tables e below (T5.setTop (mkF m 53 #[.val (.long q0), .second, .val (.long q1), .second, .val (.int p2), .val (.long q3), .second, .val (.long q4), .second, .val (.long q5), .second, .val (.int (f0_8 p2)), .val (.long (f0_14 p2)), .second, .val (.long (f0_26 q0 p2)), .second, .val (.long ((f0_14 p2) - (f0_26 q0 p2))), .second, .unset, .unset, .unset, .unset, .unset, .unset, .unset, .unset, .unset, .unset, .unset, .unset, .unset, .unset, .unset, .unset] [(.ref b1)])) _
    refine XS.astore X5.here hx rfl (hb hby at_53) rfl rfl (l' := #[.val (.long q0), .second, .val (.long q1), .second, .val (.int p2), .val (.long q3), .second, .val (.long q4), .second, .val (.long q5), .second, .val (.int (f0_8 p2)), .val (.long (f0_14 p2)), .second, .val (.long (f0_26 q0 p2)), .second, .val (.long ((f0_14 p2) - (f0_26 q0 p2))), .second, .val (.ref b1), .unset, .unset, .unset, .unset, .unset, .unset, .unset, .unset, .unset, .unset, .unset, .unset, .unset, .unset, .unset]) rfl ?_
    show Steps p.tables e below (T5.setTop (mkF m 55 #[.val (.long q0), .second, .val (.long q1), .second, .val (.int p2), .val (.long q3), .second, .val (.long q4), .second, .val (.long q5), .second, .val (.int (f0_8 p2)), .val (.long (f0_14 p2)), .second, .val (.long (f0_26 q0 p2)), .second, .val (.long ((f0_14 p2) - (f0_26 q0 p2))), .second, .val (.ref b1), .unset, .unset, .unset, .unset, .unset, .unset, .unset, .unset, .unset, .unset, .unset, .unset, .unset, .unset, .unset] [])) _
    refine XS.aload X5.here hx rfl (hb hby at_55) rfl rfl ?_
    show Steps p.tables e below (T5.setTop (mkF m 57 #[.val (.long q0), .second, .val (.long q1), .second, .val (.int p2), .val (.long q3), .second, .val (.long q4), .second, .val (.long q5), .second, .val (.int (f0_8 p2)), .val (.long (f0_14 p2)), .second, .val (.long (f0_26 q0 p2)), .second, .val (.long ((f0_14 p2) - (f0_26 q0 p2))), .second, .val (.ref b1), .unset, .unset, .unset, .unset, .unset, .unset, .unset, .unset, .unset, .unset, .unset, .unset, .unset, .unset, .unset] [(.ref b1)])) _
    refine st9.trans ?_
    show Steps p.tables e below (T9.setTop (mkF m 60 #[.val (.long q0), .second, .val (.long q1), .second, .val (.int p2), .val (.long q3), .second, .val (.long q4), .second, .val (.long q5), .second, .val (.int (f0_8 p2)), .val (.long (f0_14 p2)), .second, .val (.long (f0_26 q0 p2)), .second, .val (.long ((f0_14 p2) - (f0_26 q0 p2))), .second, .val (.ref b1), .unset, .unset, .unset, .unset, .unset, .unset, .unset, .unset, .unset, .unset, .unset, .unset, .unset, .unset, .unset] [(.double (own_rate (f0_26 q0 p2) ((f0_14 p2) - (f0_26 q0 p2))))])) _
    refine XS.dstore X9.here hx rfl (hb hby at_60) rfl (l' := #[.val (.long q0), .second, .val (.long q1), .second, .val (.int p2), .val (.long q3), .second, .val (.long q4), .second, .val (.long q5), .second, .val (.int (f0_8 p2)), .val (.long (f0_14 p2)), .second, .val (.long (f0_26 q0 p2)), .second, .val (.long ((f0_14 p2) - (f0_26 q0 p2))), .second, .val (.ref b1), .val (.double (own_rate (f0_26 q0 p2) ((f0_14 p2) - (f0_26 q0 p2)))), .second, .unset, .unset, .unset, .unset, .unset, .unset, .unset, .unset, .unset, .unset, .unset, .unset, .unset]) rfl ?_
    show Steps p.tables e below (T9.setTop (mkF m 62 #[.val (.long q0), .second, .val (.long q1), .second, .val (.int p2), .val (.long q3), .second, .val (.long q4), .second, .val (.long q5), .second, .val (.int (f0_8 p2)), .val (.long (f0_14 p2)), .second, .val (.long (f0_26 q0 p2)), .second, .val (.long ((f0_14 p2) - (f0_26 q0 p2))), .second, .val (.ref b1), .val (.double (own_rate (f0_26 q0 p2) ((f0_14 p2) - (f0_26 q0 p2)))), .second, .unset, .unset, .unset, .unset, .unset, .unset, .unset, .unset, .unset, .unset, .unset, .unset, .unset] [])) _
    refine XS.dload X9.here hx rfl (hb hby at_62) rfl ?_
    show Steps p.tables e below (T9.setTop (mkF m 64 #[.val (.long q0), .second, .val (.long q1), .second, .val (.int p2), .val (.long q3), .second, .val (.long q4), .second, .val (.long q5), .second, .val (.int (f0_8 p2)), .val (.long (f0_14 p2)), .second, .val (.long (f0_26 q0 p2)), .second, .val (.long ((f0_14 p2) - (f0_26 q0 p2))), .second, .val (.ref b1), .val (.double (own_rate (f0_26 q0 p2) ((f0_14 p2) - (f0_26 q0 p2)))), .second, .unset, .unset, .unset, .unset, .unset, .unset, .unset, .unset, .unset, .unset, .unset, .unset, .unset] [(.double (own_rate (f0_26 q0 p2) ((f0_14 p2) - (f0_26 q0 p2))))])) _
    refine XS.lload X9.here hx rfl (hb hby at_64) rfl ?_
    show Steps p.tables e below (T9.setTop (mkF m 66 #[.val (.long q0), .second, .val (.long q1), .second, .val (.int p2), .val (.long q3), .second, .val (.long q4), .second, .val (.long q5), .second, .val (.int (f0_8 p2)), .val (.long (f0_14 p2)), .second, .val (.long (f0_26 q0 p2)), .second, .val (.long ((f0_14 p2) - (f0_26 q0 p2))), .second, .val (.ref b1), .val (.double (own_rate (f0_26 q0 p2) ((f0_14 p2) - (f0_26 q0 p2)))), .second, .unset, .unset, .unset, .unset, .unset, .unset, .unset, .unset, .unset, .unset, .unset, .unset, .unset] [(.long (f0_14 p2)), (.double (own_rate (f0_26 q0 p2) ((f0_14 p2) - (f0_26 q0 p2))))])) _
    refine XS.l2dS X9.here hx rfl (hb hby at_66) rfl rfl ?_
    show Steps p.tables e below (T9.setTop (mkF m 67 #[.val (.long q0), .second, .val (.long q1), .second, .val (.int p2), .val (.long q3), .second, .val (.long q4), .second, .val (.long q5), .second, .val (.int (f0_8 p2)), .val (.long (f0_14 p2)), .second, .val (.long (f0_26 q0 p2)), .second, .val (.long ((f0_14 p2) - (f0_26 q0 p2))), .second, .val (.ref b1), .val (.double (own_rate (f0_26 q0 p2) ((f0_14 p2) - (f0_26 q0 p2)))), .second, .unset, .unset, .unset, .unset, .unset, .unset, .unset, .unset, .unset, .unset, .unset, .unset, .unset] [(.double (FP.l2d (f0_14 p2))), (.double (own_rate (f0_26 q0 p2) ((f0_14 p2) - (f0_26 q0 p2))))])) _
    refine XS.dmulS X9.here hx rfl (hb hby at_67) rfl (own_nn67 q0 p2) rfl ?_
    show Steps p.tables e below (T9.setTop (mkF m 68 #[.val (.long q0), .second, .val (.long q1), .second, .val (.int p2), .val (.long q3), .second, .val (.long q4), .second, .val (.long q5), .second, .val (.int (f0_8 p2)), .val (.long (f0_14 p2)), .second, .val (.long (f0_26 q0 p2)), .second, .val (.long ((f0_14 p2) - (f0_26 q0 p2))), .second, .val (.ref b1), .val (.double (own_rate (f0_26 q0 p2) ((f0_14 p2) - (f0_26 q0 p2)))), .second, .unset, .unset, .unset, .unset, .unset, .unset, .unset, .unset, .unset, .unset, .unset, .unset, .unset] [(.double (FP.dmul (own_rate (f0_26 q0 p2) ((f0_14 p2) - (f0_26 q0 p2))) (FP.l2d (f0_14 p2))))])) _
    refine XS.lload X9.here hx rfl (hb hby at_68) rfl ?_
    show Steps p.tables e below (T9.setTop (mkF m 70 #[.val (.long q0), .second, .val (.long q1), .second, .val (.int p2), .val (.long q3), .second, .val (.long q4), .second, .val (.long q5), .second, .val (.int (f0_8 p2)), .val (.long (f0_14 p2)), .second, .val (.long (f0_26 q0 p2)), .second, .val (.long ((f0_14 p2) - (f0_26 q0 p2))), .second, .val (.ref b1), .val (.double (own_rate (f0_26 q0 p2) ((f0_14 p2) - (f0_26 q0 p2)))), .second, .unset, .unset, .unset, .unset, .unset, .unset, .unset, .unset, .unset, .unset, .unset, .unset, .unset] [(.long (f0_26 q0 p2)), (.double (FP.dmul (own_rate (f0_26 q0 p2) ((f0_14 p2) - (f0_26 q0 p2))) (FP.l2d (f0_14 p2))))])) _
    refine XS.l2dS X9.here hx rfl (hb hby at_70) rfl rfl ?_
    show Steps p.tables e below (T9.setTop (mkF m 71 #[.val (.long q0), .second, .val (.long q1), .second, .val (.int p2), .val (.long q3), .second, .val (.long q4), .second, .val (.long q5), .second, .val (.int (f0_8 p2)), .val (.long (f0_14 p2)), .second, .val (.long (f0_26 q0 p2)), .second, .val (.long ((f0_14 p2) - (f0_26 q0 p2))), .second, .val (.ref b1), .val (.double (own_rate (f0_26 q0 p2) ((f0_14 p2) - (f0_26 q0 p2)))), .second, .unset, .unset, .unset, .unset, .unset, .unset, .unset, .unset, .unset, .unset, .unset, .unset, .unset] [(.double (FP.l2d (f0_26 q0 p2))), (.double (FP.dmul (own_rate (f0_26 q0 p2) ((f0_14 p2) - (f0_26 q0 p2))) (FP.l2d (f0_14 p2))))])) _
    refine XS.dcmpS X9.here hx rfl (hb hby at_71) rfl rfl ?_
    show Steps p.tables e below (T9.setTop (mkF m 72 #[.val (.long q0), .second, .val (.long q1), .second, .val (.int p2), .val (.long q3), .second, .val (.long q4), .second, .val (.long q5), .second, .val (.int (f0_8 p2)), .val (.long (f0_14 p2)), .second, .val (.long (f0_26 q0 p2)), .second, .val (.long ((f0_14 p2) - (f0_26 q0 p2))), .second, .val (.ref b1), .val (.double (own_rate (f0_26 q0 p2) ((f0_14 p2) - (f0_26 q0 p2)))), .second, .unset, .unset, .unset, .unset, .unset, .unset, .unset, .unset, .unset, .unset, .unset, .unset, .unset] [(.int (cmpValue (FP.dcmp (FP.dmul (own_rate (f0_26 q0 p2) ((f0_14 p2) - (f0_26 q0 p2))) (FP.l2d (f0_14 p2))) (FP.l2d (f0_26 q0 p2))) .l))])) _
    refine XS.ifNo X9.here hx rfl (hb hby at_72) rfl ((if0 _ _).trans (teq (show (cmpValue (FP.dcmp (FP.dmul (own_rate (f0_26 q0 p2) ((f0_14 p2) - (f0_26 q0 p2))) (FP.l2d (f0_14 p2))) (FP.l2d (f0_26 q0 p2))) .l) = (0 : Int32) from own_c72 q0 p2)).2) ?_
    show Steps p.tables e below (T9.setTop (mkF m 75 #[.val (.long q0), .second, .val (.long q1), .second, .val (.int p2), .val (.long q3), .second, .val (.long q4), .second, .val (.long q5), .second, .val (.int (f0_8 p2)), .val (.long (f0_14 p2)), .second, .val (.long (f0_26 q0 p2)), .second, .val (.long ((f0_14 p2) - (f0_26 q0 p2))), .second, .val (.ref b1), .val (.double (own_rate (f0_26 q0 p2) ((f0_14 p2) - (f0_26 q0 p2)))), .second, .unset, .unset, .unset, .unset, .unset, .unset, .unset, .unset, .unset, .unset, .unset, .unset, .unset] [])) _
    refine XS.iconst X9.here hx rfl (hb hby at_75) ?_
    show Steps p.tables e below (T9.setTop (mkF m 76 #[.val (.long q0), .second, .val (.long q1), .second, .val (.int p2), .val (.long q3), .second, .val (.long q4), .second, .val (.long q5), .second, .val (.int (f0_8 p2)), .val (.long (f0_14 p2)), .second, .val (.long (f0_26 q0 p2)), .second, .val (.long ((f0_14 p2) - (f0_26 q0 p2))), .second, .val (.ref b1), .val (.double (own_rate (f0_26 q0 p2) ((f0_14 p2) - (f0_26 q0 p2)))), .second, .unset, .unset, .unset, .unset, .unset, .unset, .unset, .unset, .unset, .unset, .unset, .unset, .unset] [(.int (1 : Int32))])) _
    refine XS.goto X9.here hx rfl (pc0 := 76) (pc' := 80) rfl (hb hby at_76) (by decide) (by decide) ?_
    show Steps p.tables e below (T9.setTop (mkF m 80 #[.val (.long q0), .second, .val (.long q1), .second, .val (.int p2), .val (.long q3), .second, .val (.long q4), .second, .val (.long q5), .second, .val (.int (f0_8 p2)), .val (.long (f0_14 p2)), .second, .val (.long (f0_26 q0 p2)), .second, .val (.long ((f0_14 p2) - (f0_26 q0 p2))), .second, .val (.ref b1), .val (.double (own_rate (f0_26 q0 p2) ((f0_14 p2) - (f0_26 q0 p2)))), .second, .unset, .unset, .unset, .unset, .unset, .unset, .unset, .unset, .unset, .unset, .unset, .unset, .unset] [(.int (1 : Int32))])) _
    refine XS.istore X9.here hx rfl (hb hby at_80) rfl (l' := #[.val (.long q0), .second, .val (.long q1), .second, .val (.int p2), .val (.long q3), .second, .val (.long q4), .second, .val (.long q5), .second, .val (.int (f0_8 p2)), .val (.long (f0_14 p2)), .second, .val (.long (f0_26 q0 p2)), .second, .val (.long ((f0_14 p2) - (f0_26 q0 p2))), .second, .val (.ref b1), .val (.double (own_rate (f0_26 q0 p2) ((f0_14 p2) - (f0_26 q0 p2)))), .second, .val (.int (1 : Int32)), .unset, .unset, .unset, .unset, .unset, .unset, .unset, .unset, .unset, .unset, .unset, .unset]) rfl ?_
    show Steps p.tables e below (T9.setTop (mkF m 82 #[.val (.long q0), .second, .val (.long q1), .second, .val (.int p2), .val (.long q3), .second, .val (.long q4), .second, .val (.long q5), .second, .val (.int (f0_8 p2)), .val (.long (f0_14 p2)), .second, .val (.long (f0_26 q0 p2)), .second, .val (.long ((f0_14 p2) - (f0_26 q0 p2))), .second, .val (.ref b1), .val (.double (own_rate (f0_26 q0 p2) ((f0_14 p2) - (f0_26 q0 p2)))), .second, .val (.int (1 : Int32)), .unset, .unset, .unset, .unset, .unset, .unset, .unset, .unset, .unset, .unset, .unset, .unset] [])) _
    refine st10 _ ?_
    show Steps p.tables e below (T10.setTop (mkF m 85 #[.val (.long q0), .second, .val (.long q1), .second, .val (.int p2), .val (.long q3), .second, .val (.long q4), .second, .val (.long q5), .second, .val (.int (f0_8 p2)), .val (.long (f0_14 p2)), .second, .val (.long (f0_26 q0 p2)), .second, .val (.long ((f0_14 p2) - (f0_26 q0 p2))), .second, .val (.ref b1), .val (.double (own_rate (f0_26 q0 p2) ((f0_14 p2) - (f0_26 q0 p2)))), .second, .val (.int (1 : Int32)), .unset, .unset, .unset, .unset, .unset, .unset, .unset, .unset, .unset, .unset, .unset, .unset] [(.ref b10)])) _
    refine XS.dup X10.here hx rfl (hb hby at_85) rfl rfl ?_
    show Steps p.tables e below (T10.setTop (mkF m 86 #[.val (.long q0), .second, .val (.long q1), .second, .val (.int p2), .val (.long q3), .second, .val (.long q4), .second, .val (.long q5), .second, .val (.int (f0_8 p2)), .val (.long (f0_14 p2)), .second, .val (.long (f0_26 q0 p2)), .second, .val (.long ((f0_14 p2) - (f0_26 q0 p2))), .second, .val (.ref b1), .val (.double (own_rate (f0_26 q0 p2) ((f0_14 p2) - (f0_26 q0 p2)))), .second, .val (.int (1 : Int32)), .unset, .unset, .unset, .unset, .unset, .unset, .unset, .unset, .unset, .unset, .unset, .unset] [(.ref b10), (.ref b10)])) _
    refine XS.lconst X10.here hx rfl (hb hby at_86) ?_
    show Steps p.tables e below (T10.setTop (mkF m 87 #[.val (.long q0), .second, .val (.long q1), .second, .val (.int p2), .val (.long q3), .second, .val (.long q4), .second, .val (.long q5), .second, .val (.int (f0_8 p2)), .val (.long (f0_14 p2)), .second, .val (.long (f0_26 q0 p2)), .second, .val (.long ((f0_14 p2) - (f0_26 q0 p2))), .second, .val (.ref b1), .val (.double (own_rate (f0_26 q0 p2) ((f0_14 p2) - (f0_26 q0 p2)))), .second, .val (.int (1 : Int32)), .unset, .unset, .unset, .unset, .unset, .unset, .unset, .unset, .unset, .unset, .unset, .unset] [(.long (0 : Int64)), (.ref b10), (.ref b10)])) _
    refine XS.lconst X10.here hx rfl (hb hby at_87) ?_
    show Steps p.tables e below (T10.setTop (mkF m 88 #[.val (.long q0), .second, .val (.long q1), .second, .val (.int p2), .val (.long q3), .second, .val (.long q4), .second, .val (.long q5), .second, .val (.int (f0_8 p2)), .val (.long (f0_14 p2)), .second, .val (.long (f0_26 q0 p2)), .second, .val (.long ((f0_14 p2) - (f0_26 q0 p2))), .second, .val (.ref b1), .val (.double (own_rate (f0_26 q0 p2) ((f0_14 p2) - (f0_26 q0 p2)))), .second, .val (.int (1 : Int32)), .unset, .unset, .unset, .unset, .unset, .unset, .unset, .unset, .unset, .unset, .unset, .unset] [(.long (0 : Int64)), (.long (0 : Int64)), (.ref b10), (.ref b10)])) _
    refine XS.lload X10.here hx rfl (hb hby at_88) rfl ?_
    show Steps p.tables e below (T10.setTop (mkF m 90 #[.val (.long q0), .second, .val (.long q1), .second, .val (.int p2), .val (.long q3), .second, .val (.long q4), .second, .val (.long q5), .second, .val (.int (f0_8 p2)), .val (.long (f0_14 p2)), .second, .val (.long (f0_26 q0 p2)), .second, .val (.long ((f0_14 p2) - (f0_26 q0 p2))), .second, .val (.ref b1), .val (.double (own_rate (f0_26 q0 p2) ((f0_14 p2) - (f0_26 q0 p2)))), .second, .val (.int (1 : Int32)), .unset, .unset, .unset, .unset, .unset, .unset, .unset, .unset, .unset, .unset, .unset, .unset] [(.long q3), (.long (0 : Int64)), (.long (0 : Int64)), (.ref b10), (.ref b10)])) _
    refine XS.lload X10.here hx rfl (hb hby at_90) rfl ?_
    show Steps p.tables e below (T10.setTop (mkF m 92 #[.val (.long q0), .second, .val (.long q1), .second, .val (.int p2), .val (.long q3), .second, .val (.long q4), .second, .val (.long q5), .second, .val (.int (f0_8 p2)), .val (.long (f0_14 p2)), .second, .val (.long (f0_26 q0 p2)), .second, .val (.long ((f0_14 p2) - (f0_26 q0 p2))), .second, .val (.ref b1), .val (.double (own_rate (f0_26 q0 p2) ((f0_14 p2) - (f0_26 q0 p2)))), .second, .val (.int (1 : Int32)), .unset, .unset, .unset, .unset, .unset, .unset, .unset, .unset, .unset, .unset, .unset, .unset] [(.long q4), (.long q3), (.long (0 : Int64)), (.long (0 : Int64)), (.ref b10), (.ref b10)])) _
    refine XS.lload X10.here hx rfl (hb hby at_92) rfl ?_
    show Steps p.tables e below (T10.setTop (mkF m 94 #[.val (.long q0), .second, .val (.long q1), .second, .val (.int p2), .val (.long q3), .second, .val (.long q4), .second, .val (.long q5), .second, .val (.int (f0_8 p2)), .val (.long (f0_14 p2)), .second, .val (.long (f0_26 q0 p2)), .second, .val (.long ((f0_14 p2) - (f0_26 q0 p2))), .second, .val (.ref b1), .val (.double (own_rate (f0_26 q0 p2) ((f0_14 p2) - (f0_26 q0 p2)))), .second, .val (.int (1 : Int32)), .unset, .unset, .unset, .unset, .unset, .unset, .unset, .unset, .unset, .unset, .unset, .unset] [(.long q5), (.long q4), (.long q3), (.long (0 : Int64)), (.long (0 : Int64)), (.ref b10), (.ref b10)])) _
    refine XS.lloadN X10.here hx rfl (hb hby at_94) rfl ?_
    show Steps p.tables e below (T10.setTop (mkF m 95 #[.val (.long q0), .second, .val (.long q1), .second, .val (.int p2), .val (.long q3), .second, .val (.long q4), .second, .val (.long q5), .second, .val (.int (f0_8 p2)), .val (.long (f0_14 p2)), .second, .val (.long (f0_26 q0 p2)), .second, .val (.long ((f0_14 p2) - (f0_26 q0 p2))), .second, .val (.ref b1), .val (.double (own_rate (f0_26 q0 p2) ((f0_14 p2) - (f0_26 q0 p2)))), .second, .val (.int (1 : Int32)), .unset, .unset, .unset, .unset, .unset, .unset, .unset, .unset, .unset, .unset, .unset, .unset] [(.long q1), (.long q5), (.long q4), (.long q3), (.long (0 : Int64)), (.long (0 : Int64)), (.ref b10), (.ref b10)])) _
    refine st14.trans ?_
    show Steps p.tables e below (T14.setTop (mkF m 98 #[.val (.long q0), .second, .val (.long q1), .second, .val (.int p2), .val (.long q3), .second, .val (.long q4), .second, .val (.long q5), .second, .val (.int (f0_8 p2)), .val (.long (f0_14 p2)), .second, .val (.long (f0_26 q0 p2)), .second, .val (.long ((f0_14 p2) - (f0_26 q0 p2))), .second, .val (.ref b1), .val (.double (own_rate (f0_26 q0 p2) ((f0_14 p2) - (f0_26 q0 p2)))), .second, .val (.int (1 : Int32)), .unset, .unset, .unset, .unset, .unset, .unset, .unset, .unset, .unset, .unset, .unset, .unset] [(.ref b10)])) _
    refine XS.astore X14.here hx rfl (hb hby at_98) rfl rfl (l' := #[.val (.long q0), .second, .val (.long q1), .second, .val (.int p2), .val (.long q3), .second, .val (.long q4), .second, .val (.long q5), .second, .val (.int (f0_8 p2)), .val (.long (f0_14 p2)), .second, .val (.long (f0_26 q0 p2)), .second, .val (.long ((f0_14 p2) - (f0_26 q0 p2))), .second, .val (.ref b1), .val (.double (own_rate (f0_26 q0 p2) ((f0_14 p2) - (f0_26 q0 p2)))), .second, .val (.int (1 : Int32)), .val (.ref b10), .unset, .unset, .unset, .unset, .unset, .unset, .unset, .unset, .unset, .unset, .unset]) rfl ?_
    show Steps p.tables e below (T14.setTop (mkF m 100 #[.val (.long q0), .second, .val (.long q1), .second, .val (.int p2), .val (.long q3), .second, .val (.long q4), .second, .val (.long q5), .second, .val (.int (f0_8 p2)), .val (.long (f0_14 p2)), .second, .val (.long (f0_26 q0 p2)), .second, .val (.long ((f0_14 p2) - (f0_26 q0 p2))), .second, .val (.ref b1), .val (.double (own_rate (f0_26 q0 p2) ((f0_14 p2) - (f0_26 q0 p2)))), .second, .val (.int (1 : Int32)), .val (.ref b10), .unset, .unset, .unset, .unset, .unset, .unset, .unset, .unset, .unset, .unset, .unset] [])) _
    refine XS.aload X14.here hx rfl (hb hby at_100) rfl rfl ?_
    show Steps p.tables e below (T14.setTop (mkF m 102 #[.val (.long q0), .second, .val (.long q1), .second, .val (.int p2), .val (.long q3), .second, .val (.long q4), .second, .val (.long q5), .second, .val (.int (f0_8 p2)), .val (.long (f0_14 p2)), .second, .val (.long (f0_26 q0 p2)), .second, .val (.long ((f0_14 p2) - (f0_26 q0 p2))), .second, .val (.ref b1), .val (.double (own_rate (f0_26 q0 p2) ((f0_14 p2) - (f0_26 q0 p2)))), .second, .val (.int (1 : Int32)), .val (.ref b10), .unset, .unset, .unset, .unset, .unset, .unset, .unset, .unset, .unset, .unset, .unset] [(.ref b10)])) _
    refine st18.trans ?_
    show Steps p.tables e below (T18.setTop (mkF m 105 #[.val (.long q0), .second, .val (.long q1), .second, .val (.int p2), .val (.long q3), .second, .val (.long q4), .second, .val (.long q5), .second, .val (.int (f0_8 p2)), .val (.long (f0_14 p2)), .second, .val (.long (f0_26 q0 p2)), .second, .val (.long ((f0_14 p2) - (f0_26 q0 p2))), .second, .val (.ref b1), .val (.double (own_rate (f0_26 q0 p2) ((f0_14 p2) - (f0_26 q0 p2)))), .second, .val (.int (1 : Int32)), .val (.ref b10), .unset, .unset, .unset, .unset, .unset, .unset, .unset, .unset, .unset, .unset, .unset] [(.double (own_rate (0 : Int64) (0 : Int64)))])) _
    refine XS.dconst1 X18.here hx rfl (v := (4607182418800017408 : UInt64)) (hb hby at_105) rfl ?_
    show Steps p.tables e below (T18.setTop (mkF m 106 #[.val (.long q0), .second, .val (.long q1), .second, .val (.int p2), .val (.long q3), .second, .val (.long q4), .second, .val (.long q5), .second, .val (.int (f0_8 p2)), .val (.long (f0_14 p2)), .second, .val (.long (f0_26 q0 p2)), .second, .val (.long ((f0_14 p2) - (f0_26 q0 p2))), .second, .val (.ref b1), .val (.double (own_rate (f0_26 q0 p2) ((f0_14 p2) - (f0_26 q0 p2)))), .second, .val (.int (1 : Int32)), .val (.ref b10), .unset, .unset, .unset, .unset, .unset, .unset, .unset, .unset, .unset, .unset, .unset] [(.double (4607182418800017408 : UInt64)), (.double (own_rate (0 : Int64) (0 : Int64)))])) _
    refine XS.dcmpS X18.here hx rfl (hb hby at_106) rfl rfl ?_
    show Steps p.tables e below (T18.setTop (mkF m 107 #[.val (.long q0), .second, .val (.long q1), .second, .val (.int p2), .val (.long q3), .second, .val (.long q4), .second, .val (.long q5), .second, .val (.int (f0_8 p2)), .val (.long (f0_14 p2)), .second, .val (.long (f0_26 q0 p2)), .second, .val (.long ((f0_14 p2) - (f0_26 q0 p2))), .second, .val (.ref b1), .val (.double (own_rate (f0_26 q0 p2) ((f0_14 p2) - (f0_26 q0 p2)))), .second, .val (.int (1 : Int32)), .val (.ref b10), .unset, .unset, .unset, .unset, .unset, .unset, .unset, .unset, .unset, .unset, .unset] [(.int (cmpValue (FP.dcmp (own_rate (0 : Int64) (0 : Int64)) (4607182418800017408 : UInt64)) .l))])) _
    refine XS.ifNo X18.here hx rfl (hb hby at_107) rfl ((if0 _ _).trans (teq (show (cmpValue (FP.dcmp (own_rate (0 : Int64) (0 : Int64)) (4607182418800017408 : UInt64)) .l) = (0 : Int32) from own_cl.mpr (by rw [own_rate0]; decide +kernel))).2) ?_
    show Steps p.tables e below (T18.setTop (mkF m 110 #[.val (.long q0), .second, .val (.long q1), .second, .val (.int p2), .val (.long q3), .second, .val (.long q4), .second, .val (.long q5), .second, .val (.int (f0_8 p2)), .val (.long (f0_14 p2)), .second, .val (.long (f0_26 q0 p2)), .second, .val (.long ((f0_14 p2) - (f0_26 q0 p2))), .second, .val (.ref b1), .val (.double (own_rate (f0_26 q0 p2) ((f0_14 p2) - (f0_26 q0 p2)))), .second, .val (.int (1 : Int32)), .val (.ref b10), .unset, .unset, .unset, .unset, .unset, .unset, .unset, .unset, .unset, .unset, .unset] [])) _
    refine XS.iconst X18.here hx rfl (hb hby at_110) ?_
    show Steps p.tables e below (T18.setTop (mkF m 111 #[.val (.long q0), .second, .val (.long q1), .second, .val (.int p2), .val (.long q3), .second, .val (.long q4), .second, .val (.long q5), .second, .val (.int (f0_8 p2)), .val (.long (f0_14 p2)), .second, .val (.long (f0_26 q0 p2)), .second, .val (.long ((f0_14 p2) - (f0_26 q0 p2))), .second, .val (.ref b1), .val (.double (own_rate (f0_26 q0 p2) ((f0_14 p2) - (f0_26 q0 p2)))), .second, .val (.int (1 : Int32)), .val (.ref b10), .unset, .unset, .unset, .unset, .unset, .unset, .unset, .unset, .unset, .unset, .unset] [(.int (1 : Int32))])) _
    refine XS.goto X18.here hx rfl (pc0 := 111) (pc' := 115) rfl (hb hby at_111) (by decide) (by decide) ?_
    show Steps p.tables e below (T18.setTop (mkF m 115 #[.val (.long q0), .second, .val (.long q1), .second, .val (.int p2), .val (.long q3), .second, .val (.long q4), .second, .val (.long q5), .second, .val (.int (f0_8 p2)), .val (.long (f0_14 p2)), .second, .val (.long (f0_26 q0 p2)), .second, .val (.long ((f0_14 p2) - (f0_26 q0 p2))), .second, .val (.ref b1), .val (.double (own_rate (f0_26 q0 p2) ((f0_14 p2) - (f0_26 q0 p2)))), .second, .val (.int (1 : Int32)), .val (.ref b10), .unset, .unset, .unset, .unset, .unset, .unset, .unset, .unset, .unset, .unset, .unset] [(.int (1 : Int32))])) _
    refine XS.istore X18.here hx rfl (hb hby at_115) rfl (l' := #[.val (.long q0), .second, .val (.long q1), .second, .val (.int p2), .val (.long q3), .second, .val (.long q4), .second, .val (.long q5), .second, .val (.int (f0_8 p2)), .val (.long (f0_14 p2)), .second, .val (.long (f0_26 q0 p2)), .second, .val (.long ((f0_14 p2) - (f0_26 q0 p2))), .second, .val (.ref b1), .val (.double (own_rate (f0_26 q0 p2) ((f0_14 p2) - (f0_26 q0 p2)))), .second, .val (.int (1 : Int32)), .val (.ref b10), .val (.int (1 : Int32)), .unset, .unset, .unset, .unset, .unset, .unset, .unset, .unset, .unset, .unset]) rfl ?_
    show Steps p.tables e below (T18.setTop (mkF m 117 #[.val (.long q0), .second, .val (.long q1), .second, .val (.int p2), .val (.long q3), .second, .val (.long q4), .second, .val (.long q5), .second, .val (.int (f0_8 p2)), .val (.long (f0_14 p2)), .second, .val (.long (f0_26 q0 p2)), .second, .val (.long ((f0_14 p2) - (f0_26 q0 p2))), .second, .val (.ref b1), .val (.double (own_rate (f0_26 q0 p2) ((f0_14 p2) - (f0_26 q0 p2)))), .second, .val (.int (1 : Int32)), .val (.ref b10), .val (.int (1 : Int32)), .unset, .unset, .unset, .unset, .unset, .unset, .unset, .unset, .unset, .unset] [])) _
    refine XS.lloadN X18.here hx rfl (hb hby at_117) rfl ?_
    show Steps p.tables e below (T18.setTop (mkF m 118 #[.val (.long q0), .second, .val (.long q1), .second, .val (.int p2), .val (.long q3), .second, .val (.long q4), .second, .val (.long q5), .second, .val (.int (f0_8 p2)), .val (.long (f0_14 p2)), .second, .val (.long (f0_26 q0 p2)), .second, .val (.long ((f0_14 p2) - (f0_26 q0 p2))), .second, .val (.ref b1), .val (.double (own_rate (f0_26 q0 p2) ((f0_14 p2) - (f0_26 q0 p2)))), .second, .val (.int (1 : Int32)), .val (.ref b10), .val (.int (1 : Int32)), .unset, .unset, .unset, .unset, .unset, .unset, .unset, .unset, .unset, .unset] [(.long q0)])) _
    refine X18.ldc2Long hx hown (mvT hZ (hw _ (List.mem_of_getElem? (i := 1) rfl))) (g := (mkF m 118 #[.val (.long q0), .second, .val (.long q1), .second, .val (.int p2), .val (.long q3), .second, .val (.long q4), .second, .val (.long q5), .second, .val (.int (f0_8 p2)), .val (.long (f0_14 p2)), .second, .val (.long (f0_26 q0 p2)), .second, .val (.long ((f0_14 p2) - (f0_26 q0 p2))), .second, .val (.ref b1), .val (.double (own_rate (f0_26 q0 p2) ((f0_14 p2) - (f0_26 q0 p2)))), .second, .val (.int (1 : Int32)), .val (.ref b10), .val (.int (1 : Int32)), .unset, .unset, .unset, .unset, .unset, .unset, .unset, .unset, .unset, .unset] [(.long q0)])) rfl (hb hby at_118) _ ?_
    show Steps p.tables e below (T18.setTop (mkF m 121 #[.val (.long q0), .second, .val (.long q1), .second, .val (.int p2), .val (.long q3), .second, .val (.long q4), .second, .val (.long q5), .second, .val (.int (f0_8 p2)), .val (.long (f0_14 p2)), .second, .val (.long (f0_26 q0 p2)), .second, .val (.long ((f0_14 p2) - (f0_26 q0 p2))), .second, .val (.ref b1), .val (.double (own_rate (f0_26 q0 p2) ((f0_14 p2) - (f0_26 q0 p2)))), .second, .val (.int (1 : Int32)), .val (.ref b10), .val (.int (1 : Int32)), .unset, .unset, .unset, .unset, .unset, .unset, .unset, .unset, .unset, .unset] [(.long (9223372036854775807 : Int64)), (.long q0)])) _
    refine XS.land X18.here hx rfl (hb hby at_121) rfl ?_
    show Steps p.tables e below (T18.setTop (mkF m 122 #[.val (.long q0), .second, .val (.long q1), .second, .val (.int p2), .val (.long q3), .second, .val (.long q4), .second, .val (.long q5), .second, .val (.int (f0_8 p2)), .val (.long (f0_14 p2)), .second, .val (.long (f0_26 q0 p2)), .second, .val (.long ((f0_14 p2) - (f0_26 q0 p2))), .second, .val (.ref b1), .val (.double (own_rate (f0_26 q0 p2) ((f0_14 p2) - (f0_26 q0 p2)))), .second, .val (.int (1 : Int32)), .val (.ref b10), .val (.int (1 : Int32)), .unset, .unset, .unset, .unset, .unset, .unset, .unset, .unset, .unset, .unset] [(.long (q0 &&& (9223372036854775807 : Int64)))])) _
    refine XS.iconst X18.here hx rfl (hb hby at_122) ?_
    show Steps p.tables e below (T18.setTop (mkF m 123 #[.val (.long q0), .second, .val (.long q1), .second, .val (.int p2), .val (.long q3), .second, .val (.long q4), .second, .val (.long q5), .second, .val (.int (f0_8 p2)), .val (.long (f0_14 p2)), .second, .val (.long (f0_26 q0 p2)), .second, .val (.long ((f0_14 p2) - (f0_26 q0 p2))), .second, .val (.ref b1), .val (.double (own_rate (f0_26 q0 p2) ((f0_14 p2) - (f0_26 q0 p2)))), .second, .val (.int (1 : Int32)), .val (.ref b10), .val (.int (1 : Int32)), .unset, .unset, .unset, .unset, .unset, .unset, .unset, .unset, .unset, .unset] [(.int (1 : Int32)), (.long (q0 &&& (9223372036854775807 : Int64)))])) _
    refine XS.lushr X18.here hx rfl (hb hby at_123) rfl ?_
    show Steps p.tables e below (T18.setTop (mkF m 124 #[.val (.long q0), .second, .val (.long q1), .second, .val (.int p2), .val (.long q3), .second, .val (.long q4), .second, .val (.long q5), .second, .val (.int (f0_8 p2)), .val (.long (f0_14 p2)), .second, .val (.long (f0_26 q0 p2)), .second, .val (.long ((f0_14 p2) - (f0_26 q0 p2))), .second, .val (.ref b1), .val (.double (own_rate (f0_26 q0 p2) ((f0_14 p2) - (f0_26 q0 p2)))), .second, .val (.int (1 : Int32)), .val (.ref b10), .val (.int (1 : Int32)), .unset, .unset, .unset, .unset, .unset, .unset, .unset, .unset, .unset, .unset] [(.long (((q0 &&& (9223372036854775807 : Int64)).toUInt64 >>> ((1 : Int32) &&& 0x3f).toInt64.toUInt64).toInt64))])) _
    refine XS.lstore X18.here hx rfl (hb hby at_124) rfl (l' := #[.val (.long q0), .second, .val (.long q1), .second, .val (.int p2), .val (.long q3), .second, .val (.long q4), .second, .val (.long q5), .second, .val (.int (f0_8 p2)), .val (.long (f0_14 p2)), .second, .val (.long (f0_26 q0 p2)), .second, .val (.long ((f0_14 p2) - (f0_26 q0 p2))), .second, .val (.ref b1), .val (.double (own_rate (f0_26 q0 p2) ((f0_14 p2) - (f0_26 q0 p2)))), .second, .val (.int (1 : Int32)), .val (.ref b10), .val (.int (1 : Int32)), .val (.long (f0_124 q0)), .second, .unset, .unset, .unset, .unset, .unset, .unset, .unset, .unset]) rfl ?_
    show Steps p.tables e below (T18.setTop (mkF m 126 #[.val (.long q0), .second, .val (.long q1), .second, .val (.int p2), .val (.long q3), .second, .val (.long q4), .second, .val (.long q5), .second, .val (.int (f0_8 p2)), .val (.long (f0_14 p2)), .second, .val (.long (f0_26 q0 p2)), .second, .val (.long ((f0_14 p2) - (f0_26 q0 p2))), .second, .val (.ref b1), .val (.double (own_rate (f0_26 q0 p2) ((f0_14 p2) - (f0_26 q0 p2)))), .second, .val (.int (1 : Int32)), .val (.ref b10), .val (.int (1 : Int32)), .val (.long (f0_124 q0)), .second, .unset, .unset, .unset, .unset, .unset, .unset, .unset, .unset] [])) _
    refine XS.lloadN X18.here hx rfl (hb hby at_126) rfl ?_
    show Steps p.tables e below (T18.setTop (mkF m 127 #[.val (.long q0), .second, .val (.long q1), .second, .val (.int p2), .val (.long q3), .second, .val (.long q4), .second, .val (.long q5), .second, .val (.int (f0_8 p2)), .val (.long (f0_14 p2)), .second, .val (.long (f0_26 q0 p2)), .second, .val (.long ((f0_14 p2) - (f0_26 q0 p2))), .second, .val (.ref b1), .val (.double (own_rate (f0_26 q0 p2) ((f0_14 p2) - (f0_26 q0 p2)))), .second, .val (.int (1 : Int32)), .val (.ref b10), .val (.int (1 : Int32)), .val (.long (f0_124 q0)), .second, .unset, .unset, .unset, .unset, .unset, .unset, .unset, .unset] [(.long q1)])) _
    refine X18.ldc2Long hx hown (mvT hZ (hw _ (List.mem_of_getElem? (i := 1) rfl))) (g := (mkF m 127 #[.val (.long q0), .second, .val (.long q1), .second, .val (.int p2), .val (.long q3), .second, .val (.long q4), .second, .val (.long q5), .second, .val (.int (f0_8 p2)), .val (.long (f0_14 p2)), .second, .val (.long (f0_26 q0 p2)), .second, .val (.long ((f0_14 p2) - (f0_26 q0 p2))), .second, .val (.ref b1), .val (.double (own_rate (f0_26 q0 p2) ((f0_14 p2) - (f0_26 q0 p2)))), .second, .val (.int (1 : Int32)), .val (.ref b10), .val (.int (1 : Int32)), .val (.long (f0_124 q0)), .second, .unset, .unset, .unset, .unset, .unset, .unset, .unset, .unset] [(.long q1)])) rfl (hb hby at_127) _ ?_
    show Steps p.tables e below (T18.setTop (mkF m 130 #[.val (.long q0), .second, .val (.long q1), .second, .val (.int p2), .val (.long q3), .second, .val (.long q4), .second, .val (.long q5), .second, .val (.int (f0_8 p2)), .val (.long (f0_14 p2)), .second, .val (.long (f0_26 q0 p2)), .second, .val (.long ((f0_14 p2) - (f0_26 q0 p2))), .second, .val (.ref b1), .val (.double (own_rate (f0_26 q0 p2) ((f0_14 p2) - (f0_26 q0 p2)))), .second, .val (.int (1 : Int32)), .val (.ref b10), .val (.int (1 : Int32)), .val (.long (f0_124 q0)), .second, .unset, .unset, .unset, .unset, .unset, .unset, .unset, .unset] [(.long (9223372036854775807 : Int64)), (.long q1)])) _
    refine XS.land X18.here hx rfl (hb hby at_130) rfl ?_
    show Steps p.tables e below (T18.setTop (mkF m 131 #[.val (.long q0), .second, .val (.long q1), .second, .val (.int p2), .val (.long q3), .second, .val (.long q4), .second, .val (.long q5), .second, .val (.int (f0_8 p2)), .val (.long (f0_14 p2)), .second, .val (.long (f0_26 q0 p2)), .second, .val (.long ((f0_14 p2) - (f0_26 q0 p2))), .second, .val (.ref b1), .val (.double (own_rate (f0_26 q0 p2) ((f0_14 p2) - (f0_26 q0 p2)))), .second, .val (.int (1 : Int32)), .val (.ref b10), .val (.int (1 : Int32)), .val (.long (f0_124 q0)), .second, .unset, .unset, .unset, .unset, .unset, .unset, .unset, .unset] [(.long (q1 &&& (9223372036854775807 : Int64)))])) _
    refine XS.iconst X18.here hx rfl (hb hby at_131) ?_
    show Steps p.tables e below (T18.setTop (mkF m 132 #[.val (.long q0), .second, .val (.long q1), .second, .val (.int p2), .val (.long q3), .second, .val (.long q4), .second, .val (.long q5), .second, .val (.int (f0_8 p2)), .val (.long (f0_14 p2)), .second, .val (.long (f0_26 q0 p2)), .second, .val (.long ((f0_14 p2) - (f0_26 q0 p2))), .second, .val (.ref b1), .val (.double (own_rate (f0_26 q0 p2) ((f0_14 p2) - (f0_26 q0 p2)))), .second, .val (.int (1 : Int32)), .val (.ref b10), .val (.int (1 : Int32)), .val (.long (f0_124 q0)), .second, .unset, .unset, .unset, .unset, .unset, .unset, .unset, .unset] [(.int (1 : Int32)), (.long (q1 &&& (9223372036854775807 : Int64)))])) _
    refine XS.lushr X18.here hx rfl (hb hby at_132) rfl ?_
    show Steps p.tables e below (T18.setTop (mkF m 133 #[.val (.long q0), .second, .val (.long q1), .second, .val (.int p2), .val (.long q3), .second, .val (.long q4), .second, .val (.long q5), .second, .val (.int (f0_8 p2)), .val (.long (f0_14 p2)), .second, .val (.long (f0_26 q0 p2)), .second, .val (.long ((f0_14 p2) - (f0_26 q0 p2))), .second, .val (.ref b1), .val (.double (own_rate (f0_26 q0 p2) ((f0_14 p2) - (f0_26 q0 p2)))), .second, .val (.int (1 : Int32)), .val (.ref b10), .val (.int (1 : Int32)), .val (.long (f0_124 q0)), .second, .unset, .unset, .unset, .unset, .unset, .unset, .unset, .unset] [(.long (((q1 &&& (9223372036854775807 : Int64)).toUInt64 >>> ((1 : Int32) &&& 0x3f).toInt64.toUInt64).toInt64))])) _
    refine XS.lstore X18.here hx rfl (hb hby at_133) rfl (l' := #[.val (.long q0), .second, .val (.long q1), .second, .val (.int p2), .val (.long q3), .second, .val (.long q4), .second, .val (.long q5), .second, .val (.int (f0_8 p2)), .val (.long (f0_14 p2)), .second, .val (.long (f0_26 q0 p2)), .second, .val (.long ((f0_14 p2) - (f0_26 q0 p2))), .second, .val (.ref b1), .val (.double (own_rate (f0_26 q0 p2) ((f0_14 p2) - (f0_26 q0 p2)))), .second, .val (.int (1 : Int32)), .val (.ref b10), .val (.int (1 : Int32)), .val (.long (f0_124 q0)), .second, .val (.long (f0_133 q1)), .second, .unset, .unset, .unset, .unset, .unset, .unset]) rfl ?_
    show Steps p.tables e below (T18.setTop (mkF m 135 #[.val (.long q0), .second, .val (.long q1), .second, .val (.int p2), .val (.long q3), .second, .val (.long q4), .second, .val (.long q5), .second, .val (.int (f0_8 p2)), .val (.long (f0_14 p2)), .second, .val (.long (f0_26 q0 p2)), .second, .val (.long ((f0_14 p2) - (f0_26 q0 p2))), .second, .val (.ref b1), .val (.double (own_rate (f0_26 q0 p2) ((f0_14 p2) - (f0_26 q0 p2)))), .second, .val (.int (1 : Int32)), .val (.ref b10), .val (.int (1 : Int32)), .val (.long (f0_124 q0)), .second, .val (.long (f0_133 q1)), .second, .unset, .unset, .unset, .unset, .unset, .unset] [])) _
    refine st19 _ ?_
    show Steps p.tables e below (T19.setTop (mkF m 138 #[.val (.long q0), .second, .val (.long q1), .second, .val (.int p2), .val (.long q3), .second, .val (.long q4), .second, .val (.long q5), .second, .val (.int (f0_8 p2)), .val (.long (f0_14 p2)), .second, .val (.long (f0_26 q0 p2)), .second, .val (.long ((f0_14 p2) - (f0_26 q0 p2))), .second, .val (.ref b1), .val (.double (own_rate (f0_26 q0 p2) ((f0_14 p2) - (f0_26 q0 p2)))), .second, .val (.int (1 : Int32)), .val (.ref b10), .val (.int (1 : Int32)), .val (.long (f0_124 q0)), .second, .val (.long (f0_133 q1)), .second, .unset, .unset, .unset, .unset, .unset, .unset] [(.ref b19)])) _
    refine XS.dup X19.here hx rfl (hb hby at_138) rfl rfl ?_
    show Steps p.tables e below (T19.setTop (mkF m 139 #[.val (.long q0), .second, .val (.long q1), .second, .val (.int p2), .val (.long q3), .second, .val (.long q4), .second, .val (.long q5), .second, .val (.int (f0_8 p2)), .val (.long (f0_14 p2)), .second, .val (.long (f0_26 q0 p2)), .second, .val (.long ((f0_14 p2) - (f0_26 q0 p2))), .second, .val (.ref b1), .val (.double (own_rate (f0_26 q0 p2) ((f0_14 p2) - (f0_26 q0 p2)))), .second, .val (.int (1 : Int32)), .val (.ref b10), .val (.int (1 : Int32)), .val (.long (f0_124 q0)), .second, .val (.long (f0_133 q1)), .second, .unset, .unset, .unset, .unset, .unset, .unset] [(.ref b19), (.ref b19)])) _
    refine XS.lload X19.here hx rfl (hb hby at_139) rfl ?_
    show Steps p.tables e below (T19.setTop (mkF m 141 #[.val (.long q0), .second, .val (.long q1), .second, .val (.int p2), .val (.long q3), .second, .val (.long q4), .second, .val (.long q5), .second, .val (.int (f0_8 p2)), .val (.long (f0_14 p2)), .second, .val (.long (f0_26 q0 p2)), .second, .val (.long ((f0_14 p2) - (f0_26 q0 p2))), .second, .val (.ref b1), .val (.double (own_rate (f0_26 q0 p2) ((f0_14 p2) - (f0_26 q0 p2)))), .second, .val (.int (1 : Int32)), .val (.ref b10), .val (.int (1 : Int32)), .val (.long (f0_124 q0)), .second, .val (.long (f0_133 q1)), .second, .unset, .unset, .unset, .unset, .unset, .unset] [(.long (f0_124 q0)), (.ref b19), (.ref b19)])) _
    refine XS.lload X19.here hx rfl (hb hby at_141) rfl ?_
    show Steps p.tables e below (T19.setTop (mkF m 143 #[.val (.long q0), .second, .val (.long q1), .second, .val (.int p2), .val (.long q3), .second, .val (.long q4), .second, .val (.long q5), .second, .val (.int (f0_8 p2)), .val (.long (f0_14 p2)), .second, .val (.long (f0_26 q0 p2)), .second, .val (.long ((f0_14 p2) - (f0_26 q0 p2))), .second, .val (.ref b1), .val (.double (own_rate (f0_26 q0 p2) ((f0_14 p2) - (f0_26 q0 p2)))), .second, .val (.int (1 : Int32)), .val (.ref b10), .val (.int (1 : Int32)), .val (.long (f0_124 q0)), .second, .val (.long (f0_133 q1)), .second, .unset, .unset, .unset, .unset, .unset, .unset] [(.long (f0_133 q1)), (.long (f0_124 q0)), (.ref b19), (.ref b19)])) _
    refine XS.lload X19.here hx rfl (hb hby at_143) rfl ?_
    show Steps p.tables e below (T19.setTop (mkF m 145 #[.val (.long q0), .second, .val (.long q1), .second, .val (.int p2), .val (.long q3), .second, .val (.long q4), .second, .val (.long q5), .second, .val (.int (f0_8 p2)), .val (.long (f0_14 p2)), .second, .val (.long (f0_26 q0 p2)), .second, .val (.long ((f0_14 p2) - (f0_26 q0 p2))), .second, .val (.ref b1), .val (.double (own_rate (f0_26 q0 p2) ((f0_14 p2) - (f0_26 q0 p2)))), .second, .val (.int (1 : Int32)), .val (.ref b10), .val (.int (1 : Int32)), .val (.long (f0_124 q0)), .second, .val (.long (f0_133 q1)), .second, .unset, .unset, .unset, .unset, .unset, .unset] [(.long q3), (.long (f0_133 q1)), (.long (f0_124 q0)), (.ref b19), (.ref b19)])) _
    refine XS.lload X19.here hx rfl (hb hby at_145) rfl ?_
    show Steps p.tables e below (T19.setTop (mkF m 147 #[.val (.long q0), .second, .val (.long q1), .second, .val (.int p2), .val (.long q3), .second, .val (.long q4), .second, .val (.long q5), .second, .val (.int (f0_8 p2)), .val (.long (f0_14 p2)), .second, .val (.long (f0_26 q0 p2)), .second, .val (.long ((f0_14 p2) - (f0_26 q0 p2))), .second, .val (.ref b1), .val (.double (own_rate (f0_26 q0 p2) ((f0_14 p2) - (f0_26 q0 p2)))), .second, .val (.int (1 : Int32)), .val (.ref b10), .val (.int (1 : Int32)), .val (.long (f0_124 q0)), .second, .val (.long (f0_133 q1)), .second, .unset, .unset, .unset, .unset, .unset, .unset] [(.long q4), (.long q3), (.long (f0_133 q1)), (.long (f0_124 q0)), (.ref b19), (.ref b19)])) _
    refine XS.lload X19.here hx rfl (hb hby at_147) rfl ?_
    show Steps p.tables e below (T19.setTop (mkF m 149 #[.val (.long q0), .second, .val (.long q1), .second, .val (.int p2), .val (.long q3), .second, .val (.long q4), .second, .val (.long q5), .second, .val (.int (f0_8 p2)), .val (.long (f0_14 p2)), .second, .val (.long (f0_26 q0 p2)), .second, .val (.long ((f0_14 p2) - (f0_26 q0 p2))), .second, .val (.ref b1), .val (.double (own_rate (f0_26 q0 p2) ((f0_14 p2) - (f0_26 q0 p2)))), .second, .val (.int (1 : Int32)), .val (.ref b10), .val (.int (1 : Int32)), .val (.long (f0_124 q0)), .second, .val (.long (f0_133 q1)), .second, .unset, .unset, .unset, .unset, .unset, .unset] [(.long q5), (.long q4), (.long q3), (.long (f0_133 q1)), (.long (f0_124 q0)), (.ref b19), (.ref b19)])) _
    refine XS.iload X19.here hx rfl (hb hby at_149) rfl ?_
    show Steps p.tables e below (T19.setTop (mkF m 151 #[.val (.long q0), .second, .val (.long q1), .second, .val (.int p2), .val (.long q3), .second, .val (.long q4), .second, .val (.long q5), .second, .val (.int (f0_8 p2)), .val (.long (f0_14 p2)), .second, .val (.long (f0_26 q0 p2)), .second, .val (.long ((f0_14 p2) - (f0_26 q0 p2))), .second, .val (.ref b1), .val (.double (own_rate (f0_26 q0 p2) ((f0_14 p2) - (f0_26 q0 p2)))), .second, .val (.int (1 : Int32)), .val (.ref b10), .val (.int (1 : Int32)), .val (.long (f0_124 q0)), .second, .val (.long (f0_133 q1)), .second, .unset, .unset, .unset, .unset, .unset, .unset] [(.int p2), (.long q5), (.long q4), (.long q3), (.long (f0_133 q1)), (.long (f0_124 q0)), (.ref b19), (.ref b19)])) _
    refine XS.i2l X19.here hx rfl (hb hby at_151) rfl ?_
    show Steps p.tables e below (T19.setTop (mkF m 152 #[.val (.long q0), .second, .val (.long q1), .second, .val (.int p2), .val (.long q3), .second, .val (.long q4), .second, .val (.long q5), .second, .val (.int (f0_8 p2)), .val (.long (f0_14 p2)), .second, .val (.long (f0_26 q0 p2)), .second, .val (.long ((f0_14 p2) - (f0_26 q0 p2))), .second, .val (.ref b1), .val (.double (own_rate (f0_26 q0 p2) ((f0_14 p2) - (f0_26 q0 p2)))), .second, .val (.int (1 : Int32)), .val (.ref b10), .val (.int (1 : Int32)), .val (.long (f0_124 q0)), .second, .val (.long (f0_133 q1)), .second, .unset, .unset, .unset, .unset, .unset, .unset] [(.long (p2.toInt64)), (.long q5), (.long q4), (.long q3), (.long (f0_133 q1)), (.long (f0_124 q0)), (.ref b19), (.ref b19)])) _
    refine st23.trans ?_
    show Steps p.tables e below (T23.setTop (mkF m 155 #[.val (.long q0), .second, .val (.long q1), .second, .val (.int p2), .val (.long q3), .second, .val (.long q4), .second, .val (.long q5), .second, .val (.int (f0_8 p2)), .val (.long (f0_14 p2)), .second, .val (.long (f0_26 q0 p2)), .second, .val (.long ((f0_14 p2) - (f0_26 q0 p2))), .second, .val (.ref b1), .val (.double (own_rate (f0_26 q0 p2) ((f0_14 p2) - (f0_26 q0 p2)))), .second, .val (.int (1 : Int32)), .val (.ref b10), .val (.int (1 : Int32)), .val (.long (f0_124 q0)), .second, .val (.long (f0_133 q1)), .second, .unset, .unset, .unset, .unset, .unset, .unset] [(.ref b19)])) _
    refine XS.astore X23.here hx rfl (hb hby at_155) rfl rfl (l' := #[.val (.long q0), .second, .val (.long q1), .second, .val (.int p2), .val (.long q3), .second, .val (.long q4), .second, .val (.long q5), .second, .val (.int (f0_8 p2)), .val (.long (f0_14 p2)), .second, .val (.long (f0_26 q0 p2)), .second, .val (.long ((f0_14 p2) - (f0_26 q0 p2))), .second, .val (.ref b1), .val (.double (own_rate (f0_26 q0 p2) ((f0_14 p2) - (f0_26 q0 p2)))), .second, .val (.int (1 : Int32)), .val (.ref b10), .val (.int (1 : Int32)), .val (.long (f0_124 q0)), .second, .val (.long (f0_133 q1)), .second, .val (.ref b19), .unset, .unset, .unset, .unset, .unset]) rfl ?_
    show Steps p.tables e below (T23.setTop (mkF m 157 #[.val (.long q0), .second, .val (.long q1), .second, .val (.int p2), .val (.long q3), .second, .val (.long q4), .second, .val (.long q5), .second, .val (.int (f0_8 p2)), .val (.long (f0_14 p2)), .second, .val (.long (f0_26 q0 p2)), .second, .val (.long ((f0_14 p2) - (f0_26 q0 p2))), .second, .val (.ref b1), .val (.double (own_rate (f0_26 q0 p2) ((f0_14 p2) - (f0_26 q0 p2)))), .second, .val (.int (1 : Int32)), .val (.ref b10), .val (.int (1 : Int32)), .val (.long (f0_124 q0)), .second, .val (.long (f0_133 q1)), .second, .val (.ref b19), .unset, .unset, .unset, .unset, .unset] [])) _
    refine XS.aload X23.here hx rfl (hb hby at_157) rfl rfl ?_
    show Steps p.tables e below (T23.setTop (mkF m 159 #[.val (.long q0), .second, .val (.long q1), .second, .val (.int p2), .val (.long q3), .second, .val (.long q4), .second, .val (.long q5), .second, .val (.int (f0_8 p2)), .val (.long (f0_14 p2)), .second, .val (.long (f0_26 q0 p2)), .second, .val (.long ((f0_14 p2) - (f0_26 q0 p2))), .second, .val (.ref b1), .val (.double (own_rate (f0_26 q0 p2) ((f0_14 p2) - (f0_26 q0 p2)))), .second, .val (.int (1 : Int32)), .val (.ref b10), .val (.int (1 : Int32)), .val (.long (f0_124 q0)), .second, .val (.long (f0_133 q1)), .second, .val (.ref b19), .unset, .unset, .unset, .unset, .unset] [(.ref b19)])) _
    refine st27.trans ?_
    show Steps p.tables e below (T27.setTop (mkF m 162 #[.val (.long q0), .second, .val (.long q1), .second, .val (.int p2), .val (.long q3), .second, .val (.long q4), .second, .val (.long q5), .second, .val (.int (f0_8 p2)), .val (.long (f0_14 p2)), .second, .val (.long (f0_26 q0 p2)), .second, .val (.long ((f0_14 p2) - (f0_26 q0 p2))), .second, .val (.ref b1), .val (.double (own_rate (f0_26 q0 p2) ((f0_14 p2) - (f0_26 q0 p2)))), .second, .val (.int (1 : Int32)), .val (.ref b10), .val (.int (1 : Int32)), .val (.long (f0_124 q0)), .second, .val (.long (f0_133 q1)), .second, .val (.ref b19), .unset, .unset, .unset, .unset, .unset] [(.double (own_rate (f0_124 q0) (f0_133 q1)))])) _
    refine XS.dstore X27.here hx rfl (hb hby at_162) rfl (l' := #[.val (.long q0), .second, .val (.long q1), .second, .val (.int p2), .val (.long q3), .second, .val (.long q4), .second, .val (.long q5), .second, .val (.int (f0_8 p2)), .val (.long (f0_14 p2)), .second, .val (.long (f0_26 q0 p2)), .second, .val (.long ((f0_14 p2) - (f0_26 q0 p2))), .second, .val (.ref b1), .val (.double (own_rate (f0_26 q0 p2) ((f0_14 p2) - (f0_26 q0 p2)))), .second, .val (.int (1 : Int32)), .val (.ref b10), .val (.int (1 : Int32)), .val (.long (f0_124 q0)), .second, .val (.long (f0_133 q1)), .second, .val (.ref b19), .val (.double (own_rate (f0_124 q0) (f0_133 q1))), .second, .unset, .unset, .unset]) rfl ?_
    show Steps p.tables e below (T27.setTop (mkF m 164 #[.val (.long q0), .second, .val (.long q1), .second, .val (.int p2), .val (.long q3), .second, .val (.long q4), .second, .val (.long q5), .second, .val (.int (f0_8 p2)), .val (.long (f0_14 p2)), .second, .val (.long (f0_26 q0 p2)), .second, .val (.long ((f0_14 p2) - (f0_26 q0 p2))), .second, .val (.ref b1), .val (.double (own_rate (f0_26 q0 p2) ((f0_14 p2) - (f0_26 q0 p2)))), .second, .val (.int (1 : Int32)), .val (.ref b10), .val (.int (1 : Int32)), .val (.long (f0_124 q0)), .second, .val (.long (f0_133 q1)), .second, .val (.ref b19), .val (.double (own_rate (f0_124 q0) (f0_133 q1))), .second, .unset, .unset, .unset] [])) _
    refine XS.lload X27.here hx rfl (hb hby at_164) rfl ?_
    show Steps p.tables e below (T27.setTop (mkF m 166 #[.val (.long q0), .second, .val (.long q1), .second, .val (.int p2), .val (.long q3), .second, .val (.long q4), .second, .val (.long q5), .second, .val (.int (f0_8 p2)), .val (.long (f0_14 p2)), .second, .val (.long (f0_26 q0 p2)), .second, .val (.long ((f0_14 p2) - (f0_26 q0 p2))), .second, .val (.ref b1), .val (.double (own_rate (f0_26 q0 p2) ((f0_14 p2) - (f0_26 q0 p2)))), .second, .val (.int (1 : Int32)), .val (.ref b10), .val (.int (1 : Int32)), .val (.long (f0_124 q0)), .second, .val (.long (f0_133 q1)), .second, .val (.ref b19), .val (.double (own_rate (f0_124 q0) (f0_133 q1))), .second, .unset, .unset, .unset] [(.long (f0_124 q0))])) _
    refine XS.lconst X27.here hx rfl (hb hby at_166) ?_
    show Steps p.tables e below (T27.setTop (mkF m 167 #[.val (.long q0), .second, .val (.long q1), .second, .val (.int p2), .val (.long q3), .second, .val (.long q4), .second, .val (.long q5), .second, .val (.int (f0_8 p2)), .val (.long (f0_14 p2)), .second, .val (.long (f0_26 q0 p2)), .second, .val (.long ((f0_14 p2) - (f0_26 q0 p2))), .second, .val (.ref b1), .val (.double (own_rate (f0_26 q0 p2) ((f0_14 p2) - (f0_26 q0 p2)))), .second, .val (.int (1 : Int32)), .val (.ref b10), .val (.int (1 : Int32)), .val (.long (f0_124 q0)), .second, .val (.long (f0_133 q1)), .second, .val (.ref b19), .val (.double (own_rate (f0_124 q0) (f0_133 q1))), .second, .unset, .unset, .unset] [(.long (0 : Int64)), (.long (f0_124 q0))])) _
    refine XS.lcmp X27.here hx rfl (hb hby at_167) rfl ?_
    show Steps p.tables e below (T27.setTop (mkF m 168 #[.val (.long q0), .second, .val (.long q1), .second, .val (.int p2), .val (.long q3), .second, .val (.long q4), .second, .val (.long q5), .second, .val (.int (f0_8 p2)), .val (.long (f0_14 p2)), .second, .val (.long (f0_26 q0 p2)), .second, .val (.long ((f0_14 p2) - (f0_26 q0 p2))), .second, .val (.ref b1), .val (.double (own_rate (f0_26 q0 p2) ((f0_14 p2) - (f0_26 q0 p2)))), .second, .val (.int (1 : Int32)), .val (.ref b10), .val (.int (1 : Int32)), .val (.long (f0_124 q0)), .second, .val (.long (f0_133 q1)), .second, .val (.ref b19), .val (.double (own_rate (f0_124 q0) (f0_133 q1))), .second, .unset, .unset, .unset] [(.int (lcmpW (f0_124 q0) (0 : Int64)))])) _
    exact k)
  have pre38 : ∀ t, Steps p.tables e below (T27.setTop (mkF m 243 #[.val (.long q0), .second, .val (.long q1), .second, .val (.int p2), .val (.long q3), .second, .val (.long q4), .second, .val (.long q5), .second, .val (.int (f0_8 p2)), .val (.long (f0_14 p2)), .second, .val (.long (f0_26 q0 p2)), .second, .val (.long ((f0_14 p2) - (f0_26 q0 p2))), .second, .val (.ref b1), .val (.double (own_rate (f0_26 q0 p2) ((f0_14 p2) - (f0_26 q0 p2)))), .second, .val (.int (1 : Int32)), .val (.ref b10), .val (.int (1 : Int32)), .val (.long (f0_124 q0)), .second, .val (.long (f0_133 q1)), .second, .val (.ref b19), .val (.double (own_rate (f0_124 q0) (f0_133 q1))), .second, .val (.int (f0_243 q0 q1)), .unset, .unset] [])) t → Steps p.tables e below (s₁.setTop (entryFrame m #[(.long q0), (.long q1), (.int p2), (.long q3), (.long q4), (.long q5)] maxLocals)) t := fun t k => pre28 t (by
    by_cases hf29 : (f0_124 q0) = (0 : Int64)
    · refine XS.ifNo X27.here hx rfl (hb hby at_168) rfl (own_eqL hf29).2 ?_
      show Steps p.tables e below (T27.setTop (mkF m 171 #[.val (.long q0), .second, .val (.long q1), .second, .val (.int p2), .val (.long q3), .second, .val (.long q4), .second, .val (.long q5), .second, .val (.int (f0_8 p2)), .val (.long (f0_14 p2)), .second, .val (.long (f0_26 q0 p2)), .second, .val (.long ((f0_14 p2) - (f0_26 q0 p2))), .second, .val (.ref b1), .val (.double (own_rate (f0_26 q0 p2) ((f0_14 p2) - (f0_26 q0 p2)))), .second, .val (.int (1 : Int32)), .val (.ref b10), .val (.int (1 : Int32)), .val (.long (f0_124 q0)), .second, .val (.long (f0_133 q1)), .second, .val (.ref b19), .val (.double (own_rate (f0_124 q0) (f0_133 q1))), .second, .unset, .unset, .unset] [])) _
      refine XS.lload X27.here hx rfl (hb hby at_171) rfl ?_
      show Steps p.tables e below (T27.setTop (mkF m 173 #[.val (.long q0), .second, .val (.long q1), .second, .val (.int p2), .val (.long q3), .second, .val (.long q4), .second, .val (.long q5), .second, .val (.int (f0_8 p2)), .val (.long (f0_14 p2)), .second, .val (.long (f0_26 q0 p2)), .second, .val (.long ((f0_14 p2) - (f0_26 q0 p2))), .second, .val (.ref b1), .val (.double (own_rate (f0_26 q0 p2) ((f0_14 p2) - (f0_26 q0 p2)))), .second, .val (.int (1 : Int32)), .val (.ref b10), .val (.int (1 : Int32)), .val (.long (f0_124 q0)), .second, .val (.long (f0_133 q1)), .second, .val (.ref b19), .val (.double (own_rate (f0_124 q0) (f0_133 q1))), .second, .unset, .unset, .unset] [(.long (f0_133 q1))])) _
      refine XS.lconst X27.here hx rfl (hb hby at_173) ?_
      show Steps p.tables e below (T27.setTop (mkF m 174 #[.val (.long q0), .second, .val (.long q1), .second, .val (.int p2), .val (.long q3), .second, .val (.long q4), .second, .val (.long q5), .second, .val (.int (f0_8 p2)), .val (.long (f0_14 p2)), .second, .val (.long (f0_26 q0 p2)), .second, .val (.long ((f0_14 p2) - (f0_26 q0 p2))), .second, .val (.ref b1), .val (.double (own_rate (f0_26 q0 p2) ((f0_14 p2) - (f0_26 q0 p2)))), .second, .val (.int (1 : Int32)), .val (.ref b10), .val (.int (1 : Int32)), .val (.long (f0_124 q0)), .second, .val (.long (f0_133 q1)), .second, .val (.ref b19), .val (.double (own_rate (f0_124 q0) (f0_133 q1))), .second, .unset, .unset, .unset] [(.long (0 : Int64)), (.long (f0_133 q1))])) _
      refine XS.lcmp X27.here hx rfl (hb hby at_174) rfl ?_
      show Steps p.tables e below (T27.setTop (mkF m 175 #[.val (.long q0), .second, .val (.long q1), .second, .val (.int p2), .val (.long q3), .second, .val (.long q4), .second, .val (.long q5), .second, .val (.int (f0_8 p2)), .val (.long (f0_14 p2)), .second, .val (.long (f0_26 q0 p2)), .second, .val (.long ((f0_14 p2) - (f0_26 q0 p2))), .second, .val (.ref b1), .val (.double (own_rate (f0_26 q0 p2) ((f0_14 p2) - (f0_26 q0 p2)))), .second, .val (.int (1 : Int32)), .val (.ref b10), .val (.int (1 : Int32)), .val (.long (f0_124 q0)), .second, .val (.long (f0_133 q1)), .second, .val (.ref b19), .val (.double (own_rate (f0_124 q0) (f0_133 q1))), .second, .unset, .unset, .unset] [(.int (lcmpW (f0_133 q1) (0 : Int64)))])) _
      by_cases hf30 : (f0_133 q1) = (0 : Int64)
      · refine XS.ifNo X27.here hx rfl (hb hby at_175) rfl (own_eqL hf30).2 ?_
        show Steps p.tables e below (T27.setTop (mkF m 178 #[.val (.long q0), .second, .val (.long q1), .second, .val (.int p2), .val (.long q3), .second, .val (.long q4), .second, .val (.long q5), .second, .val (.int (f0_8 p2)), .val (.long (f0_14 p2)), .second, .val (.long (f0_26 q0 p2)), .second, .val (.long ((f0_14 p2) - (f0_26 q0 p2))), .second, .val (.ref b1), .val (.double (own_rate (f0_26 q0 p2) ((f0_14 p2) - (f0_26 q0 p2)))), .second, .val (.int (1 : Int32)), .val (.ref b10), .val (.int (1 : Int32)), .val (.long (f0_124 q0)), .second, .val (.long (f0_133 q1)), .second, .val (.ref b19), .val (.double (own_rate (f0_124 q0) (f0_133 q1))), .second, .unset, .unset, .unset] [])) _
        refine XS.dload X27.here hx rfl (hb hby at_178) rfl ?_
        show Steps p.tables e below (T27.setTop (mkF m 180 #[.val (.long q0), .second, .val (.long q1), .second, .val (.int p2), .val (.long q3), .second, .val (.long q4), .second, .val (.long q5), .second, .val (.int (f0_8 p2)), .val (.long (f0_14 p2)), .second, .val (.long (f0_26 q0 p2)), .second, .val (.long ((f0_14 p2) - (f0_26 q0 p2))), .second, .val (.ref b1), .val (.double (own_rate (f0_26 q0 p2) ((f0_14 p2) - (f0_26 q0 p2)))), .second, .val (.int (1 : Int32)), .val (.ref b10), .val (.int (1 : Int32)), .val (.long (f0_124 q0)), .second, .val (.long (f0_133 q1)), .second, .val (.ref b19), .val (.double (own_rate (f0_124 q0) (f0_133 q1))), .second, .unset, .unset, .unset] [(.double (own_rate (f0_124 q0) (f0_133 q1)))])) _
        refine XS.dconst1 X27.here hx rfl (v := (4607182418800017408 : UInt64)) (hb hby at_180) rfl ?_
        show Steps p.tables e below (T27.setTop (mkF m 181 #[.val (.long q0), .second, .val (.long q1), .second, .val (.int p2), .val (.long q3), .second, .val (.long q4), .second, .val (.long q5), .second, .val (.int (f0_8 p2)), .val (.long (f0_14 p2)), .second, .val (.long (f0_26 q0 p2)), .second, .val (.long ((f0_14 p2) - (f0_26 q0 p2))), .second, .val (.ref b1), .val (.double (own_rate (f0_26 q0 p2) ((f0_14 p2) - (f0_26 q0 p2)))), .second, .val (.int (1 : Int32)), .val (.ref b10), .val (.int (1 : Int32)), .val (.long (f0_124 q0)), .second, .val (.long (f0_133 q1)), .second, .val (.ref b19), .val (.double (own_rate (f0_124 q0) (f0_133 q1))), .second, .unset, .unset, .unset] [(.double (4607182418800017408 : UInt64)), (.double (own_rate (f0_124 q0) (f0_133 q1)))])) _
        refine XS.dcmpS X27.here hx rfl (hb hby at_181) rfl rfl ?_
        show Steps p.tables e below (T27.setTop (mkF m 182 #[.val (.long q0), .second, .val (.long q1), .second, .val (.int p2), .val (.long q3), .second, .val (.long q4), .second, .val (.long q5), .second, .val (.int (f0_8 p2)), .val (.long (f0_14 p2)), .second, .val (.long (f0_26 q0 p2)), .second, .val (.long ((f0_14 p2) - (f0_26 q0 p2))), .second, .val (.ref b1), .val (.double (own_rate (f0_26 q0 p2) ((f0_14 p2) - (f0_26 q0 p2)))), .second, .val (.int (1 : Int32)), .val (.ref b10), .val (.int (1 : Int32)), .val (.long (f0_124 q0)), .second, .val (.long (f0_133 q1)), .second, .val (.ref b19), .val (.double (own_rate (f0_124 q0) (f0_133 q1))), .second, .unset, .unset, .unset] [(.int (cmpValue (FP.dcmp (own_rate (f0_124 q0) (f0_133 q1)) (4607182418800017408 : UInt64)) .l))])) _
        by_cases hf31 : (cmpValue (FP.dcmp (own_rate (f0_124 q0) (f0_133 q1)) (4607182418800017408 : UInt64)) .l) = (0 : Int32)
        · refine XS.ifNo X27.here hx rfl (hb hby at_182) rfl ((if0 _ _).trans (teq hf31).2) ?_
          show Steps p.tables e below (T27.setTop (mkF m 185 #[.val (.long q0), .second, .val (.long q1), .second, .val (.int p2), .val (.long q3), .second, .val (.long q4), .second, .val (.long q5), .second, .val (.int (f0_8 p2)), .val (.long (f0_14 p2)), .second, .val (.long (f0_26 q0 p2)), .second, .val (.long ((f0_14 p2) - (f0_26 q0 p2))), .second, .val (.ref b1), .val (.double (own_rate (f0_26 q0 p2) ((f0_14 p2) - (f0_26 q0 p2)))), .second, .val (.int (1 : Int32)), .val (.ref b10), .val (.int (1 : Int32)), .val (.long (f0_124 q0)), .second, .val (.long (f0_133 q1)), .second, .val (.ref b19), .val (.double (own_rate (f0_124 q0) (f0_133 q1))), .second, .unset, .unset, .unset] [])) _
          refine XS.iconst X27.here hx rfl (hb hby at_185) ?_
          show Steps p.tables e below (T27.setTop (mkF m 186 #[.val (.long q0), .second, .val (.long q1), .second, .val (.int p2), .val (.long q3), .second, .val (.long q4), .second, .val (.long q5), .second, .val (.int (f0_8 p2)), .val (.long (f0_14 p2)), .second, .val (.long (f0_26 q0 p2)), .second, .val (.long ((f0_14 p2) - (f0_26 q0 p2))), .second, .val (.ref b1), .val (.double (own_rate (f0_26 q0 p2) ((f0_14 p2) - (f0_26 q0 p2)))), .second, .val (.int (1 : Int32)), .val (.ref b10), .val (.int (1 : Int32)), .val (.long (f0_124 q0)), .second, .val (.long (f0_133 q1)), .second, .val (.ref b19), .val (.double (own_rate (f0_124 q0) (f0_133 q1))), .second, .unset, .unset, .unset] [(.int (1 : Int32))])) _
          refine XS.goto X27.here hx rfl (pc0 := 186) (pc' := 190) rfl (hb hby at_186) (by decide) (by decide) ?_
          show Steps p.tables e below (T27.setTop (mkF m 190 #[.val (.long q0), .second, .val (.long q1), .second, .val (.int p2), .val (.long q3), .second, .val (.long q4), .second, .val (.long q5), .second, .val (.int (f0_8 p2)), .val (.long (f0_14 p2)), .second, .val (.long (f0_26 q0 p2)), .second, .val (.long ((f0_14 p2) - (f0_26 q0 p2))), .second, .val (.ref b1), .val (.double (own_rate (f0_26 q0 p2) ((f0_14 p2) - (f0_26 q0 p2)))), .second, .val (.int (1 : Int32)), .val (.ref b10), .val (.int (1 : Int32)), .val (.long (f0_124 q0)), .second, .val (.long (f0_133 q1)), .second, .val (.ref b19), .val (.double (own_rate (f0_124 q0) (f0_133 q1))), .second, .unset, .unset, .unset] [(.int (1 : Int32))])) _
          refine XS.istore X27.here hx rfl (hb hby at_190) rfl (l' := #[.val (.long q0), .second, .val (.long q1), .second, .val (.int p2), .val (.long q3), .second, .val (.long q4), .second, .val (.long q5), .second, .val (.int (f0_8 p2)), .val (.long (f0_14 p2)), .second, .val (.long (f0_26 q0 p2)), .second, .val (.long ((f0_14 p2) - (f0_26 q0 p2))), .second, .val (.ref b1), .val (.double (own_rate (f0_26 q0 p2) ((f0_14 p2) - (f0_26 q0 p2)))), .second, .val (.int (1 : Int32)), .val (.ref b10), .val (.int (1 : Int32)), .val (.long (f0_124 q0)), .second, .val (.long (f0_133 q1)), .second, .val (.ref b19), .val (.double (own_rate (f0_124 q0) (f0_133 q1))), .second, .val (.int (1 : Int32)), .unset, .unset]) rfl ?_
          show Steps p.tables e below (T27.setTop (mkF m 192 #[.val (.long q0), .second, .val (.long q1), .second, .val (.int p2), .val (.long q3), .second, .val (.long q4), .second, .val (.long q5), .second, .val (.int (f0_8 p2)), .val (.long (f0_14 p2)), .second, .val (.long (f0_26 q0 p2)), .second, .val (.long ((f0_14 p2) - (f0_26 q0 p2))), .second, .val (.ref b1), .val (.double (own_rate (f0_26 q0 p2) ((f0_14 p2) - (f0_26 q0 p2)))), .second, .val (.int (1 : Int32)), .val (.ref b10), .val (.int (1 : Int32)), .val (.long (f0_124 q0)), .second, .val (.long (f0_133 q1)), .second, .val (.ref b19), .val (.double (own_rate (f0_124 q0) (f0_133 q1))), .second, .val (.int (1 : Int32)), .unset, .unset] [])) _
          refine XS.goto X27.here hx rfl (pc0 := 192) (pc' := 243) rfl (hb hby at_192) (by decide) (by decide) ?_
          show Steps p.tables e below (T27.setTop (mkF m 243 #[.val (.long q0), .second, .val (.long q1), .second, .val (.int p2), .val (.long q3), .second, .val (.long q4), .second, .val (.long q5), .second, .val (.int (f0_8 p2)), .val (.long (f0_14 p2)), .second, .val (.long (f0_26 q0 p2)), .second, .val (.long ((f0_14 p2) - (f0_26 q0 p2))), .second, .val (.ref b1), .val (.double (own_rate (f0_26 q0 p2) ((f0_14 p2) - (f0_26 q0 p2)))), .second, .val (.int (1 : Int32)), .val (.ref b10), .val (.int (1 : Int32)), .val (.long (f0_124 q0)), .second, .val (.long (f0_133 q1)), .second, .val (.ref b19), .val (.double (own_rate (f0_124 q0) (f0_133 q1))), .second, .val (.int (1 : Int32)), .unset, .unset] [])) _
          rw [show (f0_243 q0 q1) = ((1 : Int32) : Int32) from by simp only [f0_243, if_pos hf29, if_pos hf30, if_pos hf31]] at k
          exact k
        · refine XS.ifYes X27.here hx rfl (pc0 := 182) (pc' := 189) rfl (hb hby at_182) rfl ((if0 _ _).trans (feq hf31).2) (by decide) (by decide) ?_
          show Steps p.tables e below (T27.setTop (mkF m 189 #[.val (.long q0), .second, .val (.long q1), .second, .val (.int p2), .val (.long q3), .second, .val (.long q4), .second, .val (.long q5), .second, .val (.int (f0_8 p2)), .val (.long (f0_14 p2)), .second, .val (.long (f0_26 q0 p2)), .second, .val (.long ((f0_14 p2) - (f0_26 q0 p2))), .second, .val (.ref b1), .val (.double (own_rate (f0_26 q0 p2) ((f0_14 p2) - (f0_26 q0 p2)))), .second, .val (.int (1 : Int32)), .val (.ref b10), .val (.int (1 : Int32)), .val (.long (f0_124 q0)), .second, .val (.long (f0_133 q1)), .second, .val (.ref b19), .val (.double (own_rate (f0_124 q0) (f0_133 q1))), .second, .unset, .unset, .unset] [])) _
          refine XS.iconst X27.here hx rfl (hb hby at_189) ?_
          show Steps p.tables e below (T27.setTop (mkF m 190 #[.val (.long q0), .second, .val (.long q1), .second, .val (.int p2), .val (.long q3), .second, .val (.long q4), .second, .val (.long q5), .second, .val (.int (f0_8 p2)), .val (.long (f0_14 p2)), .second, .val (.long (f0_26 q0 p2)), .second, .val (.long ((f0_14 p2) - (f0_26 q0 p2))), .second, .val (.ref b1), .val (.double (own_rate (f0_26 q0 p2) ((f0_14 p2) - (f0_26 q0 p2)))), .second, .val (.int (1 : Int32)), .val (.ref b10), .val (.int (1 : Int32)), .val (.long (f0_124 q0)), .second, .val (.long (f0_133 q1)), .second, .val (.ref b19), .val (.double (own_rate (f0_124 q0) (f0_133 q1))), .second, .unset, .unset, .unset] [(.int (0 : Int32))])) _
          refine XS.istore X27.here hx rfl (hb hby at_190) rfl (l' := #[.val (.long q0), .second, .val (.long q1), .second, .val (.int p2), .val (.long q3), .second, .val (.long q4), .second, .val (.long q5), .second, .val (.int (f0_8 p2)), .val (.long (f0_14 p2)), .second, .val (.long (f0_26 q0 p2)), .second, .val (.long ((f0_14 p2) - (f0_26 q0 p2))), .second, .val (.ref b1), .val (.double (own_rate (f0_26 q0 p2) ((f0_14 p2) - (f0_26 q0 p2)))), .second, .val (.int (1 : Int32)), .val (.ref b10), .val (.int (1 : Int32)), .val (.long (f0_124 q0)), .second, .val (.long (f0_133 q1)), .second, .val (.ref b19), .val (.double (own_rate (f0_124 q0) (f0_133 q1))), .second, .val (.int (0 : Int32)), .unset, .unset]) rfl ?_
          show Steps p.tables e below (T27.setTop (mkF m 192 #[.val (.long q0), .second, .val (.long q1), .second, .val (.int p2), .val (.long q3), .second, .val (.long q4), .second, .val (.long q5), .second, .val (.int (f0_8 p2)), .val (.long (f0_14 p2)), .second, .val (.long (f0_26 q0 p2)), .second, .val (.long ((f0_14 p2) - (f0_26 q0 p2))), .second, .val (.ref b1), .val (.double (own_rate (f0_26 q0 p2) ((f0_14 p2) - (f0_26 q0 p2)))), .second, .val (.int (1 : Int32)), .val (.ref b10), .val (.int (1 : Int32)), .val (.long (f0_124 q0)), .second, .val (.long (f0_133 q1)), .second, .val (.ref b19), .val (.double (own_rate (f0_124 q0) (f0_133 q1))), .second, .val (.int (0 : Int32)), .unset, .unset] [])) _
          refine XS.goto X27.here hx rfl (pc0 := 192) (pc' := 243) rfl (hb hby at_192) (by decide) (by decide) ?_
          show Steps p.tables e below (T27.setTop (mkF m 243 #[.val (.long q0), .second, .val (.long q1), .second, .val (.int p2), .val (.long q3), .second, .val (.long q4), .second, .val (.long q5), .second, .val (.int (f0_8 p2)), .val (.long (f0_14 p2)), .second, .val (.long (f0_26 q0 p2)), .second, .val (.long ((f0_14 p2) - (f0_26 q0 p2))), .second, .val (.ref b1), .val (.double (own_rate (f0_26 q0 p2) ((f0_14 p2) - (f0_26 q0 p2)))), .second, .val (.int (1 : Int32)), .val (.ref b10), .val (.int (1 : Int32)), .val (.long (f0_124 q0)), .second, .val (.long (f0_133 q1)), .second, .val (.ref b19), .val (.double (own_rate (f0_124 q0) (f0_133 q1))), .second, .val (.int (0 : Int32)), .unset, .unset] [])) _
          rw [show (f0_243 q0 q1) = ((0 : Int32) : Int32) from by simp only [f0_243, if_pos hf29, if_pos hf30, if_neg hf31]] at k
          exact k
      · refine XS.ifYes X27.here hx rfl (pc0 := 175) (pc' := 195) rfl (hb hby at_175) rfl (own_neL hf30).2 (by decide) (by decide) ?_
        show Steps p.tables e below (T27.setTop (mkF m 195 #[.val (.long q0), .second, .val (.long q1), .second, .val (.int p2), .val (.long q3), .second, .val (.long q4), .second, .val (.long q5), .second, .val (.int (f0_8 p2)), .val (.long (f0_14 p2)), .second, .val (.long (f0_26 q0 p2)), .second, .val (.long ((f0_14 p2) - (f0_26 q0 p2))), .second, .val (.ref b1), .val (.double (own_rate (f0_26 q0 p2) ((f0_14 p2) - (f0_26 q0 p2)))), .second, .val (.int (1 : Int32)), .val (.ref b10), .val (.int (1 : Int32)), .val (.long (f0_124 q0)), .second, .val (.long (f0_133 q1)), .second, .val (.ref b19), .val (.double (own_rate (f0_124 q0) (f0_133 q1))), .second, .unset, .unset, .unset] [])) _
        refine XS.dconst0 X27.here hx rfl (v := (0 : UInt64)) (hb hby at_195) rfl ?_
        show Steps p.tables e below (T27.setTop (mkF m 196 #[.val (.long q0), .second, .val (.long q1), .second, .val (.int p2), .val (.long q3), .second, .val (.long q4), .second, .val (.long q5), .second, .val (.int (f0_8 p2)), .val (.long (f0_14 p2)), .second, .val (.long (f0_26 q0 p2)), .second, .val (.long ((f0_14 p2) - (f0_26 q0 p2))), .second, .val (.ref b1), .val (.double (own_rate (f0_26 q0 p2) ((f0_14 p2) - (f0_26 q0 p2)))), .second, .val (.int (1 : Int32)), .val (.ref b10), .val (.int (1 : Int32)), .val (.long (f0_124 q0)), .second, .val (.long (f0_133 q1)), .second, .val (.ref b19), .val (.double (own_rate (f0_124 q0) (f0_133 q1))), .second, .unset, .unset, .unset] [(.double (0 : UInt64))])) _
        refine XS.dload X27.here hx rfl (hb hby at_196) rfl ?_
        show Steps p.tables e below (T27.setTop (mkF m 198 #[.val (.long q0), .second, .val (.long q1), .second, .val (.int p2), .val (.long q3), .second, .val (.long q4), .second, .val (.long q5), .second, .val (.int (f0_8 p2)), .val (.long (f0_14 p2)), .second, .val (.long (f0_26 q0 p2)), .second, .val (.long ((f0_14 p2) - (f0_26 q0 p2))), .second, .val (.ref b1), .val (.double (own_rate (f0_26 q0 p2) ((f0_14 p2) - (f0_26 q0 p2)))), .second, .val (.int (1 : Int32)), .val (.ref b10), .val (.int (1 : Int32)), .val (.long (f0_124 q0)), .second, .val (.long (f0_133 q1)), .second, .val (.ref b19), .val (.double (own_rate (f0_124 q0) (f0_133 q1))), .second, .unset, .unset, .unset] [(.double (own_rate (f0_124 q0) (f0_133 q1))), (.double (0 : UInt64))])) _
        refine XS.dcmpS X27.here hx rfl (hb hby at_198) rfl rfl ?_
        show Steps p.tables e below (T27.setTop (mkF m 199 #[.val (.long q0), .second, .val (.long q1), .second, .val (.int p2), .val (.long q3), .second, .val (.long q4), .second, .val (.long q5), .second, .val (.int (f0_8 p2)), .val (.long (f0_14 p2)), .second, .val (.long (f0_26 q0 p2)), .second, .val (.long ((f0_14 p2) - (f0_26 q0 p2))), .second, .val (.ref b1), .val (.double (own_rate (f0_26 q0 p2) ((f0_14 p2) - (f0_26 q0 p2)))), .second, .val (.int (1 : Int32)), .val (.ref b10), .val (.int (1 : Int32)), .val (.long (f0_124 q0)), .second, .val (.long (f0_133 q1)), .second, .val (.ref b19), .val (.double (own_rate (f0_124 q0) (f0_133 q1))), .second, .unset, .unset, .unset] [(.int (cmpValue (FP.dcmp (0 : UInt64) (own_rate (f0_124 q0) (f0_133 q1))) .g))])) _
        by_cases hf32 : (0 : Int32) < (cmpValue (FP.dcmp (0 : UInt64) (own_rate (f0_124 q0) (f0_133 q1))) .g)
        · refine XS.ifYes X27.here hx rfl (pc0 := 199) (pc' := 240) rfl (hb hby at_199) rfl ((if0 _ _).trans (tlt hf32).2.2.1) (by decide) (by decide) ?_
          show Steps p.tables e below (T27.setTop (mkF m 240 #[.val (.long q0), .second, .val (.long q1), .second, .val (.int p2), .val (.long q3), .second, .val (.long q4), .second, .val (.long q5), .second, .val (.int (f0_8 p2)), .val (.long (f0_14 p2)), .second, .val (.long (f0_26 q0 p2)), .second, .val (.long ((f0_14 p2) - (f0_26 q0 p2))), .second, .val (.ref b1), .val (.double (own_rate (f0_26 q0 p2) ((f0_14 p2) - (f0_26 q0 p2)))), .second, .val (.int (1 : Int32)), .val (.ref b10), .val (.int (1 : Int32)), .val (.long (f0_124 q0)), .second, .val (.long (f0_133 q1)), .second, .val (.ref b19), .val (.double (own_rate (f0_124 q0) (f0_133 q1))), .second, .unset, .unset, .unset] [])) _
          refine XS.iconst X27.here hx rfl (hb hby at_240) ?_
          show Steps p.tables e below (T27.setTop (mkF m 241 #[.val (.long q0), .second, .val (.long q1), .second, .val (.int p2), .val (.long q3), .second, .val (.long q4), .second, .val (.long q5), .second, .val (.int (f0_8 p2)), .val (.long (f0_14 p2)), .second, .val (.long (f0_26 q0 p2)), .second, .val (.long ((f0_14 p2) - (f0_26 q0 p2))), .second, .val (.ref b1), .val (.double (own_rate (f0_26 q0 p2) ((f0_14 p2) - (f0_26 q0 p2)))), .second, .val (.int (1 : Int32)), .val (.ref b10), .val (.int (1 : Int32)), .val (.long (f0_124 q0)), .second, .val (.long (f0_133 q1)), .second, .val (.ref b19), .val (.double (own_rate (f0_124 q0) (f0_133 q1))), .second, .unset, .unset, .unset] [(.int (0 : Int32))])) _
          refine XS.istore X27.here hx rfl (hb hby at_241) rfl (l' := #[.val (.long q0), .second, .val (.long q1), .second, .val (.int p2), .val (.long q3), .second, .val (.long q4), .second, .val (.long q5), .second, .val (.int (f0_8 p2)), .val (.long (f0_14 p2)), .second, .val (.long (f0_26 q0 p2)), .second, .val (.long ((f0_14 p2) - (f0_26 q0 p2))), .second, .val (.ref b1), .val (.double (own_rate (f0_26 q0 p2) ((f0_14 p2) - (f0_26 q0 p2)))), .second, .val (.int (1 : Int32)), .val (.ref b10), .val (.int (1 : Int32)), .val (.long (f0_124 q0)), .second, .val (.long (f0_133 q1)), .second, .val (.ref b19), .val (.double (own_rate (f0_124 q0) (f0_133 q1))), .second, .val (.int (0 : Int32)), .unset, .unset]) rfl ?_
          show Steps p.tables e below (T27.setTop (mkF m 243 #[.val (.long q0), .second, .val (.long q1), .second, .val (.int p2), .val (.long q3), .second, .val (.long q4), .second, .val (.long q5), .second, .val (.int (f0_8 p2)), .val (.long (f0_14 p2)), .second, .val (.long (f0_26 q0 p2)), .second, .val (.long ((f0_14 p2) - (f0_26 q0 p2))), .second, .val (.ref b1), .val (.double (own_rate (f0_26 q0 p2) ((f0_14 p2) - (f0_26 q0 p2)))), .second, .val (.int (1 : Int32)), .val (.ref b10), .val (.int (1 : Int32)), .val (.long (f0_124 q0)), .second, .val (.long (f0_133 q1)), .second, .val (.ref b19), .val (.double (own_rate (f0_124 q0) (f0_133 q1))), .second, .val (.int (0 : Int32)), .unset, .unset] [])) _
          rw [show (f0_243 q0 q1) = ((0 : Int32) : Int32) from by simp only [f0_243, if_pos hf29, if_neg hf30, if_pos hf32]] at k
          exact k
        · refine XS.ifNo X27.here hx rfl (hb hby at_199) rfl ((if0 _ _).trans (flt hf32).2.2.1) ?_
          show Steps p.tables e below (T27.setTop (mkF m 202 #[.val (.long q0), .second, .val (.long q1), .second, .val (.int p2), .val (.long q3), .second, .val (.long q4), .second, .val (.long q5), .second, .val (.int (f0_8 p2)), .val (.long (f0_14 p2)), .second, .val (.long (f0_26 q0 p2)), .second, .val (.long ((f0_14 p2) - (f0_26 q0 p2))), .second, .val (.ref b1), .val (.double (own_rate (f0_26 q0 p2) ((f0_14 p2) - (f0_26 q0 p2)))), .second, .val (.int (1 : Int32)), .val (.ref b10), .val (.int (1 : Int32)), .val (.long (f0_124 q0)), .second, .val (.long (f0_133 q1)), .second, .val (.ref b19), .val (.double (own_rate (f0_124 q0) (f0_133 q1))), .second, .unset, .unset, .unset] [])) _
          refine XS.dload X27.here hx rfl (hb hby at_202) rfl ?_
          show Steps p.tables e below (T27.setTop (mkF m 204 #[.val (.long q0), .second, .val (.long q1), .second, .val (.int p2), .val (.long q3), .second, .val (.long q4), .second, .val (.long q5), .second, .val (.int (f0_8 p2)), .val (.long (f0_14 p2)), .second, .val (.long (f0_26 q0 p2)), .second, .val (.long ((f0_14 p2) - (f0_26 q0 p2))), .second, .val (.ref b1), .val (.double (own_rate (f0_26 q0 p2) ((f0_14 p2) - (f0_26 q0 p2)))), .second, .val (.int (1 : Int32)), .val (.ref b10), .val (.int (1 : Int32)), .val (.long (f0_124 q0)), .second, .val (.long (f0_133 q1)), .second, .val (.ref b19), .val (.double (own_rate (f0_124 q0) (f0_133 q1))), .second, .unset, .unset, .unset] [(.double (own_rate (f0_124 q0) (f0_133 q1)))])) _
          refine XS.dconst1 X27.here hx rfl (v := (4607182418800017408 : UInt64)) (hb hby at_204) rfl ?_
          show Steps p.tables e below (T27.setTop (mkF m 205 #[.val (.long q0), .second, .val (.long q1), .second, .val (.int p2), .val (.long q3), .second, .val (.long q4), .second, .val (.long q5), .second, .val (.int (f0_8 p2)), .val (.long (f0_14 p2)), .second, .val (.long (f0_26 q0 p2)), .second, .val (.long ((f0_14 p2) - (f0_26 q0 p2))), .second, .val (.ref b1), .val (.double (own_rate (f0_26 q0 p2) ((f0_14 p2) - (f0_26 q0 p2)))), .second, .val (.int (1 : Int32)), .val (.ref b10), .val (.int (1 : Int32)), .val (.long (f0_124 q0)), .second, .val (.long (f0_133 q1)), .second, .val (.ref b19), .val (.double (own_rate (f0_124 q0) (f0_133 q1))), .second, .unset, .unset, .unset] [(.double (4607182418800017408 : UInt64)), (.double (own_rate (f0_124 q0) (f0_133 q1)))])) _
          refine XS.dcmpS X27.here hx rfl (hb hby at_205) rfl rfl ?_
          show Steps p.tables e below (T27.setTop (mkF m 206 #[.val (.long q0), .second, .val (.long q1), .second, .val (.int p2), .val (.long q3), .second, .val (.long q4), .second, .val (.long q5), .second, .val (.int (f0_8 p2)), .val (.long (f0_14 p2)), .second, .val (.long (f0_26 q0 p2)), .second, .val (.long ((f0_14 p2) - (f0_26 q0 p2))), .second, .val (.ref b1), .val (.double (own_rate (f0_26 q0 p2) ((f0_14 p2) - (f0_26 q0 p2)))), .second, .val (.int (1 : Int32)), .val (.ref b10), .val (.int (1 : Int32)), .val (.long (f0_124 q0)), .second, .val (.long (f0_133 q1)), .second, .val (.ref b19), .val (.double (own_rate (f0_124 q0) (f0_133 q1))), .second, .unset, .unset, .unset] [(.int (cmpValue (FP.dcmp (own_rate (f0_124 q0) (f0_133 q1)) (4607182418800017408 : UInt64)) .g))])) _
          by_cases hf33 : (0 : Int32) < (cmpValue (FP.dcmp (own_rate (f0_124 q0) (f0_133 q1)) (4607182418800017408 : UInt64)) .g)
          · refine XS.ifYes X27.here hx rfl (pc0 := 206) (pc' := 240) rfl (hb hby at_206) rfl ((if0 _ _).trans (tlt hf33).2.2.1) (by decide) (by decide) ?_
            show Steps p.tables e below (T27.setTop (mkF m 240 #[.val (.long q0), .second, .val (.long q1), .second, .val (.int p2), .val (.long q3), .second, .val (.long q4), .second, .val (.long q5), .second, .val (.int (f0_8 p2)), .val (.long (f0_14 p2)), .second, .val (.long (f0_26 q0 p2)), .second, .val (.long ((f0_14 p2) - (f0_26 q0 p2))), .second, .val (.ref b1), .val (.double (own_rate (f0_26 q0 p2) ((f0_14 p2) - (f0_26 q0 p2)))), .second, .val (.int (1 : Int32)), .val (.ref b10), .val (.int (1 : Int32)), .val (.long (f0_124 q0)), .second, .val (.long (f0_133 q1)), .second, .val (.ref b19), .val (.double (own_rate (f0_124 q0) (f0_133 q1))), .second, .unset, .unset, .unset] [])) _
            refine XS.iconst X27.here hx rfl (hb hby at_240) ?_
            show Steps p.tables e below (T27.setTop (mkF m 241 #[.val (.long q0), .second, .val (.long q1), .second, .val (.int p2), .val (.long q3), .second, .val (.long q4), .second, .val (.long q5), .second, .val (.int (f0_8 p2)), .val (.long (f0_14 p2)), .second, .val (.long (f0_26 q0 p2)), .second, .val (.long ((f0_14 p2) - (f0_26 q0 p2))), .second, .val (.ref b1), .val (.double (own_rate (f0_26 q0 p2) ((f0_14 p2) - (f0_26 q0 p2)))), .second, .val (.int (1 : Int32)), .val (.ref b10), .val (.int (1 : Int32)), .val (.long (f0_124 q0)), .second, .val (.long (f0_133 q1)), .second, .val (.ref b19), .val (.double (own_rate (f0_124 q0) (f0_133 q1))), .second, .unset, .unset, .unset] [(.int (0 : Int32))])) _
            refine XS.istore X27.here hx rfl (hb hby at_241) rfl (l' := #[.val (.long q0), .second, .val (.long q1), .second, .val (.int p2), .val (.long q3), .second, .val (.long q4), .second, .val (.long q5), .second, .val (.int (f0_8 p2)), .val (.long (f0_14 p2)), .second, .val (.long (f0_26 q0 p2)), .second, .val (.long ((f0_14 p2) - (f0_26 q0 p2))), .second, .val (.ref b1), .val (.double (own_rate (f0_26 q0 p2) ((f0_14 p2) - (f0_26 q0 p2)))), .second, .val (.int (1 : Int32)), .val (.ref b10), .val (.int (1 : Int32)), .val (.long (f0_124 q0)), .second, .val (.long (f0_133 q1)), .second, .val (.ref b19), .val (.double (own_rate (f0_124 q0) (f0_133 q1))), .second, .val (.int (0 : Int32)), .unset, .unset]) rfl ?_
            show Steps p.tables e below (T27.setTop (mkF m 243 #[.val (.long q0), .second, .val (.long q1), .second, .val (.int p2), .val (.long q3), .second, .val (.long q4), .second, .val (.long q5), .second, .val (.int (f0_8 p2)), .val (.long (f0_14 p2)), .second, .val (.long (f0_26 q0 p2)), .second, .val (.long ((f0_14 p2) - (f0_26 q0 p2))), .second, .val (.ref b1), .val (.double (own_rate (f0_26 q0 p2) ((f0_14 p2) - (f0_26 q0 p2)))), .second, .val (.int (1 : Int32)), .val (.ref b10), .val (.int (1 : Int32)), .val (.long (f0_124 q0)), .second, .val (.long (f0_133 q1)), .second, .val (.ref b19), .val (.double (own_rate (f0_124 q0) (f0_133 q1))), .second, .val (.int (0 : Int32)), .unset, .unset] [])) _
            rw [show (f0_243 q0 q1) = ((0 : Int32) : Int32) from by simp only [f0_243, if_pos hf29, if_neg hf30, if_neg hf32, if_pos hf33]] at k
            exact k
          · refine XS.ifNo X27.here hx rfl (hb hby at_206) rfl ((if0 _ _).trans (flt hf33).2.2.1) ?_
            show Steps p.tables e below (T27.setTop (mkF m 209 #[.val (.long q0), .second, .val (.long q1), .second, .val (.int p2), .val (.long q3), .second, .val (.long q4), .second, .val (.long q5), .second, .val (.int (f0_8 p2)), .val (.long (f0_14 p2)), .second, .val (.long (f0_26 q0 p2)), .second, .val (.long ((f0_14 p2) - (f0_26 q0 p2))), .second, .val (.ref b1), .val (.double (own_rate (f0_26 q0 p2) ((f0_14 p2) - (f0_26 q0 p2)))), .second, .val (.int (1 : Int32)), .val (.ref b10), .val (.int (1 : Int32)), .val (.long (f0_124 q0)), .second, .val (.long (f0_133 q1)), .second, .val (.ref b19), .val (.double (own_rate (f0_124 q0) (f0_133 q1))), .second, .unset, .unset, .unset] [])) _
            refine XS.dload X27.here hx rfl (hb hby at_209) rfl ?_
            show Steps p.tables e below (T27.setTop (mkF m 211 #[.val (.long q0), .second, .val (.long q1), .second, .val (.int p2), .val (.long q3), .second, .val (.long q4), .second, .val (.long q5), .second, .val (.int (f0_8 p2)), .val (.long (f0_14 p2)), .second, .val (.long (f0_26 q0 p2)), .second, .val (.long ((f0_14 p2) - (f0_26 q0 p2))), .second, .val (.ref b1), .val (.double (own_rate (f0_26 q0 p2) ((f0_14 p2) - (f0_26 q0 p2)))), .second, .val (.int (1 : Int32)), .val (.ref b10), .val (.int (1 : Int32)), .val (.long (f0_124 q0)), .second, .val (.long (f0_133 q1)), .second, .val (.ref b19), .val (.double (own_rate (f0_124 q0) (f0_133 q1))), .second, .unset, .unset, .unset] [(.double (own_rate (f0_124 q0) (f0_133 q1)))])) _
            refine XS.dconst0 X27.here hx rfl (v := (0 : UInt64)) (hb hby at_211) rfl ?_
            show Steps p.tables e below (T27.setTop (mkF m 212 #[.val (.long q0), .second, .val (.long q1), .second, .val (.int p2), .val (.long q3), .second, .val (.long q4), .second, .val (.long q5), .second, .val (.int (f0_8 p2)), .val (.long (f0_14 p2)), .second, .val (.long (f0_26 q0 p2)), .second, .val (.long ((f0_14 p2) - (f0_26 q0 p2))), .second, .val (.ref b1), .val (.double (own_rate (f0_26 q0 p2) ((f0_14 p2) - (f0_26 q0 p2)))), .second, .val (.int (1 : Int32)), .val (.ref b10), .val (.int (1 : Int32)), .val (.long (f0_124 q0)), .second, .val (.long (f0_133 q1)), .second, .val (.ref b19), .val (.double (own_rate (f0_124 q0) (f0_133 q1))), .second, .unset, .unset, .unset] [(.double (0 : UInt64)), (.double (own_rate (f0_124 q0) (f0_133 q1)))])) _
            refine XS.dcmpS X27.here hx rfl (hb hby at_212) rfl rfl ?_
            show Steps p.tables e below (T27.setTop (mkF m 213 #[.val (.long q0), .second, .val (.long q1), .second, .val (.int p2), .val (.long q3), .second, .val (.long q4), .second, .val (.long q5), .second, .val (.int (f0_8 p2)), .val (.long (f0_14 p2)), .second, .val (.long (f0_26 q0 p2)), .second, .val (.long ((f0_14 p2) - (f0_26 q0 p2))), .second, .val (.ref b1), .val (.double (own_rate (f0_26 q0 p2) ((f0_14 p2) - (f0_26 q0 p2)))), .second, .val (.int (1 : Int32)), .val (.ref b10), .val (.int (1 : Int32)), .val (.long (f0_124 q0)), .second, .val (.long (f0_133 q1)), .second, .val (.ref b19), .val (.double (own_rate (f0_124 q0) (f0_133 q1))), .second, .unset, .unset, .unset] [(.int (cmpValue (FP.dcmp (own_rate (f0_124 q0) (f0_133 q1)) (0 : UInt64)) .l))])) _
            by_cases hf34 : (cmpValue (FP.dcmp (own_rate (f0_124 q0) (f0_133 q1)) (0 : UInt64)) .l) = (0 : Int32)
            · refine XS.ifNo X27.here hx rfl (hb hby at_213) rfl ((if0 _ _).trans (teq hf34).2) ?_
              show Steps p.tables e below (T27.setTop (mkF m 216 #[.val (.long q0), .second, .val (.long q1), .second, .val (.int p2), .val (.long q3), .second, .val (.long q4), .second, .val (.long q5), .second, .val (.int (f0_8 p2)), .val (.long (f0_14 p2)), .second, .val (.long (f0_26 q0 p2)), .second, .val (.long ((f0_14 p2) - (f0_26 q0 p2))), .second, .val (.ref b1), .val (.double (own_rate (f0_26 q0 p2) ((f0_14 p2) - (f0_26 q0 p2)))), .second, .val (.int (1 : Int32)), .val (.ref b10), .val (.int (1 : Int32)), .val (.long (f0_124 q0)), .second, .val (.long (f0_133 q1)), .second, .val (.ref b19), .val (.double (own_rate (f0_124 q0) (f0_133 q1))), .second, .unset, .unset, .unset] [])) _
              refine XS.iconst X27.here hx rfl (hb hby at_216) ?_
              show Steps p.tables e below (T27.setTop (mkF m 217 #[.val (.long q0), .second, .val (.long q1), .second, .val (.int p2), .val (.long q3), .second, .val (.long q4), .second, .val (.long q5), .second, .val (.int (f0_8 p2)), .val (.long (f0_14 p2)), .second, .val (.long (f0_26 q0 p2)), .second, .val (.long ((f0_14 p2) - (f0_26 q0 p2))), .second, .val (.ref b1), .val (.double (own_rate (f0_26 q0 p2) ((f0_14 p2) - (f0_26 q0 p2)))), .second, .val (.int (1 : Int32)), .val (.ref b10), .val (.int (1 : Int32)), .val (.long (f0_124 q0)), .second, .val (.long (f0_133 q1)), .second, .val (.ref b19), .val (.double (own_rate (f0_124 q0) (f0_133 q1))), .second, .unset, .unset, .unset] [(.int (1 : Int32))])) _
              refine XS.goto X27.here hx rfl (pc0 := 217) (pc' := 221) rfl (hb hby at_217) (by decide) (by decide) ?_
              show Steps p.tables e below (T27.setTop (mkF m 221 #[.val (.long q0), .second, .val (.long q1), .second, .val (.int p2), .val (.long q3), .second, .val (.long q4), .second, .val (.long q5), .second, .val (.int (f0_8 p2)), .val (.long (f0_14 p2)), .second, .val (.long (f0_26 q0 p2)), .second, .val (.long ((f0_14 p2) - (f0_26 q0 p2))), .second, .val (.ref b1), .val (.double (own_rate (f0_26 q0 p2) ((f0_14 p2) - (f0_26 q0 p2)))), .second, .val (.int (1 : Int32)), .val (.ref b10), .val (.int (1 : Int32)), .val (.long (f0_124 q0)), .second, .val (.long (f0_133 q1)), .second, .val (.ref b19), .val (.double (own_rate (f0_124 q0) (f0_133 q1))), .second, .unset, .unset, .unset] [(.int (1 : Int32))])) _
              refine XS.lload X27.here hx rfl (hb hby at_221) rfl ?_
              show Steps p.tables e below (T27.setTop (mkF m 223 #[.val (.long q0), .second, .val (.long q1), .second, .val (.int p2), .val (.long q3), .second, .val (.long q4), .second, .val (.long q5), .second, .val (.int (f0_8 p2)), .val (.long (f0_14 p2)), .second, .val (.long (f0_26 q0 p2)), .second, .val (.long ((f0_14 p2) - (f0_26 q0 p2))), .second, .val (.ref b1), .val (.double (own_rate (f0_26 q0 p2) ((f0_14 p2) - (f0_26 q0 p2)))), .second, .val (.int (1 : Int32)), .val (.ref b10), .val (.int (1 : Int32)), .val (.long (f0_124 q0)), .second, .val (.long (f0_133 q1)), .second, .val (.ref b19), .val (.double (own_rate (f0_124 q0) (f0_133 q1))), .second, .unset, .unset, .unset] [(.long (f0_124 q0)), (.int (1 : Int32))])) _
              refine XS.lconst X27.here hx rfl (hb hby at_223) ?_
              show Steps p.tables e below (T27.setTop (mkF m 224 #[.val (.long q0), .second, .val (.long q1), .second, .val (.int p2), .val (.long q3), .second, .val (.long q4), .second, .val (.long q5), .second, .val (.int (f0_8 p2)), .val (.long (f0_14 p2)), .second, .val (.long (f0_26 q0 p2)), .second, .val (.long ((f0_14 p2) - (f0_26 q0 p2))), .second, .val (.ref b1), .val (.double (own_rate (f0_26 q0 p2) ((f0_14 p2) - (f0_26 q0 p2)))), .second, .val (.int (1 : Int32)), .val (.ref b10), .val (.int (1 : Int32)), .val (.long (f0_124 q0)), .second, .val (.long (f0_133 q1)), .second, .val (.ref b19), .val (.double (own_rate (f0_124 q0) (f0_133 q1))), .second, .unset, .unset, .unset] [(.long (0 : Int64)), (.long (f0_124 q0)), (.int (1 : Int32))])) _
              refine XS.lcmp X27.here hx rfl (hb hby at_224) rfl ?_
              show Steps p.tables e below (T27.setTop (mkF m 225 #[.val (.long q0), .second, .val (.long q1), .second, .val (.int p2), .val (.long q3), .second, .val (.long q4), .second, .val (.long q5), .second, .val (.int (f0_8 p2)), .val (.long (f0_14 p2)), .second, .val (.long (f0_26 q0 p2)), .second, .val (.long ((f0_14 p2) - (f0_26 q0 p2))), .second, .val (.ref b1), .val (.double (own_rate (f0_26 q0 p2) ((f0_14 p2) - (f0_26 q0 p2)))), .second, .val (.int (1 : Int32)), .val (.ref b10), .val (.int (1 : Int32)), .val (.long (f0_124 q0)), .second, .val (.long (f0_133 q1)), .second, .val (.ref b19), .val (.double (own_rate (f0_124 q0) (f0_133 q1))), .second, .unset, .unset, .unset] [(.int (lcmpW (f0_124 q0) (0 : Int64))), (.int (1 : Int32))])) _
              refine XS.ifNo X27.here hx rfl (hb hby at_225) rfl (own_eqL hf29).2 ?_
              show Steps p.tables e below (T27.setTop (mkF m 228 #[.val (.long q0), .second, .val (.long q1), .second, .val (.int p2), .val (.long q3), .second, .val (.long q4), .second, .val (.long q5), .second, .val (.int (f0_8 p2)), .val (.long (f0_14 p2)), .second, .val (.long (f0_26 q0 p2)), .second, .val (.long ((f0_14 p2) - (f0_26 q0 p2))), .second, .val (.ref b1), .val (.double (own_rate (f0_26 q0 p2) ((f0_14 p2) - (f0_26 q0 p2)))), .second, .val (.int (1 : Int32)), .val (.ref b10), .val (.int (1 : Int32)), .val (.long (f0_124 q0)), .second, .val (.long (f0_133 q1)), .second, .val (.ref b19), .val (.double (own_rate (f0_124 q0) (f0_133 q1))), .second, .unset, .unset, .unset] [(.int (1 : Int32))])) _
              refine XS.iconst X27.here hx rfl (hb hby at_228) ?_
              show Steps p.tables e below (T27.setTop (mkF m 229 #[.val (.long q0), .second, .val (.long q1), .second, .val (.int p2), .val (.long q3), .second, .val (.long q4), .second, .val (.long q5), .second, .val (.int (f0_8 p2)), .val (.long (f0_14 p2)), .second, .val (.long (f0_26 q0 p2)), .second, .val (.long ((f0_14 p2) - (f0_26 q0 p2))), .second, .val (.ref b1), .val (.double (own_rate (f0_26 q0 p2) ((f0_14 p2) - (f0_26 q0 p2)))), .second, .val (.int (1 : Int32)), .val (.ref b10), .val (.int (1 : Int32)), .val (.long (f0_124 q0)), .second, .val (.long (f0_133 q1)), .second, .val (.ref b19), .val (.double (own_rate (f0_124 q0) (f0_133 q1))), .second, .unset, .unset, .unset] [(.int (1 : Int32)), (.int (1 : Int32))])) _
              refine XS.goto X27.here hx rfl (pc0 := 229) (pc' := 233) rfl (hb hby at_229) (by decide) (by decide) ?_
              show Steps p.tables e below (T27.setTop (mkF m 233 #[.val (.long q0), .second, .val (.long q1), .second, .val (.int p2), .val (.long q3), .second, .val (.long q4), .second, .val (.long q5), .second, .val (.int (f0_8 p2)), .val (.long (f0_14 p2)), .second, .val (.long (f0_26 q0 p2)), .second, .val (.long ((f0_14 p2) - (f0_26 q0 p2))), .second, .val (.ref b1), .val (.double (own_rate (f0_26 q0 p2) ((f0_14 p2) - (f0_26 q0 p2)))), .second, .val (.int (1 : Int32)), .val (.ref b10), .val (.int (1 : Int32)), .val (.long (f0_124 q0)), .second, .val (.long (f0_133 q1)), .second, .val (.ref b19), .val (.double (own_rate (f0_124 q0) (f0_133 q1))), .second, .unset, .unset, .unset] [(.int (1 : Int32)), (.int (1 : Int32))])) _
              refine XS.icmpNo X27.here hx rfl (hb hby at_233) rfl (teq (show (1 : Int32) = (1 : Int32) by decide)).2 ?_
              show Steps p.tables e below (T27.setTop (mkF m 236 #[.val (.long q0), .second, .val (.long q1), .second, .val (.int p2), .val (.long q3), .second, .val (.long q4), .second, .val (.long q5), .second, .val (.int (f0_8 p2)), .val (.long (f0_14 p2)), .second, .val (.long (f0_26 q0 p2)), .second, .val (.long ((f0_14 p2) - (f0_26 q0 p2))), .second, .val (.ref b1), .val (.double (own_rate (f0_26 q0 p2) ((f0_14 p2) - (f0_26 q0 p2)))), .second, .val (.int (1 : Int32)), .val (.ref b10), .val (.int (1 : Int32)), .val (.long (f0_124 q0)), .second, .val (.long (f0_133 q1)), .second, .val (.ref b19), .val (.double (own_rate (f0_124 q0) (f0_133 q1))), .second, .unset, .unset, .unset] [])) _
              refine XS.iconst X27.here hx rfl (hb hby at_236) ?_
              show Steps p.tables e below (T27.setTop (mkF m 237 #[.val (.long q0), .second, .val (.long q1), .second, .val (.int p2), .val (.long q3), .second, .val (.long q4), .second, .val (.long q5), .second, .val (.int (f0_8 p2)), .val (.long (f0_14 p2)), .second, .val (.long (f0_26 q0 p2)), .second, .val (.long ((f0_14 p2) - (f0_26 q0 p2))), .second, .val (.ref b1), .val (.double (own_rate (f0_26 q0 p2) ((f0_14 p2) - (f0_26 q0 p2)))), .second, .val (.int (1 : Int32)), .val (.ref b10), .val (.int (1 : Int32)), .val (.long (f0_124 q0)), .second, .val (.long (f0_133 q1)), .second, .val (.ref b19), .val (.double (own_rate (f0_124 q0) (f0_133 q1))), .second, .unset, .unset, .unset] [(.int (1 : Int32))])) _
              refine XS.goto X27.here hx rfl (pc0 := 237) (pc' := 241) rfl (hb hby at_237) (by decide) (by decide) ?_
              show Steps p.tables e below (T27.setTop (mkF m 241 #[.val (.long q0), .second, .val (.long q1), .second, .val (.int p2), .val (.long q3), .second, .val (.long q4), .second, .val (.long q5), .second, .val (.int (f0_8 p2)), .val (.long (f0_14 p2)), .second, .val (.long (f0_26 q0 p2)), .second, .val (.long ((f0_14 p2) - (f0_26 q0 p2))), .second, .val (.ref b1), .val (.double (own_rate (f0_26 q0 p2) ((f0_14 p2) - (f0_26 q0 p2)))), .second, .val (.int (1 : Int32)), .val (.ref b10), .val (.int (1 : Int32)), .val (.long (f0_124 q0)), .second, .val (.long (f0_133 q1)), .second, .val (.ref b19), .val (.double (own_rate (f0_124 q0) (f0_133 q1))), .second, .unset, .unset, .unset] [(.int (1 : Int32))])) _
              refine XS.istore X27.here hx rfl (hb hby at_241) rfl (l' := #[.val (.long q0), .second, .val (.long q1), .second, .val (.int p2), .val (.long q3), .second, .val (.long q4), .second, .val (.long q5), .second, .val (.int (f0_8 p2)), .val (.long (f0_14 p2)), .second, .val (.long (f0_26 q0 p2)), .second, .val (.long ((f0_14 p2) - (f0_26 q0 p2))), .second, .val (.ref b1), .val (.double (own_rate (f0_26 q0 p2) ((f0_14 p2) - (f0_26 q0 p2)))), .second, .val (.int (1 : Int32)), .val (.ref b10), .val (.int (1 : Int32)), .val (.long (f0_124 q0)), .second, .val (.long (f0_133 q1)), .second, .val (.ref b19), .val (.double (own_rate (f0_124 q0) (f0_133 q1))), .second, .val (.int (1 : Int32)), .unset, .unset]) rfl ?_
              show Steps p.tables e below (T27.setTop (mkF m 243 #[.val (.long q0), .second, .val (.long q1), .second, .val (.int p2), .val (.long q3), .second, .val (.long q4), .second, .val (.long q5), .second, .val (.int (f0_8 p2)), .val (.long (f0_14 p2)), .second, .val (.long (f0_26 q0 p2)), .second, .val (.long ((f0_14 p2) - (f0_26 q0 p2))), .second, .val (.ref b1), .val (.double (own_rate (f0_26 q0 p2) ((f0_14 p2) - (f0_26 q0 p2)))), .second, .val (.int (1 : Int32)), .val (.ref b10), .val (.int (1 : Int32)), .val (.long (f0_124 q0)), .second, .val (.long (f0_133 q1)), .second, .val (.ref b19), .val (.double (own_rate (f0_124 q0) (f0_133 q1))), .second, .val (.int (1 : Int32)), .unset, .unset] [])) _
              rw [show (f0_243 q0 q1) = ((1 : Int32) : Int32) from by simp only [f0_243, if_pos hf29, if_neg hf30, if_neg hf32, if_neg hf33, if_pos hf34]] at k
              exact k
            · refine XS.ifYes X27.here hx rfl (pc0 := 213) (pc' := 220) rfl (hb hby at_213) rfl ((if0 _ _).trans (feq hf34).2) (by decide) (by decide) ?_
              show Steps p.tables e below (T27.setTop (mkF m 220 #[.val (.long q0), .second, .val (.long q1), .second, .val (.int p2), .val (.long q3), .second, .val (.long q4), .second, .val (.long q5), .second, .val (.int (f0_8 p2)), .val (.long (f0_14 p2)), .second, .val (.long (f0_26 q0 p2)), .second, .val (.long ((f0_14 p2) - (f0_26 q0 p2))), .second, .val (.ref b1), .val (.double (own_rate (f0_26 q0 p2) ((f0_14 p2) - (f0_26 q0 p2)))), .second, .val (.int (1 : Int32)), .val (.ref b10), .val (.int (1 : Int32)), .val (.long (f0_124 q0)), .second, .val (.long (f0_133 q1)), .second, .val (.ref b19), .val (.double (own_rate (f0_124 q0) (f0_133 q1))), .second, .unset, .unset, .unset] [])) _
              refine XS.iconst X27.here hx rfl (hb hby at_220) ?_
              show Steps p.tables e below (T27.setTop (mkF m 221 #[.val (.long q0), .second, .val (.long q1), .second, .val (.int p2), .val (.long q3), .second, .val (.long q4), .second, .val (.long q5), .second, .val (.int (f0_8 p2)), .val (.long (f0_14 p2)), .second, .val (.long (f0_26 q0 p2)), .second, .val (.long ((f0_14 p2) - (f0_26 q0 p2))), .second, .val (.ref b1), .val (.double (own_rate (f0_26 q0 p2) ((f0_14 p2) - (f0_26 q0 p2)))), .second, .val (.int (1 : Int32)), .val (.ref b10), .val (.int (1 : Int32)), .val (.long (f0_124 q0)), .second, .val (.long (f0_133 q1)), .second, .val (.ref b19), .val (.double (own_rate (f0_124 q0) (f0_133 q1))), .second, .unset, .unset, .unset] [(.int (0 : Int32))])) _
              refine XS.lload X27.here hx rfl (hb hby at_221) rfl ?_
              show Steps p.tables e below (T27.setTop (mkF m 223 #[.val (.long q0), .second, .val (.long q1), .second, .val (.int p2), .val (.long q3), .second, .val (.long q4), .second, .val (.long q5), .second, .val (.int (f0_8 p2)), .val (.long (f0_14 p2)), .second, .val (.long (f0_26 q0 p2)), .second, .val (.long ((f0_14 p2) - (f0_26 q0 p2))), .second, .val (.ref b1), .val (.double (own_rate (f0_26 q0 p2) ((f0_14 p2) - (f0_26 q0 p2)))), .second, .val (.int (1 : Int32)), .val (.ref b10), .val (.int (1 : Int32)), .val (.long (f0_124 q0)), .second, .val (.long (f0_133 q1)), .second, .val (.ref b19), .val (.double (own_rate (f0_124 q0) (f0_133 q1))), .second, .unset, .unset, .unset] [(.long (f0_124 q0)), (.int (0 : Int32))])) _
              refine XS.lconst X27.here hx rfl (hb hby at_223) ?_
              show Steps p.tables e below (T27.setTop (mkF m 224 #[.val (.long q0), .second, .val (.long q1), .second, .val (.int p2), .val (.long q3), .second, .val (.long q4), .second, .val (.long q5), .second, .val (.int (f0_8 p2)), .val (.long (f0_14 p2)), .second, .val (.long (f0_26 q0 p2)), .second, .val (.long ((f0_14 p2) - (f0_26 q0 p2))), .second, .val (.ref b1), .val (.double (own_rate (f0_26 q0 p2) ((f0_14 p2) - (f0_26 q0 p2)))), .second, .val (.int (1 : Int32)), .val (.ref b10), .val (.int (1 : Int32)), .val (.long (f0_124 q0)), .second, .val (.long (f0_133 q1)), .second, .val (.ref b19), .val (.double (own_rate (f0_124 q0) (f0_133 q1))), .second, .unset, .unset, .unset] [(.long (0 : Int64)), (.long (f0_124 q0)), (.int (0 : Int32))])) _
              refine XS.lcmp X27.here hx rfl (hb hby at_224) rfl ?_
              show Steps p.tables e below (T27.setTop (mkF m 225 #[.val (.long q0), .second, .val (.long q1), .second, .val (.int p2), .val (.long q3), .second, .val (.long q4), .second, .val (.long q5), .second, .val (.int (f0_8 p2)), .val (.long (f0_14 p2)), .second, .val (.long (f0_26 q0 p2)), .second, .val (.long ((f0_14 p2) - (f0_26 q0 p2))), .second, .val (.ref b1), .val (.double (own_rate (f0_26 q0 p2) ((f0_14 p2) - (f0_26 q0 p2)))), .second, .val (.int (1 : Int32)), .val (.ref b10), .val (.int (1 : Int32)), .val (.long (f0_124 q0)), .second, .val (.long (f0_133 q1)), .second, .val (.ref b19), .val (.double (own_rate (f0_124 q0) (f0_133 q1))), .second, .unset, .unset, .unset] [(.int (lcmpW (f0_124 q0) (0 : Int64))), (.int (0 : Int32))])) _
              refine XS.ifNo X27.here hx rfl (hb hby at_225) rfl (own_eqL hf29).2 ?_
              show Steps p.tables e below (T27.setTop (mkF m 228 #[.val (.long q0), .second, .val (.long q1), .second, .val (.int p2), .val (.long q3), .second, .val (.long q4), .second, .val (.long q5), .second, .val (.int (f0_8 p2)), .val (.long (f0_14 p2)), .second, .val (.long (f0_26 q0 p2)), .second, .val (.long ((f0_14 p2) - (f0_26 q0 p2))), .second, .val (.ref b1), .val (.double (own_rate (f0_26 q0 p2) ((f0_14 p2) - (f0_26 q0 p2)))), .second, .val (.int (1 : Int32)), .val (.ref b10), .val (.int (1 : Int32)), .val (.long (f0_124 q0)), .second, .val (.long (f0_133 q1)), .second, .val (.ref b19), .val (.double (own_rate (f0_124 q0) (f0_133 q1))), .second, .unset, .unset, .unset] [(.int (0 : Int32))])) _
              refine XS.iconst X27.here hx rfl (hb hby at_228) ?_
              show Steps p.tables e below (T27.setTop (mkF m 229 #[.val (.long q0), .second, .val (.long q1), .second, .val (.int p2), .val (.long q3), .second, .val (.long q4), .second, .val (.long q5), .second, .val (.int (f0_8 p2)), .val (.long (f0_14 p2)), .second, .val (.long (f0_26 q0 p2)), .second, .val (.long ((f0_14 p2) - (f0_26 q0 p2))), .second, .val (.ref b1), .val (.double (own_rate (f0_26 q0 p2) ((f0_14 p2) - (f0_26 q0 p2)))), .second, .val (.int (1 : Int32)), .val (.ref b10), .val (.int (1 : Int32)), .val (.long (f0_124 q0)), .second, .val (.long (f0_133 q1)), .second, .val (.ref b19), .val (.double (own_rate (f0_124 q0) (f0_133 q1))), .second, .unset, .unset, .unset] [(.int (1 : Int32)), (.int (0 : Int32))])) _
              refine XS.goto X27.here hx rfl (pc0 := 229) (pc' := 233) rfl (hb hby at_229) (by decide) (by decide) ?_
              show Steps p.tables e below (T27.setTop (mkF m 233 #[.val (.long q0), .second, .val (.long q1), .second, .val (.int p2), .val (.long q3), .second, .val (.long q4), .second, .val (.long q5), .second, .val (.int (f0_8 p2)), .val (.long (f0_14 p2)), .second, .val (.long (f0_26 q0 p2)), .second, .val (.long ((f0_14 p2) - (f0_26 q0 p2))), .second, .val (.ref b1), .val (.double (own_rate (f0_26 q0 p2) ((f0_14 p2) - (f0_26 q0 p2)))), .second, .val (.int (1 : Int32)), .val (.ref b10), .val (.int (1 : Int32)), .val (.long (f0_124 q0)), .second, .val (.long (f0_133 q1)), .second, .val (.ref b19), .val (.double (own_rate (f0_124 q0) (f0_133 q1))), .second, .unset, .unset, .unset] [(.int (1 : Int32)), (.int (0 : Int32))])) _
              refine XS.icmpYes X27.here hx rfl (pc0 := 233) (pc' := 240) rfl (hb hby at_233) rfl (feq (show ¬ ((0 : Int32) = (1 : Int32)) by decide)).2 (by decide) (by decide) ?_
              show Steps p.tables e below (T27.setTop (mkF m 240 #[.val (.long q0), .second, .val (.long q1), .second, .val (.int p2), .val (.long q3), .second, .val (.long q4), .second, .val (.long q5), .second, .val (.int (f0_8 p2)), .val (.long (f0_14 p2)), .second, .val (.long (f0_26 q0 p2)), .second, .val (.long ((f0_14 p2) - (f0_26 q0 p2))), .second, .val (.ref b1), .val (.double (own_rate (f0_26 q0 p2) ((f0_14 p2) - (f0_26 q0 p2)))), .second, .val (.int (1 : Int32)), .val (.ref b10), .val (.int (1 : Int32)), .val (.long (f0_124 q0)), .second, .val (.long (f0_133 q1)), .second, .val (.ref b19), .val (.double (own_rate (f0_124 q0) (f0_133 q1))), .second, .unset, .unset, .unset] [])) _
              refine XS.iconst X27.here hx rfl (hb hby at_240) ?_
              show Steps p.tables e below (T27.setTop (mkF m 241 #[.val (.long q0), .second, .val (.long q1), .second, .val (.int p2), .val (.long q3), .second, .val (.long q4), .second, .val (.long q5), .second, .val (.int (f0_8 p2)), .val (.long (f0_14 p2)), .second, .val (.long (f0_26 q0 p2)), .second, .val (.long ((f0_14 p2) - (f0_26 q0 p2))), .second, .val (.ref b1), .val (.double (own_rate (f0_26 q0 p2) ((f0_14 p2) - (f0_26 q0 p2)))), .second, .val (.int (1 : Int32)), .val (.ref b10), .val (.int (1 : Int32)), .val (.long (f0_124 q0)), .second, .val (.long (f0_133 q1)), .second, .val (.ref b19), .val (.double (own_rate (f0_124 q0) (f0_133 q1))), .second, .unset, .unset, .unset] [(.int (0 : Int32))])) _
              refine XS.istore X27.here hx rfl (hb hby at_241) rfl (l' := #[.val (.long q0), .second, .val (.long q1), .second, .val (.int p2), .val (.long q3), .second, .val (.long q4), .second, .val (.long q5), .second, .val (.int (f0_8 p2)), .val (.long (f0_14 p2)), .second, .val (.long (f0_26 q0 p2)), .second, .val (.long ((f0_14 p2) - (f0_26 q0 p2))), .second, .val (.ref b1), .val (.double (own_rate (f0_26 q0 p2) ((f0_14 p2) - (f0_26 q0 p2)))), .second, .val (.int (1 : Int32)), .val (.ref b10), .val (.int (1 : Int32)), .val (.long (f0_124 q0)), .second, .val (.long (f0_133 q1)), .second, .val (.ref b19), .val (.double (own_rate (f0_124 q0) (f0_133 q1))), .second, .val (.int (0 : Int32)), .unset, .unset]) rfl ?_
              show Steps p.tables e below (T27.setTop (mkF m 243 #[.val (.long q0), .second, .val (.long q1), .second, .val (.int p2), .val (.long q3), .second, .val (.long q4), .second, .val (.long q5), .second, .val (.int (f0_8 p2)), .val (.long (f0_14 p2)), .second, .val (.long (f0_26 q0 p2)), .second, .val (.long ((f0_14 p2) - (f0_26 q0 p2))), .second, .val (.ref b1), .val (.double (own_rate (f0_26 q0 p2) ((f0_14 p2) - (f0_26 q0 p2)))), .second, .val (.int (1 : Int32)), .val (.ref b10), .val (.int (1 : Int32)), .val (.long (f0_124 q0)), .second, .val (.long (f0_133 q1)), .second, .val (.ref b19), .val (.double (own_rate (f0_124 q0) (f0_133 q1))), .second, .val (.int (0 : Int32)), .unset, .unset] [])) _
              rw [show (f0_243 q0 q1) = ((0 : Int32) : Int32) from by simp only [f0_243, if_pos hf29, if_neg hf30, if_neg hf32, if_neg hf33, if_neg hf34]] at k
              exact k
    · refine XS.ifYes X27.here hx rfl (pc0 := 168) (pc' := 195) rfl (hb hby at_168) rfl (own_neL hf29).2 (by decide) (by decide) ?_
      show Steps p.tables e below (T27.setTop (mkF m 195 #[.val (.long q0), .second, .val (.long q1), .second, .val (.int p2), .val (.long q3), .second, .val (.long q4), .second, .val (.long q5), .second, .val (.int (f0_8 p2)), .val (.long (f0_14 p2)), .second, .val (.long (f0_26 q0 p2)), .second, .val (.long ((f0_14 p2) - (f0_26 q0 p2))), .second, .val (.ref b1), .val (.double (own_rate (f0_26 q0 p2) ((f0_14 p2) - (f0_26 q0 p2)))), .second, .val (.int (1 : Int32)), .val (.ref b10), .val (.int (1 : Int32)), .val (.long (f0_124 q0)), .second, .val (.long (f0_133 q1)), .second, .val (.ref b19), .val (.double (own_rate (f0_124 q0) (f0_133 q1))), .second, .unset, .unset, .unset] [])) _
      refine XS.dconst0 X27.here hx rfl (v := (0 : UInt64)) (hb hby at_195) rfl ?_
      show Steps p.tables e below (T27.setTop (mkF m 196 #[.val (.long q0), .second, .val (.long q1), .second, .val (.int p2), .val (.long q3), .second, .val (.long q4), .second, .val (.long q5), .second, .val (.int (f0_8 p2)), .val (.long (f0_14 p2)), .second, .val (.long (f0_26 q0 p2)), .second, .val (.long ((f0_14 p2) - (f0_26 q0 p2))), .second, .val (.ref b1), .val (.double (own_rate (f0_26 q0 p2) ((f0_14 p2) - (f0_26 q0 p2)))), .second, .val (.int (1 : Int32)), .val (.ref b10), .val (.int (1 : Int32)), .val (.long (f0_124 q0)), .second, .val (.long (f0_133 q1)), .second, .val (.ref b19), .val (.double (own_rate (f0_124 q0) (f0_133 q1))), .second, .unset, .unset, .unset] [(.double (0 : UInt64))])) _
      refine XS.dload X27.here hx rfl (hb hby at_196) rfl ?_
      show Steps p.tables e below (T27.setTop (mkF m 198 #[.val (.long q0), .second, .val (.long q1), .second, .val (.int p2), .val (.long q3), .second, .val (.long q4), .second, .val (.long q5), .second, .val (.int (f0_8 p2)), .val (.long (f0_14 p2)), .second, .val (.long (f0_26 q0 p2)), .second, .val (.long ((f0_14 p2) - (f0_26 q0 p2))), .second, .val (.ref b1), .val (.double (own_rate (f0_26 q0 p2) ((f0_14 p2) - (f0_26 q0 p2)))), .second, .val (.int (1 : Int32)), .val (.ref b10), .val (.int (1 : Int32)), .val (.long (f0_124 q0)), .second, .val (.long (f0_133 q1)), .second, .val (.ref b19), .val (.double (own_rate (f0_124 q0) (f0_133 q1))), .second, .unset, .unset, .unset] [(.double (own_rate (f0_124 q0) (f0_133 q1))), (.double (0 : UInt64))])) _
      refine XS.dcmpS X27.here hx rfl (hb hby at_198) rfl rfl ?_
      show Steps p.tables e below (T27.setTop (mkF m 199 #[.val (.long q0), .second, .val (.long q1), .second, .val (.int p2), .val (.long q3), .second, .val (.long q4), .second, .val (.long q5), .second, .val (.int (f0_8 p2)), .val (.long (f0_14 p2)), .second, .val (.long (f0_26 q0 p2)), .second, .val (.long ((f0_14 p2) - (f0_26 q0 p2))), .second, .val (.ref b1), .val (.double (own_rate (f0_26 q0 p2) ((f0_14 p2) - (f0_26 q0 p2)))), .second, .val (.int (1 : Int32)), .val (.ref b10), .val (.int (1 : Int32)), .val (.long (f0_124 q0)), .second, .val (.long (f0_133 q1)), .second, .val (.ref b19), .val (.double (own_rate (f0_124 q0) (f0_133 q1))), .second, .unset, .unset, .unset] [(.int (cmpValue (FP.dcmp (0 : UInt64) (own_rate (f0_124 q0) (f0_133 q1))) .g))])) _
      by_cases hf35 : (0 : Int32) < (cmpValue (FP.dcmp (0 : UInt64) (own_rate (f0_124 q0) (f0_133 q1))) .g)
      · refine XS.ifYes X27.here hx rfl (pc0 := 199) (pc' := 240) rfl (hb hby at_199) rfl ((if0 _ _).trans (tlt hf35).2.2.1) (by decide) (by decide) ?_
        show Steps p.tables e below (T27.setTop (mkF m 240 #[.val (.long q0), .second, .val (.long q1), .second, .val (.int p2), .val (.long q3), .second, .val (.long q4), .second, .val (.long q5), .second, .val (.int (f0_8 p2)), .val (.long (f0_14 p2)), .second, .val (.long (f0_26 q0 p2)), .second, .val (.long ((f0_14 p2) - (f0_26 q0 p2))), .second, .val (.ref b1), .val (.double (own_rate (f0_26 q0 p2) ((f0_14 p2) - (f0_26 q0 p2)))), .second, .val (.int (1 : Int32)), .val (.ref b10), .val (.int (1 : Int32)), .val (.long (f0_124 q0)), .second, .val (.long (f0_133 q1)), .second, .val (.ref b19), .val (.double (own_rate (f0_124 q0) (f0_133 q1))), .second, .unset, .unset, .unset] [])) _
        refine XS.iconst X27.here hx rfl (hb hby at_240) ?_
        show Steps p.tables e below (T27.setTop (mkF m 241 #[.val (.long q0), .second, .val (.long q1), .second, .val (.int p2), .val (.long q3), .second, .val (.long q4), .second, .val (.long q5), .second, .val (.int (f0_8 p2)), .val (.long (f0_14 p2)), .second, .val (.long (f0_26 q0 p2)), .second, .val (.long ((f0_14 p2) - (f0_26 q0 p2))), .second, .val (.ref b1), .val (.double (own_rate (f0_26 q0 p2) ((f0_14 p2) - (f0_26 q0 p2)))), .second, .val (.int (1 : Int32)), .val (.ref b10), .val (.int (1 : Int32)), .val (.long (f0_124 q0)), .second, .val (.long (f0_133 q1)), .second, .val (.ref b19), .val (.double (own_rate (f0_124 q0) (f0_133 q1))), .second, .unset, .unset, .unset] [(.int (0 : Int32))])) _
        refine XS.istore X27.here hx rfl (hb hby at_241) rfl (l' := #[.val (.long q0), .second, .val (.long q1), .second, .val (.int p2), .val (.long q3), .second, .val (.long q4), .second, .val (.long q5), .second, .val (.int (f0_8 p2)), .val (.long (f0_14 p2)), .second, .val (.long (f0_26 q0 p2)), .second, .val (.long ((f0_14 p2) - (f0_26 q0 p2))), .second, .val (.ref b1), .val (.double (own_rate (f0_26 q0 p2) ((f0_14 p2) - (f0_26 q0 p2)))), .second, .val (.int (1 : Int32)), .val (.ref b10), .val (.int (1 : Int32)), .val (.long (f0_124 q0)), .second, .val (.long (f0_133 q1)), .second, .val (.ref b19), .val (.double (own_rate (f0_124 q0) (f0_133 q1))), .second, .val (.int (0 : Int32)), .unset, .unset]) rfl ?_
        show Steps p.tables e below (T27.setTop (mkF m 243 #[.val (.long q0), .second, .val (.long q1), .second, .val (.int p2), .val (.long q3), .second, .val (.long q4), .second, .val (.long q5), .second, .val (.int (f0_8 p2)), .val (.long (f0_14 p2)), .second, .val (.long (f0_26 q0 p2)), .second, .val (.long ((f0_14 p2) - (f0_26 q0 p2))), .second, .val (.ref b1), .val (.double (own_rate (f0_26 q0 p2) ((f0_14 p2) - (f0_26 q0 p2)))), .second, .val (.int (1 : Int32)), .val (.ref b10), .val (.int (1 : Int32)), .val (.long (f0_124 q0)), .second, .val (.long (f0_133 q1)), .second, .val (.ref b19), .val (.double (own_rate (f0_124 q0) (f0_133 q1))), .second, .val (.int (0 : Int32)), .unset, .unset] [])) _
        rw [show (f0_243 q0 q1) = ((0 : Int32) : Int32) from by simp only [f0_243, if_neg hf29, if_pos hf35]] at k
        exact k
      · refine XS.ifNo X27.here hx rfl (hb hby at_199) rfl ((if0 _ _).trans (flt hf35).2.2.1) ?_
        show Steps p.tables e below (T27.setTop (mkF m 202 #[.val (.long q0), .second, .val (.long q1), .second, .val (.int p2), .val (.long q3), .second, .val (.long q4), .second, .val (.long q5), .second, .val (.int (f0_8 p2)), .val (.long (f0_14 p2)), .second, .val (.long (f0_26 q0 p2)), .second, .val (.long ((f0_14 p2) - (f0_26 q0 p2))), .second, .val (.ref b1), .val (.double (own_rate (f0_26 q0 p2) ((f0_14 p2) - (f0_26 q0 p2)))), .second, .val (.int (1 : Int32)), .val (.ref b10), .val (.int (1 : Int32)), .val (.long (f0_124 q0)), .second, .val (.long (f0_133 q1)), .second, .val (.ref b19), .val (.double (own_rate (f0_124 q0) (f0_133 q1))), .second, .unset, .unset, .unset] [])) _
        refine XS.dload X27.here hx rfl (hb hby at_202) rfl ?_
        show Steps p.tables e below (T27.setTop (mkF m 204 #[.val (.long q0), .second, .val (.long q1), .second, .val (.int p2), .val (.long q3), .second, .val (.long q4), .second, .val (.long q5), .second, .val (.int (f0_8 p2)), .val (.long (f0_14 p2)), .second, .val (.long (f0_26 q0 p2)), .second, .val (.long ((f0_14 p2) - (f0_26 q0 p2))), .second, .val (.ref b1), .val (.double (own_rate (f0_26 q0 p2) ((f0_14 p2) - (f0_26 q0 p2)))), .second, .val (.int (1 : Int32)), .val (.ref b10), .val (.int (1 : Int32)), .val (.long (f0_124 q0)), .second, .val (.long (f0_133 q1)), .second, .val (.ref b19), .val (.double (own_rate (f0_124 q0) (f0_133 q1))), .second, .unset, .unset, .unset] [(.double (own_rate (f0_124 q0) (f0_133 q1)))])) _
        refine XS.dconst1 X27.here hx rfl (v := (4607182418800017408 : UInt64)) (hb hby at_204) rfl ?_
        show Steps p.tables e below (T27.setTop (mkF m 205 #[.val (.long q0), .second, .val (.long q1), .second, .val (.int p2), .val (.long q3), .second, .val (.long q4), .second, .val (.long q5), .second, .val (.int (f0_8 p2)), .val (.long (f0_14 p2)), .second, .val (.long (f0_26 q0 p2)), .second, .val (.long ((f0_14 p2) - (f0_26 q0 p2))), .second, .val (.ref b1), .val (.double (own_rate (f0_26 q0 p2) ((f0_14 p2) - (f0_26 q0 p2)))), .second, .val (.int (1 : Int32)), .val (.ref b10), .val (.int (1 : Int32)), .val (.long (f0_124 q0)), .second, .val (.long (f0_133 q1)), .second, .val (.ref b19), .val (.double (own_rate (f0_124 q0) (f0_133 q1))), .second, .unset, .unset, .unset] [(.double (4607182418800017408 : UInt64)), (.double (own_rate (f0_124 q0) (f0_133 q1)))])) _
        refine XS.dcmpS X27.here hx rfl (hb hby at_205) rfl rfl ?_
        show Steps p.tables e below (T27.setTop (mkF m 206 #[.val (.long q0), .second, .val (.long q1), .second, .val (.int p2), .val (.long q3), .second, .val (.long q4), .second, .val (.long q5), .second, .val (.int (f0_8 p2)), .val (.long (f0_14 p2)), .second, .val (.long (f0_26 q0 p2)), .second, .val (.long ((f0_14 p2) - (f0_26 q0 p2))), .second, .val (.ref b1), .val (.double (own_rate (f0_26 q0 p2) ((f0_14 p2) - (f0_26 q0 p2)))), .second, .val (.int (1 : Int32)), .val (.ref b10), .val (.int (1 : Int32)), .val (.long (f0_124 q0)), .second, .val (.long (f0_133 q1)), .second, .val (.ref b19), .val (.double (own_rate (f0_124 q0) (f0_133 q1))), .second, .unset, .unset, .unset] [(.int (cmpValue (FP.dcmp (own_rate (f0_124 q0) (f0_133 q1)) (4607182418800017408 : UInt64)) .g))])) _
        by_cases hf36 : (0 : Int32) < (cmpValue (FP.dcmp (own_rate (f0_124 q0) (f0_133 q1)) (4607182418800017408 : UInt64)) .g)
        · refine XS.ifYes X27.here hx rfl (pc0 := 206) (pc' := 240) rfl (hb hby at_206) rfl ((if0 _ _).trans (tlt hf36).2.2.1) (by decide) (by decide) ?_
          show Steps p.tables e below (T27.setTop (mkF m 240 #[.val (.long q0), .second, .val (.long q1), .second, .val (.int p2), .val (.long q3), .second, .val (.long q4), .second, .val (.long q5), .second, .val (.int (f0_8 p2)), .val (.long (f0_14 p2)), .second, .val (.long (f0_26 q0 p2)), .second, .val (.long ((f0_14 p2) - (f0_26 q0 p2))), .second, .val (.ref b1), .val (.double (own_rate (f0_26 q0 p2) ((f0_14 p2) - (f0_26 q0 p2)))), .second, .val (.int (1 : Int32)), .val (.ref b10), .val (.int (1 : Int32)), .val (.long (f0_124 q0)), .second, .val (.long (f0_133 q1)), .second, .val (.ref b19), .val (.double (own_rate (f0_124 q0) (f0_133 q1))), .second, .unset, .unset, .unset] [])) _
          refine XS.iconst X27.here hx rfl (hb hby at_240) ?_
          show Steps p.tables e below (T27.setTop (mkF m 241 #[.val (.long q0), .second, .val (.long q1), .second, .val (.int p2), .val (.long q3), .second, .val (.long q4), .second, .val (.long q5), .second, .val (.int (f0_8 p2)), .val (.long (f0_14 p2)), .second, .val (.long (f0_26 q0 p2)), .second, .val (.long ((f0_14 p2) - (f0_26 q0 p2))), .second, .val (.ref b1), .val (.double (own_rate (f0_26 q0 p2) ((f0_14 p2) - (f0_26 q0 p2)))), .second, .val (.int (1 : Int32)), .val (.ref b10), .val (.int (1 : Int32)), .val (.long (f0_124 q0)), .second, .val (.long (f0_133 q1)), .second, .val (.ref b19), .val (.double (own_rate (f0_124 q0) (f0_133 q1))), .second, .unset, .unset, .unset] [(.int (0 : Int32))])) _
          refine XS.istore X27.here hx rfl (hb hby at_241) rfl (l' := #[.val (.long q0), .second, .val (.long q1), .second, .val (.int p2), .val (.long q3), .second, .val (.long q4), .second, .val (.long q5), .second, .val (.int (f0_8 p2)), .val (.long (f0_14 p2)), .second, .val (.long (f0_26 q0 p2)), .second, .val (.long ((f0_14 p2) - (f0_26 q0 p2))), .second, .val (.ref b1), .val (.double (own_rate (f0_26 q0 p2) ((f0_14 p2) - (f0_26 q0 p2)))), .second, .val (.int (1 : Int32)), .val (.ref b10), .val (.int (1 : Int32)), .val (.long (f0_124 q0)), .second, .val (.long (f0_133 q1)), .second, .val (.ref b19), .val (.double (own_rate (f0_124 q0) (f0_133 q1))), .second, .val (.int (0 : Int32)), .unset, .unset]) rfl ?_
          show Steps p.tables e below (T27.setTop (mkF m 243 #[.val (.long q0), .second, .val (.long q1), .second, .val (.int p2), .val (.long q3), .second, .val (.long q4), .second, .val (.long q5), .second, .val (.int (f0_8 p2)), .val (.long (f0_14 p2)), .second, .val (.long (f0_26 q0 p2)), .second, .val (.long ((f0_14 p2) - (f0_26 q0 p2))), .second, .val (.ref b1), .val (.double (own_rate (f0_26 q0 p2) ((f0_14 p2) - (f0_26 q0 p2)))), .second, .val (.int (1 : Int32)), .val (.ref b10), .val (.int (1 : Int32)), .val (.long (f0_124 q0)), .second, .val (.long (f0_133 q1)), .second, .val (.ref b19), .val (.double (own_rate (f0_124 q0) (f0_133 q1))), .second, .val (.int (0 : Int32)), .unset, .unset] [])) _
          rw [show (f0_243 q0 q1) = ((0 : Int32) : Int32) from by simp only [f0_243, if_neg hf29, if_neg hf35, if_pos hf36]] at k
          exact k
        · refine XS.ifNo X27.here hx rfl (hb hby at_206) rfl ((if0 _ _).trans (flt hf36).2.2.1) ?_
          show Steps p.tables e below (T27.setTop (mkF m 209 #[.val (.long q0), .second, .val (.long q1), .second, .val (.int p2), .val (.long q3), .second, .val (.long q4), .second, .val (.long q5), .second, .val (.int (f0_8 p2)), .val (.long (f0_14 p2)), .second, .val (.long (f0_26 q0 p2)), .second, .val (.long ((f0_14 p2) - (f0_26 q0 p2))), .second, .val (.ref b1), .val (.double (own_rate (f0_26 q0 p2) ((f0_14 p2) - (f0_26 q0 p2)))), .second, .val (.int (1 : Int32)), .val (.ref b10), .val (.int (1 : Int32)), .val (.long (f0_124 q0)), .second, .val (.long (f0_133 q1)), .second, .val (.ref b19), .val (.double (own_rate (f0_124 q0) (f0_133 q1))), .second, .unset, .unset, .unset] [])) _
          refine XS.dload X27.here hx rfl (hb hby at_209) rfl ?_
          show Steps p.tables e below (T27.setTop (mkF m 211 #[.val (.long q0), .second, .val (.long q1), .second, .val (.int p2), .val (.long q3), .second, .val (.long q4), .second, .val (.long q5), .second, .val (.int (f0_8 p2)), .val (.long (f0_14 p2)), .second, .val (.long (f0_26 q0 p2)), .second, .val (.long ((f0_14 p2) - (f0_26 q0 p2))), .second, .val (.ref b1), .val (.double (own_rate (f0_26 q0 p2) ((f0_14 p2) - (f0_26 q0 p2)))), .second, .val (.int (1 : Int32)), .val (.ref b10), .val (.int (1 : Int32)), .val (.long (f0_124 q0)), .second, .val (.long (f0_133 q1)), .second, .val (.ref b19), .val (.double (own_rate (f0_124 q0) (f0_133 q1))), .second, .unset, .unset, .unset] [(.double (own_rate (f0_124 q0) (f0_133 q1)))])) _
          refine XS.dconst0 X27.here hx rfl (v := (0 : UInt64)) (hb hby at_211) rfl ?_
          show Steps p.tables e below (T27.setTop (mkF m 212 #[.val (.long q0), .second, .val (.long q1), .second, .val (.int p2), .val (.long q3), .second, .val (.long q4), .second, .val (.long q5), .second, .val (.int (f0_8 p2)), .val (.long (f0_14 p2)), .second, .val (.long (f0_26 q0 p2)), .second, .val (.long ((f0_14 p2) - (f0_26 q0 p2))), .second, .val (.ref b1), .val (.double (own_rate (f0_26 q0 p2) ((f0_14 p2) - (f0_26 q0 p2)))), .second, .val (.int (1 : Int32)), .val (.ref b10), .val (.int (1 : Int32)), .val (.long (f0_124 q0)), .second, .val (.long (f0_133 q1)), .second, .val (.ref b19), .val (.double (own_rate (f0_124 q0) (f0_133 q1))), .second, .unset, .unset, .unset] [(.double (0 : UInt64)), (.double (own_rate (f0_124 q0) (f0_133 q1)))])) _
          refine XS.dcmpS X27.here hx rfl (hb hby at_212) rfl rfl ?_
          show Steps p.tables e below (T27.setTop (mkF m 213 #[.val (.long q0), .second, .val (.long q1), .second, .val (.int p2), .val (.long q3), .second, .val (.long q4), .second, .val (.long q5), .second, .val (.int (f0_8 p2)), .val (.long (f0_14 p2)), .second, .val (.long (f0_26 q0 p2)), .second, .val (.long ((f0_14 p2) - (f0_26 q0 p2))), .second, .val (.ref b1), .val (.double (own_rate (f0_26 q0 p2) ((f0_14 p2) - (f0_26 q0 p2)))), .second, .val (.int (1 : Int32)), .val (.ref b10), .val (.int (1 : Int32)), .val (.long (f0_124 q0)), .second, .val (.long (f0_133 q1)), .second, .val (.ref b19), .val (.double (own_rate (f0_124 q0) (f0_133 q1))), .second, .unset, .unset, .unset] [(.int (cmpValue (FP.dcmp (own_rate (f0_124 q0) (f0_133 q1)) (0 : UInt64)) .l))])) _
          by_cases hf37 : (cmpValue (FP.dcmp (own_rate (f0_124 q0) (f0_133 q1)) (0 : UInt64)) .l) = (0 : Int32)
          · refine XS.ifNo X27.here hx rfl (hb hby at_213) rfl ((if0 _ _).trans (teq hf37).2) ?_
            show Steps p.tables e below (T27.setTop (mkF m 216 #[.val (.long q0), .second, .val (.long q1), .second, .val (.int p2), .val (.long q3), .second, .val (.long q4), .second, .val (.long q5), .second, .val (.int (f0_8 p2)), .val (.long (f0_14 p2)), .second, .val (.long (f0_26 q0 p2)), .second, .val (.long ((f0_14 p2) - (f0_26 q0 p2))), .second, .val (.ref b1), .val (.double (own_rate (f0_26 q0 p2) ((f0_14 p2) - (f0_26 q0 p2)))), .second, .val (.int (1 : Int32)), .val (.ref b10), .val (.int (1 : Int32)), .val (.long (f0_124 q0)), .second, .val (.long (f0_133 q1)), .second, .val (.ref b19), .val (.double (own_rate (f0_124 q0) (f0_133 q1))), .second, .unset, .unset, .unset] [])) _
            refine XS.iconst X27.here hx rfl (hb hby at_216) ?_
            show Steps p.tables e below (T27.setTop (mkF m 217 #[.val (.long q0), .second, .val (.long q1), .second, .val (.int p2), .val (.long q3), .second, .val (.long q4), .second, .val (.long q5), .second, .val (.int (f0_8 p2)), .val (.long (f0_14 p2)), .second, .val (.long (f0_26 q0 p2)), .second, .val (.long ((f0_14 p2) - (f0_26 q0 p2))), .second, .val (.ref b1), .val (.double (own_rate (f0_26 q0 p2) ((f0_14 p2) - (f0_26 q0 p2)))), .second, .val (.int (1 : Int32)), .val (.ref b10), .val (.int (1 : Int32)), .val (.long (f0_124 q0)), .second, .val (.long (f0_133 q1)), .second, .val (.ref b19), .val (.double (own_rate (f0_124 q0) (f0_133 q1))), .second, .unset, .unset, .unset] [(.int (1 : Int32))])) _
            refine XS.goto X27.here hx rfl (pc0 := 217) (pc' := 221) rfl (hb hby at_217) (by decide) (by decide) ?_
            show Steps p.tables e below (T27.setTop (mkF m 221 #[.val (.long q0), .second, .val (.long q1), .second, .val (.int p2), .val (.long q3), .second, .val (.long q4), .second, .val (.long q5), .second, .val (.int (f0_8 p2)), .val (.long (f0_14 p2)), .second, .val (.long (f0_26 q0 p2)), .second, .val (.long ((f0_14 p2) - (f0_26 q0 p2))), .second, .val (.ref b1), .val (.double (own_rate (f0_26 q0 p2) ((f0_14 p2) - (f0_26 q0 p2)))), .second, .val (.int (1 : Int32)), .val (.ref b10), .val (.int (1 : Int32)), .val (.long (f0_124 q0)), .second, .val (.long (f0_133 q1)), .second, .val (.ref b19), .val (.double (own_rate (f0_124 q0) (f0_133 q1))), .second, .unset, .unset, .unset] [(.int (1 : Int32))])) _
            refine XS.lload X27.here hx rfl (hb hby at_221) rfl ?_
            show Steps p.tables e below (T27.setTop (mkF m 223 #[.val (.long q0), .second, .val (.long q1), .second, .val (.int p2), .val (.long q3), .second, .val (.long q4), .second, .val (.long q5), .second, .val (.int (f0_8 p2)), .val (.long (f0_14 p2)), .second, .val (.long (f0_26 q0 p2)), .second, .val (.long ((f0_14 p2) - (f0_26 q0 p2))), .second, .val (.ref b1), .val (.double (own_rate (f0_26 q0 p2) ((f0_14 p2) - (f0_26 q0 p2)))), .second, .val (.int (1 : Int32)), .val (.ref b10), .val (.int (1 : Int32)), .val (.long (f0_124 q0)), .second, .val (.long (f0_133 q1)), .second, .val (.ref b19), .val (.double (own_rate (f0_124 q0) (f0_133 q1))), .second, .unset, .unset, .unset] [(.long (f0_124 q0)), (.int (1 : Int32))])) _
            refine XS.lconst X27.here hx rfl (hb hby at_223) ?_
            show Steps p.tables e below (T27.setTop (mkF m 224 #[.val (.long q0), .second, .val (.long q1), .second, .val (.int p2), .val (.long q3), .second, .val (.long q4), .second, .val (.long q5), .second, .val (.int (f0_8 p2)), .val (.long (f0_14 p2)), .second, .val (.long (f0_26 q0 p2)), .second, .val (.long ((f0_14 p2) - (f0_26 q0 p2))), .second, .val (.ref b1), .val (.double (own_rate (f0_26 q0 p2) ((f0_14 p2) - (f0_26 q0 p2)))), .second, .val (.int (1 : Int32)), .val (.ref b10), .val (.int (1 : Int32)), .val (.long (f0_124 q0)), .second, .val (.long (f0_133 q1)), .second, .val (.ref b19), .val (.double (own_rate (f0_124 q0) (f0_133 q1))), .second, .unset, .unset, .unset] [(.long (0 : Int64)), (.long (f0_124 q0)), (.int (1 : Int32))])) _
            refine XS.lcmp X27.here hx rfl (hb hby at_224) rfl ?_
            show Steps p.tables e below (T27.setTop (mkF m 225 #[.val (.long q0), .second, .val (.long q1), .second, .val (.int p2), .val (.long q3), .second, .val (.long q4), .second, .val (.long q5), .second, .val (.int (f0_8 p2)), .val (.long (f0_14 p2)), .second, .val (.long (f0_26 q0 p2)), .second, .val (.long ((f0_14 p2) - (f0_26 q0 p2))), .second, .val (.ref b1), .val (.double (own_rate (f0_26 q0 p2) ((f0_14 p2) - (f0_26 q0 p2)))), .second, .val (.int (1 : Int32)), .val (.ref b10), .val (.int (1 : Int32)), .val (.long (f0_124 q0)), .second, .val (.long (f0_133 q1)), .second, .val (.ref b19), .val (.double (own_rate (f0_124 q0) (f0_133 q1))), .second, .unset, .unset, .unset] [(.int (lcmpW (f0_124 q0) (0 : Int64))), (.int (1 : Int32))])) _
            refine XS.ifYes X27.here hx rfl (pc0 := 225) (pc' := 232) rfl (hb hby at_225) rfl (own_neL hf29).2 (by decide) (by decide) ?_
            show Steps p.tables e below (T27.setTop (mkF m 232 #[.val (.long q0), .second, .val (.long q1), .second, .val (.int p2), .val (.long q3), .second, .val (.long q4), .second, .val (.long q5), .second, .val (.int (f0_8 p2)), .val (.long (f0_14 p2)), .second, .val (.long (f0_26 q0 p2)), .second, .val (.long ((f0_14 p2) - (f0_26 q0 p2))), .second, .val (.ref b1), .val (.double (own_rate (f0_26 q0 p2) ((f0_14 p2) - (f0_26 q0 p2)))), .second, .val (.int (1 : Int32)), .val (.ref b10), .val (.int (1 : Int32)), .val (.long (f0_124 q0)), .second, .val (.long (f0_133 q1)), .second, .val (.ref b19), .val (.double (own_rate (f0_124 q0) (f0_133 q1))), .second, .unset, .unset, .unset] [(.int (1 : Int32))])) _
            refine XS.iconst X27.here hx rfl (hb hby at_232) ?_
            show Steps p.tables e below (T27.setTop (mkF m 233 #[.val (.long q0), .second, .val (.long q1), .second, .val (.int p2), .val (.long q3), .second, .val (.long q4), .second, .val (.long q5), .second, .val (.int (f0_8 p2)), .val (.long (f0_14 p2)), .second, .val (.long (f0_26 q0 p2)), .second, .val (.long ((f0_14 p2) - (f0_26 q0 p2))), .second, .val (.ref b1), .val (.double (own_rate (f0_26 q0 p2) ((f0_14 p2) - (f0_26 q0 p2)))), .second, .val (.int (1 : Int32)), .val (.ref b10), .val (.int (1 : Int32)), .val (.long (f0_124 q0)), .second, .val (.long (f0_133 q1)), .second, .val (.ref b19), .val (.double (own_rate (f0_124 q0) (f0_133 q1))), .second, .unset, .unset, .unset] [(.int (0 : Int32)), (.int (1 : Int32))])) _
            refine XS.icmpYes X27.here hx rfl (pc0 := 233) (pc' := 240) rfl (hb hby at_233) rfl (feq (show ¬ ((1 : Int32) = (0 : Int32)) by decide)).2 (by decide) (by decide) ?_
            show Steps p.tables e below (T27.setTop (mkF m 240 #[.val (.long q0), .second, .val (.long q1), .second, .val (.int p2), .val (.long q3), .second, .val (.long q4), .second, .val (.long q5), .second, .val (.int (f0_8 p2)), .val (.long (f0_14 p2)), .second, .val (.long (f0_26 q0 p2)), .second, .val (.long ((f0_14 p2) - (f0_26 q0 p2))), .second, .val (.ref b1), .val (.double (own_rate (f0_26 q0 p2) ((f0_14 p2) - (f0_26 q0 p2)))), .second, .val (.int (1 : Int32)), .val (.ref b10), .val (.int (1 : Int32)), .val (.long (f0_124 q0)), .second, .val (.long (f0_133 q1)), .second, .val (.ref b19), .val (.double (own_rate (f0_124 q0) (f0_133 q1))), .second, .unset, .unset, .unset] [])) _
            refine XS.iconst X27.here hx rfl (hb hby at_240) ?_
            show Steps p.tables e below (T27.setTop (mkF m 241 #[.val (.long q0), .second, .val (.long q1), .second, .val (.int p2), .val (.long q3), .second, .val (.long q4), .second, .val (.long q5), .second, .val (.int (f0_8 p2)), .val (.long (f0_14 p2)), .second, .val (.long (f0_26 q0 p2)), .second, .val (.long ((f0_14 p2) - (f0_26 q0 p2))), .second, .val (.ref b1), .val (.double (own_rate (f0_26 q0 p2) ((f0_14 p2) - (f0_26 q0 p2)))), .second, .val (.int (1 : Int32)), .val (.ref b10), .val (.int (1 : Int32)), .val (.long (f0_124 q0)), .second, .val (.long (f0_133 q1)), .second, .val (.ref b19), .val (.double (own_rate (f0_124 q0) (f0_133 q1))), .second, .unset, .unset, .unset] [(.int (0 : Int32))])) _
            refine XS.istore X27.here hx rfl (hb hby at_241) rfl (l' := #[.val (.long q0), .second, .val (.long q1), .second, .val (.int p2), .val (.long q3), .second, .val (.long q4), .second, .val (.long q5), .second, .val (.int (f0_8 p2)), .val (.long (f0_14 p2)), .second, .val (.long (f0_26 q0 p2)), .second, .val (.long ((f0_14 p2) - (f0_26 q0 p2))), .second, .val (.ref b1), .val (.double (own_rate (f0_26 q0 p2) ((f0_14 p2) - (f0_26 q0 p2)))), .second, .val (.int (1 : Int32)), .val (.ref b10), .val (.int (1 : Int32)), .val (.long (f0_124 q0)), .second, .val (.long (f0_133 q1)), .second, .val (.ref b19), .val (.double (own_rate (f0_124 q0) (f0_133 q1))), .second, .val (.int (0 : Int32)), .unset, .unset]) rfl ?_
            show Steps p.tables e below (T27.setTop (mkF m 243 #[.val (.long q0), .second, .val (.long q1), .second, .val (.int p2), .val (.long q3), .second, .val (.long q4), .second, .val (.long q5), .second, .val (.int (f0_8 p2)), .val (.long (f0_14 p2)), .second, .val (.long (f0_26 q0 p2)), .second, .val (.long ((f0_14 p2) - (f0_26 q0 p2))), .second, .val (.ref b1), .val (.double (own_rate (f0_26 q0 p2) ((f0_14 p2) - (f0_26 q0 p2)))), .second, .val (.int (1 : Int32)), .val (.ref b10), .val (.int (1 : Int32)), .val (.long (f0_124 q0)), .second, .val (.long (f0_133 q1)), .second, .val (.ref b19), .val (.double (own_rate (f0_124 q0) (f0_133 q1))), .second, .val (.int (0 : Int32)), .unset, .unset] [])) _
            rw [show (f0_243 q0 q1) = ((0 : Int32) : Int32) from by simp only [f0_243, if_neg hf29, if_neg hf35, if_neg hf36, if_pos hf37]] at k
            exact k
          · refine XS.ifYes X27.here hx rfl (pc0 := 213) (pc' := 220) rfl (hb hby at_213) rfl ((if0 _ _).trans (feq hf37).2) (by decide) (by decide) ?_
            show Steps p.tables e below (T27.setTop (mkF m 220 #[.val (.long q0), .second, .val (.long q1), .second, .val (.int p2), .val (.long q3), .second, .val (.long q4), .second, .val (.long q5), .second, .val (.int (f0_8 p2)), .val (.long (f0_14 p2)), .second, .val (.long (f0_26 q0 p2)), .second, .val (.long ((f0_14 p2) - (f0_26 q0 p2))), .second, .val (.ref b1), .val (.double (own_rate (f0_26 q0 p2) ((f0_14 p2) - (f0_26 q0 p2)))), .second, .val (.int (1 : Int32)), .val (.ref b10), .val (.int (1 : Int32)), .val (.long (f0_124 q0)), .second, .val (.long (f0_133 q1)), .second, .val (.ref b19), .val (.double (own_rate (f0_124 q0) (f0_133 q1))), .second, .unset, .unset, .unset] [])) _
            refine XS.iconst X27.here hx rfl (hb hby at_220) ?_
            show Steps p.tables e below (T27.setTop (mkF m 221 #[.val (.long q0), .second, .val (.long q1), .second, .val (.int p2), .val (.long q3), .second, .val (.long q4), .second, .val (.long q5), .second, .val (.int (f0_8 p2)), .val (.long (f0_14 p2)), .second, .val (.long (f0_26 q0 p2)), .second, .val (.long ((f0_14 p2) - (f0_26 q0 p2))), .second, .val (.ref b1), .val (.double (own_rate (f0_26 q0 p2) ((f0_14 p2) - (f0_26 q0 p2)))), .second, .val (.int (1 : Int32)), .val (.ref b10), .val (.int (1 : Int32)), .val (.long (f0_124 q0)), .second, .val (.long (f0_133 q1)), .second, .val (.ref b19), .val (.double (own_rate (f0_124 q0) (f0_133 q1))), .second, .unset, .unset, .unset] [(.int (0 : Int32))])) _
            refine XS.lload X27.here hx rfl (hb hby at_221) rfl ?_
            show Steps p.tables e below (T27.setTop (mkF m 223 #[.val (.long q0), .second, .val (.long q1), .second, .val (.int p2), .val (.long q3), .second, .val (.long q4), .second, .val (.long q5), .second, .val (.int (f0_8 p2)), .val (.long (f0_14 p2)), .second, .val (.long (f0_26 q0 p2)), .second, .val (.long ((f0_14 p2) - (f0_26 q0 p2))), .second, .val (.ref b1), .val (.double (own_rate (f0_26 q0 p2) ((f0_14 p2) - (f0_26 q0 p2)))), .second, .val (.int (1 : Int32)), .val (.ref b10), .val (.int (1 : Int32)), .val (.long (f0_124 q0)), .second, .val (.long (f0_133 q1)), .second, .val (.ref b19), .val (.double (own_rate (f0_124 q0) (f0_133 q1))), .second, .unset, .unset, .unset] [(.long (f0_124 q0)), (.int (0 : Int32))])) _
            refine XS.lconst X27.here hx rfl (hb hby at_223) ?_
            show Steps p.tables e below (T27.setTop (mkF m 224 #[.val (.long q0), .second, .val (.long q1), .second, .val (.int p2), .val (.long q3), .second, .val (.long q4), .second, .val (.long q5), .second, .val (.int (f0_8 p2)), .val (.long (f0_14 p2)), .second, .val (.long (f0_26 q0 p2)), .second, .val (.long ((f0_14 p2) - (f0_26 q0 p2))), .second, .val (.ref b1), .val (.double (own_rate (f0_26 q0 p2) ((f0_14 p2) - (f0_26 q0 p2)))), .second, .val (.int (1 : Int32)), .val (.ref b10), .val (.int (1 : Int32)), .val (.long (f0_124 q0)), .second, .val (.long (f0_133 q1)), .second, .val (.ref b19), .val (.double (own_rate (f0_124 q0) (f0_133 q1))), .second, .unset, .unset, .unset] [(.long (0 : Int64)), (.long (f0_124 q0)), (.int (0 : Int32))])) _
            refine XS.lcmp X27.here hx rfl (hb hby at_224) rfl ?_
            show Steps p.tables e below (T27.setTop (mkF m 225 #[.val (.long q0), .second, .val (.long q1), .second, .val (.int p2), .val (.long q3), .second, .val (.long q4), .second, .val (.long q5), .second, .val (.int (f0_8 p2)), .val (.long (f0_14 p2)), .second, .val (.long (f0_26 q0 p2)), .second, .val (.long ((f0_14 p2) - (f0_26 q0 p2))), .second, .val (.ref b1), .val (.double (own_rate (f0_26 q0 p2) ((f0_14 p2) - (f0_26 q0 p2)))), .second, .val (.int (1 : Int32)), .val (.ref b10), .val (.int (1 : Int32)), .val (.long (f0_124 q0)), .second, .val (.long (f0_133 q1)), .second, .val (.ref b19), .val (.double (own_rate (f0_124 q0) (f0_133 q1))), .second, .unset, .unset, .unset] [(.int (lcmpW (f0_124 q0) (0 : Int64))), (.int (0 : Int32))])) _
            refine XS.ifYes X27.here hx rfl (pc0 := 225) (pc' := 232) rfl (hb hby at_225) rfl (own_neL hf29).2 (by decide) (by decide) ?_
            show Steps p.tables e below (T27.setTop (mkF m 232 #[.val (.long q0), .second, .val (.long q1), .second, .val (.int p2), .val (.long q3), .second, .val (.long q4), .second, .val (.long q5), .second, .val (.int (f0_8 p2)), .val (.long (f0_14 p2)), .second, .val (.long (f0_26 q0 p2)), .second, .val (.long ((f0_14 p2) - (f0_26 q0 p2))), .second, .val (.ref b1), .val (.double (own_rate (f0_26 q0 p2) ((f0_14 p2) - (f0_26 q0 p2)))), .second, .val (.int (1 : Int32)), .val (.ref b10), .val (.int (1 : Int32)), .val (.long (f0_124 q0)), .second, .val (.long (f0_133 q1)), .second, .val (.ref b19), .val (.double (own_rate (f0_124 q0) (f0_133 q1))), .second, .unset, .unset, .unset] [(.int (0 : Int32))])) _
            refine XS.iconst X27.here hx rfl (hb hby at_232) ?_
            show Steps p.tables e below (T27.setTop (mkF m 233 #[.val (.long q0), .second, .val (.long q1), .second, .val (.int p2), .val (.long q3), .second, .val (.long q4), .second, .val (.long q5), .second, .val (.int (f0_8 p2)), .val (.long (f0_14 p2)), .second, .val (.long (f0_26 q0 p2)), .second, .val (.long ((f0_14 p2) - (f0_26 q0 p2))), .second, .val (.ref b1), .val (.double (own_rate (f0_26 q0 p2) ((f0_14 p2) - (f0_26 q0 p2)))), .second, .val (.int (1 : Int32)), .val (.ref b10), .val (.int (1 : Int32)), .val (.long (f0_124 q0)), .second, .val (.long (f0_133 q1)), .second, .val (.ref b19), .val (.double (own_rate (f0_124 q0) (f0_133 q1))), .second, .unset, .unset, .unset] [(.int (0 : Int32)), (.int (0 : Int32))])) _
            refine XS.icmpNo X27.here hx rfl (hb hby at_233) rfl (teq (show (0 : Int32) = (0 : Int32) by decide)).2 ?_
            show Steps p.tables e below (T27.setTop (mkF m 236 #[.val (.long q0), .second, .val (.long q1), .second, .val (.int p2), .val (.long q3), .second, .val (.long q4), .second, .val (.long q5), .second, .val (.int (f0_8 p2)), .val (.long (f0_14 p2)), .second, .val (.long (f0_26 q0 p2)), .second, .val (.long ((f0_14 p2) - (f0_26 q0 p2))), .second, .val (.ref b1), .val (.double (own_rate (f0_26 q0 p2) ((f0_14 p2) - (f0_26 q0 p2)))), .second, .val (.int (1 : Int32)), .val (.ref b10), .val (.int (1 : Int32)), .val (.long (f0_124 q0)), .second, .val (.long (f0_133 q1)), .second, .val (.ref b19), .val (.double (own_rate (f0_124 q0) (f0_133 q1))), .second, .unset, .unset, .unset] [])) _
            refine XS.iconst X27.here hx rfl (hb hby at_236) ?_
            show Steps p.tables e below (T27.setTop (mkF m 237 #[.val (.long q0), .second, .val (.long q1), .second, .val (.int p2), .val (.long q3), .second, .val (.long q4), .second, .val (.long q5), .second, .val (.int (f0_8 p2)), .val (.long (f0_14 p2)), .second, .val (.long (f0_26 q0 p2)), .second, .val (.long ((f0_14 p2) - (f0_26 q0 p2))), .second, .val (.ref b1), .val (.double (own_rate (f0_26 q0 p2) ((f0_14 p2) - (f0_26 q0 p2)))), .second, .val (.int (1 : Int32)), .val (.ref b10), .val (.int (1 : Int32)), .val (.long (f0_124 q0)), .second, .val (.long (f0_133 q1)), .second, .val (.ref b19), .val (.double (own_rate (f0_124 q0) (f0_133 q1))), .second, .unset, .unset, .unset] [(.int (1 : Int32))])) _
            refine XS.goto X27.here hx rfl (pc0 := 237) (pc' := 241) rfl (hb hby at_237) (by decide) (by decide) ?_
            show Steps p.tables e below (T27.setTop (mkF m 241 #[.val (.long q0), .second, .val (.long q1), .second, .val (.int p2), .val (.long q3), .second, .val (.long q4), .second, .val (.long q5), .second, .val (.int (f0_8 p2)), .val (.long (f0_14 p2)), .second, .val (.long (f0_26 q0 p2)), .second, .val (.long ((f0_14 p2) - (f0_26 q0 p2))), .second, .val (.ref b1), .val (.double (own_rate (f0_26 q0 p2) ((f0_14 p2) - (f0_26 q0 p2)))), .second, .val (.int (1 : Int32)), .val (.ref b10), .val (.int (1 : Int32)), .val (.long (f0_124 q0)), .second, .val (.long (f0_133 q1)), .second, .val (.ref b19), .val (.double (own_rate (f0_124 q0) (f0_133 q1))), .second, .unset, .unset, .unset] [(.int (1 : Int32))])) _
            refine XS.istore X27.here hx rfl (hb hby at_241) rfl (l' := #[.val (.long q0), .second, .val (.long q1), .second, .val (.int p2), .val (.long q3), .second, .val (.long q4), .second, .val (.long q5), .second, .val (.int (f0_8 p2)), .val (.long (f0_14 p2)), .second, .val (.long (f0_26 q0 p2)), .second, .val (.long ((f0_14 p2) - (f0_26 q0 p2))), .second, .val (.ref b1), .val (.double (own_rate (f0_26 q0 p2) ((f0_14 p2) - (f0_26 q0 p2)))), .second, .val (.int (1 : Int32)), .val (.ref b10), .val (.int (1 : Int32)), .val (.long (f0_124 q0)), .second, .val (.long (f0_133 q1)), .second, .val (.ref b19), .val (.double (own_rate (f0_124 q0) (f0_133 q1))), .second, .val (.int (1 : Int32)), .unset, .unset]) rfl ?_
            show Steps p.tables e below (T27.setTop (mkF m 243 #[.val (.long q0), .second, .val (.long q1), .second, .val (.int p2), .val (.long q3), .second, .val (.long q4), .second, .val (.long q5), .second, .val (.int (f0_8 p2)), .val (.long (f0_14 p2)), .second, .val (.long (f0_26 q0 p2)), .second, .val (.long ((f0_14 p2) - (f0_26 q0 p2))), .second, .val (.ref b1), .val (.double (own_rate (f0_26 q0 p2) ((f0_14 p2) - (f0_26 q0 p2)))), .second, .val (.int (1 : Int32)), .val (.ref b10), .val (.int (1 : Int32)), .val (.long (f0_124 q0)), .second, .val (.long (f0_133 q1)), .second, .val (.ref b19), .val (.double (own_rate (f0_124 q0) (f0_133 q1))), .second, .val (.int (1 : Int32)), .unset, .unset] [])) _
            rw [show (f0_243 q0 q1) = ((1 : Int32) : Int32) from by simp only [f0_243, if_neg hf29, if_neg hf35, if_neg hf36, if_neg hf37]] at k
            exact k)
  obtain ⟨T39, h39, X39, e39, Ex39, Ne39, D39, -, st39⟩ := newO X27 hx hZ hown (hw _ (List.mem_of_getElem? (i := 2) rfl)) (hw _ (List.mem_of_getElem? (i := 3) rfl)) (hw _ (List.mem_of_getElem? (i := 4) rfl)) hh27 (g := (mkF m 243 #[.val (.long q0), .second, .val (.long q1), .second, .val (.int p2), .val (.long q3), .second, .val (.long q4), .second, .val (.long q5), .second, .val (.int (f0_8 p2)), .val (.long (f0_14 p2)), .second, .val (.long (f0_26 q0 p2)), .second, .val (.long ((f0_14 p2) - (f0_26 q0 p2))), .second, .val (.ref b1), .val (.double (own_rate (f0_26 q0 p2) ((f0_14 p2) - (f0_26 q0 p2)))), .second, .val (.int (1 : Int32)), .val (.ref b10), .val (.int (1 : Int32)), .val (.long (f0_124 q0)), .second, .val (.long (f0_133 q1)), .second, .val (.ref b19), .val (.double (own_rate (f0_124 q0) (f0_133 q1))), .second, .val (.int (f0_243 q0 q1)), .unset, .unset] [])) rfl (hb hby at_243) (by decide) (by decide)
  obtain ⟨b39, g39⟩ : ∃ z, z = T23.heap.size := ⟨_, rfl⟩
  rw [← g39] at Ne39 D39 st39
  have ne_b1_b39 : b1 ≠ b39 := by rw [g39]; exact Nat.ne_of_lt (E_b1_24).lt
  have ne_b10_b39 : b10 ≠ b39 := by rw [g39]; exact Nat.ne_of_lt (E_b10_24).lt
  have ne_b19_b39 : b19 ≠ b39 := by rw [g39]; exact Nat.ne_of_lt (E_b19_24).lt
  have g_b39 : n0 ≤ b39 := Nat.le_trans (Nat.le_trans Z0 SZ25) (Nat.le_of_eq g39.symm)
  have sz_b39 : h0.size ≤ b39 := Nat.le_trans SZ25 (Nat.le_of_eq g39.symm)
  have E_b1_40 : Exa Z h39 b1 "com/example/sketchgate/sketchgate/model/CacheStats" := (E_b1_24).ext Ex39
  have F_hitCount_b1_40 : Fld Z h39 b1 "com/example/sketchgate/sketchgate/model/CacheStats" "hitCount" "J" (.long (f0_26 q0 p2)) := (F_hitCount_b1_24).ext Ex39
  have F_missCount_b1_40 : Fld Z h39 b1 "com/example/sketchgate/sketchgate/model/CacheStats" "missCount" "J" (.long ((f0_14 p2) - (f0_26 q0 p2))) := (F_missCount_b1_24).ext Ex39
  have E_b10_40 : Exa Z h39 b10 "com/example/sketchgate/sketchgate/model/CacheStats" := (E_b10_24).ext Ex39
  have F_hitCount_b10_40 : Fld Z h39 b10 "com/example/sketchgate/sketchgate/model/CacheStats" "hitCount" "J" (.long (0 : Int64)) := (F_hitCount_b10_24).ext Ex39
  have F_missCount_b10_40 : Fld Z h39 b10 "com/example/sketchgate/sketchgate/model/CacheStats" "missCount" "J" (.long (0 : Int64)) := (F_missCount_b10_24).ext Ex39
  have E_b19_40 : Exa Z h39 b19 "com/example/sketchgate/sketchgate/model/CacheStats" := (E_b19_24).ext Ex39
  have F_hitCount_b19_40 : Fld Z h39 b19 "com/example/sketchgate/sketchgate/model/CacheStats" "hitCount" "J" (.long (f0_124 q0)) := (P23_0).ext Ex39
  have F_missCount_b19_40 : Fld Z h39 b19 "com/example/sketchgate/sketchgate/model/CacheStats" "missCount" "J" (.long (f0_133 q1)) := (P23_1).ext Ex39
  have SZ41 : h0.size ≤ h39.size := Nat.le_trans SZ25 Ex39.1
  have ZZ41 : n0 ≤ h39.size := Nat.le_trans Z0 SZ41
  have K42 : Keep h0 h39 [] := (K26).ext Ex39
  have F_hitCount_b39_39 : Fld Z h39 b39 "com/example/sketchgate/sketchgate/model/CacheStats" "hitCount" "J" (.long (0 : Int64)) := D39 (Or.inr (hw _ (List.mem_of_getElem? (i := 17) rfl))) (ty := .long) (by decide)
  have F_missCount_b39_39 : Fld Z h39 b39 "com/example/sketchgate/sketchgate/model/CacheStats" "missCount" "J" (.long (0 : Int64)) := D39 (Or.inr (hw _ (List.mem_of_getElem? (i := 19) rfl))) (ty := .long) (by decide)
  have F_loadSuccessCount_b39_39 : Fld Z h39 b39 "com/example/sketchgate/sketchgate/model/CacheStats" "loadSuccessCount" "J" (.long (0 : Int64)) := D39 (Or.inr (hw _ (List.mem_of_getElem? (i := 21) rfl))) (ty := .long) (by decide)
  have F_loadFailureCount_b39_39 : Fld Z h39 b39 "com/example/sketchgate/sketchgate/model/CacheStats" "loadFailureCount" "J" (.long (0 : Int64)) := D39 (Or.inr (hw _ (List.mem_of_getElem? (i := 23) rfl))) (ty := .long) (by decide)
  have F_totalLoadTime_b39_39 : Fld Z h39 b39 "com/example/sketchgate/sketchgate/model/CacheStats" "totalLoadTime" "J" (.long (0 : Int64)) := D39 (Or.inr (hw _ (List.mem_of_getElem? (i := 25) rfl))) (ty := .long) (by decide)
  have F_evictionCount_b39_39 : Fld Z h39 b39 "com/example/sketchgate/sketchgate/model/CacheStats" "evictionCount" "J" (.long (0 : Int64)) := D39 (Or.inr (hw _ (List.mem_of_getElem? (i := 27) rfl))) (ty := .long) (by decide)
  obtain ⟨_, _, ⟨T43, L43, k43, n43⟩, -, X43, ⟨Lc43, hQ43, l43, y43, z43⟩, st43⟩ := X39.specialBack hx (y := (⟨"com/example/sketchgate/sketchgate/model/CacheStats", "<init>", "(JJJJJJ)V"⟩ : MethodName)) rfl hown (mvT hZ (hw _ (List.mem_of_getElem? (i := 5) rfl))) (mvT hZ (hw _ (List.mem_of_getElem? (i := 6) rfl))) (mvT hZ (hw _ (List.mem_of_getElem? (i := 7) rfl))) (by decide) (backOf (W := 1) (rm1 l Z a0 hw [] b39 (f0_124 q0) ((f0_133 q1) + (1 : Int64)) q3 q4 q5 (p2.toInt64) (0 : Int64) (0 : Int64) (0 : Int64) (0 : Int64) (0 : Int64) (0 : Int64) h39 n0 ZZ41 F_hitCount_b39_39 F_missCount_b39_39 F_loadSuccessCount_b39_39 F_loadFailureCount_b39_39 F_totalLoadTime_b39_39 F_evictionCount_b39_39 Ne39 g_b39) hZ (hw _ (List.mem_of_getElem? (i := 7) rfl)) (hw _ (List.mem_of_getElem? (i := 4) rfl)) (by decide) (by decide)) (g := (mkF m 262 #[.val (.long q0), .second, .val (.long q1), .second, .val (.int p2), .val (.long q3), .second, .val (.long q4), .second, .val (.long q5), .second, .val (.int (f0_8 p2)), .val (.long (f0_14 p2)), .second, .val (.long (f0_26 q0 p2)), .second, .val (.long ((f0_14 p2) - (f0_26 q0 p2))), .second, .val (.ref b1), .val (.double (own_rate (f0_26 q0 p2) ((f0_14 p2) - (f0_26 q0 p2)))), .second, .val (.int (1 : Int32)), .val (.ref b10), .val (.int (1 : Int32)), .val (.long (f0_124 q0)), .second, .val (.long (f0_133 q1)), .second, .val (.ref b19), .val (.double (own_rate (f0_124 q0) (f0_133 q1))), .second, .val (.int (f0_243 q0 q1)), .unset, .unset] [(.long (p2.toInt64)), (.long q5), (.long q4), (.long q3), (.long ((f0_133 q1) + (1 : Int64))), (.long (f0_124 q0)), (.ref b39), (.ref b39)])) rfl (by rw [hml]; rfl) (Steps.refl _) (a := b39) (argsL := [(.long (f0_124 q0)), (.long ((f0_133 q1) + (1 : Int64))), (.long q3), (.long q4), (.long q5), (.long (p2.toInt64))]) (rest := [(.ref b39)]) (lenOf pd_2 rfl) rfl (by show 2 * 0 + _ ≤ _; exact Nat.le_of_eq rfl) (hb hby at_262) (fun _ _ => ⟨rfl, e39, (by decide : 4 + 0 ≤ _), (by decide : 24 + 0 ≤ _)⟩)
  dsimp only [Pt.U, Pt.locs, Pt.cells, Pt.slots] at X43 l43 y43 z43 st43 hQ43
  subst y43 z43
  obtain ⟨rfl, N43q, Kc43, P43_0, P43_1⟩ := hQ43
  have N43 := Fr.app N27 N43q
  rw [← l43] at N43
  have E_b1_44 : Exa Z T43.heap b1 "com/example/sketchgate/sketchgate/model/CacheStats" := (E_b1_40).keep Kc43
  have F_hitCount_b1_44 : Fld Z T43.heap b1 "com/example/sketchgate/sketchgate/model/CacheStats" "hitCount" "J" (.long (f0_26 q0 p2)) := (F_hitCount_b1_40).keep Kc43 (ninS ne_b1_b39 nin0)
  have F_missCount_b1_44 : Fld Z T43.heap b1 "com/example/sketchgate/sketchgate/model/CacheStats" "missCount" "J" (.long ((f0_14 p2) - (f0_26 q0 p2))) := (F_missCount_b1_40).keep Kc43 (ninS ne_b1_b39 nin0)
  have E_b10_44 : Exa Z T43.heap b10 "com/example/sketchgate/sketchgate/model/CacheStats" := (E_b10_40).keep Kc43
  have F_hitCount_b10_44 : Fld Z T43.heap b10 "com/example/sketchgate/sketchgate/model/CacheStats" "hitCount" "J" (.long (0 : Int64)) := (F_hitCount_b10_40).keep Kc43 (ninS ne_b10_b39 nin0)
  have F_missCount_b10_44 : Fld Z T43.heap b10 "com/example/sketchgate/sketchgate/model/CacheStats" "missCount" "J" (.long (0 : Int64)) := (F_missCount_b10_40).keep Kc43 (ninS ne_b10_b39 nin0)
  have E_b19_44 : Exa Z T43.heap b19 "com/example/sketchgate/sketchgate/model/CacheStats" := (E_b19_40).keep Kc43
  have F_hitCount_b19_44 : Fld Z T43.heap b19 "com/example/sketchgate/sketchgate/model/CacheStats" "hitCount" "J" (.long (f0_124 q0)) := (F_hitCount_b19_40).keep Kc43 (ninS ne_b19_b39 nin0)
  have F_missCount_b19_44 : Fld Z T43.heap b19 "com/example/sketchgate/sketchgate/model/CacheStats" "missCount" "J" (.long (f0_133 q1)) := (F_missCount_b19_40).keep Kc43 (ninS ne_b19_b39 nin0)
  have E_b39_44 : Exa Z T43.heap b39 "com/example/sketchgate/sketchgate/model/CacheStats" := (Ne39).keep Kc43
  have SZ45 : h0.size ≤ T43.heap.size := Nat.le_trans SZ41 Kc43.1
  have ZZ45 : n0 ≤ T43.heap.size := Nat.le_trans Z0 SZ45
  have K46 : Keep h0 T43.heap [] := (K42).trans Kc43 (allS (Or.inr sz_b39) all0)
  obtain ⟨cq47, kq47, q47a, q47b, q47c⟩ := isOf hZ rfl (E_b39_44)
  obtain ⟨_, _, ⟨T47, L47, k47, n47⟩, -, X47, ⟨Lc47, hQ47, l47, y47, z47⟩, st47⟩ := X43.virtualBack hx (y := (⟨"com/example/sketchgate/sketchgate/model/CacheStats", "hitRate", "()D"⟩ : MethodName)) (z := (⟨"com/example/sketchgate/sketchgate/model/CacheStats", "hitRate", "()D"⟩ : MethodName)) hown (mvT hZ (hw _ (List.mem_of_getElem? (i := 28) rfl))) (mvT hZ (hw _ (List.mem_of_getElem? (i := 29) rfl))) (notFace_of_selects (args := #[]) (mvT hZ (hw _ (List.mem_of_getElem? (i := 31) rfl)))) (mvT hZ (hw _ (List.mem_of_getElem? (i := 31) rfl))) (mvT hZ (hw _ (List.mem_of_getElem? (i := 30) rfl))) (by decide) (backOf (W := 0) (rm4 l Z a0 hw [] b39 (f0_124 q0) ((f0_133 q1) + (1 : Int64)) T43.heap n0 ZZ45 P43_0 P43_1 E_b39_44) hZ (hw _ (List.mem_of_getElem? (i := 32) rfl)) (hw _ (List.mem_of_getElem? (i := 4) rfl)) (by decide) (by decide)) q47a q47c (g := (mkF m 269 #[.val (.long q0), .second, .val (.long q1), .second, .val (.int p2), .val (.long q3), .second, .val (.long q4), .second, .val (.long q5), .second, .val (.int (f0_8 p2)), .val (.long (f0_14 p2)), .second, .val (.long (f0_26 q0 p2)), .second, .val (.long ((f0_14 p2) - (f0_26 q0 p2))), .second, .val (.ref b1), .val (.double (own_rate (f0_26 q0 p2) ((f0_14 p2) - (f0_26 q0 p2)))), .second, .val (.int (1 : Int32)), .val (.ref b10), .val (.int (1 : Int32)), .val (.long (f0_124 q0)), .second, .val (.long (f0_133 q1)), .second, .val (.ref b19), .val (.double (own_rate (f0_124 q0) (f0_133 q1))), .second, .val (.int (f0_243 q0 q1)), .val (.ref b39), .unset] [(.ref b39)])) rfl (by rw [hml]; rfl) (Steps.refl _) (argsL := []) (rest := []) (lenOf pd_3 rfl) rfl (by show 2 * 0 + _ ≤ _; exact Nat.le_of_eq rfl) (hb hby at_269) (fun _ _ => ⟨rfl, rfl, (by decide : 4 + 0 ≤ _), (by decide : 24 + 0 ≤ _)⟩)
  dsimp only [Pt.U, Pt.locs, Pt.cells, Pt.slots] at X47 l47 y47 z47 st47 hQ47
  subst y47 z47
  obtain ⟨rfl, N47q, hh47⟩ := hQ47
  have N47 := Fr.app N43 N47q
  rw [← l47] at N47
  have pre48 : ∀ t, Steps p.tables e below (T47.setTop (mkF m 310 #[.val (.long q0), .second, .val (.long q1), .second, .val (.int p2), .val (.long q3), .second, .val (.long q4), .second, .val (.long q5), .second, .val (.int (f0_8 p2)), .val (.long (f0_14 p2)), .second, .val (.long (f0_26 q0 p2)), .second, .val (.long ((f0_14 p2) - (f0_26 q0 p2))), .second, .val (.ref b1), .val (.double (own_rate (f0_26 q0 p2) ((f0_14 p2) - (f0_26 q0 p2)))), .second, .val (.int (1 : Int32)), .val (.ref b10), .val (.int (1 : Int32)), .val (.long (f0_124 q0)), .second, .val (.long (f0_133 q1)), .second, .val (.ref b19), .val (.double (own_rate (f0_124 q0) (f0_133 q1))), .second, .val (.int (f0_243 q0 q1)), .val (.ref b39), .val (.int (1 : Int32))] [(.int (1 : Int32))])) t → Steps p.tables e below (s₁.setTop (entryFrame m #[(.long q0), (.long q1), (.int p2), (.long q3), (.long q4), (.long q5)] maxLocals)) t := fun t k => pre38 t (by
    refine st39 _ ?_
    show Steps p.tables e below (T39.setTop (mkF m 246 #[.val (.long q0), .second, .val (.long q1), .second, .val (.int p2), .val (.long q3), .second, .val (.long q4), .second, .val (.long q5), .second, .val (.int (f0_8 p2)), .val (.long (f0_14 p2)), .second, .val (.long (f0_26 q0 p2)), .second, .val (.long ((f0_14 p2) - (f0_26 q0 p2))), .second, .val (.ref b1), .val (.double (own_rate (f0_26 q0 p2) ((f0_14 p2) - (f0_26 q0 p2)))), .second, .val (.int (1 : Int32)), .val (.ref b10), .val (.int (1 : Int32)), .val (.long (f0_124 q0)), .second, .val (.long (f0_133 q1)), .second, .val (.ref b19), .val (.double (own_rate (f0_124 q0) (f0_133 q1))), .second, .val (.int (f0_243 q0 q1)), .unset, .unset] [(.ref b39)])) _
    refine XS.dup X39.here hx rfl (hb hby at_246) rfl rfl ?_
    show Steps p.tables e below (T39.setTop (mkF m 247 #[.val (.long q0), .second, .val (.long q1), .second, .val (.int p2), .val (.long q3), .second, .val (.long q4), .second, .val (.long q5), .second, .val (.int (f0_8 p2)), .val (.long (f0_14 p2)), .second, .val (.long (f0_26 q0 p2)), .second, .val (.long ((f0_14 p2) - (f0_26 q0 p2))), .second, .val (.ref b1), .val (.double (own_rate (f0_26 q0 p2) ((f0_14 p2) - (f0_26 q0 p2)))), .second, .val (.int (1 : Int32)), .val (.ref b10), .val (.int (1 : Int32)), .val (.long (f0_124 q0)), .second, .val (.long (f0_133 q1)), .second, .val (.ref b19), .val (.double (own_rate (f0_124 q0) (f0_133 q1))), .second, .val (.int (f0_243 q0 q1)), .unset, .unset] [(.ref b39), (.ref b39)])) _
    refine XS.lload X39.here hx rfl (hb hby at_247) rfl ?_
    show Steps p.tables e below (T39.setTop (mkF m 249 #[.val (.long q0), .second, .val (.long q1), .second, .val (.int p2), .val (.long q3), .second, .val (.long q4), .second, .val (.long q5), .second, .val (.int (f0_8 p2)), .val (.long (f0_14 p2)), .second, .val (.long (f0_26 q0 p2)), .second, .val (.long ((f0_14 p2) - (f0_26 q0 p2))), .second, .val (.ref b1), .val (.double (own_rate (f0_26 q0 p2) ((f0_14 p2) - (f0_26 q0 p2)))), .second, .val (.int (1 : Int32)), .val (.ref b10), .val (.int (1 : Int32)), .val (.long (f0_124 q0)), .second, .val (.long (f0_133 q1)), .second, .val (.ref b19), .val (.double (own_rate (f0_124 q0) (f0_133 q1))), .second, .val (.int (f0_243 q0 q1)), .unset, .unset] [(.long (f0_124 q0)), (.ref b39), (.ref b39)])) _
    refine XS.lload X39.here hx rfl (hb hby at_249) rfl ?_
    show Steps p.tables e below (T39.setTop (mkF m 251 #[.val (.long q0), .second, .val (.long q1), .second, .val (.int p2), .val (.long q3), .second, .val (.long q4), .second, .val (.long q5), .second, .val (.int (f0_8 p2)), .val (.long (f0_14 p2)), .second, .val (.long (f0_26 q0 p2)), .second, .val (.long ((f0_14 p2) - (f0_26 q0 p2))), .second, .val (.ref b1), .val (.double (own_rate (f0_26 q0 p2) ((f0_14 p2) - (f0_26 q0 p2)))), .second, .val (.int (1 : Int32)), .val (.ref b10), .val (.int (1 : Int32)), .val (.long (f0_124 q0)), .second, .val (.long (f0_133 q1)), .second, .val (.ref b19), .val (.double (own_rate (f0_124 q0) (f0_133 q1))), .second, .val (.int (f0_243 q0 q1)), .unset, .unset] [(.long (f0_133 q1)), (.long (f0_124 q0)), (.ref b39), (.ref b39)])) _
    refine XS.lconst X39.here hx rfl (hb hby at_251) ?_
    show Steps p.tables e below (T39.setTop (mkF m 252 #[.val (.long q0), .second, .val (.long q1), .second, .val (.int p2), .val (.long q3), .second, .val (.long q4), .second, .val (.long q5), .second, .val (.int (f0_8 p2)), .val (.long (f0_14 p2)), .second, .val (.long (f0_26 q0 p2)), .second, .val (.long ((f0_14 p2) - (f0_26 q0 p2))), .second, .val (.ref b1), .val (.double (own_rate (f0_26 q0 p2) ((f0_14 p2) - (f0_26 q0 p2)))), .second, .val (.int (1 : Int32)), .val (.ref b10), .val (.int (1 : Int32)), .val (.long (f0_124 q0)), .second, .val (.long (f0_133 q1)), .second, .val (.ref b19), .val (.double (own_rate (f0_124 q0) (f0_133 q1))), .second, .val (.int (f0_243 q0 q1)), .unset, .unset] [(.long (1 : Int64)), (.long (f0_133 q1)), (.long (f0_124 q0)), (.ref b39), (.ref b39)])) _
    refine XS.ladd X39.here hx rfl (hb hby at_252) rfl ?_
    show Steps p.tables e below (T39.setTop (mkF m 253 #[.val (.long q0), .second, .val (.long q1), .second, .val (.int p2), .val (.long q3), .second, .val (.long q4), .second, .val (.long q5), .second, .val (.int (f0_8 p2)), .val (.long (f0_14 p2)), .second, .val (.long (f0_26 q0 p2)), .second, .val (.long ((f0_14 p2) - (f0_26 q0 p2))), .second, .val (.ref b1), .val (.double (own_rate (f0_26 q0 p2) ((f0_14 p2) - (f0_26 q0 p2)))), .second, .val (.int (1 : Int32)), .val (.ref b10), .val (.int (1 : Int32)), .val (.long (f0_124 q0)), .second, .val (.long (f0_133 q1)), .second, .val (.ref b19), .val (.double (own_rate (f0_124 q0) (f0_133 q1))), .second, .val (.int (f0_243 q0 q1)), .unset, .unset] [(.long ((f0_133 q1) + (1 : Int64))), (.long (f0_124 q0)), (.ref b39), (.ref b39)])) _
    refine XS.lload X39.here hx rfl (hb hby at_253) rfl ?_
    show Steps p.tables e below (T39.setTop (mkF m 255 #[.val (.long q0), .second, .val (.long q1), .second, .val (.int p2), .val (.long q3), .second, .val (.long q4), .second, .val (.long q5), .second, .val (.int (f0_8 p2)), .val (.long (f0_14 p2)), .second, .val (.long (f0_26 q0 p2)), .second, .val (.long ((f0_14 p2) - (f0_26 q0 p2))), .second, .val (.ref b1), .val (.double (own_rate (f0_26 q0 p2) ((f0_14 p2) - (f0_26 q0 p2)))), .second, .val (.int (1 : Int32)), .val (.ref b10), .val (.int (1 : Int32)), .val (.long (f0_124 q0)), .second, .val (.long (f0_133 q1)), .second, .val (.ref b19), .val (.double (own_rate (f0_124 q0) (f0_133 q1))), .second, .val (.int (f0_243 q0 q1)), .unset, .unset] [(.long q3), (.long ((f0_133 q1) + (1 : Int64))), (.long (f0_124 q0)), (.ref b39), (.ref b39)])) _
    refine XS.lload X39.here hx rfl (hb hby at_255) rfl ?_
    show Steps p.tables e below (T39.setTop (mkF m 257 #[.val (.long q0), .second, .val (.long q1), .second, .val (.int p2), .val (.long q3), .second, .val (.long q4), .second, .val (.long q5), .second, .val (.int (f0_8 p2)), .val (.long (f0_14 p2)), .second, .val (.long (f0_26 q0 p2)), .second, .val (.long ((f0_14 p2) - (f0_26 q0 p2))), .second, .val (.ref b1), .val (.double (own_rate (f0_26 q0 p2) ((f0_14 p2) - (f0_26 q0 p2)))), .second, .val (.int (1 : Int32)), .val (.ref b10), .val (.int (1 : Int32)), .val (.long (f0_124 q0)), .second, .val (.long (f0_133 q1)), .second, .val (.ref b19), .val (.double (own_rate (f0_124 q0) (f0_133 q1))), .second, .val (.int (f0_243 q0 q1)), .unset, .unset] [(.long q4), (.long q3), (.long ((f0_133 q1) + (1 : Int64))), (.long (f0_124 q0)), (.ref b39), (.ref b39)])) _
    refine XS.lload X39.here hx rfl (hb hby at_257) rfl ?_
    show Steps p.tables e below (T39.setTop (mkF m 259 #[.val (.long q0), .second, .val (.long q1), .second, .val (.int p2), .val (.long q3), .second, .val (.long q4), .second, .val (.long q5), .second, .val (.int (f0_8 p2)), .val (.long (f0_14 p2)), .second, .val (.long (f0_26 q0 p2)), .second, .val (.long ((f0_14 p2) - (f0_26 q0 p2))), .second, .val (.ref b1), .val (.double (own_rate (f0_26 q0 p2) ((f0_14 p2) - (f0_26 q0 p2)))), .second, .val (.int (1 : Int32)), .val (.ref b10), .val (.int (1 : Int32)), .val (.long (f0_124 q0)), .second, .val (.long (f0_133 q1)), .second, .val (.ref b19), .val (.double (own_rate (f0_124 q0) (f0_133 q1))), .second, .val (.int (f0_243 q0 q1)), .unset, .unset] [(.long q5), (.long q4), (.long q3), (.long ((f0_133 q1) + (1 : Int64))), (.long (f0_124 q0)), (.ref b39), (.ref b39)])) _
    refine XS.iload X39.here hx rfl (hb hby at_259) rfl ?_
    show Steps p.tables e below (T39.setTop (mkF m 261 #[.val (.long q0), .second, .val (.long q1), .second, .val (.int p2), .val (.long q3), .second, .val (.long q4), .second, .val (.long q5), .second, .val (.int (f0_8 p2)), .val (.long (f0_14 p2)), .second, .val (.long (f0_26 q0 p2)), .second, .val (.long ((f0_14 p2) - (f0_26 q0 p2))), .second, .val (.ref b1), .val (.double (own_rate (f0_26 q0 p2) ((f0_14 p2) - (f0_26 q0 p2)))), .second, .val (.int (1 : Int32)), .val (.ref b10), .val (.int (1 : Int32)), .val (.long (f0_124 q0)), .second, .val (.long (f0_133 q1)), .second, .val (.ref b19), .val (.double (own_rate (f0_124 q0) (f0_133 q1))), .second, .val (.int (f0_243 q0 q1)), .unset, .unset] [(.int p2), (.long q5), (.long q4), (.long q3), (.long ((f0_133 q1) + (1 : Int64))), (.long (f0_124 q0)), (.ref b39), (.ref b39)])) _
    refine XS.i2l X39.here hx rfl (hb hby at_261) rfl ?_
    show Steps p.tables e below (T39.setTop (mkF m 262 #[.val (.long q0), .second, .val (.long q1), .second, .val (.int p2), .val (.long q3), .second, .val (.long q4), .second, .val (.long q5), .second, .val (.int (f0_8 p2)), .val (.long (f0_14 p2)), .second, .val (.long (f0_26 q0 p2)), .second, .val (.long ((f0_14 p2) - (f0_26 q0 p2))), .second, .val (.ref b1), .val (.double (own_rate (f0_26 q0 p2) ((f0_14 p2) - (f0_26 q0 p2)))), .second, .val (.int (1 : Int32)), .val (.ref b10), .val (.int (1 : Int32)), .val (.long (f0_124 q0)), .second, .val (.long (f0_133 q1)), .second, .val (.ref b19), .val (.double (own_rate (f0_124 q0) (f0_133 q1))), .second, .val (.int (f0_243 q0 q1)), .unset, .unset] [(.long (p2.toInt64)), (.long q5), (.long q4), (.long q3), (.long ((f0_133 q1) + (1 : Int64))), (.long (f0_124 q0)), (.ref b39), (.ref b39)])) _
    refine st43.trans ?_
    show Steps p.tables e below (T43.setTop (mkF m 265 #[.val (.long q0), .second, .val (.long q1), .second, .val (.int p2), .val (.long q3), .second, .val (.long q4), .second, .val (.long q5), .second, .val (.int (f0_8 p2)), .val (.long (f0_14 p2)), .second, .val (.long (f0_26 q0 p2)), .second, .val (.long ((f0_14 p2) - (f0_26 q0 p2))), .second, .val (.ref b1), .val (.double (own_rate (f0_26 q0 p2) ((f0_14 p2) - (f0_26 q0 p2)))), .second, .val (.int (1 : Int32)), .val (.ref b10), .val (.int (1 : Int32)), .val (.long (f0_124 q0)), .second, .val (.long (f0_133 q1)), .second, .val (.ref b19), .val (.double (own_rate (f0_124 q0) (f0_133 q1))), .second, .val (.int (f0_243 q0 q1)), .unset, .unset] [(.ref b39)])) _
    refine XS.astore X43.here hx rfl (hb hby at_265) rfl rfl (l' := #[.val (.long q0), .second, .val (.long q1), .second, .val (.int p2), .val (.long q3), .second, .val (.long q4), .second, .val (.long q5), .second, .val (.int (f0_8 p2)), .val (.long (f0_14 p2)), .second, .val (.long (f0_26 q0 p2)), .second, .val (.long ((f0_14 p2) - (f0_26 q0 p2))), .second, .val (.ref b1), .val (.double (own_rate (f0_26 q0 p2) ((f0_14 p2) - (f0_26 q0 p2)))), .second, .val (.int (1 : Int32)), .val (.ref b10), .val (.int (1 : Int32)), .val (.long (f0_124 q0)), .second, .val (.long (f0_133 q1)), .second, .val (.ref b19), .val (.double (own_rate (f0_124 q0) (f0_133 q1))), .second, .val (.int (f0_243 q0 q1)), .val (.ref b39), .unset]) rfl ?_
    show Steps p.tables e below (T43.setTop (mkF m 267 #[.val (.long q0), .second, .val (.long q1), .second, .val (.int p2), .val (.long q3), .second, .val (.long q4), .second, .val (.long q5), .second, .val (.int (f0_8 p2)), .val (.long (f0_14 p2)), .second, .val (.long (f0_26 q0 p2)), .second, .val (.long ((f0_14 p2) - (f0_26 q0 p2))), .second, .val (.ref b1), .val (.double (own_rate (f0_26 q0 p2) ((f0_14 p2) - (f0_26 q0 p2)))), .second, .val (.int (1 : Int32)), .val (.ref b10), .val (.int (1 : Int32)), .val (.long (f0_124 q0)), .second, .val (.long (f0_133 q1)), .second, .val (.ref b19), .val (.double (own_rate (f0_124 q0) (f0_133 q1))), .second, .val (.int (f0_243 q0 q1)), .val (.ref b39), .unset] [])) _
    refine XS.aload X43.here hx rfl (hb hby at_267) rfl rfl ?_
    show Steps p.tables e below (T43.setTop (mkF m 269 #[.val (.long q0), .second, .val (.long q1), .second, .val (.int p2), .val (.long q3), .second, .val (.long q4), .second, .val (.long q5), .second, .val (.int (f0_8 p2)), .val (.long (f0_14 p2)), .second, .val (.long (f0_26 q0 p2)), .second, .val (.long ((f0_14 p2) - (f0_26 q0 p2))), .second, .val (.ref b1), .val (.double (own_rate (f0_26 q0 p2) ((f0_14 p2) - (f0_26 q0 p2)))), .second, .val (.int (1 : Int32)), .val (.ref b10), .val (.int (1 : Int32)), .val (.long (f0_124 q0)), .second, .val (.long (f0_133 q1)), .second, .val (.ref b19), .val (.double (own_rate (f0_124 q0) (f0_133 q1))), .second, .val (.int (f0_243 q0 q1)), .val (.ref b39), .unset] [(.ref b39)])) _
    refine st47.trans ?_
    show Steps p.tables e below (T47.setTop (mkF m 272 #[.val (.long q0), .second, .val (.long q1), .second, .val (.int p2), .val (.long q3), .second, .val (.long q4), .second, .val (.long q5), .second, .val (.int (f0_8 p2)), .val (.long (f0_14 p2)), .second, .val (.long (f0_26 q0 p2)), .second, .val (.long ((f0_14 p2) - (f0_26 q0 p2))), .second, .val (.ref b1), .val (.double (own_rate (f0_26 q0 p2) ((f0_14 p2) - (f0_26 q0 p2)))), .second, .val (.int (1 : Int32)), .val (.ref b10), .val (.int (1 : Int32)), .val (.long (f0_124 q0)), .second, .val (.long (f0_133 q1)), .second, .val (.ref b19), .val (.double (own_rate (f0_124 q0) (f0_133 q1))), .second, .val (.int (f0_243 q0 q1)), .val (.ref b39), .unset] [(.double (own_rate (f0_124 q0) ((f0_133 q1) + (1 : Int64))))])) _
    refine XS.dload X47.here hx rfl (hb hby at_272) rfl ?_
    show Steps p.tables e below (T47.setTop (mkF m 274 #[.val (.long q0), .second, .val (.long q1), .second, .val (.int p2), .val (.long q3), .second, .val (.long q4), .second, .val (.long q5), .second, .val (.int (f0_8 p2)), .val (.long (f0_14 p2)), .second, .val (.long (f0_26 q0 p2)), .second, .val (.long ((f0_14 p2) - (f0_26 q0 p2))), .second, .val (.ref b1), .val (.double (own_rate (f0_26 q0 p2) ((f0_14 p2) - (f0_26 q0 p2)))), .second, .val (.int (1 : Int32)), .val (.ref b10), .val (.int (1 : Int32)), .val (.long (f0_124 q0)), .second, .val (.long (f0_133 q1)), .second, .val (.ref b19), .val (.double (own_rate (f0_124 q0) (f0_133 q1))), .second, .val (.int (f0_243 q0 q1)), .val (.ref b39), .unset] [(.double (own_rate (f0_124 q0) (f0_133 q1))), (.double (own_rate (f0_124 q0) ((f0_133 q1) + (1 : Int64))))])) _
    refine XS.dcmpS X47.here hx rfl (hb hby at_274) rfl rfl ?_
    show Steps p.tables e below (T47.setTop (mkF m 275 #[.val (.long q0), .second, .val (.long q1), .second, .val (.int p2), .val (.long q3), .second, .val (.long q4), .second, .val (.long q5), .second, .val (.int (f0_8 p2)), .val (.long (f0_14 p2)), .second, .val (.long (f0_26 q0 p2)), .second, .val (.long ((f0_14 p2) - (f0_26 q0 p2))), .second, .val (.ref b1), .val (.double (own_rate (f0_26 q0 p2) ((f0_14 p2) - (f0_26 q0 p2)))), .second, .val (.int (1 : Int32)), .val (.ref b10), .val (.int (1 : Int32)), .val (.long (f0_124 q0)), .second, .val (.long (f0_133 q1)), .second, .val (.ref b19), .val (.double (own_rate (f0_124 q0) (f0_133 q1))), .second, .val (.int (f0_243 q0 q1)), .val (.ref b39), .unset] [(.int (cmpValue (FP.dcmp (own_rate (f0_124 q0) ((f0_133 q1) + (1 : Int64))) (own_rate (f0_124 q0) (f0_133 q1))) .g))])) _
    refine XS.ifNo X47.here hx rfl (hb hby at_275) rfl ((if0 _ _).trans (flt (show ¬ ((0 : Int32) < (cmpValue (FP.dcmp (own_rate (f0_124 q0) ((f0_133 q1) + (1 : Int64))) (own_rate (f0_124 q0) (f0_133 q1))) .g)) from own_c275 q0 q1)).2.2.1) ?_
    show Steps p.tables e below (T47.setTop (mkF m 278 #[.val (.long q0), .second, .val (.long q1), .second, .val (.int p2), .val (.long q3), .second, .val (.long q4), .second, .val (.long q5), .second, .val (.int (f0_8 p2)), .val (.long (f0_14 p2)), .second, .val (.long (f0_26 q0 p2)), .second, .val (.long ((f0_14 p2) - (f0_26 q0 p2))), .second, .val (.ref b1), .val (.double (own_rate (f0_26 q0 p2) ((f0_14 p2) - (f0_26 q0 p2)))), .second, .val (.int (1 : Int32)), .val (.ref b10), .val (.int (1 : Int32)), .val (.long (f0_124 q0)), .second, .val (.long (f0_133 q1)), .second, .val (.ref b19), .val (.double (own_rate (f0_124 q0) (f0_133 q1))), .second, .val (.int (f0_243 q0 q1)), .val (.ref b39), .unset] [])) _
    refine XS.iconst X47.here hx rfl (hb hby at_278) ?_
    show Steps p.tables e below (T47.setTop (mkF m 279 #[.val (.long q0), .second, .val (.long q1), .second, .val (.int p2), .val (.long q3), .second, .val (.long q4), .second, .val (.long q5), .second, .val (.int (f0_8 p2)), .val (.long (f0_14 p2)), .second, .val (.long (f0_26 q0 p2)), .second, .val (.long ((f0_14 p2) - (f0_26 q0 p2))), .second, .val (.ref b1), .val (.double (own_rate (f0_26 q0 p2) ((f0_14 p2) - (f0_26 q0 p2)))), .second, .val (.int (1 : Int32)), .val (.ref b10), .val (.int (1 : Int32)), .val (.long (f0_124 q0)), .second, .val (.long (f0_133 q1)), .second, .val (.ref b19), .val (.double (own_rate (f0_124 q0) (f0_133 q1))), .second, .val (.int (f0_243 q0 q1)), .val (.ref b39), .unset] [(.int (1 : Int32))])) _
    refine XS.goto X47.here hx rfl (pc0 := 279) (pc' := 283) rfl (hb hby at_279) (by decide) (by decide) ?_
    show Steps p.tables e below (T47.setTop (mkF m 283 #[.val (.long q0), .second, .val (.long q1), .second, .val (.int p2), .val (.long q3), .second, .val (.long q4), .second, .val (.long q5), .second, .val (.int (f0_8 p2)), .val (.long (f0_14 p2)), .second, .val (.long (f0_26 q0 p2)), .second, .val (.long ((f0_14 p2) - (f0_26 q0 p2))), .second, .val (.ref b1), .val (.double (own_rate (f0_26 q0 p2) ((f0_14 p2) - (f0_26 q0 p2)))), .second, .val (.int (1 : Int32)), .val (.ref b10), .val (.int (1 : Int32)), .val (.long (f0_124 q0)), .second, .val (.long (f0_133 q1)), .second, .val (.ref b19), .val (.double (own_rate (f0_124 q0) (f0_133 q1))), .second, .val (.int (f0_243 q0 q1)), .val (.ref b39), .unset] [(.int (1 : Int32))])) _
    refine XS.istore X47.here hx rfl (hb hby at_283) rfl (l' := #[.val (.long q0), .second, .val (.long q1), .second, .val (.int p2), .val (.long q3), .second, .val (.long q4), .second, .val (.long q5), .second, .val (.int (f0_8 p2)), .val (.long (f0_14 p2)), .second, .val (.long (f0_26 q0 p2)), .second, .val (.long ((f0_14 p2) - (f0_26 q0 p2))), .second, .val (.ref b1), .val (.double (own_rate (f0_26 q0 p2) ((f0_14 p2) - (f0_26 q0 p2)))), .second, .val (.int (1 : Int32)), .val (.ref b10), .val (.int (1 : Int32)), .val (.long (f0_124 q0)), .second, .val (.long (f0_133 q1)), .second, .val (.ref b19), .val (.double (own_rate (f0_124 q0) (f0_133 q1))), .second, .val (.int (f0_243 q0 q1)), .val (.ref b39), .val (.int (1 : Int32))]) rfl ?_
    show Steps p.tables e below (T47.setTop (mkF m 285 #[.val (.long q0), .second, .val (.long q1), .second, .val (.int p2), .val (.long q3), .second, .val (.long q4), .second, .val (.long q5), .second, .val (.int (f0_8 p2)), .val (.long (f0_14 p2)), .second, .val (.long (f0_26 q0 p2)), .second, .val (.long ((f0_14 p2) - (f0_26 q0 p2))), .second, .val (.ref b1), .val (.double (own_rate (f0_26 q0 p2) ((f0_14 p2) - (f0_26 q0 p2)))), .second, .val (.int (1 : Int32)), .val (.ref b10), .val (.int (1 : Int32)), .val (.long (f0_124 q0)), .second, .val (.long (f0_133 q1)), .second, .val (.ref b19), .val (.double (own_rate (f0_124 q0) (f0_133 q1))), .second, .val (.int (f0_243 q0 q1)), .val (.ref b39), .val (.int (1 : Int32))] [])) _
    refine XS.iload X47.here hx rfl (hb hby at_285) rfl ?_
    show Steps p.tables e below (T47.setTop (mkF m 287 #[.val (.long q0), .second, .val (.long q1), .second, .val (.int p2), .val (.long q3), .second, .val (.long q4), .second, .val (.long q5), .second, .val (.int (f0_8 p2)), .val (.long (f0_14 p2)), .second, .val (.long (f0_26 q0 p2)), .second, .val (.long ((f0_14 p2) - (f0_26 q0 p2))), .second, .val (.ref b1), .val (.double (own_rate (f0_26 q0 p2) ((f0_14 p2) - (f0_26 q0 p2)))), .second, .val (.int (1 : Int32)), .val (.ref b10), .val (.int (1 : Int32)), .val (.long (f0_124 q0)), .second, .val (.long (f0_133 q1)), .second, .val (.ref b19), .val (.double (own_rate (f0_124 q0) (f0_133 q1))), .second, .val (.int (f0_243 q0 q1)), .val (.ref b39), .val (.int (1 : Int32))] [(.int (1 : Int32))])) _
    refine XS.ifNo X47.here hx rfl (hb hby at_287) rfl ((if0 _ _).trans (feq (show ¬ ((1 : Int32) = (0 : Int32)) by decide)).1) ?_
    show Steps p.tables e below (T47.setTop (mkF m 290 #[.val (.long q0), .second, .val (.long q1), .second, .val (.int p2), .val (.long q3), .second, .val (.long q4), .second, .val (.long q5), .second, .val (.int (f0_8 p2)), .val (.long (f0_14 p2)), .second, .val (.long (f0_26 q0 p2)), .second, .val (.long ((f0_14 p2) - (f0_26 q0 p2))), .second, .val (.ref b1), .val (.double (own_rate (f0_26 q0 p2) ((f0_14 p2) - (f0_26 q0 p2)))), .second, .val (.int (1 : Int32)), .val (.ref b10), .val (.int (1 : Int32)), .val (.long (f0_124 q0)), .second, .val (.long (f0_133 q1)), .second, .val (.ref b19), .val (.double (own_rate (f0_124 q0) (f0_133 q1))), .second, .val (.int (f0_243 q0 q1)), .val (.ref b39), .val (.int (1 : Int32))] [])) _
    refine XS.iload X47.here hx rfl (hb hby at_290) rfl ?_
    show Steps p.tables e below (T47.setTop (mkF m 292 #[.val (.long q0), .second, .val (.long q1), .second, .val (.int p2), .val (.long q3), .second, .val (.long q4), .second, .val (.long q5), .second, .val (.int (f0_8 p2)), .val (.long (f0_14 p2)), .second, .val (.long (f0_26 q0 p2)), .second, .val (.long ((f0_14 p2) - (f0_26 q0 p2))), .second, .val (.ref b1), .val (.double (own_rate (f0_26 q0 p2) ((f0_14 p2) - (f0_26 q0 p2)))), .second, .val (.int (1 : Int32)), .val (.ref b10), .val (.int (1 : Int32)), .val (.long (f0_124 q0)), .second, .val (.long (f0_133 q1)), .second, .val (.ref b19), .val (.double (own_rate (f0_124 q0) (f0_133 q1))), .second, .val (.int (f0_243 q0 q1)), .val (.ref b39), .val (.int (1 : Int32))] [(.int (1 : Int32))])) _
    refine XS.ifNo X47.here hx rfl (hb hby at_292) rfl ((if0 _ _).trans (feq (show ¬ ((1 : Int32) = (0 : Int32)) by decide)).1) ?_
    show Steps p.tables e below (T47.setTop (mkF m 295 #[.val (.long q0), .second, .val (.long q1), .second, .val (.int p2), .val (.long q3), .second, .val (.long q4), .second, .val (.long q5), .second, .val (.int (f0_8 p2)), .val (.long (f0_14 p2)), .second, .val (.long (f0_26 q0 p2)), .second, .val (.long ((f0_14 p2) - (f0_26 q0 p2))), .second, .val (.ref b1), .val (.double (own_rate (f0_26 q0 p2) ((f0_14 p2) - (f0_26 q0 p2)))), .second, .val (.int (1 : Int32)), .val (.ref b10), .val (.int (1 : Int32)), .val (.long (f0_124 q0)), .second, .val (.long (f0_133 q1)), .second, .val (.ref b19), .val (.double (own_rate (f0_124 q0) (f0_133 q1))), .second, .val (.int (f0_243 q0 q1)), .val (.ref b39), .val (.int (1 : Int32))] [])) _
    refine XS.iload X47.here hx rfl (hb hby at_295) rfl ?_
    show Steps p.tables e below (T47.setTop (mkF m 297 #[.val (.long q0), .second, .val (.long q1), .second, .val (.int p2), .val (.long q3), .second, .val (.long q4), .second, .val (.long q5), .second, .val (.int (f0_8 p2)), .val (.long (f0_14 p2)), .second, .val (.long (f0_26 q0 p2)), .second, .val (.long ((f0_14 p2) - (f0_26 q0 p2))), .second, .val (.ref b1), .val (.double (own_rate (f0_26 q0 p2) ((f0_14 p2) - (f0_26 q0 p2)))), .second, .val (.int (1 : Int32)), .val (.ref b10), .val (.int (1 : Int32)), .val (.long (f0_124 q0)), .second, .val (.long (f0_133 q1)), .second, .val (.ref b19), .val (.double (own_rate (f0_124 q0) (f0_133 q1))), .second, .val (.int (f0_243 q0 q1)), .val (.ref b39), .val (.int (1 : Int32))] [(.int (f0_243 q0 q1))])) _
    refine XS.ifNo X47.here hx rfl (hb hby at_297) rfl ((if0 _ _).trans (feq (show ¬ ((f0_243 q0 q1) = (0 : Int32)) from own_c297 q0 q1)).1) ?_
    show Steps p.tables e below (T47.setTop (mkF m 300 #[.val (.long q0), .second, .val (.long q1), .second, .val (.int p2), .val (.long q3), .second, .val (.long q4), .second, .val (.long q5), .second, .val (.int (f0_8 p2)), .val (.long (f0_14 p2)), .second, .val (.long (f0_26 q0 p2)), .second, .val (.long ((f0_14 p2) - (f0_26 q0 p2))), .second, .val (.ref b1), .val (.double (own_rate (f0_26 q0 p2) ((f0_14 p2) - (f0_26 q0 p2)))), .second, .val (.int (1 : Int32)), .val (.ref b10), .val (.int (1 : Int32)), .val (.long (f0_124 q0)), .second, .val (.long (f0_133 q1)), .second, .val (.ref b19), .val (.double (own_rate (f0_124 q0) (f0_133 q1))), .second, .val (.int (f0_243 q0 q1)), .val (.ref b39), .val (.int (1 : Int32))] [])) _
    refine XS.iload X47.here hx rfl (hb hby at_300) rfl ?_
    show Steps p.tables e below (T47.setTop (mkF m 302 #[.val (.long q0), .second, .val (.long q1), .second, .val (.int p2), .val (.long q3), .second, .val (.long q4), .second, .val (.long q5), .second, .val (.int (f0_8 p2)), .val (.long (f0_14 p2)), .second, .val (.long (f0_26 q0 p2)), .second, .val (.long ((f0_14 p2) - (f0_26 q0 p2))), .second, .val (.ref b1), .val (.double (own_rate (f0_26 q0 p2) ((f0_14 p2) - (f0_26 q0 p2)))), .second, .val (.int (1 : Int32)), .val (.ref b10), .val (.int (1 : Int32)), .val (.long (f0_124 q0)), .second, .val (.long (f0_133 q1)), .second, .val (.ref b19), .val (.double (own_rate (f0_124 q0) (f0_133 q1))), .second, .val (.int (f0_243 q0 q1)), .val (.ref b39), .val (.int (1 : Int32))] [(.int (1 : Int32))])) _
    refine XS.ifNo X47.here hx rfl (hb hby at_302) rfl ((if0 _ _).trans (feq (show ¬ ((1 : Int32) = (0 : Int32)) by decide)).1) ?_
    show Steps p.tables e below (T47.setTop (mkF m 305 #[.val (.long q0), .second, .val (.long q1), .second, .val (.int p2), .val (.long q3), .second, .val (.long q4), .second, .val (.long q5), .second, .val (.int (f0_8 p2)), .val (.long (f0_14 p2)), .second, .val (.long (f0_26 q0 p2)), .second, .val (.long ((f0_14 p2) - (f0_26 q0 p2))), .second, .val (.ref b1), .val (.double (own_rate (f0_26 q0 p2) ((f0_14 p2) - (f0_26 q0 p2)))), .second, .val (.int (1 : Int32)), .val (.ref b10), .val (.int (1 : Int32)), .val (.long (f0_124 q0)), .second, .val (.long (f0_133 q1)), .second, .val (.ref b19), .val (.double (own_rate (f0_124 q0) (f0_133 q1))), .second, .val (.int (f0_243 q0 q1)), .val (.ref b39), .val (.int (1 : Int32))] [])) _
    refine XS.iconst X47.here hx rfl (hb hby at_305) ?_
    show Steps p.tables e below (T47.setTop (mkF m 306 #[.val (.long q0), .second, .val (.long q1), .second, .val (.int p2), .val (.long q3), .second, .val (.long q4), .second, .val (.long q5), .second, .val (.int (f0_8 p2)), .val (.long (f0_14 p2)), .second, .val (.long (f0_26 q0 p2)), .second, .val (.long ((f0_14 p2) - (f0_26 q0 p2))), .second, .val (.ref b1), .val (.double (own_rate (f0_26 q0 p2) ((f0_14 p2) - (f0_26 q0 p2)))), .second, .val (.int (1 : Int32)), .val (.ref b10), .val (.int (1 : Int32)), .val (.long (f0_124 q0)), .second, .val (.long (f0_133 q1)), .second, .val (.ref b19), .val (.double (own_rate (f0_124 q0) (f0_133 q1))), .second, .val (.int (f0_243 q0 q1)), .val (.ref b39), .val (.int (1 : Int32))] [(.int (1 : Int32))])) _
    refine XS.goto X47.here hx rfl (pc0 := 306) (pc' := 310) rfl (hb hby at_306) (by decide) (by decide) ?_
    show Steps p.tables e below (T47.setTop (mkF m 310 #[.val (.long q0), .second, .val (.long q1), .second, .val (.int p2), .val (.long q3), .second, .val (.long q4), .second, .val (.long q5), .second, .val (.int (f0_8 p2)), .val (.long (f0_14 p2)), .second, .val (.long (f0_26 q0 p2)), .second, .val (.long ((f0_14 p2) - (f0_26 q0 p2))), .second, .val (.ref b1), .val (.double (own_rate (f0_26 q0 p2) ((f0_14 p2) - (f0_26 q0 p2)))), .second, .val (.int (1 : Int32)), .val (.ref b10), .val (.int (1 : Int32)), .val (.long (f0_124 q0)), .second, .val (.long (f0_133 q1)), .second, .val (.ref b19), .val (.double (own_rate (f0_124 q0) (f0_133 q1))), .second, .val (.int (f0_243 q0 q1)), .val (.ref b39), .val (.int (1 : Int32))] [(.int (1 : Int32))])) _
    exact k)
  obtain ⟨fs, hr, hrun, hended, hW, hsame⟩ := X47.leave (v := some (.int (1 : Int32))) (fun h => by rw [Bd.returns] at h; cases h)
  refine ⟨_, _, pre48 _ ?_, hrun, hended, _, _, rfl, ?_, ⟨_, rfl⟩, hW, hsame.mono (by decide) (by decide)⟩
  · exact retN X47 hx (t := .boolean) Bd.returns (by simp) (hb hby at_310) hr
  · show Q0 Z q0 q1 p2 q3 q4 q5 h0 n0 _ T47.heap _
    rw [hh47]
    exact ⟨rfl, N47⟩
set_option maxRecDepth 65536 in
set_option maxHeartbeats 40000000 in
theorem comes_1 {Post : Tables → Env → Array Value → State → Outcome → State → Prop} (hpost : ∀ tb e args s v u, (limb_1_1.after args s (.returned v) u = true ∧ limb_1_2.after args s (.returned v) u = true ∧ True) → FrameEnd s (.returned v) u (Jvm.fieldLocs frame_1_writes args s ++ Jvm.arrayLocs frame_1_arrays args s ++ Jvm.staticLocs frame_1_statics s) 16 128 → Post tb e args s (.returned v) u) :
    ArmFor flags0 classFile x code maxLocals ret World_1 tables_1 room_1 Calls_1 rest_1 Pre_1 Post := by
  intro l hfl _ _ p e ha hc hk s m args below hf hA hF happ hP
  obtain ⟨hcalls, hrest, hpre⟩ := hP
  obtain ⟨-, -, -, hnamed, -, -, -, hat⟩ := (Spec.applies_iff hf).mp happ
  obtain ⟨hg, hn⟩ := and_e (Cond.before_iff.mp (show (Jvm.Cond.and given_1 narrow_1).before args s = true from hpre))
  obtain ⟨h1, g0⟩ := and_e hg
  obtain ⟨u0, g1⟩ := and_e g0
  obtain ⟨u1, g2⟩ := and_e g1
  obtain ⟨u2, g3⟩ := and_e g2
  obtain ⟨u3, g4⟩ := and_e g3
  obtain ⟨u4, g5⟩ := and_e g4
  obtain ⟨w0, w1, w2, w3, w4, w5, rfl⟩ : ∃ w0 w1 w2 w3 w4 w5 : Value, args = #[w0, w1, w2, w3, w4, w5] := by
    have hs : args.size = 6 := by simpa [Cond.value, given_1] using h1
    obtain ⟨L⟩ := args
    match L, hs with
    | [w0, w1, w2, w3, w4, w5], _ => exact ⟨w0, w1, w2, w3, w4, w5, rfl⟩
  have hw := fun d (hd : d ∈ tables_1) => atoms_spec (ws := Jvm.Cond.code x code maxLocals ret :: tables_1) hat d (List.mem_cons_of_mem _ hd)
  have hfit : Fit s := fun {y c} hc i hi => by
    obtain ⟨ha, rfl⟩ := Array.getElem?_eq_some_iff.mp hc
    have q := List.all_eq_true.mp ((Array.all_eq_true_iff_forall_mem.mp hF) _ (Array.getElem_mem ha)) i (List.mem_range.mpr hi)
    simpa [Array.getElem?_eq_getElem hi] using q
  obtain ⟨i0, e0⟩ := isL_v u0
  obtain rfl : w0 = (.long i0) := Option.some.inj e0
  obtain ⟨i1, e1⟩ := isL_v u1
  obtain rfl : w1 = (.long i1) := Option.some.inj e1
  obtain ⟨i2, e2⟩ := is_v u2
  obtain rfl : w2 = (.int i2) := Option.some.inj e2
  obtain ⟨i3, e3⟩ := isL_v u3
  obtain rfl : w3 = (.long i3) := Option.some.inj e3
  obtain ⟨i4, e4⟩ := isL_v u4
  obtain rfl : w4 = (.long i4) := Option.some.inj e4
  obtain ⟨i5, e5⟩ := isL_v g5
  obtain rfl : w5 = (.long i5) := Option.some.inj e5
  obtain ⟨n, o, h1, h2, h3, _, L, rfl, ⟨rfl, N⟩, hq⟩ := rm0 l s _ hw tables_1 i0 i1 i2 i3 i4 i5  s.heap s.heap.size (Nat.le_refl _)  p e ha hc hk s m _ below hf ((Spec.applies_iff_loose hf).mp happ).1 ⟨rfl, State.Warmed39.refl s, rfl⟩ trivial
  refine ⟨n, _, h1, h2, h3, hpost _ _ _ _ _ _ ⟨Cond.after_iff.mpr rfl, Cond.after_iff.mpr (eq_i res_at (Term.int_eval (1)) rfl), trivial⟩ ⟨hq.1, hq.2.1, (hq.2.2.sift fun y hy => Or.inr (N y hy)).mono (by decide) (by decide)⟩⟩
theorem main_1_1 : Claimed_1_1 := comes_1 fun _ _ _ _ _ _ h hF => ⟨h.1, hF⟩
theorem main_1_2 : Claimed_1_2 := comes_1 fun _ _ _ _ _ _ h hF => ⟨h.2.1, hF⟩
end Jvm.Pilot.@@N@@
namespace Jvm.Pilot.@@N@@
open Jvm Jvm.ClassFile Sem Op Lib Jvm.Free Jvm.Stand Jvm.Pilot.@@N@@.Jvm.D
/-! MADE BY PROGRAM (witnessworld.py) out of the Statement's table words and the real class files: 10 classes; the members and pool entries that the words name. The judged class is class 1, her method 1. -/
namespace start1
open Jvm.ClassFile
def u (s : String) : CpInfo := .utf8 (stringToUtf16 s)
/-- a pool by its gaps: so many unusable entries, then the entry; so many at the end -/
def gap : Nat → List CpInfo → List CpInfo
  | 0, r => r
  | n + 1, r => .unusable :: gap n r
def poolList (es : List (Nat × CpInfo)) (last : Nat) : List CpInfo := es.foldr (fun e r => gap e.1 (e.2 :: r)) (gap last [])
def pool (es : List (Nat × CpInfo)) (last : Nat) : Array CpInfo := ⟨poolList es last⟩
def fileOf (pool : Array CpInfo) (this : Nat) (attrs : Array Attribute := #[]) (ms : Array MethodInfo := #[]) (fl : Nat := 33) (sup : Nat := 0) (ifs : Array Nat := #[]) (fds : Array FieldInfo := #[]) : ClassFile where
  minorVersion := 0
  majorVersion := 65
  constantPool := pool
  accessFlags := fl
  thisClass := this
  superClass := sup
  interfaces := ifs
  fields := fds
  methods := ms
  attributes := attrs
def plain (name : String) (sup : Option ClassId) : Class where
  name := name
  kind := .ordinary
  loader := none
  accessFlags := 33
  super := sup
  interfaces := #[]
  cf := none
  fields := #[]
  methods := #[]
  instanceTypes := #[]
  staticTypes := #[]
  resolved := #[]
  callSites := []
  init := .initialized
  statics := none
  mirror := none

def pool0 : Array CpInfo := pool [(5, u "<init>"), (0, u "()V"), (1, .class_ 10), (1, u "java/lang/Object")] 113

def k0c0 : Code := { maxStack := 0, maxLocals := 1, code := object_method_1_code, exceptionTable := #[], attributes := #[] }
def k0m0 : Method := { name := "<init>", desc := "()V", sig := { parameters := [], returnType := none }, accessFlags := 1, code := some k0c0 }
/-- java/lang/Object -/
def k0 : Class := { plain "java/lang/Object" none with
  accessFlags := 33
  interfaces := #[]
  cf := some (fileOf pool0 8 #[] #[{ accessFlags := 1, nameIndex := 5, descriptorIndex := 6, attributes := #[] }] 33 0 #[] #[])
  fields := #[]
  methods := #[k0m0]
  instanceTypes := #[]
  staticTypes := #[]
  resolved := Array.replicate 124 none
  statics := none }

def pool1 : Array CpInfo := pool [(2, .class_ 4), (1, u "java/lang/Object"), (0, u "<init>"), (0, u "()V"), (0, .integer 2147483647), (2, .long 9223372036854775807), (1, .class_ 13), (0, u "com/example/sketchgate/sketchgate/model/CacheStats"), (0, .methodref 12 15), (0, .nameAndType 5 16), (0, u "(JJJJJJ)V"), (0, .methodref 12 18), (0, .nameAndType 19 20), (0, u "hitRate"), (0, u "()D"), (0, .class_ 22), (0, u "com/example/sketchgate/sketchgate/model/CacheStatsHitRatePinLaw"), (2, u "law"), (0, u "(JJIJJJ)Z")] 3

def k1m0 : Method := { name := "<init>", desc := "()V", sig := { parameters := [], returnType := none }, accessFlags := 1, code := none }
def k1c1 : Code := { maxStack := 14, maxLocals := 34, code := code, exceptionTable := #[], attributes := #[] }
def k1m1 : Method := { name := "law", desc := "(JJIJJJ)Z", sig := { parameters := [.long, .long, .int, .long, .long, .long], returnType := some .boolean }, accessFlags := 9, code := some k1c1 }
/-- com/example/sketchgate/sketchgate/model/CacheStatsHitRatePinLaw -/
def k1 : Class := { plain "com/example/sketchgate/sketchgate/model/CacheStatsHitRatePinLaw" (some 0) with
  accessFlags := 49
  interfaces := #[]
  cf := some (fileOf pool1 21 #[] #[{ accessFlags := 1, nameIndex := 5, descriptorIndex := 6, attributes := #[] }, { accessFlags := 9, nameIndex := 25, descriptorIndex := 26, attributes := #[] }] 49 2 #[] #[])
  fields := #[]
  methods := #[k1m0, k1m1]
  instanceTypes := #[]
  staticTypes := #[]
  resolved := Array.replicate 30 none
  statics := none }

def pool2 : Array CpInfo := pool [(1, .methodref 2 3), (0, .class_ 4), (0, .nameAndType 5 6), (0, u "java/lang/Object"), (0, u "<init>"), (0, u "()V"), (0, .class_ 8), (0, u "java/lang/Record")] 13

def k2c0 : Code := { maxStack := 1, maxLocals := 1, code := jdk_30_method_1_code, exceptionTable := #[], attributes := #[] }
def k2m0 : Method := { name := "<init>", desc := "()V", sig := { parameters := [], returnType := none }, accessFlags := 4, code := some k2c0 }
/-- java/lang/Record -/
def k2 : Class := { plain "java/lang/Record" (some 0) with
  accessFlags := 1057
  interfaces := #[]
  cf := some (fileOf pool2 7 #[] #[{ accessFlags := 4, nameIndex := 5, descriptorIndex := 6, attributes := #[] }] 1057 2 #[] #[])
  fields := #[]
  methods := #[k2m0]
  instanceTypes := #[]
  staticTypes := #[]
  resolved := Array.replicate 22 none
  statics := none }

def pool3 : Array CpInfo := pool [(1, .methodref 2 3), (0, .class_ 4), (0, .nameAndType 5 6), (0, u "java/lang/Record"), (0, u "<init>"), (0, u "()V"), (0, .fieldref 8 9), (0, .class_ 10), (0, .nameAndType 11 12), (0, u "com/example/sketchgate/sketchgate/model/CacheStats"), (0, u "hitCount"), (0, u "J"), (0, .fieldref 8 14), (0, .nameAndType 15 12), (0, u "missCount"), (0, .fieldref 8 17), (0, .nameAndType 18 12), (0, u "loadSuccessCount"), (0, .fieldref 8 20), (0, .nameAndType 21 12), (0, u "loadFailureCount"), (0, .fieldref 8 23), (0, .nameAndType 24 12), (0, u "totalLoadTime"), (0, .fieldref 8 26), (0, .nameAndType 27 12), (0, u "evictionCount"), (0, .methodref 8 29), (0, .nameAndType 30 31), (0, u "requestCount"), (0, u "()J"), (12, u "(JJJJJJ)V"), (3, u "hitRate"), (0, u "()D")] 29

def k3c0 : Code := { maxStack := 3, maxLocals := 13, code := prog_9_method_1_code, exceptionTable := #[], attributes := #[] }
def k3m0 : Method := { name := "<init>", desc := "(JJJJJJ)V", sig := { parameters := [.long, .long, .long, .long, .long, .long], returnType := none }, accessFlags := 1, code := some k3c0 }
def k3c1 : Code := { maxStack := 4, maxLocals := 1, code := prog_9_method_2_code, exceptionTable := #[], attributes := #[] }
def k3m1 : Method := { name := "requestCount", desc := "()J", sig := { parameters := [], returnType := some .long }, accessFlags := 1, code := some k3c1 }
def k3c2 : Code := { maxStack := 4, maxLocals := 3, code := prog_9_method_3_code, exceptionTable := #[], attributes := #[] }
def k3m2 : Method := { name := "hitRate", desc := "()D", sig := { parameters := [], returnType := some .double }, accessFlags := 1, code := some k3c2 }
/-- com/example/sketchgate/sketchgate/model/CacheStats -/
def k3 : Class := { plain "com/example/sketchgate/sketchgate/model/CacheStats" (some 2) with
  accessFlags := 49
  interfaces := #[]
  cf := some (fileOf pool3 8 #[] #[{ accessFlags := 1, nameIndex := 5, descriptorIndex := 44, attributes := #[] }, { accessFlags := 1, nameIndex := 30, descriptorIndex := 31, attributes := #[] }, { accessFlags := 1, nameIndex := 48, descriptorIndex := 49, attributes := #[] }] 49 2 #[] #[{ accessFlags := 18, nameIndex := 11, descriptorIndex := 12, attributes := #[] }, { accessFlags := 18, nameIndex := 15, descriptorIndex := 12, attributes := #[] }, { accessFlags := 18, nameIndex := 18, descriptorIndex := 12, attributes := #[] }, { accessFlags := 18, nameIndex := 21, descriptorIndex := 12, attributes := #[] }, { accessFlags := 18, nameIndex := 24, descriptorIndex := 12, attributes := #[] }, { accessFlags := 18, nameIndex := 27, descriptorIndex := 12, attributes := #[] }])
  fields := #[{ name := "hitCount", type := .long, accessFlags := 18, slot := 0, constantValue := 0 }, { name := "missCount", type := .long, accessFlags := 18, slot := 1, constantValue := 0 }, { name := "loadSuccessCount", type := .long, accessFlags := 18, slot := 2, constantValue := 0 }, { name := "loadFailureCount", type := .long, accessFlags := 18, slot := 3, constantValue := 0 }, { name := "totalLoadTime", type := .long, accessFlags := 18, slot := 4, constantValue := 0 }, { name := "evictionCount", type := .long, accessFlags := 18, slot := 5, constantValue := 0 }]
  methods := #[k3m0, k3m1, k3m2]
  instanceTypes := #[.long, .long, .long, .long, .long, .long]
  staticTypes := #[]
  resolved := Array.replicate 79 none
  statics := none }

def pool4 : Array CpInfo := pool [(1, u "java/lang/Cloneable"), (0, .class_ 1), (0, u "java/lang/Object"), (0, .class_ 3)] 3

/-- java/lang/Cloneable -/
def k4 : Class := { plain "java/lang/Cloneable" (some 0) with
  accessFlags := 1537
  interfaces := #[]
  cf := some (fileOf pool4 2 #[] #[] 1537 4 #[] #[])
  fields := #[]
  methods := #[]
  instanceTypes := #[]
  staticTypes := #[]
  resolved := Array.replicate 8 none
  statics := none }

def pool5 : Array CpInfo := pool [(1, u "java/io/Serializable"), (0, .class_ 1), (0, u "java/lang/Object"), (0, .class_ 3)] 3

/-- java/io/Serializable -/
def k5 : Class := { plain "java/io/Serializable" (some 0) with
  accessFlags := 1537
  interfaces := #[]
  cf := some (fileOf pool5 2 #[] #[] 1537 4 #[] #[])
  fields := #[]
  methods := #[]
  instanceTypes := #[]
  staticTypes := #[]
  resolved := Array.replicate 8 none
  statics := none }

/-- the primitive byte -/
def k6 : Class := { plain "byte" none with kind := .primitive 'B', accessFlags := 0x411 }
/-- [B -/
def k7 : Class := { plain "[B" (some 0) with kind := .array 6 .byte, interfaces := #[4, 5], accessFlags := 1041 }

/-- the primitive int -/
def k8 : Class := { plain "int" none with kind := .primitive 'I', accessFlags := 0x411 }
/-- [I -/
def k9 : Class := { plain "[I" (some 0) with kind := .array 8 .int, interfaces := #[4, 5], accessFlags := 1041 }

def heap : Heap := #[]
def classes : Array Class := #[k0, k1, k2, k3, k4, k5, k6, k7, k8, k9]
def interned : List (Array UInt16 × Addr) := []
def slotsUsed : Nat := 0
def theMethod : MethodId := ⟨1, 1⟩
def args0 : Array Value := #[.long 5, .long 7, .int 3, .long 1, .long 2, .long 3]
def aboutOver (below : List Frame) : State where
  vm := { classes := classes, interned := interned.toArray }
  heap := heap
  slotsUsed := slotsUsed
  threads := #[{ frames := .invoking theMethod args0 :: below }]
def below0 : List Frame := [.native { method := ⟨0, 0⟩, args := #[] }]
def about1 : State := aboutOver below0
def p0 : Program := .bare "" "" ""
def e0 : Env := launch0.env 0 0 0
theorem w_frames : about1.frames = Frame.invoking theMethod args0 :: below0 := rfl
set_option maxRecDepth 65536 in
theorem w_args : argsFit about1.vm theMethod args0 = true := by decide +kernel
set_option maxRecDepth 65536 in
theorem w_heap : heapFits about1 = true := by decide +kernel
set_option maxRecDepth 65536 in
theorem w_runnable : about1.curStatus? = some .runnable := by decide +kernel
set_option maxRecDepth 65536 in
theorem w_alone : about1.alone = true := by decide +kernel
set_option maxRecDepth 65536 in
theorem w_named : about1.methodNamed? x = some theMethod := by decide +kernel
set_option maxRecDepth 65536 in
theorem w_hears : about1.hears theMethod below0 = true := by decide +kernel
set_option maxRecDepth 65536 in
theorem w_ripe : about1.ripe theMethod args0 below0 = true := by decide +kernel
theorem w_running : about1.status = .running := rfl
set_option maxRecDepth 65536 in
theorem w_room : about1.hasRoom e0.platform room_1 = true :=
  launch0.hasRoom_least _ room_1 (by decide +kernel) (by decide +kernel) (by decide +kernel) (by decide +kernel) (by decide +kernel) (by decide +kernel)
theorem allAtoms_all (ts : List Jvm.Cond) (a : Array Jvm.Value) (st : Jvm.State) : (allAtoms ts).before a st = ts.all (fun c => c.before a st) := by
  induction ts with
  | nil => rfl
  | cons c t ih =>
    show (Jvm.Cond.and c (allAtoms t)).before a st = _
    rw [Jvm.Cond.before_and, ih, List.all_cons]
def words1 : List Jvm.Cond := Jvm.Cond.code x code maxLocals ret :: tables_1
/-- a 'code' word, met by the world's own term for the bytes: nothing is compared byte by byte -/
theorem code_word {y : MethodName} {bytes : ByteArray} {mx : Nat} {rt : Option FieldType} {a : Array Value} {s : State} {m : MethodId} {meth : Method} {c : Code} (h1 : s.methodNamed? y = some m) (h2 : s.vm.method? m = some meth) (h3 : meth.code = some c) (h4 : c.code = bytes)
    (h5 : (c.maxLocals == mx && c.exceptionTable.isEmpty && decide (c.maxStack ≤ mostOperands) && decide (meth.sig.returnType = rt) && !meth.locks && decide (parseMethodDescriptor y.desc = some meth.sig)) = true) : (Jvm.Cond.code y bytes mx rt).before a s = true := by
  simp only [Bool.and_eq_true, beq_iff_eq, Bool.not_eq_true', decide_eq_true_eq] at h5
  obtain ⟨⟨⟨⟨⟨g1, g2⟩, g3⟩, g4⟩, g5⟩, g6⟩ := h5
  simp [Cond.before, Cond.holds, Cond.value, h1, h2, h3, h4, g1, g2, g3, g4, g5, g6]
def isCode : Jvm.Cond → Bool
  | .code _ _ _ _ => true
  | _ => false
theorem all_split {L : List Jvm.Cond} {P : Jvm.Cond → Bool} (h1 : L.all (fun c => isCode c || P c) = true) (h2 : ∀ c ∈ L.filter isCode, P c = true) : L.all P = true := by
  refine List.all_eq_true.mpr fun c hc => ?_
  have h := List.all_eq_true.mp h1 c hc
  rcases Bool.eq_false_or_eq_true (isCode c) with hi | hi
  · exact h2 c (List.mem_filter.mpr ⟨hc, hi⟩)
  · simpa [hi] using h
set_option maxRecDepth 65536 in
theorem w_c0 : (Jvm.Cond.code x code maxLocals ret).before args0 about1 = true := code_word (m := ⟨1, 1⟩) (meth := k1m1) (c := k1c1) (by decide +kernel) rfl rfl rfl (by decide +kernel)
set_option maxRecDepth 65536 in
theorem w_c1 : (Jvm.Cond.code ({ cls := "com/example/sketchgate/sketchgate/model/CacheStats", name := "<init>", desc := "(JJJJJJ)V" } : Jvm.MethodName) prog_9_method_1_code (13 : Nat) (Option.none : Option Jvm.ClassFile.FieldType)).before args0 about1 = true := code_word (m := ⟨3, 0⟩) (meth := k3m0) (c := k3c0) (by decide +kernel) rfl rfl rfl (by decide +kernel)
set_option maxRecDepth 65536 in
theorem w_c2 : (Jvm.Cond.code ({ cls := "java/lang/Record", name := "<init>", desc := "()V" } : Jvm.MethodName) jdk_30_method_1_code (1 : Nat) (Option.none : Option Jvm.ClassFile.FieldType)).before args0 about1 = true := code_word (m := ⟨2, 0⟩) (meth := k2m0) (c := k2c0) (by decide +kernel) rfl rfl rfl (by decide +kernel)
set_option maxRecDepth 65536 in
theorem w_c3 : (Jvm.Cond.code ({ cls := "java/lang/Object", name := "<init>", desc := "()V" } : Jvm.MethodName) object_method_1_code (1 : Nat) (Option.none : Option Jvm.ClassFile.FieldType)).before args0 about1 = true := code_word (m := ⟨0, 0⟩) (meth := k0m0) (c := k0c0) (by decide +kernel) rfl rfl rfl (by decide +kernel)
set_option maxRecDepth 65536 in
theorem w_c4 : (Jvm.Cond.code ({ cls := "com/example/sketchgate/sketchgate/model/CacheStats", name := "hitRate", desc := "()D" } : Jvm.MethodName) prog_9_method_3_code (3 : Nat) (Option.some Jvm.ClassFile.FieldType.double)).before args0 about1 = true := code_word (m := ⟨3, 2⟩) (meth := k3m2) (c := k3c2) (by decide +kernel) rfl rfl rfl (by decide +kernel)
set_option maxRecDepth 65536 in
theorem w_c5 : (Jvm.Cond.code ({ cls := "com/example/sketchgate/sketchgate/model/CacheStats", name := "requestCount", desc := "()J" } : Jvm.MethodName) prog_9_method_2_code (1 : Nat) (Option.some Jvm.ClassFile.FieldType.long)).before args0 about1 = true := code_word (m := ⟨3, 1⟩) (meth := k3m1) (c := k3c1) (by decide +kernel) rfl rfl rfl (by decide +kernel)
def codes1 : List Jvm.Cond := [Jvm.Cond.code x code maxLocals ret, Jvm.Cond.code ({ cls := "com/example/sketchgate/sketchgate/model/CacheStats", name := "<init>", desc := "(JJJJJJ)V" } : Jvm.MethodName) prog_9_method_1_code (13 : Nat) (Option.none : Option Jvm.ClassFile.FieldType), Jvm.Cond.code ({ cls := "java/lang/Record", name := "<init>", desc := "()V" } : Jvm.MethodName) jdk_30_method_1_code (1 : Nat) (Option.none : Option Jvm.ClassFile.FieldType), Jvm.Cond.code ({ cls := "java/lang/Object", name := "<init>", desc := "()V" } : Jvm.MethodName) object_method_1_code (1 : Nat) (Option.none : Option Jvm.ClassFile.FieldType), Jvm.Cond.code ({ cls := "com/example/sketchgate/sketchgate/model/CacheStats", name := "hitRate", desc := "()D" } : Jvm.MethodName) prog_9_method_3_code (3 : Nat) (Option.some Jvm.ClassFile.FieldType.double), Jvm.Cond.code ({ cls := "com/example/sketchgate/sketchgate/model/CacheStats", name := "requestCount", desc := "()J" } : Jvm.MethodName) prog_9_method_2_code (1 : Nat) (Option.some Jvm.ClassFile.FieldType.long)]
set_option maxRecDepth 65536 in
theorem codes_eq : words1.filter isCode = codes1 := rfl
theorem w_codes : ∀ c ∈ words1.filter isCode, c.before args0 about1 = true := by
  rw [codes_eq]
  intro c hc
  simp only [codes1, List.mem_cons, List.not_mem_nil, or_false] at hc
  rcases hc with rfl | rfl | rfl | rfl | rfl | rfl
  · exact w_c0
  · exact w_c1
  · exact w_c2
  · exact w_c3
  · exact w_c4
  · exact w_c5
set_option maxRecDepth 65536 in
theorem w_t1 : (words1.take 24).all (fun c => isCode c || c.before args0 about1) = true := by decide +kernel
set_option maxRecDepth 65536 in
theorem w_t2 : (words1.drop 24).all (fun c => isCode c || c.before args0 about1) = true := by decide +kernel
theorem w_tables : (allAtoms (Jvm.Cond.code x code maxLocals ret :: tables_1)).before args0 about1 = true := by
  rw [allAtoms_all]
  show words1.all (fun c => c.before args0 about1) = true
  refine all_split ?_ w_codes
  rw [← List.take_append_drop 24 words1, List.all_append, w_t1, w_t2]
  rfl
set_option maxRecDepth 65536 in
theorem w_case : (Jvm.Cond.and given_1 narrow_1).before args0 about1 = true := by decide +kernel
theorem w_applies : (headSpec (Jvm.Cond.code x code maxLocals ret :: tables_1) room_1).applies x e0.platform about1 = true :=
  (Spec.applies_iff w_frames).mpr ⟨w_running, w_runnable, w_alone, w_named, w_hears, w_ripe, w_room, w_tables⟩
theorem atStart : AtStart classFile x code maxLocals ret World_1 tables_1 room_1 Calls_1 rest_1 Pre_1 launch0 p0 e0 about1 theMethod args0 below0 :=
  ⟨lists_1, trivial, launch0.admits_env _ _ _, launch0.least_env, fairChoices_fair.cas, fairChoices_fair.clock, w_frames, w_args, w_heap, w_applies, trivial, trivial, w_case⟩
end start1
theorem witness_1 : WitnessClaimed_1 := ⟨start1.p0, start1.e0, start1.about1, start1.theMethod, start1.args0, start1.below0, start1.atStart⟩
end Jvm.Pilot.@@N@@
