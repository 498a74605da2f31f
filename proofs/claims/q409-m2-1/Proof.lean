import JvmDerived
import JvmDerived.Pilot.@@N@@Statement
import JvmDerived.Pilot.@@N@@Code
set_option linter.unusedVariables false
set_option linter.unusedSimpArgs false
namespace Jvm.RoadKit
open Sem ClassFile Op Lib Jvm.Stand Jvm.Free Jvm.LawKit
section New
variable {p : Program} {l : Launch} {e : Env} {R : Room} {s : State} {m : MethodId} {args : Array Value} {below : List Frame} {meth : Method} {c : Code} {T : State} {locs : List Loc} {cells slots : Nat}
theorem retI (X : Stand p l e R s m args below meth c T locs cells slots) (hx : p.tables.exec = Jvm.exec) {pc : Nat} {Ls : Array Slot} {z : Int32} {rest : List Value} (hret : meth.sig.returnType = some .int) (hd : decode c.code pc = .ok (.ireturn, 1)) {fs : List Frame}
    (hl : ∀ (f : JFrame) (acts : List Action), f.method = m → f.locked = none → f.entered = [] → (doReturn e (T.setTop f) acts (some (.int z))).1 = T.setFrames fs) : Steps p.tables e below (T.setTop (mkF m pc Ls (.int z :: rest))) (T.setFrames fs) := by
  have hm' : T.vm.method? m = some meth := X.method'
  have hn : narrow .int (.int z) = .int z := rfl
  show Steps p.tables e below (T.setTop { method := m, pc := pc, locals := Ls, stack := _ :: rest, locked := none }) _
  jvm_step X.here [X.here.top, hx, hd, hm', hret, hn]
  first | (intro acts; rw [hl _ acts rfl rfl rfl]) | rw [hl _ _ rfl rfl rfl]
  exact Steps.refl _
end New
end Jvm.RoadKit
namespace Jvm.Pilot.@@N@@
open Jvm Jvm.ClassFile Sem Op Lib Jvm.Free Jvm.Stand Jvm.LawKit Jvm.RoadKit Bundle Jvm.Pilot.@@N@@.Jvm.D
theorem own_selp {s : State} {args : Array Value} {y : MethodName} {n : Nat} (wi : (Jvm.Cond.instantiable y.cls n).before args s = true) (hp : s.PrivateAt y) (hi : (Jvm.Cond.instanceMethod y).before args s = true) (hy : y.cls ≠ "java/lang/invoke/MethodHandle" ∧ y.cls ≠ "java/lang/invoke/VarHandle") : (Jvm.Cond.selects y.cls y y).before args s = true := by
  obtain ⟨c, k, h1, h2, h3, h4, -⟩ := Cond.instantiable_spec wi
  exact selects_self_of_private h1 h2 (Bool.or_eq_false_iff.mp h4).1 hp hi hy
theorem own_cat {v : Value} (h : v.isRef = true) : v.category = 1 := by rcases ref_cases h with rfl | ⟨_, rfl⟩ <;> rfl
theorem own_ltL {x y : Int64} (h : x < y) : ifCond.holds .lt (lcmpW x y) = true ∧ ifCond.holds .ge (lcmpW x y) = false ∧ ifCond.holds .gt (lcmpW y x) = true ∧ ifCond.holds .le (lcmpW y x) = false :=
  ⟨(if0 _ _).trans (tlt ((lw_lt x y).mpr h)).1, (if0 _ _).trans (tlt ((lw_lt x y).mpr h)).2.1, (if0 _ _).trans (tlt ((lw_gt y x).mpr h)).2.2.1, (if0 _ _).trans (tlt ((lw_gt y x).mpr h)).2.2.2⟩
theorem own_fltL {x y : Int64} (h : ¬ x < y) : ifCond.holds .lt (lcmpW x y) = false ∧ ifCond.holds .ge (lcmpW x y) = true ∧ ifCond.holds .gt (lcmpW y x) = false ∧ ifCond.holds .le (lcmpW y x) = true :=
  ⟨(if0 _ _).trans (flt (fun q => h ((lw_lt x y).mp q))).1, (if0 _ _).trans (flt (fun q => h ((lw_lt x y).mp q))).2.1, (if0 _ _).trans (flt (fun q => h ((lw_gt y x).mp q))).2.2.1, (if0 _ _).trans (flt (fun q => h ((lw_gt y x).mp q))).2.2.2⟩
theorem own_eqL {x y : Int64} (h : x = y) : ifCond.holds .eq (lcmpW x y) = true ∧ ifCond.holds .ne (lcmpW x y) = false :=
  ⟨(if0 _ _).trans (teq ((lw_eq x y).mpr h)).1, (if0 _ _).trans (teq ((lw_eq x y).mpr h)).2⟩
theorem own_neL {x y : Int64} (h : ¬ x = y) : ifCond.holds .eq (lcmpW x y) = false ∧ ifCond.holds .ne (lcmpW x y) = true :=
  ⟨(if0 _ _).trans (feq (fun q => h ((lw_eq x y).mp q))).1, (if0 _ _).trans (feq (fun q => h ((lw_eq x y).mp q))).2⟩

theorem own_fin {c : Int32} {N : Nat} (h0 : 0 ≤ c.toInt) (h1 : c.toInt < N) (hN : N ≤ 2147483648) : ∃ n : Fin N, c = n.1.toInt32 := by
  refine ⟨⟨c.toInt.toNat, by omega⟩, ?_⟩
  apply Int32.toInt_inj.mp
  rw [len_toInt (by show c.toInt.toNat < 2 ^ 31; omega)]
  show c.toInt = ((c.toInt.toNat : Nat) : Int)
  omega
theorem own_lt {x y : Int32} (h : x < y) : x.toInt < y.toInt := Int32.lt_iff_toInt_lt.mp h
theorem own_nlt' {x y : Int32} (h : ¬ x < y) : y.toInt ≤ x.toInt := by rw [Int32.lt_iff_toInt_lt] at h; omega
theorem own_nlt {x y : Int32} {k : Int} (h : k ≤ x.toInt) (hk : y.toInt ≤ k) : ¬ x < y := by rw [Int32.lt_iff_toInt_lt]; omega
theorem own_gt {x y : Int32} {k : Int} (h : k ≤ x.toInt) (hk : y.toInt < k) : y < x := by rw [Int32.lt_iff_toInt_lt]; omega
theorem own_ne {x y : Int32} {k : Int} (h : k ≤ x.toInt) (hk : y.toInt < k) : ¬ x = y := by rintro rfl; omega
theorem own_gtn {x y : Int32} {k : Int} (h : x.toInt < k) (hk : k ≤ y.toInt) : x < y := by rw [Int32.lt_iff_toInt_lt]; omega
theorem own_nel {x y : Int32} {k : Int} (h : x.toInt < k) (hk : k ≤ y.toInt) : ¬ x = y := by rintro rfl; omega
theorem own_lt' {x y : Int32} (h : x < y) : x.toInt + 1 ≤ y.toInt := by have := own_lt h; omega
theorem own_le' {x y : Int32} (h : ¬ y < x) : x.toInt < y.toInt + 1 := by have := own_nlt' h; omega

section own_fl
open Jvm.FP.Core

theorem own_zfin {f : Fmt} (s : Bool) (c : Nat) (q : Int) : zval f (.fin s c q) = signed s (inUnits c q f.qmin) := rfl

theorem own_mul_units {a b : UInt64} (ha : DFin a) (hb : DFin b) :
    ∃ s c e, val64 (dmul a b) = round b64 (.fin s c e) ∧ 2 * b64.qmin ≤ e ∧
      signed s (inUnits c e (2 * b64.qmin)) = zval b64 (val64 a) * zval b64 (val64 b) := by
  obtain ⟨s, c, q, ha⟩ := ha
  obtain ⟨t, d, r, hb⟩ := hb
  have fa := val64_fits a
  have fb := val64_fits b
  rw [ha] at fa
  rw [hb] at fb
  obtain ⟨e1, e2, e3⟩ := product_units fa fb
  refine ⟨s != t, c * d, q + r, ?_, e2, ?_⟩
  · rw [val64_dmul, ha, hb, e1]
  · rw [e3, signed_xor, ha, hb]; rfl

theorem own_two_qmin : 2 ^ (b64.qmin - 2 * b64.qmin).toNat = one64 := by
  rw [← pow_qmin64]; congr 2

theorem own_mul_le {a b : UInt64} {V : Datum} (ha : DFin a) (hb : DFin b) (hV : Jvm.FP.Core.fits b64 V) (hn : V ≠ .nan)
    (h : zval b64 (val64 a) * zval b64 (val64 b) ≤ zval b64 V * (one64 : Int)) :
    zval b64 (val64 (dmul a b)) ≤ zval b64 V := by
  obtain ⟨s, c, e, e1, e2, e3⟩ := own_mul_units ha hb
  rw [e1]
  refine zval_round_le good_b64 hV hn (e0 := 2 * b64.qmin) (by decide) e2 ?_
  rw [e3, own_two_qmin]; exact h

theorem own_mul_ge {a b : UInt64} {V : Datum} (ha : DFin a) (hb : DFin b) (hV : Jvm.FP.Core.fits b64 V) (hn : V ≠ .nan)
    (h : zval b64 V * (one64 : Int) ≤ zval b64 (val64 a) * zval b64 (val64 b)) :
    zval b64 V ≤ zval b64 (val64 (dmul a b)) := by
  obtain ⟨s, c, e, e1, e2, e3⟩ := own_mul_units ha hb
  rw [e1]
  refine zval_round_ge good_b64 hV hn (e0 := 2 * b64.qmin) (by decide) e2 ?_
  rw [e3, own_two_qmin]; exact h

theorem own_mul_eq {a b : UInt64} {V : Datum} (ha : DFin a) (hb : DFin b) (hV : Jvm.FP.Core.fits b64 V) (hn : V ≠ .nan)
    (h : zval b64 (val64 a) * zval b64 (val64 b) = zval b64 V * (one64 : Int)) :
    zval b64 (val64 (dmul a b)) = zval b64 V :=
  Int.le_antisymm (own_mul_le ha hb hV hn (by omega)) (own_mul_ge ha hb hV hn (by omega))

theorem own_mul_nn {a b : UInt64} (ha : DFin a) (hb : DFin b) : val64 (dmul a b) ≠ .nan := by
  obtain ⟨s, c, e, e1, e2, e3⟩ := own_mul_units ha hb
  rw [e1]; exact roundRatio_ne_nan b64 s c 1 e

/-- A product that does not go beyond finite bounds is finite. -/
theorem own_fin_of {a : UInt64} (hn : val64 a ≠ .nan) (h : zmag b64 (val64 a) < b64.tails * 2 ^ (b64.exps - 2)) : DFin a := by
  cases hd : val64 a with
  | nan => exact absurd hd hn
  | inf s => rw [hd] at h; exact absurd h (Nat.lt_irrefl _)
  | fin s c q => exact ⟨s, c, q, hd⟩

theorem own_div_rr {a b : UInt64} (ha : DFin a) (hb : DFin b) (pb : zmag b64 (val64 b) ≠ 0) :
    val64 (ddiv a b) = roundRatio b64 (sgn (val64 a) != sgn (val64 b)) (zmag b64 (val64 a)) (zmag b64 (val64 b)) 0 := by
  obtain ⟨s, c, q, ha⟩ := ha
  obtain ⟨t, d, r, hb⟩ := hb
  have fa := (val64_fits a)
  have fb := (val64_fits b)
  rw [ha] at fa
  rw [hb] at fb
  have fa := fa.2.1
  have fb := fb.2.1
  rw [hb] at pb
  rw [val64_ddiv, ha, hb]
  change inUnits d r b64.qmin ≠ 0 at pb
  have hd : d ≠ 0 := by
    rintro rfl
    exact pb (Nat.zero_mul _)
  have e : quotient b64 (.fin s c q) (.fin t d r) = roundRatio b64 (s != t) c d (q - r) := by
    show (if d = 0 then _ else _) = _
    rw [if_neg hd]
  rw [e]
  refine roundRatio_congr (Nat.pos_of_ne_zero hd) (Nat.pos_of_ne_zero pb) ?_
  show c * inUnits d r b64.qmin * 2 ^ (q - r - 0).toNat = inUnits c q b64.qmin * d * 2 ^ (0 - (q - r)).toNat
  unfold inUnits
  have e : (r - b64.qmin).toNat + (q - r - 0).toNat = (q - b64.qmin).toNat + (0 - (q - r)).toNat := by omega
  calc c * (d * 2 ^ (r - b64.qmin).toNat) * 2 ^ (q - r - 0).toNat
      = c * d * (2 ^ (r - b64.qmin).toNat * 2 ^ (q - r - 0).toNat) := by ac_rfl
    _ = c * d * (2 ^ (q - b64.qmin).toNat * 2 ^ (0 - (q - r)).toNat) := by rw [← Nat.pow_add, e, Nat.pow_add]
    _ = c * 2 ^ (q - b64.qmin).toNat * d * 2 ^ (0 - (q - r)).toNat := by ac_rfl

theorem own_rr_le {s : Bool} {A B : Nat} {V : Datum} (hB : 0 < B) (hV : Jvm.FP.Core.fits b64 V) (hn : V ≠ .nan)
    (h : A * one64 ≤ zmag b64 V * B) : zmag b64 (roundRatio b64 s A B 0) ≤ zmag b64 V := by
  refine zmag_roundRatio_le good_b64 hB hV hn (Int.le_refl _) (by decide) ?_
  rw [Int.sub_self, show (0 : Int).toNat = 0 from rfl, Nat.pow_zero, Nat.mul_one]
  unfold inUnits
  rw [Int.zero_sub, pow_qmin64]; exact h

theorem own_rr_ge {s : Bool} {A B : Nat} {V : Datum} (hB : 0 < B) (hV : Jvm.FP.Core.fits b64 V)
    (h : zmag b64 V * B ≤ A * one64) : zmag b64 V ≤ zmag b64 (roundRatio b64 s A B 0) := by
  refine zmag_roundRatio_ge good_b64 hB hV (Int.le_refl _) (by decide) ?_
  rw [Int.sub_self, show (0 : Int).toNat = 0 from rfl, Nat.pow_zero, Nat.mul_one]
  unfold inUnits
  rw [Int.zero_sub, pow_qmin64]; exact h

theorem own_mono_nat {a b a' b' x y : Nat} (hb : 0 < b) (hb' : 0 < b') (h : a * b' ≤ a' * b)
    (h1 : y * b < a) (h2 : a' < x * b')
    (d1 : ((a : Int) - (x : Int) * b).natAbs ≤ ((a : Int) - (y : Int) * b).natAbs)
    (d2 : ((a' : Int) - (y : Int) * b').natAbs ≤ ((a' : Int) - (x : Int) * b').natAbs) : a * b' = a' * b := by
  have l1 : a < x * b := by
    refine Nat.lt_of_mul_lt_mul_right (a := b') ?_
    calc a * b' ≤ a' * b := h
      _ < x * b' * b := Nat.mul_lt_mul_of_pos_right h2 hb
      _ = x * b * b' := by ac_rfl
  have l2 : y * b' < a' := by
    refine Nat.lt_of_mul_lt_mul_right (a := b) ?_
    calc y * b' * b = y * b * b' := by ac_rfl
      _ < a * b' := Nat.mul_lt_mul_of_pos_right h1 hb'
      _ ≤ a' * b := h
  have m1 : x * b + y * b ≤ 2 * a := by
    rw [← Int.natCast_mul, ← Int.natCast_mul] at d1
    omega
  have m2 : 2 * a' ≤ x * b' + y * b' := by
    rw [← Int.natCast_mul, ← Int.natCast_mul] at d2
    omega
  have m3 : 2 * a' * b ≤ (x * b' + y * b') * b := Nat.mul_le_mul_right _ m2
  have m4 : (x * b + y * b) * b' ≤ 2 * a * b' := Nat.mul_le_mul_right _ m1
  have m5 : (x * b' + y * b') * b = (x * b + y * b) * b' := by
    rw [Nat.add_mul, Nat.add_mul]; congr 1 <;> ac_rfl
  rw [Nat.mul_assoc] at m3 m4
  omega

theorem own_rr_mono {s : Bool} {A B A' B' c c' : Nat} {q q' : Int} (hB : 0 < B) (hB' : 0 < B')
    (hx : roundRatio b64 s A B 0 = .fin s c q) (hy : roundRatio b64 s A' B' 0 = .fin s c' q')
    (h : A * B' ≤ A' * B) : zmag b64 (roundRatio b64 s A B 0) ≤ zmag b64 (roundRatio b64 s A' B' 0) := by
  refine Nat.le_of_not_lt fun hlt => ?_
  have fx := roundRatio_fits good_b64 s A hB 0
  have fy := roundRatio_fits good_b64 s A' hB' 0
  have h1 : zmag b64 (roundRatio b64 s A' B' 0) * B < A * one64 := Nat.lt_of_not_le fun hle =>
    Nat.lt_irrefl _ (Nat.lt_of_lt_of_le hlt (own_rr_le hB fy (by rw [hy]; exact Datum.noConfusion) hle))
  have h2 : A' * one64 < zmag b64 (roundRatio b64 s A B 0) * B' := Nat.lt_of_not_le fun hle =>
    Nat.lt_irrefl _ (Nat.lt_of_lt_of_le hlt (own_rr_ge hB' fx hle))
  have zx : zmag b64 (roundRatio b64 s A B 0) = inUnits c q b64.qmin := by rw [hx]; rfl
  have zy : zmag b64 (roundRatio b64 s A' B' 0) = inUnits c' q' b64.qmin := by rw [hy]; rfl
  rw [hx] at fx
  rw [hy] at fy
  have d1 := roundRatio_nearest good_b64 hB hx fy.1 fy.2.1 (Int.le_refl _) (show b64.qmin ≤ 0 by decide)
  have d2 := roundRatio_nearest good_b64 hB' hy fx.1 fx.2.1 (Int.le_refl _) (show b64.qmin ≤ 0 by decide)
  unfold distance at d1 d2
  have u : ∀ A : Nat, inUnits A 0 b64.qmin = A * one64 := by
    intro A; unfold inUnits; rw [Int.zero_sub, pow_qmin64]
  rw [u, ← zx, ← zy] at d1
  rw [u, ← zx, ← zy] at d2
  have hh : A * one64 * B' ≤ A' * one64 * B := by
    calc A * one64 * B' = A * B' * one64 := Nat.mul_right_comm ..
      _ ≤ A' * B * one64 := Nat.mul_le_mul_right _ h
      _ = A' * one64 * B := Nat.mul_right_comm ..
  have e := own_mono_nat hB hB' hh h1 h2 d1 d2
  have e2 : A * B' = A' * B := by
    refine Nat.eq_of_mul_eq_mul_right one64_pos ?_
    calc A * B' * one64 = A * one64 * B' := Nat.mul_right_comm ..
      _ = A' * one64 * B := e
      _ = A' * B * one64 := Nat.mul_right_comm ..
  rw [roundRatio_congr hB hB' (show A * B' * 2 ^ (0 - 0 : Int).toNat = A' * B * 2 ^ (0 - 0 : Int).toNat by rw [e2])] at hlt
  exact Nat.lt_irrefl _ hlt

end own_fl

section own_fl409
open Jvm.FP.Core

theorem own409_half : 2 * zval b64 (val64 4602678819172646912) = (one64 : Int) := by decide +kernel
theorem own409_mhalf : zval b64 (val64 13826050856027422720) = - zval b64 (val64 4602678819172646912) := by decide +kernel
theorem own409_max : zval b64 (val64 4709488952107597824) = 14400000 * zval b64 (val64 4602678819172646912) := by decide +kernel
theorem own409_over : zval b64 (val64 4709488952644468736) = 14400001 * zval b64 (val64 4602678819172646912) := by decide +kernel
theorem own409_hpos : 0 < zval b64 (val64 4602678819172646912) := by decide +kernel
theorem own409_hfin : DFin 4602678819172646912 := ⟨_, _, _, show val64 4602678819172646912 = .fin false (2 ^ 52) (-53) by decide +kernel⟩

def own409_px (p : Int32) : UInt64 := dmul (i2d p) 4602678819172646912

theorem own409_ne (p : Int32) : val64 (own409_px p) ≠ .nan := own_mul_nn (i2d_fin p) own409_hfin

theorem own409_z (p : Int32) : zval b64 (val64 (i2d p)) = p.toInt * (one64 : Int) := DInt_zval (i2d_int p)

theorem own409_le (p : Int32) {V : UInt64} {k : Int} (hn : val64 V ≠ .nan) (hV : zval b64 (val64 V) = k * zval b64 (val64 4602678819172646912))
    (h : p.toInt ≤ k) : zval b64 (val64 (own409_px p)) ≤ zval b64 (val64 V) := by
  refine own_mul_le (i2d_fin p) own409_hfin (val64_fits V) hn ?_
  rw [own409_z, hV, Int.mul_assoc, Int.mul_assoc, Int.mul_comm (one64 : Int)]
  refine Int.mul_le_mul_of_nonneg_right h ?_
  have := own409_hpos
  have h2 : (0 : Int) < one64 := by have := one64_pos; omega
  exact Int.le_of_lt (Int.mul_pos this h2)

theorem own409_ge (p : Int32) {V : UInt64} {k : Int} (hn : val64 V ≠ .nan) (hV : zval b64 (val64 V) = k * zval b64 (val64 4602678819172646912))
    (h : k ≤ p.toInt) : zval b64 (val64 V) ≤ zval b64 (val64 (own409_px p)) := by
  refine own_mul_ge (i2d_fin p) own409_hfin (val64_fits V) hn ?_
  rw [own409_z, hV, Int.mul_assoc, Int.mul_assoc, Int.mul_comm (one64 : Int)]
  refine Int.mul_le_mul_of_nonneg_right h ?_
  have := own409_hpos
  have h2 : (0 : Int) < one64 := by have := one64_pos; omega
  exact Int.le_of_lt (Int.mul_pos this h2)

theorem own409_lt0 (p : Int32) : dcmp (own409_px p) 0 = some .lt ↔ p.toInt < 0 := by
  rw [dcmp_lt]
  have hp := own409_hpos
  constructor
  · rintro ⟨_, _, h⟩
    refine Int.lt_of_not_ge fun hge => ?_
    have := own409_ge p (V := 0) (k := 0) (by decide +kernel) (by rw [zval64_zero, Int.zero_mul]) hge
    omega
  · intro h
    refine ⟨own409_ne p, by decide +kernel, ?_⟩
    have := own409_le p (V := 13826050856027422720) (k := -1) (by decide +kernel) (by rw [own409_mhalf]; omega) (by omega)
    rw [own409_mhalf] at this
    rw [zval64_zero]
    omega

theorem own409_gtM (p : Int32) : dcmp (own409_px p) 4709488952107597824 = some .gt ↔ 14400000 < p.toInt := by
  rw [dcmp_gt]
  have hp := own409_hpos
  constructor
  · rintro ⟨_, _, h⟩
    refine Int.lt_of_not_ge fun hge => ?_
    have := own409_le p (V := 4709488952107597824) (k := 14400000) (by decide +kernel) own409_max hge
    omega
  · intro h
    refine ⟨own409_ne p, by decide +kernel, ?_⟩
    have := own409_ge p (V := 4709488952644468736) (k := 14400001) (by decide +kernel) own409_over (by omega)
    rw [own409_over] at this
    rw [own409_max]
    omega

theorem own409_some {p : Int32} {V : UInt64} (hV : val64 V ≠ .nan) : dcmp (own409_px p) V ≠ none := by
  rw [Ne, dcmp_none]; rintro (h | h)
  · exact own409_ne p h
  · exact hV h

end own_fl409

theorem d1_0 : decode prog_40_method_2_code 0 = .ok (.dload_n 0, 1) := by decide +kernel
theorem d1_1 : decode prog_40_method_2_code 1 = .ok (.dconst 0, 1) := by decide +kernel
theorem d1_2 : decode prog_40_method_2_code 2 = .ok (.dcmp .l, 1) := by decide +kernel
theorem d1_3 : decode prog_40_method_2_code 3 = .ok (.ifCond .lt 15, 3) := by decide +kernel
theorem d1_6 : decode prog_40_method_2_code 6 = .ok (.dload_n 0, 1) := by decide +kernel
theorem d1_7 : decode prog_40_method_2_code 7 = .ok (.ldc2_w 9, 3) := by decide +kernel
theorem d1_10 : decode prog_40_method_2_code 10 = .ok (.dcmp .g, 1) := by decide +kernel
theorem d1_11 : decode prog_40_method_2_code 11 = .ok (.ifCond .gt 7, 3) := by decide +kernel
theorem d1_14 : decode prog_40_method_2_code 14 = .ok (.iconst 1, 1) := by decide +kernel
theorem d1_15 : decode prog_40_method_2_code 15 = .ok (.goto 4, 3) := by decide +kernel
theorem d1_18 : decode prog_40_method_2_code 18 = .ok (.iconst 0, 1) := by decide +kernel
theorem d1_19 : decode prog_40_method_2_code 19 = .ok (.ireturn, 1) := by decide +kernel
theorem pn_0 : plainName "com/example/lean_layers/leanlayers/model/Lengths" = true := by first | (simp [plainName, overriddenIn]; done) | decide +kernel
theorem ef_1 (m : MethodId) (dl0 : UInt64) : entryFrame m #[(.double dl0)] 2 = mkF m 0 #[.val (.double dl0), .second] [] := by first | (simp [entryFrame, mkF, argsToLocals, Value.category]; done) | rfl
def f1_19 (dl0 : UInt64) : Int32 := (if (cmpValue (FP.dcmp dl0 (0 : UInt64)) .l) < (0 : Int32) then (0 : Int32) else (if (0 : Int32) < (cmpValue (FP.dcmp dl0 (4709488952107597824 : UInt64)) .g) then (0 : Int32) else (1 : Int32)))
def f1_ret (dl0 : UInt64) : Int32 := ((f1_19 dl0) &&& 1)

def Q1 (Z : State) (dl0 : UInt64) (h0 : Heap) (n0 : Nat) (v : Option Value) (h : Heap) (L : List Loc) : Prop := v = some (.int (f1_ret dl0)) ∧ Fr n0 L ∧ h = h0
set_option maxRecDepth 65536 in
set_option maxHeartbeats 40000000 in
theorem rm1 (l : Launch) (Z : State) (a0 : Array Value) (hw : ∀ d ∈ tables_1, d.before a0 Z = true) (ws : List Jvm.Cond) (dl0 : UInt64) (h0 : Heap) (n0 : Nat) (Z0 : n0 ≤ h0.size)  :
    MetFree l (⟨"com/example/lean_layers/leanlayers/model/Lengths", "isLength", "(D)Z"⟩ : MethodName) (head1 (Jvm.Cond.code (⟨"com/example/lean_layers/leanlayers/model/Lengths", "isLength", "(D)Z"⟩ : MethodName) prog_40_method_2_code 2 (some .boolean) :: ws) ({ frames := 0, cells := 0, slots := 0, locals := 0 } : Room)) (fun a U => a = #[(.double dl0)] ∧ Z.Warmed39 U.vm ∧ U.heap = h0) (fun _ _ _ _ _ => True) (fun _ U o U' => ∃ v L, o = .returned v ∧ Q1 Z dl0 h0 n0 v U'.heap L ∧ FrameEnd U o U' L ({ frames := 0, cells := 0, slots := 0, locals := 0 } : Room).cells ({ frames := 0, cells := 0, slots := 0, locals := 0 } : Room).slots) := by
  refine MetFree.of_bodySF (plainFor_of_name pn_0) hisR ?_
  intro p e s m args below meth c s₁ Bd hml0 hP hK
  obtain ⟨rfl, hZ, hh⟩ := hP
  have hx := Bd.exec
  have hby := Bd.bytes
  have hml : c.maxLocals = 2 := hml0
  have hown : s.vm.findClass "com/example/lean_layers/leanlayers/model/Lengths" = some m.cls := findClass_of_methodNamed Bd.named
  have hnm := (name_of_methodNamed Bd.named Bd.method).1
  have X0 : Stand p l e ({ frames := 0, cells := 0, slots := 0, locals := 0 } : Room) s m #[(.double dl0)] below meth c s₁ [] 0 0 := Stand.of_body Bd
  have e0 : s₁.heap = h0 := by rw [← hh, Bd.state]; rfl
  have N0 := Fr.nil n0
  have pre0 : ∀ t, Steps p.tables e below (s₁.setTop (mkF m 0 #[.val (.double dl0), .second] [])) t → Steps p.tables e below (s₁.setTop (entryFrame m #[(.double dl0)] 2)) t := fun t k => castTop (ef_1 m dl0) k
  have pre1 : ∀ t, Steps p.tables e below (s₁.setTop (mkF m 3 #[.val (.double dl0), .second] [(.int (cmpValue (FP.dcmp dl0 (0 : UInt64)) .l))])) t → Steps p.tables e below (s₁.setTop (entryFrame m #[(.double dl0)] 2)) t := fun t k => pre0 t (by
    show Steps p.tables e below (s₁.setTop (mkF m 0 #[.val (.double dl0), .second] [])) _
    refine XS.dloadN X0.here hx rfl (hb hby d1_0) rfl ?_
    show Steps p.tables e below (s₁.setTop (mkF m 1 #[.val (.double dl0), .second] [(.double dl0)])) _
    refine XS.dconst0 X0.here hx rfl (v := (0 : UInt64)) (hb hby d1_1) rfl ?_
    show Steps p.tables e below (s₁.setTop (mkF m 2 #[.val (.double dl0), .second] [(.double (0 : UInt64)), (.double dl0)])) _
    refine XS.dcmpS X0.here hx rfl (hb hby d1_2) rfl rfl ?_
    show Steps p.tables e below (s₁.setTop (mkF m 3 #[.val (.double dl0), .second] [(.int (cmpValue (FP.dcmp dl0 (0 : UInt64)) .l))])) _
    exact k)
  have pre4 : ∀ t, Steps p.tables e below (s₁.setTop (mkF m 19 #[.val (.double dl0), .second] [(.int (f1_19 dl0))])) t → Steps p.tables e below (s₁.setTop (entryFrame m #[(.double dl0)] 2)) t := fun t k => pre1 t (by
    by_cases hf2 : (cmpValue (FP.dcmp dl0 (0 : UInt64)) .l) < (0 : Int32)
    · refine XS.ifYes X0.here hx rfl (pc0 := 3) (pc' := 18) rfl (hb hby d1_3) rfl ((if0 _ _).trans (tlt hf2).1) (by decide) (by decide) ?_
      show Steps p.tables e below (s₁.setTop (mkF m 18 #[.val (.double dl0), .second] [])) _
      refine XS.iconst X0.here hx rfl (hb hby d1_18) ?_
      show Steps p.tables e below (s₁.setTop (mkF m 19 #[.val (.double dl0), .second] [(.int (0 : Int32))])) _
      rw [show (f1_19 dl0) = ((0 : Int32) : Int32) from by simp only [f1_19, if_pos hf2]] at k
      exact k
    · refine XS.ifNo X0.here hx rfl (hb hby d1_3) rfl ((if0 _ _).trans (flt hf2).1) ?_
      show Steps p.tables e below (s₁.setTop (mkF m 6 #[.val (.double dl0), .second] [])) _
      refine XS.dloadN X0.here hx rfl (hb hby d1_6) rfl ?_
      show Steps p.tables e below (s₁.setTop (mkF m 7 #[.val (.double dl0), .second] [(.double dl0)])) _
      refine X0.ldc2DoubleC hx hown (mvT hZ (hw _ (List.mem_of_getElem? (i := 6) rfl))) (g := (mkF m 7 #[.val (.double dl0), .second] [(.double dl0)])) rfl (hb hby d1_7) _ ?_
      show Steps p.tables e below (s₁.setTop (mkF m 10 #[.val (.double dl0), .second] [(.double (4709488952107597824 : UInt64)), (.double dl0)])) _
      refine XS.dcmpS X0.here hx rfl (hb hby d1_10) rfl rfl ?_
      show Steps p.tables e below (s₁.setTop (mkF m 11 #[.val (.double dl0), .second] [(.int (cmpValue (FP.dcmp dl0 (4709488952107597824 : UInt64)) .g))])) _
      by_cases hf3 : (0 : Int32) < (cmpValue (FP.dcmp dl0 (4709488952107597824 : UInt64)) .g)
      · refine XS.ifYes X0.here hx rfl (pc0 := 11) (pc' := 18) rfl (hb hby d1_11) rfl ((if0 _ _).trans (tlt hf3).2.2.1) (by decide) (by decide) ?_
        show Steps p.tables e below (s₁.setTop (mkF m 18 #[.val (.double dl0), .second] [])) _
        refine XS.iconst X0.here hx rfl (hb hby d1_18) ?_
        show Steps p.tables e below (s₁.setTop (mkF m 19 #[.val (.double dl0), .second] [(.int (0 : Int32))])) _
        rw [show (f1_19 dl0) = ((0 : Int32) : Int32) from by simp only [f1_19, if_neg hf2, if_pos hf3]] at k
        exact k
      · refine XS.ifNo X0.here hx rfl (hb hby d1_11) rfl ((if0 _ _).trans (flt hf3).2.2.1) ?_
        show Steps p.tables e below (s₁.setTop (mkF m 14 #[.val (.double dl0), .second] [])) _
        refine XS.iconst X0.here hx rfl (hb hby d1_14) ?_
        show Steps p.tables e below (s₁.setTop (mkF m 15 #[.val (.double dl0), .second] [(.int (1 : Int32))])) _
        refine XS.goto X0.here hx rfl (pc0 := 15) (pc' := 19) rfl (hb hby d1_15) (by decide) (by decide) ?_
        show Steps p.tables e below (s₁.setTop (mkF m 19 #[.val (.double dl0), .second] [(.int (1 : Int32))])) _
        rw [show (f1_19 dl0) = ((1 : Int32) : Int32) from by simp only [f1_19, if_neg hf2, if_neg hf3]] at k
        exact k)
  obtain ⟨fs, hr, hrun, hended, hW, hsame⟩ := X0.leave (v := some (.int ((f1_19 dl0) &&& 1))) (fun h => by rw [Bd.returns] at h; cases h)
  refine ⟨_, _, pre4 _ ?_, hrun, hended, _, _, rfl, ?_, ⟨_, rfl⟩, hW, hsame.mono (by decide) (by decide)⟩
  · exact retN X0 hx (t := .boolean) Bd.returns (by simp) (hb hby d1_19) hr
  · show Q1 Z dl0 h0 n0 _ s₁.heap _
    rw [e0]
    exact ⟨rfl, N0, rfl⟩
theorem pn_1 : plainName "com/example/lean_layers/leanlayers/model/LengthsIsLengthPinLaw" = true := by first | (simp [plainName, overriddenIn]; done) | decide +kernel
theorem pd_0 : parseMethodDescriptor "(D)Z" = some ⟨[.double], some .boolean⟩ := by decide +kernel
theorem ef_0 (m : MethodId) (p0 : Int32) : entryFrame m #[(.int p0)] maxLocals = mkF m 0 #[.val (.int p0), .unset, .unset, .unset] [] := by first | (simp [entryFrame, mkF, argsToLocals, Value.category, maxLocals]; done) | rfl
def f0_22 (p0 : Int32) : Int32 := (if p0 < (0 : Int32) then (0 : Int32) else (if (14400000 : Int32) < p0 then (0 : Int32) else (1 : Int32)))


theorem own_nn (p0 : Int32) : Jvm.Free.Fl.NoNaN64 (FP.dmul (FP.i2d p0) (4602678819172646912 : UInt64)) :=
  Jvm.Free.Fl.noNaN64_no.mpr ((Jvm.FP.Core.notNaN_iff _).mpr (own409_ne p0))

theorem own_len (p0 : Int32) : f1_19 (FP.dmul (FP.i2d p0) (4602678819172646912 : UInt64)) = f0_22 p0 := by
  have h1 := own409_lt0 p0
  have h2 := own409_gtM p0
  have h3 := own409_some (p := p0) (V := 0) (by decide +kernel)
  have h4 := own409_some (p := p0) (V := 4709488952107597824) (by decide +kernel)
  have e1 : (p0 < (0 : Int32)) ↔ p0.toInt < 0 := Int32.lt_iff_toInt_lt
  have e2 : ((14400000 : Int32) < p0) ↔ 14400000 < p0.toInt := Int32.lt_iff_toInt_lt
  have e3 : (cmpValue (FP.dcmp (FP.dmul (FP.i2d p0) (4602678819172646912 : UInt64)) (0 : UInt64)) .l < (0 : Int32)) ↔ p0 < (0 : Int32) := by
    rw [e1, ← h1]
    show cmpValue (Jvm.FP.Core.dcmp (own409_px p0) 0) .l < 0 ↔ _
    generalize Jvm.FP.Core.dcmp (own409_px p0) 0 = o at h3 ⊢
    rcases o with _ | (_ | _ | _)
    · exact absurd rfl h3
    all_goals decide
  have e4 : ((0 : Int32) < cmpValue (FP.dcmp (FP.dmul (FP.i2d p0) (4602678819172646912 : UInt64)) (4709488952107597824 : UInt64)) .g) ↔ (14400000 : Int32) < p0 := by
    rw [e2, ← h2]
    show 0 < cmpValue (Jvm.FP.Core.dcmp (own409_px p0) 4709488952107597824) .g ↔ _
    generalize Jvm.FP.Core.dcmp (own409_px p0) 4709488952107597824 = o at h4 ⊢
    rcases o with _ | (_ | _ | _)
    · exact absurd rfl h4
    all_goals decide
  unfold f1_19 f0_22
  simp only [e3, e4]

theorem own_fin28 (p0 : Int32) : f1_ret (FP.dmul (FP.i2d p0) (4602678819172646912 : UInt64)) = f0_22 p0 := by
  unfold f1_ret
  rw [own_len]
  unfold f0_22
  split
  · decide
  · split <;> decide

def Q0 (Z : State) (p0 : Int32) (h0 : Heap) (n0 : Nat) (v : Option Value) (h : Heap) (L : List Loc) : Prop := v = some (.int 1) ∧ Fr n0 L
set_option maxRecDepth 65536 in
set_option maxHeartbeats 40000000 in
theorem rm0 (l : Launch) (Z : State) (a0 : Array Value) (hw : ∀ d ∈ tables_1, d.before a0 Z = true) (ws : List Jvm.Cond) (p0 : Int32) (h0 : Heap) (n0 : Nat) (Z0 : n0 ≤ h0.size)  :
    MetFree l x (head1 (Jvm.Cond.code x code maxLocals ret :: ws) room_1) (fun a U => a = #[(.int p0)] ∧ Z.Warmed39 U.vm ∧ U.heap = h0) (fun _ _ _ _ _ => True) (fun _ U o U' => ∃ v L, o = .returned v ∧ Q0 Z p0 h0 n0 v U'.heap L ∧ FrameEnd U o U' L room_1.cells room_1.slots) := by
  refine MetFree.of_bodySF (plainFor_of_name pn_1) hisR ?_
  intro p e s m args below meth c s₁ Bd hml0 hP hK
  obtain ⟨rfl, hZ, hh⟩ := hP
  have hx := Bd.exec
  have hby := Bd.bytes
  have hml : c.maxLocals = 4 := hml0
  have hown : s.vm.findClass "com/example/lean_layers/leanlayers/model/LengthsIsLengthPinLaw" = some m.cls := findClass_of_methodNamed Bd.named
  have hnm := (name_of_methodNamed Bd.named Bd.method).1
  have X0 : Stand p l e room_1 s m #[(.int p0)] below meth c s₁ [] 0 0 := Stand.of_body Bd
  have e0 : s₁.heap = h0 := by rw [← hh, Bd.state]; rfl
  have N0 := Fr.nil n0
  have pre0 : ∀ t, Steps p.tables e below (s₁.setTop (mkF m 0 #[.val (.int p0), .unset, .unset, .unset] [])) t → Steps p.tables e below (s₁.setTop (entryFrame m #[(.int p0)] maxLocals)) t := fun t k => castTop (ef_0 m p0) k
  have pre1 : ∀ t, Steps p.tables e below (s₁.setTop (mkF m 8 #[.val (.int p0), .val (.double (FP.dmul (FP.i2d p0) (4602678819172646912 : UInt64))), .second, .unset] [(.int p0)])) t → Steps p.tables e below (s₁.setTop (entryFrame m #[(.int p0)] maxLocals)) t := fun t k => pre0 t (by
    show Steps p.tables e below (s₁.setTop (mkF m 0 #[.val (.int p0), .unset, .unset, .unset] [])) _
    refine XS.iloadN X0.here hx rfl (hb hby at_0) rfl ?_
    show Steps p.tables e below (s₁.setTop (mkF m 1 #[.val (.int p0), .unset, .unset, .unset] [(.int p0)])) _
    refine XS.i2dS X0.here hx rfl (hb hby at_1) rfl rfl ?_
    show Steps p.tables e below (s₁.setTop (mkF m 2 #[.val (.int p0), .unset, .unset, .unset] [(.double (FP.i2d p0))])) _
    refine X0.ldc2DoubleC hx hown (mvT hZ (hw _ (List.mem_of_getElem? (i := 0) rfl))) (g := (mkF m 2 #[.val (.int p0), .unset, .unset, .unset] [(.double (FP.i2d p0))])) rfl (hb hby at_2) _ ?_
    show Steps p.tables e below (s₁.setTop (mkF m 5 #[.val (.int p0), .unset, .unset, .unset] [(.double (4602678819172646912 : UInt64)), (.double (FP.i2d p0))])) _
    refine XS.dmulS X0.here hx rfl (hb hby at_5) rfl (own_nn p0) rfl ?_
    show Steps p.tables e below (s₁.setTop (mkF m 6 #[.val (.int p0), .unset, .unset, .unset] [(.double (FP.dmul (FP.i2d p0) (4602678819172646912 : UInt64)))])) _
    refine XS.dstoreN X0.here hx rfl (hb hby at_6) rfl (l' := #[.val (.int p0), .val (.double (FP.dmul (FP.i2d p0) (4602678819172646912 : UInt64))), .second, .unset]) rfl ?_
    show Steps p.tables e below (s₁.setTop (mkF m 7 #[.val (.int p0), .val (.double (FP.dmul (FP.i2d p0) (4602678819172646912 : UInt64))), .second, .unset] [])) _
    refine XS.iloadN X0.here hx rfl (hb hby at_7) rfl ?_
    show Steps p.tables e below (s₁.setTop (mkF m 8 #[.val (.int p0), .val (.double (FP.dmul (FP.i2d p0) (4602678819172646912 : UInt64))), .second, .unset] [(.int p0)])) _
    exact k)
  have pre4 : ∀ t, Steps p.tables e below (s₁.setTop (mkF m 22 #[.val (.int p0), .val (.double (FP.dmul (FP.i2d p0) (4602678819172646912 : UInt64))), .second, .unset] [(.int (f0_22 p0))])) t → Steps p.tables e below (s₁.setTop (entryFrame m #[(.int p0)] maxLocals)) t := fun t k => pre1 t (by
    by_cases hf2 : p0 < (0 : Int32)
    · refine XS.ifYes X0.here hx rfl (pc0 := 8) (pc' := 21) rfl (hb hby at_8) rfl ((if0 _ _).trans (tlt hf2).1) (by decide) (by decide) ?_
      show Steps p.tables e below (s₁.setTop (mkF m 21 #[.val (.int p0), .val (.double (FP.dmul (FP.i2d p0) (4602678819172646912 : UInt64))), .second, .unset] [])) _
      refine XS.iconst X0.here hx rfl (hb hby at_21) ?_
      show Steps p.tables e below (s₁.setTop (mkF m 22 #[.val (.int p0), .val (.double (FP.dmul (FP.i2d p0) (4602678819172646912 : UInt64))), .second, .unset] [(.int (0 : Int32))])) _
      rw [show (f0_22 p0) = ((0 : Int32) : Int32) from by simp only [f0_22, if_pos hf2]] at k
      exact k
    · refine XS.ifNo X0.here hx rfl (hb hby at_8) rfl ((if0 _ _).trans (flt hf2).1) ?_
      show Steps p.tables e below (s₁.setTop (mkF m 11 #[.val (.int p0), .val (.double (FP.dmul (FP.i2d p0) (4602678819172646912 : UInt64))), .second, .unset] [])) _
      refine XS.iloadN X0.here hx rfl (hb hby at_11) rfl ?_
      show Steps p.tables e below (s₁.setTop (mkF m 12 #[.val (.int p0), .val (.double (FP.dmul (FP.i2d p0) (4602678819172646912 : UInt64))), .second, .unset] [(.int p0)])) _
      refine X0.ldcInt hx hown (mvT hZ (hw _ (List.mem_of_getElem? (i := 1) rfl))) (g := (mkF m 12 #[.val (.int p0), .val (.double (FP.dmul (FP.i2d p0) (4602678819172646912 : UInt64))), .second, .unset] [(.int p0)])) rfl (hb hby at_12) _ ?_
      show Steps p.tables e below (s₁.setTop (mkF m 14 #[.val (.int p0), .val (.double (FP.dmul (FP.i2d p0) (4602678819172646912 : UInt64))), .second, .unset] [(.int (14400000 : Int32)), (.int p0)])) _
      by_cases hf3 : (14400000 : Int32) < p0
      · refine XS.icmpYes X0.here hx rfl (pc0 := 14) (pc' := 21) rfl (hb hby at_14) rfl (tlt hf3).2.2.1 (by decide) (by decide) ?_
        show Steps p.tables e below (s₁.setTop (mkF m 21 #[.val (.int p0), .val (.double (FP.dmul (FP.i2d p0) (4602678819172646912 : UInt64))), .second, .unset] [])) _
        refine XS.iconst X0.here hx rfl (hb hby at_21) ?_
        show Steps p.tables e below (s₁.setTop (mkF m 22 #[.val (.int p0), .val (.double (FP.dmul (FP.i2d p0) (4602678819172646912 : UInt64))), .second, .unset] [(.int (0 : Int32))])) _
        rw [show (f0_22 p0) = ((0 : Int32) : Int32) from by simp only [f0_22, if_neg hf2, if_pos hf3]] at k
        exact k
      · refine XS.icmpNo X0.here hx rfl (hb hby at_14) rfl (flt hf3).2.2.1 ?_
        show Steps p.tables e below (s₁.setTop (mkF m 17 #[.val (.int p0), .val (.double (FP.dmul (FP.i2d p0) (4602678819172646912 : UInt64))), .second, .unset] [])) _
        refine XS.iconst X0.here hx rfl (hb hby at_17) ?_
        show Steps p.tables e below (s₁.setTop (mkF m 18 #[.val (.int p0), .val (.double (FP.dmul (FP.i2d p0) (4602678819172646912 : UInt64))), .second, .unset] [(.int (1 : Int32))])) _
        refine XS.goto X0.here hx rfl (pc0 := 18) (pc' := 22) rfl (hb hby at_18) (by decide) (by decide) ?_
        show Steps p.tables e below (s₁.setTop (mkF m 22 #[.val (.int p0), .val (.double (FP.dmul (FP.i2d p0) (4602678819172646912 : UInt64))), .second, .unset] [(.int (1 : Int32))])) _
        rw [show (f0_22 p0) = ((1 : Int32) : Int32) from by simp only [f0_22, if_neg hf2, if_neg hf3]] at k
        exact k)
  obtain ⟨_, _, ⟨T5, L5, k5, n5⟩, -, X5, ⟨Lc5, hQ5, l5, y5, z5⟩, st5⟩ := Jvm.LawKit.callS X0 hx (y := (⟨"com/example/lean_layers/leanlayers/model/Lengths", "isLength", "(D)Z"⟩ : MethodName)) hown (mvT hZ (hw _ (List.mem_of_getElem? (i := 2) rfl))) (mvT hZ (hw _ (List.mem_of_getElem? (i := 3) rfl))) (mvT hZ (hw _ (List.mem_of_getElem? (i := 4) rfl))) (mvT hZ (hw _ (List.mem_of_getElem? (i := 5) rfl))) (by decide) (backOf (W := 0) (rm1 l Z a0 hw [] (FP.dmul (FP.i2d p0) (4602678819172646912 : UInt64)) h0 n0 Z0) hZ (hw _ (List.mem_of_getElem? (i := 5) rfl)) (hw _ (List.mem_of_getElem? (i := 4) rfl)) (by decide) (by decide)) (g := (mkF m 24 #[.val (.int p0), .val (.double (FP.dmul (FP.i2d p0) (4602678819172646912 : UInt64))), .second, .val (.int (f0_22 p0))] [(.double (FP.dmul (FP.i2d p0) (4602678819172646912 : UInt64)))])) rfl (by rw [hml]; rfl) (argsL := [(.double (FP.dmul (FP.i2d p0) (4602678819172646912 : UInt64)))]) (rest := []) (lenOf pd_0 rfl) rfl (by show 2 * 0 + _ ≤ _; exact Nat.le_of_eq rfl) (hb hby at_24) (fun _ _ => ⟨rfl, e0, (by decide : 0 + 0 ≤ _), (by decide : 0 + 0 ≤ _)⟩)
  dsimp only [Pt.U, Pt.locs, Pt.cells, Pt.slots] at X5 l5 y5 z5 st5 hQ5
  subst y5 z5
  obtain ⟨rfl, N5q, hh5⟩ := hQ5
  have N5 := Fr.app N0 N5q
  rw [← l5] at N5
  have pre6 : ∀ t, Steps p.tables e below (T5.setTop (mkF m 36 #[.val (.int p0), .val (.double (FP.dmul (FP.i2d p0) (4602678819172646912 : UInt64))), .second, .val (.int (f0_22 p0))] [(.int (1 : Int32))])) t → Steps p.tables e below (s₁.setTop (entryFrame m #[(.int p0)] maxLocals)) t := fun t k => pre4 t (by
    refine XS.istoreN X0.here hx rfl (hb hby at_22) rfl (l' := #[.val (.int p0), .val (.double (FP.dmul (FP.i2d p0) (4602678819172646912 : UInt64))), .second, .val (.int (f0_22 p0))]) rfl ?_
    show Steps p.tables e below (s₁.setTop (mkF m 23 #[.val (.int p0), .val (.double (FP.dmul (FP.i2d p0) (4602678819172646912 : UInt64))), .second, .val (.int (f0_22 p0))] [])) _
    refine XS.dloadN X0.here hx rfl (hb hby at_23) rfl ?_
    show Steps p.tables e below (s₁.setTop (mkF m 24 #[.val (.int p0), .val (.double (FP.dmul (FP.i2d p0) (4602678819172646912 : UInt64))), .second, .val (.int (f0_22 p0))] [(.double (FP.dmul (FP.i2d p0) (4602678819172646912 : UInt64)))])) _
    refine st5 _ ?_
    show Steps p.tables e below (T5.setTop (mkF m 27 #[.val (.int p0), .val (.double (FP.dmul (FP.i2d p0) (4602678819172646912 : UInt64))), .second, .val (.int (f0_22 p0))] [(.int (f1_ret (FP.dmul (FP.i2d p0) (4602678819172646912 : UInt64))))])) _
    refine XS.iloadN X5.here hx rfl (hb hby at_27) rfl ?_
    show Steps p.tables e below (T5.setTop (mkF m 28 #[.val (.int p0), .val (.double (FP.dmul (FP.i2d p0) (4602678819172646912 : UInt64))), .second, .val (.int (f0_22 p0))] [(.int (f0_22 p0)), (.int (f1_ret (FP.dmul (FP.i2d p0) (4602678819172646912 : UInt64))))])) _
    refine XS.icmpNo X5.here hx rfl (hb hby at_28) rfl (teq (show (f1_ret (FP.dmul (FP.i2d p0) (4602678819172646912 : UInt64))) = (f0_22 p0) from own_fin28 p0)).2 ?_
    show Steps p.tables e below (T5.setTop (mkF m 31 #[.val (.int p0), .val (.double (FP.dmul (FP.i2d p0) (4602678819172646912 : UInt64))), .second, .val (.int (f0_22 p0))] [])) _
    refine XS.iconst X5.here hx rfl (hb hby at_31) ?_
    show Steps p.tables e below (T5.setTop (mkF m 32 #[.val (.int p0), .val (.double (FP.dmul (FP.i2d p0) (4602678819172646912 : UInt64))), .second, .val (.int (f0_22 p0))] [(.int (1 : Int32))])) _
    refine XS.goto X5.here hx rfl (pc0 := 32) (pc' := 36) rfl (hb hby at_32) (by decide) (by decide) ?_
    show Steps p.tables e below (T5.setTop (mkF m 36 #[.val (.int p0), .val (.double (FP.dmul (FP.i2d p0) (4602678819172646912 : UInt64))), .second, .val (.int (f0_22 p0))] [(.int (1 : Int32))])) _
    exact k)
  obtain ⟨fs, hr, hrun, hended, hW, hsame⟩ := X5.leave (v := some (.int (1 : Int32))) (fun h => by rw [Bd.returns] at h; cases h)
  refine ⟨_, _, pre6 _ ?_, hrun, hended, _, _, rfl, ?_, ⟨_, rfl⟩, hW, hsame.mono (by decide) (by decide)⟩
  · exact retN X5 hx (t := .boolean) Bd.returns (by simp) (hb hby at_36) hr
  · show Q0 Z p0 h0 n0 _ T5.heap _
    rw [hh5]
    exact ⟨rfl, N5⟩
set_option maxRecDepth 65536 in
set_option maxHeartbeats 40000000 in
theorem comes_1 {Post : Tables → Env → Array Value → State → Outcome → State → Prop} (hpost : ∀ tb e args s v u, (limb_1_1.after args s (.returned v) u = true ∧ limb_1_2.after args s (.returned v) u = true ∧ True) → FrameEnd s (.returned v) u (Jvm.fieldLocs frame_1_writes args s ++ Jvm.arrayLocs frame_1_arrays args s ++ Jvm.staticLocs frame_1_statics s) 0 0 → Post tb e args s (.returned v) u) :
    ArmFor flags0 classFile x code maxLocals ret World_1 tables_1 room_1 Calls_1 rest_1 Pre_1 Post := by
  intro l hfl _ _ p e ha hc hk s m args below hf hA hF happ hP
  obtain ⟨hcalls, hrest, hpre⟩ := hP
  obtain ⟨-, -, -, hnamed, -, -, -, hat⟩ := (Spec.applies_iff hf).mp happ
  obtain ⟨hg, hn⟩ := and_e (Cond.before_iff.mp (show (Jvm.Cond.and given_1 narrow_1).before args s = true from hpre))
  obtain ⟨h1, g0⟩ := and_e hg
  obtain ⟨w0, rfl⟩ : ∃ w0 : Value, args = #[w0] := by
    have hs : args.size = 1 := by simpa [Cond.value, given_1] using h1
    obtain ⟨L⟩ := args
    match L, hs with
    | [w0], _ => exact ⟨w0, rfl⟩
  have hw := fun d (hd : d ∈ tables_1) => atoms_spec (ws := Jvm.Cond.code x code maxLocals ret :: tables_1) hat d (List.mem_cons_of_mem _ hd)
  have hfit : Fit s := fun {y c} hc i hi => by
    obtain ⟨ha, rfl⟩ := Array.getElem?_eq_some_iff.mp hc
    have q := List.all_eq_true.mp ((Array.all_eq_true_iff_forall_mem.mp hF) _ (Array.getElem_mem ha)) i (List.mem_range.mpr hi)
    simpa [Array.getElem?_eq_getElem hi] using q
  obtain ⟨i0, e0⟩ := is_v g0
  obtain rfl : w0 = (.int i0) := Option.some.inj e0
  obtain ⟨n, o, h1, h2, h3, _, L, rfl, ⟨rfl, N⟩, hq⟩ := rm0 l s _ hw tables_1 i0  s.heap s.heap.size (Nat.le_refl _)  p e ha hc hk s m _ below hf ((Spec.applies_iff_loose hf).mp happ).1 ⟨rfl, State.Warmed39.refl s, rfl⟩ trivial
  refine ⟨n, _, h1, h2, h3, hpost _ _ _ _ _ _ ⟨Cond.after_iff.mpr rfl, Cond.after_iff.mpr (eq_i res_at (Term.int_eval (1)) rfl), trivial⟩ ⟨hq.1, hq.2.1, (hq.2.2.sift fun y hy => Or.inr (N y hy)).mono (by decide) (by decide)⟩⟩
theorem main_1_1 : Claimed_1_1 := comes_1 fun _ _ _ _ _ _ h hF => ⟨h.1, hF⟩
theorem main_1_2 : Claimed_1_2 := comes_1 fun _ _ _ _ _ _ h hF => ⟨h.2.1, hF⟩
end Jvm.Pilot.@@N@@
namespace Jvm.Pilot.@@N@@
open Jvm Jvm.ClassFile Sem Op Lib Jvm.Free Jvm.Stand Jvm.Pilot.@@N@@.Jvm.D
/-! MADE BY PROGRAM (witnessworld.py) out of the Statement's table words and the real class files: 9 classes; the members and pool entries that the words name. The judged class is class 1, her method 1. -/
namespace start1
open Jvm.ClassFile
def u (s : String) : CpInfo := .utf8 (stringToUtf16 s)
/-- a pool by its gaps: so many unusable entries, then the entry; so many at the end -/
def gap : Nat → List CpInfo → List CpInfo
  | 0, r => r
  | n + 1, r => .unusable :: gap n r
def poolList (es : List (Nat × CpInfo)) (last : Nat) : List CpInfo := es.foldr (fun e r => gap e.1 (e.2 :: r)) (gap last [])
def pool (es : List (Nat × CpInfo)) (last : Nat) : Array CpInfo := ⟨poolList es last⟩
def fileOf (pool : Array CpInfo) (this : Nat) (attrs : Array Attribute := #[]) (ms : Array MethodInfo := #[]) (fl : Nat := 33) (sup : Nat := 0) (ifs : Array Nat := #[]) (fds : Array FieldInfo := #[]) : ClassFile where
  minorVersion := 0
  majorVersion := 65
  constantPool := pool
  accessFlags := fl
  thisClass := this
  superClass := sup
  interfaces := ifs
  fields := fds
  methods := ms
  attributes := attrs
def plain (name : String) (sup : Option ClassId) : Class where
  name := name
  kind := .ordinary
  loader := none
  accessFlags := 33
  super := sup
  interfaces := #[]
  cf := none
  fields := #[]
  methods := #[]
  instanceTypes := #[]
  staticTypes := #[]
  resolved := #[]
  callSites := []
  init := .initialized
  statics := none
  mirror := none

def pool0 : Array CpInfo := pool [(5, u "<init>"), (0, u "()V"), (1, .class_ 10), (1, u "java/lang/Object")] 113

def k0m0 : Method := { name := "<init>", desc := "()V", sig := { parameters := [], returnType := none }, accessFlags := 1, code := none }
/-- java/lang/Object -/
def k0 : Class := { plain "java/lang/Object" none with
  accessFlags := 33
  interfaces := #[]
  cf := some (fileOf pool0 8 #[] #[{ accessFlags := 1, nameIndex := 5, descriptorIndex := 6, attributes := #[] }] 33 0 #[] #[])
  fields := #[]
  methods := #[k0m0]
  instanceTypes := #[]
  staticTypes := #[]
  resolved := Array.replicate 124 none
  statics := none }

def pool1 : Array CpInfo := pool [(2, .class_ 4), (1, u "java/lang/Object"), (0, u "<init>"), (0, u "()V"), (0, .double 4602678819172646912), (1, .integer 14400000), (0, .methodref 11 12), (0, .class_ 13), (0, .nameAndType 14 15), (0, u "com/example/lean_layers/leanlayers/model/Lengths"), (0, u "isLength"), (0, u "(D)Z"), (0, .class_ 17), (0, u "com/example/lean_layers/leanlayers/model/LengthsIsLengthPinLaw"), (2, u "law"), (0, u "(I)Z")] 3

def k1m0 : Method := { name := "<init>", desc := "()V", sig := { parameters := [], returnType := none }, accessFlags := 2, code := none }
def k1c1 : Code := { maxStack := 4, maxLocals := 4, code := code, exceptionTable := #[], attributes := #[] }
def k1m1 : Method := { name := "law", desc := "(I)Z", sig := { parameters := [.int], returnType := some .boolean }, accessFlags := 9, code := some k1c1 }
/-- com/example/lean_layers/leanlayers/model/LengthsIsLengthPinLaw -/
def k1 : Class := { plain "com/example/lean_layers/leanlayers/model/LengthsIsLengthPinLaw" (some 0) with
  accessFlags := 49
  interfaces := #[]
  cf := some (fileOf pool1 16 #[] #[{ accessFlags := 2, nameIndex := 5, descriptorIndex := 6, attributes := #[] }, { accessFlags := 9, nameIndex := 20, descriptorIndex := 21, attributes := #[] }] 49 2 #[] #[])
  fields := #[]
  methods := #[k1m0, k1m1]
  instanceTypes := #[]
  staticTypes := #[]
  resolved := Array.replicate 25 none
  statics := none }

def pool2 : Array CpInfo := pool [(1, .class_ 2), (0, u "com/example/lean_layers/leanlayers/model/Lengths"), (1, .class_ 6), (1, u "java/lang/Object"), (0, u "<init>"), (0, u "()V"), (0, .double 4709488952107597824), (3, u "isLength"), (0, u "(D)Z"), (0, u "LONGEST"), (0, u "I"), (2, u "POSITIVE_SIDES"), (0, u "Ljava/lang/String;")] 8

def k2m0 : Method := { name := "<init>", desc := "()V", sig := { parameters := [], returnType := none }, accessFlags := 2, code := none }
def k2c1 : Code := { maxStack := 4, maxLocals := 2, code := prog_40_method_2_code, exceptionTable := #[], attributes := #[] }
def k2m1 : Method := { name := "isLength", desc := "(D)Z", sig := { parameters := [.double], returnType := some .boolean }, accessFlags := 9, code := some k2c1 }
/-- com/example/lean_layers/leanlayers/model/Lengths -/
def k2 : Class := { plain "com/example/lean_layers/leanlayers/model/Lengths" (some 0) with
  accessFlags := 49
  interfaces := #[]
  cf := some (fileOf pool2 1 #[] #[{ accessFlags := 2, nameIndex := 7, descriptorIndex := 8, attributes := #[] }, { accessFlags := 9, nameIndex := 13, descriptorIndex := 14, attributes := #[] }] 49 4 #[] #[{ accessFlags := 25, nameIndex := 15, descriptorIndex := 16, attributes := #[] }, { accessFlags := 25, nameIndex := 19, descriptorIndex := 20, attributes := #[] }])
  fields := #[{ name := "LONGEST", type := .int, accessFlags := 25, slot := 0, constantValue := 0 }, { name := "POSITIVE_SIDES", type := (.object "java/lang/String"), accessFlags := 25, slot := 1, constantValue := 0 }]
  methods := #[k2m0, k2m1]
  instanceTypes := #[]
  staticTypes := #[.int, (.object "java/lang/String")]
  resolved := Array.replicate 29 none
  statics := none }

def pool3 : Array CpInfo := pool [(1, u "java/lang/Cloneable"), (0, .class_ 1), (0, u "java/lang/Object"), (0, .class_ 3)] 3

/-- java/lang/Cloneable -/
def k3 : Class := { plain "java/lang/Cloneable" (some 0) with
  accessFlags := 1537
  interfaces := #[]
  cf := some (fileOf pool3 2 #[] #[] 1537 4 #[] #[])
  fields := #[]
  methods := #[]
  instanceTypes := #[]
  staticTypes := #[]
  resolved := Array.replicate 8 none
  statics := none }

def pool4 : Array CpInfo := pool [(1, u "java/io/Serializable"), (0, .class_ 1), (0, u "java/lang/Object"), (0, .class_ 3)] 3

/-- java/io/Serializable -/
def k4 : Class := { plain "java/io/Serializable" (some 0) with
  accessFlags := 1537
  interfaces := #[]
  cf := some (fileOf pool4 2 #[] #[] 1537 4 #[] #[])
  fields := #[]
  methods := #[]
  instanceTypes := #[]
  staticTypes := #[]
  resolved := Array.replicate 8 none
  statics := none }

/-- the primitive byte -/
def k5 : Class := { plain "byte" none with kind := .primitive 'B', accessFlags := 0x411 }
/-- [B -/
def k6 : Class := { plain "[B" (some 0) with kind := .array 5 .byte, interfaces := #[3, 4], accessFlags := 1041 }

/-- the primitive int -/
def k7 : Class := { plain "int" none with kind := .primitive 'I', accessFlags := 0x411 }
/-- [I -/
def k8 : Class := { plain "[I" (some 0) with kind := .array 7 .int, interfaces := #[3, 4], accessFlags := 1041 }

def heap : Heap := #[]
def classes : Array Class := #[k0, k1, k2, k3, k4, k5, k6, k7, k8]
def interned : List (Array UInt16 × Addr) := []
def slotsUsed : Nat := 0
def theMethod : MethodId := ⟨1, 1⟩
def args0 : Array Value := #[.int 5]
def aboutOver (below : List Frame) : State where
  vm := { classes := classes, interned := interned.toArray }
  heap := heap
  slotsUsed := slotsUsed
  threads := #[{ frames := .invoking theMethod args0 :: below }]
def below0 : List Frame := [.native { method := ⟨0, 0⟩, args := #[] }]
def about1 : State := aboutOver below0
def p0 : Program := .bare "" "" ""
def e0 : Env := launch0.env 0 0 0
theorem w_frames : about1.frames = Frame.invoking theMethod args0 :: below0 := rfl
set_option maxRecDepth 65536 in
theorem w_args : argsFit about1.vm theMethod args0 = true := by decide +kernel
set_option maxRecDepth 65536 in
theorem w_heap : heapFits about1 = true := by decide +kernel
set_option maxRecDepth 65536 in
theorem w_runnable : about1.curStatus? = some .runnable := by decide +kernel
set_option maxRecDepth 65536 in
theorem w_alone : about1.alone = true := by decide +kernel
set_option maxRecDepth 65536 in
theorem w_named : about1.methodNamed? x = some theMethod := by decide +kernel
set_option maxRecDepth 65536 in
theorem w_hears : about1.hears theMethod below0 = true := by decide +kernel
set_option maxRecDepth 65536 in
theorem w_ripe : about1.ripe theMethod args0 below0 = true := by decide +kernel
theorem w_running : about1.status = .running := rfl
set_option maxRecDepth 65536 in
theorem w_room : about1.hasRoom e0.platform room_1 = true :=
  launch0.hasRoom_least _ room_1 (by decide +kernel) (by decide +kernel) (by decide +kernel) (by decide +kernel) (by decide +kernel) (by decide +kernel)
theorem allAtoms_all (ts : List Jvm.Cond) (a : Array Jvm.Value) (st : Jvm.State) : (allAtoms ts).before a st = ts.all (fun c => c.before a st) := by
  induction ts with
  | nil => rfl
  | cons c t ih =>
    show (Jvm.Cond.and c (allAtoms t)).before a st = _
    rw [Jvm.Cond.before_and, ih, List.all_cons]
def words1 : List Jvm.Cond := Jvm.Cond.code x code maxLocals ret :: tables_1
/-- a 'code' word, met by the world's own term for the bytes: nothing is compared byte by byte -/
theorem code_word {y : MethodName} {bytes : ByteArray} {mx : Nat} {rt : Option FieldType} {a : Array Value} {s : State} {m : MethodId} {meth : Method} {c : Code} (h1 : s.methodNamed? y = some m) (h2 : s.vm.method? m = some meth) (h3 : meth.code = some c) (h4 : c.code = bytes)
    (h5 : (c.maxLocals == mx && c.exceptionTable.isEmpty && decide (c.maxStack ≤ mostOperands) && decide (meth.sig.returnType = rt) && !meth.locks && decide (parseMethodDescriptor y.desc = some meth.sig)) = true) : (Jvm.Cond.code y bytes mx rt).before a s = true := by
  simp only [Bool.and_eq_true, beq_iff_eq, Bool.not_eq_true', decide_eq_true_eq] at h5
  obtain ⟨⟨⟨⟨⟨g1, g2⟩, g3⟩, g4⟩, g5⟩, g6⟩ := h5
  simp [Cond.before, Cond.holds, Cond.value, h1, h2, h3, h4, g1, g2, g3, g4, g5, g6]
def isCode : Jvm.Cond → Bool
  | .code _ _ _ _ => true
  | _ => false
theorem all_split {L : List Jvm.Cond} {P : Jvm.Cond → Bool} (h1 : L.all (fun c => isCode c || P c) = true) (h2 : ∀ c ∈ L.filter isCode, P c = true) : L.all P = true := by
  refine List.all_eq_true.mpr fun c hc => ?_
  have h := List.all_eq_true.mp h1 c hc
  rcases Bool.eq_false_or_eq_true (isCode c) with hi | hi
  · exact h2 c (List.mem_filter.mpr ⟨hc, hi⟩)
  · simpa [hi] using h
set_option maxRecDepth 65536 in
theorem w_c0 : (Jvm.Cond.code x code maxLocals ret).before args0 about1 = true := code_word (m := ⟨1, 1⟩) (meth := k1m1) (c := k1c1) (by decide +kernel) rfl rfl rfl (by decide +kernel)
set_option maxRecDepth 65536 in
theorem w_c1 : (Jvm.Cond.code ({ cls := "com/example/lean_layers/leanlayers/model/Lengths", name := "isLength", desc := "(D)Z" } : Jvm.MethodName) prog_40_method_2_code (2 : Nat) (Option.some Jvm.ClassFile.FieldType.boolean)).before args0 about1 = true := code_word (m := ⟨2, 1⟩) (meth := k2m1) (c := k2c1) (by decide +kernel) rfl rfl rfl (by decide +kernel)
def codes1 : List Jvm.Cond := [Jvm.Cond.code x code maxLocals ret, Jvm.Cond.code ({ cls := "com/example/lean_layers/leanlayers/model/Lengths", name := "isLength", desc := "(D)Z" } : Jvm.MethodName) prog_40_method_2_code (2 : Nat) (Option.some Jvm.ClassFile.FieldType.boolean)]
set_option maxRecDepth 65536 in
theorem codes_eq : words1.filter isCode = codes1 := rfl
theorem w_codes : ∀ c ∈ words1.filter isCode, c.before args0 about1 = true := by
  rw [codes_eq]
  intro c hc
  simp only [codes1, List.mem_cons, List.not_mem_nil, or_false] at hc
  rcases hc with rfl | rfl
  · exact w_c0
  · exact w_c1
set_option maxRecDepth 65536 in
theorem w_t1 : words1.all (fun c => isCode c || c.before args0 about1) = true := by decide +kernel
theorem w_tables : (allAtoms (Jvm.Cond.code x code maxLocals ret :: tables_1)).before args0 about1 = true := by
  rw [allAtoms_all]
  show words1.all (fun c => c.before args0 about1) = true
  refine all_split ?_ w_codes
  rw [w_t1]
set_option maxRecDepth 65536 in
theorem w_case : (Jvm.Cond.and given_1 narrow_1).before args0 about1 = true := by decide +kernel
theorem w_applies : (headSpec (Jvm.Cond.code x code maxLocals ret :: tables_1) room_1).applies x e0.platform about1 = true :=
  (Spec.applies_iff w_frames).mpr ⟨w_running, w_runnable, w_alone, w_named, w_hears, w_ripe, w_room, w_tables⟩
theorem atStart : AtStart classFile x code maxLocals ret World_1 tables_1 room_1 Calls_1 rest_1 Pre_1 launch0 p0 e0 about1 theMethod args0 below0 :=
  ⟨lists_1, trivial, launch0.admits_env _ _ _, launch0.least_env, fairChoices_fair.cas, fairChoices_fair.clock, w_frames, w_args, w_heap, w_applies, trivial, trivial, w_case⟩
end start1
theorem witness_1 : WitnessClaimed_1 := ⟨start1.p0, start1.e0, start1.about1, start1.theMethod, start1.args0, start1.below0, start1.atStart⟩
end Jvm.Pilot.@@N@@
