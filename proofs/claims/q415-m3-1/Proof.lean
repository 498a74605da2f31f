import JvmDerived
import JvmDerived.Pilot.@@N@@Statement
import JvmDerived.Pilot.@@N@@Code
set_option linter.unusedVariables false
set_option linter.unusedSimpArgs false
namespace Jvm.RoadKit
open Sem ClassFile Op Lib Jvm.Stand Jvm.Free Jvm.LawKit
section New
variable {p : Program} {l : Launch} {e : Env} {R : Room} {s : State} {m : MethodId} {args : Array Value} {below : List Frame} {meth : Method} {c : Code} {T : State} {locs : List Loc} {cells slots : Nat}
theorem retI (X : Stand p l e R s m args below meth c T locs cells slots) (hx : p.tables.exec = Jvm.exec) {pc : Nat} {Ls : Array Slot} {z : Int32} {rest : List Value} (hret : meth.sig.returnType = some .int) (hd : decode c.code pc = .ok (.ireturn, 1)) {fs : List Frame}
    (hl : ∀ (f : JFrame) (acts : List Action), f.method = m → f.locked = none → f.entered = [] → (doReturn e (T.setTop f) acts (some (.int z))).1 = T.setFrames fs) : Steps p.tables e below (T.setTop (mkF m pc Ls (.int z :: rest))) (T.setFrames fs) := by
  have hm' : T.vm.method? m = some meth := X.method'
  have hn : narrow .int (.int z) = .int z := rfl
  show Steps p.tables e below (T.setTop { method := m, pc := pc, locals := Ls, stack := _ :: rest, locked := none }) _
  jvm_step X.here [X.here.top, hx, hd, hm', hret, hn]
  first | (intro acts; rw [hl _ acts rfl rfl rfl]) | rw [hl _ _ rfl rfl rfl]
  exact Steps.refl _
end New
end Jvm.RoadKit
namespace Jvm.Pilot.@@N@@
open Jvm Jvm.ClassFile Sem Op Lib Jvm.Free Jvm.Stand Jvm.LawKit Jvm.RoadKit Bundle Jvm.Pilot.@@N@@.Jvm.D
theorem own_selp {s : State} {args : Array Value} {y : MethodName} {n : Nat} (wi : (Jvm.Cond.instantiable y.cls n).before args s = true) (hp : s.PrivateAt y) (hi : (Jvm.Cond.instanceMethod y).before args s = true) (hy : y.cls ≠ "java/lang/invoke/MethodHandle" ∧ y.cls ≠ "java/lang/invoke/VarHandle") : (Jvm.Cond.selects y.cls y y).before args s = true := by
  obtain ⟨c, k, h1, h2, h3, h4, -⟩ := Cond.instantiable_spec wi
  exact selects_self_of_private h1 h2 (Bool.or_eq_false_iff.mp h4).1 hp hi hy
theorem own_cat {v : Value} (h : v.isRef = true) : v.category = 1 := by rcases ref_cases h with rfl | ⟨_, rfl⟩ <;> rfl
theorem own_ltL {x y : Int64} (h : x < y) : ifCond.holds .lt (lcmpW x y) = true ∧ ifCond.holds .ge (lcmpW x y) = false ∧ ifCond.holds .gt (lcmpW y x) = true ∧ ifCond.holds .le (lcmpW y x) = false :=
  ⟨(if0 _ _).trans (tlt ((lw_lt x y).mpr h)).1, (if0 _ _).trans (tlt ((lw_lt x y).mpr h)).2.1, (if0 _ _).trans (tlt ((lw_gt y x).mpr h)).2.2.1, (if0 _ _).trans (tlt ((lw_gt y x).mpr h)).2.2.2⟩
theorem own_fltL {x y : Int64} (h : ¬ x < y) : ifCond.holds .lt (lcmpW x y) = false ∧ ifCond.holds .ge (lcmpW x y) = true ∧ ifCond.holds .gt (lcmpW y x) = false ∧ ifCond.holds .le (lcmpW y x) = true :=
  ⟨(if0 _ _).trans (flt (fun q => h ((lw_lt x y).mp q))).1, (if0 _ _).trans (flt (fun q => h ((lw_lt x y).mp q))).2.1, (if0 _ _).trans (flt (fun q => h ((lw_gt y x).mp q))).2.2.1, (if0 _ _).trans (flt (fun q => h ((lw_gt y x).mp q))).2.2.2⟩
theorem own_eqL {x y : Int64} (h : x = y) : ifCond.holds .eq (lcmpW x y) = true ∧ ifCond.holds .ne (lcmpW x y) = false :=
  ⟨(if0 _ _).trans (teq ((lw_eq x y).mpr h)).1, (if0 _ _).trans (teq ((lw_eq x y).mpr h)).2⟩
theorem own_neL {x y : Int64} (h : ¬ x = y) : ifCond.holds .eq (lcmpW x y) = false ∧ ifCond.holds .ne (lcmpW x y) = true :=
  ⟨(if0 _ _).trans (feq (fun q => h ((lw_eq x y).mp q))).1, (if0 _ _).trans (feq (fun q => h ((lw_eq x y).mp q))).2⟩


def own_sr (x : Int64) (k : Int32) : Int64 := ((x.toUInt64 >>> (k &&& 0x3f).toInt64.toUInt64).toInt64)
def own_C1 : Int64 := (-4658895280553007687 : Int64)
def own_C2 : Int64 := (-7723592293110705685 : Int64)
def own_m1 (z : Int64) : Int64 := (z ^^^ own_sr z 30) * own_C1
def own_m2 (z : Int64) : Int64 := (own_m1 z ^^^ own_sr (own_m1 z) 27) * own_C2
def own_mix (z : Int64) : Int64 := own_m2 z ^^^ own_sr (own_m2 z) 31
def own_stp (a x : Int64) : Int64 := x * ((2 : Int64) - (a * x))
def own_inv (a : Int64) : Int64 := own_stp a (own_stp a (own_stp a (own_stp a (own_stp a a))))
def own_u1 (y : Int64) : Int64 := ((y ^^^ own_sr y 31) ^^^ own_sr y 62) * own_inv own_C2
def own_u2 (y : Int64) : Int64 := ((own_u1 y ^^^ own_sr (own_u1 y) 27) ^^^ own_sr (own_u1 y) 54) * own_inv own_C1
def own_unmix (y : Int64) : Int64 := (own_u2 y ^^^ own_sr (own_u2 y) 30) ^^^ own_sr (own_u2 y) 60
theorem own_bits (x : BitVec 64) (k : Nat) (hk : 22 ≤ k) : ((x ^^^ (x >>> k)) ^^^ ((x ^^^ (x >>> k)) >>> k)) ^^^ ((x ^^^ (x >>> k)) >>> (k + k)) = x := by
  apply BitVec.eq_of_getLsbD_eq
  intro i hi
  simp only [BitVec.getLsbD_xor, BitVec.getLsbD_ushiftRight]
  rw [show k + (k + i) = k + k + i by omega, BitVec.getLsbD_of_ge x (k + (k + k + i)) (by omega)]
  cases x.getLsbD i <;> cases x.getLsbD (k + i) <;> cases x.getLsbD (k + k + i) <;> rfl
theorem own_x30 (x : Int64) : ((x ^^^ own_sr x 30) ^^^ own_sr (x ^^^ own_sr x 30) 30) ^^^ own_sr (x ^^^ own_sr x 30) 60 = x := by
  apply Int64.toBitVec_inj.mp
  exact own_bits x.toBitVec 30 (by decide)
theorem own_x27 (x : Int64) : ((x ^^^ own_sr x 27) ^^^ own_sr (x ^^^ own_sr x 27) 27) ^^^ own_sr (x ^^^ own_sr x 27) 54 = x := by
  apply Int64.toBitVec_inj.mp
  exact own_bits x.toBitVec 27 (by decide)
theorem own_x31 (x : Int64) : ((x ^^^ own_sr x 31) ^^^ own_sr (x ^^^ own_sr x 31) 31) ^^^ own_sr (x ^^^ own_sr x 31) 62 = x := by
  apply Int64.toBitVec_inj.mp
  exact own_bits x.toBitVec 31 (by decide)
theorem own_i1 : own_C1 * own_inv own_C1 = 1 := by decide +kernel
theorem own_i2 : own_C2 * own_inv own_C2 = 1 := by decide +kernel
theorem own_unmix_mix (z : Int64) : own_unmix (own_mix z) = z := by
  have h1 : own_u1 (own_mix z) = own_m1 z ^^^ own_sr (own_m1 z) 27 := by
    unfold own_u1 own_mix
    rw [own_x31, own_m2, Int64.mul_assoc, own_i2, Int64.mul_one]
  have h2 : own_u2 (own_mix z) = z ^^^ own_sr z 30 := by
    unfold own_u2
    rw [h1, own_x27, own_m1, Int64.mul_assoc, own_i1, Int64.mul_one]
  unfold own_unmix
  rw [h2, own_x30]

section own_fl
open Jvm.FP.Core

theorem own_zfin {f : Fmt} (s : Bool) (c : Nat) (q : Int) : zval f (.fin s c q) = signed s (inUnits c q f.qmin) := rfl

theorem own_mul_units {a b : UInt64} (ha : DFin a) (hb : DFin b) :
    ∃ s c e, val64 (dmul a b) = round b64 (.fin s c e) ∧ 2 * b64.qmin ≤ e ∧
      signed s (inUnits c e (2 * b64.qmin)) = zval b64 (val64 a) * zval b64 (val64 b) := by
  obtain ⟨s, c, q, ha⟩ := ha
  obtain ⟨t, d, r, hb⟩ := hb
  have fa := val64_fits a
  have fb := val64_fits b
  rw [ha] at fa
  rw [hb] at fb
  obtain ⟨e1, e2, e3⟩ := product_units fa fb
  refine ⟨s != t, c * d, q + r, ?_, e2, ?_⟩
  · rw [val64_dmul, ha, hb, e1]
  · rw [e3, signed_xor, ha, hb]; rfl

theorem own_two_qmin : 2 ^ (b64.qmin - 2 * b64.qmin).toNat = one64 := by
  rw [← pow_qmin64]; congr 2

theorem own_mul_le {a b : UInt64} {V : Datum} (ha : DFin a) (hb : DFin b) (hV : Jvm.FP.Core.fits b64 V) (hn : V ≠ .nan)
    (h : zval b64 (val64 a) * zval b64 (val64 b) ≤ zval b64 V * (one64 : Int)) :
    zval b64 (val64 (dmul a b)) ≤ zval b64 V := by
  obtain ⟨s, c, e, e1, e2, e3⟩ := own_mul_units ha hb
  rw [e1]
  refine zval_round_le good_b64 hV hn (e0 := 2 * b64.qmin) (by decide) e2 ?_
  rw [e3, own_two_qmin]; exact h

theorem own_mul_ge {a b : UInt64} {V : Datum} (ha : DFin a) (hb : DFin b) (hV : Jvm.FP.Core.fits b64 V) (hn : V ≠ .nan)
    (h : zval b64 V * (one64 : Int) ≤ zval b64 (val64 a) * zval b64 (val64 b)) :
    zval b64 V ≤ zval b64 (val64 (dmul a b)) := by
  obtain ⟨s, c, e, e1, e2, e3⟩ := own_mul_units ha hb
  rw [e1]
  refine zval_round_ge good_b64 hV hn (e0 := 2 * b64.qmin) (by decide) e2 ?_
  rw [e3, own_two_qmin]; exact h

theorem own_mul_eq {a b : UInt64} {V : Datum} (ha : DFin a) (hb : DFin b) (hV : Jvm.FP.Core.fits b64 V) (hn : V ≠ .nan)
    (h : zval b64 (val64 a) * zval b64 (val64 b) = zval b64 V * (one64 : Int)) :
    zval b64 (val64 (dmul a b)) = zval b64 V :=
  Int.le_antisymm (own_mul_le ha hb hV hn (by omega)) (own_mul_ge ha hb hV hn (by omega))

theorem own_mul_nn {a b : UInt64} (ha : DFin a) (hb : DFin b) : val64 (dmul a b) ≠ .nan := by
  obtain ⟨s, c, e, e1, e2, e3⟩ := own_mul_units ha hb
  rw [e1]; exact roundRatio_ne_nan b64 s c 1 e

/-- A product that does not go beyond finite bounds is finite. -/
theorem own_fin_of {a : UInt64} (hn : val64 a ≠ .nan) (h : zmag b64 (val64 a) < b64.tails * 2 ^ (b64.exps - 2)) : DFin a := by
  cases hd : val64 a with
  | nan => exact absurd hd hn
  | inf s => rw [hd] at h; exact absurd h (Nat.lt_irrefl _)
  | fin s c q => exact ⟨s, c, q, hd⟩

theorem own_div_rr {a b : UInt64} (ha : DFin a) (hb : DFin b) (pb : zmag b64 (val64 b) ≠ 0) :
    val64 (ddiv a b) = roundRatio b64 (sgn (val64 a) != sgn (val64 b)) (zmag b64 (val64 a)) (zmag b64 (val64 b)) 0 := by
  obtain ⟨s, c, q, ha⟩ := ha
  obtain ⟨t, d, r, hb⟩ := hb
  have fa := (val64_fits a)
  have fb := (val64_fits b)
  rw [ha] at fa
  rw [hb] at fb
  have fa := fa.2.1
  have fb := fb.2.1
  rw [hb] at pb
  rw [val64_ddiv, ha, hb]
  change inUnits d r b64.qmin ≠ 0 at pb
  have hd : d ≠ 0 := by
    rintro rfl
    exact pb (Nat.zero_mul _)
  have e : quotient b64 (.fin s c q) (.fin t d r) = roundRatio b64 (s != t) c d (q - r) := by
    show (if d = 0 then _ else _) = _
    rw [if_neg hd]
  rw [e]
  refine roundRatio_congr (Nat.pos_of_ne_zero hd) (Nat.pos_of_ne_zero pb) ?_
  show c * inUnits d r b64.qmin * 2 ^ (q - r - 0).toNat = inUnits c q b64.qmin * d * 2 ^ (0 - (q - r)).toNat
  unfold inUnits
  have e : (r - b64.qmin).toNat + (q - r - 0).toNat = (q - b64.qmin).toNat + (0 - (q - r)).toNat := by omega
  calc c * (d * 2 ^ (r - b64.qmin).toNat) * 2 ^ (q - r - 0).toNat
      = c * d * (2 ^ (r - b64.qmin).toNat * 2 ^ (q - r - 0).toNat) := by ac_rfl
    _ = c * d * (2 ^ (q - b64.qmin).toNat * 2 ^ (0 - (q - r)).toNat) := by rw [← Nat.pow_add, e, Nat.pow_add]
    _ = c * 2 ^ (q - b64.qmin).toNat * d * 2 ^ (0 - (q - r)).toNat := by ac_rfl

theorem own_rr_le {s : Bool} {A B : Nat} {V : Datum} (hB : 0 < B) (hV : Jvm.FP.Core.fits b64 V) (hn : V ≠ .nan)
    (h : A * one64 ≤ zmag b64 V * B) : zmag b64 (roundRatio b64 s A B 0) ≤ zmag b64 V := by
  refine zmag_roundRatio_le good_b64 hB hV hn (Int.le_refl _) (by decide) ?_
  rw [Int.sub_self, show (0 : Int).toNat = 0 from rfl, Nat.pow_zero, Nat.mul_one]
  unfold inUnits
  rw [Int.zero_sub, pow_qmin64]; exact h

theorem own_rr_ge {s : Bool} {A B : Nat} {V : Datum} (hB : 0 < B) (hV : Jvm.FP.Core.fits b64 V)
    (h : zmag b64 V * B ≤ A * one64) : zmag b64 V ≤ zmag b64 (roundRatio b64 s A B 0) := by
  refine zmag_roundRatio_ge good_b64 hB hV (Int.le_refl _) (by decide) ?_
  rw [Int.sub_self, show (0 : Int).toNat = 0 from rfl, Nat.pow_zero, Nat.mul_one]
  unfold inUnits
  rw [Int.zero_sub, pow_qmin64]; exact h

theorem own_mono_nat {a b a' b' x y : Nat} (hb : 0 < b) (hb' : 0 < b') (h : a * b' ≤ a' * b)
    (h1 : y * b < a) (h2 : a' < x * b')
    (d1 : ((a : Int) - (x : Int) * b).natAbs ≤ ((a : Int) - (y : Int) * b).natAbs)
    (d2 : ((a' : Int) - (y : Int) * b').natAbs ≤ ((a' : Int) - (x : Int) * b').natAbs) : a * b' = a' * b := by
  have l1 : a < x * b := by
    refine Nat.lt_of_mul_lt_mul_right (a := b') ?_
    calc a * b' ≤ a' * b := h
      _ < x * b' * b := Nat.mul_lt_mul_of_pos_right h2 hb
      _ = x * b * b' := by ac_rfl
  have l2 : y * b' < a' := by
    refine Nat.lt_of_mul_lt_mul_right (a := b) ?_
    calc y * b' * b = y * b * b' := by ac_rfl
      _ < a * b' := Nat.mul_lt_mul_of_pos_right h1 hb'
      _ ≤ a' * b := h
  have m1 : x * b + y * b ≤ 2 * a := by
    rw [← Int.natCast_mul, ← Int.natCast_mul] at d1
    omega
  have m2 : 2 * a' ≤ x * b' + y * b' := by
    rw [← Int.natCast_mul, ← Int.natCast_mul] at d2
    omega
  have m3 : 2 * a' * b ≤ (x * b' + y * b') * b := Nat.mul_le_mul_right _ m2
  have m4 : (x * b + y * b) * b' ≤ 2 * a * b' := Nat.mul_le_mul_right _ m1
  have m5 : (x * b' + y * b') * b = (x * b + y * b) * b' := by
    rw [Nat.add_mul, Nat.add_mul]; congr 1 <;> ac_rfl
  rw [Nat.mul_assoc] at m3 m4
  omega

theorem own_rr_mono {s : Bool} {A B A' B' c c' : Nat} {q q' : Int} (hB : 0 < B) (hB' : 0 < B')
    (hx : roundRatio b64 s A B 0 = .fin s c q) (hy : roundRatio b64 s A' B' 0 = .fin s c' q')
    (h : A * B' ≤ A' * B) : zmag b64 (roundRatio b64 s A B 0) ≤ zmag b64 (roundRatio b64 s A' B' 0) := by
  refine Nat.le_of_not_lt fun hlt => ?_
  have fx := roundRatio_fits good_b64 s A hB 0
  have fy := roundRatio_fits good_b64 s A' hB' 0
  have h1 : zmag b64 (roundRatio b64 s A' B' 0) * B < A * one64 := Nat.lt_of_not_le fun hle =>
    Nat.lt_irrefl _ (Nat.lt_of_lt_of_le hlt (own_rr_le hB fy (by rw [hy]; exact Datum.noConfusion) hle))
  have h2 : A' * one64 < zmag b64 (roundRatio b64 s A B 0) * B' := Nat.lt_of_not_le fun hle =>
    Nat.lt_irrefl _ (Nat.lt_of_lt_of_le hlt (own_rr_ge hB' fx hle))
  have zx : zmag b64 (roundRatio b64 s A B 0) = inUnits c q b64.qmin := by rw [hx]; rfl
  have zy : zmag b64 (roundRatio b64 s A' B' 0) = inUnits c' q' b64.qmin := by rw [hy]; rfl
  rw [hx] at fx
  rw [hy] at fy
  have d1 := roundRatio_nearest good_b64 hB hx fy.1 fy.2.1 (Int.le_refl _) (show b64.qmin ≤ 0 by decide)
  have d2 := roundRatio_nearest good_b64 hB' hy fx.1 fx.2.1 (Int.le_refl _) (show b64.qmin ≤ 0 by decide)
  unfold distance at d1 d2
  have u : ∀ A : Nat, inUnits A 0 b64.qmin = A * one64 := by
    intro A; unfold inUnits; rw [Int.zero_sub, pow_qmin64]
  rw [u, ← zx, ← zy] at d1
  rw [u, ← zx, ← zy] at d2
  have hh : A * one64 * B' ≤ A' * one64 * B := by
    calc A * one64 * B' = A * B' * one64 := Nat.mul_right_comm ..
      _ ≤ A' * B * one64 := Nat.mul_le_mul_right _ h
      _ = A' * one64 * B := Nat.mul_right_comm ..
  have e := own_mono_nat hB hB' hh h1 h2 d1 d2
  have e2 : A * B' = A' * B := by
    refine Nat.eq_of_mul_eq_mul_right one64_pos ?_
    calc A * B' * one64 = A * one64 * B' := Nat.mul_right_comm ..
      _ = A' * one64 * B := e
      _ = A' * B * one64 := Nat.mul_right_comm ..
  rw [roundRatio_congr hB hB' (show A * B' * 2 ^ (0 - 0 : Int).toNat = A' * B * 2 ^ (0 - 0 : Int).toNat by rw [e2])] at hlt
  exact Nat.lt_irrefl _ hlt

end own_fl

section own_fl415
open Jvm.FP.Core

theorem own415_e : 9007199254740992 * zval b64 (val64 4368491638549381120) = (one64 : Int) := by decide +kernel
theorem own415_e2 : ((2 ^ (-53 - b64.qmin).toNat : Nat) : Int) = zval b64 (val64 4368491638549381120) := by decide +kernel
theorem own415_big : zval b64 (val64 4845873199050653696) = 9007199254740992 * (one64 : Int) := by decide +kernel
theorem own415_one : zval b64 (val64 4607182418800017408) = (one64 : Int) := by decide +kernel
theorem own415_pos : 0 < zval b64 (val64 4368491638549381120) := by decide +kernel
theorem own415_efin : DFin 4368491638549381120 := ⟨_, _, _, show val64 4368491638549381120 = .fin false (2 ^ 52) (-105) by decide +kernel⟩
theorem own415_bfin : DFin 4845873199050653696 := ⟨_, _, _, show val64 4845873199050653696 = .fin false (2 ^ 52) 1 by decide +kernel⟩
theorem own415_top : 9007199254740992 * (2 ^ (-53 - b64.qmin).toNat) < b64.tails * 2 ^ (b64.exps - 2) := by decide +kernel

def own415_d (t : Int64) : UInt64 := dmul (l2d t) 4368491638549381120

theorem own415_ne (t : Int64) : val64 (own415_d t) ≠ .nan := own_mul_nn (l2d_fin t) own415_efin

theorem own415_lz {t : Int64} (h0 : 0 ≤ t.toInt) (h1 : t.toInt < 9007199254740992) :
    zval b64 (val64 (l2d t)) = t.toInt * (one64 : Int) :=
  DInt_zval (l2d_int (by rw [show (2 : Nat) ^ 53 = 9007199254740992 from rfl]; omega))

theorem own415_exact {t : Int64} (h0 : 0 ≤ t.toInt) (h1 : t.toInt < 9007199254740992) :
    ∃ c q, Jvm.FP.Core.fits b64 (.fin false c q) ∧ zval b64 (.fin false c q) = t.toInt * zval b64 (val64 4368491638549381120) := by
  obtain ⟨c, q, e1, e2⟩ := round_exact good_b64 false (c := t.toInt.toNat) (q := -53)
    (by rw [show 2 ^ b64.p = 9007199254740992 from rfl]; omega) (by decide) (by decide)
  refine ⟨c, q, e1 ▸ round_fits good_b64 _, ?_⟩
  rw [own_zfin, e2, ← own415_e2]
  unfold inUnits signed
  rw [if_neg (by decide), Int.natCast_mul, Int.toNat_of_nonneg h0]

theorem own415_z {t : Int64} (h0 : 0 ≤ t.toInt) (h1 : t.toInt < 9007199254740992) :
    zval b64 (val64 (own415_d t)) = t.toInt * zval b64 (val64 4368491638549381120) := by
  obtain ⟨c, q, f, e⟩ := own415_exact h0 h1
  rw [← e]
  refine own_mul_eq (l2d_fin t) own415_efin f Datum.noConfusion ?_
  rw [e, own415_lz h0 h1]
  exact Int.mul_right_comm ..

theorem own415_fin {t : Int64} (h0 : 0 ≤ t.toInt) (h1 : t.toInt < 9007199254740992) : DFin (own415_d t) := by
  refine own_fin_of (own415_ne t) (Nat.lt_of_le_of_lt ?_ own415_top)
  have hz := own415_z h0 h1
  have : (zmag b64 (val64 (own415_d t)) : Nat) = (zval b64 (val64 (own415_d t))).natAbs := (natAbs_signed _ _).symm
  rw [this, hz, Int.natAbs_mul, ← own415_e2, Int.natAbs_natCast]
  exact Nat.mul_le_mul_right _ (by omega)

theorem own415_ge0 {t : Int64} (h0 : 0 ≤ t.toInt) (h1 : t.toInt < 9007199254740992) :
    dcmp 0 (own415_d t) = some .lt ∨ dcmp 0 (own415_d t) = some .eq := by
  rw [dcmp_le]
  refine ⟨by decide +kernel, own415_ne t, ?_⟩
  rw [zval64_zero, own415_z h0 h1]
  exact Int.mul_nonneg h0 (Int.le_of_lt own415_pos)

theorem own415_lt1 {t : Int64} (h0 : 0 ≤ t.toInt) (h1 : t.toInt < 9007199254740992) :
    dcmp (own415_d t) 4607182418800017408 = some .lt := by
  rw [dcmp_lt]
  refine ⟨own415_ne t, by decide +kernel, ?_⟩
  rw [own415_one, own415_z h0 h1, ← own415_e]
  exact Int.mul_lt_mul_of_pos_right h1 own415_pos

theorem own415_back {t : Int64} (h0 : 0 ≤ t.toInt) (h1 : t.toInt < 9007199254740992) :
    dcmp (dmul (own415_d t) 4845873199050653696) (l2d t) = some .eq := by
  rw [dcmp_eq]
  refine ⟨own_mul_nn (own415_fin h0 h1) own415_bfin, (l2d_fin t).ne_nan, ?_⟩
  refine own_mul_eq (own415_fin h0 h1) own415_bfin (val64_fits _) (l2d_fin t).ne_nan ?_
  rw [own415_z h0 h1, own415_lz h0 h1, own415_big]
  rw [Int.mul_assoc, Int.mul_assoc]
  refine congrArg (t.toInt * ·) ?_
  rw [← own415_e]
  generalize zval b64 (val64 4368491638549381120) = z
  show z * (9007199254740992 * (9007199254740992 * z)) = 9007199254740992 * z * (9007199254740992 * z)
  ac_rfl

end own_fl415


theorem own_topr (x : Int64) : 0 ≤ (own_sr x 11).toInt ∧ (own_sr x 11).toInt < 9007199254740992 := by
  have e : (own_sr x 11).toInt = (x.toInt % 18446744073709551616) / (2 ^ 11 : Nat) := c_lushr x 11 11 (by decide) (by decide)
  rw [e, show ((2 ^ 11 : Nat) : Int) = 2048 from rfl]
  omega
theorem own_nn1 (x : Int64) : Jvm.Free.Fl.NoNaN64 (FP.dmul (FP.l2d (own_sr x 11)) (4368491638549381120 : UInt64)) :=
  Jvm.Free.Fl.noNaN64_no.mpr ((Jvm.FP.Core.notNaN_iff _).mpr (own415_ne (own_sr x 11)))
theorem own_nn2 (x : Int64) : Jvm.Free.Fl.NoNaN64 (FP.dmul (FP.dmul (FP.l2d (own_sr x 11)) (4368491638549381120 : UInt64)) (4845873199050653696 : UInt64)) :=
  Jvm.Free.Fl.noNaN64_no.mpr ((Jvm.FP.Core.notNaN_iff _).mpr (own_mul_nn (own415_fin (own_topr x).1 (own_topr x).2) own415_bfin))
theorem own_c41 (x : Int64) : ¬ (0 : Int32) < (cmpValue (FP.dcmp (0 : UInt64) (FP.dmul (FP.l2d (own_sr x 11)) (4368491638549381120 : UInt64))) .g) := by
  have h : FP.dcmp (0 : UInt64) (FP.dmul (FP.l2d (own_sr x 11)) (4368491638549381120 : UInt64)) = some .lt ∨ FP.dcmp (0 : UInt64) (FP.dmul (FP.l2d (own_sr x 11)) (4368491638549381120 : UInt64)) = some .eq := own415_ge0 (own_topr x).1 (own_topr x).2
  rcases h with h | h <;> rw [h] <;> decide
theorem own_c48 (x : Int64) : (cmpValue (FP.dcmp (FP.dmul (FP.l2d (own_sr x 11)) (4368491638549381120 : UInt64)) (4607182418800017408 : UInt64)) .g) < (0 : Int32) := by
  have h : FP.dcmp (FP.dmul (FP.l2d (own_sr x 11)) (4368491638549381120 : UInt64)) (4607182418800017408 : UInt64) = some .lt := own415_lt1 (own_topr x).1 (own_topr x).2
  rw [h]; decide
theorem own_c68 (x : Int64) : (cmpValue (FP.dcmp (FP.dmul (FP.dmul (FP.l2d (own_sr x 11)) (4368491638549381120 : UInt64)) (4845873199050653696 : UInt64)) (FP.l2d (own_sr x 11))) .l) = (0 : Int32) := by
  have h : FP.dcmp (FP.dmul (FP.dmul (FP.l2d (own_sr x 11)) (4368491638549381120 : UInt64)) (4845873199050653696 : UInt64)) (FP.l2d (own_sr x 11)) = some .eq := own415_back (own_topr x).1 (own_topr x).2
  rw [h]; decide

theorem d1_0 : decode prog_8_method_1_code 0 = .ok (.aload_n 0, 1) := by decide +kernel
theorem d1_1 : decode prog_8_method_1_code 1 = .ok (.invokespecial 1, 3) := by decide +kernel
theorem d1_4 : decode prog_8_method_1_code 4 = .ok (.aload_n 0, 1) := by decide +kernel
theorem d1_5 : decode prog_8_method_1_code 5 = .ok (.lload_n 1, 1) := by decide +kernel
theorem d1_6 : decode prog_8_method_1_code 6 = .ok (.putfield 7, 3) := by decide +kernel
theorem d1_9 : decode prog_8_method_1_code 9 = .ok (.return_, 1) := by decide +kernel
theorem pn_0 : plainName "com/example/wakasato/wakasato/search/SeededRandom" = true := by first | (simp [plainName, overriddenIn]; done) | decide +kernel
theorem ef_1 (m : MethodId) (o0 : Addr) (q1 : Int64) : entryFrame m #[(.ref o0), (.long q1)] 3 = mkF m 0 #[.val (.ref o0), .val (.long q1), .second] [] := by first | (simp [entryFrame, mkF, argsToLocals, Value.category]; done) | rfl

def Q1 (Z : State) (o0 : Addr) (q1 : Int64) (w : Int64) (h0 : Heap) (n0 : Nat) (v : Option Value) (h : Heap) (L : List Loc) : Prop := v = none ∧ Fr n0 L ∧ Keep h0 h [o0] ∧ (Fld Z h o0 "com/example/wakasato/wakasato/search/SeededRandom" "state" "J" (.long q1))
set_option maxRecDepth 65536 in
set_option maxHeartbeats 40000000 in
theorem rm1 (l : Launch) (Z : State) (a0 : Array Value) (hw : ∀ d ∈ tables_1, d.before a0 Z = true) (ws : List Jvm.Cond) (o0 : Addr) (q1 : Int64) (w : Int64) (h0 : Heap) (n0 : Nat) (Z0 : n0 ≤ h0.size) (F_state_o0 : Fld Z h0 o0 "com/example/wakasato/wakasato/search/SeededRandom" "state" "J" (.long w)) (E_o0 : Exa Z h0 o0 "com/example/wakasato/wakasato/search/SeededRandom") (g_o0 : n0 ≤ o0) :
    MetFree l (⟨"com/example/wakasato/wakasato/search/SeededRandom", "<init>", "(J)V"⟩ : MethodName) (head1 (Jvm.Cond.code (⟨"com/example/wakasato/wakasato/search/SeededRandom", "<init>", "(J)V"⟩ : MethodName) prog_8_method_1_code 3 none :: ws) ({ frames := 1, cells := 0, slots := 0, locals := 12 } : Room)) (fun a U => a = #[(.ref o0), (.long q1)] ∧ Z.Warmed39 U.vm ∧ U.heap = h0) (fun _ _ _ _ _ => True) (fun _ U o U' => ∃ v L, o = .returned v ∧ Q1 Z o0 q1 w h0 n0 v U'.heap L ∧ FrameEnd U o U' L ({ frames := 1, cells := 0, slots := 0, locals := 12 } : Room).cells ({ frames := 1, cells := 0, slots := 0, locals := 12 } : Room).slots) := by
  refine MetFree.of_bodySF (plainFor_of_name pn_0) hisR ?_
  intro p e s m args below meth c s₁ Bd hml0 hP hK
  obtain ⟨rfl, hZ, hh⟩ := hP
  have hx := Bd.exec
  have hby := Bd.bytes
  have hml : c.maxLocals = 3 := hml0
  have hown : s.vm.findClass "com/example/wakasato/wakasato/search/SeededRandom" = some m.cls := findClass_of_methodNamed Bd.named
  have hnm := (name_of_methodNamed Bd.named Bd.method).1
  have X0 : Stand p l e ({ frames := 1, cells := 0, slots := 0, locals := 12 } : Room) s m #[(.ref o0), (.long q1)] below meth c s₁ [] 0 0 := Stand.of_body Bd
  have e0 : s₁.heap = h0 := by rw [← hh, Bd.state]; rfl
  have N0 := Fr.nil n0
  have pre0 : ∀ t, Steps p.tables e below (s₁.setTop (mkF m 0 #[.val (.ref o0), .val (.long q1), .second] [])) t → Steps p.tables e below (s₁.setTop (entryFrame m #[(.ref o0), (.long q1)] 3)) t := fun t k => castTop (ef_1 m o0 q1) k
  obtain ⟨T1, X1, e1, st1⟩ := initO X0 hx hZ hown (hw _ (List.mem_of_getElem? (i := 6) rfl)) (hw _ (List.mem_of_getElem? (i := 7) rfl)) (hw _ (List.mem_of_getElem? (i := 8) rfl)) e0 (g := (mkF m 1 #[.val (.ref o0), .val (.long q1), .second] [(.ref o0)])) rfl (by rw [hml]; rfl) rfl (hb hby d1_1) (by decide) (W := 0) (by show 2 * 0 + _ ≤ _; exact Nat.le_of_eq rfl) (by decide)
  obtain ⟨T2, h2, X2, e2, W2, st2⟩ := putF X1 hx hZ hown (host := "") (Or.inl (hw _ (List.mem_of_getElem? (i := 9) rfl))) Via.refl e1 F_state_o0 E_o0 (Or.inl (hw _ (List.mem_of_getElem? (i := 10) rfl))) (hw _ (List.mem_of_getElem? (i := 1) rfl)) (ty := .long) (by decide) rfl rfl (g := (mkF m 6 #[.val (.ref o0), .val (.long q1), .second] [(.long q1), (.ref o0)])) rfl rfl (hb hby d1_6)
  have N2 := Fr.snoc X2 N0 g_o0
  have F_state_o0_w2 : Fld Z h2 o0 "com/example/wakasato/wakasato/search/SeededRandom" "state" "J" (.long q1) := (F_state_o0).same W2
  have E_o0_3 : Exa Z h2 o0 "com/example/wakasato/wakasato/search/SeededRandom" := (E_o0).wr W2
  have SZ4 : h0.size ≤ h2.size := by rw [W2.size]; exact (Nat.le_refl _)
  have ZZ4 : n0 ≤ h2.size := Nat.le_trans Z0 SZ4
  have K5 : Keep h0 h2 [o0] := ((Keep.refl h0 [o0])).wr W2 (Or.inl (List.mem_of_getElem? (i := 0) rfl))
  have pre6 : ∀ t, Steps p.tables e below (T2.setTop (mkF m 9 #[.val (.ref o0), .val (.long q1), .second] [])) t → Steps p.tables e below (s₁.setTop (entryFrame m #[(.ref o0), (.long q1)] 3)) t := fun t k => pre0 t (by
    show Steps p.tables e below (s₁.setTop (mkF m 0 #[.val (.ref o0), .val (.long q1), .second] [])) _
    refine XS.aloadN X0.here hx rfl (hb hby d1_0) rfl rfl ?_
    show Steps p.tables e below (s₁.setTop (mkF m 1 #[.val (.ref o0), .val (.long q1), .second] [(.ref o0)])) _
    refine st1 _ ?_
    show Steps p.tables e below (T1.setTop (mkF m 4 #[.val (.ref o0), .val (.long q1), .second] [])) _
    refine XS.aloadN X1.here hx rfl (hb hby d1_4) rfl rfl ?_
    show Steps p.tables e below (T1.setTop (mkF m 5 #[.val (.ref o0), .val (.long q1), .second] [(.ref o0)])) _
    refine XS.lloadN X1.here hx rfl (hb hby d1_5) rfl ?_
    show Steps p.tables e below (T1.setTop (mkF m 6 #[.val (.ref o0), .val (.long q1), .second] [(.long q1), (.ref o0)])) _
    refine st2 _ ?_
    show Steps p.tables e below (T2.setTop (mkF m 9 #[.val (.ref o0), .val (.long q1), .second] [])) _
    exact k)
  obtain ⟨fs, hr, hrun, hended, hW, hsame⟩ := X2.leave (v := none) (fun _ => rfl)
  refine ⟨_, _, pre6 _ ?_, hrun, hended, _, _, rfl, ?_, ⟨_, rfl⟩, hW, hsame.mono (by decide) (by decide)⟩
  · exact X2.returnOut hx Bd.returns (hb hby d1_9) hr
  · show Q1 Z o0 q1 w h0 n0 _ T2.heap _
    rw [e2]
    exact ⟨rfl, N2, K5, F_state_o0_w2⟩
theorem d4_0 : decode prog_8_method_3_code 0 = .ok (.aload_n 0, 1) := by decide +kernel
theorem d4_1 : decode prog_8_method_3_code 1 = .ok (.dup, 1) := by decide +kernel
theorem d4_2 : decode prog_8_method_3_code 2 = .ok (.getfield 7, 3) := by decide +kernel
theorem d4_5 : decode prog_8_method_3_code 5 = .ok (.ldc2_w 13, 3) := by decide +kernel
theorem d4_8 : decode prog_8_method_3_code 8 = .ok (.ladd, 1) := by decide +kernel
theorem d4_9 : decode prog_8_method_3_code 9 = .ok (.putfield 7, 3) := by decide +kernel
theorem d4_12 : decode prog_8_method_3_code 12 = .ok (.aload_n 0, 1) := by decide +kernel
theorem d4_13 : decode prog_8_method_3_code 13 = .ok (.getfield 7, 3) := by decide +kernel
theorem d4_16 : decode prog_8_method_3_code 16 = .ok (.lstore_n 1, 1) := by decide +kernel
theorem d4_17 : decode prog_8_method_3_code 17 = .ok (.lload_n 1, 1) := by decide +kernel
theorem d4_18 : decode prog_8_method_3_code 18 = .ok (.lload_n 1, 1) := by decide +kernel
theorem d4_19 : decode prog_8_method_3_code 19 = .ok (.bipush 30, 2) := by decide +kernel
theorem d4_21 : decode prog_8_method_3_code 21 = .ok (.lushr, 1) := by decide +kernel
theorem d4_22 : decode prog_8_method_3_code 22 = .ok (.lxor, 1) := by decide +kernel
theorem d4_23 : decode prog_8_method_3_code 23 = .ok (.ldc2_w 15, 3) := by decide +kernel
theorem d4_26 : decode prog_8_method_3_code 26 = .ok (.lmul, 1) := by decide +kernel
theorem d4_27 : decode prog_8_method_3_code 27 = .ok (.lstore_n 1, 1) := by decide +kernel
theorem d4_28 : decode prog_8_method_3_code 28 = .ok (.lload_n 1, 1) := by decide +kernel
theorem d4_29 : decode prog_8_method_3_code 29 = .ok (.lload_n 1, 1) := by decide +kernel
theorem d4_30 : decode prog_8_method_3_code 30 = .ok (.bipush 27, 2) := by decide +kernel
theorem d4_32 : decode prog_8_method_3_code 32 = .ok (.lushr, 1) := by decide +kernel
theorem d4_33 : decode prog_8_method_3_code 33 = .ok (.lxor, 1) := by decide +kernel
theorem d4_34 : decode prog_8_method_3_code 34 = .ok (.ldc2_w 17, 3) := by decide +kernel
theorem d4_37 : decode prog_8_method_3_code 37 = .ok (.lmul, 1) := by decide +kernel
theorem d4_38 : decode prog_8_method_3_code 38 = .ok (.lstore_n 1, 1) := by decide +kernel
theorem d4_39 : decode prog_8_method_3_code 39 = .ok (.lload_n 1, 1) := by decide +kernel
theorem d4_40 : decode prog_8_method_3_code 40 = .ok (.lload_n 1, 1) := by decide +kernel
theorem d4_41 : decode prog_8_method_3_code 41 = .ok (.bipush 31, 2) := by decide +kernel
theorem d4_43 : decode prog_8_method_3_code 43 = .ok (.lushr, 1) := by decide +kernel
theorem d4_44 : decode prog_8_method_3_code 44 = .ok (.lxor, 1) := by decide +kernel
theorem d4_45 : decode prog_8_method_3_code 45 = .ok (.lreturn, 1) := by decide +kernel
theorem ef_4 (m : MethodId) (o0 : Addr) : entryFrame m #[(.ref o0)] 3 = mkF m 0 #[.val (.ref o0), .unset, .unset] [] := by first | (simp [entryFrame, mkF, argsToLocals, Value.category]; done) | rfl
def f4_27 (w : Int64) : Int64 := (((w + (-7046029254386353131 : Int64)) ^^^ (((w + (-7046029254386353131 : Int64)).toUInt64 >>> ((30 : Int32) &&& 0x3f).toInt64.toUInt64).toInt64)) * (-4658895280553007687 : Int64))
def f4_38 (w : Int64) : Int64 := (((f4_27 w) ^^^ (((f4_27 w).toUInt64 >>> ((27 : Int32) &&& 0x3f).toInt64.toUInt64).toInt64)) * (-7723592293110705685 : Int64))

def Q4 (Z : State) (o0 : Addr) (w : Int64) (h0 : Heap) (n0 : Nat) (v : Option Value) (h : Heap) (L : List Loc) : Prop := v = some (.long (own_mix (w + (-7046029254386353131 : Int64)))) ∧ Fr n0 L ∧ Keep h0 h [o0] ∧ (Fld Z h o0 "com/example/wakasato/wakasato/search/SeededRandom" "state" "J" (.long (w + (-7046029254386353131 : Int64))))
set_option maxRecDepth 65536 in
set_option maxHeartbeats 40000000 in
theorem rm4 (l : Launch) (Z : State) (a0 : Array Value) (hw : ∀ d ∈ tables_1, d.before a0 Z = true) (ws : List Jvm.Cond) (o0 : Addr) (w : Int64) (h0 : Heap) (n0 : Nat) (Z0 : n0 ≤ h0.size) (F_state_o0 : Fld Z h0 o0 "com/example/wakasato/wakasato/search/SeededRandom" "state" "J" (.long w)) (E_o0 : Exa Z h0 o0 "com/example/wakasato/wakasato/search/SeededRandom") (g_o0 : n0 ≤ o0) :
    MetFree l (⟨"com/example/wakasato/wakasato/search/SeededRandom", "nextLong", "()J"⟩ : MethodName) (head1 (Jvm.Cond.code (⟨"com/example/wakasato/wakasato/search/SeededRandom", "nextLong", "()J"⟩ : MethodName) prog_8_method_3_code 3 (some .long) :: ws) ({ frames := 0, cells := 0, slots := 0, locals := 0 } : Room)) (fun a U => a = #[(.ref o0)] ∧ Z.Warmed39 U.vm ∧ U.heap = h0) (fun _ _ _ _ _ => True) (fun _ U o U' => ∃ v L, o = .returned v ∧ Q4 Z o0 w h0 n0 v U'.heap L ∧ FrameEnd U o U' L ({ frames := 0, cells := 0, slots := 0, locals := 0 } : Room).cells ({ frames := 0, cells := 0, slots := 0, locals := 0 } : Room).slots) := by
  refine MetFree.of_bodySF (plainFor_of_name pn_0) hisR ?_
  intro p e s m args below meth c s₁ Bd hml0 hP hK
  obtain ⟨rfl, hZ, hh⟩ := hP
  have hx := Bd.exec
  have hby := Bd.bytes
  have hml : c.maxLocals = 3 := hml0
  have hown : s.vm.findClass "com/example/wakasato/wakasato/search/SeededRandom" = some m.cls := findClass_of_methodNamed Bd.named
  have hnm := (name_of_methodNamed Bd.named Bd.method).1
  have X0 : Stand p l e ({ frames := 0, cells := 0, slots := 0, locals := 0 } : Room) s m #[(.ref o0)] below meth c s₁ [] 0 0 := Stand.of_body Bd
  have e0 : s₁.heap = h0 := by rw [← hh, Bd.state]; rfl
  have N0 := Fr.nil n0
  have pre0 : ∀ t, Steps p.tables e below (s₁.setTop (mkF m 0 #[.val (.ref o0), .unset, .unset] [])) t → Steps p.tables e below (s₁.setTop (entryFrame m #[(.ref o0)] 3)) t := fun t k => castTop (ef_4 m o0) k
  obtain ⟨T1, X1, e1, st1⟩ := getF X0 hx hZ hown (host := "") (Or.inl (hw _ (List.mem_of_getElem? (i := 9) rfl))) Via.refl e0 F_state_o0 (g := (mkF m 2 #[.val (.ref o0), .unset, .unset] [(.ref o0), (.ref o0)])) rfl rfl (hb hby d4_2)
  obtain ⟨T2, h2, X2, e2, W2, st2⟩ := putF X1 hx hZ hown (host := "") (Or.inl (hw _ (List.mem_of_getElem? (i := 9) rfl))) Via.refl e1 F_state_o0 E_o0 (Or.inl (hw _ (List.mem_of_getElem? (i := 10) rfl))) (hw _ (List.mem_of_getElem? (i := 1) rfl)) (ty := .long) (by decide) rfl rfl (g := (mkF m 9 #[.val (.ref o0), .unset, .unset] [(.long (w + (-7046029254386353131 : Int64))), (.ref o0)])) rfl rfl (hb hby d4_9)
  have N2 := Fr.snoc X2 N0 g_o0
  have F_state_o0_w2 : Fld Z h2 o0 "com/example/wakasato/wakasato/search/SeededRandom" "state" "J" (.long (w + (-7046029254386353131 : Int64))) := (F_state_o0).same W2
  have E_o0_3 : Exa Z h2 o0 "com/example/wakasato/wakasato/search/SeededRandom" := (E_o0).wr W2
  have SZ4 : h0.size ≤ h2.size := by rw [W2.size]; exact (Nat.le_refl _)
  have ZZ4 : n0 ≤ h2.size := Nat.le_trans Z0 SZ4
  have K5 : Keep h0 h2 [o0] := ((Keep.refl h0 [o0])).wr W2 (Or.inl (List.mem_of_getElem? (i := 0) rfl))
  obtain ⟨T6, X6, e6, st6⟩ := getF X2 hx hZ hown (host := "") (Or.inl (hw _ (List.mem_of_getElem? (i := 9) rfl))) Via.refl e2 F_state_o0_w2 (g := (mkF m 13 #[.val (.ref o0), .unset, .unset] [(.ref o0)])) rfl rfl (hb hby d4_13)
  have pre7 : ∀ t, Steps p.tables e below (T6.setTop (mkF m 45 #[.val (.ref o0), .val (.long (f4_38 w)), .second] [(.long ((f4_38 w) ^^^ (((f4_38 w).toUInt64 >>> ((31 : Int32) &&& 0x3f).toInt64.toUInt64).toInt64)))])) t → Steps p.tables e below (s₁.setTop (entryFrame m #[(.ref o0)] 3)) t := fun t k => pre0 t (by
    show Steps p.tables e below (s₁.setTop (mkF m 0 #[.val (.ref o0), .unset, .unset] [])) _
    refine XS.aloadN X0.here hx rfl (hb hby d4_0) rfl rfl ?_
    show Steps p.tables e below (s₁.setTop (mkF m 1 #[.val (.ref o0), .unset, .unset] [(.ref o0)])) _
    refine XS.dup X0.here hx rfl (hb hby d4_1) rfl rfl ?_
    show Steps p.tables e below (s₁.setTop (mkF m 2 #[.val (.ref o0), .unset, .unset] [(.ref o0), (.ref o0)])) _
    refine st1 _ ?_
    show Steps p.tables e below (T1.setTop (mkF m 5 #[.val (.ref o0), .unset, .unset] [(.long w), (.ref o0)])) _
    refine X1.ldc2Long hx hown (mvT hZ (hw _ (List.mem_of_getElem? (i := 21) rfl))) (g := (mkF m 5 #[.val (.ref o0), .unset, .unset] [(.long w), (.ref o0)])) rfl (hb hby d4_5) _ ?_
    show Steps p.tables e below (T1.setTop (mkF m 8 #[.val (.ref o0), .unset, .unset] [(.long (-7046029254386353131 : Int64)), (.long w), (.ref o0)])) _
    refine XS.ladd X1.here hx rfl (hb hby d4_8) rfl ?_
    show Steps p.tables e below (T1.setTop (mkF m 9 #[.val (.ref o0), .unset, .unset] [(.long (w + (-7046029254386353131 : Int64))), (.ref o0)])) _
    refine st2 _ ?_
    show Steps p.tables e below (T2.setTop (mkF m 12 #[.val (.ref o0), .unset, .unset] [])) _
    refine XS.aloadN X2.here hx rfl (hb hby d4_12) rfl rfl ?_
    show Steps p.tables e below (T2.setTop (mkF m 13 #[.val (.ref o0), .unset, .unset] [(.ref o0)])) _
    refine st6 _ ?_
    show Steps p.tables e below (T6.setTop (mkF m 16 #[.val (.ref o0), .unset, .unset] [(.long (w + (-7046029254386353131 : Int64)))])) _
    refine XS.lstoreN X6.here hx rfl (hb hby d4_16) rfl (l' := #[.val (.ref o0), .val (.long (w + (-7046029254386353131 : Int64))), .second]) rfl ?_
    show Steps p.tables e below (T6.setTop (mkF m 17 #[.val (.ref o0), .val (.long (w + (-7046029254386353131 : Int64))), .second] [])) _
    refine XS.lloadN X6.here hx rfl (hb hby d4_17) rfl ?_
    show Steps p.tables e below (T6.setTop (mkF m 18 #[.val (.ref o0), .val (.long (w + (-7046029254386353131 : Int64))), .second] [(.long (w + (-7046029254386353131 : Int64)))])) _
    refine XS.lloadN X6.here hx rfl (hb hby d4_18) rfl ?_
    show Steps p.tables e below (T6.setTop (mkF m 19 #[.val (.ref o0), .val (.long (w + (-7046029254386353131 : Int64))), .second] [(.long (w + (-7046029254386353131 : Int64))), (.long (w + (-7046029254386353131 : Int64)))])) _
    refine XS.bipush X6.here hx rfl (hb hby d4_19) ?_
    show Steps p.tables e below (T6.setTop (mkF m 21 #[.val (.ref o0), .val (.long (w + (-7046029254386353131 : Int64))), .second] [(.int (30 : Int32)), (.long (w + (-7046029254386353131 : Int64))), (.long (w + (-7046029254386353131 : Int64)))])) _
    refine XS.lushr X6.here hx rfl (hb hby d4_21) rfl ?_
    show Steps p.tables e below (T6.setTop (mkF m 22 #[.val (.ref o0), .val (.long (w + (-7046029254386353131 : Int64))), .second] [(.long (((w + (-7046029254386353131 : Int64)).toUInt64 >>> ((30 : Int32) &&& 0x3f).toInt64.toUInt64).toInt64)), (.long (w + (-7046029254386353131 : Int64)))])) _
    refine XS.lxor X6.here hx rfl (hb hby d4_22) rfl ?_
    show Steps p.tables e below (T6.setTop (mkF m 23 #[.val (.ref o0), .val (.long (w + (-7046029254386353131 : Int64))), .second] [(.long ((w + (-7046029254386353131 : Int64)) ^^^ (((w + (-7046029254386353131 : Int64)).toUInt64 >>> ((30 : Int32) &&& 0x3f).toInt64.toUInt64).toInt64)))])) _
    refine X6.ldc2Long hx hown (mvT hZ (hw _ (List.mem_of_getElem? (i := 22) rfl))) (g := (mkF m 23 #[.val (.ref o0), .val (.long (w + (-7046029254386353131 : Int64))), .second] [(.long ((w + (-7046029254386353131 : Int64)) ^^^ (((w + (-7046029254386353131 : Int64)).toUInt64 >>> ((30 : Int32) &&& 0x3f).toInt64.toUInt64).toInt64)))])) rfl (hb hby d4_23) _ ?_
    show Steps p.tables e below (T6.setTop (mkF m 26 #[.val (.ref o0), .val (.long (w + (-7046029254386353131 : Int64))), .second] [(.long (-4658895280553007687 : Int64)), (.long ((w + (-7046029254386353131 : Int64)) ^^^ (((w + (-7046029254386353131 : Int64)).toUInt64 >>> ((30 : Int32) &&& 0x3f).toInt64.toUInt64).toInt64)))])) _
    refine XS.lmul X6.here hx rfl (hb hby d4_26) rfl ?_
    show Steps p.tables e below (T6.setTop (mkF m 27 #[.val (.ref o0), .val (.long (w + (-7046029254386353131 : Int64))), .second] [(.long (((w + (-7046029254386353131 : Int64)) ^^^ (((w + (-7046029254386353131 : Int64)).toUInt64 >>> ((30 : Int32) &&& 0x3f).toInt64.toUInt64).toInt64)) * (-4658895280553007687 : Int64)))])) _
    refine XS.lstoreN X6.here hx rfl (hb hby d4_27) rfl (l' := #[.val (.ref o0), .val (.long (f4_27 w)), .second]) rfl ?_
    show Steps p.tables e below (T6.setTop (mkF m 28 #[.val (.ref o0), .val (.long (f4_27 w)), .second] [])) _
    refine XS.lloadN X6.here hx rfl (hb hby d4_28) rfl ?_
    show Steps p.tables e below (T6.setTop (mkF m 29 #[.val (.ref o0), .val (.long (f4_27 w)), .second] [(.long (f4_27 w))])) _
    refine XS.lloadN X6.here hx rfl (hb hby d4_29) rfl ?_
    show Steps p.tables e below (T6.setTop (mkF m 30 #[.val (.ref o0), .val (.long (f4_27 w)), .second] [(.long (f4_27 w)), (.long (f4_27 w))])) _
    refine XS.bipush X6.here hx rfl (hb hby d4_30) ?_
    show Steps p.tables e below (T6.setTop (mkF m 32 #[.val (.ref o0), .val (.long (f4_27 w)), .second] [(.int (27 : Int32)), (.long (f4_27 w)), (.long (f4_27 w))])) _
    refine XS.lushr X6.here hx rfl (hb hby d4_32) rfl ?_
    show Steps p.tables e below (T6.setTop (mkF m 33 #[.val (.ref o0), .val (.long (f4_27 w)), .second] [(.long (((f4_27 w).toUInt64 >>> ((27 : Int32) &&& 0x3f).toInt64.toUInt64).toInt64)), (.long (f4_27 w))])) _
    refine XS.lxor X6.here hx rfl (hb hby d4_33) rfl ?_
    show Steps p.tables e below (T6.setTop (mkF m 34 #[.val (.ref o0), .val (.long (f4_27 w)), .second] [(.long ((f4_27 w) ^^^ (((f4_27 w).toUInt64 >>> ((27 : Int32) &&& 0x3f).toInt64.toUInt64).toInt64)))])) _
    refine X6.ldc2Long hx hown (mvT hZ (hw _ (List.mem_of_getElem? (i := 23) rfl))) (g := (mkF m 34 #[.val (.ref o0), .val (.long (f4_27 w)), .second] [(.long ((f4_27 w) ^^^ (((f4_27 w).toUInt64 >>> ((27 : Int32) &&& 0x3f).toInt64.toUInt64).toInt64)))])) rfl (hb hby d4_34) _ ?_
    show Steps p.tables e below (T6.setTop (mkF m 37 #[.val (.ref o0), .val (.long (f4_27 w)), .second] [(.long (-7723592293110705685 : Int64)), (.long ((f4_27 w) ^^^ (((f4_27 w).toUInt64 >>> ((27 : Int32) &&& 0x3f).toInt64.toUInt64).toInt64)))])) _
    refine XS.lmul X6.here hx rfl (hb hby d4_37) rfl ?_
    show Steps p.tables e below (T6.setTop (mkF m 38 #[.val (.ref o0), .val (.long (f4_27 w)), .second] [(.long (((f4_27 w) ^^^ (((f4_27 w).toUInt64 >>> ((27 : Int32) &&& 0x3f).toInt64.toUInt64).toInt64)) * (-7723592293110705685 : Int64)))])) _
    refine XS.lstoreN X6.here hx rfl (hb hby d4_38) rfl (l' := #[.val (.ref o0), .val (.long (f4_38 w)), .second]) rfl ?_
    show Steps p.tables e below (T6.setTop (mkF m 39 #[.val (.ref o0), .val (.long (f4_38 w)), .second] [])) _
    refine XS.lloadN X6.here hx rfl (hb hby d4_39) rfl ?_
    show Steps p.tables e below (T6.setTop (mkF m 40 #[.val (.ref o0), .val (.long (f4_38 w)), .second] [(.long (f4_38 w))])) _
    refine XS.lloadN X6.here hx rfl (hb hby d4_40) rfl ?_
    show Steps p.tables e below (T6.setTop (mkF m 41 #[.val (.ref o0), .val (.long (f4_38 w)), .second] [(.long (f4_38 w)), (.long (f4_38 w))])) _
    refine XS.bipush X6.here hx rfl (hb hby d4_41) ?_
    show Steps p.tables e below (T6.setTop (mkF m 43 #[.val (.ref o0), .val (.long (f4_38 w)), .second] [(.int (31 : Int32)), (.long (f4_38 w)), (.long (f4_38 w))])) _
    refine XS.lushr X6.here hx rfl (hb hby d4_43) rfl ?_
    show Steps p.tables e below (T6.setTop (mkF m 44 #[.val (.ref o0), .val (.long (f4_38 w)), .second] [(.long (((f4_38 w).toUInt64 >>> ((31 : Int32) &&& 0x3f).toInt64.toUInt64).toInt64)), (.long (f4_38 w))])) _
    refine XS.lxor X6.here hx rfl (hb hby d4_44) rfl ?_
    show Steps p.tables e below (T6.setTop (mkF m 45 #[.val (.ref o0), .val (.long (f4_38 w)), .second] [(.long ((f4_38 w) ^^^ (((f4_38 w).toUInt64 >>> ((31 : Int32) &&& 0x3f).toInt64.toUInt64).toInt64)))])) _
    exact k)
  obtain ⟨fs, hr, hrun, hended, hW, hsame⟩ := X6.leave (v := some (.long ((f4_38 w) ^^^ (((f4_38 w).toUInt64 >>> ((31 : Int32) &&& 0x3f).toInt64.toUInt64).toInt64)))) (fun h => by rw [Bd.returns] at h; cases h)
  refine ⟨_, _, pre7 _ ?_, hrun, hended, _, _, rfl, ?_, ⟨_, rfl⟩, hW, hsame.mono (by decide) (by decide)⟩
  · exact retOut X6 hx Bd.returns rfl (Or.inr (Or.inl ⟨rfl, rfl, _, rfl⟩)) (hb hby d4_45) hr
  · show Q4 Z o0 w h0 n0 _ T6.heap _
    rw [e6]
    exact ⟨rfl, N2, K5, F_state_o0_w2⟩
theorem d3_0 : decode prog_8_method_5_code 0 = .ok (.aload_n 0, 1) := by decide +kernel
theorem d3_1 : decode prog_8_method_5_code 1 = .ok (.invokevirtual 28, 3) := by decide +kernel
theorem d3_4 : decode prog_8_method_5_code 4 = .ok (.bipush 11, 2) := by decide +kernel
theorem d3_6 : decode prog_8_method_5_code 6 = .ok (.lushr, 1) := by decide +kernel
theorem d3_7 : decode prog_8_method_5_code 7 = .ok (.l2d, 1) := by decide +kernel
theorem d3_8 : decode prog_8_method_5_code 8 = .ok (.ldc2_w 32, 3) := by decide +kernel
theorem d3_11 : decode prog_8_method_5_code 11 = .ok (.dmul, 1) := by decide +kernel
theorem d3_12 : decode prog_8_method_5_code 12 = .ok (.dreturn, 1) := by decide +kernel
theorem pd_0 : parseMethodDescriptor "()J" = some ⟨[], some .long⟩ := by decide +kernel
theorem ef_3 (m : MethodId) (o0 : Addr) : entryFrame m #[(.ref o0)] 1 = mkF m 0 #[.val (.ref o0)] [] := by first | (simp [entryFrame, mkF, argsToLocals, Value.category]; done) | rfl

def Q3 (Z : State) (o0 : Addr) (w : Int64) (h0 : Heap) (n0 : Nat) (v : Option Value) (h : Heap) (L : List Loc) : Prop := v = some (.double (FP.dmul (FP.l2d (own_sr (own_mix (w + (-7046029254386353131 : Int64))) 11)) (4368491638549381120 : UInt64))) ∧ Fr n0 L ∧ Keep h0 h [o0] ∧ (Fld Z h o0 "com/example/wakasato/wakasato/search/SeededRandom" "state" "J" (.long (w + (-7046029254386353131 : Int64))))
set_option maxRecDepth 65536 in
set_option maxHeartbeats 40000000 in
theorem rm3 (l : Launch) (Z : State) (a0 : Array Value) (hw : ∀ d ∈ tables_1, d.before a0 Z = true) (ws : List Jvm.Cond) (o0 : Addr) (w : Int64) (h0 : Heap) (n0 : Nat) (Z0 : n0 ≤ h0.size) (F_state_o0 : Fld Z h0 o0 "com/example/wakasato/wakasato/search/SeededRandom" "state" "J" (.long w)) (E_o0 : Exa Z h0 o0 "com/example/wakasato/wakasato/search/SeededRandom") (g_o0 : n0 ≤ o0) :
    MetFree l (⟨"com/example/wakasato/wakasato/search/SeededRandom", "nextDouble", "()D"⟩ : MethodName) (head1 (Jvm.Cond.code (⟨"com/example/wakasato/wakasato/search/SeededRandom", "nextDouble", "()D"⟩ : MethodName) prog_8_method_5_code 1 (some .double) :: ws) ({ frames := 1, cells := 0, slots := 0, locals := 14 } : Room)) (fun a U => a = #[(.ref o0)] ∧ Z.Warmed39 U.vm ∧ U.heap = h0) (fun _ _ _ _ _ => True) (fun _ U o U' => ∃ v L, o = .returned v ∧ Q3 Z o0 w h0 n0 v U'.heap L ∧ FrameEnd U o U' L ({ frames := 1, cells := 0, slots := 0, locals := 14 } : Room).cells ({ frames := 1, cells := 0, slots := 0, locals := 14 } : Room).slots) := by
  refine MetFree.of_bodySF (plainFor_of_name pn_0) hisR ?_
  intro p e s m args below meth c s₁ Bd hml0 hP hK
  obtain ⟨rfl, hZ, hh⟩ := hP
  have hx := Bd.exec
  have hby := Bd.bytes
  have hml : c.maxLocals = 1 := hml0
  have hown : s.vm.findClass "com/example/wakasato/wakasato/search/SeededRandom" = some m.cls := findClass_of_methodNamed Bd.named
  have hnm := (name_of_methodNamed Bd.named Bd.method).1
  have X0 : Stand p l e ({ frames := 1, cells := 0, slots := 0, locals := 14 } : Room) s m #[(.ref o0)] below meth c s₁ [] 0 0 := Stand.of_body Bd
  have e0 : s₁.heap = h0 := by rw [← hh, Bd.state]; rfl
  have N0 := Fr.nil n0
  have pre0 : ∀ t, Steps p.tables e below (s₁.setTop (mkF m 0 #[.val (.ref o0)] [])) t → Steps p.tables e below (s₁.setTop (entryFrame m #[(.ref o0)] 1)) t := fun t k => castTop (ef_3 m o0) k
  obtain ⟨cq1, kq1, q1a, q1b, q1c⟩ := isOf hZ e0 (E_o0)
  obtain ⟨_, _, ⟨T1, L1, k1, n1⟩, -, X1, ⟨Lc1, hQ1, l1, y1, z1⟩, st1⟩ := X0.virtualBack hx (y := (⟨"com/example/wakasato/wakasato/search/SeededRandom", "nextLong", "()J"⟩ : MethodName)) (z := (⟨"com/example/wakasato/wakasato/search/SeededRandom", "nextLong", "()J"⟩ : MethodName)) hown (mvT hZ (hw _ (List.mem_of_getElem? (i := 16) rfl))) (mvT hZ (hw _ (List.mem_of_getElem? (i := 17) rfl))) (notFace_of_selects (args := #[]) (mvT hZ (hw _ (List.mem_of_getElem? (i := 19) rfl)))) (mvT hZ (hw _ (List.mem_of_getElem? (i := 19) rfl))) (mvT hZ (hw _ (List.mem_of_getElem? (i := 18) rfl))) (by decide) (backOf (W := 0) (rm4 l Z a0 hw [] o0 w h0 n0 Z0 F_state_o0 E_o0 g_o0) hZ (hw _ (List.mem_of_getElem? (i := 20) rfl)) (hw _ (List.mem_of_getElem? (i := 2) rfl)) (by decide) (by decide)) q1a q1c (g := (mkF m 1 #[.val (.ref o0)] [(.ref o0)])) rfl (by rw [hml]; rfl) (Steps.refl _) (argsL := []) (rest := []) (lenOf pd_0 rfl) rfl (by show 2 * 0 + _ ≤ _; exact Nat.le_of_eq rfl) (hb hby d3_1) (fun _ _ => ⟨rfl, e0, (by decide : 0 + 0 ≤ _), (by decide : 0 + 0 ≤ _)⟩)
  dsimp only [Pt.U, Pt.locs, Pt.cells, Pt.slots] at X1 l1 y1 z1 st1 hQ1
  subst y1 z1
  obtain ⟨rfl, N1q, Kc1, P1_0⟩ := hQ1
  have N1 := Fr.app N0 N1q
  rw [← l1] at N1
  have E_o0_2 : Exa Z T1.heap o0 "com/example/wakasato/wakasato/search/SeededRandom" := (E_o0).keep Kc1
  have SZ3 : h0.size ≤ T1.heap.size := Nat.le_trans (Nat.le_refl _) Kc1.1
  have ZZ3 : n0 ≤ T1.heap.size := Nat.le_trans Z0 SZ3
  have K4 : Keep h0 T1.heap [o0] := ((Keep.refl h0 [o0])).trans Kc1 (allS (Or.inl (List.mem_of_getElem? (i := 0) rfl)) all0)
  have pre5 : ∀ t, Steps p.tables e below (T1.setTop (mkF m 12 #[.val (.ref o0)] [(.double (FP.dmul (FP.l2d (((own_mix (w + (-7046029254386353131 : Int64))).toUInt64 >>> ((11 : Int32) &&& 0x3f).toInt64.toUInt64).toInt64)) (4368491638549381120 : UInt64)))])) t → Steps p.tables e below (s₁.setTop (entryFrame m #[(.ref o0)] 1)) t := fun t k => pre0 t (by
    show Steps p.tables e below (s₁.setTop (mkF m 0 #[.val (.ref o0)] [])) _
    refine XS.aloadN X0.here hx rfl (hb hby d3_0) rfl rfl ?_
    show Steps p.tables e below (s₁.setTop (mkF m 1 #[.val (.ref o0)] [(.ref o0)])) _
    refine st1.trans ?_
    show Steps p.tables e below (T1.setTop (mkF m 4 #[.val (.ref o0)] [(.long (own_mix (w + (-7046029254386353131 : Int64))))])) _
    refine XS.bipush X1.here hx rfl (hb hby d3_4) ?_
    show Steps p.tables e below (T1.setTop (mkF m 6 #[.val (.ref o0)] [(.int (11 : Int32)), (.long (own_mix (w + (-7046029254386353131 : Int64))))])) _
    refine XS.lushr X1.here hx rfl (hb hby d3_6) rfl ?_
    show Steps p.tables e below (T1.setTop (mkF m 7 #[.val (.ref o0)] [(.long (((own_mix (w + (-7046029254386353131 : Int64))).toUInt64 >>> ((11 : Int32) &&& 0x3f).toInt64.toUInt64).toInt64))])) _
    refine XS.l2dS X1.here hx rfl (hb hby d3_7) rfl rfl ?_
    show Steps p.tables e below (T1.setTop (mkF m 8 #[.val (.ref o0)] [(.double (FP.l2d (((own_mix (w + (-7046029254386353131 : Int64))).toUInt64 >>> ((11 : Int32) &&& 0x3f).toInt64.toUInt64).toInt64)))])) _
    refine X1.ldc2DoubleC hx hown (mvT hZ (hw _ (List.mem_of_getElem? (i := 24) rfl))) (g := (mkF m 8 #[.val (.ref o0)] [(.double (FP.l2d (((own_mix (w + (-7046029254386353131 : Int64))).toUInt64 >>> ((11 : Int32) &&& 0x3f).toInt64.toUInt64).toInt64)))])) rfl (hb hby d3_8) _ ?_
    show Steps p.tables e below (T1.setTop (mkF m 11 #[.val (.ref o0)] [(.double (4368491638549381120 : UInt64)), (.double (FP.l2d (((own_mix (w + (-7046029254386353131 : Int64))).toUInt64 >>> ((11 : Int32) &&& 0x3f).toInt64.toUInt64).toInt64)))])) _
    refine XS.dmulS X1.here hx rfl (hb hby d3_11) rfl (own_nn1 _) rfl ?_
    show Steps p.tables e below (T1.setTop (mkF m 12 #[.val (.ref o0)] [(.double (FP.dmul (FP.l2d (((own_mix (w + (-7046029254386353131 : Int64))).toUInt64 >>> ((11 : Int32) &&& 0x3f).toInt64.toUInt64).toInt64)) (4368491638549381120 : UInt64)))])) _
    exact k)
  obtain ⟨fs, hr, hrun, hended, hW, hsame⟩ := X1.leave (v := some (.double (FP.dmul (FP.l2d (((own_mix (w + (-7046029254386353131 : Int64))).toUInt64 >>> ((11 : Int32) &&& 0x3f).toInt64.toUInt64).toInt64)) (4368491638549381120 : UInt64)))) (fun h => by rw [Bd.returns] at h; cases h)
  refine ⟨_, _, pre5 _ ?_, hrun, hended, _, _, rfl, ?_, ⟨_, rfl⟩, hW, hsame.mono (by decide) (by decide)⟩
  · exact retOut X1 hx Bd.returns rfl (Or.inr (Or.inr (Or.inl ⟨rfl, rfl, _, rfl⟩))) (hb hby d3_12) hr
  · show Q3 Z o0 w h0 n0 _ T1.heap _
    skip
    exact ⟨rfl, N1, K4, P1_0⟩
theorem d5_0 : decode prog_8_method_2_code 0 = .ok (.aload_n 0, 1) := by decide +kernel
theorem d5_1 : decode prog_8_method_2_code 1 = .ok (.getfield 7, 3) := by decide +kernel
theorem d5_4 : decode prog_8_method_2_code 4 = .ok (.lreturn, 1) := by decide +kernel
theorem ef_5 (m : MethodId) (o0 : Addr) : entryFrame m #[(.ref o0)] 1 = mkF m 0 #[.val (.ref o0)] [] := by first | (simp [entryFrame, mkF, argsToLocals, Value.category]; done) | rfl

def Q5 (Z : State) (o0 : Addr) (w : Int64) (h0 : Heap) (n0 : Nat) (v : Option Value) (h : Heap) (L : List Loc) : Prop := v = some (.long w) ∧ Fr n0 L ∧ h = h0
set_option maxRecDepth 65536 in
set_option maxHeartbeats 40000000 in
theorem rm5 (l : Launch) (Z : State) (a0 : Array Value) (hw : ∀ d ∈ tables_1, d.before a0 Z = true) (ws : List Jvm.Cond) (o0 : Addr) (w : Int64) (h0 : Heap) (n0 : Nat) (Z0 : n0 ≤ h0.size) (F_state_o0 : Fld Z h0 o0 "com/example/wakasato/wakasato/search/SeededRandom" "state" "J" (.long w)) :
    MetFree l (⟨"com/example/wakasato/wakasato/search/SeededRandom", "state", "()J"⟩ : MethodName) (head1 (Jvm.Cond.code (⟨"com/example/wakasato/wakasato/search/SeededRandom", "state", "()J"⟩ : MethodName) prog_8_method_2_code 1 (some .long) :: ws) ({ frames := 0, cells := 0, slots := 0, locals := 0 } : Room)) (fun a U => a = #[(.ref o0)] ∧ Z.Warmed39 U.vm ∧ U.heap = h0) (fun _ _ _ _ _ => True) (fun _ U o U' => ∃ v L, o = .returned v ∧ Q5 Z o0 w h0 n0 v U'.heap L ∧ FrameEnd U o U' L ({ frames := 0, cells := 0, slots := 0, locals := 0 } : Room).cells ({ frames := 0, cells := 0, slots := 0, locals := 0 } : Room).slots) := by
  refine MetFree.of_bodySF (plainFor_of_name pn_0) hisR ?_
  intro p e s m args below meth c s₁ Bd hml0 hP hK
  obtain ⟨rfl, hZ, hh⟩ := hP
  have hx := Bd.exec
  have hby := Bd.bytes
  have hml : c.maxLocals = 1 := hml0
  have hown : s.vm.findClass "com/example/wakasato/wakasato/search/SeededRandom" = some m.cls := findClass_of_methodNamed Bd.named
  have hnm := (name_of_methodNamed Bd.named Bd.method).1
  have X0 : Stand p l e ({ frames := 0, cells := 0, slots := 0, locals := 0 } : Room) s m #[(.ref o0)] below meth c s₁ [] 0 0 := Stand.of_body Bd
  have e0 : s₁.heap = h0 := by rw [← hh, Bd.state]; rfl
  have N0 := Fr.nil n0
  have pre0 : ∀ t, Steps p.tables e below (s₁.setTop (mkF m 0 #[.val (.ref o0)] [])) t → Steps p.tables e below (s₁.setTop (entryFrame m #[(.ref o0)] 1)) t := fun t k => castTop (ef_5 m o0) k
  obtain ⟨T1, X1, e1, st1⟩ := getF X0 hx hZ hown (host := "") (Or.inl (hw _ (List.mem_of_getElem? (i := 9) rfl))) Via.refl e0 F_state_o0 (g := (mkF m 1 #[.val (.ref o0)] [(.ref o0)])) rfl rfl (hb hby d5_1)
  have pre2 : ∀ t, Steps p.tables e below (T1.setTop (mkF m 4 #[.val (.ref o0)] [(.long w)])) t → Steps p.tables e below (s₁.setTop (entryFrame m #[(.ref o0)] 1)) t := fun t k => pre0 t (by
    show Steps p.tables e below (s₁.setTop (mkF m 0 #[.val (.ref o0)] [])) _
    refine XS.aloadN X0.here hx rfl (hb hby d5_0) rfl rfl ?_
    show Steps p.tables e below (s₁.setTop (mkF m 1 #[.val (.ref o0)] [(.ref o0)])) _
    refine st1 _ ?_
    show Steps p.tables e below (T1.setTop (mkF m 4 #[.val (.ref o0)] [(.long w)])) _
    exact k)
  obtain ⟨fs, hr, hrun, hended, hW, hsame⟩ := X1.leave (v := some (.long w)) (fun h => by rw [Bd.returns] at h; cases h)
  refine ⟨_, _, pre2 _ ?_, hrun, hended, _, _, rfl, ?_, ⟨_, rfl⟩, hW, hsame.mono (by decide) (by decide)⟩
  · exact retOut X1 hx Bd.returns rfl (Or.inr (Or.inl ⟨rfl, rfl, _, rfl⟩)) (hb hby d5_4) hr
  · show Q5 Z o0 w h0 n0 _ T1.heap _
    rw [e1]
    exact ⟨rfl, N0, rfl⟩
theorem pn_1 : plainName "com/example/wakasato/wakasato/search/SeededRandomNextDoublePinLaw" = true := by first | (simp [plainName, overriddenIn]; done) | decide +kernel
theorem pd_1 : parseMethodDescriptor "(J)V" = some ⟨[.long], none⟩ := by decide +kernel
theorem pd_2 : parseMethodDescriptor "()D" = some ⟨[], some .double⟩ := by decide +kernel
theorem ef_0 (m : MethodId) (q0 : Int64) : entryFrame m #[(.long q0)] maxLocals = mkF m 0 #[.val (.long q0), .second, .unset, .unset, .unset, .unset, .unset, .unset, .unset, .unset, .unset, .unset, .unset] [] := by first | (simp [entryFrame, mkF, argsToLocals, Value.category, maxLocals]; done) | rfl

def Q0 (Z : State) (q0 : Int64) (h0 : Heap) (n0 : Nat) (v : Option Value) (h : Heap) (L : List Loc) : Prop := v = some (.int 1) ∧ Fr n0 L
set_option maxRecDepth 65536 in
set_option maxHeartbeats 40000000 in
theorem rm0 (l : Launch) (Z : State) (a0 : Array Value) (hw : ∀ d ∈ tables_1, d.before a0 Z = true) (ws : List Jvm.Cond) (q0 : Int64) (h0 : Heap) (n0 : Nat) (Z0 : n0 ≤ h0.size)  :
    MetFree l x (head1 (Jvm.Cond.code x code maxLocals ret :: ws) room_1) (fun a U => a = #[(.long q0)] ∧ Z.Warmed39 U.vm ∧ U.heap = h0) (fun _ _ _ _ _ => True) (fun _ U o U' => ∃ v L, o = .returned v ∧ Q0 Z q0 h0 n0 v U'.heap L ∧ FrameEnd U o U' L room_1.cells room_1.slots) := by
  refine MetFree.of_bodySF (plainFor_of_name pn_1) hisR ?_
  intro p e s m args below meth c s₁ Bd hml0 hP hK
  obtain ⟨rfl, hZ, hh⟩ := hP
  have hx := Bd.exec
  have hby := Bd.bytes
  have hml : c.maxLocals = 13 := hml0
  have hown : s.vm.findClass "com/example/wakasato/wakasato/search/SeededRandomNextDoublePinLaw" = some m.cls := findClass_of_methodNamed Bd.named
  have hnm := (name_of_methodNamed Bd.named Bd.method).1
  have X0 : Stand p l e room_1 s m #[(.long q0)] below meth c s₁ [] 0 0 := Stand.of_body Bd
  have e0 : s₁.heap = h0 := by rw [← hh, Bd.state]; rfl
  have N0 := Fr.nil n0
  have pre0 : ∀ t, Steps p.tables e below (s₁.setTop (mkF m 0 #[.val (.long q0), .second, .unset, .unset, .unset, .unset, .unset, .unset, .unset, .unset, .unset, .unset, .unset] [])) t → Steps p.tables e below (s₁.setTop (entryFrame m #[(.long q0)] maxLocals)) t := fun t k => castTop (ef_0 m q0) k
  obtain ⟨T1, h1, X1, e1, Ex1, Ne1, D1, -, st1⟩ := newO X0 hx hZ hown (hw _ (List.mem_of_getElem? (i := 0) rfl)) (hw _ (List.mem_of_getElem? (i := 1) rfl)) (hw _ (List.mem_of_getElem? (i := 2) rfl)) e0 (g := (mkF m 0 #[.val (.long q0), .second, .unset, .unset, .unset, .unset, .unset, .unset, .unset, .unset, .unset, .unset, .unset] [])) rfl (hb hby at_0) (by decide) (by decide)
  obtain ⟨b1, g1⟩ : ∃ z, z = h0.size := ⟨_, rfl⟩
  rw [← g1] at Ne1 D1 st1
  have g_b1 : n0 ≤ b1 := Nat.le_trans (Nat.le_trans Z0 (Nat.le_refl _)) (Nat.le_of_eq g1.symm)
  have sz_b1 : h0.size ≤ b1 := Nat.le_trans (Nat.le_refl _) (Nat.le_of_eq g1.symm)
  have SZ3 : h0.size ≤ h1.size := Nat.le_trans (Nat.le_refl _) Ex1.1
  have ZZ3 : n0 ≤ h1.size := Nat.le_trans Z0 SZ3
  have K4 : Keep h0 h1 [] := ((Keep.refl h0 [])).ext Ex1
  have F_state_b1_1 : Fld Z h1 b1 "com/example/wakasato/wakasato/search/SeededRandom" "state" "J" (.long (0 : Int64)) := D1 (Or.inl (hw _ (List.mem_of_getElem? (i := 10) rfl))) (ty := .long) (by decide)
  obtain ⟨_, _, ⟨T5, L5, k5, n5⟩, -, X5, ⟨Lc5, hQ5, l5, y5, z5⟩, st5⟩ := X1.specialBack hx (y := (⟨"com/example/wakasato/wakasato/search/SeededRandom", "<init>", "(J)V"⟩ : MethodName)) rfl hown (mvT hZ (hw _ (List.mem_of_getElem? (i := 3) rfl))) (mvT hZ (hw _ (List.mem_of_getElem? (i := 4) rfl))) (mvT hZ (hw _ (List.mem_of_getElem? (i := 5) rfl))) (by decide) (backOf (W := 1) (rm1 l Z a0 hw [] b1 q0 (0 : Int64) h1 n0 ZZ3 F_state_b1_1 Ne1 g_b1) hZ (hw _ (List.mem_of_getElem? (i := 5) rfl)) (hw _ (List.mem_of_getElem? (i := 2) rfl)) (by decide) (by decide)) (g := (mkF m 5 #[.val (.long q0), .second, .unset, .unset, .unset, .unset, .unset, .unset, .unset, .unset, .unset, .unset, .unset] [(.long q0), (.ref b1), (.ref b1)])) rfl (by rw [hml]; rfl) (Steps.refl _) (a := b1) (argsL := [(.long q0)]) (rest := [(.ref b1)]) (lenOf pd_1 rfl) rfl (by show 2 * 0 + _ ≤ _; exact Nat.le_of_eq rfl) (hb hby at_5) (fun _ _ => ⟨rfl, e1, (by decide : 1 + 0 ≤ _), (by decide : 1 + 0 ≤ _)⟩)
  dsimp only [Pt.U, Pt.locs, Pt.cells, Pt.slots] at X5 l5 y5 z5 st5 hQ5
  subst y5 z5
  obtain ⟨rfl, N5q, Kc5, P5_0⟩ := hQ5
  have N5 := Fr.app N0 N5q
  rw [← l5] at N5
  have E_b1_6 : Exa Z T5.heap b1 "com/example/wakasato/wakasato/search/SeededRandom" := (Ne1).keep Kc5
  have SZ7 : h0.size ≤ T5.heap.size := Nat.le_trans SZ3 Kc5.1
  have ZZ7 : n0 ≤ T5.heap.size := Nat.le_trans Z0 SZ7
  have K8 : Keep h0 T5.heap [] := (K4).trans Kc5 (allS (Or.inr sz_b1) all0)
  obtain ⟨T9, h9, X9, e9, Ex9, Ne9, D9, -, st9⟩ := newO X5 hx hZ hown (hw _ (List.mem_of_getElem? (i := 0) rfl)) (hw _ (List.mem_of_getElem? (i := 1) rfl)) (hw _ (List.mem_of_getElem? (i := 2) rfl)) rfl (g := (mkF m 9 #[.val (.long q0), .second, .val (.ref b1), .unset, .unset, .unset, .unset, .unset, .unset, .unset, .unset, .unset, .unset] [])) rfl (hb hby at_9) (by decide) (by decide)
  obtain ⟨b9, g9⟩ : ∃ z, z = T5.heap.size := ⟨_, rfl⟩
  rw [← g9] at Ne9 D9 st9
  have ne_b1_b9 : b1 ≠ b9 := by rw [g9]; exact Nat.ne_of_lt (E_b1_6).lt
  have g_b9 : n0 ≤ b9 := Nat.le_trans (Nat.le_trans Z0 SZ7) (Nat.le_of_eq g9.symm)
  have sz_b9 : h0.size ≤ b9 := Nat.le_trans SZ7 (Nat.le_of_eq g9.symm)
  have E_b1_10 : Exa Z h9 b1 "com/example/wakasato/wakasato/search/SeededRandom" := (E_b1_6).ext Ex9
  have F_state_b1_10 : Fld Z h9 b1 "com/example/wakasato/wakasato/search/SeededRandom" "state" "J" (.long q0) := (P5_0).ext Ex9
  have SZ11 : h0.size ≤ h9.size := Nat.le_trans SZ7 Ex9.1
  have ZZ11 : n0 ≤ h9.size := Nat.le_trans Z0 SZ11
  have K12 : Keep h0 h9 [] := (K8).ext Ex9
  have F_state_b9_9 : Fld Z h9 b9 "com/example/wakasato/wakasato/search/SeededRandom" "state" "J" (.long (0 : Int64)) := D9 (Or.inl (hw _ (List.mem_of_getElem? (i := 10) rfl))) (ty := .long) (by decide)
  obtain ⟨_, _, ⟨T13, L13, k13, n13⟩, -, X13, ⟨Lc13, hQ13, l13, y13, z13⟩, st13⟩ := X9.specialBack hx (y := (⟨"com/example/wakasato/wakasato/search/SeededRandom", "<init>", "(J)V"⟩ : MethodName)) rfl hown (mvT hZ (hw _ (List.mem_of_getElem? (i := 3) rfl))) (mvT hZ (hw _ (List.mem_of_getElem? (i := 4) rfl))) (mvT hZ (hw _ (List.mem_of_getElem? (i := 5) rfl))) (by decide) (backOf (W := 1) (rm1 l Z a0 hw [] b9 q0 (0 : Int64) h9 n0 ZZ11 F_state_b9_9 Ne9 g_b9) hZ (hw _ (List.mem_of_getElem? (i := 5) rfl)) (hw _ (List.mem_of_getElem? (i := 2) rfl)) (by decide) (by decide)) (g := (mkF m 14 #[.val (.long q0), .second, .val (.ref b1), .unset, .unset, .unset, .unset, .unset, .unset, .unset, .unset, .unset, .unset] [(.long q0), (.ref b9), (.ref b9)])) rfl (by rw [hml]; rfl) (Steps.refl _) (a := b9) (argsL := [(.long q0)]) (rest := [(.ref b9)]) (lenOf pd_1 rfl) rfl (by show 2 * 0 + _ ≤ _; exact Nat.le_of_eq rfl) (hb hby at_14) (fun _ _ => ⟨rfl, e9, (by decide : 2 + 0 ≤ _), (by decide : 2 + 0 ≤ _)⟩)
  dsimp only [Pt.U, Pt.locs, Pt.cells, Pt.slots] at X13 l13 y13 z13 st13 hQ13
  subst y13 z13
  obtain ⟨rfl, N13q, Kc13, P13_0⟩ := hQ13
  have N13 := Fr.app N5 N13q
  rw [← l13] at N13
  have E_b1_14 : Exa Z T13.heap b1 "com/example/wakasato/wakasato/search/SeededRandom" := (E_b1_10).keep Kc13
  have F_state_b1_14 : Fld Z T13.heap b1 "com/example/wakasato/wakasato/search/SeededRandom" "state" "J" (.long q0) := (F_state_b1_10).keep Kc13 (ninS ne_b1_b9 nin0)
  have E_b9_14 : Exa Z T13.heap b9 "com/example/wakasato/wakasato/search/SeededRandom" := (Ne9).keep Kc13
  have SZ15 : h0.size ≤ T13.heap.size := Nat.le_trans SZ11 Kc13.1
  have ZZ15 : n0 ≤ T13.heap.size := Nat.le_trans Z0 SZ15
  have K16 : Keep h0 T13.heap [] := (K12).trans Kc13 (allS (Or.inr sz_b9) all0)
  obtain ⟨cq17, kq17, q17a, q17b, q17c⟩ := isOf hZ rfl (E_b1_14)
  obtain ⟨_, _, ⟨T17, L17, k17, n17⟩, -, X17, ⟨Lc17, hQ17, l17, y17, z17⟩, st17⟩ := X13.virtualBack hx (y := (⟨"com/example/wakasato/wakasato/search/SeededRandom", "nextDouble", "()D"⟩ : MethodName)) (z := (⟨"com/example/wakasato/wakasato/search/SeededRandom", "nextDouble", "()D"⟩ : MethodName)) hown (mvT hZ (hw _ (List.mem_of_getElem? (i := 11) rfl))) (mvT hZ (hw _ (List.mem_of_getElem? (i := 12) rfl))) (notFace_of_selects (args := #[]) (mvT hZ (hw _ (List.mem_of_getElem? (i := 14) rfl)))) (mvT hZ (hw _ (List.mem_of_getElem? (i := 14) rfl))) (mvT hZ (hw _ (List.mem_of_getElem? (i := 13) rfl))) (by decide) (backOf (W := 0) (rm3 l Z a0 hw [] b1 q0 T13.heap n0 ZZ15 F_state_b1_14 E_b1_14 g_b1) hZ (hw _ (List.mem_of_getElem? (i := 15) rfl)) (hw _ (List.mem_of_getElem? (i := 2) rfl)) (by decide) (by decide)) q17a q17c (g := (mkF m 19 #[.val (.long q0), .second, .val (.ref b1), .val (.ref b9), .unset, .unset, .unset, .unset, .unset, .unset, .unset, .unset, .unset] [(.ref b1)])) rfl (by rw [hml]; rfl) (Steps.refl _) (argsL := []) (rest := []) (lenOf pd_2 rfl) rfl (by show 2 * 0 + _ ≤ _; exact Nat.le_of_eq rfl) (hb hby at_19) (fun _ _ => ⟨rfl, rfl, (by decide : 2 + 0 ≤ _), (by decide : 2 + 0 ≤ _)⟩)
  dsimp only [Pt.U, Pt.locs, Pt.cells, Pt.slots] at X17 l17 y17 z17 st17 hQ17
  subst y17 z17
  obtain ⟨rfl, N17q, Kc17, P17_0⟩ := hQ17
  have N17 := Fr.app N13 N17q
  rw [← l17] at N17
  have E_b1_18 : Exa Z T17.heap b1 "com/example/wakasato/wakasato/search/SeededRandom" := (E_b1_14).keep Kc17
  have E_b9_18 : Exa Z T17.heap b9 "com/example/wakasato/wakasato/search/SeededRandom" := (E_b9_14).keep Kc17
  have F_state_b9_18 : Fld Z T17.heap b9 "com/example/wakasato/wakasato/search/SeededRandom" "state" "J" (.long q0) := (P13_0).keep Kc17 (ninS (Ne.symm ne_b1_b9) nin0)
  have SZ19 : h0.size ≤ T17.heap.size := Nat.le_trans SZ15 Kc17.1
  have ZZ19 : n0 ≤ T17.heap.size := Nat.le_trans Z0 SZ19
  have K20 : Keep h0 T17.heap [] := (K16).trans Kc17 (allS (Or.inr sz_b1) all0)
  obtain ⟨cq21, kq21, q21a, q21b, q21c⟩ := isOf hZ rfl (E_b9_18)
  obtain ⟨_, _, ⟨T21, L21, k21, n21⟩, -, X21, ⟨Lc21, hQ21, l21, y21, z21⟩, st21⟩ := X17.virtualBack hx (y := (⟨"com/example/wakasato/wakasato/search/SeededRandom", "nextLong", "()J"⟩ : MethodName)) (z := (⟨"com/example/wakasato/wakasato/search/SeededRandom", "nextLong", "()J"⟩ : MethodName)) hown (mvT hZ (hw _ (List.mem_of_getElem? (i := 25) rfl))) (mvT hZ (hw _ (List.mem_of_getElem? (i := 17) rfl))) (notFace_of_selects (args := #[]) (mvT hZ (hw _ (List.mem_of_getElem? (i := 19) rfl)))) (mvT hZ (hw _ (List.mem_of_getElem? (i := 19) rfl))) (mvT hZ (hw _ (List.mem_of_getElem? (i := 18) rfl))) (by decide) (backOf (W := 0) (rm4 l Z a0 hw [] b9 q0 T17.heap n0 ZZ19 F_state_b9_18 E_b9_18 g_b9) hZ (hw _ (List.mem_of_getElem? (i := 20) rfl)) (hw _ (List.mem_of_getElem? (i := 2) rfl)) (by decide) (by decide)) q21a q21c (g := (mkF m 25 #[.val (.long q0), .second, .val (.ref b1), .val (.ref b9), .val (.double (FP.dmul (FP.l2d (own_sr (own_mix (q0 + (-7046029254386353131 : Int64))) 11)) (4368491638549381120 : UInt64))), .second, .unset, .unset, .unset, .unset, .unset, .unset, .unset] [(.ref b9)])) rfl (by rw [hml]; rfl) (Steps.refl _) (argsL := []) (rest := []) (lenOf pd_0 rfl) rfl (by show 2 * 0 + _ ≤ _; exact Nat.le_of_eq rfl) (hb hby at_25) (fun _ _ => ⟨rfl, rfl, (by decide : 2 + 0 ≤ _), (by decide : 2 + 0 ≤ _)⟩)
  dsimp only [Pt.U, Pt.locs, Pt.cells, Pt.slots] at X21 l21 y21 z21 st21 hQ21
  subst y21 z21
  obtain ⟨rfl, N21q, Kc21, P21_0⟩ := hQ21
  have N21 := Fr.app N17 N21q
  rw [← l21] at N21
  have E_b1_22 : Exa Z T21.heap b1 "com/example/wakasato/wakasato/search/SeededRandom" := (E_b1_18).keep Kc21
  have E_b9_22 : Exa Z T21.heap b9 "com/example/wakasato/wakasato/search/SeededRandom" := (E_b9_18).keep Kc21
  have F_state_b1_22 : Fld Z T21.heap b1 "com/example/wakasato/wakasato/search/SeededRandom" "state" "J" (.long (q0 + (-7046029254386353131 : Int64))) := (P17_0).keep Kc21 (ninS ne_b1_b9 nin0)
  have SZ23 : h0.size ≤ T21.heap.size := Nat.le_trans SZ19 Kc21.1
  have ZZ23 : n0 ≤ T21.heap.size := Nat.le_trans Z0 SZ23
  have K24 : Keep h0 T21.heap [] := (K20).trans Kc21 (allS (Or.inr sz_b9) all0)
  obtain ⟨cq25, kq25, q25a, q25b, q25c⟩ := isOf hZ rfl (E_b1_22)
  obtain ⟨_, _, ⟨T25, L25, k25, n25⟩, -, X25, ⟨Lc25, hQ25, l25, y25, z25⟩, st25⟩ := X21.virtualBack hx (y := (⟨"com/example/wakasato/wakasato/search/SeededRandom", "state", "()J"⟩ : MethodName)) (z := (⟨"com/example/wakasato/wakasato/search/SeededRandom", "state", "()J"⟩ : MethodName)) hown (mvT hZ (hw _ (List.mem_of_getElem? (i := 27) rfl))) (mvT hZ (hw _ (List.mem_of_getElem? (i := 28) rfl))) (notFace_of_selects (args := #[]) (mvT hZ (hw _ (List.mem_of_getElem? (i := 30) rfl)))) (mvT hZ (hw _ (List.mem_of_getElem? (i := 30) rfl))) (mvT hZ (hw _ (List.mem_of_getElem? (i := 29) rfl))) (by decide) (backOf (W := 0) (rm5 l Z a0 hw [] b1 (q0 + (-7046029254386353131 : Int64)) T21.heap n0 ZZ23 F_state_b1_22) hZ (hw _ (List.mem_of_getElem? (i := 31) rfl)) (hw _ (List.mem_of_getElem? (i := 2) rfl)) (by decide) (by decide)) q25a q25c (g := (mkF m 79 #[.val (.long q0), .second, .val (.ref b1), .val (.ref b9), .val (.double (FP.dmul (FP.l2d (own_sr (own_mix (q0 + (-7046029254386353131 : Int64))) 11)) (4368491638549381120 : UInt64))), .second, .val (.long (own_mix (q0 + (-7046029254386353131 : Int64)))), .second, .val (.long (((own_mix (q0 + (-7046029254386353131 : Int64))).toUInt64 >>> ((11 : Int32) &&& 0x3f).toInt64.toUInt64).toInt64)), .second, .val (.int (1 : Int32)), .val (.int (1 : Int32)), .unset] [(.ref b1)])) rfl (by rw [hml]; rfl) (Steps.refl _) (argsL := []) (rest := []) (lenOf pd_0 rfl) rfl (by show 2 * 0 + _ ≤ _; exact Nat.le_of_eq rfl) (hb hby at_79) (fun _ _ => ⟨rfl, rfl, (by decide : 2 + 0 ≤ _), (by decide : 2 + 0 ≤ _)⟩)
  dsimp only [Pt.U, Pt.locs, Pt.cells, Pt.slots] at X25 l25 y25 z25 st25 hQ25
  subst y25 z25
  obtain ⟨rfl, N25q, hh25⟩ := hQ25
  have N25 := Fr.app N21 N25q
  rw [← l25] at N25
  obtain ⟨cq26, kq26, q26a, q26b, q26c⟩ := isOf hZ hh25 (E_b9_22)
  obtain ⟨_, _, ⟨T26, L26, k26, n26⟩, -, X26, ⟨Lc26, hQ26, l26, y26, z26⟩, st26⟩ := X25.virtualBack hx (y := (⟨"com/example/wakasato/wakasato/search/SeededRandom", "state", "()J"⟩ : MethodName)) (z := (⟨"com/example/wakasato/wakasato/search/SeededRandom", "state", "()J"⟩ : MethodName)) hown (mvT hZ (hw _ (List.mem_of_getElem? (i := 27) rfl))) (mvT hZ (hw _ (List.mem_of_getElem? (i := 28) rfl))) (notFace_of_selects (args := #[]) (mvT hZ (hw _ (List.mem_of_getElem? (i := 30) rfl)))) (mvT hZ (hw _ (List.mem_of_getElem? (i := 30) rfl))) (mvT hZ (hw _ (List.mem_of_getElem? (i := 29) rfl))) (by decide) (backOf (W := 2) (rm5 l Z a0 hw [] b9 (q0 + (-7046029254386353131 : Int64)) T21.heap n0 ZZ23 P21_0) hZ (hw _ (List.mem_of_getElem? (i := 31) rfl)) (hw _ (List.mem_of_getElem? (i := 2) rfl)) (by decide) (by decide)) q26a q26c (g := (mkF m 83 #[.val (.long q0), .second, .val (.ref b1), .val (.ref b9), .val (.double (FP.dmul (FP.l2d (own_sr (own_mix (q0 + (-7046029254386353131 : Int64))) 11)) (4368491638549381120 : UInt64))), .second, .val (.long (own_mix (q0 + (-7046029254386353131 : Int64)))), .second, .val (.long (((own_mix (q0 + (-7046029254386353131 : Int64))).toUInt64 >>> ((11 : Int32) &&& 0x3f).toInt64.toUInt64).toInt64)), .second, .val (.int (1 : Int32)), .val (.int (1 : Int32)), .unset] [(.ref b9), (.long (q0 + (-7046029254386353131 : Int64)))])) rfl (by rw [hml]; rfl) (Steps.refl _) (argsL := []) (rest := [(.long (q0 + (-7046029254386353131 : Int64)))]) (lenOf pd_0 rfl) rfl (by show 2 * 0 + _ ≤ _; exact Nat.le_of_eq rfl) (hb hby at_83) (fun _ _ => ⟨rfl, hh25, (by decide : 2 + 0 ≤ _), (by decide : 2 + 0 ≤ _)⟩)
  dsimp only [Pt.U, Pt.locs, Pt.cells, Pt.slots] at X26 l26 y26 z26 st26 hQ26
  subst y26 z26
  obtain ⟨rfl, N26q, hh26⟩ := hQ26
  have N26 := Fr.app N25 N26q
  rw [← l26] at N26
  have pre27 : ∀ t, Steps p.tables e below (T26.setTop (mkF m 117 #[.val (.long q0), .second, .val (.ref b1), .val (.ref b9), .val (.double (FP.dmul (FP.l2d (own_sr (own_mix (q0 + (-7046029254386353131 : Int64))) 11)) (4368491638549381120 : UInt64))), .second, .val (.long (own_mix (q0 + (-7046029254386353131 : Int64)))), .second, .val (.long (((own_mix (q0 + (-7046029254386353131 : Int64))).toUInt64 >>> ((11 : Int32) &&& 0x3f).toInt64.toUInt64).toInt64)), .second, .val (.int (1 : Int32)), .val (.int (1 : Int32)), .val (.int (1 : Int32))] [(.int (1 : Int32))])) t → Steps p.tables e below (s₁.setTop (entryFrame m #[(.long q0)] maxLocals)) t := fun t k => pre0 t (by
    show Steps p.tables e below (s₁.setTop (mkF m 0 #[.val (.long q0), .second, .unset, .unset, .unset, .unset, .unset, .unset, .unset, .unset, .unset, .unset, .unset] [])) _
    refine st1 _ ?_
    show Steps p.tables e below (T1.setTop (mkF m 3 #[.val (.long q0), .second, .unset, .unset, .unset, .unset, .unset, .unset, .unset, .unset, .unset, .unset, .unset] [(.ref b1)])) _
    refine XS.dup X1.here hx rfl (hb hby at_3) rfl rfl ?_
    show Steps p.tables e below (T1.setTop (mkF m 4 #[.val (.long q0), .second, .unset, .unset, .unset, .unset, .unset, .unset, .unset, .unset, .unset, .unset, .unset] [(.ref b1), (.ref b1)])) _
    refine XS.lloadN X1.here hx rfl (hb hby at_4) rfl ?_
    show Steps p.tables e below (T1.setTop (mkF m 5 #[.val (.long q0), .second, .unset, .unset, .unset, .unset, .unset, .unset, .unset, .unset, .unset, .unset, .unset] [(.long q0), (.ref b1), (.ref b1)])) _
    refine st5.trans ?_
    show Steps p.tables e below (T5.setTop (mkF m 8 #[.val (.long q0), .second, .unset, .unset, .unset, .unset, .unset, .unset, .unset, .unset, .unset, .unset, .unset] [(.ref b1)])) _
    refine XS.astoreN X5.here hx rfl (hb hby at_8) rfl rfl (l' := #[.val (.long q0), .second, .val (.ref b1), .unset, .unset, .unset, .unset, .unset, .unset, .unset, .unset, .unset, .unset]) rfl ?_
    show Steps p.tables e below (T5.setTop (mkF m 9 #[.val (.long q0), .second, .val (.ref b1), .unset, .unset, .unset, .unset, .unset, .unset, .unset, .unset, .unset, .unset] [])) _
    refine st9 _ ?_
    show Steps p.tables e below (T9.setTop (mkF m 12 #[.val (.long q0), .second, .val (.ref b1), .unset, .unset, .unset, .unset, .unset, .unset, .unset, .unset, .unset, .unset] [(.ref b9)])) _
    refine XS.dup X9.here hx rfl (hb hby at_12) rfl rfl ?_
    show Steps p.tables e below (T9.setTop (mkF m 13 #[.val (.long q0), .second, .val (.ref b1), .unset, .unset, .unset, .unset, .unset, .unset, .unset, .unset, .unset, .unset] [(.ref b9), (.ref b9)])) _
    refine XS.lloadN X9.here hx rfl (hb hby at_13) rfl ?_
    show Steps p.tables e below (T9.setTop (mkF m 14 #[.val (.long q0), .second, .val (.ref b1), .unset, .unset, .unset, .unset, .unset, .unset, .unset, .unset, .unset, .unset] [(.long q0), (.ref b9), (.ref b9)])) _
    refine st13.trans ?_
    show Steps p.tables e below (T13.setTop (mkF m 17 #[.val (.long q0), .second, .val (.ref b1), .unset, .unset, .unset, .unset, .unset, .unset, .unset, .unset, .unset, .unset] [(.ref b9)])) _
    refine XS.astoreN X13.here hx rfl (hb hby at_17) rfl rfl (l' := #[.val (.long q0), .second, .val (.ref b1), .val (.ref b9), .unset, .unset, .unset, .unset, .unset, .unset, .unset, .unset, .unset]) rfl ?_
    show Steps p.tables e below (T13.setTop (mkF m 18 #[.val (.long q0), .second, .val (.ref b1), .val (.ref b9), .unset, .unset, .unset, .unset, .unset, .unset, .unset, .unset, .unset] [])) _
    refine XS.aloadN X13.here hx rfl (hb hby at_18) rfl rfl ?_
    show Steps p.tables e below (T13.setTop (mkF m 19 #[.val (.long q0), .second, .val (.ref b1), .val (.ref b9), .unset, .unset, .unset, .unset, .unset, .unset, .unset, .unset, .unset] [(.ref b1)])) _
    refine st17.trans ?_
    show Steps p.tables e below (T17.setTop (mkF m 22 #[.val (.long q0), .second, .val (.ref b1), .val (.ref b9), .unset, .unset, .unset, .unset, .unset, .unset, .unset, .unset, .unset] [(.double (FP.dmul (FP.l2d (own_sr (own_mix (q0 + (-7046029254386353131 : Int64))) 11)) (4368491638549381120 : UInt64)))])) _
    refine XS.dstore X17.here hx rfl (hb hby at_22) rfl (l' := #[.val (.long q0), .second, .val (.ref b1), .val (.ref b9), .val (.double (FP.dmul (FP.l2d (own_sr (own_mix (q0 + (-7046029254386353131 : Int64))) 11)) (4368491638549381120 : UInt64))), .second, .unset, .unset, .unset, .unset, .unset, .unset, .unset]) rfl ?_
    show Steps p.tables e below (T17.setTop (mkF m 24 #[.val (.long q0), .second, .val (.ref b1), .val (.ref b9), .val (.double (FP.dmul (FP.l2d (own_sr (own_mix (q0 + (-7046029254386353131 : Int64))) 11)) (4368491638549381120 : UInt64))), .second, .unset, .unset, .unset, .unset, .unset, .unset, .unset] [])) _
    refine XS.aloadN X17.here hx rfl (hb hby at_24) rfl rfl ?_
    show Steps p.tables e below (T17.setTop (mkF m 25 #[.val (.long q0), .second, .val (.ref b1), .val (.ref b9), .val (.double (FP.dmul (FP.l2d (own_sr (own_mix (q0 + (-7046029254386353131 : Int64))) 11)) (4368491638549381120 : UInt64))), .second, .unset, .unset, .unset, .unset, .unset, .unset, .unset] [(.ref b9)])) _
    refine st21.trans ?_
    show Steps p.tables e below (T21.setTop (mkF m 28 #[.val (.long q0), .second, .val (.ref b1), .val (.ref b9), .val (.double (FP.dmul (FP.l2d (own_sr (own_mix (q0 + (-7046029254386353131 : Int64))) 11)) (4368491638549381120 : UInt64))), .second, .unset, .unset, .unset, .unset, .unset, .unset, .unset] [(.long (own_mix (q0 + (-7046029254386353131 : Int64))))])) _
    refine XS.lstore X21.here hx rfl (hb hby at_28) rfl (l' := #[.val (.long q0), .second, .val (.ref b1), .val (.ref b9), .val (.double (FP.dmul (FP.l2d (own_sr (own_mix (q0 + (-7046029254386353131 : Int64))) 11)) (4368491638549381120 : UInt64))), .second, .val (.long (own_mix (q0 + (-7046029254386353131 : Int64)))), .second, .unset, .unset, .unset, .unset, .unset]) rfl ?_
    show Steps p.tables e below (T21.setTop (mkF m 30 #[.val (.long q0), .second, .val (.ref b1), .val (.ref b9), .val (.double (FP.dmul (FP.l2d (own_sr (own_mix (q0 + (-7046029254386353131 : Int64))) 11)) (4368491638549381120 : UInt64))), .second, .val (.long (own_mix (q0 + (-7046029254386353131 : Int64)))), .second, .unset, .unset, .unset, .unset, .unset] [])) _
    refine XS.lload X21.here hx rfl (hb hby at_30) rfl ?_
    show Steps p.tables e below (T21.setTop (mkF m 32 #[.val (.long q0), .second, .val (.ref b1), .val (.ref b9), .val (.double (FP.dmul (FP.l2d (own_sr (own_mix (q0 + (-7046029254386353131 : Int64))) 11)) (4368491638549381120 : UInt64))), .second, .val (.long (own_mix (q0 + (-7046029254386353131 : Int64)))), .second, .unset, .unset, .unset, .unset, .unset] [(.long (own_mix (q0 + (-7046029254386353131 : Int64))))])) _
    refine XS.bipush X21.here hx rfl (hb hby at_32) ?_
    show Steps p.tables e below (T21.setTop (mkF m 34 #[.val (.long q0), .second, .val (.ref b1), .val (.ref b9), .val (.double (FP.dmul (FP.l2d (own_sr (own_mix (q0 + (-7046029254386353131 : Int64))) 11)) (4368491638549381120 : UInt64))), .second, .val (.long (own_mix (q0 + (-7046029254386353131 : Int64)))), .second, .unset, .unset, .unset, .unset, .unset] [(.int (11 : Int32)), (.long (own_mix (q0 + (-7046029254386353131 : Int64))))])) _
    refine XS.lushr X21.here hx rfl (hb hby at_34) rfl ?_
    show Steps p.tables e below (T21.setTop (mkF m 35 #[.val (.long q0), .second, .val (.ref b1), .val (.ref b9), .val (.double (FP.dmul (FP.l2d (own_sr (own_mix (q0 + (-7046029254386353131 : Int64))) 11)) (4368491638549381120 : UInt64))), .second, .val (.long (own_mix (q0 + (-7046029254386353131 : Int64)))), .second, .unset, .unset, .unset, .unset, .unset] [(.long (((own_mix (q0 + (-7046029254386353131 : Int64))).toUInt64 >>> ((11 : Int32) &&& 0x3f).toInt64.toUInt64).toInt64))])) _
    refine XS.lstore X21.here hx rfl (hb hby at_35) rfl (l' := #[.val (.long q0), .second, .val (.ref b1), .val (.ref b9), .val (.double (FP.dmul (FP.l2d (own_sr (own_mix (q0 + (-7046029254386353131 : Int64))) 11)) (4368491638549381120 : UInt64))), .second, .val (.long (own_mix (q0 + (-7046029254386353131 : Int64)))), .second, .val (.long (((own_mix (q0 + (-7046029254386353131 : Int64))).toUInt64 >>> ((11 : Int32) &&& 0x3f).toInt64.toUInt64).toInt64)), .second, .unset, .unset, .unset]) rfl ?_
    show Steps p.tables e below (T21.setTop (mkF m 37 #[.val (.long q0), .second, .val (.ref b1), .val (.ref b9), .val (.double (FP.dmul (FP.l2d (own_sr (own_mix (q0 + (-7046029254386353131 : Int64))) 11)) (4368491638549381120 : UInt64))), .second, .val (.long (own_mix (q0 + (-7046029254386353131 : Int64)))), .second, .val (.long (((own_mix (q0 + (-7046029254386353131 : Int64))).toUInt64 >>> ((11 : Int32) &&& 0x3f).toInt64.toUInt64).toInt64)), .second, .unset, .unset, .unset] [])) _
    refine XS.dconst0 X21.here hx rfl (v := (0 : UInt64)) (hb hby at_37) rfl ?_
    show Steps p.tables e below (T21.setTop (mkF m 38 #[.val (.long q0), .second, .val (.ref b1), .val (.ref b9), .val (.double (FP.dmul (FP.l2d (own_sr (own_mix (q0 + (-7046029254386353131 : Int64))) 11)) (4368491638549381120 : UInt64))), .second, .val (.long (own_mix (q0 + (-7046029254386353131 : Int64)))), .second, .val (.long (((own_mix (q0 + (-7046029254386353131 : Int64))).toUInt64 >>> ((11 : Int32) &&& 0x3f).toInt64.toUInt64).toInt64)), .second, .unset, .unset, .unset] [(.double (0 : UInt64))])) _
    refine XS.dload X21.here hx rfl (hb hby at_38) rfl ?_
    show Steps p.tables e below (T21.setTop (mkF m 40 #[.val (.long q0), .second, .val (.ref b1), .val (.ref b9), .val (.double (FP.dmul (FP.l2d (own_sr (own_mix (q0 + (-7046029254386353131 : Int64))) 11)) (4368491638549381120 : UInt64))), .second, .val (.long (own_mix (q0 + (-7046029254386353131 : Int64)))), .second, .val (.long (((own_mix (q0 + (-7046029254386353131 : Int64))).toUInt64 >>> ((11 : Int32) &&& 0x3f).toInt64.toUInt64).toInt64)), .second, .unset, .unset, .unset] [(.double (FP.dmul (FP.l2d (own_sr (own_mix (q0 + (-7046029254386353131 : Int64))) 11)) (4368491638549381120 : UInt64))), (.double (0 : UInt64))])) _
    refine XS.dcmpS X21.here hx rfl (hb hby at_40) rfl rfl ?_
    show Steps p.tables e below (T21.setTop (mkF m 41 #[.val (.long q0), .second, .val (.ref b1), .val (.ref b9), .val (.double (FP.dmul (FP.l2d (own_sr (own_mix (q0 + (-7046029254386353131 : Int64))) 11)) (4368491638549381120 : UInt64))), .second, .val (.long (own_mix (q0 + (-7046029254386353131 : Int64)))), .second, .val (.long (((own_mix (q0 + (-7046029254386353131 : Int64))).toUInt64 >>> ((11 : Int32) &&& 0x3f).toInt64.toUInt64).toInt64)), .second, .unset, .unset, .unset] [(.int (cmpValue (FP.dcmp (0 : UInt64) (FP.dmul (FP.l2d (own_sr (own_mix (q0 + (-7046029254386353131 : Int64))) 11)) (4368491638549381120 : UInt64))) .g))])) _
    refine XS.ifNo X21.here hx rfl (hb hby at_41) rfl ((if0 _ _).trans (flt (show ¬ ((0 : Int32) < (cmpValue (FP.dcmp (0 : UInt64) (FP.dmul (FP.l2d (own_sr (own_mix (q0 + (-7046029254386353131 : Int64))) 11)) (4368491638549381120 : UInt64))) .g)) from own_c41 _)).2.2.1) ?_
    show Steps p.tables e below (T21.setTop (mkF m 44 #[.val (.long q0), .second, .val (.ref b1), .val (.ref b9), .val (.double (FP.dmul (FP.l2d (own_sr (own_mix (q0 + (-7046029254386353131 : Int64))) 11)) (4368491638549381120 : UInt64))), .second, .val (.long (own_mix (q0 + (-7046029254386353131 : Int64)))), .second, .val (.long (((own_mix (q0 + (-7046029254386353131 : Int64))).toUInt64 >>> ((11 : Int32) &&& 0x3f).toInt64.toUInt64).toInt64)), .second, .unset, .unset, .unset] [])) _
    refine XS.dload X21.here hx rfl (hb hby at_44) rfl ?_
    show Steps p.tables e below (T21.setTop (mkF m 46 #[.val (.long q0), .second, .val (.ref b1), .val (.ref b9), .val (.double (FP.dmul (FP.l2d (own_sr (own_mix (q0 + (-7046029254386353131 : Int64))) 11)) (4368491638549381120 : UInt64))), .second, .val (.long (own_mix (q0 + (-7046029254386353131 : Int64)))), .second, .val (.long (((own_mix (q0 + (-7046029254386353131 : Int64))).toUInt64 >>> ((11 : Int32) &&& 0x3f).toInt64.toUInt64).toInt64)), .second, .unset, .unset, .unset] [(.double (FP.dmul (FP.l2d (own_sr (own_mix (q0 + (-7046029254386353131 : Int64))) 11)) (4368491638549381120 : UInt64)))])) _
    refine XS.dconst1 X21.here hx rfl (v := (4607182418800017408 : UInt64)) (hb hby at_46) rfl ?_
    show Steps p.tables e below (T21.setTop (mkF m 47 #[.val (.long q0), .second, .val (.ref b1), .val (.ref b9), .val (.double (FP.dmul (FP.l2d (own_sr (own_mix (q0 + (-7046029254386353131 : Int64))) 11)) (4368491638549381120 : UInt64))), .second, .val (.long (own_mix (q0 + (-7046029254386353131 : Int64)))), .second, .val (.long (((own_mix (q0 + (-7046029254386353131 : Int64))).toUInt64 >>> ((11 : Int32) &&& 0x3f).toInt64.toUInt64).toInt64)), .second, .unset, .unset, .unset] [(.double (4607182418800017408 : UInt64)), (.double (FP.dmul (FP.l2d (own_sr (own_mix (q0 + (-7046029254386353131 : Int64))) 11)) (4368491638549381120 : UInt64)))])) _
    refine XS.dcmpS X21.here hx rfl (hb hby at_47) rfl rfl ?_
    show Steps p.tables e below (T21.setTop (mkF m 48 #[.val (.long q0), .second, .val (.ref b1), .val (.ref b9), .val (.double (FP.dmul (FP.l2d (own_sr (own_mix (q0 + (-7046029254386353131 : Int64))) 11)) (4368491638549381120 : UInt64))), .second, .val (.long (own_mix (q0 + (-7046029254386353131 : Int64)))), .second, .val (.long (((own_mix (q0 + (-7046029254386353131 : Int64))).toUInt64 >>> ((11 : Int32) &&& 0x3f).toInt64.toUInt64).toInt64)), .second, .unset, .unset, .unset] [(.int (cmpValue (FP.dcmp (FP.dmul (FP.l2d (own_sr (own_mix (q0 + (-7046029254386353131 : Int64))) 11)) (4368491638549381120 : UInt64)) (4607182418800017408 : UInt64)) .g))])) _
    refine XS.ifNo X21.here hx rfl (hb hby at_48) rfl ((if0 _ _).trans (tlt (show (cmpValue (FP.dcmp (FP.dmul (FP.l2d (own_sr (own_mix (q0 + (-7046029254386353131 : Int64))) 11)) (4368491638549381120 : UInt64)) (4607182418800017408 : UInt64)) .g) < (0 : Int32) from own_c48 _)).2.1) ?_
    show Steps p.tables e below (T21.setTop (mkF m 51 #[.val (.long q0), .second, .val (.ref b1), .val (.ref b9), .val (.double (FP.dmul (FP.l2d (own_sr (own_mix (q0 + (-7046029254386353131 : Int64))) 11)) (4368491638549381120 : UInt64))), .second, .val (.long (own_mix (q0 + (-7046029254386353131 : Int64)))), .second, .val (.long (((own_mix (q0 + (-7046029254386353131 : Int64))).toUInt64 >>> ((11 : Int32) &&& 0x3f).toInt64.toUInt64).toInt64)), .second, .unset, .unset, .unset] [])) _
    refine XS.iconst X21.here hx rfl (hb hby at_51) ?_
    show Steps p.tables e below (T21.setTop (mkF m 52 #[.val (.long q0), .second, .val (.ref b1), .val (.ref b9), .val (.double (FP.dmul (FP.l2d (own_sr (own_mix (q0 + (-7046029254386353131 : Int64))) 11)) (4368491638549381120 : UInt64))), .second, .val (.long (own_mix (q0 + (-7046029254386353131 : Int64)))), .second, .val (.long (((own_mix (q0 + (-7046029254386353131 : Int64))).toUInt64 >>> ((11 : Int32) &&& 0x3f).toInt64.toUInt64).toInt64)), .second, .unset, .unset, .unset] [(.int (1 : Int32))])) _
    refine XS.goto X21.here hx rfl (pc0 := 52) (pc' := 56) rfl (hb hby at_52) (by decide) (by decide) ?_
    show Steps p.tables e below (T21.setTop (mkF m 56 #[.val (.long q0), .second, .val (.ref b1), .val (.ref b9), .val (.double (FP.dmul (FP.l2d (own_sr (own_mix (q0 + (-7046029254386353131 : Int64))) 11)) (4368491638549381120 : UInt64))), .second, .val (.long (own_mix (q0 + (-7046029254386353131 : Int64)))), .second, .val (.long (((own_mix (q0 + (-7046029254386353131 : Int64))).toUInt64 >>> ((11 : Int32) &&& 0x3f).toInt64.toUInt64).toInt64)), .second, .unset, .unset, .unset] [(.int (1 : Int32))])) _
    refine XS.istore X21.here hx rfl (hb hby at_56) rfl (l' := #[.val (.long q0), .second, .val (.ref b1), .val (.ref b9), .val (.double (FP.dmul (FP.l2d (own_sr (own_mix (q0 + (-7046029254386353131 : Int64))) 11)) (4368491638549381120 : UInt64))), .second, .val (.long (own_mix (q0 + (-7046029254386353131 : Int64)))), .second, .val (.long (((own_mix (q0 + (-7046029254386353131 : Int64))).toUInt64 >>> ((11 : Int32) &&& 0x3f).toInt64.toUInt64).toInt64)), .second, .val (.int (1 : Int32)), .unset, .unset]) rfl ?_
    show Steps p.tables e below (T21.setTop (mkF m 58 #[.val (.long q0), .second, .val (.ref b1), .val (.ref b9), .val (.double (FP.dmul (FP.l2d (own_sr (own_mix (q0 + (-7046029254386353131 : Int64))) 11)) (4368491638549381120 : UInt64))), .second, .val (.long (own_mix (q0 + (-7046029254386353131 : Int64)))), .second, .val (.long (((own_mix (q0 + (-7046029254386353131 : Int64))).toUInt64 >>> ((11 : Int32) &&& 0x3f).toInt64.toUInt64).toInt64)), .second, .val (.int (1 : Int32)), .unset, .unset] [])) _
    refine XS.dload X21.here hx rfl (hb hby at_58) rfl ?_
    show Steps p.tables e below (T21.setTop (mkF m 60 #[.val (.long q0), .second, .val (.ref b1), .val (.ref b9), .val (.double (FP.dmul (FP.l2d (own_sr (own_mix (q0 + (-7046029254386353131 : Int64))) 11)) (4368491638549381120 : UInt64))), .second, .val (.long (own_mix (q0 + (-7046029254386353131 : Int64)))), .second, .val (.long (((own_mix (q0 + (-7046029254386353131 : Int64))).toUInt64 >>> ((11 : Int32) &&& 0x3f).toInt64.toUInt64).toInt64)), .second, .val (.int (1 : Int32)), .unset, .unset] [(.double (FP.dmul (FP.l2d (own_sr (own_mix (q0 + (-7046029254386353131 : Int64))) 11)) (4368491638549381120 : UInt64)))])) _
    refine X21.ldc2DoubleC hx hown (mvT hZ (hw _ (List.mem_of_getElem? (i := 26) rfl))) (g := (mkF m 60 #[.val (.long q0), .second, .val (.ref b1), .val (.ref b9), .val (.double (FP.dmul (FP.l2d (own_sr (own_mix (q0 + (-7046029254386353131 : Int64))) 11)) (4368491638549381120 : UInt64))), .second, .val (.long (own_mix (q0 + (-7046029254386353131 : Int64)))), .second, .val (.long (((own_mix (q0 + (-7046029254386353131 : Int64))).toUInt64 >>> ((11 : Int32) &&& 0x3f).toInt64.toUInt64).toInt64)), .second, .val (.int (1 : Int32)), .unset, .unset] [(.double (FP.dmul (FP.l2d (own_sr (own_mix (q0 + (-7046029254386353131 : Int64))) 11)) (4368491638549381120 : UInt64)))])) rfl (hb hby at_60) _ ?_
    show Steps p.tables e below (T21.setTop (mkF m 63 #[.val (.long q0), .second, .val (.ref b1), .val (.ref b9), .val (.double (FP.dmul (FP.l2d (own_sr (own_mix (q0 + (-7046029254386353131 : Int64))) 11)) (4368491638549381120 : UInt64))), .second, .val (.long (own_mix (q0 + (-7046029254386353131 : Int64)))), .second, .val (.long (((own_mix (q0 + (-7046029254386353131 : Int64))).toUInt64 >>> ((11 : Int32) &&& 0x3f).toInt64.toUInt64).toInt64)), .second, .val (.int (1 : Int32)), .unset, .unset] [(.double (4845873199050653696 : UInt64)), (.double (FP.dmul (FP.l2d (own_sr (own_mix (q0 + (-7046029254386353131 : Int64))) 11)) (4368491638549381120 : UInt64)))])) _
    refine XS.dmulS X21.here hx rfl (hb hby at_63) rfl (own_nn2 _) rfl ?_
    show Steps p.tables e below (T21.setTop (mkF m 64 #[.val (.long q0), .second, .val (.ref b1), .val (.ref b9), .val (.double (FP.dmul (FP.l2d (own_sr (own_mix (q0 + (-7046029254386353131 : Int64))) 11)) (4368491638549381120 : UInt64))), .second, .val (.long (own_mix (q0 + (-7046029254386353131 : Int64)))), .second, .val (.long (((own_mix (q0 + (-7046029254386353131 : Int64))).toUInt64 >>> ((11 : Int32) &&& 0x3f).toInt64.toUInt64).toInt64)), .second, .val (.int (1 : Int32)), .unset, .unset] [(.double (FP.dmul (FP.dmul (FP.l2d (own_sr (own_mix (q0 + (-7046029254386353131 : Int64))) 11)) (4368491638549381120 : UInt64)) (4845873199050653696 : UInt64)))])) _
    refine XS.lload X21.here hx rfl (hb hby at_64) rfl ?_
    show Steps p.tables e below (T21.setTop (mkF m 66 #[.val (.long q0), .second, .val (.ref b1), .val (.ref b9), .val (.double (FP.dmul (FP.l2d (own_sr (own_mix (q0 + (-7046029254386353131 : Int64))) 11)) (4368491638549381120 : UInt64))), .second, .val (.long (own_mix (q0 + (-7046029254386353131 : Int64)))), .second, .val (.long (((own_mix (q0 + (-7046029254386353131 : Int64))).toUInt64 >>> ((11 : Int32) &&& 0x3f).toInt64.toUInt64).toInt64)), .second, .val (.int (1 : Int32)), .unset, .unset] [(.long (((own_mix (q0 + (-7046029254386353131 : Int64))).toUInt64 >>> ((11 : Int32) &&& 0x3f).toInt64.toUInt64).toInt64)), (.double (FP.dmul (FP.dmul (FP.l2d (own_sr (own_mix (q0 + (-7046029254386353131 : Int64))) 11)) (4368491638549381120 : UInt64)) (4845873199050653696 : UInt64)))])) _
    refine XS.l2dS X21.here hx rfl (hb hby at_66) rfl rfl ?_
    show Steps p.tables e below (T21.setTop (mkF m 67 #[.val (.long q0), .second, .val (.ref b1), .val (.ref b9), .val (.double (FP.dmul (FP.l2d (own_sr (own_mix (q0 + (-7046029254386353131 : Int64))) 11)) (4368491638549381120 : UInt64))), .second, .val (.long (own_mix (q0 + (-7046029254386353131 : Int64)))), .second, .val (.long (((own_mix (q0 + (-7046029254386353131 : Int64))).toUInt64 >>> ((11 : Int32) &&& 0x3f).toInt64.toUInt64).toInt64)), .second, .val (.int (1 : Int32)), .unset, .unset] [(.double (FP.l2d (((own_mix (q0 + (-7046029254386353131 : Int64))).toUInt64 >>> ((11 : Int32) &&& 0x3f).toInt64.toUInt64).toInt64))), (.double (FP.dmul (FP.dmul (FP.l2d (own_sr (own_mix (q0 + (-7046029254386353131 : Int64))) 11)) (4368491638549381120 : UInt64)) (4845873199050653696 : UInt64)))])) _
    refine XS.dcmpS X21.here hx rfl (hb hby at_67) rfl rfl ?_
    show Steps p.tables e below (T21.setTop (mkF m 68 #[.val (.long q0), .second, .val (.ref b1), .val (.ref b9), .val (.double (FP.dmul (FP.l2d (own_sr (own_mix (q0 + (-7046029254386353131 : Int64))) 11)) (4368491638549381120 : UInt64))), .second, .val (.long (own_mix (q0 + (-7046029254386353131 : Int64)))), .second, .val (.long (((own_mix (q0 + (-7046029254386353131 : Int64))).toUInt64 >>> ((11 : Int32) &&& 0x3f).toInt64.toUInt64).toInt64)), .second, .val (.int (1 : Int32)), .unset, .unset] [(.int (cmpValue (FP.dcmp (FP.dmul (FP.dmul (FP.l2d (own_sr (own_mix (q0 + (-7046029254386353131 : Int64))) 11)) (4368491638549381120 : UInt64)) (4845873199050653696 : UInt64)) (FP.l2d (((own_mix (q0 + (-7046029254386353131 : Int64))).toUInt64 >>> ((11 : Int32) &&& 0x3f).toInt64.toUInt64).toInt64))) .l))])) _
    refine XS.ifNo X21.here hx rfl (hb hby at_68) rfl ((if0 _ _).trans (teq (show (cmpValue (FP.dcmp (FP.dmul (FP.dmul (FP.l2d (own_sr (own_mix (q0 + (-7046029254386353131 : Int64))) 11)) (4368491638549381120 : UInt64)) (4845873199050653696 : UInt64)) (FP.l2d (((own_mix (q0 + (-7046029254386353131 : Int64))).toUInt64 >>> ((11 : Int32) &&& 0x3f).toInt64.toUInt64).toInt64))) .l) = (0 : Int32) from own_c68 _)).2) ?_
    show Steps p.tables e below (T21.setTop (mkF m 71 #[.val (.long q0), .second, .val (.ref b1), .val (.ref b9), .val (.double (FP.dmul (FP.l2d (own_sr (own_mix (q0 + (-7046029254386353131 : Int64))) 11)) (4368491638549381120 : UInt64))), .second, .val (.long (own_mix (q0 + (-7046029254386353131 : Int64)))), .second, .val (.long (((own_mix (q0 + (-7046029254386353131 : Int64))).toUInt64 >>> ((11 : Int32) &&& 0x3f).toInt64.toUInt64).toInt64)), .second, .val (.int (1 : Int32)), .unset, .unset] [])) _
    refine XS.iconst X21.here hx rfl (hb hby at_71) ?_
    show Steps p.tables e below (T21.setTop (mkF m 72 #[.val (.long q0), .second, .val (.ref b1), .val (.ref b9), .val (.double (FP.dmul (FP.l2d (own_sr (own_mix (q0 + (-7046029254386353131 : Int64))) 11)) (4368491638549381120 : UInt64))), .second, .val (.long (own_mix (q0 + (-7046029254386353131 : Int64)))), .second, .val (.long (((own_mix (q0 + (-7046029254386353131 : Int64))).toUInt64 >>> ((11 : Int32) &&& 0x3f).toInt64.toUInt64).toInt64)), .second, .val (.int (1 : Int32)), .unset, .unset] [(.int (1 : Int32))])) _
    refine XS.goto X21.here hx rfl (pc0 := 72) (pc' := 76) rfl (hb hby at_72) (by decide) (by decide) ?_
    show Steps p.tables e below (T21.setTop (mkF m 76 #[.val (.long q0), .second, .val (.ref b1), .val (.ref b9), .val (.double (FP.dmul (FP.l2d (own_sr (own_mix (q0 + (-7046029254386353131 : Int64))) 11)) (4368491638549381120 : UInt64))), .second, .val (.long (own_mix (q0 + (-7046029254386353131 : Int64)))), .second, .val (.long (((own_mix (q0 + (-7046029254386353131 : Int64))).toUInt64 >>> ((11 : Int32) &&& 0x3f).toInt64.toUInt64).toInt64)), .second, .val (.int (1 : Int32)), .unset, .unset] [(.int (1 : Int32))])) _
    refine XS.istore X21.here hx rfl (hb hby at_76) rfl (l' := #[.val (.long q0), .second, .val (.ref b1), .val (.ref b9), .val (.double (FP.dmul (FP.l2d (own_sr (own_mix (q0 + (-7046029254386353131 : Int64))) 11)) (4368491638549381120 : UInt64))), .second, .val (.long (own_mix (q0 + (-7046029254386353131 : Int64)))), .second, .val (.long (((own_mix (q0 + (-7046029254386353131 : Int64))).toUInt64 >>> ((11 : Int32) &&& 0x3f).toInt64.toUInt64).toInt64)), .second, .val (.int (1 : Int32)), .val (.int (1 : Int32)), .unset]) rfl ?_
    show Steps p.tables e below (T21.setTop (mkF m 78 #[.val (.long q0), .second, .val (.ref b1), .val (.ref b9), .val (.double (FP.dmul (FP.l2d (own_sr (own_mix (q0 + (-7046029254386353131 : Int64))) 11)) (4368491638549381120 : UInt64))), .second, .val (.long (own_mix (q0 + (-7046029254386353131 : Int64)))), .second, .val (.long (((own_mix (q0 + (-7046029254386353131 : Int64))).toUInt64 >>> ((11 : Int32) &&& 0x3f).toInt64.toUInt64).toInt64)), .second, .val (.int (1 : Int32)), .val (.int (1 : Int32)), .unset] [])) _
    refine XS.aloadN X21.here hx rfl (hb hby at_78) rfl rfl ?_
    show Steps p.tables e below (T21.setTop (mkF m 79 #[.val (.long q0), .second, .val (.ref b1), .val (.ref b9), .val (.double (FP.dmul (FP.l2d (own_sr (own_mix (q0 + (-7046029254386353131 : Int64))) 11)) (4368491638549381120 : UInt64))), .second, .val (.long (own_mix (q0 + (-7046029254386353131 : Int64)))), .second, .val (.long (((own_mix (q0 + (-7046029254386353131 : Int64))).toUInt64 >>> ((11 : Int32) &&& 0x3f).toInt64.toUInt64).toInt64)), .second, .val (.int (1 : Int32)), .val (.int (1 : Int32)), .unset] [(.ref b1)])) _
    refine st25.trans ?_
    show Steps p.tables e below (T25.setTop (mkF m 82 #[.val (.long q0), .second, .val (.ref b1), .val (.ref b9), .val (.double (FP.dmul (FP.l2d (own_sr (own_mix (q0 + (-7046029254386353131 : Int64))) 11)) (4368491638549381120 : UInt64))), .second, .val (.long (own_mix (q0 + (-7046029254386353131 : Int64)))), .second, .val (.long (((own_mix (q0 + (-7046029254386353131 : Int64))).toUInt64 >>> ((11 : Int32) &&& 0x3f).toInt64.toUInt64).toInt64)), .second, .val (.int (1 : Int32)), .val (.int (1 : Int32)), .unset] [(.long (q0 + (-7046029254386353131 : Int64)))])) _
    refine XS.aloadN X25.here hx rfl (hb hby at_82) rfl rfl ?_
    show Steps p.tables e below (T25.setTop (mkF m 83 #[.val (.long q0), .second, .val (.ref b1), .val (.ref b9), .val (.double (FP.dmul (FP.l2d (own_sr (own_mix (q0 + (-7046029254386353131 : Int64))) 11)) (4368491638549381120 : UInt64))), .second, .val (.long (own_mix (q0 + (-7046029254386353131 : Int64)))), .second, .val (.long (((own_mix (q0 + (-7046029254386353131 : Int64))).toUInt64 >>> ((11 : Int32) &&& 0x3f).toInt64.toUInt64).toInt64)), .second, .val (.int (1 : Int32)), .val (.int (1 : Int32)), .unset] [(.ref b9), (.long (q0 + (-7046029254386353131 : Int64)))])) _
    refine st26.trans ?_
    show Steps p.tables e below (T26.setTop (mkF m 86 #[.val (.long q0), .second, .val (.ref b1), .val (.ref b9), .val (.double (FP.dmul (FP.l2d (own_sr (own_mix (q0 + (-7046029254386353131 : Int64))) 11)) (4368491638549381120 : UInt64))), .second, .val (.long (own_mix (q0 + (-7046029254386353131 : Int64)))), .second, .val (.long (((own_mix (q0 + (-7046029254386353131 : Int64))).toUInt64 >>> ((11 : Int32) &&& 0x3f).toInt64.toUInt64).toInt64)), .second, .val (.int (1 : Int32)), .val (.int (1 : Int32)), .unset] [(.long (q0 + (-7046029254386353131 : Int64))), (.long (q0 + (-7046029254386353131 : Int64)))])) _
    refine XS.lcmp X26.here hx rfl (hb hby at_86) rfl ?_
    show Steps p.tables e below (T26.setTop (mkF m 87 #[.val (.long q0), .second, .val (.ref b1), .val (.ref b9), .val (.double (FP.dmul (FP.l2d (own_sr (own_mix (q0 + (-7046029254386353131 : Int64))) 11)) (4368491638549381120 : UInt64))), .second, .val (.long (own_mix (q0 + (-7046029254386353131 : Int64)))), .second, .val (.long (((own_mix (q0 + (-7046029254386353131 : Int64))).toUInt64 >>> ((11 : Int32) &&& 0x3f).toInt64.toUInt64).toInt64)), .second, .val (.int (1 : Int32)), .val (.int (1 : Int32)), .unset] [(.int (lcmpW (q0 + (-7046029254386353131 : Int64)) (q0 + (-7046029254386353131 : Int64))))])) _
    refine XS.ifNo X26.here hx rfl (hb hby at_87) rfl (own_eqL (show (q0 + (-7046029254386353131 : Int64)) = (q0 + (-7046029254386353131 : Int64)) from rfl)).2 ?_
    show Steps p.tables e below (T26.setTop (mkF m 90 #[.val (.long q0), .second, .val (.ref b1), .val (.ref b9), .val (.double (FP.dmul (FP.l2d (own_sr (own_mix (q0 + (-7046029254386353131 : Int64))) 11)) (4368491638549381120 : UInt64))), .second, .val (.long (own_mix (q0 + (-7046029254386353131 : Int64)))), .second, .val (.long (((own_mix (q0 + (-7046029254386353131 : Int64))).toUInt64 >>> ((11 : Int32) &&& 0x3f).toInt64.toUInt64).toInt64)), .second, .val (.int (1 : Int32)), .val (.int (1 : Int32)), .unset] [])) _
    refine XS.iconst X26.here hx rfl (hb hby at_90) ?_
    show Steps p.tables e below (T26.setTop (mkF m 91 #[.val (.long q0), .second, .val (.ref b1), .val (.ref b9), .val (.double (FP.dmul (FP.l2d (own_sr (own_mix (q0 + (-7046029254386353131 : Int64))) 11)) (4368491638549381120 : UInt64))), .second, .val (.long (own_mix (q0 + (-7046029254386353131 : Int64)))), .second, .val (.long (((own_mix (q0 + (-7046029254386353131 : Int64))).toUInt64 >>> ((11 : Int32) &&& 0x3f).toInt64.toUInt64).toInt64)), .second, .val (.int (1 : Int32)), .val (.int (1 : Int32)), .unset] [(.int (1 : Int32))])) _
    refine XS.goto X26.here hx rfl (pc0 := 91) (pc' := 95) rfl (hb hby at_91) (by decide) (by decide) ?_
    show Steps p.tables e below (T26.setTop (mkF m 95 #[.val (.long q0), .second, .val (.ref b1), .val (.ref b9), .val (.double (FP.dmul (FP.l2d (own_sr (own_mix (q0 + (-7046029254386353131 : Int64))) 11)) (4368491638549381120 : UInt64))), .second, .val (.long (own_mix (q0 + (-7046029254386353131 : Int64)))), .second, .val (.long (((own_mix (q0 + (-7046029254386353131 : Int64))).toUInt64 >>> ((11 : Int32) &&& 0x3f).toInt64.toUInt64).toInt64)), .second, .val (.int (1 : Int32)), .val (.int (1 : Int32)), .unset] [(.int (1 : Int32))])) _
    refine XS.istore X26.here hx rfl (hb hby at_95) rfl (l' := #[.val (.long q0), .second, .val (.ref b1), .val (.ref b9), .val (.double (FP.dmul (FP.l2d (own_sr (own_mix (q0 + (-7046029254386353131 : Int64))) 11)) (4368491638549381120 : UInt64))), .second, .val (.long (own_mix (q0 + (-7046029254386353131 : Int64)))), .second, .val (.long (((own_mix (q0 + (-7046029254386353131 : Int64))).toUInt64 >>> ((11 : Int32) &&& 0x3f).toInt64.toUInt64).toInt64)), .second, .val (.int (1 : Int32)), .val (.int (1 : Int32)), .val (.int (1 : Int32))]) rfl ?_
    show Steps p.tables e below (T26.setTop (mkF m 97 #[.val (.long q0), .second, .val (.ref b1), .val (.ref b9), .val (.double (FP.dmul (FP.l2d (own_sr (own_mix (q0 + (-7046029254386353131 : Int64))) 11)) (4368491638549381120 : UInt64))), .second, .val (.long (own_mix (q0 + (-7046029254386353131 : Int64)))), .second, .val (.long (((own_mix (q0 + (-7046029254386353131 : Int64))).toUInt64 >>> ((11 : Int32) &&& 0x3f).toInt64.toUInt64).toInt64)), .second, .val (.int (1 : Int32)), .val (.int (1 : Int32)), .val (.int (1 : Int32))] [])) _
    refine XS.iload X26.here hx rfl (hb hby at_97) rfl ?_
    show Steps p.tables e below (T26.setTop (mkF m 99 #[.val (.long q0), .second, .val (.ref b1), .val (.ref b9), .val (.double (FP.dmul (FP.l2d (own_sr (own_mix (q0 + (-7046029254386353131 : Int64))) 11)) (4368491638549381120 : UInt64))), .second, .val (.long (own_mix (q0 + (-7046029254386353131 : Int64)))), .second, .val (.long (((own_mix (q0 + (-7046029254386353131 : Int64))).toUInt64 >>> ((11 : Int32) &&& 0x3f).toInt64.toUInt64).toInt64)), .second, .val (.int (1 : Int32)), .val (.int (1 : Int32)), .val (.int (1 : Int32))] [(.int (1 : Int32))])) _
    refine XS.ifNo X26.here hx rfl (hb hby at_99) rfl ((if0 _ _).trans (feq (show ¬ ((1 : Int32) = (0 : Int32)) by decide)).1) ?_
    show Steps p.tables e below (T26.setTop (mkF m 102 #[.val (.long q0), .second, .val (.ref b1), .val (.ref b9), .val (.double (FP.dmul (FP.l2d (own_sr (own_mix (q0 + (-7046029254386353131 : Int64))) 11)) (4368491638549381120 : UInt64))), .second, .val (.long (own_mix (q0 + (-7046029254386353131 : Int64)))), .second, .val (.long (((own_mix (q0 + (-7046029254386353131 : Int64))).toUInt64 >>> ((11 : Int32) &&& 0x3f).toInt64.toUInt64).toInt64)), .second, .val (.int (1 : Int32)), .val (.int (1 : Int32)), .val (.int (1 : Int32))] [])) _
    refine XS.iload X26.here hx rfl (hb hby at_102) rfl ?_
    show Steps p.tables e below (T26.setTop (mkF m 104 #[.val (.long q0), .second, .val (.ref b1), .val (.ref b9), .val (.double (FP.dmul (FP.l2d (own_sr (own_mix (q0 + (-7046029254386353131 : Int64))) 11)) (4368491638549381120 : UInt64))), .second, .val (.long (own_mix (q0 + (-7046029254386353131 : Int64)))), .second, .val (.long (((own_mix (q0 + (-7046029254386353131 : Int64))).toUInt64 >>> ((11 : Int32) &&& 0x3f).toInt64.toUInt64).toInt64)), .second, .val (.int (1 : Int32)), .val (.int (1 : Int32)), .val (.int (1 : Int32))] [(.int (1 : Int32))])) _
    refine XS.ifNo X26.here hx rfl (hb hby at_104) rfl ((if0 _ _).trans (feq (show ¬ ((1 : Int32) = (0 : Int32)) by decide)).1) ?_
    show Steps p.tables e below (T26.setTop (mkF m 107 #[.val (.long q0), .second, .val (.ref b1), .val (.ref b9), .val (.double (FP.dmul (FP.l2d (own_sr (own_mix (q0 + (-7046029254386353131 : Int64))) 11)) (4368491638549381120 : UInt64))), .second, .val (.long (own_mix (q0 + (-7046029254386353131 : Int64)))), .second, .val (.long (((own_mix (q0 + (-7046029254386353131 : Int64))).toUInt64 >>> ((11 : Int32) &&& 0x3f).toInt64.toUInt64).toInt64)), .second, .val (.int (1 : Int32)), .val (.int (1 : Int32)), .val (.int (1 : Int32))] [])) _
    refine XS.iload X26.here hx rfl (hb hby at_107) rfl ?_
    show Steps p.tables e below (T26.setTop (mkF m 109 #[.val (.long q0), .second, .val (.ref b1), .val (.ref b9), .val (.double (FP.dmul (FP.l2d (own_sr (own_mix (q0 + (-7046029254386353131 : Int64))) 11)) (4368491638549381120 : UInt64))), .second, .val (.long (own_mix (q0 + (-7046029254386353131 : Int64)))), .second, .val (.long (((own_mix (q0 + (-7046029254386353131 : Int64))).toUInt64 >>> ((11 : Int32) &&& 0x3f).toInt64.toUInt64).toInt64)), .second, .val (.int (1 : Int32)), .val (.int (1 : Int32)), .val (.int (1 : Int32))] [(.int (1 : Int32))])) _
    refine XS.ifNo X26.here hx rfl (hb hby at_109) rfl ((if0 _ _).trans (feq (show ¬ ((1 : Int32) = (0 : Int32)) by decide)).1) ?_
    show Steps p.tables e below (T26.setTop (mkF m 112 #[.val (.long q0), .second, .val (.ref b1), .val (.ref b9), .val (.double (FP.dmul (FP.l2d (own_sr (own_mix (q0 + (-7046029254386353131 : Int64))) 11)) (4368491638549381120 : UInt64))), .second, .val (.long (own_mix (q0 + (-7046029254386353131 : Int64)))), .second, .val (.long (((own_mix (q0 + (-7046029254386353131 : Int64))).toUInt64 >>> ((11 : Int32) &&& 0x3f).toInt64.toUInt64).toInt64)), .second, .val (.int (1 : Int32)), .val (.int (1 : Int32)), .val (.int (1 : Int32))] [])) _
    refine XS.iconst X26.here hx rfl (hb hby at_112) ?_
    show Steps p.tables e below (T26.setTop (mkF m 113 #[.val (.long q0), .second, .val (.ref b1), .val (.ref b9), .val (.double (FP.dmul (FP.l2d (own_sr (own_mix (q0 + (-7046029254386353131 : Int64))) 11)) (4368491638549381120 : UInt64))), .second, .val (.long (own_mix (q0 + (-7046029254386353131 : Int64)))), .second, .val (.long (((own_mix (q0 + (-7046029254386353131 : Int64))).toUInt64 >>> ((11 : Int32) &&& 0x3f).toInt64.toUInt64).toInt64)), .second, .val (.int (1 : Int32)), .val (.int (1 : Int32)), .val (.int (1 : Int32))] [(.int (1 : Int32))])) _
    refine XS.goto X26.here hx rfl (pc0 := 113) (pc' := 117) rfl (hb hby at_113) (by decide) (by decide) ?_
    show Steps p.tables e below (T26.setTop (mkF m 117 #[.val (.long q0), .second, .val (.ref b1), .val (.ref b9), .val (.double (FP.dmul (FP.l2d (own_sr (own_mix (q0 + (-7046029254386353131 : Int64))) 11)) (4368491638549381120 : UInt64))), .second, .val (.long (own_mix (q0 + (-7046029254386353131 : Int64)))), .second, .val (.long (((own_mix (q0 + (-7046029254386353131 : Int64))).toUInt64 >>> ((11 : Int32) &&& 0x3f).toInt64.toUInt64).toInt64)), .second, .val (.int (1 : Int32)), .val (.int (1 : Int32)), .val (.int (1 : Int32))] [(.int (1 : Int32))])) _
    exact k)
  obtain ⟨fs, hr, hrun, hended, hW, hsame⟩ := X26.leave (v := some (.int (1 : Int32))) (fun h => by rw [Bd.returns] at h; cases h)
  refine ⟨_, _, pre27 _ ?_, hrun, hended, _, _, rfl, ?_, ⟨_, rfl⟩, hW, hsame.mono (by decide) (by decide)⟩
  · exact retN X26 hx (t := .boolean) Bd.returns (by simp) (hb hby at_117) hr
  · show Q0 Z q0 h0 n0 _ T26.heap _
    rw [hh26]
    exact ⟨rfl, N26⟩
set_option maxRecDepth 65536 in
set_option maxHeartbeats 40000000 in
theorem comes_1 {Post : Tables → Env → Array Value → State → Outcome → State → Prop} (hpost : ∀ tb e args s v u, (limb_1_1.after args s (.returned v) u = true ∧ limb_1_2.after args s (.returned v) u = true ∧ True) → FrameEnd s (.returned v) u (Jvm.fieldLocs frame_1_writes args s ++ Jvm.arrayLocs frame_1_arrays args s ++ Jvm.staticLocs frame_1_statics s) 16 128 → Post tb e args s (.returned v) u) :
    ArmFor flags0 classFile x code maxLocals ret World_1 tables_1 room_1 Calls_1 rest_1 Pre_1 Post := by
  intro l hfl _ _ p e ha hc hk s m args below hf hA hF happ hP
  obtain ⟨hcalls, hrest, hpre⟩ := hP
  obtain ⟨-, -, -, hnamed, -, -, -, hat⟩ := (Spec.applies_iff hf).mp happ
  obtain ⟨hg, hn⟩ := and_e (Cond.before_iff.mp (show (Jvm.Cond.and given_1 narrow_1).before args s = true from hpre))
  obtain ⟨h1, g0⟩ := and_e hg
  obtain ⟨w0, rfl⟩ : ∃ w0 : Value, args = #[w0] := by
    have hs : args.size = 1 := by simpa [Cond.value, given_1] using h1
    obtain ⟨L⟩ := args
    match L, hs with
    | [w0], _ => exact ⟨w0, rfl⟩
  have hw := fun d (hd : d ∈ tables_1) => atoms_spec (ws := Jvm.Cond.code x code maxLocals ret :: tables_1) hat d (List.mem_cons_of_mem _ hd)
  have hfit : Fit s := fun {y c} hc i hi => by
    obtain ⟨ha, rfl⟩ := Array.getElem?_eq_some_iff.mp hc
    have q := List.all_eq_true.mp ((Array.all_eq_true_iff_forall_mem.mp hF) _ (Array.getElem_mem ha)) i (List.mem_range.mpr hi)
    simpa [Array.getElem?_eq_getElem hi] using q
  obtain ⟨i0, e0⟩ := isL_v g0
  obtain rfl : w0 = (.long i0) := Option.some.inj e0
  obtain ⟨n, o, h1, h2, h3, _, L, rfl, ⟨rfl, N⟩, hq⟩ := rm0 l s _ hw tables_1 i0  s.heap s.heap.size (Nat.le_refl _)  p e ha hc hk s m _ below hf ((Spec.applies_iff_loose hf).mp happ).1 ⟨rfl, State.Warmed39.refl s, rfl⟩ trivial
  refine ⟨n, _, h1, h2, h3, hpost _ _ _ _ _ _ ⟨Cond.after_iff.mpr rfl, Cond.after_iff.mpr (eq_i res_at (Term.int_eval (1)) rfl), trivial⟩ ⟨hq.1, hq.2.1, (hq.2.2.sift fun y hy => Or.inr (N y hy)).mono (by decide) (by decide)⟩⟩
theorem main_1_1 : Claimed_1_1 := comes_1 fun _ _ _ _ _ _ h hF => ⟨h.1, hF⟩
theorem main_1_2 : Claimed_1_2 := comes_1 fun _ _ _ _ _ _ h hF => ⟨h.2.1, hF⟩
end Jvm.Pilot.@@N@@
namespace Jvm.Pilot.@@N@@
open Jvm Jvm.ClassFile Sem Op Lib Jvm.Free Jvm.Stand Jvm.Pilot.@@N@@.Jvm.D
/-! MADE BY PROGRAM (witnessworld.py) out of the Statement's table words and the real class files: 9 classes; the members and pool entries that the words name. The judged class is class 1, her method 1. -/
namespace start1
open Jvm.ClassFile
def u (s : String) : CpInfo := .utf8 (stringToUtf16 s)
/-- a pool by its gaps: so many unusable entries, then the entry; so many at the end -/
def gap : Nat → List CpInfo → List CpInfo
  | 0, r => r
  | n + 1, r => .unusable :: gap n r
def poolList (es : List (Nat × CpInfo)) (last : Nat) : List CpInfo := es.foldr (fun e r => gap e.1 (e.2 :: r)) (gap last [])
def pool (es : List (Nat × CpInfo)) (last : Nat) : Array CpInfo := ⟨poolList es last⟩
def fileOf (pool : Array CpInfo) (this : Nat) (attrs : Array Attribute := #[]) (ms : Array MethodInfo := #[]) (fl : Nat := 33) (sup : Nat := 0) (ifs : Array Nat := #[]) (fds : Array FieldInfo := #[]) : ClassFile where
  minorVersion := 0
  majorVersion := 65
  constantPool := pool
  accessFlags := fl
  thisClass := this
  superClass := sup
  interfaces := ifs
  fields := fds
  methods := ms
  attributes := attrs
def plain (name : String) (sup : Option ClassId) : Class where
  name := name
  kind := .ordinary
  loader := none
  accessFlags := 33
  super := sup
  interfaces := #[]
  cf := none
  fields := #[]
  methods := #[]
  instanceTypes := #[]
  staticTypes := #[]
  resolved := #[]
  callSites := []
  init := .initialized
  statics := none
  mirror := none

def pool0 : Array CpInfo := pool [(5, u "<init>"), (0, u "()V"), (1, .class_ 10), (1, u "java/lang/Object")] 113

def k0c0 : Code := { maxStack := 0, maxLocals := 1, code := object_method_1_code, exceptionTable := #[], attributes := #[] }
def k0m0 : Method := { name := "<init>", desc := "()V", sig := { parameters := [], returnType := none }, accessFlags := 1, code := some k0c0 }
/-- java/lang/Object -/
def k0 : Class := { plain "java/lang/Object" none with
  accessFlags := 33
  interfaces := #[]
  cf := some (fileOf pool0 8 #[] #[{ accessFlags := 1, nameIndex := 5, descriptorIndex := 6, attributes := #[] }] 33 0 #[] #[])
  fields := #[]
  methods := #[k0m0]
  instanceTypes := #[]
  staticTypes := #[]
  resolved := Array.replicate 124 none
  statics := none }

def pool1 : Array CpInfo := pool [(2, .class_ 4), (1, u "java/lang/Object"), (0, u "<init>"), (0, u "()V"), (0, .class_ 8), (0, u "com/example/wakasato/wakasato/search/SeededRandom"), (0, .methodref 7 10), (0, .nameAndType 5 11), (0, u "(J)V"), (0, .methodref 7 13), (0, .nameAndType 14 15), (0, u "nextDouble"), (0, u "()D"), (0, .methodref 7 17), (0, .nameAndType 18 19), (0, u "nextLong"), (0, u "()J"), (0, .double 4845873199050653696), (1, .methodref 7 23), (0, .nameAndType 24 19), (0, u "state"), (0, .class_ 26), (0, u "com/example/wakasato/wakasato/search/SeededRandomNextDoublePinLaw"), (2, u "law"), (0, u "(J)Z")] 3

def k1m0 : Method := { name := "<init>", desc := "()V", sig := { parameters := [], returnType := none }, accessFlags := 1, code := none }
def k1c1 : Code := { maxStack := 4, maxLocals := 13, code := code, exceptionTable := #[], attributes := #[] }
def k1m1 : Method := { name := "law", desc := "(J)Z", sig := { parameters := [.long], returnType := some .boolean }, accessFlags := 9, code := some k1c1 }
/-- com/example/wakasato/wakasato/search/SeededRandomNextDoublePinLaw -/
def k1 : Class := { plain "com/example/wakasato/wakasato/search/SeededRandomNextDoublePinLaw" (some 0) with
  accessFlags := 49
  interfaces := #[]
  cf := some (fileOf pool1 25 #[] #[{ accessFlags := 1, nameIndex := 5, descriptorIndex := 6, attributes := #[] }, { accessFlags := 9, nameIndex := 29, descriptorIndex := 30, attributes := #[] }] 49 2 #[] #[])
  fields := #[]
  methods := #[k1m0, k1m1]
  instanceTypes := #[]
  staticTypes := #[]
  resolved := Array.replicate 34 none
  statics := none }

def pool2 : Array CpInfo := pool [(1, .methodref 2 3), (0, .class_ 4), (0, .nameAndType 5 6), (0, u "java/lang/Object"), (0, u "<init>"), (0, u "()V"), (0, .fieldref 8 9), (0, .class_ 10), (0, .nameAndType 11 12), (0, u "com/example/wakasato/wakasato/search/SeededRandom"), (0, u "state"), (0, u "J"), (0, .long 11400714819323198485), (1, .long 13787848793156543929), (1, .long 10723151780598845931), (10, .methodref 8 29), (0, .nameAndType 30 31), (0, u "nextLong"), (0, u "()J"), (0, .double 4368491638549381120), (1, u "GAMMA"), (1, u "UNIT"), (0, u "D"), (0, u "(J)V"), (5, u "nextDouble"), (0, u "()D")] 19

def k2c0 : Code := { maxStack := 3, maxLocals := 3, code := prog_8_method_1_code, exceptionTable := #[], attributes := #[] }
def k2m0 : Method := { name := "<init>", desc := "(J)V", sig := { parameters := [.long], returnType := none }, accessFlags := 0, code := some k2c0 }
def k2c1 : Code := { maxStack := 2, maxLocals := 1, code := prog_8_method_2_code, exceptionTable := #[], attributes := #[] }
def k2m1 : Method := { name := "state", desc := "()J", sig := { parameters := [], returnType := some .long }, accessFlags := 0, code := some k2c1 }
def k2c2 : Code := { maxStack := 5, maxLocals := 3, code := prog_8_method_3_code, exceptionTable := #[], attributes := #[] }
def k2m2 : Method := { name := "nextLong", desc := "()J", sig := { parameters := [], returnType := some .long }, accessFlags := 0, code := some k2c2 }
def k2c3 : Code := { maxStack := 4, maxLocals := 1, code := prog_8_method_5_code, exceptionTable := #[], attributes := #[] }
def k2m3 : Method := { name := "nextDouble", desc := "()D", sig := { parameters := [], returnType := some .double }, accessFlags := 0, code := some k2c3 }
/-- com/example/wakasato/wakasato/search/SeededRandom -/
def k2 : Class := { plain "com/example/wakasato/wakasato/search/SeededRandom" (some 0) with
  accessFlags := 48
  interfaces := #[]
  cf := some (fileOf pool2 8 #[] #[{ accessFlags := 0, nameIndex := 5, descriptorIndex := 38, attributes := #[] }, { accessFlags := 0, nameIndex := 11, descriptorIndex := 31, attributes := #[] }, { accessFlags := 0, nameIndex := 30, descriptorIndex := 31, attributes := #[] }, { accessFlags := 0, nameIndex := 44, descriptorIndex := 45, attributes := #[] }] 48 2 #[] #[{ accessFlags := 26, nameIndex := 34, descriptorIndex := 12, attributes := #[] }, { accessFlags := 26, nameIndex := 36, descriptorIndex := 37, attributes := #[] }, { accessFlags := 2, nameIndex := 11, descriptorIndex := 12, attributes := #[] }])
  fields := #[{ name := "GAMMA", type := .long, accessFlags := 26, slot := 0, constantValue := 0 }, { name := "UNIT", type := .double, accessFlags := 26, slot := 1, constantValue := 0 }, { name := "state", type := .long, accessFlags := 2, slot := 0, constantValue := 0 }]
  methods := #[k2m0, k2m1, k2m2, k2m3]
  instanceTypes := #[.long]
  staticTypes := #[.long, .double]
  resolved := Array.replicate 65 none
  statics := none }

def pool3 : Array CpInfo := pool [(1, u "java/lang/Cloneable"), (0, .class_ 1), (0, u "java/lang/Object"), (0, .class_ 3)] 3

/-- java/lang/Cloneable -/
def k3 : Class := { plain "java/lang/Cloneable" (some 0) with
  accessFlags := 1537
  interfaces := #[]
  cf := some (fileOf pool3 2 #[] #[] 1537 4 #[] #[])
  fields := #[]
  methods := #[]
  instanceTypes := #[]
  staticTypes := #[]
  resolved := Array.replicate 8 none
  statics := none }

def pool4 : Array CpInfo := pool [(1, u "java/io/Serializable"), (0, .class_ 1), (0, u "java/lang/Object"), (0, .class_ 3)] 3

/-- java/io/Serializable -/
def k4 : Class := { plain "java/io/Serializable" (some 0) with
  accessFlags := 1537
  interfaces := #[]
  cf := some (fileOf pool4 2 #[] #[] 1537 4 #[] #[])
  fields := #[]
  methods := #[]
  instanceTypes := #[]
  staticTypes := #[]
  resolved := Array.replicate 8 none
  statics := none }

/-- the primitive byte -/
def k5 : Class := { plain "byte" none with kind := .primitive 'B', accessFlags := 0x411 }
/-- [B -/
def k6 : Class := { plain "[B" (some 0) with kind := .array 5 .byte, interfaces := #[3, 4], accessFlags := 1041 }

/-- the primitive int -/
def k7 : Class := { plain "int" none with kind := .primitive 'I', accessFlags := 0x411 }
/-- [I -/
def k8 : Class := { plain "[I" (some 0) with kind := .array 7 .int, interfaces := #[3, 4], accessFlags := 1041 }

def heap : Heap := #[]
def classes : Array Class := #[k0, k1, k2, k3, k4, k5, k6, k7, k8]
def interned : List (Array UInt16 × Addr) := []
def slotsUsed : Nat := 0
def theMethod : MethodId := ⟨1, 1⟩
def args0 : Array Value := #[.long 5]
def aboutOver (below : List Frame) : State where
  vm := { classes := classes, interned := interned.toArray }
  heap := heap
  slotsUsed := slotsUsed
  threads := #[{ frames := .invoking theMethod args0 :: below }]
def below0 : List Frame := [.native { method := ⟨0, 0⟩, args := #[] }]
def about1 : State := aboutOver below0
def p0 : Program := .bare "" "" ""
def e0 : Env := launch0.env 0 0 0
theorem w_frames : about1.frames = Frame.invoking theMethod args0 :: below0 := rfl
set_option maxRecDepth 65536 in
theorem w_args : argsFit about1.vm theMethod args0 = true := by decide +kernel
set_option maxRecDepth 65536 in
theorem w_heap : heapFits about1 = true := by decide +kernel
set_option maxRecDepth 65536 in
theorem w_runnable : about1.curStatus? = some .runnable := by decide +kernel
set_option maxRecDepth 65536 in
theorem w_alone : about1.alone = true := by decide +kernel
set_option maxRecDepth 65536 in
theorem w_named : about1.methodNamed? x = some theMethod := by decide +kernel
set_option maxRecDepth 65536 in
theorem w_hears : about1.hears theMethod below0 = true := by decide +kernel
set_option maxRecDepth 65536 in
theorem w_ripe : about1.ripe theMethod args0 below0 = true := by decide +kernel
theorem w_running : about1.status = .running := rfl
set_option maxRecDepth 65536 in
theorem w_room : about1.hasRoom e0.platform room_1 = true :=
  launch0.hasRoom_least _ room_1 (by decide +kernel) (by decide +kernel) (by decide +kernel) (by decide +kernel) (by decide +kernel) (by decide +kernel)
theorem allAtoms_all (ts : List Jvm.Cond) (a : Array Jvm.Value) (st : Jvm.State) : (allAtoms ts).before a st = ts.all (fun c => c.before a st) := by
  induction ts with
  | nil => rfl
  | cons c t ih =>
    show (Jvm.Cond.and c (allAtoms t)).before a st = _
    rw [Jvm.Cond.before_and, ih, List.all_cons]
def words1 : List Jvm.Cond := Jvm.Cond.code x code maxLocals ret :: tables_1
/-- a 'code' word, met by the world's own term for the bytes: nothing is compared byte by byte -/
theorem code_word {y : MethodName} {bytes : ByteArray} {mx : Nat} {rt : Option FieldType} {a : Array Value} {s : State} {m : MethodId} {meth : Method} {c : Code} (h1 : s.methodNamed? y = some m) (h2 : s.vm.method? m = some meth) (h3 : meth.code = some c) (h4 : c.code = bytes)
    (h5 : (c.maxLocals == mx && c.exceptionTable.isEmpty && decide (c.maxStack ≤ mostOperands) && decide (meth.sig.returnType = rt) && !meth.locks && decide (parseMethodDescriptor y.desc = some meth.sig)) = true) : (Jvm.Cond.code y bytes mx rt).before a s = true := by
  simp only [Bool.and_eq_true, beq_iff_eq, Bool.not_eq_true', decide_eq_true_eq] at h5
  obtain ⟨⟨⟨⟨⟨g1, g2⟩, g3⟩, g4⟩, g5⟩, g6⟩ := h5
  simp [Cond.before, Cond.holds, Cond.value, h1, h2, h3, h4, g1, g2, g3, g4, g5, g6]
def isCode : Jvm.Cond → Bool
  | .code _ _ _ _ => true
  | _ => false
theorem all_split {L : List Jvm.Cond} {P : Jvm.Cond → Bool} (h1 : L.all (fun c => isCode c || P c) = true) (h2 : ∀ c ∈ L.filter isCode, P c = true) : L.all P = true := by
  refine List.all_eq_true.mpr fun c hc => ?_
  have h := List.all_eq_true.mp h1 c hc
  rcases Bool.eq_false_or_eq_true (isCode c) with hi | hi
  · exact h2 c (List.mem_filter.mpr ⟨hc, hi⟩)
  · simpa [hi] using h
set_option maxRecDepth 65536 in
theorem w_c0 : (Jvm.Cond.code x code maxLocals ret).before args0 about1 = true := code_word (m := ⟨1, 1⟩) (meth := k1m1) (c := k1c1) (by decide +kernel) rfl rfl rfl (by decide +kernel)
set_option maxRecDepth 65536 in
theorem w_c1 : (Jvm.Cond.code ({ cls := "com/example/wakasato/wakasato/search/SeededRandom", name := "<init>", desc := "(J)V" } : Jvm.MethodName) prog_8_method_1_code (3 : Nat) (Option.none : Option Jvm.ClassFile.FieldType)).before args0 about1 = true := code_word (m := ⟨2, 0⟩) (meth := k2m0) (c := k2c0) (by decide +kernel) rfl rfl rfl (by decide +kernel)
set_option maxRecDepth 65536 in
theorem w_c2 : (Jvm.Cond.code ({ cls := "java/lang/Object", name := "<init>", desc := "()V" } : Jvm.MethodName) object_method_1_code (1 : Nat) (Option.none : Option Jvm.ClassFile.FieldType)).before args0 about1 = true := code_word (m := ⟨0, 0⟩) (meth := k0m0) (c := k0c0) (by decide +kernel) rfl rfl rfl (by decide +kernel)
set_option maxRecDepth 65536 in
theorem w_c3 : (Jvm.Cond.code ({ cls := "com/example/wakasato/wakasato/search/SeededRandom", name := "nextDouble", desc := "()D" } : Jvm.MethodName) prog_8_method_5_code (1 : Nat) (Option.some Jvm.ClassFile.FieldType.double)).before args0 about1 = true := code_word (m := ⟨2, 3⟩) (meth := k2m3) (c := k2c3) (by decide +kernel) rfl rfl rfl (by decide +kernel)
set_option maxRecDepth 65536 in
theorem w_c4 : (Jvm.Cond.code ({ cls := "com/example/wakasato/wakasato/search/SeededRandom", name := "nextLong", desc := "()J" } : Jvm.MethodName) prog_8_method_3_code (3 : Nat) (Option.some Jvm.ClassFile.FieldType.long)).before args0 about1 = true := code_word (m := ⟨2, 2⟩) (meth := k2m2) (c := k2c2) (by decide +kernel) rfl rfl rfl (by decide +kernel)
set_option maxRecDepth 65536 in
theorem w_c5 : (Jvm.Cond.code ({ cls := "com/example/wakasato/wakasato/search/SeededRandom", name := "state", desc := "()J" } : Jvm.MethodName) prog_8_method_2_code (1 : Nat) (Option.some Jvm.ClassFile.FieldType.long)).before args0 about1 = true := code_word (m := ⟨2, 1⟩) (meth := k2m1) (c := k2c1) (by decide +kernel) rfl rfl rfl (by decide +kernel)
def codes1 : List Jvm.Cond := [Jvm.Cond.code x code maxLocals ret, Jvm.Cond.code ({ cls := "com/example/wakasato/wakasato/search/SeededRandom", name := "<init>", desc := "(J)V" } : Jvm.MethodName) prog_8_method_1_code (3 : Nat) (Option.none : Option Jvm.ClassFile.FieldType), Jvm.Cond.code ({ cls := "java/lang/Object", name := "<init>", desc := "()V" } : Jvm.MethodName) object_method_1_code (1 : Nat) (Option.none : Option Jvm.ClassFile.FieldType), Jvm.Cond.code ({ cls := "com/example/wakasato/wakasato/search/SeededRandom", name := "nextDouble", desc := "()D" } : Jvm.MethodName) prog_8_method_5_code (1 : Nat) (Option.some Jvm.ClassFile.FieldType.double), Jvm.Cond.code ({ cls := "com/example/wakasato/wakasato/search/SeededRandom", name := "nextLong", desc := "()J" } : Jvm.MethodName) prog_8_method_3_code (3 : Nat) (Option.some Jvm.ClassFile.FieldType.long), Jvm.Cond.code ({ cls := "com/example/wakasato/wakasato/search/SeededRandom", name := "state", desc := "()J" } : Jvm.MethodName) prog_8_method_2_code (1 : Nat) (Option.some Jvm.ClassFile.FieldType.long)]
set_option maxRecDepth 65536 in
theorem codes_eq : words1.filter isCode = codes1 := rfl
theorem w_codes : ∀ c ∈ words1.filter isCode, c.before args0 about1 = true := by
  rw [codes_eq]
  intro c hc
  simp only [codes1, List.mem_cons, List.not_mem_nil, or_false] at hc
  rcases hc with rfl | rfl | rfl | rfl | rfl | rfl
  · exact w_c0
  · exact w_c1
  · exact w_c2
  · exact w_c3
  · exact w_c4
  · exact w_c5
set_option maxRecDepth 65536 in
theorem w_t1 : (words1.take 24).all (fun c => isCode c || c.before args0 about1) = true := by decide +kernel
set_option maxRecDepth 65536 in
theorem w_t2 : (words1.drop 24).all (fun c => isCode c || c.before args0 about1) = true := by decide +kernel
theorem w_tables : (allAtoms (Jvm.Cond.code x code maxLocals ret :: tables_1)).before args0 about1 = true := by
  rw [allAtoms_all]
  show words1.all (fun c => c.before args0 about1) = true
  refine all_split ?_ w_codes
  rw [← List.take_append_drop 24 words1, List.all_append, w_t1, w_t2]
  rfl
set_option maxRecDepth 65536 in
theorem w_case : (Jvm.Cond.and given_1 narrow_1).before args0 about1 = true := by decide +kernel
theorem w_applies : (headSpec (Jvm.Cond.code x code maxLocals ret :: tables_1) room_1).applies x e0.platform about1 = true :=
  (Spec.applies_iff w_frames).mpr ⟨w_running, w_runnable, w_alone, w_named, w_hears, w_ripe, w_room, w_tables⟩
theorem atStart : AtStart classFile x code maxLocals ret World_1 tables_1 room_1 Calls_1 rest_1 Pre_1 launch0 p0 e0 about1 theMethod args0 below0 :=
  ⟨lists_1, trivial, launch0.admits_env _ _ _, launch0.least_env, fairChoices_fair.cas, fairChoices_fair.clock, w_frames, w_args, w_heap, w_applies, trivial, trivial, w_case⟩
end start1
theorem witness_1 : WitnessClaimed_1 := ⟨start1.p0, start1.e0, start1.about1, start1.theMethod, start1.args0, start1.below0, start1.atStart⟩
end Jvm.Pilot.@@N@@
