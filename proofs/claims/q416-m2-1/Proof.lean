import JvmDerived
import JvmDerived.Pilot.@@N@@Statement
import JvmDerived.Pilot.@@N@@Code
set_option linter.unusedVariables false
set_option linter.unusedSimpArgs false
namespace Jvm.RoadKit
open Sem ClassFile Op Lib Jvm.Stand Jvm.Free Jvm.LawKit
section New
variable {p : Program} {l : Launch} {e : Env} {R : Room} {s : State} {m : MethodId} {args : Array Value} {below : List Frame} {meth : Method} {c : Code} {T : State} {locs : List Loc} {cells slots : Nat}
theorem retI (X : Stand p l e R s m args below meth c T locs cells slots) (hx : p.tables.exec = Jvm.exec) {pc : Nat} {Ls : Array Slot} {z : Int32} {rest : List Value} (hret : meth.sig.returnType = some .int) (hd : decode c.code pc = .ok (.ireturn, 1)) {fs : List Frame}
    (hl : ∀ (f : JFrame) (acts : List Action), f.method = m → f.locked = none → f.entered = [] → (doReturn e (T.setTop f) acts (some (.int z))).1 = T.setFrames fs) : Steps p.tables e below (T.setTop (mkF m pc Ls (.int z :: rest))) (T.setFrames fs) := by
  have hm' : T.vm.method? m = some meth := X.method'
  have hn : narrow .int (.int z) = .int z := rfl
  show Steps p.tables e below (T.setTop { method := m, pc := pc, locals := Ls, stack := _ :: rest, locked := none }) _
  jvm_step X.here [X.here.top, hx, hd, hm', hret, hn]
  first | (intro acts; rw [hl _ acts rfl rfl rfl]) | rw [hl _ _ rfl rfl rfl]
  exact Steps.refl _
end New
end Jvm.RoadKit
namespace Jvm.Pilot.@@N@@
open Jvm Jvm.ClassFile Sem Op Lib Jvm.Free Jvm.Stand Jvm.LawKit Jvm.RoadKit Bundle Jvm.Pilot.@@N@@.Jvm.D
theorem own_ltL {x y : Int64} (h : x < y) : ifCond.holds .lt (lcmpW x y) = true ∧ ifCond.holds .ge (lcmpW x y) = false ∧ ifCond.holds .gt (lcmpW y x) = true ∧ ifCond.holds .le (lcmpW y x) = false :=
  ⟨(if0 _ _).trans (tlt ((lw_lt x y).mpr h)).1, (if0 _ _).trans (tlt ((lw_lt x y).mpr h)).2.1, (if0 _ _).trans (tlt ((lw_gt y x).mpr h)).2.2.1, (if0 _ _).trans (tlt ((lw_gt y x).mpr h)).2.2.2⟩
theorem own_fltL {x y : Int64} (h : ¬ x < y) : ifCond.holds .lt (lcmpW x y) = false ∧ ifCond.holds .ge (lcmpW x y) = true ∧ ifCond.holds .gt (lcmpW y x) = false ∧ ifCond.holds .le (lcmpW y x) = true :=
  ⟨(if0 _ _).trans (flt (fun q => h ((lw_lt x y).mp q))).1, (if0 _ _).trans (flt (fun q => h ((lw_lt x y).mp q))).2.1, (if0 _ _).trans (flt (fun q => h ((lw_gt y x).mp q))).2.2.1, (if0 _ _).trans (flt (fun q => h ((lw_gt y x).mp q))).2.2.2⟩
theorem own_eqL {x y : Int64} (h : x = y) : ifCond.holds .eq (lcmpW x y) = true ∧ ifCond.holds .ne (lcmpW x y) = false :=
  ⟨(if0 _ _).trans (teq ((lw_eq x y).mpr h)).1, (if0 _ _).trans (teq ((lw_eq x y).mpr h)).2⟩
theorem own_neL {x y : Int64} (h : ¬ x = y) : ifCond.holds .eq (lcmpW x y) = false ∧ ifCond.holds .ne (lcmpW x y) = true :=
  ⟨(if0 _ _).trans (feq (fun q => h ((lw_eq x y).mp q))).1, (if0 _ _).trans (feq (fun q => h ((lw_eq x y).mp q))).2⟩

theorem own_fin {c : Int32} {N : Nat} (h0 : 0 ≤ c.toInt) (h1 : c.toInt < N) (hN : N ≤ 2147483648) : ∃ n : Fin N, c = n.1.toInt32 := by
  refine ⟨⟨c.toInt.toNat, by omega⟩, ?_⟩
  apply Int32.toInt_inj.mp
  rw [len_toInt (by show c.toInt.toNat < 2 ^ 31; omega)]
  show c.toInt = ((c.toInt.toNat : Nat) : Int)
  omega
theorem own_lt {x y : Int32} (h : x < y) : x.toInt < y.toInt := Int32.lt_iff_toInt_lt.mp h
theorem own_nlt' {x y : Int32} (h : ¬ x < y) : y.toInt ≤ x.toInt := by rw [Int32.lt_iff_toInt_lt] at h; omega
theorem own_nlt {x y : Int32} {k : Int} (h : k ≤ x.toInt) (hk : y.toInt ≤ k) : ¬ x < y := by rw [Int32.lt_iff_toInt_lt]; omega
theorem own_gt {x y : Int32} {k : Int} (h : k ≤ x.toInt) (hk : y.toInt < k) : y < x := by rw [Int32.lt_iff_toInt_lt]; omega
theorem own_ne {x y : Int32} {k : Int} (h : k ≤ x.toInt) (hk : y.toInt < k) : ¬ x = y := by rintro rfl; omega
theorem own_gtn {x y : Int32} {k : Int} (h : x.toInt < k) (hk : k ≤ y.toInt) : x < y := by rw [Int32.lt_iff_toInt_lt]; omega
theorem own_nel {x y : Int32} {k : Int} (h : x.toInt < k) (hk : k ≤ y.toInt) : ¬ x = y := by rintro rfl; omega
theorem own_lt' {x y : Int32} (h : x < y) : x.toInt + 1 ≤ y.toInt := by have := own_lt h; omega
theorem own_le' {x y : Int32} (h : ¬ y < x) : x.toInt < y.toInt + 1 := by have := own_nlt' h; omega

theorem d1_0 : decode prog_100_method_3_code 0 = .ok (.iconst 2, 1) := by decide +kernel
theorem d1_1 : decode prog_100_method_3_code 1 = .ok (.iload_n 0, 1) := by decide +kernel
theorem d1_2 : decode prog_100_method_3_code 2 = .ok (.imul, 1) := by decide +kernel
theorem d1_3 : decode prog_100_method_3_code 3 = .ok (.iload_n 1, 1) := by decide +kernel
theorem d1_4 : decode prog_100_method_3_code 4 = .ok (.ifCond .eq 7, 3) := by decide +kernel
theorem d1_7 : decode prog_100_method_3_code 7 = .ok (.iconst 0, 1) := by decide +kernel
theorem d1_8 : decode prog_100_method_3_code 8 = .ok (.goto 4, 3) := by decide +kernel
theorem d1_11 : decode prog_100_method_3_code 11 = .ok (.iconst 1, 1) := by decide +kernel
theorem d1_12 : decode prog_100_method_3_code 12 = .ok (.iadd, 1) := by decide +kernel
theorem d1_13 : decode prog_100_method_3_code 13 = .ok (.ireturn, 1) := by decide +kernel
theorem pn_0 : plainName "com/example/tenet/tenet/proof/Sat" = true := by first | (simp [plainName, overriddenIn]; done) | decide +kernel
theorem ef_1 (m : MethodId) (p0 : Int32) (p1 : Int32) : entryFrame m #[(.int p0), (.int p1)] 2 = mkF m 0 #[.val (.int p0), .val (.int p1)] [] := by first | (simp [entryFrame, mkF, argsToLocals, Value.category]; done) | rfl
def f1_12 (p1 : Int32) : Int32 := (if p1 = (0 : Int32) then (1 : Int32) else (0 : Int32))
def f1_ret (p0 : Int32) (p1 : Int32) : Int32 := (((2 : Int32) * p0) + (f1_12 p1))

def Q1 (Z : State) (p0 : Int32) (p1 : Int32) (h0 : Heap) (n0 : Nat) (v : Option Value) (h : Heap) (L : List Loc) : Prop := v = some (.int (f1_ret p0 p1)) ∧ Fr n0 L ∧ h = h0
set_option maxRecDepth 65536 in
set_option maxHeartbeats 40000000 in
theorem rm1 (l : Launch) (Z : State) (a0 : Array Value) (hw : ∀ d ∈ tables_1, d.before a0 Z = true) (ws : List Jvm.Cond) (p0 : Int32) (p1 : Int32) (h0 : Heap) (n0 : Nat) (Z0 : n0 ≤ h0.size)  :
    MetFree l (⟨"com/example/tenet/tenet/proof/Sat", "literal", "(IZ)I"⟩ : MethodName) (head1 (Jvm.Cond.code (⟨"com/example/tenet/tenet/proof/Sat", "literal", "(IZ)I"⟩ : MethodName) prog_100_method_3_code 2 (some .int) :: ws) ({ frames := 0, cells := 0, slots := 0, locals := 0 } : Room)) (fun a U => a = #[(.int p0), (.int p1)] ∧ Z.Warmed39 U.vm ∧ U.heap = h0) (fun _ _ _ _ _ => True) (fun _ U o U' => ∃ v L, o = .returned v ∧ Q1 Z p0 p1 h0 n0 v U'.heap L ∧ FrameEnd U o U' L ({ frames := 0, cells := 0, slots := 0, locals := 0 } : Room).cells ({ frames := 0, cells := 0, slots := 0, locals := 0 } : Room).slots) := by
  refine MetFree.of_bodySF (plainFor_of_name pn_0) hisR ?_
  intro p e s m args below meth c s₁ Bd hml0 hP hK
  obtain ⟨rfl, hZ, hh⟩ := hP
  have hx := Bd.exec
  have hby := Bd.bytes
  have hml : c.maxLocals = 2 := hml0
  have hown : s.vm.findClass "com/example/tenet/tenet/proof/Sat" = some m.cls := findClass_of_methodNamed Bd.named
  have hnm := (name_of_methodNamed Bd.named Bd.method).1
  have X0 : Stand p l e ({ frames := 0, cells := 0, slots := 0, locals := 0 } : Room) s m #[(.int p0), (.int p1)] below meth c s₁ [] 0 0 := Stand.of_body Bd
  have e0 : s₁.heap = h0 := by rw [← hh, Bd.state]; rfl
  have N0 := Fr.nil n0
  have pre0 : ∀ t, Steps p.tables e below (s₁.setTop (mkF m 0 #[.val (.int p0), .val (.int p1)] [])) t → Steps p.tables e below (s₁.setTop (entryFrame m #[(.int p0), (.int p1)] 2)) t := fun t k => castTop (ef_1 m p0 p1) k
  have pre1 : ∀ t, Steps p.tables e below (s₁.setTop (mkF m 4 #[.val (.int p0), .val (.int p1)] [(.int p1), (.int ((2 : Int32) * p0))])) t → Steps p.tables e below (s₁.setTop (entryFrame m #[(.int p0), (.int p1)] 2)) t := fun t k => pre0 t (by
    show Steps p.tables e below (s₁.setTop (mkF m 0 #[.val (.int p0), .val (.int p1)] [])) _
    refine XS.iconst X0.here hx rfl (hb hby d1_0) ?_
    show Steps p.tables e below (s₁.setTop (mkF m 1 #[.val (.int p0), .val (.int p1)] [(.int (2 : Int32))])) _
    refine XS.iloadN X0.here hx rfl (hb hby d1_1) rfl ?_
    show Steps p.tables e below (s₁.setTop (mkF m 2 #[.val (.int p0), .val (.int p1)] [(.int p0), (.int (2 : Int32))])) _
    refine XS.imul X0.here hx rfl (hb hby d1_2) rfl ?_
    show Steps p.tables e below (s₁.setTop (mkF m 3 #[.val (.int p0), .val (.int p1)] [(.int ((2 : Int32) * p0))])) _
    refine XS.iloadN X0.here hx rfl (hb hby d1_3) rfl ?_
    show Steps p.tables e below (s₁.setTop (mkF m 4 #[.val (.int p0), .val (.int p1)] [(.int p1), (.int ((2 : Int32) * p0))])) _
    exact k)
  have pre3 : ∀ t, Steps p.tables e below (s₁.setTop (mkF m 12 #[.val (.int p0), .val (.int p1)] [(.int (f1_12 p1)), (.int ((2 : Int32) * p0))])) t → Steps p.tables e below (s₁.setTop (entryFrame m #[(.int p0), (.int p1)] 2)) t := fun t k => pre1 t (by
    by_cases hf2 : p1 = (0 : Int32)
    · refine XS.ifYes X0.here hx rfl (pc0 := 4) (pc' := 11) rfl (hb hby d1_4) rfl ((if0 _ _).trans (teq hf2).1) (by decide) (by decide) ?_
      show Steps p.tables e below (s₁.setTop (mkF m 11 #[.val (.int p0), .val (.int p1)] [(.int ((2 : Int32) * p0))])) _
      refine XS.iconst X0.here hx rfl (hb hby d1_11) ?_
      show Steps p.tables e below (s₁.setTop (mkF m 12 #[.val (.int p0), .val (.int p1)] [(.int (1 : Int32)), (.int ((2 : Int32) * p0))])) _
      rw [show (f1_12 p1) = ((1 : Int32) : Int32) from by simp only [f1_12, if_pos hf2]] at k
      exact k
    · refine XS.ifNo X0.here hx rfl (hb hby d1_4) rfl ((if0 _ _).trans (feq hf2).1) ?_
      show Steps p.tables e below (s₁.setTop (mkF m 7 #[.val (.int p0), .val (.int p1)] [(.int ((2 : Int32) * p0))])) _
      refine XS.iconst X0.here hx rfl (hb hby d1_7) ?_
      show Steps p.tables e below (s₁.setTop (mkF m 8 #[.val (.int p0), .val (.int p1)] [(.int (0 : Int32)), (.int ((2 : Int32) * p0))])) _
      refine XS.goto X0.here hx rfl (pc0 := 8) (pc' := 12) rfl (hb hby d1_8) (by decide) (by decide) ?_
      show Steps p.tables e below (s₁.setTop (mkF m 12 #[.val (.int p0), .val (.int p1)] [(.int (0 : Int32)), (.int ((2 : Int32) * p0))])) _
      rw [show (f1_12 p1) = ((0 : Int32) : Int32) from by simp only [f1_12, if_neg hf2]] at k
      exact k)
  have pre4 : ∀ t, Steps p.tables e below (s₁.setTop (mkF m 13 #[.val (.int p0), .val (.int p1)] [(.int (((2 : Int32) * p0) + (f1_12 p1)))])) t → Steps p.tables e below (s₁.setTop (entryFrame m #[(.int p0), (.int p1)] 2)) t := fun t k => pre3 t (by
    refine XS.iadd X0.here hx rfl (hb hby d1_12) rfl ?_
    show Steps p.tables e below (s₁.setTop (mkF m 13 #[.val (.int p0), .val (.int p1)] [(.int (((2 : Int32) * p0) + (f1_12 p1)))])) _
    exact k)
  obtain ⟨fs, hr, hrun, hended, hW, hsame⟩ := X0.leave (v := some (.int (((2 : Int32) * p0) + (f1_12 p1)))) (fun h => by rw [Bd.returns] at h; cases h)
  refine ⟨_, _, pre4 _ ?_, hrun, hended, _, _, rfl, ?_, ⟨_, rfl⟩, hW, hsame.mono (by decide) (by decide)⟩
  · exact retI X0 hx Bd.returns (hb hby d1_13) hr
  · show Q1 Z p0 p1 h0 n0 _ s₁.heap _
    rw [e0]
    exact ⟨rfl, N0, rfl⟩
theorem d2_0 : decode prog_100_method_4_code 0 = .ok (.iload_n 0, 1) := by decide +kernel
theorem d2_1 : decode prog_100_method_4_code 1 = .ok (.iconst 1, 1) := by decide +kernel
theorem d2_2 : decode prog_100_method_4_code 2 = .ok (.ixor, 1) := by decide +kernel
theorem d2_3 : decode prog_100_method_4_code 3 = .ok (.ireturn, 1) := by decide +kernel
theorem ef_2 (m : MethodId) (p0 : Int32) : entryFrame m #[(.int p0)] 1 = mkF m 0 #[.val (.int p0)] [] := by first | (simp [entryFrame, mkF, argsToLocals, Value.category]; done) | rfl
def f2_ret (p0 : Int32) : Int32 := (p0 ^^^ (1 : Int32))

def Q2 (Z : State) (p0 : Int32) (h0 : Heap) (n0 : Nat) (v : Option Value) (h : Heap) (L : List Loc) : Prop := v = some (.int (f2_ret p0)) ∧ Fr n0 L ∧ h = h0
set_option maxRecDepth 65536 in
set_option maxHeartbeats 40000000 in
theorem rm2 (l : Launch) (Z : State) (a0 : Array Value) (hw : ∀ d ∈ tables_1, d.before a0 Z = true) (ws : List Jvm.Cond) (p0 : Int32) (h0 : Heap) (n0 : Nat) (Z0 : n0 ≤ h0.size)  :
    MetFree l (⟨"com/example/tenet/tenet/proof/Sat", "negate", "(I)I"⟩ : MethodName) (head1 (Jvm.Cond.code (⟨"com/example/tenet/tenet/proof/Sat", "negate", "(I)I"⟩ : MethodName) prog_100_method_4_code 1 (some .int) :: ws) ({ frames := 0, cells := 0, slots := 0, locals := 0 } : Room)) (fun a U => a = #[(.int p0)] ∧ Z.Warmed39 U.vm ∧ U.heap = h0) (fun _ _ _ _ _ => True) (fun _ U o U' => ∃ v L, o = .returned v ∧ Q2 Z p0 h0 n0 v U'.heap L ∧ FrameEnd U o U' L ({ frames := 0, cells := 0, slots := 0, locals := 0 } : Room).cells ({ frames := 0, cells := 0, slots := 0, locals := 0 } : Room).slots) := by
  refine MetFree.of_bodySF (plainFor_of_name pn_0) hisR ?_
  intro p e s m args below meth c s₁ Bd hml0 hP hK
  obtain ⟨rfl, hZ, hh⟩ := hP
  have hx := Bd.exec
  have hby := Bd.bytes
  have hml : c.maxLocals = 1 := hml0
  have hown : s.vm.findClass "com/example/tenet/tenet/proof/Sat" = some m.cls := findClass_of_methodNamed Bd.named
  have hnm := (name_of_methodNamed Bd.named Bd.method).1
  have X0 : Stand p l e ({ frames := 0, cells := 0, slots := 0, locals := 0 } : Room) s m #[(.int p0)] below meth c s₁ [] 0 0 := Stand.of_body Bd
  have e0 : s₁.heap = h0 := by rw [← hh, Bd.state]; rfl
  have N0 := Fr.nil n0
  have pre0 : ∀ t, Steps p.tables e below (s₁.setTop (mkF m 0 #[.val (.int p0)] [])) t → Steps p.tables e below (s₁.setTop (entryFrame m #[(.int p0)] 1)) t := fun t k => castTop (ef_2 m p0) k
  have pre1 : ∀ t, Steps p.tables e below (s₁.setTop (mkF m 3 #[.val (.int p0)] [(.int (p0 ^^^ (1 : Int32)))])) t → Steps p.tables e below (s₁.setTop (entryFrame m #[(.int p0)] 1)) t := fun t k => pre0 t (by
    show Steps p.tables e below (s₁.setTop (mkF m 0 #[.val (.int p0)] [])) _
    refine XS.iloadN X0.here hx rfl (hb hby d2_0) rfl ?_
    show Steps p.tables e below (s₁.setTop (mkF m 1 #[.val (.int p0)] [(.int p0)])) _
    refine XS.iconst X0.here hx rfl (hb hby d2_1) ?_
    show Steps p.tables e below (s₁.setTop (mkF m 2 #[.val (.int p0)] [(.int (1 : Int32)), (.int p0)])) _
    refine XS.ixor X0.here hx rfl (hb hby d2_2) rfl ?_
    show Steps p.tables e below (s₁.setTop (mkF m 3 #[.val (.int p0)] [(.int (p0 ^^^ (1 : Int32)))])) _
    exact k)
  obtain ⟨fs, hr, hrun, hended, hW, hsame⟩ := X0.leave (v := some (.int (p0 ^^^ (1 : Int32)))) (fun h => by rw [Bd.returns] at h; cases h)
  refine ⟨_, _, pre1 _ ?_, hrun, hended, _, _, rfl, ?_, ⟨_, rfl⟩, hW, hsame.mono (by decide) (by decide)⟩
  · exact retI X0 hx Bd.returns (hb hby d2_3) hr
  · show Q2 Z p0 h0 n0 _ s₁.heap _
    rw [e0]
    exact ⟨rfl, N0, rfl⟩
theorem pn_1 : plainName "com/example/tenet/tenet/proof/SatLiteralPinLaw" = true := by first | (simp [plainName, overriddenIn]; done) | decide +kernel
theorem pd_0 : parseMethodDescriptor "(IZ)I" = some ⟨[.int, .boolean], some .int⟩ := by decide +kernel
theorem pd_1 : parseMethodDescriptor "(I)I" = some ⟨[.int], some .int⟩ := by decide +kernel
theorem ef_0 (m : MethodId) (p0 : Int32) (p1 : Int32) : entryFrame m #[(.int p0), (.int p1)] maxLocals = mkF m 0 #[.val (.int p0), .val (.int p1), .unset, .unset, .unset, .unset, .unset, .unset, .unset] [] := by first | (simp [entryFrame, mkF, argsToLocals, Value.category, maxLocals]; done) | rfl
def f0_16 (p1 : Int32) : Int32 := (if (p1 &&& (1 : Int32)) = (0 : Int32) then (0 : Int32) else (1 : Int32))
def f0_22 (p0 : Int32) (p1 : Int32) : Int32 := (f1_ret (p0 &&& (1073741823 : Int32)) (f0_16 p1))
def f0_34 (p1 : Int32) : Int32 := (if (f0_16 p1) = (0 : Int32) then (1 : Int32) else (0 : Int32))
def f0_37 (p0 : Int32) (p1 : Int32) : Int32 := (f1_ret (p0 &&& (1073741823 : Int32)) (f0_34 p1))
def f0_101 (p1 : Int32) : Int32 := (if (f0_16 p1) = (0 : Int32) then (0 : Int32) else (1 : Int32))

theorem own_v (p0 : Int32) : 0 ≤ (p0 &&& (1073741823 : Int32)).toInt ∧ (p0 &&& (1073741823 : Int32)).toInt < 1073741824 := by
  have e1 : (p0 &&& (1073741823 : Int32)).toInt = p0.toInt % (2 ^ 30 : Nat) := c_mask p0 1073741823 30 (by decide) (by decide)
  omega
theorem own_p (p1 : Int32) : f0_16 p1 = (0 : Int32) ∨ f0_16 p1 = (1 : Int32) := by
  unfold f0_16
  split
  · exact Or.inl rfl
  · exact Or.inr rfl
theorem own_two (v : Int32) (h0 : 0 ≤ v.toInt) (h1 : v.toInt < 1073741824) : ((2 : Int32) * v).toInt = 2 * v.toInt := by
  have e := c_imul (2 : Int32) v
  have r := rng32 ((2 : Int32) * v)
  have e2 : (2 : Int32).toInt = 2 := by decide
  rw [e2] at e
  omega
theorem own_lit0 (v : Int32) (h0 : 0 ≤ v.toInt) (h1 : v.toInt < 1073741824) : (f1_ret v (0 : Int32)).toInt = 2 * v.toInt + 1 := by
  have e : f1_ret v (0 : Int32) = (2 : Int32) * v + (1 : Int32) := rfl
  rw [e]
  have q := c_iadd ((2 : Int32) * v) (1 : Int32)
  have r := rng32 ((2 : Int32) * v + (1 : Int32))
  have e2 : (1 : Int32).toInt = 1 := by decide
  have t := own_two v h0 h1
  omega
theorem own_lit1 (v : Int32) (h0 : 0 ≤ v.toInt) (h1 : v.toInt < 1073741824) : (f1_ret v (1 : Int32)).toInt = 2 * v.toInt := by
  have e : f1_ret v (1 : Int32) = (2 : Int32) * v + (0 : Int32) := rfl
  rw [e]
  have q := c_iadd ((2 : Int32) * v) (0 : Int32)
  have r := rng32 ((2 : Int32) * v + (0 : Int32))
  have e2 : (0 : Int32).toInt = 0 := by decide
  have t := own_two v h0 h1
  omega
theorem own_nat1 (n : Nat) : n ^^^ 1 = 2 * (n / 2) + (n + 1) % 2 := by
  have h1 : (n ^^^ 1) / 2 = n / 2 := by rw [Nat.xor_div_two]; simp
  have h2 := nx2 n 1
  omega
theorem own_xor1 (x : Int32) (h : 0 ≤ x.toInt) : (x ^^^ (1 : Int32)).toInt = x.toInt + 1 - 2 * (x.toInt % 2) := by
  have e1 : (x ^^^ (1 : Int32)).toInt = (x.toBitVec ^^^ 1#32).toInt := rfl
  have e2 : x.toInt = x.toBitVec.toInt := rfl
  rw [e2] at h
  rw [e1, e2]
  have q1 := BitVec.toInt_eq_toNat_cond x.toBitVec
  have q2 := BitVec.toInt_eq_toNat_cond (x.toBitVec ^^^ 1#32)
  rw [BitVec.toNat_xor, show (1#32).toNat = 1 from rfl, own_nat1] at q2
  have lt := x.toBitVec.isLt
  split at q1 <;> split at q2 <;> omega
theorem own_ge (x : Int32) (h : 0 ≤ x.toInt) : ¬ x < (0 : Int32) := own_nlt h (by decide)
theorem own_shr (x v : Int32) (h : x.toInt / 2 = v.toInt) : (x >>> ((1 : Int32) &&& 31)) = v := by
  apply Int32.toInt_inj.mp
  rw [c_ishr x 1 1 (by decide)]
  exact h
theorem own_par (x b : Int32) (h : x.toInt % 2 = b.toInt) : (x &&& (1 : Int32)) = b := by
  apply Int32.toInt_inj.mp
  rw [c_mask x 1 1 (by decide) (by decide)]
  exact h
theorem own_all (p0 p1 : Int32) : (¬ f0_22 p0 p1 < (0 : Int32) ∧ (f0_22 p0 p1 >>> ((1 : Int32) &&& 31)) = (p0 &&& (1073741823 : Int32)) ∧ (f0_22 p0 p1 &&& (1 : Int32)) = f0_34 p1) ∧ (¬ f0_37 p0 p1 < (0 : Int32) ∧ (f0_37 p0 p1 >>> ((1 : Int32) &&& 31)) = (p0 &&& (1073741823 : Int32)) ∧ (f0_37 p0 p1 &&& (1 : Int32)) = f0_101 p1) ∧ f2_ret (f0_22 p0 p1) = f0_37 p0 p1 := by
  obtain ⟨h0, h1⟩ := own_v p0
  have l0 := own_lit0 _ h0 h1
  have l1 := own_lit1 _ h0 h1
  have z0 : (0 : Int32).toInt = 0 := by decide
  have z1 : (1 : Int32).toInt = 1 := by decide
  rcases own_p p1 with e | e
  · have a1 : f0_22 p0 p1 = f1_ret (p0 &&& (1073741823 : Int32)) (0 : Int32) := by rw [f0_22, e]
    have a2 : f0_34 p1 = (1 : Int32) := by rw [f0_34, if_pos e]
    have a3 : f0_37 p0 p1 = f1_ret (p0 &&& (1073741823 : Int32)) (1 : Int32) := by rw [f0_37, a2]
    have a4 : f0_34 p1 = (1 : Int32) := by rw [f0_34, if_pos e]
    have a5 : f0_101 p1 = (0 : Int32) := by rw [f0_101, if_pos e]
    rw [a1, a3, a4, a5]
    refine ⟨⟨own_ge _ (by omega), own_shr _ _ (by omega), own_par _ _ (by omega)⟩, ⟨own_ge _ (by omega), own_shr _ _ (by omega), own_par _ _ (by omega)⟩, ?_⟩
    apply Int32.toInt_inj.mp
    rw [f2_ret, own_xor1 _ (by omega)]
    omega
  · have n : ¬ f0_16 p1 = (0 : Int32) := by rw [e]; decide
    have a1 : f0_22 p0 p1 = f1_ret (p0 &&& (1073741823 : Int32)) (1 : Int32) := by rw [f0_22, e]
    have a2 : f0_34 p1 = (0 : Int32) := by rw [f0_34, if_neg n]
    have a3 : f0_37 p0 p1 = f1_ret (p0 &&& (1073741823 : Int32)) (0 : Int32) := by rw [f0_37, a2]
    have a4 : f0_34 p1 = (0 : Int32) := by rw [f0_34, if_neg n]
    have a5 : f0_101 p1 = (1 : Int32) := by rw [f0_101, if_neg n]
    rw [a1, a3, a4, a5]
    refine ⟨⟨own_ge _ (by omega), own_shr _ _ (by omega), own_par _ _ (by omega)⟩, ⟨own_ge _ (by omega), own_shr _ _ (by omega), own_par _ _ (by omega)⟩, ?_⟩
    apply Int32.toInt_inj.mp
    rw [f2_ret, own_xor1 _ (by omega)]
    omega

def Q0 (Z : State) (p0 : Int32) (p1 : Int32) (h0 : Heap) (n0 : Nat) (v : Option Value) (h : Heap) (L : List Loc) : Prop := v = some (.int 1) ∧ Fr n0 L
set_option maxRecDepth 65536 in
set_option maxHeartbeats 40000000 in
theorem rm0 (l : Launch) (Z : State) (a0 : Array Value) (hw : ∀ d ∈ tables_1, d.before a0 Z = true) (ws : List Jvm.Cond) (p0 : Int32) (p1 : Int32) (h0 : Heap) (n0 : Nat) (Z0 : n0 ≤ h0.size)  :
    MetFree l x (head1 (Jvm.Cond.code x code maxLocals ret :: ws) room_1) (fun a U => a = #[(.int p0), (.int p1)] ∧ Z.Warmed39 U.vm ∧ U.heap = h0) (fun _ _ _ _ _ => True) (fun _ U o U' => ∃ v L, o = .returned v ∧ Q0 Z p0 p1 h0 n0 v U'.heap L ∧ FrameEnd U o U' L room_1.cells room_1.slots) := by
  refine MetFree.of_bodySF (plainFor_of_name pn_1) hisR ?_
  intro p e s m args below meth c s₁ Bd hml0 hP hK
  obtain ⟨rfl, hZ, hh⟩ := hP
  have hx := Bd.exec
  have hby := Bd.bytes
  have hml : c.maxLocals = 9 := hml0
  have hown : s.vm.findClass "com/example/tenet/tenet/proof/SatLiteralPinLaw" = some m.cls := findClass_of_methodNamed Bd.named
  have hnm := (name_of_methodNamed Bd.named Bd.method).1
  have X0 : Stand p l e room_1 s m #[(.int p0), (.int p1)] below meth c s₁ [] 0 0 := Stand.of_body Bd
  have e0 : s₁.heap = h0 := by rw [← hh, Bd.state]; rfl
  have N0 := Fr.nil n0
  have pre0 : ∀ t, Steps p.tables e below (s₁.setTop (mkF m 0 #[.val (.int p0), .val (.int p1), .unset, .unset, .unset, .unset, .unset, .unset, .unset] [])) t → Steps p.tables e below (s₁.setTop (entryFrame m #[(.int p0), (.int p1)] maxLocals)) t := fun t k => castTop (ef_0 m p0 p1) k
  have pre1 : ∀ t, Steps p.tables e below (s₁.setTop (mkF m 8 #[.val (.int p0), .val (.int p1), .val (.int (p0 &&& (1073741823 : Int32))), .unset, .unset, .unset, .unset, .unset, .unset] [(.int (p1 &&& (1 : Int32)))])) t → Steps p.tables e below (s₁.setTop (entryFrame m #[(.int p0), (.int p1)] maxLocals)) t := fun t k => pre0 t (by
    show Steps p.tables e below (s₁.setTop (mkF m 0 #[.val (.int p0), .val (.int p1), .unset, .unset, .unset, .unset, .unset, .unset, .unset] [])) _
    refine XS.iloadN X0.here hx rfl (hb hby at_0) rfl ?_
    show Steps p.tables e below (s₁.setTop (mkF m 1 #[.val (.int p0), .val (.int p1), .unset, .unset, .unset, .unset, .unset, .unset, .unset] [(.int p0)])) _
    refine X0.ldcInt hx hown (mvT hZ (hw _ (List.mem_of_getElem? (i := 0) rfl))) (g := (mkF m 1 #[.val (.int p0), .val (.int p1), .unset, .unset, .unset, .unset, .unset, .unset, .unset] [(.int p0)])) rfl (hb hby at_1) _ ?_
    show Steps p.tables e below (s₁.setTop (mkF m 3 #[.val (.int p0), .val (.int p1), .unset, .unset, .unset, .unset, .unset, .unset, .unset] [(.int (1073741823 : Int32)), (.int p0)])) _
    refine XS.iand X0.here hx rfl (hb hby at_3) rfl ?_
    show Steps p.tables e below (s₁.setTop (mkF m 4 #[.val (.int p0), .val (.int p1), .unset, .unset, .unset, .unset, .unset, .unset, .unset] [(.int (p0 &&& (1073741823 : Int32)))])) _
    refine XS.istoreN X0.here hx rfl (hb hby at_4) rfl (l' := #[.val (.int p0), .val (.int p1), .val (.int (p0 &&& (1073741823 : Int32))), .unset, .unset, .unset, .unset, .unset, .unset]) rfl ?_
    show Steps p.tables e below (s₁.setTop (mkF m 5 #[.val (.int p0), .val (.int p1), .val (.int (p0 &&& (1073741823 : Int32))), .unset, .unset, .unset, .unset, .unset, .unset] [])) _
    refine XS.iloadN X0.here hx rfl (hb hby at_5) rfl ?_
    show Steps p.tables e below (s₁.setTop (mkF m 6 #[.val (.int p0), .val (.int p1), .val (.int (p0 &&& (1073741823 : Int32))), .unset, .unset, .unset, .unset, .unset, .unset] [(.int p1)])) _
    refine XS.iconst X0.here hx rfl (hb hby at_6) ?_
    show Steps p.tables e below (s₁.setTop (mkF m 7 #[.val (.int p0), .val (.int p1), .val (.int (p0 &&& (1073741823 : Int32))), .unset, .unset, .unset, .unset, .unset, .unset] [(.int (1 : Int32)), (.int p1)])) _
    refine XS.iand X0.here hx rfl (hb hby at_7) rfl ?_
    show Steps p.tables e below (s₁.setTop (mkF m 8 #[.val (.int p0), .val (.int p1), .val (.int (p0 &&& (1073741823 : Int32))), .unset, .unset, .unset, .unset, .unset, .unset] [(.int (p1 &&& (1 : Int32)))])) _
    exact k)
  have pre3 : ∀ t, Steps p.tables e below (s₁.setTop (mkF m 16 #[.val (.int p0), .val (.int p1), .val (.int (p0 &&& (1073741823 : Int32))), .unset, .unset, .unset, .unset, .unset, .unset] [(.int (f0_16 p1))])) t → Steps p.tables e below (s₁.setTop (entryFrame m #[(.int p0), (.int p1)] maxLocals)) t := fun t k => pre1 t (by
    by_cases hf2 : (p1 &&& (1 : Int32)) = (0 : Int32)
    · refine XS.ifYes X0.here hx rfl (pc0 := 8) (pc' := 15) rfl (hb hby at_8) rfl ((if0 _ _).trans (teq hf2).1) (by decide) (by decide) ?_
      show Steps p.tables e below (s₁.setTop (mkF m 15 #[.val (.int p0), .val (.int p1), .val (.int (p0 &&& (1073741823 : Int32))), .unset, .unset, .unset, .unset, .unset, .unset] [])) _
      refine XS.iconst X0.here hx rfl (hb hby at_15) ?_
      show Steps p.tables e below (s₁.setTop (mkF m 16 #[.val (.int p0), .val (.int p1), .val (.int (p0 &&& (1073741823 : Int32))), .unset, .unset, .unset, .unset, .unset, .unset] [(.int (0 : Int32))])) _
      rw [show (f0_16 p1) = ((0 : Int32) : Int32) from by simp only [f0_16, if_pos hf2]] at k
      exact k
    · refine XS.ifNo X0.here hx rfl (hb hby at_8) rfl ((if0 _ _).trans (feq hf2).1) ?_
      show Steps p.tables e below (s₁.setTop (mkF m 11 #[.val (.int p0), .val (.int p1), .val (.int (p0 &&& (1073741823 : Int32))), .unset, .unset, .unset, .unset, .unset, .unset] [])) _
      refine XS.iconst X0.here hx rfl (hb hby at_11) ?_
      show Steps p.tables e below (s₁.setTop (mkF m 12 #[.val (.int p0), .val (.int p1), .val (.int (p0 &&& (1073741823 : Int32))), .unset, .unset, .unset, .unset, .unset, .unset] [(.int (1 : Int32))])) _
      refine XS.goto X0.here hx rfl (pc0 := 12) (pc' := 16) rfl (hb hby at_12) (by decide) (by decide) ?_
      show Steps p.tables e below (s₁.setTop (mkF m 16 #[.val (.int p0), .val (.int p1), .val (.int (p0 &&& (1073741823 : Int32))), .unset, .unset, .unset, .unset, .unset, .unset] [(.int (1 : Int32))])) _
      rw [show (f0_16 p1) = ((1 : Int32) : Int32) from by simp only [f0_16, if_neg hf2]] at k
      exact k)
  obtain ⟨_, _, ⟨T4, L4, k4, n4⟩, -, X4, ⟨Lc4, hQ4, l4, y4, z4⟩, st4⟩ := Jvm.LawKit.callS X0 hx (y := (⟨"com/example/tenet/tenet/proof/Sat", "literal", "(IZ)I"⟩ : MethodName)) hown (mvT hZ (hw _ (List.mem_of_getElem? (i := 1) rfl))) (mvT hZ (hw _ (List.mem_of_getElem? (i := 2) rfl))) (mvT hZ (hw _ (List.mem_of_getElem? (i := 3) rfl))) (mvT hZ (hw _ (List.mem_of_getElem? (i := 4) rfl))) (by decide) (backOf (W := 0) (rm1 l Z a0 hw [] (p0 &&& (1073741823 : Int32)) (f0_16 p1) h0 n0 Z0) hZ (hw _ (List.mem_of_getElem? (i := 4) rfl)) (hw _ (List.mem_of_getElem? (i := 3) rfl)) (by decide) (by decide)) (g := (mkF m 19 #[.val (.int p0), .val (.int p1), .val (.int (p0 &&& (1073741823 : Int32))), .val (.int (f0_16 p1)), .unset, .unset, .unset, .unset, .unset] [(.int (f0_16 p1)), (.int (p0 &&& (1073741823 : Int32)))])) rfl (by rw [hml]; rfl) (argsL := [(.int (p0 &&& (1073741823 : Int32))), (.int (f0_16 p1))]) (rest := []) (lenOf pd_0 rfl) rfl (by show 2 * 0 + _ ≤ _; exact Nat.le_of_eq rfl) (hb hby at_19) (fun _ _ => ⟨rfl, e0, (by decide : 0 + 0 ≤ _), (by decide : 0 + 0 ≤ _)⟩)
  dsimp only [Pt.U, Pt.locs, Pt.cells, Pt.slots] at X4 l4 y4 z4 st4 hQ4
  subst l4 y4 z4
  obtain ⟨rfl, N4q, hh4⟩ := hQ4
  have N4 := Fr.app N0 N4q
  have pre5 : ∀ t, Steps p.tables e below (T4.setTop (mkF m 26 #[.val (.int p0), .val (.int p1), .val (.int (p0 &&& (1073741823 : Int32))), .val (.int (f0_16 p1)), .val (.int (f0_22 p0 p1)), .unset, .unset, .unset, .unset] [(.int (f0_16 p1)), (.int (p0 &&& (1073741823 : Int32)))])) t → Steps p.tables e below (s₁.setTop (entryFrame m #[(.int p0), (.int p1)] maxLocals)) t := fun t k => pre3 t (by
    refine XS.istoreN X0.here hx rfl (hb hby at_16) rfl (l' := #[.val (.int p0), .val (.int p1), .val (.int (p0 &&& (1073741823 : Int32))), .val (.int (f0_16 p1)), .unset, .unset, .unset, .unset, .unset]) rfl ?_
    show Steps p.tables e below (s₁.setTop (mkF m 17 #[.val (.int p0), .val (.int p1), .val (.int (p0 &&& (1073741823 : Int32))), .val (.int (f0_16 p1)), .unset, .unset, .unset, .unset, .unset] [])) _
    refine XS.iloadN X0.here hx rfl (hb hby at_17) rfl ?_
    show Steps p.tables e below (s₁.setTop (mkF m 18 #[.val (.int p0), .val (.int p1), .val (.int (p0 &&& (1073741823 : Int32))), .val (.int (f0_16 p1)), .unset, .unset, .unset, .unset, .unset] [(.int (p0 &&& (1073741823 : Int32)))])) _
    refine XS.iloadN X0.here hx rfl (hb hby at_18) rfl ?_
    show Steps p.tables e below (s₁.setTop (mkF m 19 #[.val (.int p0), .val (.int p1), .val (.int (p0 &&& (1073741823 : Int32))), .val (.int (f0_16 p1)), .unset, .unset, .unset, .unset, .unset] [(.int (f0_16 p1)), (.int (p0 &&& (1073741823 : Int32)))])) _
    refine st4 _ ?_
    show Steps p.tables e below (T4.setTop (mkF m 22 #[.val (.int p0), .val (.int p1), .val (.int (p0 &&& (1073741823 : Int32))), .val (.int (f0_16 p1)), .unset, .unset, .unset, .unset, .unset] [(.int (f1_ret (p0 &&& (1073741823 : Int32)) (f0_16 p1)))])) _
    refine XS.istore X4.here hx rfl (hb hby at_22) rfl (l' := #[.val (.int p0), .val (.int p1), .val (.int (p0 &&& (1073741823 : Int32))), .val (.int (f0_16 p1)), .val (.int (f0_22 p0 p1)), .unset, .unset, .unset, .unset]) rfl ?_
    show Steps p.tables e below (T4.setTop (mkF m 24 #[.val (.int p0), .val (.int p1), .val (.int (p0 &&& (1073741823 : Int32))), .val (.int (f0_16 p1)), .val (.int (f0_22 p0 p1)), .unset, .unset, .unset, .unset] [])) _
    refine XS.iloadN X4.here hx rfl (hb hby at_24) rfl ?_
    show Steps p.tables e below (T4.setTop (mkF m 25 #[.val (.int p0), .val (.int p1), .val (.int (p0 &&& (1073741823 : Int32))), .val (.int (f0_16 p1)), .val (.int (f0_22 p0 p1)), .unset, .unset, .unset, .unset] [(.int (p0 &&& (1073741823 : Int32)))])) _
    refine XS.iloadN X4.here hx rfl (hb hby at_25) rfl ?_
    show Steps p.tables e below (T4.setTop (mkF m 26 #[.val (.int p0), .val (.int p1), .val (.int (p0 &&& (1073741823 : Int32))), .val (.int (f0_16 p1)), .val (.int (f0_22 p0 p1)), .unset, .unset, .unset, .unset] [(.int (f0_16 p1)), (.int (p0 &&& (1073741823 : Int32)))])) _
    exact k)
  have pre7 : ∀ t, Steps p.tables e below (T4.setTop (mkF m 34 #[.val (.int p0), .val (.int p1), .val (.int (p0 &&& (1073741823 : Int32))), .val (.int (f0_16 p1)), .val (.int (f0_22 p0 p1)), .unset, .unset, .unset, .unset] [(.int (f0_34 p1)), (.int (p0 &&& (1073741823 : Int32)))])) t → Steps p.tables e below (s₁.setTop (entryFrame m #[(.int p0), (.int p1)] maxLocals)) t := fun t k => pre5 t (by
    by_cases hf6 : (f0_16 p1) = (0 : Int32)
    · refine XS.ifNo X4.here hx rfl (hb hby at_26) rfl ((if0 _ _).trans (teq hf6).2) ?_
      show Steps p.tables e below (T4.setTop (mkF m 29 #[.val (.int p0), .val (.int p1), .val (.int (p0 &&& (1073741823 : Int32))), .val (.int (f0_16 p1)), .val (.int (f0_22 p0 p1)), .unset, .unset, .unset, .unset] [(.int (p0 &&& (1073741823 : Int32)))])) _
      refine XS.iconst X4.here hx rfl (hb hby at_29) ?_
      show Steps p.tables e below (T4.setTop (mkF m 30 #[.val (.int p0), .val (.int p1), .val (.int (p0 &&& (1073741823 : Int32))), .val (.int (f0_16 p1)), .val (.int (f0_22 p0 p1)), .unset, .unset, .unset, .unset] [(.int (1 : Int32)), (.int (p0 &&& (1073741823 : Int32)))])) _
      refine XS.goto X4.here hx rfl (pc0 := 30) (pc' := 34) rfl (hb hby at_30) (by decide) (by decide) ?_
      show Steps p.tables e below (T4.setTop (mkF m 34 #[.val (.int p0), .val (.int p1), .val (.int (p0 &&& (1073741823 : Int32))), .val (.int (f0_16 p1)), .val (.int (f0_22 p0 p1)), .unset, .unset, .unset, .unset] [(.int (1 : Int32)), (.int (p0 &&& (1073741823 : Int32)))])) _
      rw [show (f0_34 p1) = ((1 : Int32) : Int32) from by simp only [f0_34, if_pos hf6]] at k
      exact k
    · refine XS.ifYes X4.here hx rfl (pc0 := 26) (pc' := 33) rfl (hb hby at_26) rfl ((if0 _ _).trans (feq hf6).2) (by decide) (by decide) ?_
      show Steps p.tables e below (T4.setTop (mkF m 33 #[.val (.int p0), .val (.int p1), .val (.int (p0 &&& (1073741823 : Int32))), .val (.int (f0_16 p1)), .val (.int (f0_22 p0 p1)), .unset, .unset, .unset, .unset] [(.int (p0 &&& (1073741823 : Int32)))])) _
      refine XS.iconst X4.here hx rfl (hb hby at_33) ?_
      show Steps p.tables e below (T4.setTop (mkF m 34 #[.val (.int p0), .val (.int p1), .val (.int (p0 &&& (1073741823 : Int32))), .val (.int (f0_16 p1)), .val (.int (f0_22 p0 p1)), .unset, .unset, .unset, .unset] [(.int (0 : Int32)), (.int (p0 &&& (1073741823 : Int32)))])) _
      rw [show (f0_34 p1) = ((0 : Int32) : Int32) from by simp only [f0_34, if_neg hf6]] at k
      exact k)
  obtain ⟨_, _, ⟨T8, L8, k8, n8⟩, -, X8, ⟨Lc8, hQ8, l8, y8, z8⟩, st8⟩ := Jvm.LawKit.callS X4 hx (y := (⟨"com/example/tenet/tenet/proof/Sat", "literal", "(IZ)I"⟩ : MethodName)) hown (mvT hZ (hw _ (List.mem_of_getElem? (i := 1) rfl))) (mvT hZ (hw _ (List.mem_of_getElem? (i := 2) rfl))) (mvT hZ (hw _ (List.mem_of_getElem? (i := 3) rfl))) (mvT hZ (hw _ (List.mem_of_getElem? (i := 4) rfl))) (by decide) (backOf (W := 0) (rm1 l Z a0 hw [] (p0 &&& (1073741823 : Int32)) (f0_34 p1) h0 n0 Z0) hZ (hw _ (List.mem_of_getElem? (i := 4) rfl)) (hw _ (List.mem_of_getElem? (i := 3) rfl)) (by decide) (by decide)) (g := (mkF m 34 #[.val (.int p0), .val (.int p1), .val (.int (p0 &&& (1073741823 : Int32))), .val (.int (f0_16 p1)), .val (.int (f0_22 p0 p1)), .unset, .unset, .unset, .unset] [(.int (f0_34 p1)), (.int (p0 &&& (1073741823 : Int32)))])) rfl (by rw [hml]; rfl) (argsL := [(.int (p0 &&& (1073741823 : Int32))), (.int (f0_34 p1))]) (rest := []) (lenOf pd_0 rfl) rfl (by show 2 * 0 + _ ≤ _; exact Nat.le_of_eq rfl) (hb hby at_34) (fun _ _ => ⟨rfl, hh4, (by decide : 0 + 0 ≤ _), (by decide : 0 + 0 ≤ _)⟩)
  dsimp only [Pt.U, Pt.locs, Pt.cells, Pt.slots] at X8 l8 y8 z8 st8 hQ8
  subst l8 y8 z8
  obtain ⟨rfl, N8q, hh8⟩ := hQ8
  have N8 := Fr.app N4 N8q
  have pre9 : ∀ t, Steps p.tables e below (T8.setTop (mkF m 57 #[.val (.int p0), .val (.int p1), .val (.int (p0 &&& (1073741823 : Int32))), .val (.int (f0_16 p1)), .val (.int (f0_22 p0 p1)), .val (.int (f0_37 p0 p1)), .unset, .unset, .unset] [(.int (f0_16 p1)), (.int ((f0_22 p0 p1) &&& (1 : Int32)))])) t → Steps p.tables e below (s₁.setTop (entryFrame m #[(.int p0), (.int p1)] maxLocals)) t := fun t k => pre7 t (by
    refine st8 _ ?_
    show Steps p.tables e below (T8.setTop (mkF m 37 #[.val (.int p0), .val (.int p1), .val (.int (p0 &&& (1073741823 : Int32))), .val (.int (f0_16 p1)), .val (.int (f0_22 p0 p1)), .unset, .unset, .unset, .unset] [(.int (f1_ret (p0 &&& (1073741823 : Int32)) (f0_34 p1)))])) _
    refine XS.istore X8.here hx rfl (hb hby at_37) rfl (l' := #[.val (.int p0), .val (.int p1), .val (.int (p0 &&& (1073741823 : Int32))), .val (.int (f0_16 p1)), .val (.int (f0_22 p0 p1)), .val (.int (f0_37 p0 p1)), .unset, .unset, .unset]) rfl ?_
    show Steps p.tables e below (T8.setTop (mkF m 39 #[.val (.int p0), .val (.int p1), .val (.int (p0 &&& (1073741823 : Int32))), .val (.int (f0_16 p1)), .val (.int (f0_22 p0 p1)), .val (.int (f0_37 p0 p1)), .unset, .unset, .unset] [])) _
    refine XS.iload X8.here hx rfl (hb hby at_39) rfl ?_
    show Steps p.tables e below (T8.setTop (mkF m 41 #[.val (.int p0), .val (.int p1), .val (.int (p0 &&& (1073741823 : Int32))), .val (.int (f0_16 p1)), .val (.int (f0_22 p0 p1)), .val (.int (f0_37 p0 p1)), .unset, .unset, .unset] [(.int (f0_22 p0 p1))])) _
    refine XS.ifNo X8.here hx rfl (hb hby at_41) rfl ((if0 _ _).trans (flt (show ¬ ((f0_22 p0 p1) < (0 : Int32)) from (own_all _ _).1.1)).1) ?_
    show Steps p.tables e below (T8.setTop (mkF m 44 #[.val (.int p0), .val (.int p1), .val (.int (p0 &&& (1073741823 : Int32))), .val (.int (f0_16 p1)), .val (.int (f0_22 p0 p1)), .val (.int (f0_37 p0 p1)), .unset, .unset, .unset] [])) _
    refine XS.iload X8.here hx rfl (hb hby at_44) rfl ?_
    show Steps p.tables e below (T8.setTop (mkF m 46 #[.val (.int p0), .val (.int p1), .val (.int (p0 &&& (1073741823 : Int32))), .val (.int (f0_16 p1)), .val (.int (f0_22 p0 p1)), .val (.int (f0_37 p0 p1)), .unset, .unset, .unset] [(.int (f0_22 p0 p1))])) _
    refine XS.iconst X8.here hx rfl (hb hby at_46) ?_
    show Steps p.tables e below (T8.setTop (mkF m 47 #[.val (.int p0), .val (.int p1), .val (.int (p0 &&& (1073741823 : Int32))), .val (.int (f0_16 p1)), .val (.int (f0_22 p0 p1)), .val (.int (f0_37 p0 p1)), .unset, .unset, .unset] [(.int (1 : Int32)), (.int (f0_22 p0 p1))])) _
    refine XS.ishr X8.here hx rfl (hb hby at_47) rfl ?_
    show Steps p.tables e below (T8.setTop (mkF m 48 #[.val (.int p0), .val (.int p1), .val (.int (p0 &&& (1073741823 : Int32))), .val (.int (f0_16 p1)), .val (.int (f0_22 p0 p1)), .val (.int (f0_37 p0 p1)), .unset, .unset, .unset] [(.int ((f0_22 p0 p1) >>> ((1 : Int32) &&& 31)))])) _
    refine XS.iloadN X8.here hx rfl (hb hby at_48) rfl ?_
    show Steps p.tables e below (T8.setTop (mkF m 49 #[.val (.int p0), .val (.int p1), .val (.int (p0 &&& (1073741823 : Int32))), .val (.int (f0_16 p1)), .val (.int (f0_22 p0 p1)), .val (.int (f0_37 p0 p1)), .unset, .unset, .unset] [(.int (p0 &&& (1073741823 : Int32))), (.int ((f0_22 p0 p1) >>> ((1 : Int32) &&& 31)))])) _
    refine XS.icmpNo X8.here hx rfl (hb hby at_49) rfl (teq (show ((f0_22 p0 p1) >>> ((1 : Int32) &&& 31)) = (p0 &&& (1073741823 : Int32)) from (own_all _ _).1.2.1)).2 ?_
    show Steps p.tables e below (T8.setTop (mkF m 52 #[.val (.int p0), .val (.int p1), .val (.int (p0 &&& (1073741823 : Int32))), .val (.int (f0_16 p1)), .val (.int (f0_22 p0 p1)), .val (.int (f0_37 p0 p1)), .unset, .unset, .unset] [])) _
    refine XS.iload X8.here hx rfl (hb hby at_52) rfl ?_
    show Steps p.tables e below (T8.setTop (mkF m 54 #[.val (.int p0), .val (.int p1), .val (.int (p0 &&& (1073741823 : Int32))), .val (.int (f0_16 p1)), .val (.int (f0_22 p0 p1)), .val (.int (f0_37 p0 p1)), .unset, .unset, .unset] [(.int (f0_22 p0 p1))])) _
    refine XS.iconst X8.here hx rfl (hb hby at_54) ?_
    show Steps p.tables e below (T8.setTop (mkF m 55 #[.val (.int p0), .val (.int p1), .val (.int (p0 &&& (1073741823 : Int32))), .val (.int (f0_16 p1)), .val (.int (f0_22 p0 p1)), .val (.int (f0_37 p0 p1)), .unset, .unset, .unset] [(.int (1 : Int32)), (.int (f0_22 p0 p1))])) _
    refine XS.iand X8.here hx rfl (hb hby at_55) rfl ?_
    show Steps p.tables e below (T8.setTop (mkF m 56 #[.val (.int p0), .val (.int p1), .val (.int (p0 &&& (1073741823 : Int32))), .val (.int (f0_16 p1)), .val (.int (f0_22 p0 p1)), .val (.int (f0_37 p0 p1)), .unset, .unset, .unset] [(.int ((f0_22 p0 p1) &&& (1 : Int32)))])) _
    refine XS.iloadN X8.here hx rfl (hb hby at_56) rfl ?_
    show Steps p.tables e below (T8.setTop (mkF m 57 #[.val (.int p0), .val (.int p1), .val (.int (p0 &&& (1073741823 : Int32))), .val (.int (f0_16 p1)), .val (.int (f0_22 p0 p1)), .val (.int (f0_37 p0 p1)), .unset, .unset, .unset] [(.int (f0_16 p1)), (.int ((f0_22 p0 p1) &&& (1 : Int32)))])) _
    exact k)
  have pre11 : ∀ t, Steps p.tables e below (T8.setTop (mkF m 65 #[.val (.int p0), .val (.int p1), .val (.int (p0 &&& (1073741823 : Int32))), .val (.int (f0_16 p1)), .val (.int (f0_22 p0 p1)), .val (.int (f0_37 p0 p1)), .unset, .unset, .unset] [(.int (f0_34 p1)), (.int ((f0_22 p0 p1) &&& (1 : Int32)))])) t → Steps p.tables e below (s₁.setTop (entryFrame m #[(.int p0), (.int p1)] maxLocals)) t := fun t k => pre9 t (by
    by_cases hf10 : (f0_16 p1) = (0 : Int32)
    · refine XS.ifYes X8.here hx rfl (pc0 := 57) (pc' := 64) rfl (hb hby at_57) rfl ((if0 _ _).trans (teq hf10).1) (by decide) (by decide) ?_
      show Steps p.tables e below (T8.setTop (mkF m 64 #[.val (.int p0), .val (.int p1), .val (.int (p0 &&& (1073741823 : Int32))), .val (.int (f0_16 p1)), .val (.int (f0_22 p0 p1)), .val (.int (f0_37 p0 p1)), .unset, .unset, .unset] [(.int ((f0_22 p0 p1) &&& (1 : Int32)))])) _
      refine XS.iconst X8.here hx rfl (hb hby at_64) ?_
      show Steps p.tables e below (T8.setTop (mkF m 65 #[.val (.int p0), .val (.int p1), .val (.int (p0 &&& (1073741823 : Int32))), .val (.int (f0_16 p1)), .val (.int (f0_22 p0 p1)), .val (.int (f0_37 p0 p1)), .unset, .unset, .unset] [(.int (1 : Int32)), (.int ((f0_22 p0 p1) &&& (1 : Int32)))])) _
      rw [show (f0_34 p1) = ((1 : Int32) : Int32) from by simp only [f0_34, if_pos hf10]] at k
      exact k
    · refine XS.ifNo X8.here hx rfl (hb hby at_57) rfl ((if0 _ _).trans (feq hf10).1) ?_
      show Steps p.tables e below (T8.setTop (mkF m 60 #[.val (.int p0), .val (.int p1), .val (.int (p0 &&& (1073741823 : Int32))), .val (.int (f0_16 p1)), .val (.int (f0_22 p0 p1)), .val (.int (f0_37 p0 p1)), .unset, .unset, .unset] [(.int ((f0_22 p0 p1) &&& (1 : Int32)))])) _
      refine XS.iconst X8.here hx rfl (hb hby at_60) ?_
      show Steps p.tables e below (T8.setTop (mkF m 61 #[.val (.int p0), .val (.int p1), .val (.int (p0 &&& (1073741823 : Int32))), .val (.int (f0_16 p1)), .val (.int (f0_22 p0 p1)), .val (.int (f0_37 p0 p1)), .unset, .unset, .unset] [(.int (0 : Int32)), (.int ((f0_22 p0 p1) &&& (1 : Int32)))])) _
      refine XS.goto X8.here hx rfl (pc0 := 61) (pc' := 65) rfl (hb hby at_61) (by decide) (by decide) ?_
      show Steps p.tables e below (T8.setTop (mkF m 65 #[.val (.int p0), .val (.int p1), .val (.int (p0 &&& (1073741823 : Int32))), .val (.int (f0_16 p1)), .val (.int (f0_22 p0 p1)), .val (.int (f0_37 p0 p1)), .unset, .unset, .unset] [(.int (0 : Int32)), (.int ((f0_22 p0 p1) &&& (1 : Int32)))])) _
      rw [show (f0_34 p1) = ((0 : Int32) : Int32) from by simp only [f0_34, if_neg hf10]] at k
      exact k)
  have pre12 : ∀ t, Steps p.tables e below (T8.setTop (mkF m 93 #[.val (.int p0), .val (.int p1), .val (.int (p0 &&& (1073741823 : Int32))), .val (.int (f0_16 p1)), .val (.int (f0_22 p0 p1)), .val (.int (f0_37 p0 p1)), .val (.int (1 : Int32)), .unset, .unset] [(.int (f0_16 p1)), (.int ((f0_37 p0 p1) &&& (1 : Int32)))])) t → Steps p.tables e below (s₁.setTop (entryFrame m #[(.int p0), (.int p1)] maxLocals)) t := fun t k => pre11 t (by
    refine XS.icmpNo X8.here hx rfl (hb hby at_65) rfl (teq (show ((f0_22 p0 p1) &&& (1 : Int32)) = (f0_34 p1) from (own_all p0 p1).1.2.2)).2 ?_
    show Steps p.tables e below (T8.setTop (mkF m 68 #[.val (.int p0), .val (.int p1), .val (.int (p0 &&& (1073741823 : Int32))), .val (.int (f0_16 p1)), .val (.int (f0_22 p0 p1)), .val (.int (f0_37 p0 p1)), .unset, .unset, .unset] [])) _
    refine XS.iconst X8.here hx rfl (hb hby at_68) ?_
    show Steps p.tables e below (T8.setTop (mkF m 69 #[.val (.int p0), .val (.int p1), .val (.int (p0 &&& (1073741823 : Int32))), .val (.int (f0_16 p1)), .val (.int (f0_22 p0 p1)), .val (.int (f0_37 p0 p1)), .unset, .unset, .unset] [(.int (1 : Int32))])) _
    refine XS.goto X8.here hx rfl (pc0 := 69) (pc' := 73) rfl (hb hby at_69) (by decide) (by decide) ?_
    show Steps p.tables e below (T8.setTop (mkF m 73 #[.val (.int p0), .val (.int p1), .val (.int (p0 &&& (1073741823 : Int32))), .val (.int (f0_16 p1)), .val (.int (f0_22 p0 p1)), .val (.int (f0_37 p0 p1)), .unset, .unset, .unset] [(.int (1 : Int32))])) _
    refine XS.istore X8.here hx rfl (hb hby at_73) rfl (l' := #[.val (.int p0), .val (.int p1), .val (.int (p0 &&& (1073741823 : Int32))), .val (.int (f0_16 p1)), .val (.int (f0_22 p0 p1)), .val (.int (f0_37 p0 p1)), .val (.int (1 : Int32)), .unset, .unset]) rfl ?_
    show Steps p.tables e below (T8.setTop (mkF m 75 #[.val (.int p0), .val (.int p1), .val (.int (p0 &&& (1073741823 : Int32))), .val (.int (f0_16 p1)), .val (.int (f0_22 p0 p1)), .val (.int (f0_37 p0 p1)), .val (.int (1 : Int32)), .unset, .unset] [])) _
    refine XS.iload X8.here hx rfl (hb hby at_75) rfl ?_
    show Steps p.tables e below (T8.setTop (mkF m 77 #[.val (.int p0), .val (.int p1), .val (.int (p0 &&& (1073741823 : Int32))), .val (.int (f0_16 p1)), .val (.int (f0_22 p0 p1)), .val (.int (f0_37 p0 p1)), .val (.int (1 : Int32)), .unset, .unset] [(.int (f0_37 p0 p1))])) _
    refine XS.ifNo X8.here hx rfl (hb hby at_77) rfl ((if0 _ _).trans (flt (show ¬ ((f0_37 p0 p1) < (0 : Int32)) from (own_all _ _).2.1.1)).1) ?_
    show Steps p.tables e below (T8.setTop (mkF m 80 #[.val (.int p0), .val (.int p1), .val (.int (p0 &&& (1073741823 : Int32))), .val (.int (f0_16 p1)), .val (.int (f0_22 p0 p1)), .val (.int (f0_37 p0 p1)), .val (.int (1 : Int32)), .unset, .unset] [])) _
    refine XS.iload X8.here hx rfl (hb hby at_80) rfl ?_
    show Steps p.tables e below (T8.setTop (mkF m 82 #[.val (.int p0), .val (.int p1), .val (.int (p0 &&& (1073741823 : Int32))), .val (.int (f0_16 p1)), .val (.int (f0_22 p0 p1)), .val (.int (f0_37 p0 p1)), .val (.int (1 : Int32)), .unset, .unset] [(.int (f0_37 p0 p1))])) _
    refine XS.iconst X8.here hx rfl (hb hby at_82) ?_
    show Steps p.tables e below (T8.setTop (mkF m 83 #[.val (.int p0), .val (.int p1), .val (.int (p0 &&& (1073741823 : Int32))), .val (.int (f0_16 p1)), .val (.int (f0_22 p0 p1)), .val (.int (f0_37 p0 p1)), .val (.int (1 : Int32)), .unset, .unset] [(.int (1 : Int32)), (.int (f0_37 p0 p1))])) _
    refine XS.ishr X8.here hx rfl (hb hby at_83) rfl ?_
    show Steps p.tables e below (T8.setTop (mkF m 84 #[.val (.int p0), .val (.int p1), .val (.int (p0 &&& (1073741823 : Int32))), .val (.int (f0_16 p1)), .val (.int (f0_22 p0 p1)), .val (.int (f0_37 p0 p1)), .val (.int (1 : Int32)), .unset, .unset] [(.int ((f0_37 p0 p1) >>> ((1 : Int32) &&& 31)))])) _
    refine XS.iloadN X8.here hx rfl (hb hby at_84) rfl ?_
    show Steps p.tables e below (T8.setTop (mkF m 85 #[.val (.int p0), .val (.int p1), .val (.int (p0 &&& (1073741823 : Int32))), .val (.int (f0_16 p1)), .val (.int (f0_22 p0 p1)), .val (.int (f0_37 p0 p1)), .val (.int (1 : Int32)), .unset, .unset] [(.int (p0 &&& (1073741823 : Int32))), (.int ((f0_37 p0 p1) >>> ((1 : Int32) &&& 31)))])) _
    refine XS.icmpNo X8.here hx rfl (hb hby at_85) rfl (teq (show ((f0_37 p0 p1) >>> ((1 : Int32) &&& 31)) = (p0 &&& (1073741823 : Int32)) from (own_all _ _).2.1.2.1)).2 ?_
    show Steps p.tables e below (T8.setTop (mkF m 88 #[.val (.int p0), .val (.int p1), .val (.int (p0 &&& (1073741823 : Int32))), .val (.int (f0_16 p1)), .val (.int (f0_22 p0 p1)), .val (.int (f0_37 p0 p1)), .val (.int (1 : Int32)), .unset, .unset] [])) _
    refine XS.iload X8.here hx rfl (hb hby at_88) rfl ?_
    show Steps p.tables e below (T8.setTop (mkF m 90 #[.val (.int p0), .val (.int p1), .val (.int (p0 &&& (1073741823 : Int32))), .val (.int (f0_16 p1)), .val (.int (f0_22 p0 p1)), .val (.int (f0_37 p0 p1)), .val (.int (1 : Int32)), .unset, .unset] [(.int (f0_37 p0 p1))])) _
    refine XS.iconst X8.here hx rfl (hb hby at_90) ?_
    show Steps p.tables e below (T8.setTop (mkF m 91 #[.val (.int p0), .val (.int p1), .val (.int (p0 &&& (1073741823 : Int32))), .val (.int (f0_16 p1)), .val (.int (f0_22 p0 p1)), .val (.int (f0_37 p0 p1)), .val (.int (1 : Int32)), .unset, .unset] [(.int (1 : Int32)), (.int (f0_37 p0 p1))])) _
    refine XS.iand X8.here hx rfl (hb hby at_91) rfl ?_
    show Steps p.tables e below (T8.setTop (mkF m 92 #[.val (.int p0), .val (.int p1), .val (.int (p0 &&& (1073741823 : Int32))), .val (.int (f0_16 p1)), .val (.int (f0_22 p0 p1)), .val (.int (f0_37 p0 p1)), .val (.int (1 : Int32)), .unset, .unset] [(.int ((f0_37 p0 p1) &&& (1 : Int32)))])) _
    refine XS.iloadN X8.here hx rfl (hb hby at_92) rfl ?_
    show Steps p.tables e below (T8.setTop (mkF m 93 #[.val (.int p0), .val (.int p1), .val (.int (p0 &&& (1073741823 : Int32))), .val (.int (f0_16 p1)), .val (.int (f0_22 p0 p1)), .val (.int (f0_37 p0 p1)), .val (.int (1 : Int32)), .unset, .unset] [(.int (f0_16 p1)), (.int ((f0_37 p0 p1) &&& (1 : Int32)))])) _
    exact k)
  have pre14 : ∀ t, Steps p.tables e below (T8.setTop (mkF m 101 #[.val (.int p0), .val (.int p1), .val (.int (p0 &&& (1073741823 : Int32))), .val (.int (f0_16 p1)), .val (.int (f0_22 p0 p1)), .val (.int (f0_37 p0 p1)), .val (.int (1 : Int32)), .unset, .unset] [(.int (f0_101 p1)), (.int ((f0_37 p0 p1) &&& (1 : Int32)))])) t → Steps p.tables e below (s₁.setTop (entryFrame m #[(.int p0), (.int p1)] maxLocals)) t := fun t k => pre12 t (by
    by_cases hf13 : (f0_16 p1) = (0 : Int32)
    · refine XS.ifYes X8.here hx rfl (pc0 := 93) (pc' := 100) rfl (hb hby at_93) rfl ((if0 _ _).trans (teq hf13).1) (by decide) (by decide) ?_
      show Steps p.tables e below (T8.setTop (mkF m 100 #[.val (.int p0), .val (.int p1), .val (.int (p0 &&& (1073741823 : Int32))), .val (.int (f0_16 p1)), .val (.int (f0_22 p0 p1)), .val (.int (f0_37 p0 p1)), .val (.int (1 : Int32)), .unset, .unset] [(.int ((f0_37 p0 p1) &&& (1 : Int32)))])) _
      refine XS.iconst X8.here hx rfl (hb hby at_100) ?_
      show Steps p.tables e below (T8.setTop (mkF m 101 #[.val (.int p0), .val (.int p1), .val (.int (p0 &&& (1073741823 : Int32))), .val (.int (f0_16 p1)), .val (.int (f0_22 p0 p1)), .val (.int (f0_37 p0 p1)), .val (.int (1 : Int32)), .unset, .unset] [(.int (0 : Int32)), (.int ((f0_37 p0 p1) &&& (1 : Int32)))])) _
      rw [show (f0_101 p1) = ((0 : Int32) : Int32) from by simp only [f0_101, if_pos hf13]] at k
      exact k
    · refine XS.ifNo X8.here hx rfl (hb hby at_93) rfl ((if0 _ _).trans (feq hf13).1) ?_
      show Steps p.tables e below (T8.setTop (mkF m 96 #[.val (.int p0), .val (.int p1), .val (.int (p0 &&& (1073741823 : Int32))), .val (.int (f0_16 p1)), .val (.int (f0_22 p0 p1)), .val (.int (f0_37 p0 p1)), .val (.int (1 : Int32)), .unset, .unset] [(.int ((f0_37 p0 p1) &&& (1 : Int32)))])) _
      refine XS.iconst X8.here hx rfl (hb hby at_96) ?_
      show Steps p.tables e below (T8.setTop (mkF m 97 #[.val (.int p0), .val (.int p1), .val (.int (p0 &&& (1073741823 : Int32))), .val (.int (f0_16 p1)), .val (.int (f0_22 p0 p1)), .val (.int (f0_37 p0 p1)), .val (.int (1 : Int32)), .unset, .unset] [(.int (1 : Int32)), (.int ((f0_37 p0 p1) &&& (1 : Int32)))])) _
      refine XS.goto X8.here hx rfl (pc0 := 97) (pc' := 101) rfl (hb hby at_97) (by decide) (by decide) ?_
      show Steps p.tables e below (T8.setTop (mkF m 101 #[.val (.int p0), .val (.int p1), .val (.int (p0 &&& (1073741823 : Int32))), .val (.int (f0_16 p1)), .val (.int (f0_22 p0 p1)), .val (.int (f0_37 p0 p1)), .val (.int (1 : Int32)), .unset, .unset] [(.int (1 : Int32)), (.int ((f0_37 p0 p1) &&& (1 : Int32)))])) _
      rw [show (f0_101 p1) = ((1 : Int32) : Int32) from by simp only [f0_101, if_neg hf13]] at k
      exact k)
  obtain ⟨_, _, ⟨T15, L15, k15, n15⟩, -, X15, ⟨Lc15, hQ15, l15, y15, z15⟩, st15⟩ := Jvm.LawKit.callS X8 hx (y := (⟨"com/example/tenet/tenet/proof/Sat", "negate", "(I)I"⟩ : MethodName)) hown (mvT hZ (hw _ (List.mem_of_getElem? (i := 5) rfl))) (mvT hZ (hw _ (List.mem_of_getElem? (i := 6) rfl))) (mvT hZ (hw _ (List.mem_of_getElem? (i := 3) rfl))) (mvT hZ (hw _ (List.mem_of_getElem? (i := 7) rfl))) (by decide) (backOf (W := 0) (rm2 l Z a0 hw [] (f0_22 p0 p1) h0 n0 Z0) hZ (hw _ (List.mem_of_getElem? (i := 7) rfl)) (hw _ (List.mem_of_getElem? (i := 3) rfl)) (by decide) (by decide)) (g := (mkF m 113 #[.val (.int p0), .val (.int p1), .val (.int (p0 &&& (1073741823 : Int32))), .val (.int (f0_16 p1)), .val (.int (f0_22 p0 p1)), .val (.int (f0_37 p0 p1)), .val (.int (1 : Int32)), .val (.int (1 : Int32)), .unset] [(.int (f0_22 p0 p1))])) rfl (by rw [hml]; rfl) (argsL := [(.int (f0_22 p0 p1))]) (rest := []) (lenOf pd_1 rfl) rfl (by show 2 * 0 + _ ≤ _; exact Nat.le_of_eq rfl) (hb hby at_113) (fun _ _ => ⟨rfl, hh8, (by decide : 0 + 0 ≤ _), (by decide : 0 + 0 ≤ _)⟩)
  dsimp only [Pt.U, Pt.locs, Pt.cells, Pt.slots] at X15 l15 y15 z15 st15 hQ15
  subst l15 y15 z15
  obtain ⟨rfl, N15q, hh15⟩ := hQ15
  have N15 := Fr.app N8 N15q
  have pre16 : ∀ t, Steps p.tables e below (T15.setTop (mkF m 148 #[.val (.int p0), .val (.int p1), .val (.int (p0 &&& (1073741823 : Int32))), .val (.int (f0_16 p1)), .val (.int (f0_22 p0 p1)), .val (.int (f0_37 p0 p1)), .val (.int (1 : Int32)), .val (.int (1 : Int32)), .val (.int (1 : Int32))] [(.int (1 : Int32))])) t → Steps p.tables e below (s₁.setTop (entryFrame m #[(.int p0), (.int p1)] maxLocals)) t := fun t k => pre14 t (by
    refine XS.icmpNo X8.here hx rfl (hb hby at_101) rfl (teq (show ((f0_37 p0 p1) &&& (1 : Int32)) = (f0_101 p1) from (own_all p0 p1).2.1.2.2)).2 ?_
    show Steps p.tables e below (T8.setTop (mkF m 104 #[.val (.int p0), .val (.int p1), .val (.int (p0 &&& (1073741823 : Int32))), .val (.int (f0_16 p1)), .val (.int (f0_22 p0 p1)), .val (.int (f0_37 p0 p1)), .val (.int (1 : Int32)), .unset, .unset] [])) _
    refine XS.iconst X8.here hx rfl (hb hby at_104) ?_
    show Steps p.tables e below (T8.setTop (mkF m 105 #[.val (.int p0), .val (.int p1), .val (.int (p0 &&& (1073741823 : Int32))), .val (.int (f0_16 p1)), .val (.int (f0_22 p0 p1)), .val (.int (f0_37 p0 p1)), .val (.int (1 : Int32)), .unset, .unset] [(.int (1 : Int32))])) _
    refine XS.goto X8.here hx rfl (pc0 := 105) (pc' := 109) rfl (hb hby at_105) (by decide) (by decide) ?_
    show Steps p.tables e below (T8.setTop (mkF m 109 #[.val (.int p0), .val (.int p1), .val (.int (p0 &&& (1073741823 : Int32))), .val (.int (f0_16 p1)), .val (.int (f0_22 p0 p1)), .val (.int (f0_37 p0 p1)), .val (.int (1 : Int32)), .unset, .unset] [(.int (1 : Int32))])) _
    refine XS.istore X8.here hx rfl (hb hby at_109) rfl (l' := #[.val (.int p0), .val (.int p1), .val (.int (p0 &&& (1073741823 : Int32))), .val (.int (f0_16 p1)), .val (.int (f0_22 p0 p1)), .val (.int (f0_37 p0 p1)), .val (.int (1 : Int32)), .val (.int (1 : Int32)), .unset]) rfl ?_
    show Steps p.tables e below (T8.setTop (mkF m 111 #[.val (.int p0), .val (.int p1), .val (.int (p0 &&& (1073741823 : Int32))), .val (.int (f0_16 p1)), .val (.int (f0_22 p0 p1)), .val (.int (f0_37 p0 p1)), .val (.int (1 : Int32)), .val (.int (1 : Int32)), .unset] [])) _
    refine XS.iload X8.here hx rfl (hb hby at_111) rfl ?_
    show Steps p.tables e below (T8.setTop (mkF m 113 #[.val (.int p0), .val (.int p1), .val (.int (p0 &&& (1073741823 : Int32))), .val (.int (f0_16 p1)), .val (.int (f0_22 p0 p1)), .val (.int (f0_37 p0 p1)), .val (.int (1 : Int32)), .val (.int (1 : Int32)), .unset] [(.int (f0_22 p0 p1))])) _
    refine st15 _ ?_
    show Steps p.tables e below (T15.setTop (mkF m 116 #[.val (.int p0), .val (.int p1), .val (.int (p0 &&& (1073741823 : Int32))), .val (.int (f0_16 p1)), .val (.int (f0_22 p0 p1)), .val (.int (f0_37 p0 p1)), .val (.int (1 : Int32)), .val (.int (1 : Int32)), .unset] [(.int (f2_ret (f0_22 p0 p1)))])) _
    refine XS.iload X15.here hx rfl (hb hby at_116) rfl ?_
    show Steps p.tables e below (T15.setTop (mkF m 118 #[.val (.int p0), .val (.int p1), .val (.int (p0 &&& (1073741823 : Int32))), .val (.int (f0_16 p1)), .val (.int (f0_22 p0 p1)), .val (.int (f0_37 p0 p1)), .val (.int (1 : Int32)), .val (.int (1 : Int32)), .unset] [(.int (f0_37 p0 p1)), (.int (f2_ret (f0_22 p0 p1)))])) _
    refine XS.icmpNo X15.here hx rfl (hb hby at_118) rfl (teq (show (f2_ret (f0_22 p0 p1)) = (f0_37 p0 p1) from (own_all _ _).2.2)).2 ?_
    show Steps p.tables e below (T15.setTop (mkF m 121 #[.val (.int p0), .val (.int p1), .val (.int (p0 &&& (1073741823 : Int32))), .val (.int (f0_16 p1)), .val (.int (f0_22 p0 p1)), .val (.int (f0_37 p0 p1)), .val (.int (1 : Int32)), .val (.int (1 : Int32)), .unset] [])) _
    refine XS.iconst X15.here hx rfl (hb hby at_121) ?_
    show Steps p.tables e below (T15.setTop (mkF m 122 #[.val (.int p0), .val (.int p1), .val (.int (p0 &&& (1073741823 : Int32))), .val (.int (f0_16 p1)), .val (.int (f0_22 p0 p1)), .val (.int (f0_37 p0 p1)), .val (.int (1 : Int32)), .val (.int (1 : Int32)), .unset] [(.int (1 : Int32))])) _
    refine XS.goto X15.here hx rfl (pc0 := 122) (pc' := 126) rfl (hb hby at_122) (by decide) (by decide) ?_
    show Steps p.tables e below (T15.setTop (mkF m 126 #[.val (.int p0), .val (.int p1), .val (.int (p0 &&& (1073741823 : Int32))), .val (.int (f0_16 p1)), .val (.int (f0_22 p0 p1)), .val (.int (f0_37 p0 p1)), .val (.int (1 : Int32)), .val (.int (1 : Int32)), .unset] [(.int (1 : Int32))])) _
    refine XS.istore X15.here hx rfl (hb hby at_126) rfl (l' := #[.val (.int p0), .val (.int p1), .val (.int (p0 &&& (1073741823 : Int32))), .val (.int (f0_16 p1)), .val (.int (f0_22 p0 p1)), .val (.int (f0_37 p0 p1)), .val (.int (1 : Int32)), .val (.int (1 : Int32)), .val (.int (1 : Int32))]) rfl ?_
    show Steps p.tables e below (T15.setTop (mkF m 128 #[.val (.int p0), .val (.int p1), .val (.int (p0 &&& (1073741823 : Int32))), .val (.int (f0_16 p1)), .val (.int (f0_22 p0 p1)), .val (.int (f0_37 p0 p1)), .val (.int (1 : Int32)), .val (.int (1 : Int32)), .val (.int (1 : Int32))] [])) _
    refine XS.iload X15.here hx rfl (hb hby at_128) rfl ?_
    show Steps p.tables e below (T15.setTop (mkF m 130 #[.val (.int p0), .val (.int p1), .val (.int (p0 &&& (1073741823 : Int32))), .val (.int (f0_16 p1)), .val (.int (f0_22 p0 p1)), .val (.int (f0_37 p0 p1)), .val (.int (1 : Int32)), .val (.int (1 : Int32)), .val (.int (1 : Int32))] [(.int (1 : Int32))])) _
    refine XS.ifNo X15.here hx rfl (hb hby at_130) rfl ((if0 _ _).trans (feq (show ¬ ((1 : Int32) = (0 : Int32)) by decide)).1) ?_
    show Steps p.tables e below (T15.setTop (mkF m 133 #[.val (.int p0), .val (.int p1), .val (.int (p0 &&& (1073741823 : Int32))), .val (.int (f0_16 p1)), .val (.int (f0_22 p0 p1)), .val (.int (f0_37 p0 p1)), .val (.int (1 : Int32)), .val (.int (1 : Int32)), .val (.int (1 : Int32))] [])) _
    refine XS.iload X15.here hx rfl (hb hby at_133) rfl ?_
    show Steps p.tables e below (T15.setTop (mkF m 135 #[.val (.int p0), .val (.int p1), .val (.int (p0 &&& (1073741823 : Int32))), .val (.int (f0_16 p1)), .val (.int (f0_22 p0 p1)), .val (.int (f0_37 p0 p1)), .val (.int (1 : Int32)), .val (.int (1 : Int32)), .val (.int (1 : Int32))] [(.int (1 : Int32))])) _
    refine XS.ifNo X15.here hx rfl (hb hby at_135) rfl ((if0 _ _).trans (feq (show ¬ ((1 : Int32) = (0 : Int32)) by decide)).1) ?_
    show Steps p.tables e below (T15.setTop (mkF m 138 #[.val (.int p0), .val (.int p1), .val (.int (p0 &&& (1073741823 : Int32))), .val (.int (f0_16 p1)), .val (.int (f0_22 p0 p1)), .val (.int (f0_37 p0 p1)), .val (.int (1 : Int32)), .val (.int (1 : Int32)), .val (.int (1 : Int32))] [])) _
    refine XS.iload X15.here hx rfl (hb hby at_138) rfl ?_
    show Steps p.tables e below (T15.setTop (mkF m 140 #[.val (.int p0), .val (.int p1), .val (.int (p0 &&& (1073741823 : Int32))), .val (.int (f0_16 p1)), .val (.int (f0_22 p0 p1)), .val (.int (f0_37 p0 p1)), .val (.int (1 : Int32)), .val (.int (1 : Int32)), .val (.int (1 : Int32))] [(.int (1 : Int32))])) _
    refine XS.ifNo X15.here hx rfl (hb hby at_140) rfl ((if0 _ _).trans (feq (show ¬ ((1 : Int32) = (0 : Int32)) by decide)).1) ?_
    show Steps p.tables e below (T15.setTop (mkF m 143 #[.val (.int p0), .val (.int p1), .val (.int (p0 &&& (1073741823 : Int32))), .val (.int (f0_16 p1)), .val (.int (f0_22 p0 p1)), .val (.int (f0_37 p0 p1)), .val (.int (1 : Int32)), .val (.int (1 : Int32)), .val (.int (1 : Int32))] [])) _
    refine XS.iconst X15.here hx rfl (hb hby at_143) ?_
    show Steps p.tables e below (T15.setTop (mkF m 144 #[.val (.int p0), .val (.int p1), .val (.int (p0 &&& (1073741823 : Int32))), .val (.int (f0_16 p1)), .val (.int (f0_22 p0 p1)), .val (.int (f0_37 p0 p1)), .val (.int (1 : Int32)), .val (.int (1 : Int32)), .val (.int (1 : Int32))] [(.int (1 : Int32))])) _
    refine XS.goto X15.here hx rfl (pc0 := 144) (pc' := 148) rfl (hb hby at_144) (by decide) (by decide) ?_
    show Steps p.tables e below (T15.setTop (mkF m 148 #[.val (.int p0), .val (.int p1), .val (.int (p0 &&& (1073741823 : Int32))), .val (.int (f0_16 p1)), .val (.int (f0_22 p0 p1)), .val (.int (f0_37 p0 p1)), .val (.int (1 : Int32)), .val (.int (1 : Int32)), .val (.int (1 : Int32))] [(.int (1 : Int32))])) _
    exact k)
  obtain ⟨fs, hr, hrun, hended, hW, hsame⟩ := X15.leave (v := some (.int (1 : Int32))) (fun h => by rw [Bd.returns] at h; cases h)
  refine ⟨_, _, pre16 _ ?_, hrun, hended, _, _, rfl, ?_, ⟨_, rfl⟩, hW, hsame.mono (by decide) (by decide)⟩
  · exact retN X15 hx (t := .boolean) Bd.returns (by simp) (hb hby at_148) hr
  · show Q0 Z p0 p1 h0 n0 _ T15.heap _
    rw [hh15]
    exact ⟨rfl, N15⟩
set_option maxRecDepth 65536 in
set_option maxHeartbeats 40000000 in
theorem comes_1 {Post : Tables → Env → Array Value → State → Outcome → State → Prop} (hpost : ∀ tb e args s v u, (limb_1_1.after args s (.returned v) u = true ∧ limb_1_2.after args s (.returned v) u = true ∧ True) → FrameEnd s (.returned v) u (Jvm.fieldLocs frame_1_writes args s ++ Jvm.arrayLocs frame_1_arrays args s ++ Jvm.staticLocs frame_1_statics s) 0 0 → Post tb e args s (.returned v) u) :
    ArmFor flags0 classFile x code maxLocals ret World_1 tables_1 room_1 Calls_1 rest_1 Pre_1 Post := by
  intro l hfl _ _ p e ha hc hk s m args below hf hA hF happ hP
  obtain ⟨hcalls, hrest, hpre⟩ := hP
  obtain ⟨-, -, -, hnamed, -, -, -, hat⟩ := (Spec.applies_iff hf).mp happ
  obtain ⟨hg, hn⟩ := and_e (Cond.before_iff.mp (show (Jvm.Cond.and given_1 narrow_1).before args s = true from hpre))
  obtain ⟨h1, g0⟩ := and_e hg
  obtain ⟨u0, g1⟩ := and_e g0
  obtain ⟨w0, w1, rfl⟩ : ∃ w0 w1 : Value, args = #[w0, w1] := by
    have hs : args.size = 2 := by simpa [Cond.value, given_1] using h1
    obtain ⟨L⟩ := args
    match L, hs with
    | [w0, w1], _ => exact ⟨w0, w1, rfl⟩
  have hw := fun d (hd : d ∈ tables_1) => atoms_spec (ws := Jvm.Cond.code x code maxLocals ret :: tables_1) hat d (List.mem_cons_of_mem _ hd)
  have hfit : Fit s := fun {y c} hc i hi => by
    obtain ⟨ha, rfl⟩ := Array.getElem?_eq_some_iff.mp hc
    have q := List.all_eq_true.mp ((Array.all_eq_true_iff_forall_mem.mp hF) _ (Array.getElem_mem ha)) i (List.mem_range.mpr hi)
    simpa [Array.getElem?_eq_getElem hi] using q
  obtain ⟨i0, e0⟩ := is_v u0
  obtain rfl : w0 = (.int i0) := Option.some.inj e0
  obtain ⟨i1, e1⟩ := is_v g1
  obtain rfl : w1 = (.int i1) := Option.some.inj e1
  obtain ⟨n, o, h1, h2, h3, _, L, rfl, ⟨rfl, N⟩, hq⟩ := rm0 l s _ hw tables_1 i0 i1  s.heap s.heap.size (Nat.le_refl _)  p e ha hc hk s m _ below hf ((Spec.applies_iff_loose hf).mp happ).1 ⟨rfl, State.Warmed39.refl s, rfl⟩ trivial
  refine ⟨n, _, h1, h2, h3, hpost _ _ _ _ _ _ ⟨Cond.after_iff.mpr rfl, Cond.after_iff.mpr (eq_i res_at (Term.int_eval (1)) rfl), trivial⟩ ⟨hq.1, hq.2.1, (hq.2.2.sift fun y hy => Or.inr (N y hy)).mono (by decide) (by decide)⟩⟩
theorem main_1_1 : Claimed_1_1 := comes_1 fun _ _ _ _ _ _ h hF => ⟨h.1, hF⟩
theorem main_1_2 : Claimed_1_2 := comes_1 fun _ _ _ _ _ _ h hF => ⟨h.2.1, hF⟩
end Jvm.Pilot.@@N@@
namespace Jvm.Pilot.@@N@@
open Jvm Jvm.ClassFile Sem Op Lib Jvm.Free Jvm.Stand Jvm.Pilot.@@N@@.Jvm.D
/-! MADE BY PROGRAM (witnessworld.py) out of the Statement's table words and the real class files: 9 classes; the members and pool entries that the words name. The judged class is class 1, her method 1. -/
namespace start1
open Jvm.ClassFile
def u (s : String) : CpInfo := .utf8 (stringToUtf16 s)
/-- a pool by its gaps: so many unusable entries, then the entry; so many at the end -/
def gap : Nat → List CpInfo → List CpInfo
  | 0, r => r
  | n + 1, r => .unusable :: gap n r
def poolList (es : List (Nat × CpInfo)) (last : Nat) : List CpInfo := es.foldr (fun e r => gap e.1 (e.2 :: r)) (gap last [])
def pool (es : List (Nat × CpInfo)) (last : Nat) : Array CpInfo := ⟨poolList es last⟩
def fileOf (pool : Array CpInfo) (this : Nat) (attrs : Array Attribute := #[]) (ms : Array MethodInfo := #[]) (fl : Nat := 33) (sup : Nat := 0) (ifs : Array Nat := #[]) (fds : Array FieldInfo := #[]) : ClassFile where
  minorVersion := 0
  majorVersion := 65
  constantPool := pool
  accessFlags := fl
  thisClass := this
  superClass := sup
  interfaces := ifs
  fields := fds
  methods := ms
  attributes := attrs
def plain (name : String) (sup : Option ClassId) : Class where
  name := name
  kind := .ordinary
  loader := none
  accessFlags := 33
  super := sup
  interfaces := #[]
  cf := none
  fields := #[]
  methods := #[]
  instanceTypes := #[]
  staticTypes := #[]
  resolved := #[]
  callSites := []
  init := .initialized
  statics := none
  mirror := none

def pool0 : Array CpInfo := pool [(5, u "<init>"), (0, u "()V"), (1, .class_ 10), (1, u "java/lang/Object")] 113

def k0m0 : Method := { name := "<init>", desc := "()V", sig := { parameters := [], returnType := none }, accessFlags := 1, code := none }
/-- java/lang/Object -/
def k0 : Class := { plain "java/lang/Object" none with
  accessFlags := 33
  interfaces := #[]
  cf := some (fileOf pool0 8 #[] #[{ accessFlags := 1, nameIndex := 5, descriptorIndex := 6, attributes := #[] }] 33 0 #[] #[])
  fields := #[]
  methods := #[k0m0]
  instanceTypes := #[]
  staticTypes := #[]
  resolved := Array.replicate 124 none
  statics := none }

def pool1 : Array CpInfo := pool [(2, .class_ 4), (1, u "java/lang/Object"), (0, u "<init>"), (0, u "()V"), (0, .integer 1073741823), (0, .methodref 9 10), (0, .class_ 11), (0, .nameAndType 12 13), (0, u "com/example/tenet/tenet/proof/Sat"), (0, u "literal"), (0, u "(IZ)I"), (0, .methodref 9 15), (0, .nameAndType 16 17), (0, u "negate"), (0, u "(I)I"), (0, .class_ 19), (0, u "com/example/tenet/tenet/proof/SatLiteralPinLaw"), (2, u "law"), (0, u "(II)Z")] 3

def k1m0 : Method := { name := "<init>", desc := "()V", sig := { parameters := [], returnType := none }, accessFlags := 1, code := none }
def k1c1 : Code := { maxStack := 2, maxLocals := 9, code := code, exceptionTable := #[], attributes := #[] }
def k1m1 : Method := { name := "law", desc := "(II)Z", sig := { parameters := [.int, .int], returnType := some .boolean }, accessFlags := 9, code := some k1c1 }
/-- com/example/tenet/tenet/proof/SatLiteralPinLaw -/
def k1 : Class := { plain "com/example/tenet/tenet/proof/SatLiteralPinLaw" (some 0) with
  accessFlags := 49
  interfaces := #[]
  cf := some (fileOf pool1 18 #[] #[{ accessFlags := 1, nameIndex := 5, descriptorIndex := 6, attributes := #[] }, { accessFlags := 9, nameIndex := 22, descriptorIndex := 23, attributes := #[] }] 49 2 #[] #[])
  fields := #[]
  methods := #[k1m0, k1m1]
  instanceTypes := #[]
  staticTypes := #[]
  resolved := Array.replicate 27 none
  statics := none }

def pool2 : Array CpInfo := pool [(2, .class_ 4), (1, u "java/lang/Object"), (6, .class_ 13), (1, u "com/example/tenet/tenet/proof/Sat"), (0, u "clauses"), (0, u "Ljava/util/List;"), (2, u "increment"), (0, u "D"), (0, .class_ 21), (0, u "com/example/tenet/tenet/proof/Sat$IntList"), (3, u "levelStarts"), (0, u "Lcom/example/tenet/tenet/proof/Sat$IntList;"), (2, u "budget"), (0, u "Lcom/example/tenet/tenet/proof/Budget;"), (2, u "variables"), (0, u "I"), (3, u "[I"), (10, u "negate"), (0, u "(I)I"), (2, u "empty"), (0, u "Z"), (39, u "assigned"), (1, .class_ 98), (1, u "com/example/tenet/tenet/proof/Sat$Theory"), (35, u "values"), (0, u "[B"), (2, u "levels"), (2, u "reasons"), (2, u "phases"), (0, u "[Z"), (2, u "activities"), (0, u "[D"), (2, u "seen"), (2, u "trail"), (2, u "watches"), (0, u "[Lcom/example/tenet/tenet/proof/Sat$IntList;"), (0, .class_ 161), (0, u "com/example/tenet/tenet/proof/Sat$Heap"), (4, u "heap"), (0, u "Lcom/example/tenet/tenet/proof/Sat$Heap;"), (8, u "propagated"), (14, u "literal"), (0, u "(IZ)I"), (29, u "DECAY"), (1, u "RESTART_UNIT")] 22

def k2c0 : Code := { maxStack := 2, maxLocals := 2, code := prog_100_method_3_code, exceptionTable := #[], attributes := #[] }
def k2m0 : Method := { name := "literal", desc := "(IZ)I", sig := { parameters := [.int, .boolean], returnType := some .int }, accessFlags := 8, code := some k2c0 }
def k2c1 : Code := { maxStack := 2, maxLocals := 1, code := prog_100_method_4_code, exceptionTable := #[], attributes := #[] }
def k2m1 : Method := { name := "negate", desc := "(I)I", sig := { parameters := [.int], returnType := some .int }, accessFlags := 8, code := some k2c1 }
/-- com/example/tenet/tenet/proof/Sat -/
def k2 : Class := { plain "com/example/tenet/tenet/proof/Sat" (some 0) with
  accessFlags := 48
  interfaces := #[]
  cf := some (fileOf pool2 11 #[.nestMembers #[160, 20, 96]] #[{ accessFlags := 8, nameIndex := 191, descriptorIndex := 192, attributes := #[] }, { accessFlags := 8, nameIndex := 49, descriptorIndex := 50, attributes := #[] }] 48 2 #[] #[{ accessFlags := 26, nameIndex := 222, descriptorIndex := 19, attributes := #[] }, { accessFlags := 26, nameIndex := 224, descriptorIndex := 34, attributes := #[] }, { accessFlags := 18, nameIndex := 29, descriptorIndex := 30, attributes := #[] }, { accessFlags := 18, nameIndex := 14, descriptorIndex := 15, attributes := #[] }, { accessFlags := 2, nameIndex := 33, descriptorIndex := 34, attributes := #[] }, { accessFlags := 2, nameIndex := 53, descriptorIndex := 54, attributes := #[] }, { accessFlags := 2, nameIndex := 134, descriptorIndex := 135, attributes := #[] }, { accessFlags := 2, nameIndex := 138, descriptorIndex := 38, attributes := #[] }, { accessFlags := 2, nameIndex := 141, descriptorIndex := 38, attributes := #[] }, { accessFlags := 2, nameIndex := 144, descriptorIndex := 145, attributes := #[] }, { accessFlags := 2, nameIndex := 148, descriptorIndex := 149, attributes := #[] }, { accessFlags := 2, nameIndex := 18, descriptorIndex := 19, attributes := #[] }, { accessFlags := 2, nameIndex := 152, descriptorIndex := 145, attributes := #[] }, { accessFlags := 2, nameIndex := 158, descriptorIndex := 159, attributes := #[] }, { accessFlags := 2, nameIndex := 155, descriptorIndex := 38, attributes := #[] }, { accessFlags := 2, nameIndex := 94, descriptorIndex := 34, attributes := #[] }, { accessFlags := 2, nameIndex := 176, descriptorIndex := 34, attributes := #[] }, { accessFlags := 18, nameIndex := 25, descriptorIndex := 26, attributes := #[] }, { accessFlags := 2, nameIndex := 166, descriptorIndex := 167, attributes := #[] }])
  fields := #[{ name := "DECAY", type := .double, accessFlags := 26, slot := 0, constantValue := 0 }, { name := "RESTART_UNIT", type := .int, accessFlags := 26, slot := 1, constantValue := 0 }, { name := "budget", type := (.object "com/example/tenet/tenet/proof/Budget"), accessFlags := 18, slot := 0, constantValue := 0 }, { name := "clauses", type := (.object "java/util/List"), accessFlags := 18, slot := 1, constantValue := 0 }, { name := "variables", type := .int, accessFlags := 2, slot := 2, constantValue := 0 }, { name := "empty", type := .boolean, accessFlags := 2, slot := 3, constantValue := 0 }, { name := "values", type := (.array .byte), accessFlags := 2, slot := 4, constantValue := 0 }, { name := "levels", type := (.array .int), accessFlags := 2, slot := 5, constantValue := 0 }, { name := "reasons", type := (.array .int), accessFlags := 2, slot := 6, constantValue := 0 }, { name := "phases", type := (.array .boolean), accessFlags := 2, slot := 7, constantValue := 0 }, { name := "activities", type := (.array .double), accessFlags := 2, slot := 8, constantValue := 0 }, { name := "increment", type := .double, accessFlags := 2, slot := 9, constantValue := 0 }, { name := "seen", type := (.array .boolean), accessFlags := 2, slot := 10, constantValue := 0 }, { name := "watches", type := (.array (.object "com/example/tenet/tenet/proof/Sat$IntList")), accessFlags := 2, slot := 11, constantValue := 0 }, { name := "trail", type := (.array .int), accessFlags := 2, slot := 12, constantValue := 0 }, { name := "assigned", type := .int, accessFlags := 2, slot := 13, constantValue := 0 }, { name := "propagated", type := .int, accessFlags := 2, slot := 14, constantValue := 0 }, { name := "levelStarts", type := (.object "com/example/tenet/tenet/proof/Sat$IntList"), accessFlags := 18, slot := 15, constantValue := 0 }, { name := "heap", type := (.object "com/example/tenet/tenet/proof/Sat$Heap"), accessFlags := 2, slot := 16, constantValue := 0 }]
  methods := #[k2m0, k2m1]
  instanceTypes := #[(.object "com/example/tenet/tenet/proof/Budget"), (.object "java/util/List"), .int, .boolean, (.array .byte), (.array .int), (.array .int), (.array .boolean), (.array .double), .double, (.array .boolean), (.array (.object "com/example/tenet/tenet/proof/Sat$IntList")), (.array .int), .int, .int, (.object "com/example/tenet/tenet/proof/Sat$IntList"), (.object "com/example/tenet/tenet/proof/Sat$Heap")]
  staticTypes := #[.double, .int]
  resolved := Array.replicate 247 none
  statics := none }

def pool3 : Array CpInfo := pool [(1, u "java/lang/Cloneable"), (0, .class_ 1), (0, u "java/lang/Object"), (0, .class_ 3)] 3

/-- java/lang/Cloneable -/
def k3 : Class := { plain "java/lang/Cloneable" (some 0) with
  accessFlags := 1537
  interfaces := #[]
  cf := some (fileOf pool3 2 #[] #[] 1537 4 #[] #[])
  fields := #[]
  methods := #[]
  instanceTypes := #[]
  staticTypes := #[]
  resolved := Array.replicate 8 none
  statics := none }

def pool4 : Array CpInfo := pool [(1, u "java/io/Serializable"), (0, .class_ 1), (0, u "java/lang/Object"), (0, .class_ 3)] 3

/-- java/io/Serializable -/
def k4 : Class := { plain "java/io/Serializable" (some 0) with
  accessFlags := 1537
  interfaces := #[]
  cf := some (fileOf pool4 2 #[] #[] 1537 4 #[] #[])
  fields := #[]
  methods := #[]
  instanceTypes := #[]
  staticTypes := #[]
  resolved := Array.replicate 8 none
  statics := none }

/-- the primitive byte -/
def k5 : Class := { plain "byte" none with kind := .primitive 'B', accessFlags := 0x411 }
/-- [B -/
def k6 : Class := { plain "[B" (some 0) with kind := .array 5 .byte, interfaces := #[3, 4], accessFlags := 1041 }

/-- the primitive int -/
def k7 : Class := { plain "int" none with kind := .primitive 'I', accessFlags := 0x411 }
/-- [I -/
def k8 : Class := { plain "[I" (some 0) with kind := .array 7 .int, interfaces := #[3, 4], accessFlags := 1041 }

def heap : Heap := #[]
def classes : Array Class := #[k0, k1, k2, k3, k4, k5, k6, k7, k8]
def interned : List (Array UInt16 × Addr) := []
def slotsUsed : Nat := 0
def theMethod : MethodId := ⟨1, 1⟩
def args0 : Array Value := #[.int 5, .int 7]
def aboutOver (below : List Frame) : State where
  vm := { classes := classes, interned := interned.toArray }
  heap := heap
  slotsUsed := slotsUsed
  threads := #[{ frames := .invoking theMethod args0 :: below }]
def below0 : List Frame := [.native { method := ⟨0, 0⟩, args := #[] }]
def about1 : State := aboutOver below0
def p0 : Program := .bare "" "" ""
def e0 : Env := launch0.env 0 0 0
theorem w_frames : about1.frames = Frame.invoking theMethod args0 :: below0 := rfl
set_option maxRecDepth 65536 in
theorem w_args : argsFit about1.vm theMethod args0 = true := by decide +kernel
set_option maxRecDepth 65536 in
theorem w_heap : heapFits about1 = true := by decide +kernel
set_option maxRecDepth 65536 in
theorem w_runnable : about1.curStatus? = some .runnable := by decide +kernel
set_option maxRecDepth 65536 in
theorem w_alone : about1.alone = true := by decide +kernel
set_option maxRecDepth 65536 in
theorem w_named : about1.methodNamed? x = some theMethod := by decide +kernel
set_option maxRecDepth 65536 in
theorem w_hears : about1.hears theMethod below0 = true := by decide +kernel
set_option maxRecDepth 65536 in
theorem w_ripe : about1.ripe theMethod args0 below0 = true := by decide +kernel
theorem w_running : about1.status = .running := rfl
set_option maxRecDepth 65536 in
theorem w_room : about1.hasRoom e0.platform room_1 = true :=
  launch0.hasRoom_least _ room_1 (by decide +kernel) (by decide +kernel) (by decide +kernel) (by decide +kernel) (by decide +kernel) (by decide +kernel)
theorem allAtoms_all (ts : List Jvm.Cond) (a : Array Jvm.Value) (st : Jvm.State) : (allAtoms ts).before a st = ts.all (fun c => c.before a st) := by
  induction ts with
  | nil => rfl
  | cons c t ih =>
    show (Jvm.Cond.and c (allAtoms t)).before a st = _
    rw [Jvm.Cond.before_and, ih, List.all_cons]
def words1 : List Jvm.Cond := Jvm.Cond.code x code maxLocals ret :: tables_1
/-- a 'code' word, met by the world's own term for the bytes: nothing is compared byte by byte -/
theorem code_word {y : MethodName} {bytes : ByteArray} {mx : Nat} {rt : Option FieldType} {a : Array Value} {s : State} {m : MethodId} {meth : Method} {c : Code} (h1 : s.methodNamed? y = some m) (h2 : s.vm.method? m = some meth) (h3 : meth.code = some c) (h4 : c.code = bytes)
    (h5 : (c.maxLocals == mx && c.exceptionTable.isEmpty && decide (c.maxStack ≤ mostOperands) && decide (meth.sig.returnType = rt) && !meth.locks && decide (parseMethodDescriptor y.desc = some meth.sig)) = true) : (Jvm.Cond.code y bytes mx rt).before a s = true := by
  simp only [Bool.and_eq_true, beq_iff_eq, Bool.not_eq_true', decide_eq_true_eq] at h5
  obtain ⟨⟨⟨⟨⟨g1, g2⟩, g3⟩, g4⟩, g5⟩, g6⟩ := h5
  simp [Cond.before, Cond.holds, Cond.value, h1, h2, h3, h4, g1, g2, g3, g4, g5, g6]
def isCode : Jvm.Cond → Bool
  | .code _ _ _ _ => true
  | _ => false
theorem all_split {L : List Jvm.Cond} {P : Jvm.Cond → Bool} (h1 : L.all (fun c => isCode c || P c) = true) (h2 : ∀ c ∈ L.filter isCode, P c = true) : L.all P = true := by
  refine List.all_eq_true.mpr fun c hc => ?_
  have h := List.all_eq_true.mp h1 c hc
  rcases Bool.eq_false_or_eq_true (isCode c) with hi | hi
  · exact h2 c (List.mem_filter.mpr ⟨hc, hi⟩)
  · simpa [hi] using h
set_option maxRecDepth 65536 in
theorem w_c0 : (Jvm.Cond.code x code maxLocals ret).before args0 about1 = true := code_word (m := ⟨1, 1⟩) (meth := k1m1) (c := k1c1) (by decide +kernel) rfl rfl rfl (by decide +kernel)
set_option maxRecDepth 65536 in
theorem w_c1 : (Jvm.Cond.code ({ cls := "com/example/tenet/tenet/proof/Sat", name := "literal", desc := "(IZ)I" } : Jvm.MethodName) prog_100_method_3_code (2 : Nat) (Option.some Jvm.ClassFile.FieldType.int)).before args0 about1 = true := code_word (m := ⟨2, 0⟩) (meth := k2m0) (c := k2c0) (by decide +kernel) rfl rfl rfl (by decide +kernel)
set_option maxRecDepth 65536 in
theorem w_c2 : (Jvm.Cond.code ({ cls := "com/example/tenet/tenet/proof/Sat", name := "negate", desc := "(I)I" } : Jvm.MethodName) prog_100_method_4_code (1 : Nat) (Option.some Jvm.ClassFile.FieldType.int)).before args0 about1 = true := code_word (m := ⟨2, 1⟩) (meth := k2m1) (c := k2c1) (by decide +kernel) rfl rfl rfl (by decide +kernel)
def codes1 : List Jvm.Cond := [Jvm.Cond.code x code maxLocals ret, Jvm.Cond.code ({ cls := "com/example/tenet/tenet/proof/Sat", name := "literal", desc := "(IZ)I" } : Jvm.MethodName) prog_100_method_3_code (2 : Nat) (Option.some Jvm.ClassFile.FieldType.int), Jvm.Cond.code ({ cls := "com/example/tenet/tenet/proof/Sat", name := "negate", desc := "(I)I" } : Jvm.MethodName) prog_100_method_4_code (1 : Nat) (Option.some Jvm.ClassFile.FieldType.int)]
set_option maxRecDepth 65536 in
theorem codes_eq : words1.filter isCode = codes1 := rfl
theorem w_codes : ∀ c ∈ words1.filter isCode, c.before args0 about1 = true := by
  rw [codes_eq]
  intro c hc
  simp only [codes1, List.mem_cons, List.not_mem_nil, or_false] at hc
  rcases hc with rfl | rfl | rfl
  · exact w_c0
  · exact w_c1
  · exact w_c2
set_option maxRecDepth 65536 in
theorem w_t1 : words1.all (fun c => isCode c || c.before args0 about1) = true := by decide +kernel
theorem w_tables : (allAtoms (Jvm.Cond.code x code maxLocals ret :: tables_1)).before args0 about1 = true := by
  rw [allAtoms_all]
  show words1.all (fun c => c.before args0 about1) = true
  refine all_split ?_ w_codes
  rw [w_t1]
set_option maxRecDepth 65536 in
theorem w_case : (Jvm.Cond.and given_1 narrow_1).before args0 about1 = true := by decide +kernel
theorem w_applies : (headSpec (Jvm.Cond.code x code maxLocals ret :: tables_1) room_1).applies x e0.platform about1 = true :=
  (Spec.applies_iff w_frames).mpr ⟨w_running, w_runnable, w_alone, w_named, w_hears, w_ripe, w_room, w_tables⟩
theorem atStart : AtStart classFile x code maxLocals ret World_1 tables_1 room_1 Calls_1 rest_1 Pre_1 launch0 p0 e0 about1 theMethod args0 below0 :=
  ⟨lists_1, trivial, launch0.admits_env _ _ _, launch0.least_env, fairChoices_fair.cas, fairChoices_fair.clock, w_frames, w_args, w_heap, w_applies, trivial, trivial, w_case⟩
end start1
theorem witness_1 : WitnessClaimed_1 := ⟨start1.p0, start1.e0, start1.about1, start1.theMethod, start1.args0, start1.below0, start1.atStart⟩
end Jvm.Pilot.@@N@@
