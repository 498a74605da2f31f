import JvmDerived
import JvmDerived.Pilot.@@N@@Statement
import JvmDerived.Pilot.@@N@@Code
set_option linter.unusedVariables false
set_option linter.unusedSimpArgs false
namespace Jvm.RoadKit
open Sem ClassFile Op Lib Jvm.Stand Jvm.Free Jvm.LawKit
section New
variable {p : Program} {l : Launch} {e : Env} {R : Room} {s : State} {m : MethodId} {args : Array Value} {below : List Frame} {meth : Method} {c : Code} {T : State} {locs : List Loc} {cells slots : Nat}
theorem retI (X : Stand p l e R s m args below meth c T locs cells slots) (hx : p.tables.exec = Jvm.exec) {pc : Nat} {Ls : Array Slot} {z : Int32} {rest : List Value} (hret : meth.sig.returnType = some .int) (hd : decode c.code pc = .ok (.ireturn, 1)) {fs : List Frame}
    (hl : ∀ (f : JFrame) (acts : List Action), f.method = m → f.locked = none → f.entered = [] → (doReturn e (T.setTop f) acts (some (.int z))).1 = T.setFrames fs) : Steps p.tables e below (T.setTop (mkF m pc Ls (.int z :: rest))) (T.setFrames fs) := by
  have hm' : T.vm.method? m = some meth := X.method'
  have hn : narrow .int (.int z) = .int z := rfl
  show Steps p.tables e below (T.setTop { method := m, pc := pc, locals := Ls, stack := _ :: rest, locked := none }) _
  jvm_step X.here [X.here.top, hx, hd, hm', hret, hn]
  first | (intro acts; rw [hl _ acts rfl rfl rfl]) | rw [hl _ _ rfl rfl rfl]
  exact Steps.refl _
end New
end Jvm.RoadKit
namespace Jvm.Pilot.@@N@@
open Jvm Jvm.ClassFile Sem Op Lib Jvm.Free Jvm.Stand Jvm.LawKit Jvm.RoadKit Bundle Jvm.Pilot.@@N@@.Jvm.D
theorem own_ltL {x y : Int64} (h : x < y) : ifCond.holds .lt (lcmpW x y) = true ∧ ifCond.holds .ge (lcmpW x y) = false ∧ ifCond.holds .gt (lcmpW y x) = true ∧ ifCond.holds .le (lcmpW y x) = false :=
  ⟨(if0 _ _).trans (tlt ((lw_lt x y).mpr h)).1, (if0 _ _).trans (tlt ((lw_lt x y).mpr h)).2.1, (if0 _ _).trans (tlt ((lw_gt y x).mpr h)).2.2.1, (if0 _ _).trans (tlt ((lw_gt y x).mpr h)).2.2.2⟩
theorem own_fltL {x y : Int64} (h : ¬ x < y) : ifCond.holds .lt (lcmpW x y) = false ∧ ifCond.holds .ge (lcmpW x y) = true ∧ ifCond.holds .gt (lcmpW y x) = false ∧ ifCond.holds .le (lcmpW y x) = true :=
  ⟨(if0 _ _).trans (flt (fun q => h ((lw_lt x y).mp q))).1, (if0 _ _).trans (flt (fun q => h ((lw_lt x y).mp q))).2.1, (if0 _ _).trans (flt (fun q => h ((lw_gt y x).mp q))).2.2.1, (if0 _ _).trans (flt (fun q => h ((lw_gt y x).mp q))).2.2.2⟩
theorem own_eqL {x y : Int64} (h : x = y) : ifCond.holds .eq (lcmpW x y) = true ∧ ifCond.holds .ne (lcmpW x y) = false :=
  ⟨(if0 _ _).trans (teq ((lw_eq x y).mpr h)).1, (if0 _ _).trans (teq ((lw_eq x y).mpr h)).2⟩
theorem own_neL {x y : Int64} (h : ¬ x = y) : ifCond.holds .eq (lcmpW x y) = false ∧ ifCond.holds .ne (lcmpW x y) = true :=
  ⟨(if0 _ _).trans (feq (fun q => h ((lw_eq x y).mp q))).1, (if0 _ _).trans (feq (fun q => h ((lw_eq x y).mp q))).2⟩

theorem own_fin {c : Int32} {N : Nat} (h0 : 0 ≤ c.toInt) (h1 : c.toInt < N) (hN : N ≤ 2147483648) : ∃ n : Fin N, c = n.1.toInt32 := by
  refine ⟨⟨c.toInt.toNat, by omega⟩, ?_⟩
  apply Int32.toInt_inj.mp
  rw [len_toInt (by show c.toInt.toNat < 2 ^ 31; omega)]
  show c.toInt = ((c.toInt.toNat : Nat) : Int)
  omega
theorem own_lt {x y : Int32} (h : x < y) : x.toInt < y.toInt := Int32.lt_iff_toInt_lt.mp h
theorem own_nlt' {x y : Int32} (h : ¬ x < y) : y.toInt ≤ x.toInt := by rw [Int32.lt_iff_toInt_lt] at h; omega
theorem own_nlt {x y : Int32} {k : Int} (h : k ≤ x.toInt) (hk : y.toInt ≤ k) : ¬ x < y := by rw [Int32.lt_iff_toInt_lt]; omega
theorem own_gt {x y : Int32} {k : Int} (h : k ≤ x.toInt) (hk : y.toInt < k) : y < x := by rw [Int32.lt_iff_toInt_lt]; omega
theorem own_ne {x y : Int32} {k : Int} (h : k ≤ x.toInt) (hk : y.toInt < k) : ¬ x = y := by rintro rfl; omega
theorem own_gtn {x y : Int32} {k : Int} (h : x.toInt < k) (hk : k ≤ y.toInt) : x < y := by rw [Int32.lt_iff_toInt_lt]; omega
theorem own_nel {x y : Int32} {k : Int} (h : x.toInt < k) (hk : k ≤ y.toInt) : ¬ x = y := by rintro rfl; omega
theorem own_lt' {x y : Int32} (h : x < y) : x.toInt + 1 ≤ y.toInt := by have := own_lt h; omega
theorem own_le' {x y : Int32} (h : ¬ y < x) : x.toInt < y.toInt + 1 := by have := own_nlt' h; omega

theorem d1_0 : decode prog_17_method_2_code 0 = .ok (.iload_n 0, 1) := by decide +kernel
theorem d1_1 : decode prog_17_method_2_code 1 = .ok (.sipush 512, 3) := by decide +kernel
theorem d1_4 : decode prog_17_method_2_code 4 = .ok (.if_icmp .lt 10, 3) := by decide +kernel
theorem d1_7 : decode prog_17_method_2_code 7 = .ok (.iload_n 0, 1) := by decide +kernel
theorem d1_8 : decode prog_17_method_2_code 8 = .ok (.sipush 16384, 3) := by decide +kernel
theorem d1_11 : decode prog_17_method_2_code 11 = .ok (.if_icmp .le 17, 3) := by decide +kernel
theorem d1_28 : decode prog_17_method_2_code 28 = .ok (.return_, 1) := by decide +kernel
theorem pn_0 : plainName "com/example/keyclasp/keyclasp/core/RabinPublicKey" = true := by first | (simp [plainName, overriddenIn]; done) | decide +kernel
theorem ef_1 (m : MethodId) (p0 : Int32) : entryFrame m #[(.int p0)] 1 = mkF m 0 #[.val (.int p0)] [] := by first | (simp [entryFrame, mkF, argsToLocals, Value.category]; done) | rfl

def Q1 (Z : State) (p0 : Int32) (h0 : Heap) (n0 : Nat) (v : Option Value) (h : Heap) (L : List Loc) : Prop := v = none ∧ Fr n0 L ∧ h = h0
set_option maxRecDepth 65536 in
set_option maxHeartbeats 40000000 in
theorem rm1 (l : Launch) (Z : State) (a0 : Array Value) (hw : ∀ d ∈ tables_1, d.before a0 Z = true) (ws : List Jvm.Cond) (p0 : Int32) (h0 : Heap) (n0 : Nat) (Z0 : n0 ≤ h0.size) (g1 : ¬ p0 < (512 : Int32)) (g2 : ¬ (16384 : Int32) < p0) :
    MetFree l (⟨"com/example/keyclasp/keyclasp/core/RabinPublicKey", "checkBits", "(I)V"⟩ : MethodName) (head1 (Jvm.Cond.code (⟨"com/example/keyclasp/keyclasp/core/RabinPublicKey", "checkBits", "(I)V"⟩ : MethodName) prog_17_method_2_code 1 none :: ws) ({ frames := 0, cells := 0, slots := 0, locals := 0 } : Room)) (fun a U => a = #[(.int p0)] ∧ Z.Warmed39 U.vm ∧ U.heap = h0) (fun _ _ _ _ _ => True) (fun _ U o U' => ∃ v L, o = .returned v ∧ Q1 Z p0 h0 n0 v U'.heap L ∧ FrameEnd U o U' L ({ frames := 0, cells := 0, slots := 0, locals := 0 } : Room).cells ({ frames := 0, cells := 0, slots := 0, locals := 0 } : Room).slots) := by
  refine MetFree.of_bodySF (plainFor_of_name pn_0) hisR ?_
  intro p e s m args below meth c s₁ Bd hml0 hP hK
  obtain ⟨rfl, hZ, hh⟩ := hP
  have hx := Bd.exec
  have hby := Bd.bytes
  have hml : c.maxLocals = 1 := hml0
  have hown : s.vm.findClass "com/example/keyclasp/keyclasp/core/RabinPublicKey" = some m.cls := findClass_of_methodNamed Bd.named
  have hnm := (name_of_methodNamed Bd.named Bd.method).1
  have X0 : Stand p l e ({ frames := 0, cells := 0, slots := 0, locals := 0 } : Room) s m #[(.int p0)] below meth c s₁ [] 0 0 := Stand.of_body Bd
  have e0 : s₁.heap = h0 := by rw [← hh, Bd.state]; rfl
  have N0 := Fr.nil n0
  have pre0 : ∀ t, Steps p.tables e below (s₁.setTop (mkF m 0 #[.val (.int p0)] [])) t → Steps p.tables e below (s₁.setTop (entryFrame m #[(.int p0)] 1)) t := fun t k => castTop (ef_1 m p0) k
  have pre1 : ∀ t, Steps p.tables e below (s₁.setTop (mkF m 28 #[.val (.int p0)] [])) t → Steps p.tables e below (s₁.setTop (entryFrame m #[(.int p0)] 1)) t := fun t k => pre0 t (by
    show Steps p.tables e below (s₁.setTop (mkF m 0 #[.val (.int p0)] [])) _
    refine XS.iloadN X0.here hx rfl (hb hby d1_0) rfl ?_
    show Steps p.tables e below (s₁.setTop (mkF m 1 #[.val (.int p0)] [(.int p0)])) _
    refine XS.sipush X0.here hx rfl (hb hby d1_1) ?_
    show Steps p.tables e below (s₁.setTop (mkF m 4 #[.val (.int p0)] [(.int (512 : Int32)), (.int p0)])) _
    refine XS.icmpNo X0.here hx rfl (hb hby d1_4) rfl (flt (show ¬ (p0 < (512 : Int32)) from g1)).1 ?_
    show Steps p.tables e below (s₁.setTop (mkF m 7 #[.val (.int p0)] [])) _
    refine XS.iloadN X0.here hx rfl (hb hby d1_7) rfl ?_
    show Steps p.tables e below (s₁.setTop (mkF m 8 #[.val (.int p0)] [(.int p0)])) _
    refine XS.sipush X0.here hx rfl (hb hby d1_8) ?_
    show Steps p.tables e below (s₁.setTop (mkF m 11 #[.val (.int p0)] [(.int (16384 : Int32)), (.int p0)])) _
    refine XS.icmpYes X0.here hx rfl (pc0 := 11) (pc' := 28) rfl (hb hby d1_11) rfl (flt (show ¬ ((16384 : Int32) < p0) from g2)).2.2.2 (by decide) (by decide) ?_
    show Steps p.tables e below (s₁.setTop (mkF m 28 #[.val (.int p0)] [])) _
    exact k)
  obtain ⟨fs, hr, hrun, hended, hW, hsame⟩ := X0.leave (v := none) (fun _ => rfl)
  refine ⟨_, _, pre1 _ ?_, hrun, hended, _, _, rfl, ?_, ⟨_, rfl⟩, hW, hsame.mono (by decide) (by decide)⟩
  · exact X0.returnOut hx Bd.returns (hb hby d1_28) hr
  · show Q1 Z p0 h0 n0 _ s₁.heap _
    rw [e0]
    exact ⟨rfl, N0, rfl⟩
theorem pn_1 : plainName "com/example/keyclasp/keyclasp/core/RabinPublicKeyCheckBitsPinLaw" = true := by first | (simp [plainName, overriddenIn]; done) | decide +kernel
theorem pd_0 : parseMethodDescriptor "(I)V" = some ⟨[.int], none⟩ := by decide +kernel
theorem ef_0 (m : MethodId) (p0 : Int32) (p1 : Int32) : entryFrame m #[(.int p0), (.int p1)] maxLocals = mkF m 0 #[.val (.int p0), .val (.int p1), .unset, .unset, .unset, .unset] [] := by first | (simp [entryFrame, mkF, argsToLocals, Value.category, maxLocals]; done) | rfl
def f0_14 (p0 : Int32) : Int32 := ((512 : Int32) + ((p0 &&& (2147483647 : Int32)) % (15873 : Int32)))
def f0_50 (p0 : Int32) (p1 : Int32) : Int32 := (if (p1 &&& (3 : Int32)) = (0 : Int32) then (512 : Int32) else (if (p1 &&& (3 : Int32)) = (1 : Int32) then (16384 : Int32) else (f0_14 p0)))

theorem own_law (p0 p1 : Int32) : ¬ f0_50 p0 p1 < (512 : Int32) ∧ ¬ (16384 : Int32) < f0_50 p0 p1 := by
  have e1 : (p0 &&& (2147483647 : Int32)).toInt = p0.toInt % (2 ^ 31 : Nat) := c_mask p0 2147483647 31 (by decide) (by decide)
  have e2 := (c_irem (p0 &&& (2147483647 : Int32)) (15873 : Int32) 15873 (by decide)).1 (by omega)
  have e3 := c_iadd (512 : Int32) ((p0 &&& (2147483647 : Int32)) % (15873 : Int32))
  have e4 : (512 : Int32).toInt = 512 := by decide
  have r := rng32 ((512 : Int32) + ((p0 &&& (2147483647 : Int32)) % (15873 : Int32)))
  have g : ((512 : Int32) + ((p0 &&& (2147483647 : Int32)) % (15873 : Int32))).toInt = 512 + ((p0 &&& (2147483647 : Int32)) % (15873 : Int32)).toInt := by omega
  have h : ¬ ((512 : Int32) + ((p0 &&& (2147483647 : Int32)) % (15873 : Int32))) < (512 : Int32) ∧ ¬ (16384 : Int32) < ((512 : Int32) + ((p0 &&& (2147483647 : Int32)) % (15873 : Int32))) := by
    have e5 : (16384 : Int32).toInt = 16384 := by decide
    rw [Int32.lt_iff_toInt_lt, Int32.lt_iff_toInt_lt, g, e4, e5]
    omega
  simp only [f0_50]
  split
  · decide
  · split
    · decide
    · exact h

def Q0 (Z : State) (p0 : Int32) (p1 : Int32) (h0 : Heap) (n0 : Nat) (v : Option Value) (h : Heap) (L : List Loc) : Prop := v = some (.int 1) ∧ Fr n0 L
set_option maxRecDepth 65536 in
set_option maxHeartbeats 40000000 in
theorem rm0 (l : Launch) (Z : State) (a0 : Array Value) (hw : ∀ d ∈ tables_1, d.before a0 Z = true) (ws : List Jvm.Cond) (p0 : Int32) (p1 : Int32) (h0 : Heap) (n0 : Nat) (Z0 : n0 ≤ h0.size)  :
    MetFree l x (head1 (Jvm.Cond.code x code maxLocals ret :: ws) room_1) (fun a U => a = #[(.int p0), (.int p1)] ∧ Z.Warmed39 U.vm ∧ U.heap = h0) (fun _ _ _ _ _ => True) (fun _ U o U' => ∃ v L, o = .returned v ∧ Q0 Z p0 p1 h0 n0 v U'.heap L ∧ FrameEnd U o U' L room_1.cells room_1.slots) := by
  refine MetFree.of_bodySF (plainFor_of_name pn_1) hisR ?_
  intro p e s m args below meth c s₁ Bd hml0 hP hK
  obtain ⟨rfl, hZ, hh⟩ := hP
  have hx := Bd.exec
  have hby := Bd.bytes
  have hml : c.maxLocals = 6 := hml0
  have hown : s.vm.findClass "com/example/keyclasp/keyclasp/core/RabinPublicKeyCheckBitsPinLaw" = some m.cls := findClass_of_methodNamed Bd.named
  have hnm := (name_of_methodNamed Bd.named Bd.method).1
  have X0 : Stand p l e room_1 s m #[(.int p0), (.int p1)] below meth c s₁ [] 0 0 := Stand.of_body Bd
  have e0 : s₁.heap = h0 := by rw [← hh, Bd.state]; rfl
  have N0 := Fr.nil n0
  have pre0 : ∀ t, Steps p.tables e below (s₁.setTop (mkF m 0 #[.val (.int p0), .val (.int p1), .unset, .unset, .unset, .unset] [])) t → Steps p.tables e below (s₁.setTop (entryFrame m #[(.int p0), (.int p1)] maxLocals)) t := fun t k => castTop (ef_0 m p0 p1) k
  have pre1 : ∀ t, Steps p.tables e below (s₁.setTop (mkF m 22 #[.val (.int p0), .val (.int p1), .val (.int (15873 : Int32)), .val (.int (f0_14 p0)), .val (.int (p1 &&& (3 : Int32))), .unset] [(.int (p1 &&& (3 : Int32)))])) t → Steps p.tables e below (s₁.setTop (entryFrame m #[(.int p0), (.int p1)] maxLocals)) t := fun t k => pre0 t (by
    show Steps p.tables e below (s₁.setTop (mkF m 0 #[.val (.int p0), .val (.int p1), .unset, .unset, .unset, .unset] [])) _
    refine XS.sipush X0.here hx rfl (hb hby at_0) ?_
    show Steps p.tables e below (s₁.setTop (mkF m 3 #[.val (.int p0), .val (.int p1), .unset, .unset, .unset, .unset] [(.int (15873 : Int32))])) _
    refine XS.istoreN X0.here hx rfl (hb hby at_3) rfl (l' := #[.val (.int p0), .val (.int p1), .val (.int (15873 : Int32)), .unset, .unset, .unset]) rfl ?_
    show Steps p.tables e below (s₁.setTop (mkF m 4 #[.val (.int p0), .val (.int p1), .val (.int (15873 : Int32)), .unset, .unset, .unset] [])) _
    refine XS.sipush X0.here hx rfl (hb hby at_4) ?_
    show Steps p.tables e below (s₁.setTop (mkF m 7 #[.val (.int p0), .val (.int p1), .val (.int (15873 : Int32)), .unset, .unset, .unset] [(.int (512 : Int32))])) _
    refine XS.iloadN X0.here hx rfl (hb hby at_7) rfl ?_
    show Steps p.tables e below (s₁.setTop (mkF m 8 #[.val (.int p0), .val (.int p1), .val (.int (15873 : Int32)), .unset, .unset, .unset] [(.int p0), (.int (512 : Int32))])) _
    refine X0.ldcInt hx hown (mvT hZ (hw _ (List.mem_of_getElem? (i := 0) rfl))) (g := (mkF m 8 #[.val (.int p0), .val (.int p1), .val (.int (15873 : Int32)), .unset, .unset, .unset] [(.int p0), (.int (512 : Int32))])) rfl (hb hby at_8) _ ?_
    show Steps p.tables e below (s₁.setTop (mkF m 10 #[.val (.int p0), .val (.int p1), .val (.int (15873 : Int32)), .unset, .unset, .unset] [(.int (2147483647 : Int32)), (.int p0), (.int (512 : Int32))])) _
    refine XS.iand X0.here hx rfl (hb hby at_10) rfl ?_
    show Steps p.tables e below (s₁.setTop (mkF m 11 #[.val (.int p0), .val (.int p1), .val (.int (15873 : Int32)), .unset, .unset, .unset] [(.int (p0 &&& (2147483647 : Int32))), (.int (512 : Int32))])) _
    refine XS.iloadN X0.here hx rfl (hb hby at_11) rfl ?_
    show Steps p.tables e below (s₁.setTop (mkF m 12 #[.val (.int p0), .val (.int p1), .val (.int (15873 : Int32)), .unset, .unset, .unset] [(.int (15873 : Int32)), (.int (p0 &&& (2147483647 : Int32))), (.int (512 : Int32))])) _
    refine iremM (g := (mkF m 12 #[.val (.int p0), .val (.int p1), .val (.int (15873 : Int32)), .unset, .unset, .unset] [(.int (15873 : Int32)), (.int (p0 &&& (2147483647 : Int32))), (.int (512 : Int32))])) X0 hx rfl (hb hby at_12) rfl (by decide) ?_
    show Steps p.tables e below (s₁.setTop (mkF m 13 #[.val (.int p0), .val (.int p1), .val (.int (15873 : Int32)), .unset, .unset, .unset] [(.int ((p0 &&& (2147483647 : Int32)) % (15873 : Int32))), (.int (512 : Int32))])) _
    refine XS.iadd X0.here hx rfl (hb hby at_13) rfl ?_
    show Steps p.tables e below (s₁.setTop (mkF m 14 #[.val (.int p0), .val (.int p1), .val (.int (15873 : Int32)), .unset, .unset, .unset] [(.int ((512 : Int32) + ((p0 &&& (2147483647 : Int32)) % (15873 : Int32))))])) _
    refine XS.istoreN X0.here hx rfl (hb hby at_14) rfl (l' := #[.val (.int p0), .val (.int p1), .val (.int (15873 : Int32)), .val (.int (f0_14 p0)), .unset, .unset]) rfl ?_
    show Steps p.tables e below (s₁.setTop (mkF m 15 #[.val (.int p0), .val (.int p1), .val (.int (15873 : Int32)), .val (.int (f0_14 p0)), .unset, .unset] [])) _
    refine XS.iloadN X0.here hx rfl (hb hby at_15) rfl ?_
    show Steps p.tables e below (s₁.setTop (mkF m 16 #[.val (.int p0), .val (.int p1), .val (.int (15873 : Int32)), .val (.int (f0_14 p0)), .unset, .unset] [(.int p1)])) _
    refine XS.iconst X0.here hx rfl (hb hby at_16) ?_
    show Steps p.tables e below (s₁.setTop (mkF m 17 #[.val (.int p0), .val (.int p1), .val (.int (15873 : Int32)), .val (.int (f0_14 p0)), .unset, .unset] [(.int (3 : Int32)), (.int p1)])) _
    refine XS.iand X0.here hx rfl (hb hby at_17) rfl ?_
    show Steps p.tables e below (s₁.setTop (mkF m 18 #[.val (.int p0), .val (.int p1), .val (.int (15873 : Int32)), .val (.int (f0_14 p0)), .unset, .unset] [(.int (p1 &&& (3 : Int32)))])) _
    refine XS.istore X0.here hx rfl (hb hby at_18) rfl (l' := #[.val (.int p0), .val (.int p1), .val (.int (15873 : Int32)), .val (.int (f0_14 p0)), .val (.int (p1 &&& (3 : Int32))), .unset]) rfl ?_
    show Steps p.tables e below (s₁.setTop (mkF m 20 #[.val (.int p0), .val (.int p1), .val (.int (15873 : Int32)), .val (.int (f0_14 p0)), .val (.int (p1 &&& (3 : Int32))), .unset] [])) _
    refine XS.iload X0.here hx rfl (hb hby at_20) rfl ?_
    show Steps p.tables e below (s₁.setTop (mkF m 22 #[.val (.int p0), .val (.int p1), .val (.int (15873 : Int32)), .val (.int (f0_14 p0)), .val (.int (p1 &&& (3 : Int32))), .unset] [(.int (p1 &&& (3 : Int32)))])) _
    exact k)
  have pre4 : ∀ t, Steps p.tables e below (s₁.setTop (mkF m 50 #[.val (.int p0), .val (.int p1), .val (.int (15873 : Int32)), .val (.int (f0_14 p0)), .val (.int (p1 &&& (3 : Int32))), .val (.int (f0_50 p0 p1))] [])) t → Steps p.tables e below (s₁.setTop (entryFrame m #[(.int p0), (.int p1)] maxLocals)) t := fun t k => pre1 t (by
    by_cases hf2 : (p1 &&& (3 : Int32)) = (0 : Int32)
    · refine XS.ifNo X0.here hx rfl (hb hby at_22) rfl ((if0 _ _).trans (teq hf2).2) ?_
      show Steps p.tables e below (s₁.setTop (mkF m 25 #[.val (.int p0), .val (.int p1), .val (.int (15873 : Int32)), .val (.int (f0_14 p0)), .val (.int (p1 &&& (3 : Int32))), .unset] [])) _
      refine XS.sipush X0.here hx rfl (hb hby at_25) ?_
      show Steps p.tables e below (s₁.setTop (mkF m 28 #[.val (.int p0), .val (.int p1), .val (.int (15873 : Int32)), .val (.int (f0_14 p0)), .val (.int (p1 &&& (3 : Int32))), .unset] [(.int (512 : Int32))])) _
      refine XS.istore X0.here hx rfl (hb hby at_28) rfl (l' := #[.val (.int p0), .val (.int p1), .val (.int (15873 : Int32)), .val (.int (f0_14 p0)), .val (.int (p1 &&& (3 : Int32))), .val (.int (512 : Int32))]) rfl ?_
      show Steps p.tables e below (s₁.setTop (mkF m 30 #[.val (.int p0), .val (.int p1), .val (.int (15873 : Int32)), .val (.int (f0_14 p0)), .val (.int (p1 &&& (3 : Int32))), .val (.int (512 : Int32))] [])) _
      refine XS.goto X0.here hx rfl (pc0 := 30) (pc' := 50) rfl (hb hby at_30) (by decide) (by decide) ?_
      show Steps p.tables e below (s₁.setTop (mkF m 50 #[.val (.int p0), .val (.int p1), .val (.int (15873 : Int32)), .val (.int (f0_14 p0)), .val (.int (p1 &&& (3 : Int32))), .val (.int (512 : Int32))] [])) _
      rw [show (f0_50 p0 p1) = ((512 : Int32) : Int32) from by simp only [f0_50, if_pos hf2]] at k
      exact k
    · refine XS.ifYes X0.here hx rfl (pc0 := 22) (pc' := 33) rfl (hb hby at_22) rfl ((if0 _ _).trans (feq hf2).2) (by decide) (by decide) ?_
      show Steps p.tables e below (s₁.setTop (mkF m 33 #[.val (.int p0), .val (.int p1), .val (.int (15873 : Int32)), .val (.int (f0_14 p0)), .val (.int (p1 &&& (3 : Int32))), .unset] [])) _
      refine XS.iload X0.here hx rfl (hb hby at_33) rfl ?_
      show Steps p.tables e below (s₁.setTop (mkF m 35 #[.val (.int p0), .val (.int p1), .val (.int (15873 : Int32)), .val (.int (f0_14 p0)), .val (.int (p1 &&& (3 : Int32))), .unset] [(.int (p1 &&& (3 : Int32)))])) _
      refine XS.iconst X0.here hx rfl (hb hby at_35) ?_
      show Steps p.tables e below (s₁.setTop (mkF m 36 #[.val (.int p0), .val (.int p1), .val (.int (15873 : Int32)), .val (.int (f0_14 p0)), .val (.int (p1 &&& (3 : Int32))), .unset] [(.int (1 : Int32)), (.int (p1 &&& (3 : Int32)))])) _
      by_cases hf3 : (p1 &&& (3 : Int32)) = (1 : Int32)
      · refine XS.icmpNo X0.here hx rfl (hb hby at_36) rfl (teq hf3).2 ?_
        show Steps p.tables e below (s₁.setTop (mkF m 39 #[.val (.int p0), .val (.int p1), .val (.int (15873 : Int32)), .val (.int (f0_14 p0)), .val (.int (p1 &&& (3 : Int32))), .unset] [])) _
        refine XS.sipush X0.here hx rfl (hb hby at_39) ?_
        show Steps p.tables e below (s₁.setTop (mkF m 42 #[.val (.int p0), .val (.int p1), .val (.int (15873 : Int32)), .val (.int (f0_14 p0)), .val (.int (p1 &&& (3 : Int32))), .unset] [(.int (16384 : Int32))])) _
        refine XS.istore X0.here hx rfl (hb hby at_42) rfl (l' := #[.val (.int p0), .val (.int p1), .val (.int (15873 : Int32)), .val (.int (f0_14 p0)), .val (.int (p1 &&& (3 : Int32))), .val (.int (16384 : Int32))]) rfl ?_
        show Steps p.tables e below (s₁.setTop (mkF m 44 #[.val (.int p0), .val (.int p1), .val (.int (15873 : Int32)), .val (.int (f0_14 p0)), .val (.int (p1 &&& (3 : Int32))), .val (.int (16384 : Int32))] [])) _
        refine XS.goto X0.here hx rfl (pc0 := 44) (pc' := 50) rfl (hb hby at_44) (by decide) (by decide) ?_
        show Steps p.tables e below (s₁.setTop (mkF m 50 #[.val (.int p0), .val (.int p1), .val (.int (15873 : Int32)), .val (.int (f0_14 p0)), .val (.int (p1 &&& (3 : Int32))), .val (.int (16384 : Int32))] [])) _
        rw [show (f0_50 p0 p1) = ((16384 : Int32) : Int32) from by simp only [f0_50, if_neg hf2, if_pos hf3]] at k
        exact k
      · refine XS.icmpYes X0.here hx rfl (pc0 := 36) (pc' := 47) rfl (hb hby at_36) rfl (feq hf3).2 (by decide) (by decide) ?_
        show Steps p.tables e below (s₁.setTop (mkF m 47 #[.val (.int p0), .val (.int p1), .val (.int (15873 : Int32)), .val (.int (f0_14 p0)), .val (.int (p1 &&& (3 : Int32))), .unset] [])) _
        refine XS.iloadN X0.here hx rfl (hb hby at_47) rfl ?_
        show Steps p.tables e below (s₁.setTop (mkF m 48 #[.val (.int p0), .val (.int p1), .val (.int (15873 : Int32)), .val (.int (f0_14 p0)), .val (.int (p1 &&& (3 : Int32))), .unset] [(.int (f0_14 p0))])) _
        refine XS.istore X0.here hx rfl (hb hby at_48) rfl (l' := #[.val (.int p0), .val (.int p1), .val (.int (15873 : Int32)), .val (.int (f0_14 p0)), .val (.int (p1 &&& (3 : Int32))), .val (.int (f0_14 p0))]) rfl ?_
        show Steps p.tables e below (s₁.setTop (mkF m 50 #[.val (.int p0), .val (.int p1), .val (.int (15873 : Int32)), .val (.int (f0_14 p0)), .val (.int (p1 &&& (3 : Int32))), .val (.int (f0_14 p0))] [])) _
        rw [show (f0_50 p0 p1) = ((f0_14 p0) : Int32) from by simp only [f0_50, if_neg hf2, if_neg hf3]] at k
        exact k)
  obtain ⟨_, _, ⟨T5, L5, k5, n5⟩, -, X5, ⟨Lc5, hQ5, l5, y5, z5⟩, st5⟩ := Jvm.LawKit.callS X0 hx (y := (⟨"com/example/keyclasp/keyclasp/core/RabinPublicKey", "checkBits", "(I)V"⟩ : MethodName)) hown (mvT hZ (hw _ (List.mem_of_getElem? (i := 1) rfl))) (mvT hZ (hw _ (List.mem_of_getElem? (i := 2) rfl))) (mvT hZ (hw _ (List.mem_of_getElem? (i := 3) rfl))) (mvT hZ (hw _ (List.mem_of_getElem? (i := 4) rfl))) (by decide) (backOf (W := 0) (rm1 l Z a0 hw [] (f0_50 p0 p1) h0 n0 Z0 (own_law _ _).1 (own_law _ _).2) hZ (hw _ (List.mem_of_getElem? (i := 4) rfl)) (hw _ (List.mem_of_getElem? (i := 3) rfl)) (by decide) (by decide)) (g := (mkF m 52 #[.val (.int p0), .val (.int p1), .val (.int (15873 : Int32)), .val (.int (f0_14 p0)), .val (.int (p1 &&& (3 : Int32))), .val (.int (f0_50 p0 p1))] [(.int (f0_50 p0 p1))])) rfl (by rw [hml]; rfl) (argsL := [(.int (f0_50 p0 p1))]) (rest := []) (lenOf pd_0 rfl) rfl (by show 2 * 0 + _ ≤ _; exact Nat.le_of_eq rfl) (hb hby at_52) (fun _ _ => ⟨rfl, e0, (by decide : 0 + 0 ≤ _), (by decide : 0 + 0 ≤ _)⟩)
  dsimp only [Pt.U, Pt.locs, Pt.cells, Pt.slots] at X5 l5 y5 z5 st5 hQ5
  subst l5 y5 z5
  obtain ⟨rfl, N5q, hh5⟩ := hQ5
  have N5 := Fr.app N0 N5q
  have pre6 : ∀ t, Steps p.tables e below (T5.setTop (mkF m 76 #[.val (.int p0), .val (.int p1), .val (.int (15873 : Int32)), .val (.int (f0_14 p0)), .val (.int (p1 &&& (3 : Int32))), .val (.int (f0_50 p0 p1))] [(.int (1 : Int32))])) t → Steps p.tables e below (s₁.setTop (entryFrame m #[(.int p0), (.int p1)] maxLocals)) t := fun t k => pre4 t (by
    refine XS.iload X0.here hx rfl (hb hby at_50) rfl ?_
    show Steps p.tables e below (s₁.setTop (mkF m 52 #[.val (.int p0), .val (.int p1), .val (.int (15873 : Int32)), .val (.int (f0_14 p0)), .val (.int (p1 &&& (3 : Int32))), .val (.int (f0_50 p0 p1))] [(.int (f0_50 p0 p1))])) _
    refine st5 _ ?_
    show Steps p.tables e below (T5.setTop (mkF m 55 #[.val (.int p0), .val (.int p1), .val (.int (15873 : Int32)), .val (.int (f0_14 p0)), .val (.int (p1 &&& (3 : Int32))), .val (.int (f0_50 p0 p1))] [])) _
    refine XS.iload X5.here hx rfl (hb hby at_55) rfl ?_
    show Steps p.tables e below (T5.setTop (mkF m 57 #[.val (.int p0), .val (.int p1), .val (.int (15873 : Int32)), .val (.int (f0_14 p0)), .val (.int (p1 &&& (3 : Int32))), .val (.int (f0_50 p0 p1))] [(.int (f0_50 p0 p1))])) _
    refine XS.sipush X5.here hx rfl (hb hby at_57) ?_
    show Steps p.tables e below (T5.setTop (mkF m 60 #[.val (.int p0), .val (.int p1), .val (.int (15873 : Int32)), .val (.int (f0_14 p0)), .val (.int (p1 &&& (3 : Int32))), .val (.int (f0_50 p0 p1))] [(.int (512 : Int32)), (.int (f0_50 p0 p1))])) _
    refine XS.icmpNo X5.here hx rfl (hb hby at_60) rfl (flt (show ¬ ((f0_50 p0 p1) < (512 : Int32)) from (own_law _ _).1)).1 ?_
    show Steps p.tables e below (T5.setTop (mkF m 63 #[.val (.int p0), .val (.int p1), .val (.int (15873 : Int32)), .val (.int (f0_14 p0)), .val (.int (p1 &&& (3 : Int32))), .val (.int (f0_50 p0 p1))] [])) _
    refine XS.iload X5.here hx rfl (hb hby at_63) rfl ?_
    show Steps p.tables e below (T5.setTop (mkF m 65 #[.val (.int p0), .val (.int p1), .val (.int (15873 : Int32)), .val (.int (f0_14 p0)), .val (.int (p1 &&& (3 : Int32))), .val (.int (f0_50 p0 p1))] [(.int (f0_50 p0 p1))])) _
    refine XS.sipush X5.here hx rfl (hb hby at_65) ?_
    show Steps p.tables e below (T5.setTop (mkF m 68 #[.val (.int p0), .val (.int p1), .val (.int (15873 : Int32)), .val (.int (f0_14 p0)), .val (.int (p1 &&& (3 : Int32))), .val (.int (f0_50 p0 p1))] [(.int (16384 : Int32)), (.int (f0_50 p0 p1))])) _
    refine XS.icmpNo X5.here hx rfl (hb hby at_68) rfl (flt (show ¬ ((16384 : Int32) < (f0_50 p0 p1)) from (own_law _ _).2)).2.2.1 ?_
    show Steps p.tables e below (T5.setTop (mkF m 71 #[.val (.int p0), .val (.int p1), .val (.int (15873 : Int32)), .val (.int (f0_14 p0)), .val (.int (p1 &&& (3 : Int32))), .val (.int (f0_50 p0 p1))] [])) _
    refine XS.iconst X5.here hx rfl (hb hby at_71) ?_
    show Steps p.tables e below (T5.setTop (mkF m 72 #[.val (.int p0), .val (.int p1), .val (.int (15873 : Int32)), .val (.int (f0_14 p0)), .val (.int (p1 &&& (3 : Int32))), .val (.int (f0_50 p0 p1))] [(.int (1 : Int32))])) _
    refine XS.goto X5.here hx rfl (pc0 := 72) (pc' := 76) rfl (hb hby at_72) (by decide) (by decide) ?_
    show Steps p.tables e below (T5.setTop (mkF m 76 #[.val (.int p0), .val (.int p1), .val (.int (15873 : Int32)), .val (.int (f0_14 p0)), .val (.int (p1 &&& (3 : Int32))), .val (.int (f0_50 p0 p1))] [(.int (1 : Int32))])) _
    exact k)
  obtain ⟨fs, hr, hrun, hended, hW, hsame⟩ := X5.leave (v := some (.int (1 : Int32))) (fun h => by rw [Bd.returns] at h; cases h)
  refine ⟨_, _, pre6 _ ?_, hrun, hended, _, _, rfl, ?_, ⟨_, rfl⟩, hW, hsame.mono (by decide) (by decide)⟩
  · exact retN X5 hx (t := .boolean) Bd.returns (by simp) (hb hby at_76) hr
  · show Q0 Z p0 p1 h0 n0 _ T5.heap _
    rw [hh5]
    exact ⟨rfl, N5⟩
set_option maxRecDepth 65536 in
set_option maxHeartbeats 40000000 in
theorem comes_1 {Post : Tables → Env → Array Value → State → Outcome → State → Prop} (hpost : ∀ tb e args s v u, (limb_1_1.after args s (.returned v) u = true ∧ limb_1_2.after args s (.returned v) u = true ∧ True) → FrameEnd s (.returned v) u (Jvm.fieldLocs frame_1_writes args s ++ Jvm.arrayLocs frame_1_arrays args s ++ Jvm.staticLocs frame_1_statics s) 0 0 → Post tb e args s (.returned v) u) :
    ArmFor flags0 classFile x code maxLocals ret World_1 tables_1 room_1 Calls_1 rest_1 Pre_1 Post := by
  intro l hfl _ _ p e ha hc hk s m args below hf hA hF happ hP
  obtain ⟨hcalls, hrest, hpre⟩ := hP
  obtain ⟨-, -, -, hnamed, -, -, -, hat⟩ := (Spec.applies_iff hf).mp happ
  obtain ⟨hg, hn⟩ := and_e (Cond.before_iff.mp (show (Jvm.Cond.and given_1 narrow_1).before args s = true from hpre))
  obtain ⟨h1, g0⟩ := and_e hg
  obtain ⟨u0, g1⟩ := and_e g0
  obtain ⟨w0, w1, rfl⟩ : ∃ w0 w1 : Value, args = #[w0, w1] := by
    have hs : args.size = 2 := by simpa [Cond.value, given_1] using h1
    obtain ⟨L⟩ := args
    match L, hs with
    | [w0, w1], _ => exact ⟨w0, w1, rfl⟩
  have hw := fun d (hd : d ∈ tables_1) => atoms_spec (ws := Jvm.Cond.code x code maxLocals ret :: tables_1) hat d (List.mem_cons_of_mem _ hd)
  have hfit : Fit s := fun {y c} hc i hi => by
    obtain ⟨ha, rfl⟩ := Array.getElem?_eq_some_iff.mp hc
    have q := List.all_eq_true.mp ((Array.all_eq_true_iff_forall_mem.mp hF) _ (Array.getElem_mem ha)) i (List.mem_range.mpr hi)
    simpa [Array.getElem?_eq_getElem hi] using q
  obtain ⟨i0, e0⟩ := is_v u0
  obtain rfl : w0 = (.int i0) := Option.some.inj e0
  obtain ⟨i1, e1⟩ := is_v g1
  obtain rfl : w1 = (.int i1) := Option.some.inj e1
  obtain ⟨n, o, h1, h2, h3, _, L, rfl, ⟨rfl, N⟩, hq⟩ := rm0 l s _ hw tables_1 i0 i1  s.heap s.heap.size (Nat.le_refl _)  p e ha hc hk s m _ below hf ((Spec.applies_iff_loose hf).mp happ).1 ⟨rfl, State.Warmed39.refl s, rfl⟩ trivial
  refine ⟨n, _, h1, h2, h3, hpost _ _ _ _ _ _ ⟨Cond.after_iff.mpr rfl, Cond.after_iff.mpr (eq_i res_at (Term.int_eval (1)) rfl), trivial⟩ ⟨hq.1, hq.2.1, (hq.2.2.sift fun y hy => Or.inr (N y hy)).mono (by decide) (by decide)⟩⟩
theorem main_1_1 : Claimed_1_1 := comes_1 fun _ _ _ _ _ _ h hF => ⟨h.1, hF⟩
theorem main_1_2 : Claimed_1_2 := comes_1 fun _ _ _ _ _ _ h hF => ⟨h.2.1, hF⟩
end Jvm.Pilot.@@N@@
namespace Jvm.Pilot.@@N@@
open Jvm Jvm.ClassFile Sem Op Lib Jvm.Free Jvm.Stand Jvm.Pilot.@@N@@.Jvm.D
/-! MADE BY PROGRAM (witnessworld.py) out of the Statement's table words and the real class files: 10 classes; the members and pool entries that the words name. The judged class is class 1, her method 1. -/
namespace start1
open Jvm.ClassFile
def u (s : String) : CpInfo := .utf8 (stringToUtf16 s)
/-- a pool by its gaps: so many unusable entries, then the entry; so many at the end -/
def gap : Nat → List CpInfo → List CpInfo
  | 0, r => r
  | n + 1, r => .unusable :: gap n r
def poolList (es : List (Nat × CpInfo)) (last : Nat) : List CpInfo := es.foldr (fun e r => gap e.1 (e.2 :: r)) (gap last [])
def pool (es : List (Nat × CpInfo)) (last : Nat) : Array CpInfo := ⟨poolList es last⟩
def fileOf (pool : Array CpInfo) (this : Nat) (attrs : Array Attribute := #[]) (ms : Array MethodInfo := #[]) (fl : Nat := 33) (sup : Nat := 0) (ifs : Array Nat := #[]) (fds : Array FieldInfo := #[]) : ClassFile where
  minorVersion := 0
  majorVersion := 65
  constantPool := pool
  accessFlags := fl
  thisClass := this
  superClass := sup
  interfaces := ifs
  fields := fds
  methods := ms
  attributes := attrs
def plain (name : String) (sup : Option ClassId) : Class where
  name := name
  kind := .ordinary
  loader := none
  accessFlags := 33
  super := sup
  interfaces := #[]
  cf := none
  fields := #[]
  methods := #[]
  instanceTypes := #[]
  staticTypes := #[]
  resolved := #[]
  callSites := []
  init := .initialized
  statics := none
  mirror := none

def pool0 : Array CpInfo := pool [(5, u "<init>"), (0, u "()V"), (1, .class_ 10), (1, u "java/lang/Object")] 113

def k0m0 : Method := { name := "<init>", desc := "()V", sig := { parameters := [], returnType := none }, accessFlags := 1, code := none }
/-- java/lang/Object -/
def k0 : Class := { plain "java/lang/Object" none with
  accessFlags := 33
  interfaces := #[]
  cf := some (fileOf pool0 8 #[] #[{ accessFlags := 1, nameIndex := 5, descriptorIndex := 6, attributes := #[] }] 33 0 #[] #[])
  fields := #[]
  methods := #[k0m0]
  instanceTypes := #[]
  staticTypes := #[]
  resolved := Array.replicate 124 none
  statics := none }

def pool1 : Array CpInfo := pool [(2, .class_ 4), (1, u "java/lang/Object"), (0, u "<init>"), (0, u "()V"), (0, .integer 2147483647), (0, .methodref 9 10), (0, .class_ 11), (0, .nameAndType 12 13), (0, u "com/example/keyclasp/keyclasp/core/RabinPublicKey"), (0, u "checkBits"), (0, u "(I)V"), (0, .class_ 15), (0, u "com/example/keyclasp/keyclasp/core/RabinPublicKeyCheckBitsPinLaw"), (2, u "law"), (0, u "(II)Z")] 3

def k1m0 : Method := { name := "<init>", desc := "()V", sig := { parameters := [], returnType := none }, accessFlags := 2, code := none }
def k1c1 : Code := { maxStack := 3, maxLocals := 6, code := code, exceptionTable := #[], attributes := #[] }
def k1m1 : Method := { name := "law", desc := "(II)Z", sig := { parameters := [.int, .int], returnType := some .boolean }, accessFlags := 9, code := some k1c1 }
/-- com/example/keyclasp/keyclasp/core/RabinPublicKeyCheckBitsPinLaw -/
def k1 : Class := { plain "com/example/keyclasp/keyclasp/core/RabinPublicKeyCheckBitsPinLaw" (some 0) with
  accessFlags := 49
  interfaces := #[]
  cf := some (fileOf pool1 14 #[] #[{ accessFlags := 2, nameIndex := 5, descriptorIndex := 6, attributes := #[] }, { accessFlags := 9, nameIndex := 18, descriptorIndex := 19, attributes := #[] }] 49 2 #[] #[])
  fields := #[]
  methods := #[k1m0, k1m1]
  instanceTypes := #[]
  staticTypes := #[]
  resolved := Array.replicate 23 none
  statics := none }

def pool2 : Array CpInfo := pool [(2, .class_ 4), (1, u "com/example/keyclasp/keyclasp/core/SubjectKey"), (8, .class_ 14), (0, u "java/lang/Object")] 10

/-- com/example/keyclasp/keyclasp/core/SubjectKey -/
def k2 : Class := { plain "com/example/keyclasp/keyclasp/core/SubjectKey" (some 0) with
  accessFlags := 1537
  interfaces := #[]
  cf := some (fileOf pool2 2 #[] #[] 1537 13 #[] #[])
  fields := #[]
  methods := #[]
  instanceTypes := #[]
  staticTypes := #[]
  resolved := Array.replicate 25 none
  statics := none }

def pool3 : Array CpInfo := pool [(2, .class_ 4), (1, u "java/lang/Object"), (19, .class_ 26), (1, u "com/example/keyclasp/keyclasp/core/RabinPublicKey"), (0, u "checkBits"), (0, u "(I)V"), (2, u "FOUR"), (0, u "Ljava/math/BigInteger;"), (15, u "modulus"), (25, .class_ 75), (0, u "com/example/keyclasp/keyclasp/core/SubjectKey"), (0, u "MIN_BITS"), (0, u "I"), (2, u "MAX_BITS")] 29

def k3c0 : Code := { maxStack := 3, maxLocals := 1, code := prog_17_method_2_code, exceptionTable := #[], attributes := #[] }
def k3m0 : Method := { name := "checkBits", desc := "(I)V", sig := { parameters := [.int], returnType := none }, accessFlags := 8, code := some k3c0 }
/-- com/example/keyclasp/keyclasp/core/RabinPublicKey -/
def k3 : Class := { plain "com/example/keyclasp/keyclasp/core/RabinPublicKey" (some 0) with
  accessFlags := 49
  interfaces := #[2]
  cf := some (fileOf pool3 24 #[] #[{ accessFlags := 8, nameIndex := 27, descriptorIndex := 28, attributes := #[] }] 49 2 #[74] #[{ accessFlags := 25, nameIndex := 76, descriptorIndex := 77, attributes := #[] }, { accessFlags := 25, nameIndex := 80, descriptorIndex := 77, attributes := #[] }, { accessFlags := 26, nameIndex := 31, descriptorIndex := 32, attributes := #[] }, { accessFlags := 18, nameIndex := 48, descriptorIndex := 32, attributes := #[] }])
  fields := #[{ name := "MIN_BITS", type := .int, accessFlags := 25, slot := 0, constantValue := 0 }, { name := "MAX_BITS", type := .int, accessFlags := 25, slot := 1, constantValue := 0 }, { name := "FOUR", type := (.object "java/math/BigInteger"), accessFlags := 26, slot := 2, constantValue := 0 }, { name := "modulus", type := (.object "java/math/BigInteger"), accessFlags := 18, slot := 0, constantValue := 0 }]
  methods := #[k3m0]
  instanceTypes := #[(.object "java/math/BigInteger")]
  staticTypes := #[.int, .int, (.object "java/math/BigInteger")]
  resolved := Array.replicate 110 none
  statics := none }

def pool4 : Array CpInfo := pool [(1, u "java/lang/Cloneable"), (0, .class_ 1), (0, u "java/lang/Object"), (0, .class_ 3)] 3

/-- java/lang/Cloneable -/
def k4 : Class := { plain "java/lang/Cloneable" (some 0) with
  accessFlags := 1537
  interfaces := #[]
  cf := some (fileOf pool4 2 #[] #[] 1537 4 #[] #[])
  fields := #[]
  methods := #[]
  instanceTypes := #[]
  staticTypes := #[]
  resolved := Array.replicate 8 none
  statics := none }

def pool5 : Array CpInfo := pool [(1, u "java/io/Serializable"), (0, .class_ 1), (0, u "java/lang/Object"), (0, .class_ 3)] 3

/-- java/io/Serializable -/
def k5 : Class := { plain "java/io/Serializable" (some 0) with
  accessFlags := 1537
  interfaces := #[]
  cf := some (fileOf pool5 2 #[] #[] 1537 4 #[] #[])
  fields := #[]
  methods := #[]
  instanceTypes := #[]
  staticTypes := #[]
  resolved := Array.replicate 8 none
  statics := none }

/-- the primitive byte -/
def k6 : Class := { plain "byte" none with kind := .primitive 'B', accessFlags := 0x411 }
/-- [B -/
def k7 : Class := { plain "[B" (some 0) with kind := .array 6 .byte, interfaces := #[4, 5], accessFlags := 1041 }

/-- the primitive int -/
def k8 : Class := { plain "int" none with kind := .primitive 'I', accessFlags := 0x411 }
/-- [I -/
def k9 : Class := { plain "[I" (some 0) with kind := .array 8 .int, interfaces := #[4, 5], accessFlags := 1041 }

def heap : Heap := #[]
def classes : Array Class := #[k0, k1, k2, k3, k4, k5, k6, k7, k8, k9]
def interned : List (Array UInt16 × Addr) := []
def slotsUsed : Nat := 0
def theMethod : MethodId := ⟨1, 1⟩
def args0 : Array Value := #[.int 5, .int 7]
def aboutOver (below : List Frame) : State where
  vm := { classes := classes, interned := interned.toArray }
  heap := heap
  slotsUsed := slotsUsed
  threads := #[{ frames := .invoking theMethod args0 :: below }]
def below0 : List Frame := [.native { method := ⟨0, 0⟩, args := #[] }]
def about1 : State := aboutOver below0
def p0 : Program := .bare "" "" ""
def e0 : Env := launch0.env 0 0 0
theorem w_frames : about1.frames = Frame.invoking theMethod args0 :: below0 := rfl
set_option maxRecDepth 65536 in
theorem w_args : argsFit about1.vm theMethod args0 = true := by decide +kernel
set_option maxRecDepth 65536 in
theorem w_heap : heapFits about1 = true := by decide +kernel
set_option maxRecDepth 65536 in
theorem w_runnable : about1.curStatus? = some .runnable := by decide +kernel
set_option maxRecDepth 65536 in
theorem w_alone : about1.alone = true := by decide +kernel
set_option maxRecDepth 65536 in
theorem w_named : about1.methodNamed? x = some theMethod := by decide +kernel
set_option maxRecDepth 65536 in
theorem w_hears : about1.hears theMethod below0 = true := by decide +kernel
set_option maxRecDepth 65536 in
theorem w_ripe : about1.ripe theMethod args0 below0 = true := by decide +kernel
theorem w_running : about1.status = .running := rfl
set_option maxRecDepth 65536 in
theorem w_room : about1.hasRoom e0.platform room_1 = true :=
  launch0.hasRoom_least _ room_1 (by decide +kernel) (by decide +kernel) (by decide +kernel) (by decide +kernel) (by decide +kernel) (by decide +kernel)
theorem allAtoms_all (ts : List Jvm.Cond) (a : Array Jvm.Value) (st : Jvm.State) : (allAtoms ts).before a st = ts.all (fun c => c.before a st) := by
  induction ts with
  | nil => rfl
  | cons c t ih =>
    show (Jvm.Cond.and c (allAtoms t)).before a st = _
    rw [Jvm.Cond.before_and, ih, List.all_cons]
def words1 : List Jvm.Cond := Jvm.Cond.code x code maxLocals ret :: tables_1
/-- a 'code' word, met by the world's own term for the bytes: nothing is compared byte by byte -/
theorem code_word {y : MethodName} {bytes : ByteArray} {mx : Nat} {rt : Option FieldType} {a : Array Value} {s : State} {m : MethodId} {meth : Method} {c : Code} (h1 : s.methodNamed? y = some m) (h2 : s.vm.method? m = some meth) (h3 : meth.code = some c) (h4 : c.code = bytes)
    (h5 : (c.maxLocals == mx && c.exceptionTable.isEmpty && decide (c.maxStack ≤ mostOperands) && decide (meth.sig.returnType = rt) && !meth.locks && decide (parseMethodDescriptor y.desc = some meth.sig)) = true) : (Jvm.Cond.code y bytes mx rt).before a s = true := by
  simp only [Bool.and_eq_true, beq_iff_eq, Bool.not_eq_true', decide_eq_true_eq] at h5
  obtain ⟨⟨⟨⟨⟨g1, g2⟩, g3⟩, g4⟩, g5⟩, g6⟩ := h5
  simp [Cond.before, Cond.holds, Cond.value, h1, h2, h3, h4, g1, g2, g3, g4, g5, g6]
def isCode : Jvm.Cond → Bool
  | .code _ _ _ _ => true
  | _ => false
theorem all_split {L : List Jvm.Cond} {P : Jvm.Cond → Bool} (h1 : L.all (fun c => isCode c || P c) = true) (h2 : ∀ c ∈ L.filter isCode, P c = true) : L.all P = true := by
  refine List.all_eq_true.mpr fun c hc => ?_
  have h := List.all_eq_true.mp h1 c hc
  rcases Bool.eq_false_or_eq_true (isCode c) with hi | hi
  · exact h2 c (List.mem_filter.mpr ⟨hc, hi⟩)
  · simpa [hi] using h
set_option maxRecDepth 65536 in
theorem w_c0 : (Jvm.Cond.code x code maxLocals ret).before args0 about1 = true := code_word (m := ⟨1, 1⟩) (meth := k1m1) (c := k1c1) (by decide +kernel) rfl rfl rfl (by decide +kernel)
set_option maxRecDepth 65536 in
theorem w_c1 : (Jvm.Cond.code ({ cls := "com/example/keyclasp/keyclasp/core/RabinPublicKey", name := "checkBits", desc := "(I)V" } : Jvm.MethodName) prog_17_method_2_code (1 : Nat) (Option.none : Option Jvm.ClassFile.FieldType)).before args0 about1 = true := code_word (m := ⟨3, 0⟩) (meth := k3m0) (c := k3c0) (by decide +kernel) rfl rfl rfl (by decide +kernel)
def codes1 : List Jvm.Cond := [Jvm.Cond.code x code maxLocals ret, Jvm.Cond.code ({ cls := "com/example/keyclasp/keyclasp/core/RabinPublicKey", name := "checkBits", desc := "(I)V" } : Jvm.MethodName) prog_17_method_2_code (1 : Nat) (Option.none : Option Jvm.ClassFile.FieldType)]
set_option maxRecDepth 65536 in
theorem codes_eq : words1.filter isCode = codes1 := rfl
theorem w_codes : ∀ c ∈ words1.filter isCode, c.before args0 about1 = true := by
  rw [codes_eq]
  intro c hc
  simp only [codes1, List.mem_cons, List.not_mem_nil, or_false] at hc
  rcases hc with rfl | rfl
  · exact w_c0
  · exact w_c1
set_option maxRecDepth 65536 in
theorem w_t1 : words1.all (fun c => isCode c || c.before args0 about1) = true := by decide +kernel
theorem w_tables : (allAtoms (Jvm.Cond.code x code maxLocals ret :: tables_1)).before args0 about1 = true := by
  rw [allAtoms_all]
  show words1.all (fun c => c.before args0 about1) = true
  refine all_split ?_ w_codes
  rw [w_t1]
set_option maxRecDepth 65536 in
theorem w_case : (Jvm.Cond.and given_1 narrow_1).before args0 about1 = true := by decide +kernel
theorem w_applies : (headSpec (Jvm.Cond.code x code maxLocals ret :: tables_1) room_1).applies x e0.platform about1 = true :=
  (Spec.applies_iff w_frames).mpr ⟨w_running, w_runnable, w_alone, w_named, w_hears, w_ripe, w_room, w_tables⟩
theorem atStart : AtStart classFile x code maxLocals ret World_1 tables_1 room_1 Calls_1 rest_1 Pre_1 launch0 p0 e0 about1 theMethod args0 below0 :=
  ⟨lists_1, trivial, launch0.admits_env _ _ _, launch0.least_env, fairChoices_fair.cas, fairChoices_fair.clock, w_frames, w_args, w_heap, w_applies, trivial, trivial, w_case⟩
end start1
theorem witness_1 : WitnessClaimed_1 := ⟨start1.p0, start1.e0, start1.about1, start1.theMethod, start1.args0, start1.below0, start1.atStart⟩
end Jvm.Pilot.@@N@@
