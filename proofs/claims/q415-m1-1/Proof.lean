import JvmDerived
import JvmDerived.Pilot.@@N@@Statement
import JvmDerived.Pilot.@@N@@Code
set_option linter.unusedVariables false
set_option linter.unusedSimpArgs false
namespace Jvm.RoadKit
open Sem ClassFile Op Lib Jvm.Stand Jvm.Free Jvm.LawKit
section New
variable {p : Program} {l : Launch} {e : Env} {R : Room} {s : State} {m : MethodId} {args : Array Value} {below : List Frame} {meth : Method} {c : Code} {T : State} {locs : List Loc} {cells slots : Nat}
theorem retI (X : Stand p l e R s m args below meth c T locs cells slots) (hx : p.tables.exec = Jvm.exec) {pc : Nat} {Ls : Array Slot} {z : Int32} {rest : List Value} (hret : meth.sig.returnType = some .int) (hd : decode c.code pc = .ok (.ireturn, 1)) {fs : List Frame}
    (hl : ∀ (f : JFrame) (acts : List Action), f.method = m → f.locked = none → f.entered = [] → (doReturn e (T.setTop f) acts (some (.int z))).1 = T.setFrames fs) : Steps p.tables e below (T.setTop (mkF m pc Ls (.int z :: rest))) (T.setFrames fs) := by
  have hm' : T.vm.method? m = some meth := X.method'
  have hn : narrow .int (.int z) = .int z := rfl
  show Steps p.tables e below (T.setTop { method := m, pc := pc, locals := Ls, stack := _ :: rest, locked := none }) _
  jvm_step X.here [X.here.top, hx, hd, hm', hret, hn]
  first | (intro acts; rw [hl _ acts rfl rfl rfl]) | rw [hl _ _ rfl rfl rfl]
  exact Steps.refl _
end New
end Jvm.RoadKit
namespace Jvm.Pilot.@@N@@
open Jvm Jvm.ClassFile Sem Op Lib Jvm.Free Jvm.Stand Jvm.LawKit Jvm.RoadKit Bundle Jvm.Pilot.@@N@@.Jvm.D
theorem own_ltL {x y : Int64} (h : x < y) : ifCond.holds .lt (lcmpW x y) = true ∧ ifCond.holds .ge (lcmpW x y) = false ∧ ifCond.holds .gt (lcmpW y x) = true ∧ ifCond.holds .le (lcmpW y x) = false :=
  ⟨(if0 _ _).trans (tlt ((lw_lt x y).mpr h)).1, (if0 _ _).trans (tlt ((lw_lt x y).mpr h)).2.1, (if0 _ _).trans (tlt ((lw_gt y x).mpr h)).2.2.1, (if0 _ _).trans (tlt ((lw_gt y x).mpr h)).2.2.2⟩
theorem own_fltL {x y : Int64} (h : ¬ x < y) : ifCond.holds .lt (lcmpW x y) = false ∧ ifCond.holds .ge (lcmpW x y) = true ∧ ifCond.holds .gt (lcmpW y x) = false ∧ ifCond.holds .le (lcmpW y x) = true :=
  ⟨(if0 _ _).trans (flt (fun q => h ((lw_lt x y).mp q))).1, (if0 _ _).trans (flt (fun q => h ((lw_lt x y).mp q))).2.1, (if0 _ _).trans (flt (fun q => h ((lw_gt y x).mp q))).2.2.1, (if0 _ _).trans (flt (fun q => h ((lw_gt y x).mp q))).2.2.2⟩
theorem own_eqL {x y : Int64} (h : x = y) : ifCond.holds .eq (lcmpW x y) = true ∧ ifCond.holds .ne (lcmpW x y) = false :=
  ⟨(if0 _ _).trans (teq ((lw_eq x y).mpr h)).1, (if0 _ _).trans (teq ((lw_eq x y).mpr h)).2⟩
theorem own_neL {x y : Int64} (h : ¬ x = y) : ifCond.holds .eq (lcmpW x y) = false ∧ ifCond.holds .ne (lcmpW x y) = true :=
  ⟨(if0 _ _).trans (feq (fun q => h ((lw_eq x y).mp q))).1, (if0 _ _).trans (feq (fun q => h ((lw_eq x y).mp q))).2⟩

def own_sr (x : Int64) (k : Int32) : Int64 := ((x.toUInt64 >>> (k &&& 0x3f).toInt64.toUInt64).toInt64)
def own_C1 : Int64 := (-4658895280553007687 : Int64)
def own_C2 : Int64 := (-7723592293110705685 : Int64)
def own_m1 (z : Int64) : Int64 := (z ^^^ own_sr z 30) * own_C1
def own_m2 (z : Int64) : Int64 := (own_m1 z ^^^ own_sr (own_m1 z) 27) * own_C2
def own_mix (z : Int64) : Int64 := own_m2 z ^^^ own_sr (own_m2 z) 31
def own_stp (a x : Int64) : Int64 := x * ((2 : Int64) - (a * x))
def own_inv (a : Int64) : Int64 := own_stp a (own_stp a (own_stp a (own_stp a (own_stp a a))))
def own_u1 (y : Int64) : Int64 := ((y ^^^ own_sr y 31) ^^^ own_sr y 62) * own_inv own_C2
def own_u2 (y : Int64) : Int64 := ((own_u1 y ^^^ own_sr (own_u1 y) 27) ^^^ own_sr (own_u1 y) 54) * own_inv own_C1
def own_unmix (y : Int64) : Int64 := (own_u2 y ^^^ own_sr (own_u2 y) 30) ^^^ own_sr (own_u2 y) 60
theorem own_bits (x : BitVec 64) (k : Nat) (hk : 22 ≤ k) : ((x ^^^ (x >>> k)) ^^^ ((x ^^^ (x >>> k)) >>> k)) ^^^ ((x ^^^ (x >>> k)) >>> (k + k)) = x := by
  apply BitVec.eq_of_getLsbD_eq
  intro i hi
  simp only [BitVec.getLsbD_xor, BitVec.getLsbD_ushiftRight]
  rw [show k + (k + i) = k + k + i by omega, BitVec.getLsbD_of_ge x (k + (k + k + i)) (by omega)]
  cases x.getLsbD i <;> cases x.getLsbD (k + i) <;> cases x.getLsbD (k + k + i) <;> rfl
theorem own_x30 (x : Int64) : ((x ^^^ own_sr x 30) ^^^ own_sr (x ^^^ own_sr x 30) 30) ^^^ own_sr (x ^^^ own_sr x 30) 60 = x := by
  apply Int64.toBitVec_inj.mp
  exact own_bits x.toBitVec 30 (by decide)
theorem own_x27 (x : Int64) : ((x ^^^ own_sr x 27) ^^^ own_sr (x ^^^ own_sr x 27) 27) ^^^ own_sr (x ^^^ own_sr x 27) 54 = x := by
  apply Int64.toBitVec_inj.mp
  exact own_bits x.toBitVec 27 (by decide)
theorem own_x31 (x : Int64) : ((x ^^^ own_sr x 31) ^^^ own_sr (x ^^^ own_sr x 31) 31) ^^^ own_sr (x ^^^ own_sr x 31) 62 = x := by
  apply Int64.toBitVec_inj.mp
  exact own_bits x.toBitVec 31 (by decide)
theorem own_i1 : own_C1 * own_inv own_C1 = 1 := by decide +kernel
theorem own_i2 : own_C2 * own_inv own_C2 = 1 := by decide +kernel
theorem own_unmix_mix (z : Int64) : own_unmix (own_mix z) = z := by
  have h1 : own_u1 (own_mix z) = own_m1 z ^^^ own_sr (own_m1 z) 27 := by
    unfold own_u1 own_mix
    rw [own_x31, own_m2, Int64.mul_assoc, own_i2, Int64.mul_one]
  have h2 : own_u2 (own_mix z) = z ^^^ own_sr z 30 := by
    unfold own_u2
    rw [h1, own_x27, own_m1, Int64.mul_assoc, own_i1, Int64.mul_one]
  unfold own_unmix
  rw [h2, own_x30]

theorem d1_0 : decode prog_8_method_1_code 0 = .ok (.aload_n 0, 1) := by decide +kernel
theorem d1_1 : decode prog_8_method_1_code 1 = .ok (.invokespecial 1, 3) := by decide +kernel
theorem d1_4 : decode prog_8_method_1_code 4 = .ok (.aload_n 0, 1) := by decide +kernel
theorem d1_5 : decode prog_8_method_1_code 5 = .ok (.lload_n 1, 1) := by decide +kernel
theorem d1_6 : decode prog_8_method_1_code 6 = .ok (.putfield 7, 3) := by decide +kernel
theorem d1_9 : decode prog_8_method_1_code 9 = .ok (.return_, 1) := by decide +kernel
theorem pn_0 : plainName "com/example/wakasato/wakasato/search/SeededRandom" = true := by first | (simp [plainName, overriddenIn]; done) | decide +kernel
theorem ef_1 (m : MethodId) (o0 : Addr) (q1 : Int64) : entryFrame m #[(.ref o0), (.long q1)] 3 = mkF m 0 #[.val (.ref o0), .val (.long q1), .second] [] := by first | (simp [entryFrame, mkF, argsToLocals, Value.category]; done) | rfl

def Q1 (Z : State) (o0 : Addr) (q1 : Int64) (w : Int64) (h0 : Heap) (n0 : Nat) (v : Option Value) (h : Heap) (L : List Loc) : Prop := v = none ∧ Fr n0 L ∧ Keep h0 h [o0] ∧ (Fld Z h o0 "com/example/wakasato/wakasato/search/SeededRandom" "state" "J" (.long q1))
set_option maxRecDepth 65536 in
set_option maxHeartbeats 40000000 in
theorem rm1 (l : Launch) (Z : State) (a0 : Array Value) (hw : ∀ d ∈ tables_1, d.before a0 Z = true) (ws : List Jvm.Cond) (o0 : Addr) (q1 : Int64) (w : Int64) (h0 : Heap) (n0 : Nat) (Z0 : n0 ≤ h0.size) (F_state_o0 : Fld Z h0 o0 "com/example/wakasato/wakasato/search/SeededRandom" "state" "J" (.long w)) (E_o0 : Exa Z h0 o0 "com/example/wakasato/wakasato/search/SeededRandom") (g_o0 : n0 ≤ o0) :
    MetFree l (⟨"com/example/wakasato/wakasato/search/SeededRandom", "<init>", "(J)V"⟩ : MethodName) (head1 (Jvm.Cond.code (⟨"com/example/wakasato/wakasato/search/SeededRandom", "<init>", "(J)V"⟩ : MethodName) prog_8_method_1_code 3 none :: ws) ({ frames := 1, cells := 0, slots := 0, locals := 12 } : Room)) (fun a U => a = #[(.ref o0), (.long q1)] ∧ Z.Warmed39 U.vm ∧ U.heap = h0) (fun _ _ _ _ _ => True) (fun _ U o U' => ∃ v L, o = .returned v ∧ Q1 Z o0 q1 w h0 n0 v U'.heap L ∧ FrameEnd U o U' L ({ frames := 1, cells := 0, slots := 0, locals := 12 } : Room).cells ({ frames := 1, cells := 0, slots := 0, locals := 12 } : Room).slots) := by
  refine MetFree.of_bodySF (plainFor_of_name pn_0) hisR ?_
  intro p e s m args below meth c s₁ Bd hml0 hP hK
  obtain ⟨rfl, hZ, hh⟩ := hP
  have hx := Bd.exec
  have hby := Bd.bytes
  have hml : c.maxLocals = 3 := hml0
  have hown : s.vm.findClass "com/example/wakasato/wakasato/search/SeededRandom" = some m.cls := findClass_of_methodNamed Bd.named
  have hnm := (name_of_methodNamed Bd.named Bd.method).1
  have X0 : Stand p l e ({ frames := 1, cells := 0, slots := 0, locals := 12 } : Room) s m #[(.ref o0), (.long q1)] below meth c s₁ [] 0 0 := Stand.of_body Bd
  have e0 : s₁.heap = h0 := by rw [← hh, Bd.state]; rfl
  have N0 := Fr.nil n0
  have pre0 : ∀ t, Steps p.tables e below (s₁.setTop (mkF m 0 #[.val (.ref o0), .val (.long q1), .second] [])) t → Steps p.tables e below (s₁.setTop (entryFrame m #[(.ref o0), (.long q1)] 3)) t := fun t k => castTop (ef_1 m o0 q1) k
  obtain ⟨T1, X1, e1, st1⟩ := initO X0 hx hZ hown (hw _ (List.mem_of_getElem? (i := 6) rfl)) (hw _ (List.mem_of_getElem? (i := 7) rfl)) (hw _ (List.mem_of_getElem? (i := 8) rfl)) e0 (g := (mkF m 1 #[.val (.ref o0), .val (.long q1), .second] [(.ref o0)])) rfl (by rw [hml]; rfl) rfl (hb hby d1_1) (by decide) (W := 0) (by show 2 * 0 + _ ≤ _; exact Nat.le_of_eq rfl) (by decide)
  obtain ⟨T2, h2, X2, e2, W2, st2⟩ := putF X1 hx hZ hown (host := "") (Or.inl (hw _ (List.mem_of_getElem? (i := 9) rfl))) Via.refl e1 F_state_o0 E_o0 (Or.inl (hw _ (List.mem_of_getElem? (i := 10) rfl))) (hw _ (List.mem_of_getElem? (i := 1) rfl)) (ty := .long) (by decide) rfl rfl (g := (mkF m 6 #[.val (.ref o0), .val (.long q1), .second] [(.long q1), (.ref o0)])) rfl rfl (hb hby d1_6)
  have N2 := Fr.snoc X2 N0 g_o0
  have F_state_o0_w2 : Fld Z h2 o0 "com/example/wakasato/wakasato/search/SeededRandom" "state" "J" (.long q1) := (F_state_o0).same W2
  have E_o0_3 : Exa Z h2 o0 "com/example/wakasato/wakasato/search/SeededRandom" := (E_o0).wr W2
  have SZ4 : h0.size ≤ h2.size := by rw [W2.size]; exact (Nat.le_refl _)
  have ZZ4 : n0 ≤ h2.size := Nat.le_trans Z0 SZ4
  have K5 : Keep h0 h2 [o0] := ((Keep.refl h0 [o0])).wr W2 (Or.inl (List.mem_of_getElem? (i := 0) rfl))
  have pre6 : ∀ t, Steps p.tables e below (T2.setTop (mkF m 9 #[.val (.ref o0), .val (.long q1), .second] [])) t → Steps p.tables e below (s₁.setTop (entryFrame m #[(.ref o0), (.long q1)] 3)) t := fun t k => pre0 t (by
    show Steps p.tables e below (s₁.setTop (mkF m 0 #[.val (.ref o0), .val (.long q1), .second] [])) _
    refine XS.aloadN X0.here hx rfl (hb hby d1_0) rfl rfl ?_
    show Steps p.tables e below (s₁.setTop (mkF m 1 #[.val (.ref o0), .val (.long q1), .second] [(.ref o0)])) _
    refine st1 _ ?_
    show Steps p.tables e below (T1.setTop (mkF m 4 #[.val (.ref o0), .val (.long q1), .second] [])) _
    refine XS.aloadN X1.here hx rfl (hb hby d1_4) rfl rfl ?_
    show Steps p.tables e below (T1.setTop (mkF m 5 #[.val (.ref o0), .val (.long q1), .second] [(.ref o0)])) _
    refine XS.lloadN X1.here hx rfl (hb hby d1_5) rfl ?_
    show Steps p.tables e below (T1.setTop (mkF m 6 #[.val (.ref o0), .val (.long q1), .second] [(.long q1), (.ref o0)])) _
    refine st2 _ ?_
    show Steps p.tables e below (T2.setTop (mkF m 9 #[.val (.ref o0), .val (.long q1), .second] [])) _
    exact k)
  obtain ⟨fs, hr, hrun, hended, hW, hsame⟩ := X2.leave (v := none) (fun _ => rfl)
  refine ⟨_, _, pre6 _ ?_, hrun, hended, _, _, rfl, ?_, ⟨_, rfl⟩, hW, hsame.mono (by decide) (by decide)⟩
  · exact X2.returnOut hx Bd.returns (hb hby d1_9) hr
  · show Q1 Z o0 q1 w h0 n0 _ T2.heap _
    rw [e2]
    exact ⟨rfl, N2, K5, F_state_o0_w2⟩
theorem d3_0 : decode prog_8_method_3_code 0 = .ok (.aload_n 0, 1) := by decide +kernel
theorem d3_1 : decode prog_8_method_3_code 1 = .ok (.dup, 1) := by decide +kernel
theorem d3_2 : decode prog_8_method_3_code 2 = .ok (.getfield 7, 3) := by decide +kernel
theorem d3_5 : decode prog_8_method_3_code 5 = .ok (.ldc2_w 13, 3) := by decide +kernel
theorem d3_8 : decode prog_8_method_3_code 8 = .ok (.ladd, 1) := by decide +kernel
theorem d3_9 : decode prog_8_method_3_code 9 = .ok (.putfield 7, 3) := by decide +kernel
theorem d3_12 : decode prog_8_method_3_code 12 = .ok (.aload_n 0, 1) := by decide +kernel
theorem d3_13 : decode prog_8_method_3_code 13 = .ok (.getfield 7, 3) := by decide +kernel
theorem d3_16 : decode prog_8_method_3_code 16 = .ok (.lstore_n 1, 1) := by decide +kernel
theorem d3_17 : decode prog_8_method_3_code 17 = .ok (.lload_n 1, 1) := by decide +kernel
theorem d3_18 : decode prog_8_method_3_code 18 = .ok (.lload_n 1, 1) := by decide +kernel
theorem d3_19 : decode prog_8_method_3_code 19 = .ok (.bipush 30, 2) := by decide +kernel
theorem d3_21 : decode prog_8_method_3_code 21 = .ok (.lushr, 1) := by decide +kernel
theorem d3_22 : decode prog_8_method_3_code 22 = .ok (.lxor, 1) := by decide +kernel
theorem d3_23 : decode prog_8_method_3_code 23 = .ok (.ldc2_w 15, 3) := by decide +kernel
theorem d3_26 : decode prog_8_method_3_code 26 = .ok (.lmul, 1) := by decide +kernel
theorem d3_27 : decode prog_8_method_3_code 27 = .ok (.lstore_n 1, 1) := by decide +kernel
theorem d3_28 : decode prog_8_method_3_code 28 = .ok (.lload_n 1, 1) := by decide +kernel
theorem d3_29 : decode prog_8_method_3_code 29 = .ok (.lload_n 1, 1) := by decide +kernel
theorem d3_30 : decode prog_8_method_3_code 30 = .ok (.bipush 27, 2) := by decide +kernel
theorem d3_32 : decode prog_8_method_3_code 32 = .ok (.lushr, 1) := by decide +kernel
theorem d3_33 : decode prog_8_method_3_code 33 = .ok (.lxor, 1) := by decide +kernel
theorem d3_34 : decode prog_8_method_3_code 34 = .ok (.ldc2_w 17, 3) := by decide +kernel
theorem d3_37 : decode prog_8_method_3_code 37 = .ok (.lmul, 1) := by decide +kernel
theorem d3_38 : decode prog_8_method_3_code 38 = .ok (.lstore_n 1, 1) := by decide +kernel
theorem d3_39 : decode prog_8_method_3_code 39 = .ok (.lload_n 1, 1) := by decide +kernel
theorem d3_40 : decode prog_8_method_3_code 40 = .ok (.lload_n 1, 1) := by decide +kernel
theorem d3_41 : decode prog_8_method_3_code 41 = .ok (.bipush 31, 2) := by decide +kernel
theorem d3_43 : decode prog_8_method_3_code 43 = .ok (.lushr, 1) := by decide +kernel
theorem d3_44 : decode prog_8_method_3_code 44 = .ok (.lxor, 1) := by decide +kernel
theorem d3_45 : decode prog_8_method_3_code 45 = .ok (.lreturn, 1) := by decide +kernel
theorem ef_3 (m : MethodId) (o0 : Addr) : entryFrame m #[(.ref o0)] 3 = mkF m 0 #[.val (.ref o0), .unset, .unset] [] := by first | (simp [entryFrame, mkF, argsToLocals, Value.category]; done) | rfl
def f3_27 (w : Int64) : Int64 := (((w + (-7046029254386353131 : Int64)) ^^^ (((w + (-7046029254386353131 : Int64)).toUInt64 >>> ((30 : Int32) &&& 0x3f).toInt64.toUInt64).toInt64)) * (-4658895280553007687 : Int64))
def f3_38 (w : Int64) : Int64 := (((f3_27 w) ^^^ (((f3_27 w).toUInt64 >>> ((27 : Int32) &&& 0x3f).toInt64.toUInt64).toInt64)) * (-7723592293110705685 : Int64))

def Q3 (Z : State) (o0 : Addr) (w : Int64) (h0 : Heap) (n0 : Nat) (v : Option Value) (h : Heap) (L : List Loc) : Prop := v = some (.long (own_mix (w + (-7046029254386353131 : Int64)))) ∧ Fr n0 L ∧ Keep h0 h [o0] ∧ (Fld Z h o0 "com/example/wakasato/wakasato/search/SeededRandom" "state" "J" (.long (w + (-7046029254386353131 : Int64))))
set_option maxRecDepth 65536 in
set_option maxHeartbeats 40000000 in
theorem rm3 (l : Launch) (Z : State) (a0 : Array Value) (hw : ∀ d ∈ tables_1, d.before a0 Z = true) (ws : List Jvm.Cond) (o0 : Addr) (w : Int64) (h0 : Heap) (n0 : Nat) (Z0 : n0 ≤ h0.size) (F_state_o0 : Fld Z h0 o0 "com/example/wakasato/wakasato/search/SeededRandom" "state" "J" (.long w)) (E_o0 : Exa Z h0 o0 "com/example/wakasato/wakasato/search/SeededRandom") (g_o0 : n0 ≤ o0) :
    MetFree l (⟨"com/example/wakasato/wakasato/search/SeededRandom", "nextLong", "()J"⟩ : MethodName) (head1 (Jvm.Cond.code (⟨"com/example/wakasato/wakasato/search/SeededRandom", "nextLong", "()J"⟩ : MethodName) prog_8_method_3_code 3 (some .long) :: ws) ({ frames := 0, cells := 0, slots := 0, locals := 0 } : Room)) (fun a U => a = #[(.ref o0)] ∧ Z.Warmed39 U.vm ∧ U.heap = h0) (fun _ _ _ _ _ => True) (fun _ U o U' => ∃ v L, o = .returned v ∧ Q3 Z o0 w h0 n0 v U'.heap L ∧ FrameEnd U o U' L ({ frames := 0, cells := 0, slots := 0, locals := 0 } : Room).cells ({ frames := 0, cells := 0, slots := 0, locals := 0 } : Room).slots) := by
  refine MetFree.of_bodySF (plainFor_of_name pn_0) hisR ?_
  intro p e s m args below meth c s₁ Bd hml0 hP hK
  obtain ⟨rfl, hZ, hh⟩ := hP
  have hx := Bd.exec
  have hby := Bd.bytes
  have hml : c.maxLocals = 3 := hml0
  have hown : s.vm.findClass "com/example/wakasato/wakasato/search/SeededRandom" = some m.cls := findClass_of_methodNamed Bd.named
  have hnm := (name_of_methodNamed Bd.named Bd.method).1
  have X0 : Stand p l e ({ frames := 0, cells := 0, slots := 0, locals := 0 } : Room) s m #[(.ref o0)] below meth c s₁ [] 0 0 := Stand.of_body Bd
  have e0 : s₁.heap = h0 := by rw [← hh, Bd.state]; rfl
  have N0 := Fr.nil n0
  have pre0 : ∀ t, Steps p.tables e below (s₁.setTop (mkF m 0 #[.val (.ref o0), .unset, .unset] [])) t → Steps p.tables e below (s₁.setTop (entryFrame m #[(.ref o0)] 3)) t := fun t k => castTop (ef_3 m o0) k
  obtain ⟨T1, X1, e1, st1⟩ := getF X0 hx hZ hown (host := "") (Or.inl (hw _ (List.mem_of_getElem? (i := 9) rfl))) Via.refl e0 F_state_o0 (g := (mkF m 2 #[.val (.ref o0), .unset, .unset] [(.ref o0), (.ref o0)])) rfl rfl (hb hby d3_2)
  obtain ⟨T2, h2, X2, e2, W2, st2⟩ := putF X1 hx hZ hown (host := "") (Or.inl (hw _ (List.mem_of_getElem? (i := 9) rfl))) Via.refl e1 F_state_o0 E_o0 (Or.inl (hw _ (List.mem_of_getElem? (i := 10) rfl))) (hw _ (List.mem_of_getElem? (i := 1) rfl)) (ty := .long) (by decide) rfl rfl (g := (mkF m 9 #[.val (.ref o0), .unset, .unset] [(.long (w + (-7046029254386353131 : Int64))), (.ref o0)])) rfl rfl (hb hby d3_9)
  have N2 := Fr.snoc X2 N0 g_o0
  have F_state_o0_w2 : Fld Z h2 o0 "com/example/wakasato/wakasato/search/SeededRandom" "state" "J" (.long (w + (-7046029254386353131 : Int64))) := (F_state_o0).same W2
  have E_o0_3 : Exa Z h2 o0 "com/example/wakasato/wakasato/search/SeededRandom" := (E_o0).wr W2
  have SZ4 : h0.size ≤ h2.size := by rw [W2.size]; exact (Nat.le_refl _)
  have ZZ4 : n0 ≤ h2.size := Nat.le_trans Z0 SZ4
  have K5 : Keep h0 h2 [o0] := ((Keep.refl h0 [o0])).wr W2 (Or.inl (List.mem_of_getElem? (i := 0) rfl))
  obtain ⟨T6, X6, e6, st6⟩ := getF X2 hx hZ hown (host := "") (Or.inl (hw _ (List.mem_of_getElem? (i := 9) rfl))) Via.refl e2 F_state_o0_w2 (g := (mkF m 13 #[.val (.ref o0), .unset, .unset] [(.ref o0)])) rfl rfl (hb hby d3_13)
  have pre7 : ∀ t, Steps p.tables e below (T6.setTop (mkF m 45 #[.val (.ref o0), .val (.long (f3_38 w)), .second] [(.long ((f3_38 w) ^^^ (((f3_38 w).toUInt64 >>> ((31 : Int32) &&& 0x3f).toInt64.toUInt64).toInt64)))])) t → Steps p.tables e below (s₁.setTop (entryFrame m #[(.ref o0)] 3)) t := fun t k => pre0 t (by
    show Steps p.tables e below (s₁.setTop (mkF m 0 #[.val (.ref o0), .unset, .unset] [])) _
    refine XS.aloadN X0.here hx rfl (hb hby d3_0) rfl rfl ?_
    show Steps p.tables e below (s₁.setTop (mkF m 1 #[.val (.ref o0), .unset, .unset] [(.ref o0)])) _
    refine XS.dup X0.here hx rfl (hb hby d3_1) rfl rfl ?_
    show Steps p.tables e below (s₁.setTop (mkF m 2 #[.val (.ref o0), .unset, .unset] [(.ref o0), (.ref o0)])) _
    refine st1 _ ?_
    show Steps p.tables e below (T1.setTop (mkF m 5 #[.val (.ref o0), .unset, .unset] [(.long w), (.ref o0)])) _
    refine X1.ldc2Long hx hown (mvT hZ (hw _ (List.mem_of_getElem? (i := 17) rfl))) (g := (mkF m 5 #[.val (.ref o0), .unset, .unset] [(.long w), (.ref o0)])) rfl (hb hby d3_5) _ ?_
    show Steps p.tables e below (T1.setTop (mkF m 8 #[.val (.ref o0), .unset, .unset] [(.long (-7046029254386353131 : Int64)), (.long w), (.ref o0)])) _
    refine XS.ladd X1.here hx rfl (hb hby d3_8) rfl ?_
    show Steps p.tables e below (T1.setTop (mkF m 9 #[.val (.ref o0), .unset, .unset] [(.long (w + (-7046029254386353131 : Int64))), (.ref o0)])) _
    refine st2 _ ?_
    show Steps p.tables e below (T2.setTop (mkF m 12 #[.val (.ref o0), .unset, .unset] [])) _
    refine XS.aloadN X2.here hx rfl (hb hby d3_12) rfl rfl ?_
    show Steps p.tables e below (T2.setTop (mkF m 13 #[.val (.ref o0), .unset, .unset] [(.ref o0)])) _
    refine st6 _ ?_
    show Steps p.tables e below (T6.setTop (mkF m 16 #[.val (.ref o0), .unset, .unset] [(.long (w + (-7046029254386353131 : Int64)))])) _
    refine XS.lstoreN X6.here hx rfl (hb hby d3_16) rfl (l' := #[.val (.ref o0), .val (.long (w + (-7046029254386353131 : Int64))), .second]) rfl ?_
    show Steps p.tables e below (T6.setTop (mkF m 17 #[.val (.ref o0), .val (.long (w + (-7046029254386353131 : Int64))), .second] [])) _
    refine XS.lloadN X6.here hx rfl (hb hby d3_17) rfl ?_
    show Steps p.tables e below (T6.setTop (mkF m 18 #[.val (.ref o0), .val (.long (w + (-7046029254386353131 : Int64))), .second] [(.long (w + (-7046029254386353131 : Int64)))])) _
    refine XS.lloadN X6.here hx rfl (hb hby d3_18) rfl ?_
    show Steps p.tables e below (T6.setTop (mkF m 19 #[.val (.ref o0), .val (.long (w + (-7046029254386353131 : Int64))), .second] [(.long (w + (-7046029254386353131 : Int64))), (.long (w + (-7046029254386353131 : Int64)))])) _
    refine XS.bipush X6.here hx rfl (hb hby d3_19) ?_
    show Steps p.tables e below (T6.setTop (mkF m 21 #[.val (.ref o0), .val (.long (w + (-7046029254386353131 : Int64))), .second] [(.int (30 : Int32)), (.long (w + (-7046029254386353131 : Int64))), (.long (w + (-7046029254386353131 : Int64)))])) _
    refine XS.lushr X6.here hx rfl (hb hby d3_21) rfl ?_
    show Steps p.tables e below (T6.setTop (mkF m 22 #[.val (.ref o0), .val (.long (w + (-7046029254386353131 : Int64))), .second] [(.long (((w + (-7046029254386353131 : Int64)).toUInt64 >>> ((30 : Int32) &&& 0x3f).toInt64.toUInt64).toInt64)), (.long (w + (-7046029254386353131 : Int64)))])) _
    refine XS.lxor X6.here hx rfl (hb hby d3_22) rfl ?_
    show Steps p.tables e below (T6.setTop (mkF m 23 #[.val (.ref o0), .val (.long (w + (-7046029254386353131 : Int64))), .second] [(.long ((w + (-7046029254386353131 : Int64)) ^^^ (((w + (-7046029254386353131 : Int64)).toUInt64 >>> ((30 : Int32) &&& 0x3f).toInt64.toUInt64).toInt64)))])) _
    refine X6.ldc2Long hx hown (mvT hZ (hw _ (List.mem_of_getElem? (i := 18) rfl))) (g := (mkF m 23 #[.val (.ref o0), .val (.long (w + (-7046029254386353131 : Int64))), .second] [(.long ((w + (-7046029254386353131 : Int64)) ^^^ (((w + (-7046029254386353131 : Int64)).toUInt64 >>> ((30 : Int32) &&& 0x3f).toInt64.toUInt64).toInt64)))])) rfl (hb hby d3_23) _ ?_
    show Steps p.tables e below (T6.setTop (mkF m 26 #[.val (.ref o0), .val (.long (w + (-7046029254386353131 : Int64))), .second] [(.long (-4658895280553007687 : Int64)), (.long ((w + (-7046029254386353131 : Int64)) ^^^ (((w + (-7046029254386353131 : Int64)).toUInt64 >>> ((30 : Int32) &&& 0x3f).toInt64.toUInt64).toInt64)))])) _
    refine XS.lmul X6.here hx rfl (hb hby d3_26) rfl ?_
    show Steps p.tables e below (T6.setTop (mkF m 27 #[.val (.ref o0), .val (.long (w + (-7046029254386353131 : Int64))), .second] [(.long (((w + (-7046029254386353131 : Int64)) ^^^ (((w + (-7046029254386353131 : Int64)).toUInt64 >>> ((30 : Int32) &&& 0x3f).toInt64.toUInt64).toInt64)) * (-4658895280553007687 : Int64)))])) _
    refine XS.lstoreN X6.here hx rfl (hb hby d3_27) rfl (l' := #[.val (.ref o0), .val (.long (f3_27 w)), .second]) rfl ?_
    show Steps p.tables e below (T6.setTop (mkF m 28 #[.val (.ref o0), .val (.long (f3_27 w)), .second] [])) _
    refine XS.lloadN X6.here hx rfl (hb hby d3_28) rfl ?_
    show Steps p.tables e below (T6.setTop (mkF m 29 #[.val (.ref o0), .val (.long (f3_27 w)), .second] [(.long (f3_27 w))])) _
    refine XS.lloadN X6.here hx rfl (hb hby d3_29) rfl ?_
    show Steps p.tables e below (T6.setTop (mkF m 30 #[.val (.ref o0), .val (.long (f3_27 w)), .second] [(.long (f3_27 w)), (.long (f3_27 w))])) _
    refine XS.bipush X6.here hx rfl (hb hby d3_30) ?_
    show Steps p.tables e below (T6.setTop (mkF m 32 #[.val (.ref o0), .val (.long (f3_27 w)), .second] [(.int (27 : Int32)), (.long (f3_27 w)), (.long (f3_27 w))])) _
    refine XS.lushr X6.here hx rfl (hb hby d3_32) rfl ?_
    show Steps p.tables e below (T6.setTop (mkF m 33 #[.val (.ref o0), .val (.long (f3_27 w)), .second] [(.long (((f3_27 w).toUInt64 >>> ((27 : Int32) &&& 0x3f).toInt64.toUInt64).toInt64)), (.long (f3_27 w))])) _
    refine XS.lxor X6.here hx rfl (hb hby d3_33) rfl ?_
    show Steps p.tables e below (T6.setTop (mkF m 34 #[.val (.ref o0), .val (.long (f3_27 w)), .second] [(.long ((f3_27 w) ^^^ (((f3_27 w).toUInt64 >>> ((27 : Int32) &&& 0x3f).toInt64.toUInt64).toInt64)))])) _
    refine X6.ldc2Long hx hown (mvT hZ (hw _ (List.mem_of_getElem? (i := 19) rfl))) (g := (mkF m 34 #[.val (.ref o0), .val (.long (f3_27 w)), .second] [(.long ((f3_27 w) ^^^ (((f3_27 w).toUInt64 >>> ((27 : Int32) &&& 0x3f).toInt64.toUInt64).toInt64)))])) rfl (hb hby d3_34) _ ?_
    show Steps p.tables e below (T6.setTop (mkF m 37 #[.val (.ref o0), .val (.long (f3_27 w)), .second] [(.long (-7723592293110705685 : Int64)), (.long ((f3_27 w) ^^^ (((f3_27 w).toUInt64 >>> ((27 : Int32) &&& 0x3f).toInt64.toUInt64).toInt64)))])) _
    refine XS.lmul X6.here hx rfl (hb hby d3_37) rfl ?_
    show Steps p.tables e below (T6.setTop (mkF m 38 #[.val (.ref o0), .val (.long (f3_27 w)), .second] [(.long (((f3_27 w) ^^^ (((f3_27 w).toUInt64 >>> ((27 : Int32) &&& 0x3f).toInt64.toUInt64).toInt64)) * (-7723592293110705685 : Int64)))])) _
    refine XS.lstoreN X6.here hx rfl (hb hby d3_38) rfl (l' := #[.val (.ref o0), .val (.long (f3_38 w)), .second]) rfl ?_
    show Steps p.tables e below (T6.setTop (mkF m 39 #[.val (.ref o0), .val (.long (f3_38 w)), .second] [])) _
    refine XS.lloadN X6.here hx rfl (hb hby d3_39) rfl ?_
    show Steps p.tables e below (T6.setTop (mkF m 40 #[.val (.ref o0), .val (.long (f3_38 w)), .second] [(.long (f3_38 w))])) _
    refine XS.lloadN X6.here hx rfl (hb hby d3_40) rfl ?_
    show Steps p.tables e below (T6.setTop (mkF m 41 #[.val (.ref o0), .val (.long (f3_38 w)), .second] [(.long (f3_38 w)), (.long (f3_38 w))])) _
    refine XS.bipush X6.here hx rfl (hb hby d3_41) ?_
    show Steps p.tables e below (T6.setTop (mkF m 43 #[.val (.ref o0), .val (.long (f3_38 w)), .second] [(.int (31 : Int32)), (.long (f3_38 w)), (.long (f3_38 w))])) _
    refine XS.lushr X6.here hx rfl (hb hby d3_43) rfl ?_
    show Steps p.tables e below (T6.setTop (mkF m 44 #[.val (.ref o0), .val (.long (f3_38 w)), .second] [(.long (((f3_38 w).toUInt64 >>> ((31 : Int32) &&& 0x3f).toInt64.toUInt64).toInt64)), (.long (f3_38 w))])) _
    refine XS.lxor X6.here hx rfl (hb hby d3_44) rfl ?_
    show Steps p.tables e below (T6.setTop (mkF m 45 #[.val (.ref o0), .val (.long (f3_38 w)), .second] [(.long ((f3_38 w) ^^^ (((f3_38 w).toUInt64 >>> ((31 : Int32) &&& 0x3f).toInt64.toUInt64).toInt64)))])) _
    exact k)
  obtain ⟨fs, hr, hrun, hended, hW, hsame⟩ := X6.leave (v := some (.long ((f3_38 w) ^^^ (((f3_38 w).toUInt64 >>> ((31 : Int32) &&& 0x3f).toInt64.toUInt64).toInt64)))) (fun h => by rw [Bd.returns] at h; cases h)
  refine ⟨_, _, pre7 _ ?_, hrun, hended, _, _, rfl, ?_, ⟨_, rfl⟩, hW, hsame.mono (by decide) (by decide)⟩
  · exact retOut X6 hx Bd.returns rfl (Or.inr (Or.inl ⟨rfl, rfl, _, rfl⟩)) (hb hby d3_45) hr
  · show Q3 Z o0 w h0 n0 _ T6.heap _
    rw [e6]
    exact ⟨rfl, N2, K5, F_state_o0_w2⟩
theorem d4_0 : decode prog_8_method_2_code 0 = .ok (.aload_n 0, 1) := by decide +kernel
theorem d4_1 : decode prog_8_method_2_code 1 = .ok (.getfield 7, 3) := by decide +kernel
theorem d4_4 : decode prog_8_method_2_code 4 = .ok (.lreturn, 1) := by decide +kernel
theorem ef_4 (m : MethodId) (o0 : Addr) : entryFrame m #[(.ref o0)] 1 = mkF m 0 #[.val (.ref o0)] [] := by first | (simp [entryFrame, mkF, argsToLocals, Value.category]; done) | rfl

def Q4 (Z : State) (o0 : Addr) (w : Int64) (h0 : Heap) (n0 : Nat) (v : Option Value) (h : Heap) (L : List Loc) : Prop := v = some (.long w) ∧ Fr n0 L ∧ h = h0
set_option maxRecDepth 65536 in
set_option maxHeartbeats 40000000 in
theorem rm4 (l : Launch) (Z : State) (a0 : Array Value) (hw : ∀ d ∈ tables_1, d.before a0 Z = true) (ws : List Jvm.Cond) (o0 : Addr) (w : Int64) (h0 : Heap) (n0 : Nat) (Z0 : n0 ≤ h0.size) (F_state_o0 : Fld Z h0 o0 "com/example/wakasato/wakasato/search/SeededRandom" "state" "J" (.long w)) :
    MetFree l (⟨"com/example/wakasato/wakasato/search/SeededRandom", "state", "()J"⟩ : MethodName) (head1 (Jvm.Cond.code (⟨"com/example/wakasato/wakasato/search/SeededRandom", "state", "()J"⟩ : MethodName) prog_8_method_2_code 1 (some .long) :: ws) ({ frames := 0, cells := 0, slots := 0, locals := 0 } : Room)) (fun a U => a = #[(.ref o0)] ∧ Z.Warmed39 U.vm ∧ U.heap = h0) (fun _ _ _ _ _ => True) (fun _ U o U' => ∃ v L, o = .returned v ∧ Q4 Z o0 w h0 n0 v U'.heap L ∧ FrameEnd U o U' L ({ frames := 0, cells := 0, slots := 0, locals := 0 } : Room).cells ({ frames := 0, cells := 0, slots := 0, locals := 0 } : Room).slots) := by
  refine MetFree.of_bodySF (plainFor_of_name pn_0) hisR ?_
  intro p e s m args below meth c s₁ Bd hml0 hP hK
  obtain ⟨rfl, hZ, hh⟩ := hP
  have hx := Bd.exec
  have hby := Bd.bytes
  have hml : c.maxLocals = 1 := hml0
  have hown : s.vm.findClass "com/example/wakasato/wakasato/search/SeededRandom" = some m.cls := findClass_of_methodNamed Bd.named
  have hnm := (name_of_methodNamed Bd.named Bd.method).1
  have X0 : Stand p l e ({ frames := 0, cells := 0, slots := 0, locals := 0 } : Room) s m #[(.ref o0)] below meth c s₁ [] 0 0 := Stand.of_body Bd
  have e0 : s₁.heap = h0 := by rw [← hh, Bd.state]; rfl
  have N0 := Fr.nil n0
  have pre0 : ∀ t, Steps p.tables e below (s₁.setTop (mkF m 0 #[.val (.ref o0)] [])) t → Steps p.tables e below (s₁.setTop (entryFrame m #[(.ref o0)] 1)) t := fun t k => castTop (ef_4 m o0) k
  obtain ⟨T1, X1, e1, st1⟩ := getF X0 hx hZ hown (host := "") (Or.inl (hw _ (List.mem_of_getElem? (i := 9) rfl))) Via.refl e0 F_state_o0 (g := (mkF m 1 #[.val (.ref o0)] [(.ref o0)])) rfl rfl (hb hby d4_1)
  have pre2 : ∀ t, Steps p.tables e below (T1.setTop (mkF m 4 #[.val (.ref o0)] [(.long w)])) t → Steps p.tables e below (s₁.setTop (entryFrame m #[(.ref o0)] 1)) t := fun t k => pre0 t (by
    show Steps p.tables e below (s₁.setTop (mkF m 0 #[.val (.ref o0)] [])) _
    refine XS.aloadN X0.here hx rfl (hb hby d4_0) rfl rfl ?_
    show Steps p.tables e below (s₁.setTop (mkF m 1 #[.val (.ref o0)] [(.ref o0)])) _
    refine st1 _ ?_
    show Steps p.tables e below (T1.setTop (mkF m 4 #[.val (.ref o0)] [(.long w)])) _
    exact k)
  obtain ⟨fs, hr, hrun, hended, hW, hsame⟩ := X1.leave (v := some (.long w)) (fun h => by rw [Bd.returns] at h; cases h)
  refine ⟨_, _, pre2 _ ?_, hrun, hended, _, _, rfl, ?_, ⟨_, rfl⟩, hW, hsame.mono (by decide) (by decide)⟩
  · exact retOut X1 hx Bd.returns rfl (Or.inr (Or.inl ⟨rfl, rfl, _, rfl⟩)) (hb hby d4_4) hr
  · show Q4 Z o0 w h0 n0 _ T1.heap _
    rw [e1]
    exact ⟨rfl, N0, rfl⟩
theorem d6_0 : decode method_2_code 0 = .ok (.lload_n 0, 1) := by decide +kernel
theorem d6_1 : decode method_2_code 1 = .ok (.lstore_n 2, 1) := by decide +kernel
theorem d6_2 : decode method_2_code 2 = .ok (.lload_n 2, 1) := by decide +kernel
theorem d6_3 : decode method_2_code 3 = .ok (.ldc2_w 7, 3) := by decide +kernel
theorem d6_6 : decode method_2_code 6 = .ok (.lload_n 0, 1) := by decide +kernel
theorem d6_7 : decode method_2_code 7 = .ok (.lload_n 2, 1) := by decide +kernel
theorem d6_8 : decode method_2_code 8 = .ok (.lmul, 1) := by decide +kernel
theorem d6_9 : decode method_2_code 9 = .ok (.lsub, 1) := by decide +kernel
theorem d6_10 : decode method_2_code 10 = .ok (.lmul, 1) := by decide +kernel
theorem d6_11 : decode method_2_code 11 = .ok (.lstore_n 2, 1) := by decide +kernel
theorem d6_12 : decode method_2_code 12 = .ok (.lload_n 2, 1) := by decide +kernel
theorem d6_13 : decode method_2_code 13 = .ok (.ldc2_w 7, 3) := by decide +kernel
theorem d6_16 : decode method_2_code 16 = .ok (.lload_n 0, 1) := by decide +kernel
theorem d6_17 : decode method_2_code 17 = .ok (.lload_n 2, 1) := by decide +kernel
theorem d6_18 : decode method_2_code 18 = .ok (.lmul, 1) := by decide +kernel
theorem d6_19 : decode method_2_code 19 = .ok (.lsub, 1) := by decide +kernel
theorem d6_20 : decode method_2_code 20 = .ok (.lmul, 1) := by decide +kernel
theorem d6_21 : decode method_2_code 21 = .ok (.lstore_n 2, 1) := by decide +kernel
theorem d6_22 : decode method_2_code 22 = .ok (.lload_n 2, 1) := by decide +kernel
theorem d6_23 : decode method_2_code 23 = .ok (.ldc2_w 7, 3) := by decide +kernel
theorem d6_26 : decode method_2_code 26 = .ok (.lload_n 0, 1) := by decide +kernel
theorem d6_27 : decode method_2_code 27 = .ok (.lload_n 2, 1) := by decide +kernel
theorem d6_28 : decode method_2_code 28 = .ok (.lmul, 1) := by decide +kernel
theorem d6_29 : decode method_2_code 29 = .ok (.lsub, 1) := by decide +kernel
theorem d6_30 : decode method_2_code 30 = .ok (.lmul, 1) := by decide +kernel
theorem d6_31 : decode method_2_code 31 = .ok (.lstore_n 2, 1) := by decide +kernel
theorem d6_32 : decode method_2_code 32 = .ok (.lload_n 2, 1) := by decide +kernel
theorem d6_33 : decode method_2_code 33 = .ok (.ldc2_w 7, 3) := by decide +kernel
theorem d6_36 : decode method_2_code 36 = .ok (.lload_n 0, 1) := by decide +kernel
theorem d6_37 : decode method_2_code 37 = .ok (.lload_n 2, 1) := by decide +kernel
theorem d6_38 : decode method_2_code 38 = .ok (.lmul, 1) := by decide +kernel
theorem d6_39 : decode method_2_code 39 = .ok (.lsub, 1) := by decide +kernel
theorem d6_40 : decode method_2_code 40 = .ok (.lmul, 1) := by decide +kernel
theorem d6_41 : decode method_2_code 41 = .ok (.lstore_n 2, 1) := by decide +kernel
theorem d6_42 : decode method_2_code 42 = .ok (.lload_n 2, 1) := by decide +kernel
theorem d6_43 : decode method_2_code 43 = .ok (.ldc2_w 7, 3) := by decide +kernel
theorem d6_46 : decode method_2_code 46 = .ok (.lload_n 0, 1) := by decide +kernel
theorem d6_47 : decode method_2_code 47 = .ok (.lload_n 2, 1) := by decide +kernel
theorem d6_48 : decode method_2_code 48 = .ok (.lmul, 1) := by decide +kernel
theorem d6_49 : decode method_2_code 49 = .ok (.lsub, 1) := by decide +kernel
theorem d6_50 : decode method_2_code 50 = .ok (.lmul, 1) := by decide +kernel
theorem d6_51 : decode method_2_code 51 = .ok (.lstore_n 2, 1) := by decide +kernel
theorem d6_52 : decode method_2_code 52 = .ok (.lload_n 2, 1) := by decide +kernel
theorem d6_53 : decode method_2_code 53 = .ok (.lreturn, 1) := by decide +kernel
theorem pn_1 : plainName "com/example/wakasato/wakasato/search/SeededRandomNextLongPinLaw" = true := by first | (simp [plainName, overriddenIn]; done) | decide +kernel
theorem ef_6 (m : MethodId) (q0 : Int64) : entryFrame m #[(.long q0)] 4 = mkF m 0 #[.val (.long q0), .second, .unset, .unset] [] := by first | (simp [entryFrame, mkF, argsToLocals, Value.category]; done) | rfl
def f6_21 (q0 : Int64) : Int64 := ((q0 * ((2 : Int64) - (q0 * q0))) * ((2 : Int64) - (q0 * (q0 * ((2 : Int64) - (q0 * q0))))))
def f6_31 (q0 : Int64) : Int64 := ((f6_21 q0) * ((2 : Int64) - (q0 * (f6_21 q0))))
def f6_41 (q0 : Int64) : Int64 := ((f6_31 q0) * ((2 : Int64) - (q0 * (f6_31 q0))))
def f6_51 (q0 : Int64) : Int64 := ((f6_41 q0) * ((2 : Int64) - (q0 * (f6_41 q0))))
def f6_ret (q0 : Int64) : Int64 := (f6_51 q0)

def Q6 (Z : State) (q0 : Int64) (h0 : Heap) (n0 : Nat) (v : Option Value) (h : Heap) (L : List Loc) : Prop := v = some (.long (f6_ret q0)) ∧ Fr n0 L ∧ h = h0
set_option maxRecDepth 65536 in
set_option maxHeartbeats 40000000 in
theorem rm6 (l : Launch) (Z : State) (a0 : Array Value) (hw : ∀ d ∈ tables_1, d.before a0 Z = true) (ws : List Jvm.Cond) (q0 : Int64) (h0 : Heap) (n0 : Nat) (Z0 : n0 ≤ h0.size)  :
    MetFree l (⟨"com/example/wakasato/wakasato/search/SeededRandomNextLongPinLaw", "inv", "(J)J"⟩ : MethodName) (head1 (Jvm.Cond.code (⟨"com/example/wakasato/wakasato/search/SeededRandomNextLongPinLaw", "inv", "(J)J"⟩ : MethodName) method_2_code 4 (some .long) :: ws) ({ frames := 0, cells := 0, slots := 0, locals := 0 } : Room)) (fun a U => a = #[(.long q0)] ∧ Z.Warmed39 U.vm ∧ U.heap = h0) (fun _ _ _ _ _ => True) (fun _ U o U' => ∃ v L, o = .returned v ∧ Q6 Z q0 h0 n0 v U'.heap L ∧ FrameEnd U o U' L ({ frames := 0, cells := 0, slots := 0, locals := 0 } : Room).cells ({ frames := 0, cells := 0, slots := 0, locals := 0 } : Room).slots) := by
  refine MetFree.of_bodySF (plainFor_of_name pn_1) hisR ?_
  intro p e s m args below meth c s₁ Bd hml0 hP hK
  obtain ⟨rfl, hZ, hh⟩ := hP
  have hx := Bd.exec
  have hby := Bd.bytes
  have hml : c.maxLocals = 4 := hml0
  have hown : s.vm.findClass "com/example/wakasato/wakasato/search/SeededRandomNextLongPinLaw" = some m.cls := findClass_of_methodNamed Bd.named
  have hnm := (name_of_methodNamed Bd.named Bd.method).1
  have X0 : Stand p l e ({ frames := 0, cells := 0, slots := 0, locals := 0 } : Room) s m #[(.long q0)] below meth c s₁ [] 0 0 := Stand.of_body Bd
  have e0 : s₁.heap = h0 := by rw [← hh, Bd.state]; rfl
  have N0 := Fr.nil n0
  have pre0 : ∀ t, Steps p.tables e below (s₁.setTop (mkF m 0 #[.val (.long q0), .second, .unset, .unset] [])) t → Steps p.tables e below (s₁.setTop (entryFrame m #[(.long q0)] 4)) t := fun t k => castTop (ef_6 m q0) k
  have pre1 : ∀ t, Steps p.tables e below (s₁.setTop (mkF m 53 #[.val (.long q0), .second, .val (.long (f6_51 q0)), .second] [(.long (f6_51 q0))])) t → Steps p.tables e below (s₁.setTop (entryFrame m #[(.long q0)] 4)) t := fun t k => pre0 t (by
    show Steps p.tables e below (s₁.setTop (mkF m 0 #[.val (.long q0), .second, .unset, .unset] [])) _
    refine XS.lloadN X0.here hx rfl (hb hby d6_0) rfl ?_
    show Steps p.tables e below (s₁.setTop (mkF m 1 #[.val (.long q0), .second, .unset, .unset] [(.long q0)])) _
    refine XS.lstoreN X0.here hx rfl (hb hby d6_1) rfl (l' := #[.val (.long q0), .second, .val (.long q0), .second]) rfl ?_
    show Steps p.tables e below (s₁.setTop (mkF m 2 #[.val (.long q0), .second, .val (.long q0), .second] [])) _
    refine XS.lloadN X0.here hx rfl (hb hby d6_2) rfl ?_
    show Steps p.tables e below (s₁.setTop (mkF m 3 #[.val (.long q0), .second, .val (.long q0), .second] [(.long q0)])) _
    refine X0.ldc2Long hx hown (mvT hZ (hw _ (List.mem_of_getElem? (i := 33) rfl))) (g := (mkF m 3 #[.val (.long q0), .second, .val (.long q0), .second] [(.long q0)])) rfl (hb hby d6_3) _ ?_
    show Steps p.tables e below (s₁.setTop (mkF m 6 #[.val (.long q0), .second, .val (.long q0), .second] [(.long (2 : Int64)), (.long q0)])) _
    refine XS.lloadN X0.here hx rfl (hb hby d6_6) rfl ?_
    show Steps p.tables e below (s₁.setTop (mkF m 7 #[.val (.long q0), .second, .val (.long q0), .second] [(.long q0), (.long (2 : Int64)), (.long q0)])) _
    refine XS.lloadN X0.here hx rfl (hb hby d6_7) rfl ?_
    show Steps p.tables e below (s₁.setTop (mkF m 8 #[.val (.long q0), .second, .val (.long q0), .second] [(.long q0), (.long q0), (.long (2 : Int64)), (.long q0)])) _
    refine XS.lmul X0.here hx rfl (hb hby d6_8) rfl ?_
    show Steps p.tables e below (s₁.setTop (mkF m 9 #[.val (.long q0), .second, .val (.long q0), .second] [(.long (q0 * q0)), (.long (2 : Int64)), (.long q0)])) _
    refine XS.lsub X0.here hx rfl (hb hby d6_9) rfl ?_
    show Steps p.tables e below (s₁.setTop (mkF m 10 #[.val (.long q0), .second, .val (.long q0), .second] [(.long ((2 : Int64) - (q0 * q0))), (.long q0)])) _
    refine XS.lmul X0.here hx rfl (hb hby d6_10) rfl ?_
    show Steps p.tables e below (s₁.setTop (mkF m 11 #[.val (.long q0), .second, .val (.long q0), .second] [(.long (q0 * ((2 : Int64) - (q0 * q0))))])) _
    refine XS.lstoreN X0.here hx rfl (hb hby d6_11) rfl (l' := #[.val (.long q0), .second, .val (.long (q0 * ((2 : Int64) - (q0 * q0)))), .second]) rfl ?_
    show Steps p.tables e below (s₁.setTop (mkF m 12 #[.val (.long q0), .second, .val (.long (q0 * ((2 : Int64) - (q0 * q0)))), .second] [])) _
    refine XS.lloadN X0.here hx rfl (hb hby d6_12) rfl ?_
    show Steps p.tables e below (s₁.setTop (mkF m 13 #[.val (.long q0), .second, .val (.long (q0 * ((2 : Int64) - (q0 * q0)))), .second] [(.long (q0 * ((2 : Int64) - (q0 * q0))))])) _
    refine X0.ldc2Long hx hown (mvT hZ (hw _ (List.mem_of_getElem? (i := 33) rfl))) (g := (mkF m 13 #[.val (.long q0), .second, .val (.long (q0 * ((2 : Int64) - (q0 * q0)))), .second] [(.long (q0 * ((2 : Int64) - (q0 * q0))))])) rfl (hb hby d6_13) _ ?_
    show Steps p.tables e below (s₁.setTop (mkF m 16 #[.val (.long q0), .second, .val (.long (q0 * ((2 : Int64) - (q0 * q0)))), .second] [(.long (2 : Int64)), (.long (q0 * ((2 : Int64) - (q0 * q0))))])) _
    refine XS.lloadN X0.here hx rfl (hb hby d6_16) rfl ?_
    show Steps p.tables e below (s₁.setTop (mkF m 17 #[.val (.long q0), .second, .val (.long (q0 * ((2 : Int64) - (q0 * q0)))), .second] [(.long q0), (.long (2 : Int64)), (.long (q0 * ((2 : Int64) - (q0 * q0))))])) _
    refine XS.lloadN X0.here hx rfl (hb hby d6_17) rfl ?_
    show Steps p.tables e below (s₁.setTop (mkF m 18 #[.val (.long q0), .second, .val (.long (q0 * ((2 : Int64) - (q0 * q0)))), .second] [(.long (q0 * ((2 : Int64) - (q0 * q0)))), (.long q0), (.long (2 : Int64)), (.long (q0 * ((2 : Int64) - (q0 * q0))))])) _
    refine XS.lmul X0.here hx rfl (hb hby d6_18) rfl ?_
    show Steps p.tables e below (s₁.setTop (mkF m 19 #[.val (.long q0), .second, .val (.long (q0 * ((2 : Int64) - (q0 * q0)))), .second] [(.long (q0 * (q0 * ((2 : Int64) - (q0 * q0))))), (.long (2 : Int64)), (.long (q0 * ((2 : Int64) - (q0 * q0))))])) _
    refine XS.lsub X0.here hx rfl (hb hby d6_19) rfl ?_
    show Steps p.tables e below (s₁.setTop (mkF m 20 #[.val (.long q0), .second, .val (.long (q0 * ((2 : Int64) - (q0 * q0)))), .second] [(.long ((2 : Int64) - (q0 * (q0 * ((2 : Int64) - (q0 * q0)))))), (.long (q0 * ((2 : Int64) - (q0 * q0))))])) _
    refine XS.lmul X0.here hx rfl (hb hby d6_20) rfl ?_
    show Steps p.tables e below (s₁.setTop (mkF m 21 #[.val (.long q0), .second, .val (.long (q0 * ((2 : Int64) - (q0 * q0)))), .second] [(.long ((q0 * ((2 : Int64) - (q0 * q0))) * ((2 : Int64) - (q0 * (q0 * ((2 : Int64) - (q0 * q0)))))))])) _
    refine XS.lstoreN X0.here hx rfl (hb hby d6_21) rfl (l' := #[.val (.long q0), .second, .val (.long (f6_21 q0)), .second]) rfl ?_
    show Steps p.tables e below (s₁.setTop (mkF m 22 #[.val (.long q0), .second, .val (.long (f6_21 q0)), .second] [])) _
    refine XS.lloadN X0.here hx rfl (hb hby d6_22) rfl ?_
    show Steps p.tables e below (s₁.setTop (mkF m 23 #[.val (.long q0), .second, .val (.long (f6_21 q0)), .second] [(.long (f6_21 q0))])) _
    refine X0.ldc2Long hx hown (mvT hZ (hw _ (List.mem_of_getElem? (i := 33) rfl))) (g := (mkF m 23 #[.val (.long q0), .second, .val (.long (f6_21 q0)), .second] [(.long (f6_21 q0))])) rfl (hb hby d6_23) _ ?_
    show Steps p.tables e below (s₁.setTop (mkF m 26 #[.val (.long q0), .second, .val (.long (f6_21 q0)), .second] [(.long (2 : Int64)), (.long (f6_21 q0))])) _
    refine XS.lloadN X0.here hx rfl (hb hby d6_26) rfl ?_
    show Steps p.tables e below (s₁.setTop (mkF m 27 #[.val (.long q0), .second, .val (.long (f6_21 q0)), .second] [(.long q0), (.long (2 : Int64)), (.long (f6_21 q0))])) _
    refine XS.lloadN X0.here hx rfl (hb hby d6_27) rfl ?_
    show Steps p.tables e below (s₁.setTop (mkF m 28 #[.val (.long q0), .second, .val (.long (f6_21 q0)), .second] [(.long (f6_21 q0)), (.long q0), (.long (2 : Int64)), (.long (f6_21 q0))])) _
    refine XS.lmul X0.here hx rfl (hb hby d6_28) rfl ?_
    show Steps p.tables e below (s₁.setTop (mkF m 29 #[.val (.long q0), .second, .val (.long (f6_21 q0)), .second] [(.long (q0 * (f6_21 q0))), (.long (2 : Int64)), (.long (f6_21 q0))])) _
    refine XS.lsub X0.here hx rfl (hb hby d6_29) rfl ?_
    show Steps p.tables e below (s₁.setTop (mkF m 30 #[.val (.long q0), .second, .val (.long (f6_21 q0)), .second] [(.long ((2 : Int64) - (q0 * (f6_21 q0)))), (.long (f6_21 q0))])) _
    refine XS.lmul X0.here hx rfl (hb hby d6_30) rfl ?_
    show Steps p.tables e below (s₁.setTop (mkF m 31 #[.val (.long q0), .second, .val (.long (f6_21 q0)), .second] [(.long ((f6_21 q0) * ((2 : Int64) - (q0 * (f6_21 q0)))))])) _
    refine XS.lstoreN X0.here hx rfl (hb hby d6_31) rfl (l' := #[.val (.long q0), .second, .val (.long (f6_31 q0)), .second]) rfl ?_
    show Steps p.tables e below (s₁.setTop (mkF m 32 #[.val (.long q0), .second, .val (.long (f6_31 q0)), .second] [])) _
    refine XS.lloadN X0.here hx rfl (hb hby d6_32) rfl ?_
    show Steps p.tables e below (s₁.setTop (mkF m 33 #[.val (.long q0), .second, .val (.long (f6_31 q0)), .second] [(.long (f6_31 q0))])) _
    refine X0.ldc2Long hx hown (mvT hZ (hw _ (List.mem_of_getElem? (i := 33) rfl))) (g := (mkF m 33 #[.val (.long q0), .second, .val (.long (f6_31 q0)), .second] [(.long (f6_31 q0))])) rfl (hb hby d6_33) _ ?_
    show Steps p.tables e below (s₁.setTop (mkF m 36 #[.val (.long q0), .second, .val (.long (f6_31 q0)), .second] [(.long (2 : Int64)), (.long (f6_31 q0))])) _
    refine XS.lloadN X0.here hx rfl (hb hby d6_36) rfl ?_
    show Steps p.tables e below (s₁.setTop (mkF m 37 #[.val (.long q0), .second, .val (.long (f6_31 q0)), .second] [(.long q0), (.long (2 : Int64)), (.long (f6_31 q0))])) _
    refine XS.lloadN X0.here hx rfl (hb hby d6_37) rfl ?_
    show Steps p.tables e below (s₁.setTop (mkF m 38 #[.val (.long q0), .second, .val (.long (f6_31 q0)), .second] [(.long (f6_31 q0)), (.long q0), (.long (2 : Int64)), (.long (f6_31 q0))])) _
    refine XS.lmul X0.here hx rfl (hb hby d6_38) rfl ?_
    show Steps p.tables e below (s₁.setTop (mkF m 39 #[.val (.long q0), .second, .val (.long (f6_31 q0)), .second] [(.long (q0 * (f6_31 q0))), (.long (2 : Int64)), (.long (f6_31 q0))])) _
    refine XS.lsub X0.here hx rfl (hb hby d6_39) rfl ?_
    show Steps p.tables e below (s₁.setTop (mkF m 40 #[.val (.long q0), .second, .val (.long (f6_31 q0)), .second] [(.long ((2 : Int64) - (q0 * (f6_31 q0)))), (.long (f6_31 q0))])) _
    refine XS.lmul X0.here hx rfl (hb hby d6_40) rfl ?_
    show Steps p.tables e below (s₁.setTop (mkF m 41 #[.val (.long q0), .second, .val (.long (f6_31 q0)), .second] [(.long ((f6_31 q0) * ((2 : Int64) - (q0 * (f6_31 q0)))))])) _
    refine XS.lstoreN X0.here hx rfl (hb hby d6_41) rfl (l' := #[.val (.long q0), .second, .val (.long (f6_41 q0)), .second]) rfl ?_
    show Steps p.tables e below (s₁.setTop (mkF m 42 #[.val (.long q0), .second, .val (.long (f6_41 q0)), .second] [])) _
    refine XS.lloadN X0.here hx rfl (hb hby d6_42) rfl ?_
    show Steps p.tables e below (s₁.setTop (mkF m 43 #[.val (.long q0), .second, .val (.long (f6_41 q0)), .second] [(.long (f6_41 q0))])) _
    refine X0.ldc2Long hx hown (mvT hZ (hw _ (List.mem_of_getElem? (i := 33) rfl))) (g := (mkF m 43 #[.val (.long q0), .second, .val (.long (f6_41 q0)), .second] [(.long (f6_41 q0))])) rfl (hb hby d6_43) _ ?_
    show Steps p.tables e below (s₁.setTop (mkF m 46 #[.val (.long q0), .second, .val (.long (f6_41 q0)), .second] [(.long (2 : Int64)), (.long (f6_41 q0))])) _
    refine XS.lloadN X0.here hx rfl (hb hby d6_46) rfl ?_
    show Steps p.tables e below (s₁.setTop (mkF m 47 #[.val (.long q0), .second, .val (.long (f6_41 q0)), .second] [(.long q0), (.long (2 : Int64)), (.long (f6_41 q0))])) _
    refine XS.lloadN X0.here hx rfl (hb hby d6_47) rfl ?_
    show Steps p.tables e below (s₁.setTop (mkF m 48 #[.val (.long q0), .second, .val (.long (f6_41 q0)), .second] [(.long (f6_41 q0)), (.long q0), (.long (2 : Int64)), (.long (f6_41 q0))])) _
    refine XS.lmul X0.here hx rfl (hb hby d6_48) rfl ?_
    show Steps p.tables e below (s₁.setTop (mkF m 49 #[.val (.long q0), .second, .val (.long (f6_41 q0)), .second] [(.long (q0 * (f6_41 q0))), (.long (2 : Int64)), (.long (f6_41 q0))])) _
    refine XS.lsub X0.here hx rfl (hb hby d6_49) rfl ?_
    show Steps p.tables e below (s₁.setTop (mkF m 50 #[.val (.long q0), .second, .val (.long (f6_41 q0)), .second] [(.long ((2 : Int64) - (q0 * (f6_41 q0)))), (.long (f6_41 q0))])) _
    refine XS.lmul X0.here hx rfl (hb hby d6_50) rfl ?_
    show Steps p.tables e below (s₁.setTop (mkF m 51 #[.val (.long q0), .second, .val (.long (f6_41 q0)), .second] [(.long ((f6_41 q0) * ((2 : Int64) - (q0 * (f6_41 q0)))))])) _
    refine XS.lstoreN X0.here hx rfl (hb hby d6_51) rfl (l' := #[.val (.long q0), .second, .val (.long (f6_51 q0)), .second]) rfl ?_
    show Steps p.tables e below (s₁.setTop (mkF m 52 #[.val (.long q0), .second, .val (.long (f6_51 q0)), .second] [])) _
    refine XS.lloadN X0.here hx rfl (hb hby d6_52) rfl ?_
    show Steps p.tables e below (s₁.setTop (mkF m 53 #[.val (.long q0), .second, .val (.long (f6_51 q0)), .second] [(.long (f6_51 q0))])) _
    exact k)
  obtain ⟨fs, hr, hrun, hended, hW, hsame⟩ := X0.leave (v := some (.long (f6_51 q0))) (fun h => by rw [Bd.returns] at h; cases h)
  refine ⟨_, _, pre1 _ ?_, hrun, hended, _, _, rfl, ?_, ⟨_, rfl⟩, hW, hsame.mono (by decide) (by decide)⟩
  · exact retOut X0 hx Bd.returns rfl (Or.inr (Or.inl ⟨rfl, rfl, _, rfl⟩)) (hb hby d6_53) hr
  · show Q6 Z q0 h0 n0 _ s₁.heap _
    rw [e0]
    exact ⟨rfl, N0, rfl⟩
theorem d5_0 : decode method_3_code 0 = .ok (.lload_n 0, 1) := by decide +kernel
theorem d5_1 : decode method_3_code 1 = .ok (.lload_n 0, 1) := by decide +kernel
theorem d5_2 : decode method_3_code 2 = .ok (.bipush 31, 2) := by decide +kernel
theorem d5_4 : decode method_3_code 4 = .ok (.lushr, 1) := by decide +kernel
theorem d5_5 : decode method_3_code 5 = .ok (.lxor, 1) := by decide +kernel
theorem d5_6 : decode method_3_code 6 = .ok (.lload_n 0, 1) := by decide +kernel
theorem d5_7 : decode method_3_code 7 = .ok (.bipush 62, 2) := by decide +kernel
theorem d5_9 : decode method_3_code 9 = .ok (.lushr, 1) := by decide +kernel
theorem d5_10 : decode method_3_code 10 = .ok (.lxor, 1) := by decide +kernel
theorem d5_11 : decode method_3_code 11 = .ok (.lstore_n 2, 1) := by decide +kernel
theorem d5_12 : decode method_3_code 12 = .ok (.lload_n 2, 1) := by decide +kernel
theorem d5_13 : decode method_3_code 13 = .ok (.ldc2_w 11, 3) := by decide +kernel
theorem d5_16 : decode method_3_code 16 = .ok (.invokestatic 13, 3) := by decide +kernel
theorem d5_19 : decode method_3_code 19 = .ok (.lmul, 1) := by decide +kernel
theorem d5_20 : decode method_3_code 20 = .ok (.lstore 4, 2) := by decide +kernel
theorem d5_22 : decode method_3_code 22 = .ok (.lload 4, 2) := by decide +kernel
theorem d5_24 : decode method_3_code 24 = .ok (.lload 4, 2) := by decide +kernel
theorem d5_26 : decode method_3_code 26 = .ok (.bipush 27, 2) := by decide +kernel
theorem d5_28 : decode method_3_code 28 = .ok (.lushr, 1) := by decide +kernel
theorem d5_29 : decode method_3_code 29 = .ok (.lxor, 1) := by decide +kernel
theorem d5_30 : decode method_3_code 30 = .ok (.lload 4, 2) := by decide +kernel
theorem d5_32 : decode method_3_code 32 = .ok (.bipush 54, 2) := by decide +kernel
theorem d5_34 : decode method_3_code 34 = .ok (.lushr, 1) := by decide +kernel
theorem d5_35 : decode method_3_code 35 = .ok (.lxor, 1) := by decide +kernel
theorem d5_36 : decode method_3_code 36 = .ok (.lstore 6, 2) := by decide +kernel
theorem d5_38 : decode method_3_code 38 = .ok (.lload 6, 2) := by decide +kernel
theorem d5_40 : decode method_3_code 40 = .ok (.ldc2_w 17, 3) := by decide +kernel
theorem d5_43 : decode method_3_code 43 = .ok (.invokestatic 13, 3) := by decide +kernel
theorem d5_46 : decode method_3_code 46 = .ok (.lmul, 1) := by decide +kernel
theorem d5_47 : decode method_3_code 47 = .ok (.lstore 8, 2) := by decide +kernel
theorem d5_49 : decode method_3_code 49 = .ok (.lload 8, 2) := by decide +kernel
theorem d5_51 : decode method_3_code 51 = .ok (.lload 8, 2) := by decide +kernel
theorem d5_53 : decode method_3_code 53 = .ok (.bipush 30, 2) := by decide +kernel
theorem d5_55 : decode method_3_code 55 = .ok (.lushr, 1) := by decide +kernel
theorem d5_56 : decode method_3_code 56 = .ok (.lxor, 1) := by decide +kernel
theorem d5_57 : decode method_3_code 57 = .ok (.lload 8, 2) := by decide +kernel
theorem d5_59 : decode method_3_code 59 = .ok (.bipush 60, 2) := by decide +kernel
theorem d5_61 : decode method_3_code 61 = .ok (.lushr, 1) := by decide +kernel
theorem d5_62 : decode method_3_code 62 = .ok (.lxor, 1) := by decide +kernel
theorem d5_63 : decode method_3_code 63 = .ok (.lreturn, 1) := by decide +kernel
theorem pd_0 : parseMethodDescriptor "(J)J" = some ⟨[.long], some .long⟩ := by decide +kernel
theorem ef_5 (m : MethodId) (q0 : Int64) : entryFrame m #[(.long q0)] 10 = mkF m 0 #[.val (.long q0), .second, .unset, .unset, .unset, .unset, .unset, .unset, .unset, .unset] [] := by first | (simp [entryFrame, mkF, argsToLocals, Value.category]; done) | rfl
def f5_11 (q0 : Int64) : Int64 := ((q0 ^^^ ((q0.toUInt64 >>> ((31 : Int32) &&& 0x3f).toInt64.toUInt64).toInt64)) ^^^ ((q0.toUInt64 >>> ((62 : Int32) &&& 0x3f).toInt64.toUInt64).toInt64))
def f5_20 (q0 : Int64) : Int64 := ((f5_11 q0) * (f6_ret (-7723592293110705685 : Int64)))
def f5_36 (q0 : Int64) : Int64 := (((f5_20 q0) ^^^ (((f5_20 q0).toUInt64 >>> ((27 : Int32) &&& 0x3f).toInt64.toUInt64).toInt64)) ^^^ (((f5_20 q0).toUInt64 >>> ((54 : Int32) &&& 0x3f).toInt64.toUInt64).toInt64))
def f5_47 (q0 : Int64) : Int64 := ((f5_36 q0) * (f6_ret (-4658895280553007687 : Int64)))
def f5_ret (q0 : Int64) : Int64 := (((f5_47 q0) ^^^ (((f5_47 q0).toUInt64 >>> ((30 : Int32) &&& 0x3f).toInt64.toUInt64).toInt64)) ^^^ (((f5_47 q0).toUInt64 >>> ((60 : Int32) &&& 0x3f).toInt64.toUInt64).toInt64))

def Q5 (Z : State) (q0 : Int64) (h0 : Heap) (n0 : Nat) (v : Option Value) (h : Heap) (L : List Loc) : Prop := v = some (.long (f5_ret q0)) ∧ Fr n0 L ∧ h = h0
set_option maxRecDepth 65536 in
set_option maxHeartbeats 40000000 in
theorem rm5 (l : Launch) (Z : State) (a0 : Array Value) (hw : ∀ d ∈ tables_1, d.before a0 Z = true) (ws : List Jvm.Cond) (q0 : Int64) (h0 : Heap) (n0 : Nat) (Z0 : n0 ≤ h0.size)  :
    MetFree l (⟨"com/example/wakasato/wakasato/search/SeededRandomNextLongPinLaw", "unmix", "(J)J"⟩ : MethodName) (head1 (Jvm.Cond.code (⟨"com/example/wakasato/wakasato/search/SeededRandomNextLongPinLaw", "unmix", "(J)J"⟩ : MethodName) method_3_code 10 (some .long) :: ws) ({ frames := 1, cells := 0, slots := 0, locals := 17 } : Room)) (fun a U => a = #[(.long q0)] ∧ Z.Warmed39 U.vm ∧ U.heap = h0) (fun _ _ _ _ _ => True) (fun _ U o U' => ∃ v L, o = .returned v ∧ Q5 Z q0 h0 n0 v U'.heap L ∧ FrameEnd U o U' L ({ frames := 1, cells := 0, slots := 0, locals := 17 } : Room).cells ({ frames := 1, cells := 0, slots := 0, locals := 17 } : Room).slots) := by
  refine MetFree.of_bodySF (plainFor_of_name pn_1) hisR ?_
  intro p e s m args below meth c s₁ Bd hml0 hP hK
  obtain ⟨rfl, hZ, hh⟩ := hP
  have hx := Bd.exec
  have hby := Bd.bytes
  have hml : c.maxLocals = 10 := hml0
  have hown : s.vm.findClass "com/example/wakasato/wakasato/search/SeededRandomNextLongPinLaw" = some m.cls := findClass_of_methodNamed Bd.named
  have hnm := (name_of_methodNamed Bd.named Bd.method).1
  have X0 : Stand p l e ({ frames := 1, cells := 0, slots := 0, locals := 17 } : Room) s m #[(.long q0)] below meth c s₁ [] 0 0 := Stand.of_body Bd
  have e0 : s₁.heap = h0 := by rw [← hh, Bd.state]; rfl
  have N0 := Fr.nil n0
  have pre0 : ∀ t, Steps p.tables e below (s₁.setTop (mkF m 0 #[.val (.long q0), .second, .unset, .unset, .unset, .unset, .unset, .unset, .unset, .unset] [])) t → Steps p.tables e below (s₁.setTop (entryFrame m #[(.long q0)] 10)) t := fun t k => castTop (ef_5 m q0) k
  obtain ⟨_, _, ⟨T1, L1, k1, n1⟩, -, X1, ⟨Lc1, hQ1, l1, y1, z1⟩, st1⟩ := Jvm.LawKit.callS X0 hx (y := (⟨"com/example/wakasato/wakasato/search/SeededRandomNextLongPinLaw", "inv", "(J)J"⟩ : MethodName)) hown (mvT hZ (hw _ (List.mem_of_getElem? (i := 30) rfl))) (mvT hZ (hw _ (List.mem_of_getElem? (i := 31) rfl))) (mvT hZ (hw _ (List.mem_of_getElem? (i := 27) rfl))) (mvT hZ (hw _ (List.mem_of_getElem? (i := 32) rfl))) (by decide) (backOf (W := 2) (rm6 l Z a0 hw [] (-7723592293110705685 : Int64) h0 n0 Z0) hZ (hw _ (List.mem_of_getElem? (i := 32) rfl)) (hw _ (List.mem_of_getElem? (i := 27) rfl)) (by decide) (by decide)) (g := (mkF m 16 #[.val (.long q0), .second, .val (.long (f5_11 q0)), .second, .unset, .unset, .unset, .unset, .unset, .unset] [(.long (-7723592293110705685 : Int64)), (.long (f5_11 q0))])) rfl (by rw [hml]; rfl) (argsL := [(.long (-7723592293110705685 : Int64))]) (rest := [(.long (f5_11 q0))]) (lenOf pd_0 rfl) rfl (by show 2 * 0 + _ ≤ _; exact Nat.le_of_eq rfl) (hb hby d5_16) (fun _ _ => ⟨rfl, e0, (by decide : 0 + 0 ≤ _), (by decide : 0 + 0 ≤ _)⟩)
  dsimp only [Pt.U, Pt.locs, Pt.cells, Pt.slots] at X1 l1 y1 z1 st1 hQ1
  subst l1 y1 z1
  obtain ⟨rfl, N1q, hh1⟩ := hQ1
  have N1 := Fr.app N0 N1q
  obtain ⟨_, _, ⟨T2, L2, k2, n2⟩, -, X2, ⟨Lc2, hQ2, l2, y2, z2⟩, st2⟩ := Jvm.LawKit.callS X1 hx (y := (⟨"com/example/wakasato/wakasato/search/SeededRandomNextLongPinLaw", "inv", "(J)J"⟩ : MethodName)) hown (mvT hZ (hw _ (List.mem_of_getElem? (i := 30) rfl))) (mvT hZ (hw _ (List.mem_of_getElem? (i := 31) rfl))) (mvT hZ (hw _ (List.mem_of_getElem? (i := 27) rfl))) (mvT hZ (hw _ (List.mem_of_getElem? (i := 32) rfl))) (by decide) (backOf (W := 2) (rm6 l Z a0 hw [] (-4658895280553007687 : Int64) h0 n0 Z0) hZ (hw _ (List.mem_of_getElem? (i := 32) rfl)) (hw _ (List.mem_of_getElem? (i := 27) rfl)) (by decide) (by decide)) (g := (mkF m 43 #[.val (.long q0), .second, .val (.long (f5_11 q0)), .second, .val (.long (f5_20 q0)), .second, .val (.long (f5_36 q0)), .second, .unset, .unset] [(.long (-4658895280553007687 : Int64)), (.long (f5_36 q0))])) rfl (by rw [hml]; rfl) (argsL := [(.long (-4658895280553007687 : Int64))]) (rest := [(.long (f5_36 q0))]) (lenOf pd_0 rfl) rfl (by show 2 * 0 + _ ≤ _; exact Nat.le_of_eq rfl) (hb hby d5_43) (fun _ _ => ⟨rfl, hh1, (by decide : 0 + 0 ≤ _), (by decide : 0 + 0 ≤ _)⟩)
  dsimp only [Pt.U, Pt.locs, Pt.cells, Pt.slots] at X2 l2 y2 z2 st2 hQ2
  subst l2 y2 z2
  obtain ⟨rfl, N2q, hh2⟩ := hQ2
  have N2 := Fr.app N1 N2q
  have pre3 : ∀ t, Steps p.tables e below (T2.setTop (mkF m 63 #[.val (.long q0), .second, .val (.long (f5_11 q0)), .second, .val (.long (f5_20 q0)), .second, .val (.long (f5_36 q0)), .second, .val (.long (f5_47 q0)), .second] [(.long (((f5_47 q0) ^^^ (((f5_47 q0).toUInt64 >>> ((30 : Int32) &&& 0x3f).toInt64.toUInt64).toInt64)) ^^^ (((f5_47 q0).toUInt64 >>> ((60 : Int32) &&& 0x3f).toInt64.toUInt64).toInt64)))])) t → Steps p.tables e below (s₁.setTop (entryFrame m #[(.long q0)] 10)) t := fun t k => pre0 t (by
    show Steps p.tables e below (s₁.setTop (mkF m 0 #[.val (.long q0), .second, .unset, .unset, .unset, .unset, .unset, .unset, .unset, .unset] [])) _
    refine XS.lloadN X0.here hx rfl (hb hby d5_0) rfl ?_
    show Steps p.tables e below (s₁.setTop (mkF m 1 #[.val (.long q0), .second, .unset, .unset, .unset, .unset, .unset, .unset, .unset, .unset] [(.long q0)])) _
    refine XS.lloadN X0.here hx rfl (hb hby d5_1) rfl ?_
    show Steps p.tables e below (s₁.setTop (mkF m 2 #[.val (.long q0), .second, .unset, .unset, .unset, .unset, .unset, .unset, .unset, .unset] [(.long q0), (.long q0)])) _
    refine XS.bipush X0.here hx rfl (hb hby d5_2) ?_
    show Steps p.tables e below (s₁.setTop (mkF m 4 #[.val (.long q0), .second, .unset, .unset, .unset, .unset, .unset, .unset, .unset, .unset] [(.int (31 : Int32)), (.long q0), (.long q0)])) _
    refine XS.lushr X0.here hx rfl (hb hby d5_4) rfl ?_
    show Steps p.tables e below (s₁.setTop (mkF m 5 #[.val (.long q0), .second, .unset, .unset, .unset, .unset, .unset, .unset, .unset, .unset] [(.long ((q0.toUInt64 >>> ((31 : Int32) &&& 0x3f).toInt64.toUInt64).toInt64)), (.long q0)])) _
    refine XS.lxor X0.here hx rfl (hb hby d5_5) rfl ?_
    show Steps p.tables e below (s₁.setTop (mkF m 6 #[.val (.long q0), .second, .unset, .unset, .unset, .unset, .unset, .unset, .unset, .unset] [(.long (q0 ^^^ ((q0.toUInt64 >>> ((31 : Int32) &&& 0x3f).toInt64.toUInt64).toInt64)))])) _
    refine XS.lloadN X0.here hx rfl (hb hby d5_6) rfl ?_
    show Steps p.tables e below (s₁.setTop (mkF m 7 #[.val (.long q0), .second, .unset, .unset, .unset, .unset, .unset, .unset, .unset, .unset] [(.long q0), (.long (q0 ^^^ ((q0.toUInt64 >>> ((31 : Int32) &&& 0x3f).toInt64.toUInt64).toInt64)))])) _
    refine XS.bipush X0.here hx rfl (hb hby d5_7) ?_
    show Steps p.tables e below (s₁.setTop (mkF m 9 #[.val (.long q0), .second, .unset, .unset, .unset, .unset, .unset, .unset, .unset, .unset] [(.int (62 : Int32)), (.long q0), (.long (q0 ^^^ ((q0.toUInt64 >>> ((31 : Int32) &&& 0x3f).toInt64.toUInt64).toInt64)))])) _
    refine XS.lushr X0.here hx rfl (hb hby d5_9) rfl ?_
    show Steps p.tables e below (s₁.setTop (mkF m 10 #[.val (.long q0), .second, .unset, .unset, .unset, .unset, .unset, .unset, .unset, .unset] [(.long ((q0.toUInt64 >>> ((62 : Int32) &&& 0x3f).toInt64.toUInt64).toInt64)), (.long (q0 ^^^ ((q0.toUInt64 >>> ((31 : Int32) &&& 0x3f).toInt64.toUInt64).toInt64)))])) _
    refine XS.lxor X0.here hx rfl (hb hby d5_10) rfl ?_
    show Steps p.tables e below (s₁.setTop (mkF m 11 #[.val (.long q0), .second, .unset, .unset, .unset, .unset, .unset, .unset, .unset, .unset] [(.long ((q0 ^^^ ((q0.toUInt64 >>> ((31 : Int32) &&& 0x3f).toInt64.toUInt64).toInt64)) ^^^ ((q0.toUInt64 >>> ((62 : Int32) &&& 0x3f).toInt64.toUInt64).toInt64)))])) _
    refine XS.lstoreN X0.here hx rfl (hb hby d5_11) rfl (l' := #[.val (.long q0), .second, .val (.long (f5_11 q0)), .second, .unset, .unset, .unset, .unset, .unset, .unset]) rfl ?_
    show Steps p.tables e below (s₁.setTop (mkF m 12 #[.val (.long q0), .second, .val (.long (f5_11 q0)), .second, .unset, .unset, .unset, .unset, .unset, .unset] [])) _
    refine XS.lloadN X0.here hx rfl (hb hby d5_12) rfl ?_
    show Steps p.tables e below (s₁.setTop (mkF m 13 #[.val (.long q0), .second, .val (.long (f5_11 q0)), .second, .unset, .unset, .unset, .unset, .unset, .unset] [(.long (f5_11 q0))])) _
    refine X0.ldc2Long hx hown (mvT hZ (hw _ (List.mem_of_getElem? (i := 29) rfl))) (g := (mkF m 13 #[.val (.long q0), .second, .val (.long (f5_11 q0)), .second, .unset, .unset, .unset, .unset, .unset, .unset] [(.long (f5_11 q0))])) rfl (hb hby d5_13) _ ?_
    show Steps p.tables e below (s₁.setTop (mkF m 16 #[.val (.long q0), .second, .val (.long (f5_11 q0)), .second, .unset, .unset, .unset, .unset, .unset, .unset] [(.long (-7723592293110705685 : Int64)), (.long (f5_11 q0))])) _
    refine st1 _ ?_
    show Steps p.tables e below (T1.setTop (mkF m 19 #[.val (.long q0), .second, .val (.long (f5_11 q0)), .second, .unset, .unset, .unset, .unset, .unset, .unset] [(.long (f6_ret (-7723592293110705685 : Int64))), (.long (f5_11 q0))])) _
    refine XS.lmul X1.here hx rfl (hb hby d5_19) rfl ?_
    show Steps p.tables e below (T1.setTop (mkF m 20 #[.val (.long q0), .second, .val (.long (f5_11 q0)), .second, .unset, .unset, .unset, .unset, .unset, .unset] [(.long ((f5_11 q0) * (f6_ret (-7723592293110705685 : Int64))))])) _
    refine XS.lstore X1.here hx rfl (hb hby d5_20) rfl (l' := #[.val (.long q0), .second, .val (.long (f5_11 q0)), .second, .val (.long (f5_20 q0)), .second, .unset, .unset, .unset, .unset]) rfl ?_
    show Steps p.tables e below (T1.setTop (mkF m 22 #[.val (.long q0), .second, .val (.long (f5_11 q0)), .second, .val (.long (f5_20 q0)), .second, .unset, .unset, .unset, .unset] [])) _
    refine XS.lload X1.here hx rfl (hb hby d5_22) rfl ?_
    show Steps p.tables e below (T1.setTop (mkF m 24 #[.val (.long q0), .second, .val (.long (f5_11 q0)), .second, .val (.long (f5_20 q0)), .second, .unset, .unset, .unset, .unset] [(.long (f5_20 q0))])) _
    refine XS.lload X1.here hx rfl (hb hby d5_24) rfl ?_
    show Steps p.tables e below (T1.setTop (mkF m 26 #[.val (.long q0), .second, .val (.long (f5_11 q0)), .second, .val (.long (f5_20 q0)), .second, .unset, .unset, .unset, .unset] [(.long (f5_20 q0)), (.long (f5_20 q0))])) _
    refine XS.bipush X1.here hx rfl (hb hby d5_26) ?_
    show Steps p.tables e below (T1.setTop (mkF m 28 #[.val (.long q0), .second, .val (.long (f5_11 q0)), .second, .val (.long (f5_20 q0)), .second, .unset, .unset, .unset, .unset] [(.int (27 : Int32)), (.long (f5_20 q0)), (.long (f5_20 q0))])) _
    refine XS.lushr X1.here hx rfl (hb hby d5_28) rfl ?_
    show Steps p.tables e below (T1.setTop (mkF m 29 #[.val (.long q0), .second, .val (.long (f5_11 q0)), .second, .val (.long (f5_20 q0)), .second, .unset, .unset, .unset, .unset] [(.long (((f5_20 q0).toUInt64 >>> ((27 : Int32) &&& 0x3f).toInt64.toUInt64).toInt64)), (.long (f5_20 q0))])) _
    refine XS.lxor X1.here hx rfl (hb hby d5_29) rfl ?_
    show Steps p.tables e below (T1.setTop (mkF m 30 #[.val (.long q0), .second, .val (.long (f5_11 q0)), .second, .val (.long (f5_20 q0)), .second, .unset, .unset, .unset, .unset] [(.long ((f5_20 q0) ^^^ (((f5_20 q0).toUInt64 >>> ((27 : Int32) &&& 0x3f).toInt64.toUInt64).toInt64)))])) _
    refine XS.lload X1.here hx rfl (hb hby d5_30) rfl ?_
    show Steps p.tables e below (T1.setTop (mkF m 32 #[.val (.long q0), .second, .val (.long (f5_11 q0)), .second, .val (.long (f5_20 q0)), .second, .unset, .unset, .unset, .unset] [(.long (f5_20 q0)), (.long ((f5_20 q0) ^^^ (((f5_20 q0).toUInt64 >>> ((27 : Int32) &&& 0x3f).toInt64.toUInt64).toInt64)))])) _
    refine XS.bipush X1.here hx rfl (hb hby d5_32) ?_
    show Steps p.tables e below (T1.setTop (mkF m 34 #[.val (.long q0), .second, .val (.long (f5_11 q0)), .second, .val (.long (f5_20 q0)), .second, .unset, .unset, .unset, .unset] [(.int (54 : Int32)), (.long (f5_20 q0)), (.long ((f5_20 q0) ^^^ (((f5_20 q0).toUInt64 >>> ((27 : Int32) &&& 0x3f).toInt64.toUInt64).toInt64)))])) _
    refine XS.lushr X1.here hx rfl (hb hby d5_34) rfl ?_
    show Steps p.tables e below (T1.setTop (mkF m 35 #[.val (.long q0), .second, .val (.long (f5_11 q0)), .second, .val (.long (f5_20 q0)), .second, .unset, .unset, .unset, .unset] [(.long (((f5_20 q0).toUInt64 >>> ((54 : Int32) &&& 0x3f).toInt64.toUInt64).toInt64)), (.long ((f5_20 q0) ^^^ (((f5_20 q0).toUInt64 >>> ((27 : Int32) &&& 0x3f).toInt64.toUInt64).toInt64)))])) _
    refine XS.lxor X1.here hx rfl (hb hby d5_35) rfl ?_
    show Steps p.tables e below (T1.setTop (mkF m 36 #[.val (.long q0), .second, .val (.long (f5_11 q0)), .second, .val (.long (f5_20 q0)), .second, .unset, .unset, .unset, .unset] [(.long (((f5_20 q0) ^^^ (((f5_20 q0).toUInt64 >>> ((27 : Int32) &&& 0x3f).toInt64.toUInt64).toInt64)) ^^^ (((f5_20 q0).toUInt64 >>> ((54 : Int32) &&& 0x3f).toInt64.toUInt64).toInt64)))])) _
    refine XS.lstore X1.here hx rfl (hb hby d5_36) rfl (l' := #[.val (.long q0), .second, .val (.long (f5_11 q0)), .second, .val (.long (f5_20 q0)), .second, .val (.long (f5_36 q0)), .second, .unset, .unset]) rfl ?_
    show Steps p.tables e below (T1.setTop (mkF m 38 #[.val (.long q0), .second, .val (.long (f5_11 q0)), .second, .val (.long (f5_20 q0)), .second, .val (.long (f5_36 q0)), .second, .unset, .unset] [])) _
    refine XS.lload X1.here hx rfl (hb hby d5_38) rfl ?_
    show Steps p.tables e below (T1.setTop (mkF m 40 #[.val (.long q0), .second, .val (.long (f5_11 q0)), .second, .val (.long (f5_20 q0)), .second, .val (.long (f5_36 q0)), .second, .unset, .unset] [(.long (f5_36 q0))])) _
    refine X1.ldc2Long hx hown (mvT hZ (hw _ (List.mem_of_getElem? (i := 34) rfl))) (g := (mkF m 40 #[.val (.long q0), .second, .val (.long (f5_11 q0)), .second, .val (.long (f5_20 q0)), .second, .val (.long (f5_36 q0)), .second, .unset, .unset] [(.long (f5_36 q0))])) rfl (hb hby d5_40) _ ?_
    show Steps p.tables e below (T1.setTop (mkF m 43 #[.val (.long q0), .second, .val (.long (f5_11 q0)), .second, .val (.long (f5_20 q0)), .second, .val (.long (f5_36 q0)), .second, .unset, .unset] [(.long (-4658895280553007687 : Int64)), (.long (f5_36 q0))])) _
    refine st2 _ ?_
    show Steps p.tables e below (T2.setTop (mkF m 46 #[.val (.long q0), .second, .val (.long (f5_11 q0)), .second, .val (.long (f5_20 q0)), .second, .val (.long (f5_36 q0)), .second, .unset, .unset] [(.long (f6_ret (-4658895280553007687 : Int64))), (.long (f5_36 q0))])) _
    refine XS.lmul X2.here hx rfl (hb hby d5_46) rfl ?_
    show Steps p.tables e below (T2.setTop (mkF m 47 #[.val (.long q0), .second, .val (.long (f5_11 q0)), .second, .val (.long (f5_20 q0)), .second, .val (.long (f5_36 q0)), .second, .unset, .unset] [(.long ((f5_36 q0) * (f6_ret (-4658895280553007687 : Int64))))])) _
    refine XS.lstore X2.here hx rfl (hb hby d5_47) rfl (l' := #[.val (.long q0), .second, .val (.long (f5_11 q0)), .second, .val (.long (f5_20 q0)), .second, .val (.long (f5_36 q0)), .second, .val (.long (f5_47 q0)), .second]) rfl ?_
    show Steps p.tables e below (T2.setTop (mkF m 49 #[.val (.long q0), .second, .val (.long (f5_11 q0)), .second, .val (.long (f5_20 q0)), .second, .val (.long (f5_36 q0)), .second, .val (.long (f5_47 q0)), .second] [])) _
    refine XS.lload X2.here hx rfl (hb hby d5_49) rfl ?_
    show Steps p.tables e below (T2.setTop (mkF m 51 #[.val (.long q0), .second, .val (.long (f5_11 q0)), .second, .val (.long (f5_20 q0)), .second, .val (.long (f5_36 q0)), .second, .val (.long (f5_47 q0)), .second] [(.long (f5_47 q0))])) _
    refine XS.lload X2.here hx rfl (hb hby d5_51) rfl ?_
    show Steps p.tables e below (T2.setTop (mkF m 53 #[.val (.long q0), .second, .val (.long (f5_11 q0)), .second, .val (.long (f5_20 q0)), .second, .val (.long (f5_36 q0)), .second, .val (.long (f5_47 q0)), .second] [(.long (f5_47 q0)), (.long (f5_47 q0))])) _
    refine XS.bipush X2.here hx rfl (hb hby d5_53) ?_
    show Steps p.tables e below (T2.setTop (mkF m 55 #[.val (.long q0), .second, .val (.long (f5_11 q0)), .second, .val (.long (f5_20 q0)), .second, .val (.long (f5_36 q0)), .second, .val (.long (f5_47 q0)), .second] [(.int (30 : Int32)), (.long (f5_47 q0)), (.long (f5_47 q0))])) _
    refine XS.lushr X2.here hx rfl (hb hby d5_55) rfl ?_
    show Steps p.tables e below (T2.setTop (mkF m 56 #[.val (.long q0), .second, .val (.long (f5_11 q0)), .second, .val (.long (f5_20 q0)), .second, .val (.long (f5_36 q0)), .second, .val (.long (f5_47 q0)), .second] [(.long (((f5_47 q0).toUInt64 >>> ((30 : Int32) &&& 0x3f).toInt64.toUInt64).toInt64)), (.long (f5_47 q0))])) _
    refine XS.lxor X2.here hx rfl (hb hby d5_56) rfl ?_
    show Steps p.tables e below (T2.setTop (mkF m 57 #[.val (.long q0), .second, .val (.long (f5_11 q0)), .second, .val (.long (f5_20 q0)), .second, .val (.long (f5_36 q0)), .second, .val (.long (f5_47 q0)), .second] [(.long ((f5_47 q0) ^^^ (((f5_47 q0).toUInt64 >>> ((30 : Int32) &&& 0x3f).toInt64.toUInt64).toInt64)))])) _
    refine XS.lload X2.here hx rfl (hb hby d5_57) rfl ?_
    show Steps p.tables e below (T2.setTop (mkF m 59 #[.val (.long q0), .second, .val (.long (f5_11 q0)), .second, .val (.long (f5_20 q0)), .second, .val (.long (f5_36 q0)), .second, .val (.long (f5_47 q0)), .second] [(.long (f5_47 q0)), (.long ((f5_47 q0) ^^^ (((f5_47 q0).toUInt64 >>> ((30 : Int32) &&& 0x3f).toInt64.toUInt64).toInt64)))])) _
    refine XS.bipush X2.here hx rfl (hb hby d5_59) ?_
    show Steps p.tables e below (T2.setTop (mkF m 61 #[.val (.long q0), .second, .val (.long (f5_11 q0)), .second, .val (.long (f5_20 q0)), .second, .val (.long (f5_36 q0)), .second, .val (.long (f5_47 q0)), .second] [(.int (60 : Int32)), (.long (f5_47 q0)), (.long ((f5_47 q0) ^^^ (((f5_47 q0).toUInt64 >>> ((30 : Int32) &&& 0x3f).toInt64.toUInt64).toInt64)))])) _
    refine XS.lushr X2.here hx rfl (hb hby d5_61) rfl ?_
    show Steps p.tables e below (T2.setTop (mkF m 62 #[.val (.long q0), .second, .val (.long (f5_11 q0)), .second, .val (.long (f5_20 q0)), .second, .val (.long (f5_36 q0)), .second, .val (.long (f5_47 q0)), .second] [(.long (((f5_47 q0).toUInt64 >>> ((60 : Int32) &&& 0x3f).toInt64.toUInt64).toInt64)), (.long ((f5_47 q0) ^^^ (((f5_47 q0).toUInt64 >>> ((30 : Int32) &&& 0x3f).toInt64.toUInt64).toInt64)))])) _
    refine XS.lxor X2.here hx rfl (hb hby d5_62) rfl ?_
    show Steps p.tables e below (T2.setTop (mkF m 63 #[.val (.long q0), .second, .val (.long (f5_11 q0)), .second, .val (.long (f5_20 q0)), .second, .val (.long (f5_36 q0)), .second, .val (.long (f5_47 q0)), .second] [(.long (((f5_47 q0) ^^^ (((f5_47 q0).toUInt64 >>> ((30 : Int32) &&& 0x3f).toInt64.toUInt64).toInt64)) ^^^ (((f5_47 q0).toUInt64 >>> ((60 : Int32) &&& 0x3f).toInt64.toUInt64).toInt64)))])) _
    exact k)
  obtain ⟨fs, hr, hrun, hended, hW, hsame⟩ := X2.leave (v := some (.long (((f5_47 q0) ^^^ (((f5_47 q0).toUInt64 >>> ((30 : Int32) &&& 0x3f).toInt64.toUInt64).toInt64)) ^^^ (((f5_47 q0).toUInt64 >>> ((60 : Int32) &&& 0x3f).toInt64.toUInt64).toInt64)))) (fun h => by rw [Bd.returns] at h; cases h)
  refine ⟨_, _, pre3 _ ?_, hrun, hended, _, _, rfl, ?_, ⟨_, rfl⟩, hW, hsame.mono (by decide) (by decide)⟩
  · exact retOut X2 hx Bd.returns rfl (Or.inr (Or.inl ⟨rfl, rfl, _, rfl⟩)) (hb hby d5_63) hr
  · show Q5 Z q0 h0 n0 _ T2.heap _
    rw [hh2]
    exact ⟨rfl, N2, rfl⟩
theorem pd_1 : parseMethodDescriptor "(J)V" = some ⟨[.long], none⟩ := by decide +kernel
theorem pd_2 : parseMethodDescriptor "()J" = some ⟨[], some .long⟩ := by decide +kernel
theorem ef_0 (m : MethodId) (q0 : Int64) : entryFrame m #[(.long q0)] maxLocals = mkF m 0 #[.val (.long q0), .second, .unset, .unset, .unset, .unset, .unset, .unset, .unset, .unset, .unset, .unset, .unset, .unset, .unset, .unset] [] := by first | (simp [entryFrame, mkF, argsToLocals, Value.category, maxLocals]; done) | rfl
def f0_20 (q0 : Int64) : Int64 := ((q0 + (-7046029254386353131 : Int64)) + (-7046029254386353131 : Int64))
def f0_26 (q0 : Int64) : Int64 := (own_mix (q0 + (-7046029254386353131 : Int64)))
def f0_35 (q0 : Int64) : Int64 := (own_mix ((q0 + (-7046029254386353131 : Int64)) + (-7046029254386353131 : Int64)))

theorem own_unm (z : Int64) : f5_ret (own_mix z) = z := by
  have e2 : ∀ y, f5_ret y = own_unmix y := fun _ => rfl
  rw [e2, own_unmix_mix]

def Q0 (Z : State) (q0 : Int64) (h0 : Heap) (n0 : Nat) (v : Option Value) (h : Heap) (L : List Loc) : Prop := v = some (.int 1) ∧ Fr n0 L
set_option maxRecDepth 65536 in
set_option maxHeartbeats 40000000 in
theorem rm0 (l : Launch) (Z : State) (a0 : Array Value) (hw : ∀ d ∈ tables_1, d.before a0 Z = true) (ws : List Jvm.Cond) (q0 : Int64) (h0 : Heap) (n0 : Nat) (Z0 : n0 ≤ h0.size)  :
    MetFree l x (head1 (Jvm.Cond.code x code maxLocals ret :: ws) room_1) (fun a U => a = #[(.long q0)] ∧ Z.Warmed39 U.vm ∧ U.heap = h0) (fun _ _ _ _ _ => True) (fun _ U o U' => ∃ v L, o = .returned v ∧ Q0 Z q0 h0 n0 v U'.heap L ∧ FrameEnd U o U' L room_1.cells room_1.slots) := by
  refine MetFree.of_bodySF (plainFor_of_name pn_1) hisR ?_
  intro p e s m args below meth c s₁ Bd hml0 hP hK
  obtain ⟨rfl, hZ, hh⟩ := hP
  have hx := Bd.exec
  have hby := Bd.bytes
  have hml : c.maxLocals = 16 := hml0
  have hown : s.vm.findClass "com/example/wakasato/wakasato/search/SeededRandomNextLongPinLaw" = some m.cls := findClass_of_methodNamed Bd.named
  have hnm := (name_of_methodNamed Bd.named Bd.method).1
  have X0 : Stand p l e room_1 s m #[(.long q0)] below meth c s₁ [] 0 0 := Stand.of_body Bd
  have e0 : s₁.heap = h0 := by rw [← hh, Bd.state]; rfl
  have N0 := Fr.nil n0
  have pre0 : ∀ t, Steps p.tables e below (s₁.setTop (mkF m 0 #[.val (.long q0), .second, .unset, .unset, .unset, .unset, .unset, .unset, .unset, .unset, .unset, .unset, .unset, .unset, .unset, .unset] [])) t → Steps p.tables e below (s₁.setTop (entryFrame m #[(.long q0)] maxLocals)) t := fun t k => castTop (ef_0 m q0) k
  obtain ⟨T1, h1, X1, e1, Ex1, Ne1, D1, -, st1⟩ := newO X0 hx hZ hown (hw _ (List.mem_of_getElem? (i := 0) rfl)) (hw _ (List.mem_of_getElem? (i := 1) rfl)) (hw _ (List.mem_of_getElem? (i := 2) rfl)) e0 (g := (mkF m 0 #[.val (.long q0), .second, .unset, .unset, .unset, .unset, .unset, .unset, .unset, .unset, .unset, .unset, .unset, .unset, .unset, .unset] [])) rfl (hb hby at_0) (by decide) (by decide)
  obtain ⟨b1, g1⟩ : ∃ z, z = h0.size := ⟨_, rfl⟩
  rw [← g1] at Ne1 D1 st1
  have g_b1 : n0 ≤ b1 := Nat.le_trans (Nat.le_trans Z0 (Nat.le_refl _)) (Nat.le_of_eq g1.symm)
  have sz_b1 : h0.size ≤ b1 := Nat.le_trans (Nat.le_refl _) (Nat.le_of_eq g1.symm)
  have SZ3 : h0.size ≤ h1.size := Nat.le_trans (Nat.le_refl _) Ex1.1
  have ZZ3 : n0 ≤ h1.size := Nat.le_trans Z0 SZ3
  have K4 : Keep h0 h1 [] := ((Keep.refl h0 [])).ext Ex1
  have F_state_b1_1 : Fld Z h1 b1 "com/example/wakasato/wakasato/search/SeededRandom" "state" "J" (.long (0 : Int64)) := D1 (Or.inl (hw _ (List.mem_of_getElem? (i := 10) rfl))) (ty := .long) (by decide)
  obtain ⟨_, _, ⟨T5, L5, k5, n5⟩, -, X5, ⟨Lc5, hQ5, l5, y5, z5⟩, st5⟩ := X1.specialBack hx (y := (⟨"com/example/wakasato/wakasato/search/SeededRandom", "<init>", "(J)V"⟩ : MethodName)) rfl hown (mvT hZ (hw _ (List.mem_of_getElem? (i := 3) rfl))) (mvT hZ (hw _ (List.mem_of_getElem? (i := 4) rfl))) (mvT hZ (hw _ (List.mem_of_getElem? (i := 5) rfl))) (by decide) (backOf (W := 1) (rm1 l Z a0 hw [] b1 q0 (0 : Int64) h1 n0 ZZ3 F_state_b1_1 Ne1 g_b1) hZ (hw _ (List.mem_of_getElem? (i := 5) rfl)) (hw _ (List.mem_of_getElem? (i := 2) rfl)) (by decide) (by decide)) (g := (mkF m 5 #[.val (.long q0), .second, .unset, .unset, .unset, .unset, .unset, .unset, .unset, .unset, .unset, .unset, .unset, .unset, .unset, .unset] [(.long q0), (.ref b1), (.ref b1)])) rfl (by rw [hml]; rfl) (Steps.refl _) (a := b1) (argsL := [(.long q0)]) (rest := [(.ref b1)]) (lenOf pd_1 rfl) rfl (by show 2 * 0 + _ ≤ _; exact Nat.le_of_eq rfl) (hb hby at_5) (fun _ _ => ⟨rfl, e1, (by decide : 1 + 0 ≤ _), (by decide : 1 + 0 ≤ _)⟩)
  dsimp only [Pt.U, Pt.locs, Pt.cells, Pt.slots] at X5 l5 y5 z5 st5 hQ5
  subst l5 y5 z5
  obtain ⟨rfl, N5q, Kc5, P5_0⟩ := hQ5
  have N5 := Fr.app N0 N5q
  have E_b1_6 : Exa Z T5.heap b1 "com/example/wakasato/wakasato/search/SeededRandom" := (Ne1).keep Kc5
  have SZ7 : h0.size ≤ T5.heap.size := Nat.le_trans SZ3 Kc5.1
  have ZZ7 : n0 ≤ T5.heap.size := Nat.le_trans Z0 SZ7
  have K8 : Keep h0 T5.heap [] := (K4).trans Kc5 (allS (Or.inr sz_b1) all0)
  obtain ⟨cq9, kq9, q9a, q9b, q9c⟩ := isOf hZ rfl (E_b1_6)
  obtain ⟨_, _, ⟨T9, L9, k9, n9⟩, -, X9, ⟨Lc9, hQ9, l9, y9, z9⟩, st9⟩ := X5.virtualBack hx (y := (⟨"com/example/wakasato/wakasato/search/SeededRandom", "nextLong", "()J"⟩ : MethodName)) (z := (⟨"com/example/wakasato/wakasato/search/SeededRandom", "nextLong", "()J"⟩ : MethodName)) hown (mvT hZ (hw _ (List.mem_of_getElem? (i := 12) rfl))) (mvT hZ (hw _ (List.mem_of_getElem? (i := 13) rfl))) (notFace_of_selects (args := #[]) (mvT hZ (hw _ (List.mem_of_getElem? (i := 15) rfl)))) (mvT hZ (hw _ (List.mem_of_getElem? (i := 15) rfl))) (mvT hZ (hw _ (List.mem_of_getElem? (i := 14) rfl))) (by decide) (backOf (W := 0) (rm3 l Z a0 hw [] b1 q0 T5.heap n0 ZZ7 P5_0 E_b1_6 g_b1) hZ (hw _ (List.mem_of_getElem? (i := 16) rfl)) (hw _ (List.mem_of_getElem? (i := 2) rfl)) (by decide) (by decide)) q9a q9c (g := (mkF m 23 #[.val (.long q0), .second, .val (.ref b1), .val (.long (q0 + (-7046029254386353131 : Int64))), .second, .val (.long (f0_20 q0)), .second, .unset, .unset, .unset, .unset, .unset, .unset, .unset, .unset, .unset] [(.ref b1)])) rfl (by rw [hml]; rfl) (Steps.refl _) (argsL := []) (rest := []) (lenOf pd_2 rfl) rfl (by show 2 * 0 + _ ≤ _; exact Nat.le_of_eq rfl) (hb hby at_23) (fun _ _ => ⟨rfl, rfl, (by decide : 1 + 0 ≤ _), (by decide : 1 + 0 ≤ _)⟩)
  dsimp only [Pt.U, Pt.locs, Pt.cells, Pt.slots] at X9 l9 y9 z9 st9 hQ9
  subst l9 y9 z9
  obtain ⟨rfl, N9q, Kc9, P9_0⟩ := hQ9
  have N9 := Fr.app N5 N9q
  have E_b1_10 : Exa Z T9.heap b1 "com/example/wakasato/wakasato/search/SeededRandom" := (E_b1_6).keep Kc9
  have SZ11 : h0.size ≤ T9.heap.size := Nat.le_trans SZ7 Kc9.1
  have ZZ11 : n0 ≤ T9.heap.size := Nat.le_trans Z0 SZ11
  have K12 : Keep h0 T9.heap [] := (K8).trans Kc9 (allS (Or.inr sz_b1) all0)
  obtain ⟨cq13, kq13, q13a, q13b, q13c⟩ := isOf hZ rfl (E_b1_10)
  obtain ⟨_, _, ⟨T13, L13, k13, n13⟩, -, X13, ⟨Lc13, hQ13, l13, y13, z13⟩, st13⟩ := X9.virtualBack hx (y := (⟨"com/example/wakasato/wakasato/search/SeededRandom", "state", "()J"⟩ : MethodName)) (z := (⟨"com/example/wakasato/wakasato/search/SeededRandom", "state", "()J"⟩ : MethodName)) hown (mvT hZ (hw _ (List.mem_of_getElem? (i := 20) rfl))) (mvT hZ (hw _ (List.mem_of_getElem? (i := 21) rfl))) (notFace_of_selects (args := #[]) (mvT hZ (hw _ (List.mem_of_getElem? (i := 23) rfl)))) (mvT hZ (hw _ (List.mem_of_getElem? (i := 23) rfl))) (mvT hZ (hw _ (List.mem_of_getElem? (i := 22) rfl))) (by decide) (backOf (W := 0) (rm4 l Z a0 hw [] b1 (q0 + (-7046029254386353131 : Int64)) T9.heap n0 ZZ11 P9_0) hZ (hw _ (List.mem_of_getElem? (i := 24) rfl)) (hw _ (List.mem_of_getElem? (i := 2) rfl)) (by decide) (by decide)) q13a q13c (g := (mkF m 29 #[.val (.long q0), .second, .val (.ref b1), .val (.long (q0 + (-7046029254386353131 : Int64))), .second, .val (.long (f0_20 q0)), .second, .val (.long (f0_26 q0)), .second, .unset, .unset, .unset, .unset, .unset, .unset, .unset] [(.ref b1)])) rfl (by rw [hml]; rfl) (Steps.refl _) (argsL := []) (rest := []) (lenOf pd_2 rfl) rfl (by show 2 * 0 + _ ≤ _; exact Nat.le_of_eq rfl) (hb hby at_29) (fun _ _ => ⟨rfl, rfl, (by decide : 1 + 0 ≤ _), (by decide : 1 + 0 ≤ _)⟩)
  dsimp only [Pt.U, Pt.locs, Pt.cells, Pt.slots] at X13 l13 y13 z13 st13 hQ13
  subst l13 y13 z13
  obtain ⟨rfl, N13q, hh13⟩ := hQ13
  have N13 := Fr.app N9 N13q
  obtain ⟨cq14, kq14, q14a, q14b, q14c⟩ := isOf hZ hh13 (E_b1_10)
  obtain ⟨_, _, ⟨T14, L14, k14, n14⟩, -, X14, ⟨Lc14, hQ14, l14, y14, z14⟩, st14⟩ := X13.virtualBack hx (y := (⟨"com/example/wakasato/wakasato/search/SeededRandom", "nextLong", "()J"⟩ : MethodName)) (z := (⟨"com/example/wakasato/wakasato/search/SeededRandom", "nextLong", "()J"⟩ : MethodName)) hown (mvT hZ (hw _ (List.mem_of_getElem? (i := 12) rfl))) (mvT hZ (hw _ (List.mem_of_getElem? (i := 13) rfl))) (notFace_of_selects (args := #[]) (mvT hZ (hw _ (List.mem_of_getElem? (i := 15) rfl)))) (mvT hZ (hw _ (List.mem_of_getElem? (i := 15) rfl))) (mvT hZ (hw _ (List.mem_of_getElem? (i := 14) rfl))) (by decide) (backOf (W := 0) (rm3 l Z a0 hw [] b1 (q0 + (-7046029254386353131 : Int64)) T9.heap n0 ZZ11 P9_0 E_b1_10 g_b1) hZ (hw _ (List.mem_of_getElem? (i := 16) rfl)) (hw _ (List.mem_of_getElem? (i := 2) rfl)) (by decide) (by decide)) q14a q14c (g := (mkF m 35 #[.val (.long q0), .second, .val (.ref b1), .val (.long (q0 + (-7046029254386353131 : Int64))), .second, .val (.long (f0_20 q0)), .second, .val (.long (f0_26 q0)), .second, .val (.long (q0 + (-7046029254386353131 : Int64))), .second, .unset, .unset, .unset, .unset, .unset] [(.ref b1)])) rfl (by rw [hml]; rfl) (Steps.refl _) (argsL := []) (rest := []) (lenOf pd_2 rfl) rfl (by show 2 * 0 + _ ≤ _; exact Nat.le_of_eq rfl) (hb hby at_35) (fun _ _ => ⟨rfl, hh13, (by decide : 1 + 0 ≤ _), (by decide : 1 + 0 ≤ _)⟩)
  dsimp only [Pt.U, Pt.locs, Pt.cells, Pt.slots] at X14 l14 y14 z14 st14 hQ14
  subst l14 y14 z14
  obtain ⟨rfl, N14q, Kc14, P14_0⟩ := hQ14
  have N14 := Fr.app N13 N14q
  have E_b1_15 : Exa Z T14.heap b1 "com/example/wakasato/wakasato/search/SeededRandom" := (E_b1_10).keep Kc14
  have SZ16 : h0.size ≤ T14.heap.size := Nat.le_trans SZ11 Kc14.1
  have ZZ16 : n0 ≤ T14.heap.size := Nat.le_trans Z0 SZ16
  have K17 : Keep h0 T14.heap [] := (K12).trans Kc14 (allS (Or.inr sz_b1) all0)
  obtain ⟨cq18, kq18, q18a, q18b, q18c⟩ := isOf hZ rfl (E_b1_15)
  obtain ⟨_, _, ⟨T18, L18, k18, n18⟩, -, X18, ⟨Lc18, hQ18, l18, y18, z18⟩, st18⟩ := X14.virtualBack hx (y := (⟨"com/example/wakasato/wakasato/search/SeededRandom", "state", "()J"⟩ : MethodName)) (z := (⟨"com/example/wakasato/wakasato/search/SeededRandom", "state", "()J"⟩ : MethodName)) hown (mvT hZ (hw _ (List.mem_of_getElem? (i := 20) rfl))) (mvT hZ (hw _ (List.mem_of_getElem? (i := 21) rfl))) (notFace_of_selects (args := #[]) (mvT hZ (hw _ (List.mem_of_getElem? (i := 23) rfl)))) (mvT hZ (hw _ (List.mem_of_getElem? (i := 23) rfl))) (mvT hZ (hw _ (List.mem_of_getElem? (i := 22) rfl))) (by decide) (backOf (W := 0) (rm4 l Z a0 hw [] b1 ((q0 + (-7046029254386353131 : Int64)) + (-7046029254386353131 : Int64)) T14.heap n0 ZZ16 P14_0) hZ (hw _ (List.mem_of_getElem? (i := 24) rfl)) (hw _ (List.mem_of_getElem? (i := 2) rfl)) (by decide) (by decide)) q18a q18c (g := (mkF m 41 #[.val (.long q0), .second, .val (.ref b1), .val (.long (q0 + (-7046029254386353131 : Int64))), .second, .val (.long (f0_20 q0)), .second, .val (.long (f0_26 q0)), .second, .val (.long (q0 + (-7046029254386353131 : Int64))), .second, .val (.long (f0_35 q0)), .second, .unset, .unset, .unset] [(.ref b1)])) rfl (by rw [hml]; rfl) (Steps.refl _) (argsL := []) (rest := []) (lenOf pd_2 rfl) rfl (by show 2 * 0 + _ ≤ _; exact Nat.le_of_eq rfl) (hb hby at_41) (fun _ _ => ⟨rfl, rfl, (by decide : 1 + 0 ≤ _), (by decide : 1 + 0 ≤ _)⟩)
  dsimp only [Pt.U, Pt.locs, Pt.cells, Pt.slots] at X18 l18 y18 z18 st18 hQ18
  subst l18 y18 z18
  obtain ⟨rfl, N18q, hh18⟩ := hQ18
  have N18 := Fr.app N14 N18q
  obtain ⟨_, _, ⟨T19, L19, k19, n19⟩, -, X19, ⟨Lc19, hQ19, l19, y19, z19⟩, st19⟩ := Jvm.LawKit.callS X18 hx (y := (⟨"com/example/wakasato/wakasato/search/SeededRandomNextLongPinLaw", "unmix", "(J)J"⟩ : MethodName)) hown (mvT hZ (hw _ (List.mem_of_getElem? (i := 25) rfl))) (mvT hZ (hw _ (List.mem_of_getElem? (i := 26) rfl))) (mvT hZ (hw _ (List.mem_of_getElem? (i := 27) rfl))) (mvT hZ (hw _ (List.mem_of_getElem? (i := 28) rfl))) (by decide) (backOf (W := 0) (rm5 l Z a0 hw [] (f0_26 q0) T14.heap n0 ZZ16) hZ (hw _ (List.mem_of_getElem? (i := 28) rfl)) (hw _ (List.mem_of_getElem? (i := 27) rfl)) (by decide) (by decide)) (g := (mkF m 75 #[.val (.long q0), .second, .val (.ref b1), .val (.long (q0 + (-7046029254386353131 : Int64))), .second, .val (.long (f0_20 q0)), .second, .val (.long (f0_26 q0)), .second, .val (.long (q0 + (-7046029254386353131 : Int64))), .second, .val (.long (f0_35 q0)), .second, .val (.long (f0_20 q0)), .second, .val (.int (1 : Int32))] [(.long (f0_26 q0))])) rfl (by rw [hml]; rfl) (argsL := [(.long (f0_26 q0))]) (rest := []) (lenOf pd_0 rfl) rfl (by show 2 * 0 + _ ≤ _; exact Nat.le_of_eq rfl) (hb hby at_75) (fun _ _ => ⟨rfl, hh18, (by decide : 1 + 0 ≤ _), (by decide : 1 + 0 ≤ _)⟩)
  dsimp only [Pt.U, Pt.locs, Pt.cells, Pt.slots] at X19 l19 y19 z19 st19 hQ19
  subst l19 y19 z19
  obtain ⟨rfl, N19q, hh19⟩ := hQ19
  have N19 := Fr.app N18 N19q
  obtain ⟨_, _, ⟨T20, L20, k20, n20⟩, -, X20, ⟨Lc20, hQ20, l20, y20, z20⟩, st20⟩ := Jvm.LawKit.callS X19 hx (y := (⟨"com/example/wakasato/wakasato/search/SeededRandomNextLongPinLaw", "unmix", "(J)J"⟩ : MethodName)) hown (mvT hZ (hw _ (List.mem_of_getElem? (i := 25) rfl))) (mvT hZ (hw _ (List.mem_of_getElem? (i := 26) rfl))) (mvT hZ (hw _ (List.mem_of_getElem? (i := 27) rfl))) (mvT hZ (hw _ (List.mem_of_getElem? (i := 28) rfl))) (by decide) (backOf (W := 0) (rm5 l Z a0 hw [] (f0_35 q0) T14.heap n0 ZZ16) hZ (hw _ (List.mem_of_getElem? (i := 28) rfl)) (hw _ (List.mem_of_getElem? (i := 27) rfl)) (by decide) (by decide)) (g := (mkF m 97 #[.val (.long q0), .second, .val (.ref b1), .val (.long (q0 + (-7046029254386353131 : Int64))), .second, .val (.long (f0_20 q0)), .second, .val (.long (f0_26 q0)), .second, .val (.long (q0 + (-7046029254386353131 : Int64))), .second, .val (.long (f0_35 q0)), .second, .val (.long (f0_20 q0)), .second, .val (.int (1 : Int32))] [(.long (f0_35 q0))])) rfl (by rw [hml]; rfl) (argsL := [(.long (f0_35 q0))]) (rest := []) (lenOf pd_0 rfl) rfl (by show 2 * 0 + _ ≤ _; exact Nat.le_of_eq rfl) (hb hby at_97) (fun _ _ => ⟨rfl, hh19, (by decide : 1 + 0 ≤ _), (by decide : 1 + 0 ≤ _)⟩)
  dsimp only [Pt.U, Pt.locs, Pt.cells, Pt.slots] at X20 l20 y20 z20 st20 hQ20
  subst l20 y20 z20
  obtain ⟨rfl, N20q, hh20⟩ := hQ20
  have N20 := Fr.app N19 N20q
  obtain ⟨_, _, ⟨T21, L21, k21, n21⟩, -, X21, ⟨Lc21, hQ21, l21, y21, z21⟩, st21⟩ := Jvm.LawKit.callS X20 hx (y := (⟨"com/example/wakasato/wakasato/search/SeededRandomNextLongPinLaw", "inv", "(J)J"⟩ : MethodName)) hown (mvT hZ (hw _ (List.mem_of_getElem? (i := 30) rfl))) (mvT hZ (hw _ (List.mem_of_getElem? (i := 31) rfl))) (mvT hZ (hw _ (List.mem_of_getElem? (i := 27) rfl))) (mvT hZ (hw _ (List.mem_of_getElem? (i := 32) rfl))) (by decide) (backOf (W := 0) (rm6 l Z a0 hw [] (-4658895280553007687 : Int64) T14.heap n0 ZZ16) hZ (hw _ (List.mem_of_getElem? (i := 32) rfl)) (hw _ (List.mem_of_getElem? (i := 27) rfl)) (by decide) (by decide)) (g := (mkF m 121 #[.val (.long q0), .second, .val (.ref b1), .val (.long (q0 + (-7046029254386353131 : Int64))), .second, .val (.long (f0_20 q0)), .second, .val (.long (f0_26 q0)), .second, .val (.long (q0 + (-7046029254386353131 : Int64))), .second, .val (.long (f0_35 q0)), .second, .val (.long (f0_20 q0)), .second, .val (.int (1 : Int32))] [(.long (-4658895280553007687 : Int64))])) rfl (by rw [hml]; rfl) (argsL := [(.long (-4658895280553007687 : Int64))]) (rest := []) (lenOf pd_0 rfl) rfl (by show 2 * 0 + _ ≤ _; exact Nat.le_of_eq rfl) (hb hby at_121) (fun _ _ => ⟨rfl, hh20, (by decide : 1 + 0 ≤ _), (by decide : 1 + 0 ≤ _)⟩)
  dsimp only [Pt.U, Pt.locs, Pt.cells, Pt.slots] at X21 l21 y21 z21 st21 hQ21
  subst l21 y21 z21
  obtain ⟨rfl, N21q, hh21⟩ := hQ21
  have N21 := Fr.app N20 N21q
  obtain ⟨_, _, ⟨T22, L22, k22, n22⟩, -, X22, ⟨Lc22, hQ22, l22, y22, z22⟩, st22⟩ := Jvm.LawKit.callS X21 hx (y := (⟨"com/example/wakasato/wakasato/search/SeededRandomNextLongPinLaw", "inv", "(J)J"⟩ : MethodName)) hown (mvT hZ (hw _ (List.mem_of_getElem? (i := 30) rfl))) (mvT hZ (hw _ (List.mem_of_getElem? (i := 31) rfl))) (mvT hZ (hw _ (List.mem_of_getElem? (i := 27) rfl))) (mvT hZ (hw _ (List.mem_of_getElem? (i := 32) rfl))) (by decide) (backOf (W := 0) (rm6 l Z a0 hw [] (-7723592293110705685 : Int64) T14.heap n0 ZZ16) hZ (hw _ (List.mem_of_getElem? (i := 32) rfl)) (hw _ (List.mem_of_getElem? (i := 27) rfl)) (by decide) (by decide)) (g := (mkF m 136 #[.val (.long q0), .second, .val (.ref b1), .val (.long (q0 + (-7046029254386353131 : Int64))), .second, .val (.long (f0_20 q0)), .second, .val (.long (f0_26 q0)), .second, .val (.long (q0 + (-7046029254386353131 : Int64))), .second, .val (.long (f0_35 q0)), .second, .val (.long (f0_20 q0)), .second, .val (.int (1 : Int32))] [(.long (-7723592293110705685 : Int64))])) rfl (by rw [hml]; rfl) (argsL := [(.long (-7723592293110705685 : Int64))]) (rest := []) (lenOf pd_0 rfl) rfl (by show 2 * 0 + _ ≤ _; exact Nat.le_of_eq rfl) (hb hby at_136) (fun _ _ => ⟨rfl, hh21, (by decide : 1 + 0 ≤ _), (by decide : 1 + 0 ≤ _)⟩)
  dsimp only [Pt.U, Pt.locs, Pt.cells, Pt.slots] at X22 l22 y22 z22 st22 hQ22
  subst l22 y22 z22
  obtain ⟨rfl, N22q, hh22⟩ := hQ22
  have N22 := Fr.app N21 N22q
  have pre23 : ∀ t, Steps p.tables e below (T22.setTop (mkF m 157 #[.val (.long q0), .second, .val (.ref b1), .val (.long (q0 + (-7046029254386353131 : Int64))), .second, .val (.long (f0_20 q0)), .second, .val (.long (f0_26 q0)), .second, .val (.long (q0 + (-7046029254386353131 : Int64))), .second, .val (.long (f0_35 q0)), .second, .val (.long (f0_20 q0)), .second, .val (.int (1 : Int32))] [(.int (1 : Int32))])) t → Steps p.tables e below (s₁.setTop (entryFrame m #[(.long q0)] maxLocals)) t := fun t k => pre0 t (by
    show Steps p.tables e below (s₁.setTop (mkF m 0 #[.val (.long q0), .second, .unset, .unset, .unset, .unset, .unset, .unset, .unset, .unset, .unset, .unset, .unset, .unset, .unset, .unset] [])) _
    refine st1 _ ?_
    show Steps p.tables e below (T1.setTop (mkF m 3 #[.val (.long q0), .second, .unset, .unset, .unset, .unset, .unset, .unset, .unset, .unset, .unset, .unset, .unset, .unset, .unset, .unset] [(.ref b1)])) _
    refine XS.dup X1.here hx rfl (hb hby at_3) rfl rfl ?_
    show Steps p.tables e below (T1.setTop (mkF m 4 #[.val (.long q0), .second, .unset, .unset, .unset, .unset, .unset, .unset, .unset, .unset, .unset, .unset, .unset, .unset, .unset, .unset] [(.ref b1), (.ref b1)])) _
    refine XS.lloadN X1.here hx rfl (hb hby at_4) rfl ?_
    show Steps p.tables e below (T1.setTop (mkF m 5 #[.val (.long q0), .second, .unset, .unset, .unset, .unset, .unset, .unset, .unset, .unset, .unset, .unset, .unset, .unset, .unset, .unset] [(.long q0), (.ref b1), (.ref b1)])) _
    refine st5.trans ?_
    show Steps p.tables e below (T5.setTop (mkF m 8 #[.val (.long q0), .second, .unset, .unset, .unset, .unset, .unset, .unset, .unset, .unset, .unset, .unset, .unset, .unset, .unset, .unset] [(.ref b1)])) _
    refine XS.astoreN X5.here hx rfl (hb hby at_8) rfl rfl (l' := #[.val (.long q0), .second, .val (.ref b1), .unset, .unset, .unset, .unset, .unset, .unset, .unset, .unset, .unset, .unset, .unset, .unset, .unset]) rfl ?_
    show Steps p.tables e below (T5.setTop (mkF m 9 #[.val (.long q0), .second, .val (.ref b1), .unset, .unset, .unset, .unset, .unset, .unset, .unset, .unset, .unset, .unset, .unset, .unset, .unset] [])) _
    refine XS.lloadN X5.here hx rfl (hb hby at_9) rfl ?_
    show Steps p.tables e below (T5.setTop (mkF m 10 #[.val (.long q0), .second, .val (.ref b1), .unset, .unset, .unset, .unset, .unset, .unset, .unset, .unset, .unset, .unset, .unset, .unset, .unset] [(.long q0)])) _
    refine X5.ldc2Long hx hown (mvT hZ (hw _ (List.mem_of_getElem? (i := 11) rfl))) (g := (mkF m 10 #[.val (.long q0), .second, .val (.ref b1), .unset, .unset, .unset, .unset, .unset, .unset, .unset, .unset, .unset, .unset, .unset, .unset, .unset] [(.long q0)])) rfl (hb hby at_10) _ ?_
    show Steps p.tables e below (T5.setTop (mkF m 13 #[.val (.long q0), .second, .val (.ref b1), .unset, .unset, .unset, .unset, .unset, .unset, .unset, .unset, .unset, .unset, .unset, .unset, .unset] [(.long (-7046029254386353131 : Int64)), (.long q0)])) _
    refine XS.ladd X5.here hx rfl (hb hby at_13) rfl ?_
    show Steps p.tables e below (T5.setTop (mkF m 14 #[.val (.long q0), .second, .val (.ref b1), .unset, .unset, .unset, .unset, .unset, .unset, .unset, .unset, .unset, .unset, .unset, .unset, .unset] [(.long (q0 + (-7046029254386353131 : Int64)))])) _
    refine XS.lstoreN X5.here hx rfl (hb hby at_14) rfl (l' := #[.val (.long q0), .second, .val (.ref b1), .val (.long (q0 + (-7046029254386353131 : Int64))), .second, .unset, .unset, .unset, .unset, .unset, .unset, .unset, .unset, .unset, .unset, .unset]) rfl ?_
    show Steps p.tables e below (T5.setTop (mkF m 15 #[.val (.long q0), .second, .val (.ref b1), .val (.long (q0 + (-7046029254386353131 : Int64))), .second, .unset, .unset, .unset, .unset, .unset, .unset, .unset, .unset, .unset, .unset, .unset] [])) _
    refine XS.lloadN X5.here hx rfl (hb hby at_15) rfl ?_
    show Steps p.tables e below (T5.setTop (mkF m 16 #[.val (.long q0), .second, .val (.ref b1), .val (.long (q0 + (-7046029254386353131 : Int64))), .second, .unset, .unset, .unset, .unset, .unset, .unset, .unset, .unset, .unset, .unset, .unset] [(.long (q0 + (-7046029254386353131 : Int64)))])) _
    refine X5.ldc2Long hx hown (mvT hZ (hw _ (List.mem_of_getElem? (i := 11) rfl))) (g := (mkF m 16 #[.val (.long q0), .second, .val (.ref b1), .val (.long (q0 + (-7046029254386353131 : Int64))), .second, .unset, .unset, .unset, .unset, .unset, .unset, .unset, .unset, .unset, .unset, .unset] [(.long (q0 + (-7046029254386353131 : Int64)))])) rfl (hb hby at_16) _ ?_
    show Steps p.tables e below (T5.setTop (mkF m 19 #[.val (.long q0), .second, .val (.ref b1), .val (.long (q0 + (-7046029254386353131 : Int64))), .second, .unset, .unset, .unset, .unset, .unset, .unset, .unset, .unset, .unset, .unset, .unset] [(.long (-7046029254386353131 : Int64)), (.long (q0 + (-7046029254386353131 : Int64)))])) _
    refine XS.ladd X5.here hx rfl (hb hby at_19) rfl ?_
    show Steps p.tables e below (T5.setTop (mkF m 20 #[.val (.long q0), .second, .val (.ref b1), .val (.long (q0 + (-7046029254386353131 : Int64))), .second, .unset, .unset, .unset, .unset, .unset, .unset, .unset, .unset, .unset, .unset, .unset] [(.long ((q0 + (-7046029254386353131 : Int64)) + (-7046029254386353131 : Int64)))])) _
    refine XS.lstore X5.here hx rfl (hb hby at_20) rfl (l' := #[.val (.long q0), .second, .val (.ref b1), .val (.long (q0 + (-7046029254386353131 : Int64))), .second, .val (.long (f0_20 q0)), .second, .unset, .unset, .unset, .unset, .unset, .unset, .unset, .unset, .unset]) rfl ?_
    show Steps p.tables e below (T5.setTop (mkF m 22 #[.val (.long q0), .second, .val (.ref b1), .val (.long (q0 + (-7046029254386353131 : Int64))), .second, .val (.long (f0_20 q0)), .second, .unset, .unset, .unset, .unset, .unset, .unset, .unset, .unset, .unset] [])) _
    refine XS.aloadN X5.here hx rfl (hb hby at_22) rfl rfl ?_
    show Steps p.tables e below (T5.setTop (mkF m 23 #[.val (.long q0), .second, .val (.ref b1), .val (.long (q0 + (-7046029254386353131 : Int64))), .second, .val (.long (f0_20 q0)), .second, .unset, .unset, .unset, .unset, .unset, .unset, .unset, .unset, .unset] [(.ref b1)])) _
    refine st9.trans ?_
    show Steps p.tables e below (T9.setTop (mkF m 26 #[.val (.long q0), .second, .val (.ref b1), .val (.long (q0 + (-7046029254386353131 : Int64))), .second, .val (.long (f0_20 q0)), .second, .unset, .unset, .unset, .unset, .unset, .unset, .unset, .unset, .unset] [(.long (own_mix (q0 + (-7046029254386353131 : Int64))))])) _
    refine XS.lstore X9.here hx rfl (hb hby at_26) rfl (l' := #[.val (.long q0), .second, .val (.ref b1), .val (.long (q0 + (-7046029254386353131 : Int64))), .second, .val (.long (f0_20 q0)), .second, .val (.long (f0_26 q0)), .second, .unset, .unset, .unset, .unset, .unset, .unset, .unset]) rfl ?_
    show Steps p.tables e below (T9.setTop (mkF m 28 #[.val (.long q0), .second, .val (.ref b1), .val (.long (q0 + (-7046029254386353131 : Int64))), .second, .val (.long (f0_20 q0)), .second, .val (.long (f0_26 q0)), .second, .unset, .unset, .unset, .unset, .unset, .unset, .unset] [])) _
    refine XS.aloadN X9.here hx rfl (hb hby at_28) rfl rfl ?_
    show Steps p.tables e below (T9.setTop (mkF m 29 #[.val (.long q0), .second, .val (.ref b1), .val (.long (q0 + (-7046029254386353131 : Int64))), .second, .val (.long (f0_20 q0)), .second, .val (.long (f0_26 q0)), .second, .unset, .unset, .unset, .unset, .unset, .unset, .unset] [(.ref b1)])) _
    refine st13.trans ?_
    show Steps p.tables e below (T13.setTop (mkF m 32 #[.val (.long q0), .second, .val (.ref b1), .val (.long (q0 + (-7046029254386353131 : Int64))), .second, .val (.long (f0_20 q0)), .second, .val (.long (f0_26 q0)), .second, .unset, .unset, .unset, .unset, .unset, .unset, .unset] [(.long (q0 + (-7046029254386353131 : Int64)))])) _
    refine XS.lstore X13.here hx rfl (hb hby at_32) rfl (l' := #[.val (.long q0), .second, .val (.ref b1), .val (.long (q0 + (-7046029254386353131 : Int64))), .second, .val (.long (f0_20 q0)), .second, .val (.long (f0_26 q0)), .second, .val (.long (q0 + (-7046029254386353131 : Int64))), .second, .unset, .unset, .unset, .unset, .unset]) rfl ?_
    show Steps p.tables e below (T13.setTop (mkF m 34 #[.val (.long q0), .second, .val (.ref b1), .val (.long (q0 + (-7046029254386353131 : Int64))), .second, .val (.long (f0_20 q0)), .second, .val (.long (f0_26 q0)), .second, .val (.long (q0 + (-7046029254386353131 : Int64))), .second, .unset, .unset, .unset, .unset, .unset] [])) _
    refine XS.aloadN X13.here hx rfl (hb hby at_34) rfl rfl ?_
    show Steps p.tables e below (T13.setTop (mkF m 35 #[.val (.long q0), .second, .val (.ref b1), .val (.long (q0 + (-7046029254386353131 : Int64))), .second, .val (.long (f0_20 q0)), .second, .val (.long (f0_26 q0)), .second, .val (.long (q0 + (-7046029254386353131 : Int64))), .second, .unset, .unset, .unset, .unset, .unset] [(.ref b1)])) _
    refine st14.trans ?_
    show Steps p.tables e below (T14.setTop (mkF m 38 #[.val (.long q0), .second, .val (.ref b1), .val (.long (q0 + (-7046029254386353131 : Int64))), .second, .val (.long (f0_20 q0)), .second, .val (.long (f0_26 q0)), .second, .val (.long (q0 + (-7046029254386353131 : Int64))), .second, .unset, .unset, .unset, .unset, .unset] [(.long (f0_35 q0))])) _
    refine XS.lstore X14.here hx rfl (hb hby at_38) rfl (l' := #[.val (.long q0), .second, .val (.ref b1), .val (.long (q0 + (-7046029254386353131 : Int64))), .second, .val (.long (f0_20 q0)), .second, .val (.long (f0_26 q0)), .second, .val (.long (q0 + (-7046029254386353131 : Int64))), .second, .val (.long (f0_35 q0)), .second, .unset, .unset, .unset]) rfl ?_
    show Steps p.tables e below (T14.setTop (mkF m 40 #[.val (.long q0), .second, .val (.ref b1), .val (.long (q0 + (-7046029254386353131 : Int64))), .second, .val (.long (f0_20 q0)), .second, .val (.long (f0_26 q0)), .second, .val (.long (q0 + (-7046029254386353131 : Int64))), .second, .val (.long (f0_35 q0)), .second, .unset, .unset, .unset] [])) _
    refine XS.aloadN X14.here hx rfl (hb hby at_40) rfl rfl ?_
    show Steps p.tables e below (T14.setTop (mkF m 41 #[.val (.long q0), .second, .val (.ref b1), .val (.long (q0 + (-7046029254386353131 : Int64))), .second, .val (.long (f0_20 q0)), .second, .val (.long (f0_26 q0)), .second, .val (.long (q0 + (-7046029254386353131 : Int64))), .second, .val (.long (f0_35 q0)), .second, .unset, .unset, .unset] [(.ref b1)])) _
    refine st18.trans ?_
    show Steps p.tables e below (T18.setTop (mkF m 44 #[.val (.long q0), .second, .val (.ref b1), .val (.long (q0 + (-7046029254386353131 : Int64))), .second, .val (.long (f0_20 q0)), .second, .val (.long (f0_26 q0)), .second, .val (.long (q0 + (-7046029254386353131 : Int64))), .second, .val (.long (f0_35 q0)), .second, .unset, .unset, .unset] [(.long (f0_20 q0))])) _
    refine XS.lstore X18.here hx rfl (hb hby at_44) rfl (l' := #[.val (.long q0), .second, .val (.ref b1), .val (.long (q0 + (-7046029254386353131 : Int64))), .second, .val (.long (f0_20 q0)), .second, .val (.long (f0_26 q0)), .second, .val (.long (q0 + (-7046029254386353131 : Int64))), .second, .val (.long (f0_35 q0)), .second, .val (.long (f0_20 q0)), .second, .unset]) rfl ?_
    show Steps p.tables e below (T18.setTop (mkF m 46 #[.val (.long q0), .second, .val (.ref b1), .val (.long (q0 + (-7046029254386353131 : Int64))), .second, .val (.long (f0_20 q0)), .second, .val (.long (f0_26 q0)), .second, .val (.long (q0 + (-7046029254386353131 : Int64))), .second, .val (.long (f0_35 q0)), .second, .val (.long (f0_20 q0)), .second, .unset] [])) _
    refine XS.lload X18.here hx rfl (hb hby at_46) rfl ?_
    show Steps p.tables e below (T18.setTop (mkF m 48 #[.val (.long q0), .second, .val (.ref b1), .val (.long (q0 + (-7046029254386353131 : Int64))), .second, .val (.long (f0_20 q0)), .second, .val (.long (f0_26 q0)), .second, .val (.long (q0 + (-7046029254386353131 : Int64))), .second, .val (.long (f0_35 q0)), .second, .val (.long (f0_20 q0)), .second, .unset] [(.long (q0 + (-7046029254386353131 : Int64)))])) _
    refine XS.lloadN X18.here hx rfl (hb hby at_48) rfl ?_
    show Steps p.tables e below (T18.setTop (mkF m 49 #[.val (.long q0), .second, .val (.ref b1), .val (.long (q0 + (-7046029254386353131 : Int64))), .second, .val (.long (f0_20 q0)), .second, .val (.long (f0_26 q0)), .second, .val (.long (q0 + (-7046029254386353131 : Int64))), .second, .val (.long (f0_35 q0)), .second, .val (.long (f0_20 q0)), .second, .unset] [(.long (q0 + (-7046029254386353131 : Int64))), (.long (q0 + (-7046029254386353131 : Int64)))])) _
    refine XS.lcmp X18.here hx rfl (hb hby at_49) rfl ?_
    show Steps p.tables e below (T18.setTop (mkF m 50 #[.val (.long q0), .second, .val (.ref b1), .val (.long (q0 + (-7046029254386353131 : Int64))), .second, .val (.long (f0_20 q0)), .second, .val (.long (f0_26 q0)), .second, .val (.long (q0 + (-7046029254386353131 : Int64))), .second, .val (.long (f0_35 q0)), .second, .val (.long (f0_20 q0)), .second, .unset] [(.int (lcmpW (q0 + (-7046029254386353131 : Int64)) (q0 + (-7046029254386353131 : Int64))))])) _
    refine XS.ifNo X18.here hx rfl (hb hby at_50) rfl (own_eqL (show (q0 + (-7046029254386353131 : Int64)) = (q0 + (-7046029254386353131 : Int64)) from rfl)).2 ?_
    show Steps p.tables e below (T18.setTop (mkF m 53 #[.val (.long q0), .second, .val (.ref b1), .val (.long (q0 + (-7046029254386353131 : Int64))), .second, .val (.long (f0_20 q0)), .second, .val (.long (f0_26 q0)), .second, .val (.long (q0 + (-7046029254386353131 : Int64))), .second, .val (.long (f0_35 q0)), .second, .val (.long (f0_20 q0)), .second, .unset] [])) _
    refine XS.lload X18.here hx rfl (hb hby at_53) rfl ?_
    show Steps p.tables e below (T18.setTop (mkF m 55 #[.val (.long q0), .second, .val (.ref b1), .val (.long (q0 + (-7046029254386353131 : Int64))), .second, .val (.long (f0_20 q0)), .second, .val (.long (f0_26 q0)), .second, .val (.long (q0 + (-7046029254386353131 : Int64))), .second, .val (.long (f0_35 q0)), .second, .val (.long (f0_20 q0)), .second, .unset] [(.long (f0_20 q0))])) _
    refine XS.lload X18.here hx rfl (hb hby at_55) rfl ?_
    show Steps p.tables e below (T18.setTop (mkF m 57 #[.val (.long q0), .second, .val (.ref b1), .val (.long (q0 + (-7046029254386353131 : Int64))), .second, .val (.long (f0_20 q0)), .second, .val (.long (f0_26 q0)), .second, .val (.long (q0 + (-7046029254386353131 : Int64))), .second, .val (.long (f0_35 q0)), .second, .val (.long (f0_20 q0)), .second, .unset] [(.long (f0_20 q0)), (.long (f0_20 q0))])) _
    refine XS.lcmp X18.here hx rfl (hb hby at_57) rfl ?_
    show Steps p.tables e below (T18.setTop (mkF m 58 #[.val (.long q0), .second, .val (.ref b1), .val (.long (q0 + (-7046029254386353131 : Int64))), .second, .val (.long (f0_20 q0)), .second, .val (.long (f0_26 q0)), .second, .val (.long (q0 + (-7046029254386353131 : Int64))), .second, .val (.long (f0_35 q0)), .second, .val (.long (f0_20 q0)), .second, .unset] [(.int (lcmpW (f0_20 q0) (f0_20 q0)))])) _
    refine XS.ifNo X18.here hx rfl (hb hby at_58) rfl (own_eqL (show (f0_20 q0) = (f0_20 q0) from rfl)).2 ?_
    show Steps p.tables e below (T18.setTop (mkF m 61 #[.val (.long q0), .second, .val (.ref b1), .val (.long (q0 + (-7046029254386353131 : Int64))), .second, .val (.long (f0_20 q0)), .second, .val (.long (f0_26 q0)), .second, .val (.long (q0 + (-7046029254386353131 : Int64))), .second, .val (.long (f0_35 q0)), .second, .val (.long (f0_20 q0)), .second, .unset] [])) _
    refine XS.iconst X18.here hx rfl (hb hby at_61) ?_
    show Steps p.tables e below (T18.setTop (mkF m 62 #[.val (.long q0), .second, .val (.ref b1), .val (.long (q0 + (-7046029254386353131 : Int64))), .second, .val (.long (f0_20 q0)), .second, .val (.long (f0_26 q0)), .second, .val (.long (q0 + (-7046029254386353131 : Int64))), .second, .val (.long (f0_35 q0)), .second, .val (.long (f0_20 q0)), .second, .unset] [(.int (1 : Int32))])) _
    refine XS.goto X18.here hx rfl (pc0 := 62) (pc' := 66) rfl (hb hby at_62) (by decide) (by decide) ?_
    show Steps p.tables e below (T18.setTop (mkF m 66 #[.val (.long q0), .second, .val (.ref b1), .val (.long (q0 + (-7046029254386353131 : Int64))), .second, .val (.long (f0_20 q0)), .second, .val (.long (f0_26 q0)), .second, .val (.long (q0 + (-7046029254386353131 : Int64))), .second, .val (.long (f0_35 q0)), .second, .val (.long (f0_20 q0)), .second, .unset] [(.int (1 : Int32))])) _
    refine XS.istore X18.here hx rfl (hb hby at_66) rfl (l' := #[.val (.long q0), .second, .val (.ref b1), .val (.long (q0 + (-7046029254386353131 : Int64))), .second, .val (.long (f0_20 q0)), .second, .val (.long (f0_26 q0)), .second, .val (.long (q0 + (-7046029254386353131 : Int64))), .second, .val (.long (f0_35 q0)), .second, .val (.long (f0_20 q0)), .second, .val (.int (1 : Int32))]) rfl ?_
    show Steps p.tables e below (T18.setTop (mkF m 68 #[.val (.long q0), .second, .val (.ref b1), .val (.long (q0 + (-7046029254386353131 : Int64))), .second, .val (.long (f0_20 q0)), .second, .val (.long (f0_26 q0)), .second, .val (.long (q0 + (-7046029254386353131 : Int64))), .second, .val (.long (f0_35 q0)), .second, .val (.long (f0_20 q0)), .second, .val (.int (1 : Int32))] [])) _
    refine XS.iload X18.here hx rfl (hb hby at_68) rfl ?_
    show Steps p.tables e below (T18.setTop (mkF m 70 #[.val (.long q0), .second, .val (.ref b1), .val (.long (q0 + (-7046029254386353131 : Int64))), .second, .val (.long (f0_20 q0)), .second, .val (.long (f0_26 q0)), .second, .val (.long (q0 + (-7046029254386353131 : Int64))), .second, .val (.long (f0_35 q0)), .second, .val (.long (f0_20 q0)), .second, .val (.int (1 : Int32))] [(.int (1 : Int32))])) _
    refine XS.ifNo X18.here hx rfl (hb hby at_70) rfl ((if0 _ _).trans (feq (show ¬ ((1 : Int32) = (0 : Int32)) by decide)).1) ?_
    show Steps p.tables e below (T18.setTop (mkF m 73 #[.val (.long q0), .second, .val (.ref b1), .val (.long (q0 + (-7046029254386353131 : Int64))), .second, .val (.long (f0_20 q0)), .second, .val (.long (f0_26 q0)), .second, .val (.long (q0 + (-7046029254386353131 : Int64))), .second, .val (.long (f0_35 q0)), .second, .val (.long (f0_20 q0)), .second, .val (.int (1 : Int32))] [])) _
    refine XS.lload X18.here hx rfl (hb hby at_73) rfl ?_
    show Steps p.tables e below (T18.setTop (mkF m 75 #[.val (.long q0), .second, .val (.ref b1), .val (.long (q0 + (-7046029254386353131 : Int64))), .second, .val (.long (f0_20 q0)), .second, .val (.long (f0_26 q0)), .second, .val (.long (q0 + (-7046029254386353131 : Int64))), .second, .val (.long (f0_35 q0)), .second, .val (.long (f0_20 q0)), .second, .val (.int (1 : Int32))] [(.long (f0_26 q0))])) _
    refine st19 _ ?_
    show Steps p.tables e below (T19.setTop (mkF m 78 #[.val (.long q0), .second, .val (.ref b1), .val (.long (q0 + (-7046029254386353131 : Int64))), .second, .val (.long (f0_20 q0)), .second, .val (.long (f0_26 q0)), .second, .val (.long (q0 + (-7046029254386353131 : Int64))), .second, .val (.long (f0_35 q0)), .second, .val (.long (f0_20 q0)), .second, .val (.int (1 : Int32))] [(.long (f5_ret (f0_26 q0)))])) _
    refine XS.lloadN X19.here hx rfl (hb hby at_78) rfl ?_
    show Steps p.tables e below (T19.setTop (mkF m 79 #[.val (.long q0), .second, .val (.ref b1), .val (.long (q0 + (-7046029254386353131 : Int64))), .second, .val (.long (f0_20 q0)), .second, .val (.long (f0_26 q0)), .second, .val (.long (q0 + (-7046029254386353131 : Int64))), .second, .val (.long (f0_35 q0)), .second, .val (.long (f0_20 q0)), .second, .val (.int (1 : Int32))] [(.long (q0 + (-7046029254386353131 : Int64))), (.long (f5_ret (f0_26 q0)))])) _
    refine XS.lcmp X19.here hx rfl (hb hby at_79) rfl ?_
    show Steps p.tables e below (T19.setTop (mkF m 80 #[.val (.long q0), .second, .val (.ref b1), .val (.long (q0 + (-7046029254386353131 : Int64))), .second, .val (.long (f0_20 q0)), .second, .val (.long (f0_26 q0)), .second, .val (.long (q0 + (-7046029254386353131 : Int64))), .second, .val (.long (f0_35 q0)), .second, .val (.long (f0_20 q0)), .second, .val (.int (1 : Int32))] [(.int (lcmpW (f5_ret (f0_26 q0)) (q0 + (-7046029254386353131 : Int64))))])) _
    refine XS.ifNo X19.here hx rfl (hb hby at_80) rfl (own_eqL (show (f5_ret (f0_26 q0)) = (q0 + (-7046029254386353131 : Int64)) from own_unm _)).2 ?_
    show Steps p.tables e below (T19.setTop (mkF m 83 #[.val (.long q0), .second, .val (.ref b1), .val (.long (q0 + (-7046029254386353131 : Int64))), .second, .val (.long (f0_20 q0)), .second, .val (.long (f0_26 q0)), .second, .val (.long (q0 + (-7046029254386353131 : Int64))), .second, .val (.long (f0_35 q0)), .second, .val (.long (f0_20 q0)), .second, .val (.int (1 : Int32))] [])) _
    refine XS.iconst X19.here hx rfl (hb hby at_83) ?_
    show Steps p.tables e below (T19.setTop (mkF m 84 #[.val (.long q0), .second, .val (.ref b1), .val (.long (q0 + (-7046029254386353131 : Int64))), .second, .val (.long (f0_20 q0)), .second, .val (.long (f0_26 q0)), .second, .val (.long (q0 + (-7046029254386353131 : Int64))), .second, .val (.long (f0_35 q0)), .second, .val (.long (f0_20 q0)), .second, .val (.int (1 : Int32))] [(.int (1 : Int32))])) _
    refine XS.goto X19.here hx rfl (pc0 := 84) (pc' := 88) rfl (hb hby at_84) (by decide) (by decide) ?_
    show Steps p.tables e below (T19.setTop (mkF m 88 #[.val (.long q0), .second, .val (.ref b1), .val (.long (q0 + (-7046029254386353131 : Int64))), .second, .val (.long (f0_20 q0)), .second, .val (.long (f0_26 q0)), .second, .val (.long (q0 + (-7046029254386353131 : Int64))), .second, .val (.long (f0_35 q0)), .second, .val (.long (f0_20 q0)), .second, .val (.int (1 : Int32))] [(.int (1 : Int32))])) _
    refine XS.istore X19.here hx rfl (hb hby at_88) rfl (l' := #[.val (.long q0), .second, .val (.ref b1), .val (.long (q0 + (-7046029254386353131 : Int64))), .second, .val (.long (f0_20 q0)), .second, .val (.long (f0_26 q0)), .second, .val (.long (q0 + (-7046029254386353131 : Int64))), .second, .val (.long (f0_35 q0)), .second, .val (.long (f0_20 q0)), .second, .val (.int (1 : Int32))]) rfl ?_
    show Steps p.tables e below (T19.setTop (mkF m 90 #[.val (.long q0), .second, .val (.ref b1), .val (.long (q0 + (-7046029254386353131 : Int64))), .second, .val (.long (f0_20 q0)), .second, .val (.long (f0_26 q0)), .second, .val (.long (q0 + (-7046029254386353131 : Int64))), .second, .val (.long (f0_35 q0)), .second, .val (.long (f0_20 q0)), .second, .val (.int (1 : Int32))] [])) _
    refine XS.iload X19.here hx rfl (hb hby at_90) rfl ?_
    show Steps p.tables e below (T19.setTop (mkF m 92 #[.val (.long q0), .second, .val (.ref b1), .val (.long (q0 + (-7046029254386353131 : Int64))), .second, .val (.long (f0_20 q0)), .second, .val (.long (f0_26 q0)), .second, .val (.long (q0 + (-7046029254386353131 : Int64))), .second, .val (.long (f0_35 q0)), .second, .val (.long (f0_20 q0)), .second, .val (.int (1 : Int32))] [(.int (1 : Int32))])) _
    refine XS.ifNo X19.here hx rfl (hb hby at_92) rfl ((if0 _ _).trans (feq (show ¬ ((1 : Int32) = (0 : Int32)) by decide)).1) ?_
    show Steps p.tables e below (T19.setTop (mkF m 95 #[.val (.long q0), .second, .val (.ref b1), .val (.long (q0 + (-7046029254386353131 : Int64))), .second, .val (.long (f0_20 q0)), .second, .val (.long (f0_26 q0)), .second, .val (.long (q0 + (-7046029254386353131 : Int64))), .second, .val (.long (f0_35 q0)), .second, .val (.long (f0_20 q0)), .second, .val (.int (1 : Int32))] [])) _
    refine XS.lload X19.here hx rfl (hb hby at_95) rfl ?_
    show Steps p.tables e below (T19.setTop (mkF m 97 #[.val (.long q0), .second, .val (.ref b1), .val (.long (q0 + (-7046029254386353131 : Int64))), .second, .val (.long (f0_20 q0)), .second, .val (.long (f0_26 q0)), .second, .val (.long (q0 + (-7046029254386353131 : Int64))), .second, .val (.long (f0_35 q0)), .second, .val (.long (f0_20 q0)), .second, .val (.int (1 : Int32))] [(.long (f0_35 q0))])) _
    refine st20 _ ?_
    show Steps p.tables e below (T20.setTop (mkF m 100 #[.val (.long q0), .second, .val (.ref b1), .val (.long (q0 + (-7046029254386353131 : Int64))), .second, .val (.long (f0_20 q0)), .second, .val (.long (f0_26 q0)), .second, .val (.long (q0 + (-7046029254386353131 : Int64))), .second, .val (.long (f0_35 q0)), .second, .val (.long (f0_20 q0)), .second, .val (.int (1 : Int32))] [(.long (f5_ret (f0_35 q0)))])) _
    refine XS.lload X20.here hx rfl (hb hby at_100) rfl ?_
    show Steps p.tables e below (T20.setTop (mkF m 102 #[.val (.long q0), .second, .val (.ref b1), .val (.long (q0 + (-7046029254386353131 : Int64))), .second, .val (.long (f0_20 q0)), .second, .val (.long (f0_26 q0)), .second, .val (.long (q0 + (-7046029254386353131 : Int64))), .second, .val (.long (f0_35 q0)), .second, .val (.long (f0_20 q0)), .second, .val (.int (1 : Int32))] [(.long (f0_20 q0)), (.long (f5_ret (f0_35 q0)))])) _
    refine XS.lcmp X20.here hx rfl (hb hby at_102) rfl ?_
    show Steps p.tables e below (T20.setTop (mkF m 103 #[.val (.long q0), .second, .val (.ref b1), .val (.long (q0 + (-7046029254386353131 : Int64))), .second, .val (.long (f0_20 q0)), .second, .val (.long (f0_26 q0)), .second, .val (.long (q0 + (-7046029254386353131 : Int64))), .second, .val (.long (f0_35 q0)), .second, .val (.long (f0_20 q0)), .second, .val (.int (1 : Int32))] [(.int (lcmpW (f5_ret (f0_35 q0)) (f0_20 q0)))])) _
    refine XS.ifNo X20.here hx rfl (hb hby at_103) rfl (own_eqL (show (f5_ret (f0_35 q0)) = (f0_20 q0) from own_unm _)).2 ?_
    show Steps p.tables e below (T20.setTop (mkF m 106 #[.val (.long q0), .second, .val (.ref b1), .val (.long (q0 + (-7046029254386353131 : Int64))), .second, .val (.long (f0_20 q0)), .second, .val (.long (f0_26 q0)), .second, .val (.long (q0 + (-7046029254386353131 : Int64))), .second, .val (.long (f0_35 q0)), .second, .val (.long (f0_20 q0)), .second, .val (.int (1 : Int32))] [])) _
    refine XS.iconst X20.here hx rfl (hb hby at_106) ?_
    show Steps p.tables e below (T20.setTop (mkF m 107 #[.val (.long q0), .second, .val (.ref b1), .val (.long (q0 + (-7046029254386353131 : Int64))), .second, .val (.long (f0_20 q0)), .second, .val (.long (f0_26 q0)), .second, .val (.long (q0 + (-7046029254386353131 : Int64))), .second, .val (.long (f0_35 q0)), .second, .val (.long (f0_20 q0)), .second, .val (.int (1 : Int32))] [(.int (1 : Int32))])) _
    refine XS.goto X20.here hx rfl (pc0 := 107) (pc' := 111) rfl (hb hby at_107) (by decide) (by decide) ?_
    show Steps p.tables e below (T20.setTop (mkF m 111 #[.val (.long q0), .second, .val (.ref b1), .val (.long (q0 + (-7046029254386353131 : Int64))), .second, .val (.long (f0_20 q0)), .second, .val (.long (f0_26 q0)), .second, .val (.long (q0 + (-7046029254386353131 : Int64))), .second, .val (.long (f0_35 q0)), .second, .val (.long (f0_20 q0)), .second, .val (.int (1 : Int32))] [(.int (1 : Int32))])) _
    refine XS.istore X20.here hx rfl (hb hby at_111) rfl (l' := #[.val (.long q0), .second, .val (.ref b1), .val (.long (q0 + (-7046029254386353131 : Int64))), .second, .val (.long (f0_20 q0)), .second, .val (.long (f0_26 q0)), .second, .val (.long (q0 + (-7046029254386353131 : Int64))), .second, .val (.long (f0_35 q0)), .second, .val (.long (f0_20 q0)), .second, .val (.int (1 : Int32))]) rfl ?_
    show Steps p.tables e below (T20.setTop (mkF m 113 #[.val (.long q0), .second, .val (.ref b1), .val (.long (q0 + (-7046029254386353131 : Int64))), .second, .val (.long (f0_20 q0)), .second, .val (.long (f0_26 q0)), .second, .val (.long (q0 + (-7046029254386353131 : Int64))), .second, .val (.long (f0_35 q0)), .second, .val (.long (f0_20 q0)), .second, .val (.int (1 : Int32))] [])) _
    refine XS.iload X20.here hx rfl (hb hby at_113) rfl ?_
    show Steps p.tables e below (T20.setTop (mkF m 115 #[.val (.long q0), .second, .val (.ref b1), .val (.long (q0 + (-7046029254386353131 : Int64))), .second, .val (.long (f0_20 q0)), .second, .val (.long (f0_26 q0)), .second, .val (.long (q0 + (-7046029254386353131 : Int64))), .second, .val (.long (f0_35 q0)), .second, .val (.long (f0_20 q0)), .second, .val (.int (1 : Int32))] [(.int (1 : Int32))])) _
    refine XS.ifNo X20.here hx rfl (hb hby at_115) rfl ((if0 _ _).trans (feq (show ¬ ((1 : Int32) = (0 : Int32)) by decide)).1) ?_
    show Steps p.tables e below (T20.setTop (mkF m 118 #[.val (.long q0), .second, .val (.ref b1), .val (.long (q0 + (-7046029254386353131 : Int64))), .second, .val (.long (f0_20 q0)), .second, .val (.long (f0_26 q0)), .second, .val (.long (q0 + (-7046029254386353131 : Int64))), .second, .val (.long (f0_35 q0)), .second, .val (.long (f0_20 q0)), .second, .val (.int (1 : Int32))] [])) _
    refine X20.ldc2Long hx hown (mvT hZ (hw _ (List.mem_of_getElem? (i := 34) rfl))) (g := (mkF m 118 #[.val (.long q0), .second, .val (.ref b1), .val (.long (q0 + (-7046029254386353131 : Int64))), .second, .val (.long (f0_20 q0)), .second, .val (.long (f0_26 q0)), .second, .val (.long (q0 + (-7046029254386353131 : Int64))), .second, .val (.long (f0_35 q0)), .second, .val (.long (f0_20 q0)), .second, .val (.int (1 : Int32))] [])) rfl (hb hby at_118) _ ?_
    show Steps p.tables e below (T20.setTop (mkF m 121 #[.val (.long q0), .second, .val (.ref b1), .val (.long (q0 + (-7046029254386353131 : Int64))), .second, .val (.long (f0_20 q0)), .second, .val (.long (f0_26 q0)), .second, .val (.long (q0 + (-7046029254386353131 : Int64))), .second, .val (.long (f0_35 q0)), .second, .val (.long (f0_20 q0)), .second, .val (.int (1 : Int32))] [(.long (-4658895280553007687 : Int64))])) _
    refine st21 _ ?_
    show Steps p.tables e below (T21.setTop (mkF m 124 #[.val (.long q0), .second, .val (.ref b1), .val (.long (q0 + (-7046029254386353131 : Int64))), .second, .val (.long (f0_20 q0)), .second, .val (.long (f0_26 q0)), .second, .val (.long (q0 + (-7046029254386353131 : Int64))), .second, .val (.long (f0_35 q0)), .second, .val (.long (f0_20 q0)), .second, .val (.int (1 : Int32))] [(.long (f6_ret (-4658895280553007687 : Int64)))])) _
    refine X21.ldc2Long hx hown (mvT hZ (hw _ (List.mem_of_getElem? (i := 34) rfl))) (g := (mkF m 124 #[.val (.long q0), .second, .val (.ref b1), .val (.long (q0 + (-7046029254386353131 : Int64))), .second, .val (.long (f0_20 q0)), .second, .val (.long (f0_26 q0)), .second, .val (.long (q0 + (-7046029254386353131 : Int64))), .second, .val (.long (f0_35 q0)), .second, .val (.long (f0_20 q0)), .second, .val (.int (1 : Int32))] [(.long (f6_ret (-4658895280553007687 : Int64)))])) rfl (hb hby at_124) _ ?_
    show Steps p.tables e below (T21.setTop (mkF m 127 #[.val (.long q0), .second, .val (.ref b1), .val (.long (q0 + (-7046029254386353131 : Int64))), .second, .val (.long (f0_20 q0)), .second, .val (.long (f0_26 q0)), .second, .val (.long (q0 + (-7046029254386353131 : Int64))), .second, .val (.long (f0_35 q0)), .second, .val (.long (f0_20 q0)), .second, .val (.int (1 : Int32))] [(.long (-4658895280553007687 : Int64)), (.long (f6_ret (-4658895280553007687 : Int64)))])) _
    refine XS.lmul X21.here hx rfl (hb hby at_127) rfl ?_
    show Steps p.tables e below (T21.setTop (mkF m 128 #[.val (.long q0), .second, .val (.ref b1), .val (.long (q0 + (-7046029254386353131 : Int64))), .second, .val (.long (f0_20 q0)), .second, .val (.long (f0_26 q0)), .second, .val (.long (q0 + (-7046029254386353131 : Int64))), .second, .val (.long (f0_35 q0)), .second, .val (.long (f0_20 q0)), .second, .val (.int (1 : Int32))] [(.long ((f6_ret (-4658895280553007687 : Int64)) * (-4658895280553007687 : Int64)))])) _
    refine XS.lconst X21.here hx rfl (hb hby at_128) ?_
    show Steps p.tables e below (T21.setTop (mkF m 129 #[.val (.long q0), .second, .val (.ref b1), .val (.long (q0 + (-7046029254386353131 : Int64))), .second, .val (.long (f0_20 q0)), .second, .val (.long (f0_26 q0)), .second, .val (.long (q0 + (-7046029254386353131 : Int64))), .second, .val (.long (f0_35 q0)), .second, .val (.long (f0_20 q0)), .second, .val (.int (1 : Int32))] [(.long (1 : Int64)), (.long ((f6_ret (-4658895280553007687 : Int64)) * (-4658895280553007687 : Int64)))])) _
    refine XS.lcmp X21.here hx rfl (hb hby at_129) rfl ?_
    show Steps p.tables e below (T21.setTop (mkF m 130 #[.val (.long q0), .second, .val (.ref b1), .val (.long (q0 + (-7046029254386353131 : Int64))), .second, .val (.long (f0_20 q0)), .second, .val (.long (f0_26 q0)), .second, .val (.long (q0 + (-7046029254386353131 : Int64))), .second, .val (.long (f0_35 q0)), .second, .val (.long (f0_20 q0)), .second, .val (.int (1 : Int32))] [(.int (lcmpW ((f6_ret (-4658895280553007687 : Int64)) * (-4658895280553007687 : Int64)) (1 : Int64)))])) _
    refine XS.ifNo X21.here hx rfl (hb hby at_130) rfl (own_eqL (show ((f6_ret (-4658895280553007687 : Int64)) * (-4658895280553007687 : Int64)) = (1 : Int64) from by decide +kernel)).2 ?_
    show Steps p.tables e below (T21.setTop (mkF m 133 #[.val (.long q0), .second, .val (.ref b1), .val (.long (q0 + (-7046029254386353131 : Int64))), .second, .val (.long (f0_20 q0)), .second, .val (.long (f0_26 q0)), .second, .val (.long (q0 + (-7046029254386353131 : Int64))), .second, .val (.long (f0_35 q0)), .second, .val (.long (f0_20 q0)), .second, .val (.int (1 : Int32))] [])) _
    refine X21.ldc2Long hx hown (mvT hZ (hw _ (List.mem_of_getElem? (i := 29) rfl))) (g := (mkF m 133 #[.val (.long q0), .second, .val (.ref b1), .val (.long (q0 + (-7046029254386353131 : Int64))), .second, .val (.long (f0_20 q0)), .second, .val (.long (f0_26 q0)), .second, .val (.long (q0 + (-7046029254386353131 : Int64))), .second, .val (.long (f0_35 q0)), .second, .val (.long (f0_20 q0)), .second, .val (.int (1 : Int32))] [])) rfl (hb hby at_133) _ ?_
    show Steps p.tables e below (T21.setTop (mkF m 136 #[.val (.long q0), .second, .val (.ref b1), .val (.long (q0 + (-7046029254386353131 : Int64))), .second, .val (.long (f0_20 q0)), .second, .val (.long (f0_26 q0)), .second, .val (.long (q0 + (-7046029254386353131 : Int64))), .second, .val (.long (f0_35 q0)), .second, .val (.long (f0_20 q0)), .second, .val (.int (1 : Int32))] [(.long (-7723592293110705685 : Int64))])) _
    refine st22 _ ?_
    show Steps p.tables e below (T22.setTop (mkF m 139 #[.val (.long q0), .second, .val (.ref b1), .val (.long (q0 + (-7046029254386353131 : Int64))), .second, .val (.long (f0_20 q0)), .second, .val (.long (f0_26 q0)), .second, .val (.long (q0 + (-7046029254386353131 : Int64))), .second, .val (.long (f0_35 q0)), .second, .val (.long (f0_20 q0)), .second, .val (.int (1 : Int32))] [(.long (f6_ret (-7723592293110705685 : Int64)))])) _
    refine X22.ldc2Long hx hown (mvT hZ (hw _ (List.mem_of_getElem? (i := 29) rfl))) (g := (mkF m 139 #[.val (.long q0), .second, .val (.ref b1), .val (.long (q0 + (-7046029254386353131 : Int64))), .second, .val (.long (f0_20 q0)), .second, .val (.long (f0_26 q0)), .second, .val (.long (q0 + (-7046029254386353131 : Int64))), .second, .val (.long (f0_35 q0)), .second, .val (.long (f0_20 q0)), .second, .val (.int (1 : Int32))] [(.long (f6_ret (-7723592293110705685 : Int64)))])) rfl (hb hby at_139) _ ?_
    show Steps p.tables e below (T22.setTop (mkF m 142 #[.val (.long q0), .second, .val (.ref b1), .val (.long (q0 + (-7046029254386353131 : Int64))), .second, .val (.long (f0_20 q0)), .second, .val (.long (f0_26 q0)), .second, .val (.long (q0 + (-7046029254386353131 : Int64))), .second, .val (.long (f0_35 q0)), .second, .val (.long (f0_20 q0)), .second, .val (.int (1 : Int32))] [(.long (-7723592293110705685 : Int64)), (.long (f6_ret (-7723592293110705685 : Int64)))])) _
    refine XS.lmul X22.here hx rfl (hb hby at_142) rfl ?_
    show Steps p.tables e below (T22.setTop (mkF m 143 #[.val (.long q0), .second, .val (.ref b1), .val (.long (q0 + (-7046029254386353131 : Int64))), .second, .val (.long (f0_20 q0)), .second, .val (.long (f0_26 q0)), .second, .val (.long (q0 + (-7046029254386353131 : Int64))), .second, .val (.long (f0_35 q0)), .second, .val (.long (f0_20 q0)), .second, .val (.int (1 : Int32))] [(.long ((f6_ret (-7723592293110705685 : Int64)) * (-7723592293110705685 : Int64)))])) _
    refine XS.lconst X22.here hx rfl (hb hby at_143) ?_
    show Steps p.tables e below (T22.setTop (mkF m 144 #[.val (.long q0), .second, .val (.ref b1), .val (.long (q0 + (-7046029254386353131 : Int64))), .second, .val (.long (f0_20 q0)), .second, .val (.long (f0_26 q0)), .second, .val (.long (q0 + (-7046029254386353131 : Int64))), .second, .val (.long (f0_35 q0)), .second, .val (.long (f0_20 q0)), .second, .val (.int (1 : Int32))] [(.long (1 : Int64)), (.long ((f6_ret (-7723592293110705685 : Int64)) * (-7723592293110705685 : Int64)))])) _
    refine XS.lcmp X22.here hx rfl (hb hby at_144) rfl ?_
    show Steps p.tables e below (T22.setTop (mkF m 145 #[.val (.long q0), .second, .val (.ref b1), .val (.long (q0 + (-7046029254386353131 : Int64))), .second, .val (.long (f0_20 q0)), .second, .val (.long (f0_26 q0)), .second, .val (.long (q0 + (-7046029254386353131 : Int64))), .second, .val (.long (f0_35 q0)), .second, .val (.long (f0_20 q0)), .second, .val (.int (1 : Int32))] [(.int (lcmpW ((f6_ret (-7723592293110705685 : Int64)) * (-7723592293110705685 : Int64)) (1 : Int64)))])) _
    refine XS.ifNo X22.here hx rfl (hb hby at_145) rfl (own_eqL (show ((f6_ret (-7723592293110705685 : Int64)) * (-7723592293110705685 : Int64)) = (1 : Int64) from by decide +kernel)).2 ?_
    show Steps p.tables e below (T22.setTop (mkF m 148 #[.val (.long q0), .second, .val (.ref b1), .val (.long (q0 + (-7046029254386353131 : Int64))), .second, .val (.long (f0_20 q0)), .second, .val (.long (f0_26 q0)), .second, .val (.long (q0 + (-7046029254386353131 : Int64))), .second, .val (.long (f0_35 q0)), .second, .val (.long (f0_20 q0)), .second, .val (.int (1 : Int32))] [])) _
    refine XS.iconst X22.here hx rfl (hb hby at_148) ?_
    show Steps p.tables e below (T22.setTop (mkF m 149 #[.val (.long q0), .second, .val (.ref b1), .val (.long (q0 + (-7046029254386353131 : Int64))), .second, .val (.long (f0_20 q0)), .second, .val (.long (f0_26 q0)), .second, .val (.long (q0 + (-7046029254386353131 : Int64))), .second, .val (.long (f0_35 q0)), .second, .val (.long (f0_20 q0)), .second, .val (.int (1 : Int32))] [(.int (1 : Int32))])) _
    refine XS.goto X22.here hx rfl (pc0 := 149) (pc' := 153) rfl (hb hby at_149) (by decide) (by decide) ?_
    show Steps p.tables e below (T22.setTop (mkF m 153 #[.val (.long q0), .second, .val (.ref b1), .val (.long (q0 + (-7046029254386353131 : Int64))), .second, .val (.long (f0_20 q0)), .second, .val (.long (f0_26 q0)), .second, .val (.long (q0 + (-7046029254386353131 : Int64))), .second, .val (.long (f0_35 q0)), .second, .val (.long (f0_20 q0)), .second, .val (.int (1 : Int32))] [(.int (1 : Int32))])) _
    refine XS.istore X22.here hx rfl (hb hby at_153) rfl (l' := #[.val (.long q0), .second, .val (.ref b1), .val (.long (q0 + (-7046029254386353131 : Int64))), .second, .val (.long (f0_20 q0)), .second, .val (.long (f0_26 q0)), .second, .val (.long (q0 + (-7046029254386353131 : Int64))), .second, .val (.long (f0_35 q0)), .second, .val (.long (f0_20 q0)), .second, .val (.int (1 : Int32))]) rfl ?_
    show Steps p.tables e below (T22.setTop (mkF m 155 #[.val (.long q0), .second, .val (.ref b1), .val (.long (q0 + (-7046029254386353131 : Int64))), .second, .val (.long (f0_20 q0)), .second, .val (.long (f0_26 q0)), .second, .val (.long (q0 + (-7046029254386353131 : Int64))), .second, .val (.long (f0_35 q0)), .second, .val (.long (f0_20 q0)), .second, .val (.int (1 : Int32))] [])) _
    refine XS.iload X22.here hx rfl (hb hby at_155) rfl ?_
    show Steps p.tables e below (T22.setTop (mkF m 157 #[.val (.long q0), .second, .val (.ref b1), .val (.long (q0 + (-7046029254386353131 : Int64))), .second, .val (.long (f0_20 q0)), .second, .val (.long (f0_26 q0)), .second, .val (.long (q0 + (-7046029254386353131 : Int64))), .second, .val (.long (f0_35 q0)), .second, .val (.long (f0_20 q0)), .second, .val (.int (1 : Int32))] [(.int (1 : Int32))])) _
    exact k)
  obtain ⟨fs, hr, hrun, hended, hW, hsame⟩ := X22.leave (v := some (.int (1 : Int32))) (fun h => by rw [Bd.returns] at h; cases h)
  refine ⟨_, _, pre23 _ ?_, hrun, hended, _, _, rfl, ?_, ⟨_, rfl⟩, hW, hsame.mono (by decide) (by decide)⟩
  · exact retN X22 hx (t := .boolean) Bd.returns (by simp) (hb hby at_157) hr
  · show Q0 Z q0 h0 n0 _ T22.heap _
    rw [hh22]
    exact ⟨rfl, N22⟩
set_option maxRecDepth 65536 in
set_option maxHeartbeats 40000000 in
theorem comes_1 {Post : Tables → Env → Array Value → State → Outcome → State → Prop} (hpost : ∀ tb e args s v u, (limb_1_1.after args s (.returned v) u = true ∧ limb_1_2.after args s (.returned v) u = true ∧ True) → FrameEnd s (.returned v) u (Jvm.fieldLocs frame_1_writes args s ++ Jvm.arrayLocs frame_1_arrays args s ++ Jvm.staticLocs frame_1_statics s) 16 128 → Post tb e args s (.returned v) u) :
    ArmFor flags0 classFile x code maxLocals ret World_1 tables_1 room_1 Calls_1 rest_1 Pre_1 Post := by
  intro l hfl _ _ p e ha hc hk s m args below hf hA hF happ hP
  obtain ⟨hcalls, hrest, hpre⟩ := hP
  obtain ⟨-, -, -, hnamed, -, -, -, hat⟩ := (Spec.applies_iff hf).mp happ
  obtain ⟨hg, hn⟩ := and_e (Cond.before_iff.mp (show (Jvm.Cond.and given_1 narrow_1).before args s = true from hpre))
  obtain ⟨h1, g0⟩ := and_e hg
  obtain ⟨w0, rfl⟩ : ∃ w0 : Value, args = #[w0] := by
    have hs : args.size = 1 := by simpa [Cond.value, given_1] using h1
    obtain ⟨L⟩ := args
    match L, hs with
    | [w0], _ => exact ⟨w0, rfl⟩
  have hw := fun d (hd : d ∈ tables_1) => atoms_spec (ws := Jvm.Cond.code x code maxLocals ret :: tables_1) hat d (List.mem_cons_of_mem _ hd)
  have hfit : Fit s := fun {y c} hc i hi => by
    obtain ⟨ha, rfl⟩ := Array.getElem?_eq_some_iff.mp hc
    have q := List.all_eq_true.mp ((Array.all_eq_true_iff_forall_mem.mp hF) _ (Array.getElem_mem ha)) i (List.mem_range.mpr hi)
    simpa [Array.getElem?_eq_getElem hi] using q
  obtain ⟨i0, e0⟩ := isL_v g0
  obtain rfl : w0 = (.long i0) := Option.some.inj e0
  obtain ⟨n, o, h1, h2, h3, _, L, rfl, ⟨rfl, N⟩, hq⟩ := rm0 l s _ hw tables_1 i0  s.heap s.heap.size (Nat.le_refl _)  p e ha hc hk s m _ below hf ((Spec.applies_iff_loose hf).mp happ).1 ⟨rfl, State.Warmed39.refl s, rfl⟩ trivial
  refine ⟨n, _, h1, h2, h3, hpost _ _ _ _ _ _ ⟨Cond.after_iff.mpr rfl, Cond.after_iff.mpr (eq_i res_at (Term.int_eval (1)) rfl), trivial⟩ ⟨hq.1, hq.2.1, (hq.2.2.sift fun y hy => Or.inr (N y hy)).mono (by decide) (by decide)⟩⟩
theorem main_1_1 : Claimed_1_1 := comes_1 fun _ _ _ _ _ _ h hF => ⟨h.1, hF⟩
theorem main_1_2 : Claimed_1_2 := comes_1 fun _ _ _ _ _ _ h hF => ⟨h.2.1, hF⟩
end Jvm.Pilot.@@N@@
namespace Jvm.Pilot.@@N@@
open Jvm Jvm.ClassFile Sem Op Lib Jvm.Free Jvm.Stand Jvm.Pilot.@@N@@.Jvm.D
/-! MADE BY PROGRAM (witnessworld.py) out of the Statement's table words and the real class files: 9 classes; the members and pool entries that the words name. The judged class is class 1, her method 3. -/
namespace start1
open Jvm.ClassFile
def u (s : String) : CpInfo := .utf8 (stringToUtf16 s)
/-- a pool by its gaps: so many unusable entries, then the entry; so many at the end -/
def gap : Nat → List CpInfo → List CpInfo
  | 0, r => r
  | n + 1, r => .unusable :: gap n r
def poolList (es : List (Nat × CpInfo)) (last : Nat) : List CpInfo := es.foldr (fun e r => gap e.1 (e.2 :: r)) (gap last [])
def pool (es : List (Nat × CpInfo)) (last : Nat) : Array CpInfo := ⟨poolList es last⟩
def fileOf (pool : Array CpInfo) (this : Nat) (attrs : Array Attribute := #[]) (ms : Array MethodInfo := #[]) (fl : Nat := 33) (sup : Nat := 0) (ifs : Array Nat := #[]) (fds : Array FieldInfo := #[]) : ClassFile where
  minorVersion := 0
  majorVersion := 65
  constantPool := pool
  accessFlags := fl
  thisClass := this
  superClass := sup
  interfaces := ifs
  fields := fds
  methods := ms
  attributes := attrs
def plain (name : String) (sup : Option ClassId) : Class where
  name := name
  kind := .ordinary
  loader := none
  accessFlags := 33
  super := sup
  interfaces := #[]
  cf := none
  fields := #[]
  methods := #[]
  instanceTypes := #[]
  staticTypes := #[]
  resolved := #[]
  callSites := []
  init := .initialized
  statics := none
  mirror := none

def pool0 : Array CpInfo := pool [(5, u "<init>"), (0, u "()V"), (1, .class_ 10), (1, u "java/lang/Object")] 113

def k0c0 : Code := { maxStack := 0, maxLocals := 1, code := object_method_1_code, exceptionTable := #[], attributes := #[] }
def k0m0 : Method := { name := "<init>", desc := "()V", sig := { parameters := [], returnType := none }, accessFlags := 1, code := some k0c0 }
/-- java/lang/Object -/
def k0 : Class := { plain "java/lang/Object" none with
  accessFlags := 33
  interfaces := #[]
  cf := some (fileOf pool0 8 #[] #[{ accessFlags := 1, nameIndex := 5, descriptorIndex := 6, attributes := #[] }] 33 0 #[] #[])
  fields := #[]
  methods := #[k0m0]
  instanceTypes := #[]
  staticTypes := #[]
  resolved := Array.replicate 124 none
  statics := none }

def pool1 : Array CpInfo := pool [(2, .class_ 4), (1, u "java/lang/Object"), (0, u "<init>"), (0, u "()V"), (0, .long 2), (1, .class_ 10), (0, u "com/example/wakasato/wakasato/search/SeededRandomNextLongPinLaw"), (0, .long 10723151780598845931), (1, .methodref 9 14), (0, .nameAndType 15 16), (0, u "inv"), (0, u "(J)J"), (0, .long 13787848793156543929), (1, .class_ 20), (0, u "com/example/wakasato/wakasato/search/SeededRandom"), (0, .methodref 19 22), (0, .nameAndType 5 23), (0, u "(J)V"), (0, .long 11400714819323198485), (1, .methodref 19 27), (0, .nameAndType 28 29), (0, u "nextLong"), (0, u "()J"), (0, .methodref 19 31), (0, .nameAndType 32 29), (0, u "state"), (0, .methodref 9 34), (0, .nameAndType 35 16), (0, u "unmix"), (0, u "GAMMA"), (0, u "J"), (1, u "C1"), (0, u "C2"), (2, u "law"), (0, u "(J)Z")] 3

def k1m0 : Method := { name := "<init>", desc := "()V", sig := { parameters := [], returnType := none }, accessFlags := 1, code := none }
def k1c1 : Code := { maxStack := 8, maxLocals := 4, code := method_2_code, exceptionTable := #[], attributes := #[] }
def k1m1 : Method := { name := "inv", desc := "(J)J", sig := { parameters := [.long], returnType := some .long }, accessFlags := 10, code := some k1c1 }
def k1c2 : Code := { maxStack := 5, maxLocals := 10, code := method_3_code, exceptionTable := #[], attributes := #[] }
def k1m2 : Method := { name := "unmix", desc := "(J)J", sig := { parameters := [.long], returnType := some .long }, accessFlags := 10, code := some k1c2 }
def k1c3 : Code := { maxStack := 4, maxLocals := 16, code := code, exceptionTable := #[], attributes := #[] }
def k1m3 : Method := { name := "law", desc := "(J)Z", sig := { parameters := [.long], returnType := some .boolean }, accessFlags := 9, code := some k1c3 }
/-- com/example/wakasato/wakasato/search/SeededRandomNextLongPinLaw -/
def k1 : Class := { plain "com/example/wakasato/wakasato/search/SeededRandomNextLongPinLaw" (some 0) with
  accessFlags := 49
  interfaces := #[]
  cf := some (fileOf pool1 9 #[] #[{ accessFlags := 1, nameIndex := 5, descriptorIndex := 6, attributes := #[] }, { accessFlags := 10, nameIndex := 15, descriptorIndex := 16, attributes := #[] }, { accessFlags := 10, nameIndex := 35, descriptorIndex := 16, attributes := #[] }, { accessFlags := 9, nameIndex := 43, descriptorIndex := 44, attributes := #[] }] 49 2 #[] #[{ accessFlags := 26, nameIndex := 36, descriptorIndex := 37, attributes := #[] }, { accessFlags := 26, nameIndex := 39, descriptorIndex := 37, attributes := #[] }, { accessFlags := 26, nameIndex := 40, descriptorIndex := 37, attributes := #[] }])
  fields := #[{ name := "GAMMA", type := .long, accessFlags := 26, slot := 0, constantValue := 0 }, { name := "C1", type := .long, accessFlags := 26, slot := 1, constantValue := 0 }, { name := "C2", type := .long, accessFlags := 26, slot := 2, constantValue := 0 }]
  methods := #[k1m0, k1m1, k1m2, k1m3]
  instanceTypes := #[]
  staticTypes := #[.long, .long, .long]
  resolved := Array.replicate 48 none
  statics := none }

def pool2 : Array CpInfo := pool [(1, .methodref 2 3), (0, .class_ 4), (0, .nameAndType 5 6), (0, u "java/lang/Object"), (0, u "<init>"), (0, u "()V"), (0, .fieldref 8 9), (0, .class_ 10), (0, .nameAndType 11 12), (0, u "com/example/wakasato/wakasato/search/SeededRandom"), (0, u "state"), (0, u "J"), (0, .long 11400714819323198485), (1, .long 13787848793156543929), (1, .long 10723151780598845931), (12, u "nextLong"), (0, u "()J"), (2, u "GAMMA"), (1, u "UNIT"), (0, u "D"), (0, u "(J)V")] 26

def k2c0 : Code := { maxStack := 3, maxLocals := 3, code := prog_8_method_1_code, exceptionTable := #[], attributes := #[] }
def k2m0 : Method := { name := "<init>", desc := "(J)V", sig := { parameters := [.long], returnType := none }, accessFlags := 0, code := some k2c0 }
def k2c1 : Code := { maxStack := 2, maxLocals := 1, code := prog_8_method_2_code, exceptionTable := #[], attributes := #[] }
def k2m1 : Method := { name := "state", desc := "()J", sig := { parameters := [], returnType := some .long }, accessFlags := 0, code := some k2c1 }
def k2c2 : Code := { maxStack := 5, maxLocals := 3, code := prog_8_method_3_code, exceptionTable := #[], attributes := #[] }
def k2m2 : Method := { name := "nextLong", desc := "()J", sig := { parameters := [], returnType := some .long }, accessFlags := 0, code := some k2c2 }
/-- com/example/wakasato/wakasato/search/SeededRandom -/
def k2 : Class := { plain "com/example/wakasato/wakasato/search/SeededRandom" (some 0) with
  accessFlags := 48
  interfaces := #[]
  cf := some (fileOf pool2 8 #[] #[{ accessFlags := 0, nameIndex := 5, descriptorIndex := 38, attributes := #[] }, { accessFlags := 0, nameIndex := 11, descriptorIndex := 31, attributes := #[] }, { accessFlags := 0, nameIndex := 30, descriptorIndex := 31, attributes := #[] }] 48 2 #[] #[{ accessFlags := 26, nameIndex := 34, descriptorIndex := 12, attributes := #[] }, { accessFlags := 26, nameIndex := 36, descriptorIndex := 37, attributes := #[] }, { accessFlags := 2, nameIndex := 11, descriptorIndex := 12, attributes := #[] }])
  fields := #[{ name := "GAMMA", type := .long, accessFlags := 26, slot := 0, constantValue := 0 }, { name := "UNIT", type := .double, accessFlags := 26, slot := 1, constantValue := 0 }, { name := "state", type := .long, accessFlags := 2, slot := 0, constantValue := 0 }]
  methods := #[k2m0, k2m1, k2m2]
  instanceTypes := #[.long]
  staticTypes := #[.long, .double]
  resolved := Array.replicate 65 none
  statics := none }

def pool3 : Array CpInfo := pool [(1, u "java/lang/Cloneable"), (0, .class_ 1), (0, u "java/lang/Object"), (0, .class_ 3)] 3

/-- java/lang/Cloneable -/
def k3 : Class := { plain "java/lang/Cloneable" (some 0) with
  accessFlags := 1537
  interfaces := #[]
  cf := some (fileOf pool3 2 #[] #[] 1537 4 #[] #[])
  fields := #[]
  methods := #[]
  instanceTypes := #[]
  staticTypes := #[]
  resolved := Array.replicate 8 none
  statics := none }

def pool4 : Array CpInfo := pool [(1, u "java/io/Serializable"), (0, .class_ 1), (0, u "java/lang/Object"), (0, .class_ 3)] 3

/-- java/io/Serializable -/
def k4 : Class := { plain "java/io/Serializable" (some 0) with
  accessFlags := 1537
  interfaces := #[]
  cf := some (fileOf pool4 2 #[] #[] 1537 4 #[] #[])
  fields := #[]
  methods := #[]
  instanceTypes := #[]
  staticTypes := #[]
  resolved := Array.replicate 8 none
  statics := none }

/-- the primitive byte -/
def k5 : Class := { plain "byte" none with kind := .primitive 'B', accessFlags := 0x411 }
/-- [B -/
def k6 : Class := { plain "[B" (some 0) with kind := .array 5 .byte, interfaces := #[3, 4], accessFlags := 1041 }

/-- the primitive int -/
def k7 : Class := { plain "int" none with kind := .primitive 'I', accessFlags := 0x411 }
/-- [I -/
def k8 : Class := { plain "[I" (some 0) with kind := .array 7 .int, interfaces := #[3, 4], accessFlags := 1041 }

def heap : Heap := #[]
def classes : Array Class := #[k0, k1, k2, k3, k4, k5, k6, k7, k8]
def interned : List (Array UInt16 × Addr) := []
def slotsUsed : Nat := 0
def theMethod : MethodId := ⟨1, 3⟩
def args0 : Array Value := #[.long 5]
def aboutOver (below : List Frame) : State where
  vm := { classes := classes, interned := interned.toArray }
  heap := heap
  slotsUsed := slotsUsed
  threads := #[{ frames := .invoking theMethod args0 :: below }]
def below0 : List Frame := [.native { method := ⟨0, 0⟩, args := #[] }]
def about1 : State := aboutOver below0
def p0 : Program := .bare "" "" ""
def e0 : Env := launch0.env 0 0 0
theorem w_frames : about1.frames = Frame.invoking theMethod args0 :: below0 := rfl
set_option maxRecDepth 65536 in
theorem w_args : argsFit about1.vm theMethod args0 = true := by decide +kernel
set_option maxRecDepth 65536 in
theorem w_heap : heapFits about1 = true := by decide +kernel
set_option maxRecDepth 65536 in
theorem w_runnable : about1.curStatus? = some .runnable := by decide +kernel
set_option maxRecDepth 65536 in
theorem w_alone : about1.alone = true := by decide +kernel
set_option maxRecDepth 65536 in
theorem w_named : about1.methodNamed? x = some theMethod := by decide +kernel
set_option maxRecDepth 65536 in
theorem w_hears : about1.hears theMethod below0 = true := by decide +kernel
set_option maxRecDepth 65536 in
theorem w_ripe : about1.ripe theMethod args0 below0 = true := by decide +kernel
theorem w_running : about1.status = .running := rfl
set_option maxRecDepth 65536 in
theorem w_room : about1.hasRoom e0.platform room_1 = true :=
  launch0.hasRoom_least _ room_1 (by decide +kernel) (by decide +kernel) (by decide +kernel) (by decide +kernel) (by decide +kernel) (by decide +kernel)
theorem allAtoms_all (ts : List Jvm.Cond) (a : Array Jvm.Value) (st : Jvm.State) : (allAtoms ts).before a st = ts.all (fun c => c.before a st) := by
  induction ts with
  | nil => rfl
  | cons c t ih =>
    show (Jvm.Cond.and c (allAtoms t)).before a st = _
    rw [Jvm.Cond.before_and, ih, List.all_cons]
def words1 : List Jvm.Cond := Jvm.Cond.code x code maxLocals ret :: tables_1
/-- a 'code' word, met by the world's own term for the bytes: nothing is compared byte by byte -/
theorem code_word {y : MethodName} {bytes : ByteArray} {mx : Nat} {rt : Option FieldType} {a : Array Value} {s : State} {m : MethodId} {meth : Method} {c : Code} (h1 : s.methodNamed? y = some m) (h2 : s.vm.method? m = some meth) (h3 : meth.code = some c) (h4 : c.code = bytes)
    (h5 : (c.maxLocals == mx && c.exceptionTable.isEmpty && decide (c.maxStack ≤ mostOperands) && decide (meth.sig.returnType = rt) && !meth.locks && decide (parseMethodDescriptor y.desc = some meth.sig)) = true) : (Jvm.Cond.code y bytes mx rt).before a s = true := by
  simp only [Bool.and_eq_true, beq_iff_eq, Bool.not_eq_true', decide_eq_true_eq] at h5
  obtain ⟨⟨⟨⟨⟨g1, g2⟩, g3⟩, g4⟩, g5⟩, g6⟩ := h5
  simp [Cond.before, Cond.holds, Cond.value, h1, h2, h3, h4, g1, g2, g3, g4, g5, g6]
def isCode : Jvm.Cond → Bool
  | .code _ _ _ _ => true
  | _ => false
theorem all_split {L : List Jvm.Cond} {P : Jvm.Cond → Bool} (h1 : L.all (fun c => isCode c || P c) = true) (h2 : ∀ c ∈ L.filter isCode, P c = true) : L.all P = true := by
  refine List.all_eq_true.mpr fun c hc => ?_
  have h := List.all_eq_true.mp h1 c hc
  rcases Bool.eq_false_or_eq_true (isCode c) with hi | hi
  · exact h2 c (List.mem_filter.mpr ⟨hc, hi⟩)
  · simpa [hi] using h
set_option maxRecDepth 65536 in
theorem w_c0 : (Jvm.Cond.code x code maxLocals ret).before args0 about1 = true := code_word (m := ⟨1, 3⟩) (meth := k1m3) (c := k1c3) (by decide +kernel) rfl rfl rfl (by decide +kernel)
set_option maxRecDepth 65536 in
theorem w_c1 : (Jvm.Cond.code ({ cls := "com/example/wakasato/wakasato/search/SeededRandom", name := "<init>", desc := "(J)V" } : Jvm.MethodName) prog_8_method_1_code (3 : Nat) (Option.none : Option Jvm.ClassFile.FieldType)).before args0 about1 = true := code_word (m := ⟨2, 0⟩) (meth := k2m0) (c := k2c0) (by decide +kernel) rfl rfl rfl (by decide +kernel)
set_option maxRecDepth 65536 in
theorem w_c2 : (Jvm.Cond.code ({ cls := "java/lang/Object", name := "<init>", desc := "()V" } : Jvm.MethodName) object_method_1_code (1 : Nat) (Option.none : Option Jvm.ClassFile.FieldType)).before args0 about1 = true := code_word (m := ⟨0, 0⟩) (meth := k0m0) (c := k0c0) (by decide +kernel) rfl rfl rfl (by decide +kernel)
set_option maxRecDepth 65536 in
theorem w_c3 : (Jvm.Cond.code ({ cls := "com/example/wakasato/wakasato/search/SeededRandom", name := "nextLong", desc := "()J" } : Jvm.MethodName) prog_8_method_3_code (3 : Nat) (Option.some Jvm.ClassFile.FieldType.long)).before args0 about1 = true := code_word (m := ⟨2, 2⟩) (meth := k2m2) (c := k2c2) (by decide +kernel) rfl rfl rfl (by decide +kernel)
set_option maxRecDepth 65536 in
theorem w_c4 : (Jvm.Cond.code ({ cls := "com/example/wakasato/wakasato/search/SeededRandom", name := "state", desc := "()J" } : Jvm.MethodName) prog_8_method_2_code (1 : Nat) (Option.some Jvm.ClassFile.FieldType.long)).before args0 about1 = true := code_word (m := ⟨2, 1⟩) (meth := k2m1) (c := k2c1) (by decide +kernel) rfl rfl rfl (by decide +kernel)
set_option maxRecDepth 65536 in
theorem w_c5 : (Jvm.Cond.code ({ cls := "com/example/wakasato/wakasato/search/SeededRandomNextLongPinLaw", name := "unmix", desc := "(J)J" } : Jvm.MethodName) method_3_code (10 : Nat) (Option.some Jvm.ClassFile.FieldType.long)).before args0 about1 = true := code_word (m := ⟨1, 2⟩) (meth := k1m2) (c := k1c2) (by decide +kernel) rfl rfl rfl (by decide +kernel)
set_option maxRecDepth 65536 in
theorem w_c6 : (Jvm.Cond.code ({ cls := "com/example/wakasato/wakasato/search/SeededRandomNextLongPinLaw", name := "inv", desc := "(J)J" } : Jvm.MethodName) method_2_code (4 : Nat) (Option.some Jvm.ClassFile.FieldType.long)).before args0 about1 = true := code_word (m := ⟨1, 1⟩) (meth := k1m1) (c := k1c1) (by decide +kernel) rfl rfl rfl (by decide +kernel)
def codes1 : List Jvm.Cond := [Jvm.Cond.code x code maxLocals ret, Jvm.Cond.code ({ cls := "com/example/wakasato/wakasato/search/SeededRandom", name := "<init>", desc := "(J)V" } : Jvm.MethodName) prog_8_method_1_code (3 : Nat) (Option.none : Option Jvm.ClassFile.FieldType), Jvm.Cond.code ({ cls := "java/lang/Object", name := "<init>", desc := "()V" } : Jvm.MethodName) object_method_1_code (1 : Nat) (Option.none : Option Jvm.ClassFile.FieldType), Jvm.Cond.code ({ cls := "com/example/wakasato/wakasato/search/SeededRandom", name := "nextLong", desc := "()J" } : Jvm.MethodName) prog_8_method_3_code (3 : Nat) (Option.some Jvm.ClassFile.FieldType.long), Jvm.Cond.code ({ cls := "com/example/wakasato/wakasato/search/SeededRandom", name := "state", desc := "()J" } : Jvm.MethodName) prog_8_method_2_code (1 : Nat) (Option.some Jvm.ClassFile.FieldType.long), Jvm.Cond.code ({ cls := "com/example/wakasato/wakasato/search/SeededRandomNextLongPinLaw", name := "unmix", desc := "(J)J" } : Jvm.MethodName) method_3_code (10 : Nat) (Option.some Jvm.ClassFile.FieldType.long), Jvm.Cond.code ({ cls := "com/example/wakasato/wakasato/search/SeededRandomNextLongPinLaw", name := "inv", desc := "(J)J" } : Jvm.MethodName) method_2_code (4 : Nat) (Option.some Jvm.ClassFile.FieldType.long)]
set_option maxRecDepth 65536 in
theorem codes_eq : words1.filter isCode = codes1 := rfl
theorem w_codes : ∀ c ∈ words1.filter isCode, c.before args0 about1 = true := by
  rw [codes_eq]
  intro c hc
  simp only [codes1, List.mem_cons, List.not_mem_nil, or_false] at hc
  rcases hc with rfl | rfl | rfl | rfl | rfl | rfl | rfl
  · exact w_c0
  · exact w_c1
  · exact w_c2
  · exact w_c3
  · exact w_c4
  · exact w_c5
  · exact w_c6
set_option maxRecDepth 65536 in
theorem w_t1 : (words1.take 24).all (fun c => isCode c || c.before args0 about1) = true := by decide +kernel
set_option maxRecDepth 65536 in
theorem w_t2 : (words1.drop 24).all (fun c => isCode c || c.before args0 about1) = true := by decide +kernel
theorem w_tables : (allAtoms (Jvm.Cond.code x code maxLocals ret :: tables_1)).before args0 about1 = true := by
  rw [allAtoms_all]
  show words1.all (fun c => c.before args0 about1) = true
  refine all_split ?_ w_codes
  rw [← List.take_append_drop 24 words1, List.all_append, w_t1, w_t2]
  rfl
set_option maxRecDepth 65536 in
theorem w_case : (Jvm.Cond.and given_1 narrow_1).before args0 about1 = true := by decide +kernel
theorem w_applies : (headSpec (Jvm.Cond.code x code maxLocals ret :: tables_1) room_1).applies x e0.platform about1 = true :=
  (Spec.applies_iff w_frames).mpr ⟨w_running, w_runnable, w_alone, w_named, w_hears, w_ripe, w_room, w_tables⟩
theorem atStart : AtStart classFile x code maxLocals ret World_1 tables_1 room_1 Calls_1 rest_1 Pre_1 launch0 p0 e0 about1 theMethod args0 below0 :=
  ⟨lists_1, trivial, launch0.admits_env _ _ _, launch0.least_env, fairChoices_fair.cas, fairChoices_fair.clock, w_frames, w_args, w_heap, w_applies, trivial, trivial, w_case⟩
end start1
theorem witness_1 : WitnessClaimed_1 := ⟨start1.p0, start1.e0, start1.about1, start1.theMethod, start1.args0, start1.below0, start1.atStart⟩
end Jvm.Pilot.@@N@@
