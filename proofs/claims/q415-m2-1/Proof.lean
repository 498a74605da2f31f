import JvmDerived
import JvmDerived.Pilot.@@N@@Statement
import JvmDerived.Pilot.@@N@@Code
set_option linter.unusedVariables false
set_option linter.unusedSimpArgs false
namespace Jvm.RoadKit
open Sem ClassFile Op Lib Jvm.Stand Jvm.Free Jvm.LawKit
section New
variable {p : Program} {l : Launch} {e : Env} {R : Room} {s : State} {m : MethodId} {args : Array Value} {below : List Frame} {meth : Method} {c : Code} {T : State} {locs : List Loc} {cells slots : Nat}
theorem retI (X : Stand p l e R s m args below meth c T locs cells slots) (hx : p.tables.exec = Jvm.exec) {pc : Nat} {Ls : Array Slot} {z : Int32} {rest : List Value} (hret : meth.sig.returnType = some .int) (hd : decode c.code pc = .ok (.ireturn, 1)) {fs : List Frame}
    (hl : ∀ (f : JFrame) (acts : List Action), f.method = m → f.locked = none → f.entered = [] → (doReturn e (T.setTop f) acts (some (.int z))).1 = T.setFrames fs) : Steps p.tables e below (T.setTop (mkF m pc Ls (.int z :: rest))) (T.setFrames fs) := by
  have hm' : T.vm.method? m = some meth := X.method'
  have hn : narrow .int (.int z) = .int z := rfl
  show Steps p.tables e below (T.setTop { method := m, pc := pc, locals := Ls, stack := _ :: rest, locked := none }) _
  jvm_step X.here [X.here.top, hx, hd, hm', hret, hn]
  first | (intro acts; rw [hl _ acts rfl rfl rfl]) | rw [hl _ _ rfl rfl rfl]
  exact Steps.refl _
end New
end Jvm.RoadKit
namespace Jvm.Pilot.@@N@@
open Jvm Jvm.ClassFile Sem Op Lib Jvm.Free Jvm.Stand Jvm.LawKit Jvm.RoadKit Bundle Jvm.Pilot.@@N@@.Jvm.D
theorem own_ltL {x y : Int64} (h : x < y) : ifCond.holds .lt (lcmpW x y) = true ∧ ifCond.holds .ge (lcmpW x y) = false ∧ ifCond.holds .gt (lcmpW y x) = true ∧ ifCond.holds .le (lcmpW y x) = false :=
  ⟨(if0 _ _).trans (tlt ((lw_lt x y).mpr h)).1, (if0 _ _).trans (tlt ((lw_lt x y).mpr h)).2.1, (if0 _ _).trans (tlt ((lw_gt y x).mpr h)).2.2.1, (if0 _ _).trans (tlt ((lw_gt y x).mpr h)).2.2.2⟩
theorem own_fltL {x y : Int64} (h : ¬ x < y) : ifCond.holds .lt (lcmpW x y) = false ∧ ifCond.holds .ge (lcmpW x y) = true ∧ ifCond.holds .gt (lcmpW y x) = false ∧ ifCond.holds .le (lcmpW y x) = true :=
  ⟨(if0 _ _).trans (flt (fun q => h ((lw_lt x y).mp q))).1, (if0 _ _).trans (flt (fun q => h ((lw_lt x y).mp q))).2.1, (if0 _ _).trans (flt (fun q => h ((lw_gt y x).mp q))).2.2.1, (if0 _ _).trans (flt (fun q => h ((lw_gt y x).mp q))).2.2.2⟩
theorem own_eqL {x y : Int64} (h : x = y) : ifCond.holds .eq (lcmpW x y) = true ∧ ifCond.holds .ne (lcmpW x y) = false :=
  ⟨(if0 _ _).trans (teq ((lw_eq x y).mpr h)).1, (if0 _ _).trans (teq ((lw_eq x y).mpr h)).2⟩
theorem own_neL {x y : Int64} (h : ¬ x = y) : ifCond.holds .eq (lcmpW x y) = false ∧ ifCond.holds .ne (lcmpW x y) = true :=
  ⟨(if0 _ _).trans (feq (fun q => h ((lw_eq x y).mp q))).1, (if0 _ _).trans (feq (fun q => h ((lw_eq x y).mp q))).2⟩

def own_sr (x : Int64) (k : Int32) : Int64 := ((x.toUInt64 >>> (k &&& 0x3f).toInt64.toUInt64).toInt64)
def own_C1 : Int64 := (-4658895280553007687 : Int64)
def own_C2 : Int64 := (-7723592293110705685 : Int64)
def own_m1 (z : Int64) : Int64 := (z ^^^ own_sr z 30) * own_C1
def own_m2 (z : Int64) : Int64 := (own_m1 z ^^^ own_sr (own_m1 z) 27) * own_C2
def own_mix (z : Int64) : Int64 := own_m2 z ^^^ own_sr (own_m2 z) 31
def own_stp (a x : Int64) : Int64 := x * ((2 : Int64) - (a * x))
def own_inv (a : Int64) : Int64 := own_stp a (own_stp a (own_stp a (own_stp a (own_stp a a))))
def own_u1 (y : Int64) : Int64 := ((y ^^^ own_sr y 31) ^^^ own_sr y 62) * own_inv own_C2
def own_u2 (y : Int64) : Int64 := ((own_u1 y ^^^ own_sr (own_u1 y) 27) ^^^ own_sr (own_u1 y) 54) * own_inv own_C1
def own_unmix (y : Int64) : Int64 := (own_u2 y ^^^ own_sr (own_u2 y) 30) ^^^ own_sr (own_u2 y) 60
theorem own_bits (x : BitVec 64) (k : Nat) (hk : 22 ≤ k) : ((x ^^^ (x >>> k)) ^^^ ((x ^^^ (x >>> k)) >>> k)) ^^^ ((x ^^^ (x >>> k)) >>> (k + k)) = x := by
  apply BitVec.eq_of_getLsbD_eq
  intro i hi
  simp only [BitVec.getLsbD_xor, BitVec.getLsbD_ushiftRight]
  rw [show k + (k + i) = k + k + i by omega, BitVec.getLsbD_of_ge x (k + (k + k + i)) (by omega)]
  cases x.getLsbD i <;> cases x.getLsbD (k + i) <;> cases x.getLsbD (k + k + i) <;> rfl
theorem own_x30 (x : Int64) : ((x ^^^ own_sr x 30) ^^^ own_sr (x ^^^ own_sr x 30) 30) ^^^ own_sr (x ^^^ own_sr x 30) 60 = x := by
  apply Int64.toBitVec_inj.mp
  exact own_bits x.toBitVec 30 (by decide)
theorem own_x27 (x : Int64) : ((x ^^^ own_sr x 27) ^^^ own_sr (x ^^^ own_sr x 27) 27) ^^^ own_sr (x ^^^ own_sr x 27) 54 = x := by
  apply Int64.toBitVec_inj.mp
  exact own_bits x.toBitVec 27 (by decide)
theorem own_x31 (x : Int64) : ((x ^^^ own_sr x 31) ^^^ own_sr (x ^^^ own_sr x 31) 31) ^^^ own_sr (x ^^^ own_sr x 31) 62 = x := by
  apply Int64.toBitVec_inj.mp
  exact own_bits x.toBitVec 31 (by decide)
theorem own_i1 : own_C1 * own_inv own_C1 = 1 := by decide +kernel
theorem own_i2 : own_C2 * own_inv own_C2 = 1 := by decide +kernel
theorem own_unmix_mix (z : Int64) : own_unmix (own_mix z) = z := by
  have h1 : own_u1 (own_mix z) = own_m1 z ^^^ own_sr (own_m1 z) 27 := by
    unfold own_u1 own_mix
    rw [own_x31, own_m2, Int64.mul_assoc, own_i2, Int64.mul_one]
  have h2 : own_u2 (own_mix z) = z ^^^ own_sr z 30 := by
    unfold own_u2
    rw [h1, own_x27, own_m1, Int64.mul_assoc, own_i1, Int64.mul_one]
  unfold own_unmix
  rw [h2, own_x30]

theorem d1_0 : decode prog_8_method_1_code 0 = .ok (.aload_n 0, 1) := by decide +kernel
theorem d1_1 : decode prog_8_method_1_code 1 = .ok (.invokespecial 1, 3) := by decide +kernel
theorem d1_4 : decode prog_8_method_1_code 4 = .ok (.aload_n 0, 1) := by decide +kernel
theorem d1_5 : decode prog_8_method_1_code 5 = .ok (.lload_n 1, 1) := by decide +kernel
theorem d1_6 : decode prog_8_method_1_code 6 = .ok (.putfield 7, 3) := by decide +kernel
theorem d1_9 : decode prog_8_method_1_code 9 = .ok (.return_, 1) := by decide +kernel
theorem pn_0 : plainName "com/example/wakasato/wakasato/search/SeededRandom" = true := by first | (simp [plainName, overriddenIn]; done) | decide +kernel
theorem ef_1 (m : MethodId) (o0 : Addr) (q1 : Int64) : entryFrame m #[(.ref o0), (.long q1)] 3 = mkF m 0 #[.val (.ref o0), .val (.long q1), .second] [] := by first | (simp [entryFrame, mkF, argsToLocals, Value.category]; done) | rfl

def Q1 (Z : State) (o0 : Addr) (q1 : Int64) (w : Int64) (h0 : Heap) (n0 : Nat) (v : Option Value) (h : Heap) (L : List Loc) : Prop := v = none ∧ Fr n0 L ∧ Keep h0 h [o0] ∧ (Fld Z h o0 "com/example/wakasato/wakasato/search/SeededRandom" "state" "J" (.long q1))
set_option maxRecDepth 65536 in
set_option maxHeartbeats 40000000 in
theorem rm1 (l : Launch) (Z : State) (a0 : Array Value) (hw : ∀ d ∈ tables_1, d.before a0 Z = true) (ws : List Jvm.Cond) (o0 : Addr) (q1 : Int64) (w : Int64) (h0 : Heap) (n0 : Nat) (Z0 : n0 ≤ h0.size) (F_state_o0 : Fld Z h0 o0 "com/example/wakasato/wakasato/search/SeededRandom" "state" "J" (.long w)) (E_o0 : Exa Z h0 o0 "com/example/wakasato/wakasato/search/SeededRandom") (g_o0 : n0 ≤ o0) :
    MetFree l (⟨"com/example/wakasato/wakasato/search/SeededRandom", "<init>", "(J)V"⟩ : MethodName) (head1 (Jvm.Cond.code (⟨"com/example/wakasato/wakasato/search/SeededRandom", "<init>", "(J)V"⟩ : MethodName) prog_8_method_1_code 3 none :: ws) ({ frames := 1, cells := 0, slots := 0, locals := 12 } : Room)) (fun a U => a = #[(.ref o0), (.long q1)] ∧ Z.Warmed39 U.vm ∧ U.heap = h0) (fun _ _ _ _ _ => True) (fun _ U o U' => ∃ v L, o = .returned v ∧ Q1 Z o0 q1 w h0 n0 v U'.heap L ∧ FrameEnd U o U' L ({ frames := 1, cells := 0, slots := 0, locals := 12 } : Room).cells ({ frames := 1, cells := 0, slots := 0, locals := 12 } : Room).slots) := by
  refine MetFree.of_bodySF (plainFor_of_name pn_0) hisR ?_
  intro p e s m args below meth c s₁ Bd hml0 hP hK
  obtain ⟨rfl, hZ, hh⟩ := hP
  have hx := Bd.exec
  have hby := Bd.bytes
  have hml : c.maxLocals = 3 := hml0
  have hown : s.vm.findClass "com/example/wakasato/wakasato/search/SeededRandom" = some m.cls := findClass_of_methodNamed Bd.named
  have hnm := (name_of_methodNamed Bd.named Bd.method).1
  have X0 : Stand p l e ({ frames := 1, cells := 0, slots := 0, locals := 12 } : Room) s m #[(.ref o0), (.long q1)] below meth c s₁ [] 0 0 := Stand.of_body Bd
  have e0 : s₁.heap = h0 := by rw [← hh, Bd.state]; rfl
  have N0 := Fr.nil n0
  have pre0 : ∀ t, Steps p.tables e below (s₁.setTop (mkF m 0 #[.val (.ref o0), .val (.long q1), .second] [])) t → Steps p.tables e below (s₁.setTop (entryFrame m #[(.ref o0), (.long q1)] 3)) t := fun t k => castTop (ef_1 m o0 q1) k
  obtain ⟨T1, X1, e1, st1⟩ := initO X0 hx hZ hown (hw _ (List.mem_of_getElem? (i := 7) rfl)) (hw _ (List.mem_of_getElem? (i := 8) rfl)) (hw _ (List.mem_of_getElem? (i := 9) rfl)) e0 (g := (mkF m 1 #[.val (.ref o0), .val (.long q1), .second] [(.ref o0)])) rfl (by rw [hml]; rfl) rfl (hb hby d1_1) (by decide) (W := 0) (by show 2 * 0 + _ ≤ _; exact Nat.le_of_eq rfl) (by decide)
  obtain ⟨T2, h2, X2, e2, W2, st2⟩ := putF X1 hx hZ hown (host := "") (Or.inl (hw _ (List.mem_of_getElem? (i := 10) rfl))) Via.refl e1 F_state_o0 E_o0 (Or.inl (hw _ (List.mem_of_getElem? (i := 11) rfl))) (hw _ (List.mem_of_getElem? (i := 2) rfl)) (ty := .long) (by decide) rfl rfl (g := (mkF m 6 #[.val (.ref o0), .val (.long q1), .second] [(.long q1), (.ref o0)])) rfl rfl (hb hby d1_6)
  have N2 := Fr.snoc X2 N0 g_o0
  have F_state_o0_w2 : Fld Z h2 o0 "com/example/wakasato/wakasato/search/SeededRandom" "state" "J" (.long q1) := (F_state_o0).same W2
  have E_o0_3 : Exa Z h2 o0 "com/example/wakasato/wakasato/search/SeededRandom" := (E_o0).wr W2
  have SZ4 : h0.size ≤ h2.size := by rw [W2.size]; exact (Nat.le_refl _)
  have ZZ4 : n0 ≤ h2.size := Nat.le_trans Z0 SZ4
  have K5 : Keep h0 h2 [o0] := ((Keep.refl h0 [o0])).wr W2 (Or.inl (List.mem_of_getElem? (i := 0) rfl))
  have pre6 : ∀ t, Steps p.tables e below (T2.setTop (mkF m 9 #[.val (.ref o0), .val (.long q1), .second] [])) t → Steps p.tables e below (s₁.setTop (entryFrame m #[(.ref o0), (.long q1)] 3)) t := fun t k => pre0 t (by
    show Steps p.tables e below (s₁.setTop (mkF m 0 #[.val (.ref o0), .val (.long q1), .second] [])) _
    refine XS.aloadN X0.here hx rfl (hb hby d1_0) rfl rfl ?_
    show Steps p.tables e below (s₁.setTop (mkF m 1 #[.val (.ref o0), .val (.long q1), .second] [(.ref o0)])) _
    refine st1 _ ?_
    show Steps p.tables e below (T1.setTop (mkF m 4 #[.val (.ref o0), .val (.long q1), .second] [])) _
    refine XS.aloadN X1.here hx rfl (hb hby d1_4) rfl rfl ?_
    show Steps p.tables e below (T1.setTop (mkF m 5 #[.val (.ref o0), .val (.long q1), .second] [(.ref o0)])) _
    refine XS.lloadN X1.here hx rfl (hb hby d1_5) rfl ?_
    show Steps p.tables e below (T1.setTop (mkF m 6 #[.val (.ref o0), .val (.long q1), .second] [(.long q1), (.ref o0)])) _
    refine st2 _ ?_
    show Steps p.tables e below (T2.setTop (mkF m 9 #[.val (.ref o0), .val (.long q1), .second] [])) _
    exact k)
  obtain ⟨fs, hr, hrun, hended, hW, hsame⟩ := X2.leave (v := none) (fun _ => rfl)
  refine ⟨_, _, pre6 _ ?_, hrun, hended, _, _, rfl, ?_, ⟨_, rfl⟩, hW, hsame.mono (by decide) (by decide)⟩
  · exact X2.returnOut hx Bd.returns (hb hby d1_9) hr
  · show Q1 Z o0 q1 w h0 n0 _ T2.heap _
    rw [e2]
    exact ⟨rfl, N2, K5, F_state_o0_w2⟩
theorem d4_0 : decode prog_8_method_3_code 0 = .ok (.aload_n 0, 1) := by decide +kernel
theorem d4_1 : decode prog_8_method_3_code 1 = .ok (.dup, 1) := by decide +kernel
theorem d4_2 : decode prog_8_method_3_code 2 = .ok (.getfield 7, 3) := by decide +kernel
theorem d4_5 : decode prog_8_method_3_code 5 = .ok (.ldc2_w 13, 3) := by decide +kernel
theorem d4_8 : decode prog_8_method_3_code 8 = .ok (.ladd, 1) := by decide +kernel
theorem d4_9 : decode prog_8_method_3_code 9 = .ok (.putfield 7, 3) := by decide +kernel
theorem d4_12 : decode prog_8_method_3_code 12 = .ok (.aload_n 0, 1) := by decide +kernel
theorem d4_13 : decode prog_8_method_3_code 13 = .ok (.getfield 7, 3) := by decide +kernel
theorem d4_16 : decode prog_8_method_3_code 16 = .ok (.lstore_n 1, 1) := by decide +kernel
theorem d4_17 : decode prog_8_method_3_code 17 = .ok (.lload_n 1, 1) := by decide +kernel
theorem d4_18 : decode prog_8_method_3_code 18 = .ok (.lload_n 1, 1) := by decide +kernel
theorem d4_19 : decode prog_8_method_3_code 19 = .ok (.bipush 30, 2) := by decide +kernel
theorem d4_21 : decode prog_8_method_3_code 21 = .ok (.lushr, 1) := by decide +kernel
theorem d4_22 : decode prog_8_method_3_code 22 = .ok (.lxor, 1) := by decide +kernel
theorem d4_23 : decode prog_8_method_3_code 23 = .ok (.ldc2_w 15, 3) := by decide +kernel
theorem d4_26 : decode prog_8_method_3_code 26 = .ok (.lmul, 1) := by decide +kernel
theorem d4_27 : decode prog_8_method_3_code 27 = .ok (.lstore_n 1, 1) := by decide +kernel
theorem d4_28 : decode prog_8_method_3_code 28 = .ok (.lload_n 1, 1) := by decide +kernel
theorem d4_29 : decode prog_8_method_3_code 29 = .ok (.lload_n 1, 1) := by decide +kernel
theorem d4_30 : decode prog_8_method_3_code 30 = .ok (.bipush 27, 2) := by decide +kernel
theorem d4_32 : decode prog_8_method_3_code 32 = .ok (.lushr, 1) := by decide +kernel
theorem d4_33 : decode prog_8_method_3_code 33 = .ok (.lxor, 1) := by decide +kernel
theorem d4_34 : decode prog_8_method_3_code 34 = .ok (.ldc2_w 17, 3) := by decide +kernel
theorem d4_37 : decode prog_8_method_3_code 37 = .ok (.lmul, 1) := by decide +kernel
theorem d4_38 : decode prog_8_method_3_code 38 = .ok (.lstore_n 1, 1) := by decide +kernel
theorem d4_39 : decode prog_8_method_3_code 39 = .ok (.lload_n 1, 1) := by decide +kernel
theorem d4_40 : decode prog_8_method_3_code 40 = .ok (.lload_n 1, 1) := by decide +kernel
theorem d4_41 : decode prog_8_method_3_code 41 = .ok (.bipush 31, 2) := by decide +kernel
theorem d4_43 : decode prog_8_method_3_code 43 = .ok (.lushr, 1) := by decide +kernel
theorem d4_44 : decode prog_8_method_3_code 44 = .ok (.lxor, 1) := by decide +kernel
theorem d4_45 : decode prog_8_method_3_code 45 = .ok (.lreturn, 1) := by decide +kernel
theorem ef_4 (m : MethodId) (o0 : Addr) : entryFrame m #[(.ref o0)] 3 = mkF m 0 #[.val (.ref o0), .unset, .unset] [] := by first | (simp [entryFrame, mkF, argsToLocals, Value.category]; done) | rfl
def f4_27 (w : Int64) : Int64 := (((w + (-7046029254386353131 : Int64)) ^^^ (((w + (-7046029254386353131 : Int64)).toUInt64 >>> ((30 : Int32) &&& 0x3f).toInt64.toUInt64).toInt64)) * (-4658895280553007687 : Int64))
def f4_38 (w : Int64) : Int64 := (((f4_27 w) ^^^ (((f4_27 w).toUInt64 >>> ((27 : Int32) &&& 0x3f).toInt64.toUInt64).toInt64)) * (-7723592293110705685 : Int64))

def Q4 (Z : State) (o0 : Addr) (w : Int64) (h0 : Heap) (n0 : Nat) (v : Option Value) (h : Heap) (L : List Loc) : Prop := v = some (.long (own_mix (w + (-7046029254386353131 : Int64)))) ∧ Fr n0 L ∧ Keep h0 h [o0] ∧ (Fld Z h o0 "com/example/wakasato/wakasato/search/SeededRandom" "state" "J" (.long (w + (-7046029254386353131 : Int64))))
set_option maxRecDepth 65536 in
set_option maxHeartbeats 40000000 in
theorem rm4 (l : Launch) (Z : State) (a0 : Array Value) (hw : ∀ d ∈ tables_1, d.before a0 Z = true) (ws : List Jvm.Cond) (o0 : Addr) (w : Int64) (h0 : Heap) (n0 : Nat) (Z0 : n0 ≤ h0.size) (F_state_o0 : Fld Z h0 o0 "com/example/wakasato/wakasato/search/SeededRandom" "state" "J" (.long w)) (E_o0 : Exa Z h0 o0 "com/example/wakasato/wakasato/search/SeededRandom") (g_o0 : n0 ≤ o0) :
    MetFree l (⟨"com/example/wakasato/wakasato/search/SeededRandom", "nextLong", "()J"⟩ : MethodName) (head1 (Jvm.Cond.code (⟨"com/example/wakasato/wakasato/search/SeededRandom", "nextLong", "()J"⟩ : MethodName) prog_8_method_3_code 3 (some .long) :: ws) ({ frames := 0, cells := 0, slots := 0, locals := 0 } : Room)) (fun a U => a = #[(.ref o0)] ∧ Z.Warmed39 U.vm ∧ U.heap = h0) (fun _ _ _ _ _ => True) (fun _ U o U' => ∃ v L, o = .returned v ∧ Q4 Z o0 w h0 n0 v U'.heap L ∧ FrameEnd U o U' L ({ frames := 0, cells := 0, slots := 0, locals := 0 } : Room).cells ({ frames := 0, cells := 0, slots := 0, locals := 0 } : Room).slots) := by
  refine MetFree.of_bodySF (plainFor_of_name pn_0) hisR ?_
  intro p e s m args below meth c s₁ Bd hml0 hP hK
  obtain ⟨rfl, hZ, hh⟩ := hP
  have hx := Bd.exec
  have hby := Bd.bytes
  have hml : c.maxLocals = 3 := hml0
  have hown : s.vm.findClass "com/example/wakasato/wakasato/search/SeededRandom" = some m.cls := findClass_of_methodNamed Bd.named
  have hnm := (name_of_methodNamed Bd.named Bd.method).1
  have X0 : Stand p l e ({ frames := 0, cells := 0, slots := 0, locals := 0 } : Room) s m #[(.ref o0)] below meth c s₁ [] 0 0 := Stand.of_body Bd
  have e0 : s₁.heap = h0 := by rw [← hh, Bd.state]; rfl
  have N0 := Fr.nil n0
  have pre0 : ∀ t, Steps p.tables e below (s₁.setTop (mkF m 0 #[.val (.ref o0), .unset, .unset] [])) t → Steps p.tables e below (s₁.setTop (entryFrame m #[(.ref o0)] 3)) t := fun t k => castTop (ef_4 m o0) k
  obtain ⟨T1, X1, e1, st1⟩ := getF X0 hx hZ hown (host := "") (Or.inl (hw _ (List.mem_of_getElem? (i := 10) rfl))) Via.refl e0 F_state_o0 (g := (mkF m 2 #[.val (.ref o0), .unset, .unset] [(.ref o0), (.ref o0)])) rfl rfl (hb hby d4_2)
  obtain ⟨T2, h2, X2, e2, W2, st2⟩ := putF X1 hx hZ hown (host := "") (Or.inl (hw _ (List.mem_of_getElem? (i := 10) rfl))) Via.refl e1 F_state_o0 E_o0 (Or.inl (hw _ (List.mem_of_getElem? (i := 11) rfl))) (hw _ (List.mem_of_getElem? (i := 2) rfl)) (ty := .long) (by decide) rfl rfl (g := (mkF m 9 #[.val (.ref o0), .unset, .unset] [(.long (w + (-7046029254386353131 : Int64))), (.ref o0)])) rfl rfl (hb hby d4_9)
  have N2 := Fr.snoc X2 N0 g_o0
  have F_state_o0_w2 : Fld Z h2 o0 "com/example/wakasato/wakasato/search/SeededRandom" "state" "J" (.long (w + (-7046029254386353131 : Int64))) := (F_state_o0).same W2
  have E_o0_3 : Exa Z h2 o0 "com/example/wakasato/wakasato/search/SeededRandom" := (E_o0).wr W2
  have SZ4 : h0.size ≤ h2.size := by rw [W2.size]; exact (Nat.le_refl _)
  have ZZ4 : n0 ≤ h2.size := Nat.le_trans Z0 SZ4
  have K5 : Keep h0 h2 [o0] := ((Keep.refl h0 [o0])).wr W2 (Or.inl (List.mem_of_getElem? (i := 0) rfl))
  obtain ⟨T6, X6, e6, st6⟩ := getF X2 hx hZ hown (host := "") (Or.inl (hw _ (List.mem_of_getElem? (i := 10) rfl))) Via.refl e2 F_state_o0_w2 (g := (mkF m 13 #[.val (.ref o0), .unset, .unset] [(.ref o0)])) rfl rfl (hb hby d4_13)
  have pre7 : ∀ t, Steps p.tables e below (T6.setTop (mkF m 45 #[.val (.ref o0), .val (.long (f4_38 w)), .second] [(.long ((f4_38 w) ^^^ (((f4_38 w).toUInt64 >>> ((31 : Int32) &&& 0x3f).toInt64.toUInt64).toInt64)))])) t → Steps p.tables e below (s₁.setTop (entryFrame m #[(.ref o0)] 3)) t := fun t k => pre0 t (by
    show Steps p.tables e below (s₁.setTop (mkF m 0 #[.val (.ref o0), .unset, .unset] [])) _
    refine XS.aloadN X0.here hx rfl (hb hby d4_0) rfl rfl ?_
    show Steps p.tables e below (s₁.setTop (mkF m 1 #[.val (.ref o0), .unset, .unset] [(.ref o0)])) _
    refine XS.dup X0.here hx rfl (hb hby d4_1) rfl rfl ?_
    show Steps p.tables e below (s₁.setTop (mkF m 2 #[.val (.ref o0), .unset, .unset] [(.ref o0), (.ref o0)])) _
    refine st1 _ ?_
    show Steps p.tables e below (T1.setTop (mkF m 5 #[.val (.ref o0), .unset, .unset] [(.long w), (.ref o0)])) _
    refine X1.ldc2Long hx hown (mvT hZ (hw _ (List.mem_of_getElem? (i := 22) rfl))) (g := (mkF m 5 #[.val (.ref o0), .unset, .unset] [(.long w), (.ref o0)])) rfl (hb hby d4_5) _ ?_
    show Steps p.tables e below (T1.setTop (mkF m 8 #[.val (.ref o0), .unset, .unset] [(.long (-7046029254386353131 : Int64)), (.long w), (.ref o0)])) _
    refine XS.ladd X1.here hx rfl (hb hby d4_8) rfl ?_
    show Steps p.tables e below (T1.setTop (mkF m 9 #[.val (.ref o0), .unset, .unset] [(.long (w + (-7046029254386353131 : Int64))), (.ref o0)])) _
    refine st2 _ ?_
    show Steps p.tables e below (T2.setTop (mkF m 12 #[.val (.ref o0), .unset, .unset] [])) _
    refine XS.aloadN X2.here hx rfl (hb hby d4_12) rfl rfl ?_
    show Steps p.tables e below (T2.setTop (mkF m 13 #[.val (.ref o0), .unset, .unset] [(.ref o0)])) _
    refine st6 _ ?_
    show Steps p.tables e below (T6.setTop (mkF m 16 #[.val (.ref o0), .unset, .unset] [(.long (w + (-7046029254386353131 : Int64)))])) _
    refine XS.lstoreN X6.here hx rfl (hb hby d4_16) rfl (l' := #[.val (.ref o0), .val (.long (w + (-7046029254386353131 : Int64))), .second]) rfl ?_
    show Steps p.tables e below (T6.setTop (mkF m 17 #[.val (.ref o0), .val (.long (w + (-7046029254386353131 : Int64))), .second] [])) _
    refine XS.lloadN X6.here hx rfl (hb hby d4_17) rfl ?_
    show Steps p.tables e below (T6.setTop (mkF m 18 #[.val (.ref o0), .val (.long (w + (-7046029254386353131 : Int64))), .second] [(.long (w + (-7046029254386353131 : Int64)))])) _
    refine XS.lloadN X6.here hx rfl (hb hby d4_18) rfl ?_
    show Steps p.tables e below (T6.setTop (mkF m 19 #[.val (.ref o0), .val (.long (w + (-7046029254386353131 : Int64))), .second] [(.long (w + (-7046029254386353131 : Int64))), (.long (w + (-7046029254386353131 : Int64)))])) _
    refine XS.bipush X6.here hx rfl (hb hby d4_19) ?_
    show Steps p.tables e below (T6.setTop (mkF m 21 #[.val (.ref o0), .val (.long (w + (-7046029254386353131 : Int64))), .second] [(.int (30 : Int32)), (.long (w + (-7046029254386353131 : Int64))), (.long (w + (-7046029254386353131 : Int64)))])) _
    refine XS.lushr X6.here hx rfl (hb hby d4_21) rfl ?_
    show Steps p.tables e below (T6.setTop (mkF m 22 #[.val (.ref o0), .val (.long (w + (-7046029254386353131 : Int64))), .second] [(.long (((w + (-7046029254386353131 : Int64)).toUInt64 >>> ((30 : Int32) &&& 0x3f).toInt64.toUInt64).toInt64)), (.long (w + (-7046029254386353131 : Int64)))])) _
    refine XS.lxor X6.here hx rfl (hb hby d4_22) rfl ?_
    show Steps p.tables e below (T6.setTop (mkF m 23 #[.val (.ref o0), .val (.long (w + (-7046029254386353131 : Int64))), .second] [(.long ((w + (-7046029254386353131 : Int64)) ^^^ (((w + (-7046029254386353131 : Int64)).toUInt64 >>> ((30 : Int32) &&& 0x3f).toInt64.toUInt64).toInt64)))])) _
    refine X6.ldc2Long hx hown (mvT hZ (hw _ (List.mem_of_getElem? (i := 23) rfl))) (g := (mkF m 23 #[.val (.ref o0), .val (.long (w + (-7046029254386353131 : Int64))), .second] [(.long ((w + (-7046029254386353131 : Int64)) ^^^ (((w + (-7046029254386353131 : Int64)).toUInt64 >>> ((30 : Int32) &&& 0x3f).toInt64.toUInt64).toInt64)))])) rfl (hb hby d4_23) _ ?_
    show Steps p.tables e below (T6.setTop (mkF m 26 #[.val (.ref o0), .val (.long (w + (-7046029254386353131 : Int64))), .second] [(.long (-4658895280553007687 : Int64)), (.long ((w + (-7046029254386353131 : Int64)) ^^^ (((w + (-7046029254386353131 : Int64)).toUInt64 >>> ((30 : Int32) &&& 0x3f).toInt64.toUInt64).toInt64)))])) _
    refine XS.lmul X6.here hx rfl (hb hby d4_26) rfl ?_
    show Steps p.tables e below (T6.setTop (mkF m 27 #[.val (.ref o0), .val (.long (w + (-7046029254386353131 : Int64))), .second] [(.long (((w + (-7046029254386353131 : Int64)) ^^^ (((w + (-7046029254386353131 : Int64)).toUInt64 >>> ((30 : Int32) &&& 0x3f).toInt64.toUInt64).toInt64)) * (-4658895280553007687 : Int64)))])) _
    refine XS.lstoreN X6.here hx rfl (hb hby d4_27) rfl (l' := #[.val (.ref o0), .val (.long (f4_27 w)), .second]) rfl ?_
    show Steps p.tables e below (T6.setTop (mkF m 28 #[.val (.ref o0), .val (.long (f4_27 w)), .second] [])) _
    refine XS.lloadN X6.here hx rfl (hb hby d4_28) rfl ?_
    show Steps p.tables e below (T6.setTop (mkF m 29 #[.val (.ref o0), .val (.long (f4_27 w)), .second] [(.long (f4_27 w))])) _
    refine XS.lloadN X6.here hx rfl (hb hby d4_29) rfl ?_
    show Steps p.tables e below (T6.setTop (mkF m 30 #[.val (.ref o0), .val (.long (f4_27 w)), .second] [(.long (f4_27 w)), (.long (f4_27 w))])) _
    refine XS.bipush X6.here hx rfl (hb hby d4_30) ?_
    show Steps p.tables e below (T6.setTop (mkF m 32 #[.val (.ref o0), .val (.long (f4_27 w)), .second] [(.int (27 : Int32)), (.long (f4_27 w)), (.long (f4_27 w))])) _
    refine XS.lushr X6.here hx rfl (hb hby d4_32) rfl ?_
    show Steps p.tables e below (T6.setTop (mkF m 33 #[.val (.ref o0), .val (.long (f4_27 w)), .second] [(.long (((f4_27 w).toUInt64 >>> ((27 : Int32) &&& 0x3f).toInt64.toUInt64).toInt64)), (.long (f4_27 w))])) _
    refine XS.lxor X6.here hx rfl (hb hby d4_33) rfl ?_
    show Steps p.tables e below (T6.setTop (mkF m 34 #[.val (.ref o0), .val (.long (f4_27 w)), .second] [(.long ((f4_27 w) ^^^ (((f4_27 w).toUInt64 >>> ((27 : Int32) &&& 0x3f).toInt64.toUInt64).toInt64)))])) _
    refine X6.ldc2Long hx hown (mvT hZ (hw _ (List.mem_of_getElem? (i := 24) rfl))) (g := (mkF m 34 #[.val (.ref o0), .val (.long (f4_27 w)), .second] [(.long ((f4_27 w) ^^^ (((f4_27 w).toUInt64 >>> ((27 : Int32) &&& 0x3f).toInt64.toUInt64).toInt64)))])) rfl (hb hby d4_34) _ ?_
    show Steps p.tables e below (T6.setTop (mkF m 37 #[.val (.ref o0), .val (.long (f4_27 w)), .second] [(.long (-7723592293110705685 : Int64)), (.long ((f4_27 w) ^^^ (((f4_27 w).toUInt64 >>> ((27 : Int32) &&& 0x3f).toInt64.toUInt64).toInt64)))])) _
    refine XS.lmul X6.here hx rfl (hb hby d4_37) rfl ?_
    show Steps p.tables e below (T6.setTop (mkF m 38 #[.val (.ref o0), .val (.long (f4_27 w)), .second] [(.long (((f4_27 w) ^^^ (((f4_27 w).toUInt64 >>> ((27 : Int32) &&& 0x3f).toInt64.toUInt64).toInt64)) * (-7723592293110705685 : Int64)))])) _
    refine XS.lstoreN X6.here hx rfl (hb hby d4_38) rfl (l' := #[.val (.ref o0), .val (.long (f4_38 w)), .second]) rfl ?_
    show Steps p.tables e below (T6.setTop (mkF m 39 #[.val (.ref o0), .val (.long (f4_38 w)), .second] [])) _
    refine XS.lloadN X6.here hx rfl (hb hby d4_39) rfl ?_
    show Steps p.tables e below (T6.setTop (mkF m 40 #[.val (.ref o0), .val (.long (f4_38 w)), .second] [(.long (f4_38 w))])) _
    refine XS.lloadN X6.here hx rfl (hb hby d4_40) rfl ?_
    show Steps p.tables e below (T6.setTop (mkF m 41 #[.val (.ref o0), .val (.long (f4_38 w)), .second] [(.long (f4_38 w)), (.long (f4_38 w))])) _
    refine XS.bipush X6.here hx rfl (hb hby d4_41) ?_
    show Steps p.tables e below (T6.setTop (mkF m 43 #[.val (.ref o0), .val (.long (f4_38 w)), .second] [(.int (31 : Int32)), (.long (f4_38 w)), (.long (f4_38 w))])) _
    refine XS.lushr X6.here hx rfl (hb hby d4_43) rfl ?_
    show Steps p.tables e below (T6.setTop (mkF m 44 #[.val (.ref o0), .val (.long (f4_38 w)), .second] [(.long (((f4_38 w).toUInt64 >>> ((31 : Int32) &&& 0x3f).toInt64.toUInt64).toInt64)), (.long (f4_38 w))])) _
    refine XS.lxor X6.here hx rfl (hb hby d4_44) rfl ?_
    show Steps p.tables e below (T6.setTop (mkF m 45 #[.val (.ref o0), .val (.long (f4_38 w)), .second] [(.long ((f4_38 w) ^^^ (((f4_38 w).toUInt64 >>> ((31 : Int32) &&& 0x3f).toInt64.toUInt64).toInt64)))])) _
    exact k)
  obtain ⟨fs, hr, hrun, hended, hW, hsame⟩ := X6.leave (v := some (.long ((f4_38 w) ^^^ (((f4_38 w).toUInt64 >>> ((31 : Int32) &&& 0x3f).toInt64.toUInt64).toInt64)))) (fun h => by rw [Bd.returns] at h; cases h)
  refine ⟨_, _, pre7 _ ?_, hrun, hended, _, _, rfl, ?_, ⟨_, rfl⟩, hW, hsame.mono (by decide) (by decide)⟩
  · exact retOut X6 hx Bd.returns rfl (Or.inr (Or.inl ⟨rfl, rfl, _, rfl⟩)) (hb hby d4_45) hr
  · show Q4 Z o0 w h0 n0 _ T6.heap _
    rw [e6]
    exact ⟨rfl, N2, K5, F_state_o0_w2⟩
theorem d3_0 : decode prog_8_method_6_code 0 = .ok (.aload_n 0, 1) := by decide +kernel
theorem d3_1 : decode prog_8_method_6_code 1 = .ok (.invokevirtual 28, 3) := by decide +kernel
theorem d3_4 : decode prog_8_method_6_code 4 = .ok (.lconst 0, 1) := by decide +kernel
theorem d3_5 : decode prog_8_method_6_code 5 = .ok (.lcmp, 1) := by decide +kernel
theorem d3_6 : decode prog_8_method_6_code 6 = .ok (.ifCond .ge 7, 3) := by decide +kernel
theorem d3_9 : decode prog_8_method_6_code 9 = .ok (.iconst 1, 1) := by decide +kernel
theorem d3_10 : decode prog_8_method_6_code 10 = .ok (.goto 4, 3) := by decide +kernel
theorem d3_13 : decode prog_8_method_6_code 13 = .ok (.iconst 0, 1) := by decide +kernel
theorem d3_14 : decode prog_8_method_6_code 14 = .ok (.ireturn, 1) := by decide +kernel
theorem pd_0 : parseMethodDescriptor "()J" = some ⟨[], some .long⟩ := by decide +kernel
theorem ef_3 (m : MethodId) (o0 : Addr) : entryFrame m #[(.ref o0)] 1 = mkF m 0 #[.val (.ref o0)] [] := by first | (simp [entryFrame, mkF, argsToLocals, Value.category]; done) | rfl
def f3_14 (w : Int64) : Int32 := (if (own_mix (w + (-7046029254386353131 : Int64))) < (0 : Int64) then (1 : Int32) else (0 : Int32))

def Q3 (Z : State) (o0 : Addr) (w : Int64) (h0 : Heap) (n0 : Nat) (v : Option Value) (h : Heap) (L : List Loc) : Prop := v = some (.int ((f3_14 w) &&& 1)) ∧ Fr n0 L ∧ Keep h0 h [o0] ∧ (Fld Z h o0 "com/example/wakasato/wakasato/search/SeededRandom" "state" "J" (.long (w + (-7046029254386353131 : Int64))))
set_option maxRecDepth 65536 in
set_option maxHeartbeats 40000000 in
theorem rm3 (l : Launch) (Z : State) (a0 : Array Value) (hw : ∀ d ∈ tables_1, d.before a0 Z = true) (ws : List Jvm.Cond) (o0 : Addr) (w : Int64) (h0 : Heap) (n0 : Nat) (Z0 : n0 ≤ h0.size) (F_state_o0 : Fld Z h0 o0 "com/example/wakasato/wakasato/search/SeededRandom" "state" "J" (.long w)) (E_o0 : Exa Z h0 o0 "com/example/wakasato/wakasato/search/SeededRandom") (g_o0 : n0 ≤ o0) :
    MetFree l (⟨"com/example/wakasato/wakasato/search/SeededRandom", "nextBoolean", "()Z"⟩ : MethodName) (head1 (Jvm.Cond.code (⟨"com/example/wakasato/wakasato/search/SeededRandom", "nextBoolean", "()Z"⟩ : MethodName) prog_8_method_6_code 1 (some .boolean) :: ws) ({ frames := 1, cells := 0, slots := 0, locals := 14 } : Room)) (fun a U => a = #[(.ref o0)] ∧ Z.Warmed39 U.vm ∧ U.heap = h0) (fun _ _ _ _ _ => True) (fun _ U o U' => ∃ v L, o = .returned v ∧ Q3 Z o0 w h0 n0 v U'.heap L ∧ FrameEnd U o U' L ({ frames := 1, cells := 0, slots := 0, locals := 14 } : Room).cells ({ frames := 1, cells := 0, slots := 0, locals := 14 } : Room).slots) := by
  refine MetFree.of_bodySF (plainFor_of_name pn_0) hisR ?_
  intro p e s m args below meth c s₁ Bd hml0 hP hK
  obtain ⟨rfl, hZ, hh⟩ := hP
  have hx := Bd.exec
  have hby := Bd.bytes
  have hml : c.maxLocals = 1 := hml0
  have hown : s.vm.findClass "com/example/wakasato/wakasato/search/SeededRandom" = some m.cls := findClass_of_methodNamed Bd.named
  have hnm := (name_of_methodNamed Bd.named Bd.method).1
  have X0 : Stand p l e ({ frames := 1, cells := 0, slots := 0, locals := 14 } : Room) s m #[(.ref o0)] below meth c s₁ [] 0 0 := Stand.of_body Bd
  have e0 : s₁.heap = h0 := by rw [← hh, Bd.state]; rfl
  have N0 := Fr.nil n0
  have pre0 : ∀ t, Steps p.tables e below (s₁.setTop (mkF m 0 #[.val (.ref o0)] [])) t → Steps p.tables e below (s₁.setTop (entryFrame m #[(.ref o0)] 1)) t := fun t k => castTop (ef_3 m o0) k
  obtain ⟨cq1, kq1, q1a, q1b, q1c⟩ := isOf hZ e0 (E_o0)
  obtain ⟨_, _, ⟨T1, L1, k1, n1⟩, -, X1, ⟨Lc1, hQ1, l1, y1, z1⟩, st1⟩ := X0.virtualBack hx (y := (⟨"com/example/wakasato/wakasato/search/SeededRandom", "nextLong", "()J"⟩ : MethodName)) (z := (⟨"com/example/wakasato/wakasato/search/SeededRandom", "nextLong", "()J"⟩ : MethodName)) hown (mvT hZ (hw _ (List.mem_of_getElem? (i := 17) rfl))) (mvT hZ (hw _ (List.mem_of_getElem? (i := 18) rfl))) (notFace_of_selects (args := #[]) (mvT hZ (hw _ (List.mem_of_getElem? (i := 20) rfl)))) (mvT hZ (hw _ (List.mem_of_getElem? (i := 20) rfl))) (mvT hZ (hw _ (List.mem_of_getElem? (i := 19) rfl))) (by decide) (backOf (W := 0) (rm4 l Z a0 hw [] o0 w h0 n0 Z0 F_state_o0 E_o0 g_o0) hZ (hw _ (List.mem_of_getElem? (i := 21) rfl)) (hw _ (List.mem_of_getElem? (i := 3) rfl)) (by decide) (by decide)) q1a q1c (g := (mkF m 1 #[.val (.ref o0)] [(.ref o0)])) rfl (by rw [hml]; rfl) (Steps.refl _) (argsL := []) (rest := []) (lenOf pd_0 rfl) rfl (by show 2 * 0 + _ ≤ _; exact Nat.le_of_eq rfl) (hb hby d3_1) (fun _ _ => ⟨rfl, e0, (by decide : 0 + 0 ≤ _), (by decide : 0 + 0 ≤ _)⟩)
  dsimp only [Pt.U, Pt.locs, Pt.cells, Pt.slots] at X1 l1 y1 z1 st1 hQ1
  subst l1 y1 z1
  obtain ⟨rfl, N1q, Kc1, P1_0⟩ := hQ1
  have N1 := Fr.app N0 N1q
  have E_o0_2 : Exa Z T1.heap o0 "com/example/wakasato/wakasato/search/SeededRandom" := (E_o0).keep Kc1
  have SZ3 : h0.size ≤ T1.heap.size := Nat.le_trans (Nat.le_refl _) Kc1.1
  have ZZ3 : n0 ≤ T1.heap.size := Nat.le_trans Z0 SZ3
  have K4 : Keep h0 T1.heap [o0] := ((Keep.refl h0 [o0])).trans Kc1 (allS (Or.inl (List.mem_of_getElem? (i := 0) rfl)) all0)
  have pre5 : ∀ t, Steps p.tables e below (T1.setTop (mkF m 6 #[.val (.ref o0)] [(.int (lcmpW (own_mix (w + (-7046029254386353131 : Int64))) (0 : Int64)))])) t → Steps p.tables e below (s₁.setTop (entryFrame m #[(.ref o0)] 1)) t := fun t k => pre0 t (by
    show Steps p.tables e below (s₁.setTop (mkF m 0 #[.val (.ref o0)] [])) _
    refine XS.aloadN X0.here hx rfl (hb hby d3_0) rfl rfl ?_
    show Steps p.tables e below (s₁.setTop (mkF m 1 #[.val (.ref o0)] [(.ref o0)])) _
    refine st1.trans ?_
    show Steps p.tables e below (T1.setTop (mkF m 4 #[.val (.ref o0)] [(.long (own_mix (w + (-7046029254386353131 : Int64))))])) _
    refine XS.lconst X1.here hx rfl (hb hby d3_4) ?_
    show Steps p.tables e below (T1.setTop (mkF m 5 #[.val (.ref o0)] [(.long (0 : Int64)), (.long (own_mix (w + (-7046029254386353131 : Int64))))])) _
    refine XS.lcmp X1.here hx rfl (hb hby d3_5) rfl ?_
    show Steps p.tables e below (T1.setTop (mkF m 6 #[.val (.ref o0)] [(.int (lcmpW (own_mix (w + (-7046029254386353131 : Int64))) (0 : Int64)))])) _
    exact k)
  have pre7 : ∀ t, Steps p.tables e below (T1.setTop (mkF m 14 #[.val (.ref o0)] [(.int (f3_14 w))])) t → Steps p.tables e below (s₁.setTop (entryFrame m #[(.ref o0)] 1)) t := fun t k => pre5 t (by
    by_cases hf6 : (own_mix (w + (-7046029254386353131 : Int64))) < (0 : Int64)
    · refine XS.ifNo X1.here hx rfl (hb hby d3_6) rfl (own_ltL hf6).2.1 ?_
      show Steps p.tables e below (T1.setTop (mkF m 9 #[.val (.ref o0)] [])) _
      refine XS.iconst X1.here hx rfl (hb hby d3_9) ?_
      show Steps p.tables e below (T1.setTop (mkF m 10 #[.val (.ref o0)] [(.int (1 : Int32))])) _
      refine XS.goto X1.here hx rfl (pc0 := 10) (pc' := 14) rfl (hb hby d3_10) (by decide) (by decide) ?_
      show Steps p.tables e below (T1.setTop (mkF m 14 #[.val (.ref o0)] [(.int (1 : Int32))])) _
      rw [show (f3_14 w) = ((1 : Int32) : Int32) from by simp only [f3_14, if_pos hf6]] at k
      exact k
    · refine XS.ifYes X1.here hx rfl (pc0 := 6) (pc' := 13) rfl (hb hby d3_6) rfl (own_fltL hf6).2.1 (by decide) (by decide) ?_
      show Steps p.tables e below (T1.setTop (mkF m 13 #[.val (.ref o0)] [])) _
      refine XS.iconst X1.here hx rfl (hb hby d3_13) ?_
      show Steps p.tables e below (T1.setTop (mkF m 14 #[.val (.ref o0)] [(.int (0 : Int32))])) _
      rw [show (f3_14 w) = ((0 : Int32) : Int32) from by simp only [f3_14, if_neg hf6]] at k
      exact k)
  obtain ⟨fs, hr, hrun, hended, hW, hsame⟩ := X1.leave (v := some (.int ((f3_14 w) &&& 1))) (fun h => by rw [Bd.returns] at h; cases h)
  refine ⟨_, _, pre7 _ ?_, hrun, hended, _, _, rfl, ?_, ⟨_, rfl⟩, hW, hsame.mono (by decide) (by decide)⟩
  · exact retN X1 hx (t := .boolean) Bd.returns (by simp) (hb hby d3_14) hr
  · show Q3 Z o0 w h0 n0 _ T1.heap _
    skip
    exact ⟨rfl, N1, K4, P1_0⟩
theorem d5_0 : decode prog_8_method_2_code 0 = .ok (.aload_n 0, 1) := by decide +kernel
theorem d5_1 : decode prog_8_method_2_code 1 = .ok (.getfield 7, 3) := by decide +kernel
theorem d5_4 : decode prog_8_method_2_code 4 = .ok (.lreturn, 1) := by decide +kernel
theorem ef_5 (m : MethodId) (o0 : Addr) : entryFrame m #[(.ref o0)] 1 = mkF m 0 #[.val (.ref o0)] [] := by first | (simp [entryFrame, mkF, argsToLocals, Value.category]; done) | rfl

def Q5 (Z : State) (o0 : Addr) (w : Int64) (h0 : Heap) (n0 : Nat) (v : Option Value) (h : Heap) (L : List Loc) : Prop := v = some (.long w) ∧ Fr n0 L ∧ h = h0
set_option maxRecDepth 65536 in
set_option maxHeartbeats 40000000 in
theorem rm5 (l : Launch) (Z : State) (a0 : Array Value) (hw : ∀ d ∈ tables_1, d.before a0 Z = true) (ws : List Jvm.Cond) (o0 : Addr) (w : Int64) (h0 : Heap) (n0 : Nat) (Z0 : n0 ≤ h0.size) (F_state_o0 : Fld Z h0 o0 "com/example/wakasato/wakasato/search/SeededRandom" "state" "J" (.long w)) :
    MetFree l (⟨"com/example/wakasato/wakasato/search/SeededRandom", "state", "()J"⟩ : MethodName) (head1 (Jvm.Cond.code (⟨"com/example/wakasato/wakasato/search/SeededRandom", "state", "()J"⟩ : MethodName) prog_8_method_2_code 1 (some .long) :: ws) ({ frames := 0, cells := 0, slots := 0, locals := 0 } : Room)) (fun a U => a = #[(.ref o0)] ∧ Z.Warmed39 U.vm ∧ U.heap = h0) (fun _ _ _ _ _ => True) (fun _ U o U' => ∃ v L, o = .returned v ∧ Q5 Z o0 w h0 n0 v U'.heap L ∧ FrameEnd U o U' L ({ frames := 0, cells := 0, slots := 0, locals := 0 } : Room).cells ({ frames := 0, cells := 0, slots := 0, locals := 0 } : Room).slots) := by
  refine MetFree.of_bodySF (plainFor_of_name pn_0) hisR ?_
  intro p e s m args below meth c s₁ Bd hml0 hP hK
  obtain ⟨rfl, hZ, hh⟩ := hP
  have hx := Bd.exec
  have hby := Bd.bytes
  have hml : c.maxLocals = 1 := hml0
  have hown : s.vm.findClass "com/example/wakasato/wakasato/search/SeededRandom" = some m.cls := findClass_of_methodNamed Bd.named
  have hnm := (name_of_methodNamed Bd.named Bd.method).1
  have X0 : Stand p l e ({ frames := 0, cells := 0, slots := 0, locals := 0 } : Room) s m #[(.ref o0)] below meth c s₁ [] 0 0 := Stand.of_body Bd
  have e0 : s₁.heap = h0 := by rw [← hh, Bd.state]; rfl
  have N0 := Fr.nil n0
  have pre0 : ∀ t, Steps p.tables e below (s₁.setTop (mkF m 0 #[.val (.ref o0)] [])) t → Steps p.tables e below (s₁.setTop (entryFrame m #[(.ref o0)] 1)) t := fun t k => castTop (ef_5 m o0) k
  obtain ⟨T1, X1, e1, st1⟩ := getF X0 hx hZ hown (host := "") (Or.inl (hw _ (List.mem_of_getElem? (i := 10) rfl))) Via.refl e0 F_state_o0 (g := (mkF m 1 #[.val (.ref o0)] [(.ref o0)])) rfl rfl (hb hby d5_1)
  have pre2 : ∀ t, Steps p.tables e below (T1.setTop (mkF m 4 #[.val (.ref o0)] [(.long w)])) t → Steps p.tables e below (s₁.setTop (entryFrame m #[(.ref o0)] 1)) t := fun t k => pre0 t (by
    show Steps p.tables e below (s₁.setTop (mkF m 0 #[.val (.ref o0)] [])) _
    refine XS.aloadN X0.here hx rfl (hb hby d5_0) rfl rfl ?_
    show Steps p.tables e below (s₁.setTop (mkF m 1 #[.val (.ref o0)] [(.ref o0)])) _
    refine st1 _ ?_
    show Steps p.tables e below (T1.setTop (mkF m 4 #[.val (.ref o0)] [(.long w)])) _
    exact k)
  obtain ⟨fs, hr, hrun, hended, hW, hsame⟩ := X1.leave (v := some (.long w)) (fun h => by rw [Bd.returns] at h; cases h)
  refine ⟨_, _, pre2 _ ?_, hrun, hended, _, _, rfl, ?_, ⟨_, rfl⟩, hW, hsame.mono (by decide) (by decide)⟩
  · exact retOut X1 hx Bd.returns rfl (Or.inr (Or.inl ⟨rfl, rfl, _, rfl⟩)) (hb hby d5_4) hr
  · show Q5 Z o0 w h0 n0 _ T1.heap _
    rw [e1]
    exact ⟨rfl, N0, rfl⟩
theorem d6_0 : decode method_2_code 0 = .ok (.lload_n 0, 1) := by decide +kernel
theorem d6_1 : decode method_2_code 1 = .ok (.lstore_n 2, 1) := by decide +kernel
theorem d6_2 : decode method_2_code 2 = .ok (.lload_n 2, 1) := by decide +kernel
theorem d6_3 : decode method_2_code 3 = .ok (.lload_n 2, 1) := by decide +kernel
theorem d6_4 : decode method_2_code 4 = .ok (.bipush 30, 2) := by decide +kernel
theorem d6_6 : decode method_2_code 6 = .ok (.lushr, 1) := by decide +kernel
theorem d6_7 : decode method_2_code 7 = .ok (.lxor, 1) := by decide +kernel
theorem d6_8 : decode method_2_code 8 = .ok (.ldc2_w 7, 3) := by decide +kernel
theorem d6_11 : decode method_2_code 11 = .ok (.lmul, 1) := by decide +kernel
theorem d6_12 : decode method_2_code 12 = .ok (.lstore_n 2, 1) := by decide +kernel
theorem d6_13 : decode method_2_code 13 = .ok (.lload_n 2, 1) := by decide +kernel
theorem d6_14 : decode method_2_code 14 = .ok (.lload_n 2, 1) := by decide +kernel
theorem d6_15 : decode method_2_code 15 = .ok (.bipush 27, 2) := by decide +kernel
theorem d6_17 : decode method_2_code 17 = .ok (.lushr, 1) := by decide +kernel
theorem d6_18 : decode method_2_code 18 = .ok (.lxor, 1) := by decide +kernel
theorem d6_19 : decode method_2_code 19 = .ok (.ldc2_w 9, 3) := by decide +kernel
theorem d6_22 : decode method_2_code 22 = .ok (.lmul, 1) := by decide +kernel
theorem d6_23 : decode method_2_code 23 = .ok (.lstore_n 2, 1) := by decide +kernel
theorem d6_24 : decode method_2_code 24 = .ok (.lload_n 2, 1) := by decide +kernel
theorem d6_25 : decode method_2_code 25 = .ok (.lconst 0, 1) := by decide +kernel
theorem d6_26 : decode method_2_code 26 = .ok (.lcmp, 1) := by decide +kernel
theorem d6_27 : decode method_2_code 27 = .ok (.ifCond .ge 7, 3) := by decide +kernel
theorem d6_30 : decode method_2_code 30 = .ok (.iconst 1, 1) := by decide +kernel
theorem d6_31 : decode method_2_code 31 = .ok (.goto 4, 3) := by decide +kernel
theorem d6_34 : decode method_2_code 34 = .ok (.iconst 0, 1) := by decide +kernel
theorem d6_35 : decode method_2_code 35 = .ok (.ireturn, 1) := by decide +kernel
theorem pn_1 : plainName "com/example/wakasato/wakasato/search/SeededRandomNextBooleanPinLaw" = true := by first | (simp [plainName, overriddenIn]; done) | decide +kernel
theorem ef_6 (m : MethodId) (q0 : Int64) : entryFrame m #[(.long q0)] 4 = mkF m 0 #[.val (.long q0), .second, .unset, .unset] [] := by first | (simp [entryFrame, mkF, argsToLocals, Value.category]; done) | rfl
def f6_12 (q0 : Int64) : Int64 := ((q0 ^^^ ((q0.toUInt64 >>> ((30 : Int32) &&& 0x3f).toInt64.toUInt64).toInt64)) * (-4658895280553007687 : Int64))
def f6_23 (q0 : Int64) : Int64 := (((f6_12 q0) ^^^ (((f6_12 q0).toUInt64 >>> ((27 : Int32) &&& 0x3f).toInt64.toUInt64).toInt64)) * (-7723592293110705685 : Int64))
def f6_35 (q0 : Int64) : Int32 := (if (f6_23 q0) < (0 : Int64) then (1 : Int32) else (0 : Int32))
def f6_ret (q0 : Int64) : Int32 := ((f6_35 q0) &&& 1)

def Q6 (Z : State) (q0 : Int64) (h0 : Heap) (n0 : Nat) (v : Option Value) (h : Heap) (L : List Loc) : Prop := v = some (.int (f6_ret q0)) ∧ Fr n0 L ∧ h = h0
set_option maxRecDepth 65536 in
set_option maxHeartbeats 40000000 in
theorem rm6 (l : Launch) (Z : State) (a0 : Array Value) (hw : ∀ d ∈ tables_1, d.before a0 Z = true) (ws : List Jvm.Cond) (q0 : Int64) (h0 : Heap) (n0 : Nat) (Z0 : n0 ≤ h0.size)  :
    MetFree l (⟨"com/example/wakasato/wakasato/search/SeededRandomNextBooleanPinLaw", "topBitOfMix", "(J)Z"⟩ : MethodName) (head1 (Jvm.Cond.code (⟨"com/example/wakasato/wakasato/search/SeededRandomNextBooleanPinLaw", "topBitOfMix", "(J)Z"⟩ : MethodName) method_2_code 4 (some .boolean) :: ws) ({ frames := 0, cells := 0, slots := 0, locals := 0 } : Room)) (fun a U => a = #[(.long q0)] ∧ Z.Warmed39 U.vm ∧ U.heap = h0) (fun _ _ _ _ _ => True) (fun _ U o U' => ∃ v L, o = .returned v ∧ Q6 Z q0 h0 n0 v U'.heap L ∧ FrameEnd U o U' L ({ frames := 0, cells := 0, slots := 0, locals := 0 } : Room).cells ({ frames := 0, cells := 0, slots := 0, locals := 0 } : Room).slots) := by
  refine MetFree.of_bodySF (plainFor_of_name pn_1) hisR ?_
  intro p e s m args below meth c s₁ Bd hml0 hP hK
  obtain ⟨rfl, hZ, hh⟩ := hP
  have hx := Bd.exec
  have hby := Bd.bytes
  have hml : c.maxLocals = 4 := hml0
  have hown : s.vm.findClass "com/example/wakasato/wakasato/search/SeededRandomNextBooleanPinLaw" = some m.cls := findClass_of_methodNamed Bd.named
  have hnm := (name_of_methodNamed Bd.named Bd.method).1
  have X0 : Stand p l e ({ frames := 0, cells := 0, slots := 0, locals := 0 } : Room) s m #[(.long q0)] below meth c s₁ [] 0 0 := Stand.of_body Bd
  have e0 : s₁.heap = h0 := by rw [← hh, Bd.state]; rfl
  have N0 := Fr.nil n0
  have pre0 : ∀ t, Steps p.tables e below (s₁.setTop (mkF m 0 #[.val (.long q0), .second, .unset, .unset] [])) t → Steps p.tables e below (s₁.setTop (entryFrame m #[(.long q0)] 4)) t := fun t k => castTop (ef_6 m q0) k
  have pre1 : ∀ t, Steps p.tables e below (s₁.setTop (mkF m 27 #[.val (.long q0), .second, .val (.long (f6_23 q0)), .second] [(.int (lcmpW (f6_23 q0) (0 : Int64)))])) t → Steps p.tables e below (s₁.setTop (entryFrame m #[(.long q0)] 4)) t := fun t k => pre0 t (by
    show Steps p.tables e below (s₁.setTop (mkF m 0 #[.val (.long q0), .second, .unset, .unset] [])) _
    refine XS.lloadN X0.here hx rfl (hb hby d6_0) rfl ?_
    show Steps p.tables e below (s₁.setTop (mkF m 1 #[.val (.long q0), .second, .unset, .unset] [(.long q0)])) _
    refine XS.lstoreN X0.here hx rfl (hb hby d6_1) rfl (l' := #[.val (.long q0), .second, .val (.long q0), .second]) rfl ?_
    show Steps p.tables e below (s₁.setTop (mkF m 2 #[.val (.long q0), .second, .val (.long q0), .second] [])) _
    refine XS.lloadN X0.here hx rfl (hb hby d6_2) rfl ?_
    show Steps p.tables e below (s₁.setTop (mkF m 3 #[.val (.long q0), .second, .val (.long q0), .second] [(.long q0)])) _
    refine XS.lloadN X0.here hx rfl (hb hby d6_3) rfl ?_
    show Steps p.tables e below (s₁.setTop (mkF m 4 #[.val (.long q0), .second, .val (.long q0), .second] [(.long q0), (.long q0)])) _
    refine XS.bipush X0.here hx rfl (hb hby d6_4) ?_
    show Steps p.tables e below (s₁.setTop (mkF m 6 #[.val (.long q0), .second, .val (.long q0), .second] [(.int (30 : Int32)), (.long q0), (.long q0)])) _
    refine XS.lushr X0.here hx rfl (hb hby d6_6) rfl ?_
    show Steps p.tables e below (s₁.setTop (mkF m 7 #[.val (.long q0), .second, .val (.long q0), .second] [(.long ((q0.toUInt64 >>> ((30 : Int32) &&& 0x3f).toInt64.toUInt64).toInt64)), (.long q0)])) _
    refine XS.lxor X0.here hx rfl (hb hby d6_7) rfl ?_
    show Steps p.tables e below (s₁.setTop (mkF m 8 #[.val (.long q0), .second, .val (.long q0), .second] [(.long (q0 ^^^ ((q0.toUInt64 >>> ((30 : Int32) &&& 0x3f).toInt64.toUInt64).toInt64)))])) _
    refine X0.ldc2Long hx hown (mvT hZ (hw _ (List.mem_of_getElem? (i := 34) rfl))) (g := (mkF m 8 #[.val (.long q0), .second, .val (.long q0), .second] [(.long (q0 ^^^ ((q0.toUInt64 >>> ((30 : Int32) &&& 0x3f).toInt64.toUInt64).toInt64)))])) rfl (hb hby d6_8) _ ?_
    show Steps p.tables e below (s₁.setTop (mkF m 11 #[.val (.long q0), .second, .val (.long q0), .second] [(.long (-4658895280553007687 : Int64)), (.long (q0 ^^^ ((q0.toUInt64 >>> ((30 : Int32) &&& 0x3f).toInt64.toUInt64).toInt64)))])) _
    refine XS.lmul X0.here hx rfl (hb hby d6_11) rfl ?_
    show Steps p.tables e below (s₁.setTop (mkF m 12 #[.val (.long q0), .second, .val (.long q0), .second] [(.long ((q0 ^^^ ((q0.toUInt64 >>> ((30 : Int32) &&& 0x3f).toInt64.toUInt64).toInt64)) * (-4658895280553007687 : Int64)))])) _
    refine XS.lstoreN X0.here hx rfl (hb hby d6_12) rfl (l' := #[.val (.long q0), .second, .val (.long (f6_12 q0)), .second]) rfl ?_
    show Steps p.tables e below (s₁.setTop (mkF m 13 #[.val (.long q0), .second, .val (.long (f6_12 q0)), .second] [])) _
    refine XS.lloadN X0.here hx rfl (hb hby d6_13) rfl ?_
    show Steps p.tables e below (s₁.setTop (mkF m 14 #[.val (.long q0), .second, .val (.long (f6_12 q0)), .second] [(.long (f6_12 q0))])) _
    refine XS.lloadN X0.here hx rfl (hb hby d6_14) rfl ?_
    show Steps p.tables e below (s₁.setTop (mkF m 15 #[.val (.long q0), .second, .val (.long (f6_12 q0)), .second] [(.long (f6_12 q0)), (.long (f6_12 q0))])) _
    refine XS.bipush X0.here hx rfl (hb hby d6_15) ?_
    show Steps p.tables e below (s₁.setTop (mkF m 17 #[.val (.long q0), .second, .val (.long (f6_12 q0)), .second] [(.int (27 : Int32)), (.long (f6_12 q0)), (.long (f6_12 q0))])) _
    refine XS.lushr X0.here hx rfl (hb hby d6_17) rfl ?_
    show Steps p.tables e below (s₁.setTop (mkF m 18 #[.val (.long q0), .second, .val (.long (f6_12 q0)), .second] [(.long (((f6_12 q0).toUInt64 >>> ((27 : Int32) &&& 0x3f).toInt64.toUInt64).toInt64)), (.long (f6_12 q0))])) _
    refine XS.lxor X0.here hx rfl (hb hby d6_18) rfl ?_
    show Steps p.tables e below (s₁.setTop (mkF m 19 #[.val (.long q0), .second, .val (.long (f6_12 q0)), .second] [(.long ((f6_12 q0) ^^^ (((f6_12 q0).toUInt64 >>> ((27 : Int32) &&& 0x3f).toInt64.toUInt64).toInt64)))])) _
    refine X0.ldc2Long hx hown (mvT hZ (hw _ (List.mem_of_getElem? (i := 35) rfl))) (g := (mkF m 19 #[.val (.long q0), .second, .val (.long (f6_12 q0)), .second] [(.long ((f6_12 q0) ^^^ (((f6_12 q0).toUInt64 >>> ((27 : Int32) &&& 0x3f).toInt64.toUInt64).toInt64)))])) rfl (hb hby d6_19) _ ?_
    show Steps p.tables e below (s₁.setTop (mkF m 22 #[.val (.long q0), .second, .val (.long (f6_12 q0)), .second] [(.long (-7723592293110705685 : Int64)), (.long ((f6_12 q0) ^^^ (((f6_12 q0).toUInt64 >>> ((27 : Int32) &&& 0x3f).toInt64.toUInt64).toInt64)))])) _
    refine XS.lmul X0.here hx rfl (hb hby d6_22) rfl ?_
    show Steps p.tables e below (s₁.setTop (mkF m 23 #[.val (.long q0), .second, .val (.long (f6_12 q0)), .second] [(.long (((f6_12 q0) ^^^ (((f6_12 q0).toUInt64 >>> ((27 : Int32) &&& 0x3f).toInt64.toUInt64).toInt64)) * (-7723592293110705685 : Int64)))])) _
    refine XS.lstoreN X0.here hx rfl (hb hby d6_23) rfl (l' := #[.val (.long q0), .second, .val (.long (f6_23 q0)), .second]) rfl ?_
    show Steps p.tables e below (s₁.setTop (mkF m 24 #[.val (.long q0), .second, .val (.long (f6_23 q0)), .second] [])) _
    refine XS.lloadN X0.here hx rfl (hb hby d6_24) rfl ?_
    show Steps p.tables e below (s₁.setTop (mkF m 25 #[.val (.long q0), .second, .val (.long (f6_23 q0)), .second] [(.long (f6_23 q0))])) _
    refine XS.lconst X0.here hx rfl (hb hby d6_25) ?_
    show Steps p.tables e below (s₁.setTop (mkF m 26 #[.val (.long q0), .second, .val (.long (f6_23 q0)), .second] [(.long (0 : Int64)), (.long (f6_23 q0))])) _
    refine XS.lcmp X0.here hx rfl (hb hby d6_26) rfl ?_
    show Steps p.tables e below (s₁.setTop (mkF m 27 #[.val (.long q0), .second, .val (.long (f6_23 q0)), .second] [(.int (lcmpW (f6_23 q0) (0 : Int64)))])) _
    exact k)
  have pre3 : ∀ t, Steps p.tables e below (s₁.setTop (mkF m 35 #[.val (.long q0), .second, .val (.long (f6_23 q0)), .second] [(.int (f6_35 q0))])) t → Steps p.tables e below (s₁.setTop (entryFrame m #[(.long q0)] 4)) t := fun t k => pre1 t (by
    by_cases hf2 : (f6_23 q0) < (0 : Int64)
    · refine XS.ifNo X0.here hx rfl (hb hby d6_27) rfl (own_ltL hf2).2.1 ?_
      show Steps p.tables e below (s₁.setTop (mkF m 30 #[.val (.long q0), .second, .val (.long (f6_23 q0)), .second] [])) _
      refine XS.iconst X0.here hx rfl (hb hby d6_30) ?_
      show Steps p.tables e below (s₁.setTop (mkF m 31 #[.val (.long q0), .second, .val (.long (f6_23 q0)), .second] [(.int (1 : Int32))])) _
      refine XS.goto X0.here hx rfl (pc0 := 31) (pc' := 35) rfl (hb hby d6_31) (by decide) (by decide) ?_
      show Steps p.tables e below (s₁.setTop (mkF m 35 #[.val (.long q0), .second, .val (.long (f6_23 q0)), .second] [(.int (1 : Int32))])) _
      rw [show (f6_35 q0) = ((1 : Int32) : Int32) from by simp only [f6_35, if_pos hf2]] at k
      exact k
    · refine XS.ifYes X0.here hx rfl (pc0 := 27) (pc' := 34) rfl (hb hby d6_27) rfl (own_fltL hf2).2.1 (by decide) (by decide) ?_
      show Steps p.tables e below (s₁.setTop (mkF m 34 #[.val (.long q0), .second, .val (.long (f6_23 q0)), .second] [])) _
      refine XS.iconst X0.here hx rfl (hb hby d6_34) ?_
      show Steps p.tables e below (s₁.setTop (mkF m 35 #[.val (.long q0), .second, .val (.long (f6_23 q0)), .second] [(.int (0 : Int32))])) _
      rw [show (f6_35 q0) = ((0 : Int32) : Int32) from by simp only [f6_35, if_neg hf2]] at k
      exact k)
  obtain ⟨fs, hr, hrun, hended, hW, hsame⟩ := X0.leave (v := some (.int ((f6_35 q0) &&& 1))) (fun h => by rw [Bd.returns] at h; cases h)
  refine ⟨_, _, pre3 _ ?_, hrun, hended, _, _, rfl, ?_, ⟨_, rfl⟩, hW, hsame.mono (by decide) (by decide)⟩
  · exact retN X0 hx (t := .boolean) Bd.returns (by simp) (hb hby d6_35) hr
  · show Q6 Z q0 h0 n0 _ s₁.heap _
    rw [e0]
    exact ⟨rfl, N0, rfl⟩
theorem pd_1 : parseMethodDescriptor "(J)V" = some ⟨[.long], none⟩ := by decide +kernel
theorem pd_2 : parseMethodDescriptor "()Z" = some ⟨[], some .boolean⟩ := by decide +kernel
theorem pd_3 : parseMethodDescriptor "(J)Z" = some ⟨[.long], some .boolean⟩ := by decide +kernel
theorem ef_0 (m : MethodId) (q0 : Int64) : entryFrame m #[(.long q0)] maxLocals = mkF m 0 #[.val (.long q0), .second, .unset, .unset, .unset, .unset, .unset, .unset, .unset, .unset, .unset, .unset, .unset, .unset, .unset] [] := by first | (simp [entryFrame, mkF, argsToLocals, Value.category, maxLocals]; done) | rfl
def f0_13 (q0 : Int64) : Int64 := ((q0 + (-7046029254386353131 : Int64)) + (-7046029254386353131 : Int64))
def f0_44 (q0 : Int64) : Int32 := ((f3_14 (q0 + (-7046029254386353131 : Int64))) &&& 1)

theorem own_sgn (x : Int64) : (x ^^^ own_sr x 31) < (0 : Int64) ↔ x < (0 : Int64) := by
  have e : (own_sr x 31).toInt = (x.toInt % 18446744073709551616) / (2 ^ 31 : Nat) := c_lushr x 31 31 (by decide) (by decide)
  have h := c_xorSL x (own_sr x 31)
  rw [Int64.lt_iff_toInt_lt, Int64.lt_iff_toInt_lt, show (0 : Int64).toInt = 0 from rfl]
  have r := rng64 x
  have p : 0 ≤ (own_sr x 31).toInt := by rw [e]; omega
  constructor
  · intro q
    apply Decidable.byContradiction
    intro n
    have := h.2.2.2 (by omega) p
    omega
  · intro q
    exact h.2.1 q p
theorem own_top (w : Int64) : ((f3_14 w) &&& 1) = f6_ret (w + (-7046029254386353131 : Int64)) := by
  have e : f6_ret (w + (-7046029254386353131 : Int64)) = ((if own_m2 (w + (-7046029254386353131 : Int64)) < (0 : Int64) then (1 : Int32) else (0 : Int32)) &&& 1) := rfl
  have e2 : f3_14 w = (if (own_m2 (w + (-7046029254386353131 : Int64)) ^^^ own_sr (own_m2 (w + (-7046029254386353131 : Int64))) 31) < (0 : Int64) then (1 : Int32) else (0 : Int32)) := rfl
  rw [e, e2]
  by_cases h : own_m2 (w + (-7046029254386353131 : Int64)) < (0 : Int64)
  · rw [if_pos h, if_pos ((own_sgn _).mpr h)]
  · rw [if_neg h, if_neg (fun q => h ((own_sgn _).mp q))]

def Q0 (Z : State) (q0 : Int64) (h0 : Heap) (n0 : Nat) (v : Option Value) (h : Heap) (L : List Loc) : Prop := v = some (.int 1) ∧ Fr n0 L
set_option maxRecDepth 65536 in
set_option maxHeartbeats 40000000 in
theorem rm0 (l : Launch) (Z : State) (a0 : Array Value) (hw : ∀ d ∈ tables_1, d.before a0 Z = true) (ws : List Jvm.Cond) (q0 : Int64) (h0 : Heap) (n0 : Nat) (Z0 : n0 ≤ h0.size)  :
    MetFree l x (head1 (Jvm.Cond.code x code maxLocals ret :: ws) room_1) (fun a U => a = #[(.long q0)] ∧ Z.Warmed39 U.vm ∧ U.heap = h0) (fun _ _ _ _ _ => True) (fun _ U o U' => ∃ v L, o = .returned v ∧ Q0 Z q0 h0 n0 v U'.heap L ∧ FrameEnd U o U' L room_1.cells room_1.slots) := by
  refine MetFree.of_bodySF (plainFor_of_name pn_1) hisR ?_
  intro p e s m args below meth c s₁ Bd hml0 hP hK
  obtain ⟨rfl, hZ, hh⟩ := hP
  have hx := Bd.exec
  have hby := Bd.bytes
  have hml : c.maxLocals = 15 := hml0
  have hown : s.vm.findClass "com/example/wakasato/wakasato/search/SeededRandomNextBooleanPinLaw" = some m.cls := findClass_of_methodNamed Bd.named
  have hnm := (name_of_methodNamed Bd.named Bd.method).1
  have X0 : Stand p l e room_1 s m #[(.long q0)] below meth c s₁ [] 0 0 := Stand.of_body Bd
  have e0 : s₁.heap = h0 := by rw [← hh, Bd.state]; rfl
  have N0 := Fr.nil n0
  have pre0 : ∀ t, Steps p.tables e below (s₁.setTop (mkF m 0 #[.val (.long q0), .second, .unset, .unset, .unset, .unset, .unset, .unset, .unset, .unset, .unset, .unset, .unset, .unset, .unset] [])) t → Steps p.tables e below (s₁.setTop (entryFrame m #[(.long q0)] maxLocals)) t := fun t k => castTop (ef_0 m q0) k
  obtain ⟨T1, h1, X1, e1, Ex1, Ne1, D1, -, st1⟩ := newO X0 hx hZ hown (hw _ (List.mem_of_getElem? (i := 1) rfl)) (hw _ (List.mem_of_getElem? (i := 2) rfl)) (hw _ (List.mem_of_getElem? (i := 3) rfl)) e0 (g := (mkF m 15 #[.val (.long q0), .second, .val (.long (-7046029254386353131 : Int64)), .second, .val (.long (q0 + (-7046029254386353131 : Int64))), .second, .val (.long (f0_13 q0)), .second, .unset, .unset, .unset, .unset, .unset, .unset, .unset] [])) rfl (hb hby at_15) (by decide) (by decide)
  obtain ⟨b1, g1⟩ : ∃ z, z = h0.size := ⟨_, rfl⟩
  rw [← g1] at Ne1 D1 st1
  have g_b1 : n0 ≤ b1 := Nat.le_trans (Nat.le_trans Z0 (Nat.le_refl _)) (Nat.le_of_eq g1.symm)
  have sz_b1 : h0.size ≤ b1 := Nat.le_trans (Nat.le_refl _) (Nat.le_of_eq g1.symm)
  have SZ3 : h0.size ≤ h1.size := Nat.le_trans (Nat.le_refl _) Ex1.1
  have ZZ3 : n0 ≤ h1.size := Nat.le_trans Z0 SZ3
  have K4 : Keep h0 h1 [] := ((Keep.refl h0 [])).ext Ex1
  have F_state_b1_1 : Fld Z h1 b1 "com/example/wakasato/wakasato/search/SeededRandom" "state" "J" (.long (0 : Int64)) := D1 (Or.inl (hw _ (List.mem_of_getElem? (i := 11) rfl))) (ty := .long) (by decide)
  obtain ⟨_, _, ⟨T5, L5, k5, n5⟩, -, X5, ⟨Lc5, hQ5, l5, y5, z5⟩, st5⟩ := X1.specialBack hx (y := (⟨"com/example/wakasato/wakasato/search/SeededRandom", "<init>", "(J)V"⟩ : MethodName)) rfl hown (mvT hZ (hw _ (List.mem_of_getElem? (i := 4) rfl))) (mvT hZ (hw _ (List.mem_of_getElem? (i := 5) rfl))) (mvT hZ (hw _ (List.mem_of_getElem? (i := 6) rfl))) (by decide) (backOf (W := 1) (rm1 l Z a0 hw [] b1 q0 (0 : Int64) h1 n0 ZZ3 F_state_b1_1 Ne1 g_b1) hZ (hw _ (List.mem_of_getElem? (i := 6) rfl)) (hw _ (List.mem_of_getElem? (i := 3) rfl)) (by decide) (by decide)) (g := (mkF m 20 #[.val (.long q0), .second, .val (.long (-7046029254386353131 : Int64)), .second, .val (.long (q0 + (-7046029254386353131 : Int64))), .second, .val (.long (f0_13 q0)), .second, .unset, .unset, .unset, .unset, .unset, .unset, .unset] [(.long q0), (.ref b1), (.ref b1)])) rfl (by rw [hml]; rfl) (Steps.refl _) (a := b1) (argsL := [(.long q0)]) (rest := [(.ref b1)]) (lenOf pd_1 rfl) rfl (by show 2 * 0 + _ ≤ _; exact Nat.le_of_eq rfl) (hb hby at_20) (fun _ _ => ⟨rfl, e1, (by decide : 1 + 0 ≤ _), (by decide : 1 + 0 ≤ _)⟩)
  dsimp only [Pt.U, Pt.locs, Pt.cells, Pt.slots] at X5 l5 y5 z5 st5 hQ5
  subst l5 y5 z5
  obtain ⟨rfl, N5q, Kc5, P5_0⟩ := hQ5
  have N5 := Fr.app N0 N5q
  have E_b1_6 : Exa Z T5.heap b1 "com/example/wakasato/wakasato/search/SeededRandom" := (Ne1).keep Kc5
  have SZ7 : h0.size ≤ T5.heap.size := Nat.le_trans SZ3 Kc5.1
  have ZZ7 : n0 ≤ T5.heap.size := Nat.le_trans Z0 SZ7
  have K8 : Keep h0 T5.heap [] := (K4).trans Kc5 (allS (Or.inr sz_b1) all0)
  obtain ⟨cq9, kq9, q9a, q9b, q9c⟩ := isOf hZ rfl (E_b1_6)
  obtain ⟨_, _, ⟨T9, L9, k9, n9⟩, -, X9, ⟨Lc9, hQ9, l9, y9, z9⟩, st9⟩ := X5.virtualBack hx (y := (⟨"com/example/wakasato/wakasato/search/SeededRandom", "nextBoolean", "()Z"⟩ : MethodName)) (z := (⟨"com/example/wakasato/wakasato/search/SeededRandom", "nextBoolean", "()Z"⟩ : MethodName)) hown (mvT hZ (hw _ (List.mem_of_getElem? (i := 12) rfl))) (mvT hZ (hw _ (List.mem_of_getElem? (i := 13) rfl))) (notFace_of_selects (args := #[]) (mvT hZ (hw _ (List.mem_of_getElem? (i := 15) rfl)))) (mvT hZ (hw _ (List.mem_of_getElem? (i := 15) rfl))) (mvT hZ (hw _ (List.mem_of_getElem? (i := 14) rfl))) (by decide) (backOf (W := 0) (rm3 l Z a0 hw [] b1 q0 T5.heap n0 ZZ7 P5_0 E_b1_6 g_b1) hZ (hw _ (List.mem_of_getElem? (i := 16) rfl)) (hw _ (List.mem_of_getElem? (i := 3) rfl)) (by decide) (by decide)) q9a q9c (g := (mkF m 27 #[.val (.long q0), .second, .val (.long (-7046029254386353131 : Int64)), .second, .val (.long (q0 + (-7046029254386353131 : Int64))), .second, .val (.long (f0_13 q0)), .second, .val (.ref b1), .unset, .unset, .unset, .unset, .unset, .unset] [(.ref b1)])) rfl (by rw [hml]; rfl) (Steps.refl _) (argsL := []) (rest := []) (lenOf pd_2 rfl) rfl (by show 2 * 0 + _ ≤ _; exact Nat.le_of_eq rfl) (hb hby at_27) (fun _ _ => ⟨rfl, rfl, (by decide : 1 + 0 ≤ _), (by decide : 1 + 0 ≤ _)⟩)
  dsimp only [Pt.U, Pt.locs, Pt.cells, Pt.slots] at X9 l9 y9 z9 st9 hQ9
  subst l9 y9 z9
  obtain ⟨rfl, N9q, Kc9, P9_0⟩ := hQ9
  have N9 := Fr.app N5 N9q
  have E_b1_10 : Exa Z T9.heap b1 "com/example/wakasato/wakasato/search/SeededRandom" := (E_b1_6).keep Kc9
  have SZ11 : h0.size ≤ T9.heap.size := Nat.le_trans SZ7 Kc9.1
  have ZZ11 : n0 ≤ T9.heap.size := Nat.le_trans Z0 SZ11
  have K12 : Keep h0 T9.heap [] := (K8).trans Kc9 (allS (Or.inr sz_b1) all0)
  obtain ⟨cq13, kq13, q13a, q13b, q13c⟩ := isOf hZ rfl (E_b1_10)
  obtain ⟨_, _, ⟨T13, L13, k13, n13⟩, -, X13, ⟨Lc13, hQ13, l13, y13, z13⟩, st13⟩ := X9.virtualBack hx (y := (⟨"com/example/wakasato/wakasato/search/SeededRandom", "state", "()J"⟩ : MethodName)) (z := (⟨"com/example/wakasato/wakasato/search/SeededRandom", "state", "()J"⟩ : MethodName)) hown (mvT hZ (hw _ (List.mem_of_getElem? (i := 25) rfl))) (mvT hZ (hw _ (List.mem_of_getElem? (i := 26) rfl))) (notFace_of_selects (args := #[]) (mvT hZ (hw _ (List.mem_of_getElem? (i := 28) rfl)))) (mvT hZ (hw _ (List.mem_of_getElem? (i := 28) rfl))) (mvT hZ (hw _ (List.mem_of_getElem? (i := 27) rfl))) (by decide) (backOf (W := 0) (rm5 l Z a0 hw [] b1 (q0 + (-7046029254386353131 : Int64)) T9.heap n0 ZZ11 P9_0) hZ (hw _ (List.mem_of_getElem? (i := 29) rfl)) (hw _ (List.mem_of_getElem? (i := 3) rfl)) (by decide) (by decide)) q13a q13c (g := (mkF m 34 #[.val (.long q0), .second, .val (.long (-7046029254386353131 : Int64)), .second, .val (.long (q0 + (-7046029254386353131 : Int64))), .second, .val (.long (f0_13 q0)), .second, .val (.ref b1), .val (.int ((f3_14 q0) &&& 1)), .unset, .unset, .unset, .unset, .unset] [(.ref b1)])) rfl (by rw [hml]; rfl) (Steps.refl _) (argsL := []) (rest := []) (lenOf pd_0 rfl) rfl (by show 2 * 0 + _ ≤ _; exact Nat.le_of_eq rfl) (hb hby at_34) (fun _ _ => ⟨rfl, rfl, (by decide : 1 + 0 ≤ _), (by decide : 1 + 0 ≤ _)⟩)
  dsimp only [Pt.U, Pt.locs, Pt.cells, Pt.slots] at X13 l13 y13 z13 st13 hQ13
  subst l13 y13 z13
  obtain ⟨rfl, N13q, hh13⟩ := hQ13
  have N13 := Fr.app N9 N13q
  obtain ⟨cq14, kq14, q14a, q14b, q14c⟩ := isOf hZ hh13 (E_b1_10)
  obtain ⟨_, _, ⟨T14, L14, k14, n14⟩, -, X14, ⟨Lc14, hQ14, l14, y14, z14⟩, st14⟩ := X13.virtualBack hx (y := (⟨"com/example/wakasato/wakasato/search/SeededRandom", "nextBoolean", "()Z"⟩ : MethodName)) (z := (⟨"com/example/wakasato/wakasato/search/SeededRandom", "nextBoolean", "()Z"⟩ : MethodName)) hown (mvT hZ (hw _ (List.mem_of_getElem? (i := 12) rfl))) (mvT hZ (hw _ (List.mem_of_getElem? (i := 13) rfl))) (notFace_of_selects (args := #[]) (mvT hZ (hw _ (List.mem_of_getElem? (i := 15) rfl)))) (mvT hZ (hw _ (List.mem_of_getElem? (i := 15) rfl))) (mvT hZ (hw _ (List.mem_of_getElem? (i := 14) rfl))) (by decide) (backOf (W := 0) (rm3 l Z a0 hw [] b1 (q0 + (-7046029254386353131 : Int64)) T9.heap n0 ZZ11 P9_0 E_b1_10 g_b1) hZ (hw _ (List.mem_of_getElem? (i := 16) rfl)) (hw _ (List.mem_of_getElem? (i := 3) rfl)) (by decide) (by decide)) q14a q14c (g := (mkF m 41 #[.val (.long q0), .second, .val (.long (-7046029254386353131 : Int64)), .second, .val (.long (q0 + (-7046029254386353131 : Int64))), .second, .val (.long (f0_13 q0)), .second, .val (.ref b1), .val (.int ((f3_14 q0) &&& 1)), .val (.long (q0 + (-7046029254386353131 : Int64))), .second, .unset, .unset, .unset] [(.ref b1)])) rfl (by rw [hml]; rfl) (Steps.refl _) (argsL := []) (rest := []) (lenOf pd_2 rfl) rfl (by show 2 * 0 + _ ≤ _; exact Nat.le_of_eq rfl) (hb hby at_41) (fun _ _ => ⟨rfl, hh13, (by decide : 1 + 0 ≤ _), (by decide : 1 + 0 ≤ _)⟩)
  dsimp only [Pt.U, Pt.locs, Pt.cells, Pt.slots] at X14 l14 y14 z14 st14 hQ14
  subst l14 y14 z14
  obtain ⟨rfl, N14q, Kc14, P14_0⟩ := hQ14
  have N14 := Fr.app N13 N14q
  have E_b1_15 : Exa Z T14.heap b1 "com/example/wakasato/wakasato/search/SeededRandom" := (E_b1_10).keep Kc14
  have SZ16 : h0.size ≤ T14.heap.size := Nat.le_trans SZ11 Kc14.1
  have ZZ16 : n0 ≤ T14.heap.size := Nat.le_trans Z0 SZ16
  have K17 : Keep h0 T14.heap [] := (K12).trans Kc14 (allS (Or.inr sz_b1) all0)
  obtain ⟨cq18, kq18, q18a, q18b, q18c⟩ := isOf hZ rfl (E_b1_15)
  obtain ⟨_, _, ⟨T18, L18, k18, n18⟩, -, X18, ⟨Lc18, hQ18, l18, y18, z18⟩, st18⟩ := X14.virtualBack hx (y := (⟨"com/example/wakasato/wakasato/search/SeededRandom", "state", "()J"⟩ : MethodName)) (z := (⟨"com/example/wakasato/wakasato/search/SeededRandom", "state", "()J"⟩ : MethodName)) hown (mvT hZ (hw _ (List.mem_of_getElem? (i := 25) rfl))) (mvT hZ (hw _ (List.mem_of_getElem? (i := 26) rfl))) (notFace_of_selects (args := #[]) (mvT hZ (hw _ (List.mem_of_getElem? (i := 28) rfl)))) (mvT hZ (hw _ (List.mem_of_getElem? (i := 28) rfl))) (mvT hZ (hw _ (List.mem_of_getElem? (i := 27) rfl))) (by decide) (backOf (W := 0) (rm5 l Z a0 hw [] b1 ((q0 + (-7046029254386353131 : Int64)) + (-7046029254386353131 : Int64)) T14.heap n0 ZZ16 P14_0) hZ (hw _ (List.mem_of_getElem? (i := 29) rfl)) (hw _ (List.mem_of_getElem? (i := 3) rfl)) (by decide) (by decide)) q18a q18c (g := (mkF m 48 #[.val (.long q0), .second, .val (.long (-7046029254386353131 : Int64)), .second, .val (.long (q0 + (-7046029254386353131 : Int64))), .second, .val (.long (f0_13 q0)), .second, .val (.ref b1), .val (.int ((f3_14 q0) &&& 1)), .val (.long (q0 + (-7046029254386353131 : Int64))), .second, .val (.int (f0_44 q0)), .unset, .unset] [(.ref b1)])) rfl (by rw [hml]; rfl) (Steps.refl _) (argsL := []) (rest := []) (lenOf pd_0 rfl) rfl (by show 2 * 0 + _ ≤ _; exact Nat.le_of_eq rfl) (hb hby at_48) (fun _ _ => ⟨rfl, rfl, (by decide : 1 + 0 ≤ _), (by decide : 1 + 0 ≤ _)⟩)
  dsimp only [Pt.U, Pt.locs, Pt.cells, Pt.slots] at X18 l18 y18 z18 st18 hQ18
  subst l18 y18 z18
  obtain ⟨rfl, N18q, hh18⟩ := hQ18
  have N18 := Fr.app N14 N18q
  obtain ⟨_, _, ⟨T19, L19, k19, n19⟩, -, X19, ⟨Lc19, hQ19, l19, y19, z19⟩, st19⟩ := Jvm.LawKit.callS X18 hx (y := (⟨"com/example/wakasato/wakasato/search/SeededRandomNextBooleanPinLaw", "topBitOfMix", "(J)Z"⟩ : MethodName)) hown (mvT hZ (hw _ (List.mem_of_getElem? (i := 30) rfl))) (mvT hZ (hw _ (List.mem_of_getElem? (i := 31) rfl))) (mvT hZ (hw _ (List.mem_of_getElem? (i := 32) rfl))) (mvT hZ (hw _ (List.mem_of_getElem? (i := 33) rfl))) (by decide) (backOf (W := 1) (rm6 l Z a0 hw [] (q0 + (-7046029254386353131 : Int64)) T14.heap n0 ZZ16) hZ (hw _ (List.mem_of_getElem? (i := 33) rfl)) (hw _ (List.mem_of_getElem? (i := 32) rfl)) (by decide) (by decide)) (g := (mkF m 73 #[.val (.long q0), .second, .val (.long (-7046029254386353131 : Int64)), .second, .val (.long (q0 + (-7046029254386353131 : Int64))), .second, .val (.long (f0_13 q0)), .second, .val (.ref b1), .val (.int ((f3_14 q0) &&& 1)), .val (.long (q0 + (-7046029254386353131 : Int64))), .second, .val (.int (f0_44 q0)), .val (.long (f0_13 q0)), .second] [(.long (q0 + (-7046029254386353131 : Int64))), (.int ((f3_14 q0) &&& 1))])) rfl (by rw [hml]; rfl) (argsL := [(.long (q0 + (-7046029254386353131 : Int64)))]) (rest := [(.int ((f3_14 q0) &&& 1))]) (lenOf pd_3 rfl) rfl (by show 2 * 0 + _ ≤ _; exact Nat.le_of_eq rfl) (hb hby at_73) (fun _ _ => ⟨rfl, hh18, (by decide : 1 + 0 ≤ _), (by decide : 1 + 0 ≤ _)⟩)
  dsimp only [Pt.U, Pt.locs, Pt.cells, Pt.slots] at X19 l19 y19 z19 st19 hQ19
  subst l19 y19 z19
  obtain ⟨rfl, N19q, hh19⟩ := hQ19
  have N19 := Fr.app N18 N19q
  obtain ⟨_, _, ⟨T20, L20, k20, n20⟩, -, X20, ⟨Lc20, hQ20, l20, y20, z20⟩, st20⟩ := Jvm.LawKit.callS X19 hx (y := (⟨"com/example/wakasato/wakasato/search/SeededRandomNextBooleanPinLaw", "topBitOfMix", "(J)Z"⟩ : MethodName)) hown (mvT hZ (hw _ (List.mem_of_getElem? (i := 30) rfl))) (mvT hZ (hw _ (List.mem_of_getElem? (i := 31) rfl))) (mvT hZ (hw _ (List.mem_of_getElem? (i := 32) rfl))) (mvT hZ (hw _ (List.mem_of_getElem? (i := 33) rfl))) (by decide) (backOf (W := 1) (rm6 l Z a0 hw [] (f0_13 q0) T14.heap n0 ZZ16) hZ (hw _ (List.mem_of_getElem? (i := 33) rfl)) (hw _ (List.mem_of_getElem? (i := 32) rfl)) (by decide) (by decide)) (g := (mkF m 83 #[.val (.long q0), .second, .val (.long (-7046029254386353131 : Int64)), .second, .val (.long (q0 + (-7046029254386353131 : Int64))), .second, .val (.long (f0_13 q0)), .second, .val (.ref b1), .val (.int ((f3_14 q0) &&& 1)), .val (.long (q0 + (-7046029254386353131 : Int64))), .second, .val (.int (f0_44 q0)), .val (.long (f0_13 q0)), .second] [(.long (f0_13 q0)), (.int (f0_44 q0))])) rfl (by rw [hml]; rfl) (argsL := [(.long (f0_13 q0))]) (rest := [(.int (f0_44 q0))]) (lenOf pd_3 rfl) rfl (by show 2 * 0 + _ ≤ _; exact Nat.le_of_eq rfl) (hb hby at_83) (fun _ _ => ⟨rfl, hh19, (by decide : 1 + 0 ≤ _), (by decide : 1 + 0 ≤ _)⟩)
  dsimp only [Pt.U, Pt.locs, Pt.cells, Pt.slots] at X20 l20 y20 z20 st20 hQ20
  subst l20 y20 z20
  obtain ⟨rfl, N20q, hh20⟩ := hQ20
  have N20 := Fr.app N19 N20q
  have pre21 : ∀ t, Steps p.tables e below (T20.setTop (mkF m 94 #[.val (.long q0), .second, .val (.long (-7046029254386353131 : Int64)), .second, .val (.long (q0 + (-7046029254386353131 : Int64))), .second, .val (.long (f0_13 q0)), .second, .val (.ref b1), .val (.int ((f3_14 q0) &&& 1)), .val (.long (q0 + (-7046029254386353131 : Int64))), .second, .val (.int (f0_44 q0)), .val (.long (f0_13 q0)), .second] [(.int (1 : Int32))])) t → Steps p.tables e below (s₁.setTop (entryFrame m #[(.long q0)] maxLocals)) t := fun t k => pre0 t (by
    show Steps p.tables e below (s₁.setTop (mkF m 0 #[.val (.long q0), .second, .unset, .unset, .unset, .unset, .unset, .unset, .unset, .unset, .unset, .unset, .unset, .unset, .unset] [])) _
    refine X0.ldc2Long hx hown (mvT hZ (hw _ (List.mem_of_getElem? (i := 0) rfl))) (g := (mkF m 0 #[.val (.long q0), .second, .unset, .unset, .unset, .unset, .unset, .unset, .unset, .unset, .unset, .unset, .unset, .unset, .unset] [])) rfl (hb hby at_0) _ ?_
    show Steps p.tables e below (s₁.setTop (mkF m 3 #[.val (.long q0), .second, .unset, .unset, .unset, .unset, .unset, .unset, .unset, .unset, .unset, .unset, .unset, .unset, .unset] [(.long (-7046029254386353131 : Int64))])) _
    refine XS.lstoreN X0.here hx rfl (hb hby at_3) rfl (l' := #[.val (.long q0), .second, .val (.long (-7046029254386353131 : Int64)), .second, .unset, .unset, .unset, .unset, .unset, .unset, .unset, .unset, .unset, .unset, .unset]) rfl ?_
    show Steps p.tables e below (s₁.setTop (mkF m 4 #[.val (.long q0), .second, .val (.long (-7046029254386353131 : Int64)), .second, .unset, .unset, .unset, .unset, .unset, .unset, .unset, .unset, .unset, .unset, .unset] [])) _
    refine XS.lloadN X0.here hx rfl (hb hby at_4) rfl ?_
    show Steps p.tables e below (s₁.setTop (mkF m 5 #[.val (.long q0), .second, .val (.long (-7046029254386353131 : Int64)), .second, .unset, .unset, .unset, .unset, .unset, .unset, .unset, .unset, .unset, .unset, .unset] [(.long q0)])) _
    refine XS.lloadN X0.here hx rfl (hb hby at_5) rfl ?_
    show Steps p.tables e below (s₁.setTop (mkF m 6 #[.val (.long q0), .second, .val (.long (-7046029254386353131 : Int64)), .second, .unset, .unset, .unset, .unset, .unset, .unset, .unset, .unset, .unset, .unset, .unset] [(.long (-7046029254386353131 : Int64)), (.long q0)])) _
    refine XS.ladd X0.here hx rfl (hb hby at_6) rfl ?_
    show Steps p.tables e below (s₁.setTop (mkF m 7 #[.val (.long q0), .second, .val (.long (-7046029254386353131 : Int64)), .second, .unset, .unset, .unset, .unset, .unset, .unset, .unset, .unset, .unset, .unset, .unset] [(.long (q0 + (-7046029254386353131 : Int64)))])) _
    refine XS.lstore X0.here hx rfl (hb hby at_7) rfl (l' := #[.val (.long q0), .second, .val (.long (-7046029254386353131 : Int64)), .second, .val (.long (q0 + (-7046029254386353131 : Int64))), .second, .unset, .unset, .unset, .unset, .unset, .unset, .unset, .unset, .unset]) rfl ?_
    show Steps p.tables e below (s₁.setTop (mkF m 9 #[.val (.long q0), .second, .val (.long (-7046029254386353131 : Int64)), .second, .val (.long (q0 + (-7046029254386353131 : Int64))), .second, .unset, .unset, .unset, .unset, .unset, .unset, .unset, .unset, .unset] [])) _
    refine XS.lload X0.here hx rfl (hb hby at_9) rfl ?_
    show Steps p.tables e below (s₁.setTop (mkF m 11 #[.val (.long q0), .second, .val (.long (-7046029254386353131 : Int64)), .second, .val (.long (q0 + (-7046029254386353131 : Int64))), .second, .unset, .unset, .unset, .unset, .unset, .unset, .unset, .unset, .unset] [(.long (q0 + (-7046029254386353131 : Int64)))])) _
    refine XS.lloadN X0.here hx rfl (hb hby at_11) rfl ?_
    show Steps p.tables e below (s₁.setTop (mkF m 12 #[.val (.long q0), .second, .val (.long (-7046029254386353131 : Int64)), .second, .val (.long (q0 + (-7046029254386353131 : Int64))), .second, .unset, .unset, .unset, .unset, .unset, .unset, .unset, .unset, .unset] [(.long (-7046029254386353131 : Int64)), (.long (q0 + (-7046029254386353131 : Int64)))])) _
    refine XS.ladd X0.here hx rfl (hb hby at_12) rfl ?_
    show Steps p.tables e below (s₁.setTop (mkF m 13 #[.val (.long q0), .second, .val (.long (-7046029254386353131 : Int64)), .second, .val (.long (q0 + (-7046029254386353131 : Int64))), .second, .unset, .unset, .unset, .unset, .unset, .unset, .unset, .unset, .unset] [(.long ((q0 + (-7046029254386353131 : Int64)) + (-7046029254386353131 : Int64)))])) _
    refine XS.lstore X0.here hx rfl (hb hby at_13) rfl (l' := #[.val (.long q0), .second, .val (.long (-7046029254386353131 : Int64)), .second, .val (.long (q0 + (-7046029254386353131 : Int64))), .second, .val (.long (f0_13 q0)), .second, .unset, .unset, .unset, .unset, .unset, .unset, .unset]) rfl ?_
    show Steps p.tables e below (s₁.setTop (mkF m 15 #[.val (.long q0), .second, .val (.long (-7046029254386353131 : Int64)), .second, .val (.long (q0 + (-7046029254386353131 : Int64))), .second, .val (.long (f0_13 q0)), .second, .unset, .unset, .unset, .unset, .unset, .unset, .unset] [])) _
    refine st1 _ ?_
    show Steps p.tables e below (T1.setTop (mkF m 18 #[.val (.long q0), .second, .val (.long (-7046029254386353131 : Int64)), .second, .val (.long (q0 + (-7046029254386353131 : Int64))), .second, .val (.long (f0_13 q0)), .second, .unset, .unset, .unset, .unset, .unset, .unset, .unset] [(.ref b1)])) _
    refine XS.dup X1.here hx rfl (hb hby at_18) rfl rfl ?_
    show Steps p.tables e below (T1.setTop (mkF m 19 #[.val (.long q0), .second, .val (.long (-7046029254386353131 : Int64)), .second, .val (.long (q0 + (-7046029254386353131 : Int64))), .second, .val (.long (f0_13 q0)), .second, .unset, .unset, .unset, .unset, .unset, .unset, .unset] [(.ref b1), (.ref b1)])) _
    refine XS.lloadN X1.here hx rfl (hb hby at_19) rfl ?_
    show Steps p.tables e below (T1.setTop (mkF m 20 #[.val (.long q0), .second, .val (.long (-7046029254386353131 : Int64)), .second, .val (.long (q0 + (-7046029254386353131 : Int64))), .second, .val (.long (f0_13 q0)), .second, .unset, .unset, .unset, .unset, .unset, .unset, .unset] [(.long q0), (.ref b1), (.ref b1)])) _
    refine st5.trans ?_
    show Steps p.tables e below (T5.setTop (mkF m 23 #[.val (.long q0), .second, .val (.long (-7046029254386353131 : Int64)), .second, .val (.long (q0 + (-7046029254386353131 : Int64))), .second, .val (.long (f0_13 q0)), .second, .unset, .unset, .unset, .unset, .unset, .unset, .unset] [(.ref b1)])) _
    refine XS.astore X5.here hx rfl (hb hby at_23) rfl rfl (l' := #[.val (.long q0), .second, .val (.long (-7046029254386353131 : Int64)), .second, .val (.long (q0 + (-7046029254386353131 : Int64))), .second, .val (.long (f0_13 q0)), .second, .val (.ref b1), .unset, .unset, .unset, .unset, .unset, .unset]) rfl ?_
    show Steps p.tables e below (T5.setTop (mkF m 25 #[.val (.long q0), .second, .val (.long (-7046029254386353131 : Int64)), .second, .val (.long (q0 + (-7046029254386353131 : Int64))), .second, .val (.long (f0_13 q0)), .second, .val (.ref b1), .unset, .unset, .unset, .unset, .unset, .unset] [])) _
    refine XS.aload X5.here hx rfl (hb hby at_25) rfl rfl ?_
    show Steps p.tables e below (T5.setTop (mkF m 27 #[.val (.long q0), .second, .val (.long (-7046029254386353131 : Int64)), .second, .val (.long (q0 + (-7046029254386353131 : Int64))), .second, .val (.long (f0_13 q0)), .second, .val (.ref b1), .unset, .unset, .unset, .unset, .unset, .unset] [(.ref b1)])) _
    refine st9.trans ?_
    show Steps p.tables e below (T9.setTop (mkF m 30 #[.val (.long q0), .second, .val (.long (-7046029254386353131 : Int64)), .second, .val (.long (q0 + (-7046029254386353131 : Int64))), .second, .val (.long (f0_13 q0)), .second, .val (.ref b1), .unset, .unset, .unset, .unset, .unset, .unset] [(.int ((f3_14 q0) &&& 1))])) _
    refine XS.istore X9.here hx rfl (hb hby at_30) rfl (l' := #[.val (.long q0), .second, .val (.long (-7046029254386353131 : Int64)), .second, .val (.long (q0 + (-7046029254386353131 : Int64))), .second, .val (.long (f0_13 q0)), .second, .val (.ref b1), .val (.int ((f3_14 q0) &&& 1)), .unset, .unset, .unset, .unset, .unset]) rfl ?_
    show Steps p.tables e below (T9.setTop (mkF m 32 #[.val (.long q0), .second, .val (.long (-7046029254386353131 : Int64)), .second, .val (.long (q0 + (-7046029254386353131 : Int64))), .second, .val (.long (f0_13 q0)), .second, .val (.ref b1), .val (.int ((f3_14 q0) &&& 1)), .unset, .unset, .unset, .unset, .unset] [])) _
    refine XS.aload X9.here hx rfl (hb hby at_32) rfl rfl ?_
    show Steps p.tables e below (T9.setTop (mkF m 34 #[.val (.long q0), .second, .val (.long (-7046029254386353131 : Int64)), .second, .val (.long (q0 + (-7046029254386353131 : Int64))), .second, .val (.long (f0_13 q0)), .second, .val (.ref b1), .val (.int ((f3_14 q0) &&& 1)), .unset, .unset, .unset, .unset, .unset] [(.ref b1)])) _
    refine st13.trans ?_
    show Steps p.tables e below (T13.setTop (mkF m 37 #[.val (.long q0), .second, .val (.long (-7046029254386353131 : Int64)), .second, .val (.long (q0 + (-7046029254386353131 : Int64))), .second, .val (.long (f0_13 q0)), .second, .val (.ref b1), .val (.int ((f3_14 q0) &&& 1)), .unset, .unset, .unset, .unset, .unset] [(.long (q0 + (-7046029254386353131 : Int64)))])) _
    refine XS.lstore X13.here hx rfl (hb hby at_37) rfl (l' := #[.val (.long q0), .second, .val (.long (-7046029254386353131 : Int64)), .second, .val (.long (q0 + (-7046029254386353131 : Int64))), .second, .val (.long (f0_13 q0)), .second, .val (.ref b1), .val (.int ((f3_14 q0) &&& 1)), .val (.long (q0 + (-7046029254386353131 : Int64))), .second, .unset, .unset, .unset]) rfl ?_
    show Steps p.tables e below (T13.setTop (mkF m 39 #[.val (.long q0), .second, .val (.long (-7046029254386353131 : Int64)), .second, .val (.long (q0 + (-7046029254386353131 : Int64))), .second, .val (.long (f0_13 q0)), .second, .val (.ref b1), .val (.int ((f3_14 q0) &&& 1)), .val (.long (q0 + (-7046029254386353131 : Int64))), .second, .unset, .unset, .unset] [])) _
    refine XS.aload X13.here hx rfl (hb hby at_39) rfl rfl ?_
    show Steps p.tables e below (T13.setTop (mkF m 41 #[.val (.long q0), .second, .val (.long (-7046029254386353131 : Int64)), .second, .val (.long (q0 + (-7046029254386353131 : Int64))), .second, .val (.long (f0_13 q0)), .second, .val (.ref b1), .val (.int ((f3_14 q0) &&& 1)), .val (.long (q0 + (-7046029254386353131 : Int64))), .second, .unset, .unset, .unset] [(.ref b1)])) _
    refine st14.trans ?_
    show Steps p.tables e below (T14.setTop (mkF m 44 #[.val (.long q0), .second, .val (.long (-7046029254386353131 : Int64)), .second, .val (.long (q0 + (-7046029254386353131 : Int64))), .second, .val (.long (f0_13 q0)), .second, .val (.ref b1), .val (.int ((f3_14 q0) &&& 1)), .val (.long (q0 + (-7046029254386353131 : Int64))), .second, .unset, .unset, .unset] [(.int ((f3_14 (q0 + (-7046029254386353131 : Int64))) &&& 1))])) _
    refine XS.istore X14.here hx rfl (hb hby at_44) rfl (l' := #[.val (.long q0), .second, .val (.long (-7046029254386353131 : Int64)), .second, .val (.long (q0 + (-7046029254386353131 : Int64))), .second, .val (.long (f0_13 q0)), .second, .val (.ref b1), .val (.int ((f3_14 q0) &&& 1)), .val (.long (q0 + (-7046029254386353131 : Int64))), .second, .val (.int (f0_44 q0)), .unset, .unset]) rfl ?_
    show Steps p.tables e below (T14.setTop (mkF m 46 #[.val (.long q0), .second, .val (.long (-7046029254386353131 : Int64)), .second, .val (.long (q0 + (-7046029254386353131 : Int64))), .second, .val (.long (f0_13 q0)), .second, .val (.ref b1), .val (.int ((f3_14 q0) &&& 1)), .val (.long (q0 + (-7046029254386353131 : Int64))), .second, .val (.int (f0_44 q0)), .unset, .unset] [])) _
    refine XS.aload X14.here hx rfl (hb hby at_46) rfl rfl ?_
    show Steps p.tables e below (T14.setTop (mkF m 48 #[.val (.long q0), .second, .val (.long (-7046029254386353131 : Int64)), .second, .val (.long (q0 + (-7046029254386353131 : Int64))), .second, .val (.long (f0_13 q0)), .second, .val (.ref b1), .val (.int ((f3_14 q0) &&& 1)), .val (.long (q0 + (-7046029254386353131 : Int64))), .second, .val (.int (f0_44 q0)), .unset, .unset] [(.ref b1)])) _
    refine st18.trans ?_
    show Steps p.tables e below (T18.setTop (mkF m 51 #[.val (.long q0), .second, .val (.long (-7046029254386353131 : Int64)), .second, .val (.long (q0 + (-7046029254386353131 : Int64))), .second, .val (.long (f0_13 q0)), .second, .val (.ref b1), .val (.int ((f3_14 q0) &&& 1)), .val (.long (q0 + (-7046029254386353131 : Int64))), .second, .val (.int (f0_44 q0)), .unset, .unset] [(.long (f0_13 q0))])) _
    refine XS.lstore X18.here hx rfl (hb hby at_51) rfl (l' := #[.val (.long q0), .second, .val (.long (-7046029254386353131 : Int64)), .second, .val (.long (q0 + (-7046029254386353131 : Int64))), .second, .val (.long (f0_13 q0)), .second, .val (.ref b1), .val (.int ((f3_14 q0) &&& 1)), .val (.long (q0 + (-7046029254386353131 : Int64))), .second, .val (.int (f0_44 q0)), .val (.long (f0_13 q0)), .second]) rfl ?_
    show Steps p.tables e below (T18.setTop (mkF m 53 #[.val (.long q0), .second, .val (.long (-7046029254386353131 : Int64)), .second, .val (.long (q0 + (-7046029254386353131 : Int64))), .second, .val (.long (f0_13 q0)), .second, .val (.ref b1), .val (.int ((f3_14 q0) &&& 1)), .val (.long (q0 + (-7046029254386353131 : Int64))), .second, .val (.int (f0_44 q0)), .val (.long (f0_13 q0)), .second] [])) _
    refine XS.lload X18.here hx rfl (hb hby at_53) rfl ?_
    show Steps p.tables e below (T18.setTop (mkF m 55 #[.val (.long q0), .second, .val (.long (-7046029254386353131 : Int64)), .second, .val (.long (q0 + (-7046029254386353131 : Int64))), .second, .val (.long (f0_13 q0)), .second, .val (.ref b1), .val (.int ((f3_14 q0) &&& 1)), .val (.long (q0 + (-7046029254386353131 : Int64))), .second, .val (.int (f0_44 q0)), .val (.long (f0_13 q0)), .second] [(.long (q0 + (-7046029254386353131 : Int64)))])) _
    refine XS.lload X18.here hx rfl (hb hby at_55) rfl ?_
    show Steps p.tables e below (T18.setTop (mkF m 57 #[.val (.long q0), .second, .val (.long (-7046029254386353131 : Int64)), .second, .val (.long (q0 + (-7046029254386353131 : Int64))), .second, .val (.long (f0_13 q0)), .second, .val (.ref b1), .val (.int ((f3_14 q0) &&& 1)), .val (.long (q0 + (-7046029254386353131 : Int64))), .second, .val (.int (f0_44 q0)), .val (.long (f0_13 q0)), .second] [(.long (q0 + (-7046029254386353131 : Int64))), (.long (q0 + (-7046029254386353131 : Int64)))])) _
    refine XS.lcmp X18.here hx rfl (hb hby at_57) rfl ?_
    show Steps p.tables e below (T18.setTop (mkF m 58 #[.val (.long q0), .second, .val (.long (-7046029254386353131 : Int64)), .second, .val (.long (q0 + (-7046029254386353131 : Int64))), .second, .val (.long (f0_13 q0)), .second, .val (.ref b1), .val (.int ((f3_14 q0) &&& 1)), .val (.long (q0 + (-7046029254386353131 : Int64))), .second, .val (.int (f0_44 q0)), .val (.long (f0_13 q0)), .second] [(.int (lcmpW (q0 + (-7046029254386353131 : Int64)) (q0 + (-7046029254386353131 : Int64))))])) _
    refine XS.ifNo X18.here hx rfl (hb hby at_58) rfl (own_eqL (show (q0 + (-7046029254386353131 : Int64)) = (q0 + (-7046029254386353131 : Int64)) from rfl)).2 ?_
    show Steps p.tables e below (T18.setTop (mkF m 61 #[.val (.long q0), .second, .val (.long (-7046029254386353131 : Int64)), .second, .val (.long (q0 + (-7046029254386353131 : Int64))), .second, .val (.long (f0_13 q0)), .second, .val (.ref b1), .val (.int ((f3_14 q0) &&& 1)), .val (.long (q0 + (-7046029254386353131 : Int64))), .second, .val (.int (f0_44 q0)), .val (.long (f0_13 q0)), .second] [])) _
    refine XS.lload X18.here hx rfl (hb hby at_61) rfl ?_
    show Steps p.tables e below (T18.setTop (mkF m 63 #[.val (.long q0), .second, .val (.long (-7046029254386353131 : Int64)), .second, .val (.long (q0 + (-7046029254386353131 : Int64))), .second, .val (.long (f0_13 q0)), .second, .val (.ref b1), .val (.int ((f3_14 q0) &&& 1)), .val (.long (q0 + (-7046029254386353131 : Int64))), .second, .val (.int (f0_44 q0)), .val (.long (f0_13 q0)), .second] [(.long (f0_13 q0))])) _
    refine XS.lload X18.here hx rfl (hb hby at_63) rfl ?_
    show Steps p.tables e below (T18.setTop (mkF m 65 #[.val (.long q0), .second, .val (.long (-7046029254386353131 : Int64)), .second, .val (.long (q0 + (-7046029254386353131 : Int64))), .second, .val (.long (f0_13 q0)), .second, .val (.ref b1), .val (.int ((f3_14 q0) &&& 1)), .val (.long (q0 + (-7046029254386353131 : Int64))), .second, .val (.int (f0_44 q0)), .val (.long (f0_13 q0)), .second] [(.long (f0_13 q0)), (.long (f0_13 q0))])) _
    refine XS.lcmp X18.here hx rfl (hb hby at_65) rfl ?_
    show Steps p.tables e below (T18.setTop (mkF m 66 #[.val (.long q0), .second, .val (.long (-7046029254386353131 : Int64)), .second, .val (.long (q0 + (-7046029254386353131 : Int64))), .second, .val (.long (f0_13 q0)), .second, .val (.ref b1), .val (.int ((f3_14 q0) &&& 1)), .val (.long (q0 + (-7046029254386353131 : Int64))), .second, .val (.int (f0_44 q0)), .val (.long (f0_13 q0)), .second] [(.int (lcmpW (f0_13 q0) (f0_13 q0)))])) _
    refine XS.ifNo X18.here hx rfl (hb hby at_66) rfl (own_eqL (show (f0_13 q0) = (f0_13 q0) from rfl)).2 ?_
    show Steps p.tables e below (T18.setTop (mkF m 69 #[.val (.long q0), .second, .val (.long (-7046029254386353131 : Int64)), .second, .val (.long (q0 + (-7046029254386353131 : Int64))), .second, .val (.long (f0_13 q0)), .second, .val (.ref b1), .val (.int ((f3_14 q0) &&& 1)), .val (.long (q0 + (-7046029254386353131 : Int64))), .second, .val (.int (f0_44 q0)), .val (.long (f0_13 q0)), .second] [])) _
    refine XS.iload X18.here hx rfl (hb hby at_69) rfl ?_
    show Steps p.tables e below (T18.setTop (mkF m 71 #[.val (.long q0), .second, .val (.long (-7046029254386353131 : Int64)), .second, .val (.long (q0 + (-7046029254386353131 : Int64))), .second, .val (.long (f0_13 q0)), .second, .val (.ref b1), .val (.int ((f3_14 q0) &&& 1)), .val (.long (q0 + (-7046029254386353131 : Int64))), .second, .val (.int (f0_44 q0)), .val (.long (f0_13 q0)), .second] [(.int ((f3_14 q0) &&& 1))])) _
    refine XS.lload X18.here hx rfl (hb hby at_71) rfl ?_
    show Steps p.tables e below (T18.setTop (mkF m 73 #[.val (.long q0), .second, .val (.long (-7046029254386353131 : Int64)), .second, .val (.long (q0 + (-7046029254386353131 : Int64))), .second, .val (.long (f0_13 q0)), .second, .val (.ref b1), .val (.int ((f3_14 q0) &&& 1)), .val (.long (q0 + (-7046029254386353131 : Int64))), .second, .val (.int (f0_44 q0)), .val (.long (f0_13 q0)), .second] [(.long (q0 + (-7046029254386353131 : Int64))), (.int ((f3_14 q0) &&& 1))])) _
    refine st19 _ ?_
    show Steps p.tables e below (T19.setTop (mkF m 76 #[.val (.long q0), .second, .val (.long (-7046029254386353131 : Int64)), .second, .val (.long (q0 + (-7046029254386353131 : Int64))), .second, .val (.long (f0_13 q0)), .second, .val (.ref b1), .val (.int ((f3_14 q0) &&& 1)), .val (.long (q0 + (-7046029254386353131 : Int64))), .second, .val (.int (f0_44 q0)), .val (.long (f0_13 q0)), .second] [(.int (f6_ret (q0 + (-7046029254386353131 : Int64)))), (.int ((f3_14 q0) &&& 1))])) _
    refine XS.icmpNo X19.here hx rfl (hb hby at_76) rfl (teq (show ((f3_14 q0) &&& 1) = (f6_ret (q0 + (-7046029254386353131 : Int64))) from own_top _)).2 ?_
    show Steps p.tables e below (T19.setTop (mkF m 79 #[.val (.long q0), .second, .val (.long (-7046029254386353131 : Int64)), .second, .val (.long (q0 + (-7046029254386353131 : Int64))), .second, .val (.long (f0_13 q0)), .second, .val (.ref b1), .val (.int ((f3_14 q0) &&& 1)), .val (.long (q0 + (-7046029254386353131 : Int64))), .second, .val (.int (f0_44 q0)), .val (.long (f0_13 q0)), .second] [])) _
    refine XS.iload X19.here hx rfl (hb hby at_79) rfl ?_
    show Steps p.tables e below (T19.setTop (mkF m 81 #[.val (.long q0), .second, .val (.long (-7046029254386353131 : Int64)), .second, .val (.long (q0 + (-7046029254386353131 : Int64))), .second, .val (.long (f0_13 q0)), .second, .val (.ref b1), .val (.int ((f3_14 q0) &&& 1)), .val (.long (q0 + (-7046029254386353131 : Int64))), .second, .val (.int (f0_44 q0)), .val (.long (f0_13 q0)), .second] [(.int (f0_44 q0))])) _
    refine XS.lload X19.here hx rfl (hb hby at_81) rfl ?_
    show Steps p.tables e below (T19.setTop (mkF m 83 #[.val (.long q0), .second, .val (.long (-7046029254386353131 : Int64)), .second, .val (.long (q0 + (-7046029254386353131 : Int64))), .second, .val (.long (f0_13 q0)), .second, .val (.ref b1), .val (.int ((f3_14 q0) &&& 1)), .val (.long (q0 + (-7046029254386353131 : Int64))), .second, .val (.int (f0_44 q0)), .val (.long (f0_13 q0)), .second] [(.long (f0_13 q0)), (.int (f0_44 q0))])) _
    refine st20 _ ?_
    show Steps p.tables e below (T20.setTop (mkF m 86 #[.val (.long q0), .second, .val (.long (-7046029254386353131 : Int64)), .second, .val (.long (q0 + (-7046029254386353131 : Int64))), .second, .val (.long (f0_13 q0)), .second, .val (.ref b1), .val (.int ((f3_14 q0) &&& 1)), .val (.long (q0 + (-7046029254386353131 : Int64))), .second, .val (.int (f0_44 q0)), .val (.long (f0_13 q0)), .second] [(.int (f6_ret (f0_13 q0))), (.int (f0_44 q0))])) _
    refine XS.icmpNo X20.here hx rfl (hb hby at_86) rfl (teq (show (f0_44 q0) = (f6_ret (f0_13 q0)) from own_top _)).2 ?_
    show Steps p.tables e below (T20.setTop (mkF m 89 #[.val (.long q0), .second, .val (.long (-7046029254386353131 : Int64)), .second, .val (.long (q0 + (-7046029254386353131 : Int64))), .second, .val (.long (f0_13 q0)), .second, .val (.ref b1), .val (.int ((f3_14 q0) &&& 1)), .val (.long (q0 + (-7046029254386353131 : Int64))), .second, .val (.int (f0_44 q0)), .val (.long (f0_13 q0)), .second] [])) _
    refine XS.iconst X20.here hx rfl (hb hby at_89) ?_
    show Steps p.tables e below (T20.setTop (mkF m 90 #[.val (.long q0), .second, .val (.long (-7046029254386353131 : Int64)), .second, .val (.long (q0 + (-7046029254386353131 : Int64))), .second, .val (.long (f0_13 q0)), .second, .val (.ref b1), .val (.int ((f3_14 q0) &&& 1)), .val (.long (q0 + (-7046029254386353131 : Int64))), .second, .val (.int (f0_44 q0)), .val (.long (f0_13 q0)), .second] [(.int (1 : Int32))])) _
    refine XS.goto X20.here hx rfl (pc0 := 90) (pc' := 94) rfl (hb hby at_90) (by decide) (by decide) ?_
    show Steps p.tables e below (T20.setTop (mkF m 94 #[.val (.long q0), .second, .val (.long (-7046029254386353131 : Int64)), .second, .val (.long (q0 + (-7046029254386353131 : Int64))), .second, .val (.long (f0_13 q0)), .second, .val (.ref b1), .val (.int ((f3_14 q0) &&& 1)), .val (.long (q0 + (-7046029254386353131 : Int64))), .second, .val (.int (f0_44 q0)), .val (.long (f0_13 q0)), .second] [(.int (1 : Int32))])) _
    exact k)
  obtain ⟨fs, hr, hrun, hended, hW, hsame⟩ := X20.leave (v := some (.int (1 : Int32))) (fun h => by rw [Bd.returns] at h; cases h)
  refine ⟨_, _, pre21 _ ?_, hrun, hended, _, _, rfl, ?_, ⟨_, rfl⟩, hW, hsame.mono (by decide) (by decide)⟩
  · exact retN X20 hx (t := .boolean) Bd.returns (by simp) (hb hby at_94) hr
  · show Q0 Z q0 h0 n0 _ T20.heap _
    rw [hh20]
    exact ⟨rfl, N20⟩
set_option maxRecDepth 65536 in
set_option maxHeartbeats 40000000 in
theorem comes_1 {Post : Tables → Env → Array Value → State → Outcome → State → Prop} (hpost : ∀ tb e args s v u, (limb_1_1.after args s (.returned v) u = true ∧ limb_1_2.after args s (.returned v) u = true ∧ True) → FrameEnd s (.returned v) u (Jvm.fieldLocs frame_1_writes args s ++ Jvm.arrayLocs frame_1_arrays args s ++ Jvm.staticLocs frame_1_statics s) 16 128 → Post tb e args s (.returned v) u) :
    ArmFor flags0 classFile x code maxLocals ret World_1 tables_1 room_1 Calls_1 rest_1 Pre_1 Post := by
  intro l hfl _ _ p e ha hc hk s m args below hf hA hF happ hP
  obtain ⟨hcalls, hrest, hpre⟩ := hP
  obtain ⟨-, -, -, hnamed, -, -, -, hat⟩ := (Spec.applies_iff hf).mp happ
  obtain ⟨hg, hn⟩ := and_e (Cond.before_iff.mp (show (Jvm.Cond.and given_1 narrow_1).before args s = true from hpre))
  obtain ⟨h1, g0⟩ := and_e hg
  obtain ⟨w0, rfl⟩ : ∃ w0 : Value, args = #[w0] := by
    have hs : args.size = 1 := by simpa [Cond.value, given_1] using h1
    obtain ⟨L⟩ := args
    match L, hs with
    | [w0], _ => exact ⟨w0, rfl⟩
  have hw := fun d (hd : d ∈ tables_1) => atoms_spec (ws := Jvm.Cond.code x code maxLocals ret :: tables_1) hat d (List.mem_cons_of_mem _ hd)
  have hfit : Fit s := fun {y c} hc i hi => by
    obtain ⟨ha, rfl⟩ := Array.getElem?_eq_some_iff.mp hc
    have q := List.all_eq_true.mp ((Array.all_eq_true_iff_forall_mem.mp hF) _ (Array.getElem_mem ha)) i (List.mem_range.mpr hi)
    simpa [Array.getElem?_eq_getElem hi] using q
  obtain ⟨i0, e0⟩ := isL_v g0
  obtain rfl : w0 = (.long i0) := Option.some.inj e0
  obtain ⟨n, o, h1, h2, h3, _, L, rfl, ⟨rfl, N⟩, hq⟩ := rm0 l s _ hw tables_1 i0  s.heap s.heap.size (Nat.le_refl _)  p e ha hc hk s m _ below hf ((Spec.applies_iff_loose hf).mp happ).1 ⟨rfl, State.Warmed39.refl s, rfl⟩ trivial
  refine ⟨n, _, h1, h2, h3, hpost _ _ _ _ _ _ ⟨Cond.after_iff.mpr rfl, Cond.after_iff.mpr (eq_i res_at (Term.int_eval (1)) rfl), trivial⟩ ⟨hq.1, hq.2.1, (hq.2.2.sift fun y hy => Or.inr (N y hy)).mono (by decide) (by decide)⟩⟩
theorem main_1_1 : Claimed_1_1 := comes_1 fun _ _ _ _ _ _ h hF => ⟨h.1, hF⟩
theorem main_1_2 : Claimed_1_2 := comes_1 fun _ _ _ _ _ _ h hF => ⟨h.2.1, hF⟩
end Jvm.Pilot.@@N@@
namespace Jvm.Pilot.@@N@@
open Jvm Jvm.ClassFile Sem Op Lib Jvm.Free Jvm.Stand Jvm.Pilot.@@N@@.Jvm.D
/-! MADE BY PROGRAM (witnessworld.py) out of the Statement's table words and the real class files: 9 classes; the members and pool entries that the words name. The judged class is class 1, her method 2. -/
namespace start1
open Jvm.ClassFile
def u (s : String) : CpInfo := .utf8 (stringToUtf16 s)
/-- a pool by its gaps: so many unusable entries, then the entry; so many at the end -/
def gap : Nat → List CpInfo → List CpInfo
  | 0, r => r
  | n + 1, r => .unusable :: gap n r
def poolList (es : List (Nat × CpInfo)) (last : Nat) : List CpInfo := es.foldr (fun e r => gap e.1 (e.2 :: r)) (gap last [])
def pool (es : List (Nat × CpInfo)) (last : Nat) : Array CpInfo := ⟨poolList es last⟩
def fileOf (pool : Array CpInfo) (this : Nat) (attrs : Array Attribute := #[]) (ms : Array MethodInfo := #[]) (fl : Nat := 33) (sup : Nat := 0) (ifs : Array Nat := #[]) (fds : Array FieldInfo := #[]) : ClassFile where
  minorVersion := 0
  majorVersion := 65
  constantPool := pool
  accessFlags := fl
  thisClass := this
  superClass := sup
  interfaces := ifs
  fields := fds
  methods := ms
  attributes := attrs
def plain (name : String) (sup : Option ClassId) : Class where
  name := name
  kind := .ordinary
  loader := none
  accessFlags := 33
  super := sup
  interfaces := #[]
  cf := none
  fields := #[]
  methods := #[]
  instanceTypes := #[]
  staticTypes := #[]
  resolved := #[]
  callSites := []
  init := .initialized
  statics := none
  mirror := none

def pool0 : Array CpInfo := pool [(5, u "<init>"), (0, u "()V"), (1, .class_ 10), (1, u "java/lang/Object")] 113

def k0c0 : Code := { maxStack := 0, maxLocals := 1, code := object_method_1_code, exceptionTable := #[], attributes := #[] }
def k0m0 : Method := { name := "<init>", desc := "()V", sig := { parameters := [], returnType := none }, accessFlags := 1, code := some k0c0 }
/-- java/lang/Object -/
def k0 : Class := { plain "java/lang/Object" none with
  accessFlags := 33
  interfaces := #[]
  cf := some (fileOf pool0 8 #[] #[{ accessFlags := 1, nameIndex := 5, descriptorIndex := 6, attributes := #[] }] 33 0 #[] #[])
  fields := #[]
  methods := #[k0m0]
  instanceTypes := #[]
  staticTypes := #[]
  resolved := Array.replicate 124 none
  statics := none }

def pool1 : Array CpInfo := pool [(2, .class_ 4), (1, u "java/lang/Object"), (0, u "<init>"), (0, u "()V"), (0, .long 13787848793156543929), (1, .long 10723151780598845931), (1, .long 11400714819323198485), (1, .class_ 14), (0, u "com/example/wakasato/wakasato/search/SeededRandom"), (0, .methodref 13 16), (0, .nameAndType 5 17), (0, u "(J)V"), (0, .methodref 13 19), (0, .nameAndType 20 21), (0, u "nextBoolean"), (0, u "()Z"), (0, .methodref 13 23), (0, .nameAndType 24 25), (0, u "state"), (0, u "()J"), (0, .methodref 27 28), (0, .class_ 29), (0, .nameAndType 30 31), (0, u "com/example/wakasato/wakasato/search/SeededRandomNextBooleanPinLaw"), (0, u "topBitOfMix"), (0, u "(J)Z"), (3, u "law")] 2

def k1m0 : Method := { name := "<init>", desc := "()V", sig := { parameters := [], returnType := none }, accessFlags := 1, code := none }
def k1c1 : Code := { maxStack := 5, maxLocals := 4, code := method_2_code, exceptionTable := #[], attributes := #[] }
def k1m1 : Method := { name := "topBitOfMix", desc := "(J)Z", sig := { parameters := [.long], returnType := some .boolean }, accessFlags := 10, code := some k1c1 }
def k1c2 : Code := { maxStack := 4, maxLocals := 15, code := code, exceptionTable := #[], attributes := #[] }
def k1m2 : Method := { name := "law", desc := "(J)Z", sig := { parameters := [.long], returnType := some .boolean }, accessFlags := 9, code := some k1c2 }
/-- com/example/wakasato/wakasato/search/SeededRandomNextBooleanPinLaw -/
def k1 : Class := { plain "com/example/wakasato/wakasato/search/SeededRandomNextBooleanPinLaw" (some 0) with
  accessFlags := 49
  interfaces := #[]
  cf := some (fileOf pool1 27 #[] #[{ accessFlags := 1, nameIndex := 5, descriptorIndex := 6, attributes := #[] }, { accessFlags := 10, nameIndex := 30, descriptorIndex := 31, attributes := #[] }, { accessFlags := 9, nameIndex := 35, descriptorIndex := 31, attributes := #[] }] 49 2 #[] #[])
  fields := #[]
  methods := #[k1m0, k1m1, k1m2]
  instanceTypes := #[]
  staticTypes := #[]
  resolved := Array.replicate 38 none
  statics := none }

def pool2 : Array CpInfo := pool [(1, .methodref 2 3), (0, .class_ 4), (0, .nameAndType 5 6), (0, u "java/lang/Object"), (0, u "<init>"), (0, u "()V"), (0, .fieldref 8 9), (0, .class_ 10), (0, .nameAndType 11 12), (0, u "com/example/wakasato/wakasato/search/SeededRandom"), (0, u "state"), (0, u "J"), (0, .long 11400714819323198485), (1, .long 13787848793156543929), (1, .long 10723151780598845931), (10, .methodref 8 29), (0, .nameAndType 30 31), (0, u "nextLong"), (0, u "()J"), (2, u "GAMMA"), (1, u "UNIT"), (0, u "D"), (0, u "(J)V"), (7, u "nextBoolean"), (0, u "()Z")] 17

def k2c0 : Code := { maxStack := 3, maxLocals := 3, code := prog_8_method_1_code, exceptionTable := #[], attributes := #[] }
def k2m0 : Method := { name := "<init>", desc := "(J)V", sig := { parameters := [.long], returnType := none }, accessFlags := 0, code := some k2c0 }
def k2c1 : Code := { maxStack := 2, maxLocals := 1, code := prog_8_method_2_code, exceptionTable := #[], attributes := #[] }
def k2m1 : Method := { name := "state", desc := "()J", sig := { parameters := [], returnType := some .long }, accessFlags := 0, code := some k2c1 }
def k2c2 : Code := { maxStack := 5, maxLocals := 3, code := prog_8_method_3_code, exceptionTable := #[], attributes := #[] }
def k2m2 : Method := { name := "nextLong", desc := "()J", sig := { parameters := [], returnType := some .long }, accessFlags := 0, code := some k2c2 }
def k2c3 : Code := { maxStack := 4, maxLocals := 1, code := prog_8_method_6_code, exceptionTable := #[], attributes := #[] }
def k2m3 : Method := { name := "nextBoolean", desc := "()Z", sig := { parameters := [], returnType := some .boolean }, accessFlags := 0, code := some k2c3 }
/-- com/example/wakasato/wakasato/search/SeededRandom -/
def k2 : Class := { plain "com/example/wakasato/wakasato/search/SeededRandom" (some 0) with
  accessFlags := 48
  interfaces := #[]
  cf := some (fileOf pool2 8 #[] #[{ accessFlags := 0, nameIndex := 5, descriptorIndex := 38, attributes := #[] }, { accessFlags := 0, nameIndex := 11, descriptorIndex := 31, attributes := #[] }, { accessFlags := 0, nameIndex := 30, descriptorIndex := 31, attributes := #[] }, { accessFlags := 0, nameIndex := 46, descriptorIndex := 47, attributes := #[] }] 48 2 #[] #[{ accessFlags := 26, nameIndex := 34, descriptorIndex := 12, attributes := #[] }, { accessFlags := 26, nameIndex := 36, descriptorIndex := 37, attributes := #[] }, { accessFlags := 2, nameIndex := 11, descriptorIndex := 12, attributes := #[] }])
  fields := #[{ name := "GAMMA", type := .long, accessFlags := 26, slot := 0, constantValue := 0 }, { name := "UNIT", type := .double, accessFlags := 26, slot := 1, constantValue := 0 }, { name := "state", type := .long, accessFlags := 2, slot := 0, constantValue := 0 }]
  methods := #[k2m0, k2m1, k2m2, k2m3]
  instanceTypes := #[.long]
  staticTypes := #[.long, .double]
  resolved := Array.replicate 65 none
  statics := none }

def pool3 : Array CpInfo := pool [(1, u "java/lang/Cloneable"), (0, .class_ 1), (0, u "java/lang/Object"), (0, .class_ 3)] 3

/-- java/lang/Cloneable -/
def k3 : Class := { plain "java/lang/Cloneable" (some 0) with
  accessFlags := 1537
  interfaces := #[]
  cf := some (fileOf pool3 2 #[] #[] 1537 4 #[] #[])
  fields := #[]
  methods := #[]
  instanceTypes := #[]
  staticTypes := #[]
  resolved := Array.replicate 8 none
  statics := none }

def pool4 : Array CpInfo := pool [(1, u "java/io/Serializable"), (0, .class_ 1), (0, u "java/lang/Object"), (0, .class_ 3)] 3

/-- java/io/Serializable -/
def k4 : Class := { plain "java/io/Serializable" (some 0) with
  accessFlags := 1537
  interfaces := #[]
  cf := some (fileOf pool4 2 #[] #[] 1537 4 #[] #[])
  fields := #[]
  methods := #[]
  instanceTypes := #[]
  staticTypes := #[]
  resolved := Array.replicate 8 none
  statics := none }

/-- the primitive byte -/
def k5 : Class := { plain "byte" none with kind := .primitive 'B', accessFlags := 0x411 }
/-- [B -/
def k6 : Class := { plain "[B" (some 0) with kind := .array 5 .byte, interfaces := #[3, 4], accessFlags := 1041 }

/-- the primitive int -/
def k7 : Class := { plain "int" none with kind := .primitive 'I', accessFlags := 0x411 }
/-- [I -/
def k8 : Class := { plain "[I" (some 0) with kind := .array 7 .int, interfaces := #[3, 4], accessFlags := 1041 }

def heap : Heap := #[]
def classes : Array Class := #[k0, k1, k2, k3, k4, k5, k6, k7, k8]
def interned : List (Array UInt16 × Addr) := []
def slotsUsed : Nat := 0
def theMethod : MethodId := ⟨1, 2⟩
def args0 : Array Value := #[.long 5]
def aboutOver (below : List Frame) : State where
  vm := { classes := classes, interned := interned.toArray }
  heap := heap
  slotsUsed := slotsUsed
  threads := #[{ frames := .invoking theMethod args0 :: below }]
def below0 : List Frame := [.native { method := ⟨0, 0⟩, args := #[] }]
def about1 : State := aboutOver below0
def p0 : Program := .bare "" "" ""
def e0 : Env := launch0.env 0 0 0
theorem w_frames : about1.frames = Frame.invoking theMethod args0 :: below0 := rfl
set_option maxRecDepth 65536 in
theorem w_args : argsFit about1.vm theMethod args0 = true := by decide +kernel
set_option maxRecDepth 65536 in
theorem w_heap : heapFits about1 = true := by decide +kernel
set_option maxRecDepth 65536 in
theorem w_runnable : about1.curStatus? = some .runnable := by decide +kernel
set_option maxRecDepth 65536 in
theorem w_alone : about1.alone = true := by decide +kernel
set_option maxRecDepth 65536 in
theorem w_named : about1.methodNamed? x = some theMethod := by decide +kernel
set_option maxRecDepth 65536 in
theorem w_hears : about1.hears theMethod below0 = true := by decide +kernel
set_option maxRecDepth 65536 in
theorem w_ripe : about1.ripe theMethod args0 below0 = true := by decide +kernel
theorem w_running : about1.status = .running := rfl
set_option maxRecDepth 65536 in
theorem w_room : about1.hasRoom e0.platform room_1 = true :=
  launch0.hasRoom_least _ room_1 (by decide +kernel) (by decide +kernel) (by decide +kernel) (by decide +kernel) (by decide +kernel) (by decide +kernel)
theorem allAtoms_all (ts : List Jvm.Cond) (a : Array Jvm.Value) (st : Jvm.State) : (allAtoms ts).before a st = ts.all (fun c => c.before a st) := by
  induction ts with
  | nil => rfl
  | cons c t ih =>
    show (Jvm.Cond.and c (allAtoms t)).before a st = _
    rw [Jvm.Cond.before_and, ih, List.all_cons]
def words1 : List Jvm.Cond := Jvm.Cond.code x code maxLocals ret :: tables_1
/-- a 'code' word, met by the world's own term for the bytes: nothing is compared byte by byte -/
theorem code_word {y : MethodName} {bytes : ByteArray} {mx : Nat} {rt : Option FieldType} {a : Array Value} {s : State} {m : MethodId} {meth : Method} {c : Code} (h1 : s.methodNamed? y = some m) (h2 : s.vm.method? m = some meth) (h3 : meth.code = some c) (h4 : c.code = bytes)
    (h5 : (c.maxLocals == mx && c.exceptionTable.isEmpty && decide (c.maxStack ≤ mostOperands) && decide (meth.sig.returnType = rt) && !meth.locks && decide (parseMethodDescriptor y.desc = some meth.sig)) = true) : (Jvm.Cond.code y bytes mx rt).before a s = true := by
  simp only [Bool.and_eq_true, beq_iff_eq, Bool.not_eq_true', decide_eq_true_eq] at h5
  obtain ⟨⟨⟨⟨⟨g1, g2⟩, g3⟩, g4⟩, g5⟩, g6⟩ := h5
  simp [Cond.before, Cond.holds, Cond.value, h1, h2, h3, h4, g1, g2, g3, g4, g5, g6]
def isCode : Jvm.Cond → Bool
  | .code _ _ _ _ => true
  | _ => false
theorem all_split {L : List Jvm.Cond} {P : Jvm.Cond → Bool} (h1 : L.all (fun c => isCode c || P c) = true) (h2 : ∀ c ∈ L.filter isCode, P c = true) : L.all P = true := by
  refine List.all_eq_true.mpr fun c hc => ?_
  have h := List.all_eq_true.mp h1 c hc
  rcases Bool.eq_false_or_eq_true (isCode c) with hi | hi
  · exact h2 c (List.mem_filter.mpr ⟨hc, hi⟩)
  · simpa [hi] using h
set_option maxRecDepth 65536 in
theorem w_c0 : (Jvm.Cond.code x code maxLocals ret).before args0 about1 = true := code_word (m := ⟨1, 2⟩) (meth := k1m2) (c := k1c2) (by decide +kernel) rfl rfl rfl (by decide +kernel)
set_option maxRecDepth 65536 in
theorem w_c1 : (Jvm.Cond.code ({ cls := "com/example/wakasato/wakasato/search/SeededRandom", name := "<init>", desc := "(J)V" } : Jvm.MethodName) prog_8_method_1_code (3 : Nat) (Option.none : Option Jvm.ClassFile.FieldType)).before args0 about1 = true := code_word (m := ⟨2, 0⟩) (meth := k2m0) (c := k2c0) (by decide +kernel) rfl rfl rfl (by decide +kernel)
set_option maxRecDepth 65536 in
theorem w_c2 : (Jvm.Cond.code ({ cls := "java/lang/Object", name := "<init>", desc := "()V" } : Jvm.MethodName) object_method_1_code (1 : Nat) (Option.none : Option Jvm.ClassFile.FieldType)).before args0 about1 = true := code_word (m := ⟨0, 0⟩) (meth := k0m0) (c := k0c0) (by decide +kernel) rfl rfl rfl (by decide +kernel)
set_option maxRecDepth 65536 in
theorem w_c3 : (Jvm.Cond.code ({ cls := "com/example/wakasato/wakasato/search/SeededRandom", name := "nextBoolean", desc := "()Z" } : Jvm.MethodName) prog_8_method_6_code (1 : Nat) (Option.some Jvm.ClassFile.FieldType.boolean)).before args0 about1 = true := code_word (m := ⟨2, 3⟩) (meth := k2m3) (c := k2c3) (by decide +kernel) rfl rfl rfl (by decide +kernel)
set_option maxRecDepth 65536 in
theorem w_c4 : (Jvm.Cond.code ({ cls := "com/example/wakasato/wakasato/search/SeededRandom", name := "nextLong", desc := "()J" } : Jvm.MethodName) prog_8_method_3_code (3 : Nat) (Option.some Jvm.ClassFile.FieldType.long)).before args0 about1 = true := code_word (m := ⟨2, 2⟩) (meth := k2m2) (c := k2c2) (by decide +kernel) rfl rfl rfl (by decide +kernel)
set_option maxRecDepth 65536 in
theorem w_c5 : (Jvm.Cond.code ({ cls := "com/example/wakasato/wakasato/search/SeededRandom", name := "state", desc := "()J" } : Jvm.MethodName) prog_8_method_2_code (1 : Nat) (Option.some Jvm.ClassFile.FieldType.long)).before args0 about1 = true := code_word (m := ⟨2, 1⟩) (meth := k2m1) (c := k2c1) (by decide +kernel) rfl rfl rfl (by decide +kernel)
set_option maxRecDepth 65536 in
theorem w_c6 : (Jvm.Cond.code ({ cls := "com/example/wakasato/wakasato/search/SeededRandomNextBooleanPinLaw", name := "topBitOfMix", desc := "(J)Z" } : Jvm.MethodName) method_2_code (4 : Nat) (Option.some Jvm.ClassFile.FieldType.boolean)).before args0 about1 = true := code_word (m := ⟨1, 1⟩) (meth := k1m1) (c := k1c1) (by decide +kernel) rfl rfl rfl (by decide +kernel)
def codes1 : List Jvm.Cond := [Jvm.Cond.code x code maxLocals ret, Jvm.Cond.code ({ cls := "com/example/wakasato/wakasato/search/SeededRandom", name := "<init>", desc := "(J)V" } : Jvm.MethodName) prog_8_method_1_code (3 : Nat) (Option.none : Option Jvm.ClassFile.FieldType), Jvm.Cond.code ({ cls := "java/lang/Object", name := "<init>", desc := "()V" } : Jvm.MethodName) object_method_1_code (1 : Nat) (Option.none : Option Jvm.ClassFile.FieldType), Jvm.Cond.code ({ cls := "com/example/wakasato/wakasato/search/SeededRandom", name := "nextBoolean", desc := "()Z" } : Jvm.MethodName) prog_8_method_6_code (1 : Nat) (Option.some Jvm.ClassFile.FieldType.boolean), Jvm.Cond.code ({ cls := "com/example/wakasato/wakasato/search/SeededRandom", name := "nextLong", desc := "()J" } : Jvm.MethodName) prog_8_method_3_code (3 : Nat) (Option.some Jvm.ClassFile.FieldType.long), Jvm.Cond.code ({ cls := "com/example/wakasato/wakasato/search/SeededRandom", name := "state", desc := "()J" } : Jvm.MethodName) prog_8_method_2_code (1 : Nat) (Option.some Jvm.ClassFile.FieldType.long), Jvm.Cond.code ({ cls := "com/example/wakasato/wakasato/search/SeededRandomNextBooleanPinLaw", name := "topBitOfMix", desc := "(J)Z" } : Jvm.MethodName) method_2_code (4 : Nat) (Option.some Jvm.ClassFile.FieldType.boolean)]
set_option maxRecDepth 65536 in
theorem codes_eq : words1.filter isCode = codes1 := rfl
theorem w_codes : ∀ c ∈ words1.filter isCode, c.before args0 about1 = true := by
  rw [codes_eq]
  intro c hc
  simp only [codes1, List.mem_cons, List.not_mem_nil, or_false] at hc
  rcases hc with rfl | rfl | rfl | rfl | rfl | rfl | rfl
  · exact w_c0
  · exact w_c1
  · exact w_c2
  · exact w_c3
  · exact w_c4
  · exact w_c5
  · exact w_c6
set_option maxRecDepth 65536 in
theorem w_t1 : (words1.take 24).all (fun c => isCode c || c.before args0 about1) = true := by decide +kernel
set_option maxRecDepth 65536 in
theorem w_t2 : (words1.drop 24).all (fun c => isCode c || c.before args0 about1) = true := by decide +kernel
theorem w_tables : (allAtoms (Jvm.Cond.code x code maxLocals ret :: tables_1)).before args0 about1 = true := by
  rw [allAtoms_all]
  show words1.all (fun c => c.before args0 about1) = true
  refine all_split ?_ w_codes
  rw [← List.take_append_drop 24 words1, List.all_append, w_t1, w_t2]
  rfl
set_option maxRecDepth 65536 in
theorem w_case : (Jvm.Cond.and given_1 narrow_1).before args0 about1 = true := by decide +kernel
theorem w_applies : (headSpec (Jvm.Cond.code x code maxLocals ret :: tables_1) room_1).applies x e0.platform about1 = true :=
  (Spec.applies_iff w_frames).mpr ⟨w_running, w_runnable, w_alone, w_named, w_hears, w_ripe, w_room, w_tables⟩
theorem atStart : AtStart classFile x code maxLocals ret World_1 tables_1 room_1 Calls_1 rest_1 Pre_1 launch0 p0 e0 about1 theMethod args0 below0 :=
  ⟨lists_1, trivial, launch0.admits_env _ _ _, launch0.least_env, fairChoices_fair.cas, fairChoices_fair.clock, w_frames, w_args, w_heap, w_applies, trivial, trivial, w_case⟩
end start1
theorem witness_1 : WitnessClaimed_1 := ⟨start1.p0, start1.e0, start1.about1, start1.theMethod, start1.args0, start1.below0, start1.atStart⟩
end Jvm.Pilot.@@N@@
