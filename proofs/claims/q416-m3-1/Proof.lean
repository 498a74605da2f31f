import JvmDerived
import JvmDerived.Pilot.@@N@@Statement
import JvmDerived.Pilot.@@N@@Code
set_option linter.unusedVariables false
set_option linter.unusedSimpArgs false
namespace Jvm.RoadKit
open Sem ClassFile Op Lib Jvm.Stand Jvm.Free Jvm.LawKit
section New
variable {p : Program} {l : Launch} {e : Env} {R : Room} {s : State} {m : MethodId} {args : Array Value} {below : List Frame} {meth : Method} {c : Code} {T : State} {locs : List Loc} {cells slots : Nat}
theorem retI (X : Stand p l e R s m args below meth c T locs cells slots) (hx : p.tables.exec = Jvm.exec) {pc : Nat} {Ls : Array Slot} {z : Int32} {rest : List Value} (hret : meth.sig.returnType = some .int) (hd : decode c.code pc = .ok (.ireturn, 1)) {fs : List Frame}
    (hl : ∀ (f : JFrame) (acts : List Action), f.method = m → f.locked = none → f.entered = [] → (doReturn e (T.setTop f) acts (some (.int z))).1 = T.setFrames fs) : Steps p.tables e below (T.setTop (mkF m pc Ls (.int z :: rest))) (T.setFrames fs) := by
  have hm' : T.vm.method? m = some meth := X.method'
  have hn : narrow .int (.int z) = .int z := rfl
  show Steps p.tables e below (T.setTop { method := m, pc := pc, locals := Ls, stack := _ :: rest, locked := none }) _
  jvm_step X.here [X.here.top, hx, hd, hm', hret, hn]
  first | (intro acts; rw [hl _ acts rfl rfl rfl]) | rw [hl _ _ rfl rfl rfl]
  exact Steps.refl _
end New
end Jvm.RoadKit
namespace Jvm.Pilot.@@N@@
open Jvm Jvm.ClassFile Sem Op Lib Jvm.Free Jvm.Stand Jvm.LawKit Jvm.RoadKit Bundle Jvm.Pilot.@@N@@.Jvm.D
theorem own_ltL {x y : Int64} (h : x < y) : ifCond.holds .lt (lcmpW x y) = true ∧ ifCond.holds .ge (lcmpW x y) = false ∧ ifCond.holds .gt (lcmpW y x) = true ∧ ifCond.holds .le (lcmpW y x) = false :=
  ⟨(if0 _ _).trans (tlt ((lw_lt x y).mpr h)).1, (if0 _ _).trans (tlt ((lw_lt x y).mpr h)).2.1, (if0 _ _).trans (tlt ((lw_gt y x).mpr h)).2.2.1, (if0 _ _).trans (tlt ((lw_gt y x).mpr h)).2.2.2⟩
theorem own_fltL {x y : Int64} (h : ¬ x < y) : ifCond.holds .lt (lcmpW x y) = false ∧ ifCond.holds .ge (lcmpW x y) = true ∧ ifCond.holds .gt (lcmpW y x) = false ∧ ifCond.holds .le (lcmpW y x) = true :=
  ⟨(if0 _ _).trans (flt (fun q => h ((lw_lt x y).mp q))).1, (if0 _ _).trans (flt (fun q => h ((lw_lt x y).mp q))).2.1, (if0 _ _).trans (flt (fun q => h ((lw_gt y x).mp q))).2.2.1, (if0 _ _).trans (flt (fun q => h ((lw_gt y x).mp q))).2.2.2⟩
theorem own_eqL {x y : Int64} (h : x = y) : ifCond.holds .eq (lcmpW x y) = true ∧ ifCond.holds .ne (lcmpW x y) = false :=
  ⟨(if0 _ _).trans (teq ((lw_eq x y).mpr h)).1, (if0 _ _).trans (teq ((lw_eq x y).mpr h)).2⟩
theorem own_neL {x y : Int64} (h : ¬ x = y) : ifCond.holds .eq (lcmpW x y) = false ∧ ifCond.holds .ne (lcmpW x y) = true :=
  ⟨(if0 _ _).trans (feq (fun q => h ((lw_eq x y).mp q))).1, (if0 _ _).trans (feq (fun q => h ((lw_eq x y).mp q))).2⟩

theorem own_fin {c : Int32} {N : Nat} (h0 : 0 ≤ c.toInt) (h1 : c.toInt < N) (hN : N ≤ 2147483648) : ∃ n : Fin N, c = n.1.toInt32 := by
  refine ⟨⟨c.toInt.toNat, by omega⟩, ?_⟩
  apply Int32.toInt_inj.mp
  rw [len_toInt (by show c.toInt.toNat < 2 ^ 31; omega)]
  show c.toInt = ((c.toInt.toNat : Nat) : Int)
  omega
theorem own_lt {x y : Int32} (h : x < y) : x.toInt < y.toInt := Int32.lt_iff_toInt_lt.mp h
theorem own_nlt' {x y : Int32} (h : ¬ x < y) : y.toInt ≤ x.toInt := by rw [Int32.lt_iff_toInt_lt] at h; omega
theorem own_nlt {x y : Int32} {k : Int} (h : k ≤ x.toInt) (hk : y.toInt ≤ k) : ¬ x < y := by rw [Int32.lt_iff_toInt_lt]; omega
theorem own_gt {x y : Int32} {k : Int} (h : k ≤ x.toInt) (hk : y.toInt < k) : y < x := by rw [Int32.lt_iff_toInt_lt]; omega
theorem own_ne {x y : Int32} {k : Int} (h : k ≤ x.toInt) (hk : y.toInt < k) : ¬ x = y := by rintro rfl; omega
theorem own_gtn {x y : Int32} {k : Int} (h : x.toInt < k) (hk : k ≤ y.toInt) : x < y := by rw [Int32.lt_iff_toInt_lt]; omega
theorem own_nel {x y : Int32} {k : Int} (h : x.toInt < k) (hk : k ≤ y.toInt) : ¬ x = y := by rintro rfl; omega
theorem own_lt' {x y : Int32} (h : x < y) : x.toInt + 1 ≤ y.toInt := by have := own_lt h; omega
theorem own_le' {x y : Int32} (h : ¬ y < x) : x.toInt < y.toInt + 1 := by have := own_nlt' h; omega

theorem d1_0 : decode prog_44_method_1_code 0 = .ok (.aload_n 0, 1) := by decide +kernel
theorem d1_1 : decode prog_44_method_1_code 1 = .ok (.invokespecial 1, 3) := by decide +kernel
theorem d1_4 : decode prog_44_method_1_code 4 = .ok (.return_, 1) := by decide +kernel
theorem pn_0 : plainName "com/example/tenet/tenet/model/Typing$NewRecord" = true := by first | (simp [plainName, overriddenIn]; done) | decide +kernel
theorem ef_1 (m : MethodId) (o0 : Addr) : entryFrame m #[(.ref o0)] 1 = mkF m 0 #[.val (.ref o0)] [] := by first | (simp [entryFrame, mkF, argsToLocals, Value.category]; done) | rfl

def Q1 (Z : State) (o0 : Addr) (h0 : Heap) (n0 : Nat) (v : Option Value) (h : Heap) (L : List Loc) : Prop := v = none ∧ Fr n0 L ∧ h = h0
set_option maxRecDepth 65536 in
set_option maxHeartbeats 40000000 in
theorem rm1 (l : Launch) (Z : State) (a0 : Array Value) (hw : ∀ d ∈ tables_1, d.before a0 Z = true) (ws : List Jvm.Cond) (o0 : Addr) (h0 : Heap) (n0 : Nat) (Z0 : n0 ≤ h0.size)  :
    MetFree l (⟨"com/example/tenet/tenet/model/Typing$NewRecord", "<init>", "()V"⟩ : MethodName) (head1 (Jvm.Cond.code (⟨"com/example/tenet/tenet/model/Typing$NewRecord", "<init>", "()V"⟩ : MethodName) prog_44_method_1_code 1 none :: ws) ({ frames := 1, cells := 0, slots := 0, locals := 12 } : Room)) (fun a U => a = #[(.ref o0)] ∧ Z.Warmed39 U.vm ∧ U.heap = h0) (fun _ _ _ _ _ => True) (fun _ U o U' => ∃ v L, o = .returned v ∧ Q1 Z o0 h0 n0 v U'.heap L ∧ FrameEnd U o U' L ({ frames := 1, cells := 0, slots := 0, locals := 12 } : Room).cells ({ frames := 1, cells := 0, slots := 0, locals := 12 } : Room).slots) := by
  refine MetFree.of_bodySF (plainFor_of_name pn_0) hisR ?_
  intro p e s m args below meth c s₁ Bd hml0 hP hK
  obtain ⟨rfl, hZ, hh⟩ := hP
  have hx := Bd.exec
  have hby := Bd.bytes
  have hml : c.maxLocals = 1 := hml0
  have hown : s.vm.findClass "com/example/tenet/tenet/model/Typing$NewRecord" = some m.cls := findClass_of_methodNamed Bd.named
  have hnm := (name_of_methodNamed Bd.named Bd.method).1
  have X0 : Stand p l e ({ frames := 1, cells := 0, slots := 0, locals := 12 } : Room) s m #[(.ref o0)] below meth c s₁ [] 0 0 := Stand.of_body Bd
  have e0 : s₁.heap = h0 := by rw [← hh, Bd.state]; rfl
  have N0 := Fr.nil n0
  have pre0 : ∀ t, Steps p.tables e below (s₁.setTop (mkF m 0 #[.val (.ref o0)] [])) t → Steps p.tables e below (s₁.setTop (entryFrame m #[(.ref o0)] 1)) t := fun t k => castTop (ef_1 m o0) k
  obtain ⟨T1, X1, e1, st1⟩ := initO X0 hx hZ hown (hw _ (List.mem_of_getElem? (i := 6) rfl)) (hw _ (List.mem_of_getElem? (i := 7) rfl)) (hw _ (List.mem_of_getElem? (i := 8) rfl)) e0 (g := (mkF m 1 #[.val (.ref o0)] [(.ref o0)])) rfl (by rw [hml]; rfl) rfl (hb hby d1_1) (by decide) (W := 0) (by show 2 * 0 + _ ≤ _; exact Nat.le_of_eq rfl) (by decide)
  have pre2 : ∀ t, Steps p.tables e below (T1.setTop (mkF m 4 #[.val (.ref o0)] [])) t → Steps p.tables e below (s₁.setTop (entryFrame m #[(.ref o0)] 1)) t := fun t k => pre0 t (by
    show Steps p.tables e below (s₁.setTop (mkF m 0 #[.val (.ref o0)] [])) _
    refine XS.aloadN X0.here hx rfl (hb hby d1_0) rfl rfl ?_
    show Steps p.tables e below (s₁.setTop (mkF m 1 #[.val (.ref o0)] [(.ref o0)])) _
    refine st1 _ ?_
    show Steps p.tables e below (T1.setTop (mkF m 4 #[.val (.ref o0)] [])) _
    exact k)
  obtain ⟨fs, hr, hrun, hended, hW, hsame⟩ := X1.leave (v := none) (fun _ => rfl)
  refine ⟨_, _, pre2 _ ?_, hrun, hended, _, _, rfl, ?_, ⟨_, rfl⟩, hW, hsame.mono (by decide) (by decide)⟩
  · exact X1.returnOut hx Bd.returns (hb hby d1_4) hr
  · show Q1 Z o0 h0 n0 _ T1.heap _
    rw [e1]
    exact ⟨rfl, N0, rfl⟩
theorem d3_0 : decode prog_44_method_3_code 0 = .ok (.aload_n 0, 1) := by decide +kernel
theorem d3_1 : decode prog_44_method_3_code 1 = .ok (.getfield 7, 3) := by decide +kernel
theorem d3_4 : decode prog_44_method_3_code 4 = .ok (.ifCond .ne 7, 3) := by decide +kernel
theorem d3_7 : decode prog_44_method_3_code 7 = .ok (.iconst 1, 1) := by decide +kernel
theorem d3_8 : decode prog_44_method_3_code 8 = .ok (.goto 4, 3) := by decide +kernel
theorem d3_11 : decode prog_44_method_3_code 11 = .ok (.iconst 0, 1) := by decide +kernel
theorem d3_12 : decode prog_44_method_3_code 12 = .ok (.ireturn, 1) := by decide +kernel
theorem ef_3 (m : MethodId) (o0 : Addr) : entryFrame m #[(.ref o0)] 1 = mkF m 0 #[.val (.ref o0)] [] := by first | (simp [entryFrame, mkF, argsToLocals, Value.category]; done) | rfl
def f3_12 (w : Int32) : Int32 := (if w = (0 : Int32) then (1 : Int32) else (0 : Int32))

def Q3 (Z : State) (o0 : Addr) (w : Int32) (h0 : Heap) (n0 : Nat) (v : Option Value) (h : Heap) (L : List Loc) : Prop := v = some (.int ((f3_12 w) &&& 1)) ∧ Fr n0 L ∧ h = h0
set_option maxRecDepth 65536 in
set_option maxHeartbeats 40000000 in
theorem rm3 (l : Launch) (Z : State) (a0 : Array Value) (hw : ∀ d ∈ tables_1, d.before a0 Z = true) (ws : List Jvm.Cond) (o0 : Addr) (w : Int32) (h0 : Heap) (n0 : Nat) (Z0 : n0 ≤ h0.size) (F_keyed_o0 : Fld Z h0 o0 "com/example/tenet/tenet/model/Typing$NewRecord" "keyed" "Z" (.int w)) :
    MetFree l (⟨"com/example/tenet/tenet/model/Typing$NewRecord", "awaitsKey", "()Z"⟩ : MethodName) (head1 (Jvm.Cond.code (⟨"com/example/tenet/tenet/model/Typing$NewRecord", "awaitsKey", "()Z"⟩ : MethodName) prog_44_method_3_code 1 (some .boolean) :: ws) ({ frames := 0, cells := 0, slots := 0, locals := 0 } : Room)) (fun a U => a = #[(.ref o0)] ∧ Z.Warmed39 U.vm ∧ U.heap = h0) (fun _ _ _ _ _ => True) (fun _ U o U' => ∃ v L, o = .returned v ∧ Q3 Z o0 w h0 n0 v U'.heap L ∧ FrameEnd U o U' L ({ frames := 0, cells := 0, slots := 0, locals := 0 } : Room).cells ({ frames := 0, cells := 0, slots := 0, locals := 0 } : Room).slots) := by
  refine MetFree.of_bodySF (plainFor_of_name pn_0) hisR ?_
  intro p e s m args below meth c s₁ Bd hml0 hP hK
  obtain ⟨rfl, hZ, hh⟩ := hP
  have hx := Bd.exec
  have hby := Bd.bytes
  have hml : c.maxLocals = 1 := hml0
  have hown : s.vm.findClass "com/example/tenet/tenet/model/Typing$NewRecord" = some m.cls := findClass_of_methodNamed Bd.named
  have hnm := (name_of_methodNamed Bd.named Bd.method).1
  have X0 : Stand p l e ({ frames := 0, cells := 0, slots := 0, locals := 0 } : Room) s m #[(.ref o0)] below meth c s₁ [] 0 0 := Stand.of_body Bd
  have e0 : s₁.heap = h0 := by rw [← hh, Bd.state]; rfl
  have N0 := Fr.nil n0
  have pre0 : ∀ t, Steps p.tables e below (s₁.setTop (mkF m 0 #[.val (.ref o0)] [])) t → Steps p.tables e below (s₁.setTop (entryFrame m #[(.ref o0)] 1)) t := fun t k => castTop (ef_3 m o0) k
  obtain ⟨T1, X1, e1, st1⟩ := getF X0 hx hZ hown (host := "") (Or.inl (hw _ (List.mem_of_getElem? (i := 14) rfl))) Via.refl e0 F_keyed_o0 (g := (mkF m 1 #[.val (.ref o0)] [(.ref o0)])) rfl rfl (hb hby d3_1)
  have pre2 : ∀ t, Steps p.tables e below (T1.setTop (mkF m 4 #[.val (.ref o0)] [(.int w)])) t → Steps p.tables e below (s₁.setTop (entryFrame m #[(.ref o0)] 1)) t := fun t k => pre0 t (by
    show Steps p.tables e below (s₁.setTop (mkF m 0 #[.val (.ref o0)] [])) _
    refine XS.aloadN X0.here hx rfl (hb hby d3_0) rfl rfl ?_
    show Steps p.tables e below (s₁.setTop (mkF m 1 #[.val (.ref o0)] [(.ref o0)])) _
    refine st1 _ ?_
    show Steps p.tables e below (T1.setTop (mkF m 4 #[.val (.ref o0)] [(.int w)])) _
    exact k)
  have pre4 : ∀ t, Steps p.tables e below (T1.setTop (mkF m 12 #[.val (.ref o0)] [(.int (f3_12 w))])) t → Steps p.tables e below (s₁.setTop (entryFrame m #[(.ref o0)] 1)) t := fun t k => pre2 t (by
    by_cases hf3 : w = (0 : Int32)
    · refine XS.ifNo X1.here hx rfl (hb hby d3_4) rfl ((if0 _ _).trans (teq hf3).2) ?_
      show Steps p.tables e below (T1.setTop (mkF m 7 #[.val (.ref o0)] [])) _
      refine XS.iconst X1.here hx rfl (hb hby d3_7) ?_
      show Steps p.tables e below (T1.setTop (mkF m 8 #[.val (.ref o0)] [(.int (1 : Int32))])) _
      refine XS.goto X1.here hx rfl (pc0 := 8) (pc' := 12) rfl (hb hby d3_8) (by decide) (by decide) ?_
      show Steps p.tables e below (T1.setTop (mkF m 12 #[.val (.ref o0)] [(.int (1 : Int32))])) _
      rw [show (f3_12 w) = ((1 : Int32) : Int32) from by simp only [f3_12, if_pos hf3]] at k
      exact k
    · refine XS.ifYes X1.here hx rfl (pc0 := 4) (pc' := 11) rfl (hb hby d3_4) rfl ((if0 _ _).trans (feq hf3).2) (by decide) (by decide) ?_
      show Steps p.tables e below (T1.setTop (mkF m 11 #[.val (.ref o0)] [])) _
      refine XS.iconst X1.here hx rfl (hb hby d3_11) ?_
      show Steps p.tables e below (T1.setTop (mkF m 12 #[.val (.ref o0)] [(.int (0 : Int32))])) _
      rw [show (f3_12 w) = ((0 : Int32) : Int32) from by simp only [f3_12, if_neg hf3]] at k
      exact k)
  obtain ⟨fs, hr, hrun, hended, hW, hsame⟩ := X1.leave (v := some (.int ((f3_12 w) &&& 1))) (fun h => by rw [Bd.returns] at h; cases h)
  refine ⟨_, _, pre4 _ ?_, hrun, hended, _, _, rfl, ?_, ⟨_, rfl⟩, hW, hsame.mono (by decide) (by decide)⟩
  · exact retN X1 hx (t := .boolean) Bd.returns (by simp) (hb hby d3_12) hr
  · show Q3 Z o0 w h0 n0 _ T1.heap _
    rw [e1]
    exact ⟨rfl, N0, rfl⟩
theorem d4_0 : decode prog_44_method_2_code 0 = .ok (.aload_n 0, 1) := by decide +kernel
theorem d4_1 : decode prog_44_method_2_code 1 = .ok (.iconst 1, 1) := by decide +kernel
theorem d4_2 : decode prog_44_method_2_code 2 = .ok (.putfield 7, 3) := by decide +kernel
theorem d4_5 : decode prog_44_method_2_code 5 = .ok (.return_, 1) := by decide +kernel
theorem ef_4 (m : MethodId) (o0 : Addr) : entryFrame m #[(.ref o0)] 1 = mkF m 0 #[.val (.ref o0)] [] := by first | (simp [entryFrame, mkF, argsToLocals, Value.category]; done) | rfl

def Q4 (Z : State) (o0 : Addr) (w : Int32) (h0 : Heap) (n0 : Nat) (v : Option Value) (h : Heap) (L : List Loc) : Prop := v = none ∧ Fr n0 L ∧ Keep h0 h [o0] ∧ (Fld Z h o0 "com/example/tenet/tenet/model/Typing$NewRecord" "keyed" "Z" (.int (1 : Int32)))
set_option maxRecDepth 65536 in
set_option maxHeartbeats 40000000 in
theorem rm4 (l : Launch) (Z : State) (a0 : Array Value) (hw : ∀ d ∈ tables_1, d.before a0 Z = true) (ws : List Jvm.Cond) (o0 : Addr) (w : Int32) (h0 : Heap) (n0 : Nat) (Z0 : n0 ≤ h0.size) (F_keyed_o0 : Fld Z h0 o0 "com/example/tenet/tenet/model/Typing$NewRecord" "keyed" "Z" (.int w)) (E_o0 : Exa Z h0 o0 "com/example/tenet/tenet/model/Typing$NewRecord") (g_o0 : n0 ≤ o0) :
    MetFree l (⟨"com/example/tenet/tenet/model/Typing$NewRecord", "markKeyed", "()V"⟩ : MethodName) (head1 (Jvm.Cond.code (⟨"com/example/tenet/tenet/model/Typing$NewRecord", "markKeyed", "()V"⟩ : MethodName) prog_44_method_2_code 1 none :: ws) ({ frames := 0, cells := 0, slots := 0, locals := 0 } : Room)) (fun a U => a = #[(.ref o0)] ∧ Z.Warmed39 U.vm ∧ U.heap = h0) (fun _ _ _ _ _ => True) (fun _ U o U' => ∃ v L, o = .returned v ∧ Q4 Z o0 w h0 n0 v U'.heap L ∧ FrameEnd U o U' L ({ frames := 0, cells := 0, slots := 0, locals := 0 } : Room).cells ({ frames := 0, cells := 0, slots := 0, locals := 0 } : Room).slots) := by
  refine MetFree.of_bodySF (plainFor_of_name pn_0) hisR ?_
  intro p e s m args below meth c s₁ Bd hml0 hP hK
  obtain ⟨rfl, hZ, hh⟩ := hP
  have hx := Bd.exec
  have hby := Bd.bytes
  have hml : c.maxLocals = 1 := hml0
  have hown : s.vm.findClass "com/example/tenet/tenet/model/Typing$NewRecord" = some m.cls := findClass_of_methodNamed Bd.named
  have hnm := (name_of_methodNamed Bd.named Bd.method).1
  have X0 : Stand p l e ({ frames := 0, cells := 0, slots := 0, locals := 0 } : Room) s m #[(.ref o0)] below meth c s₁ [] 0 0 := Stand.of_body Bd
  have e0 : s₁.heap = h0 := by rw [← hh, Bd.state]; rfl
  have N0 := Fr.nil n0
  have pre0 : ∀ t, Steps p.tables e below (s₁.setTop (mkF m 0 #[.val (.ref o0)] [])) t → Steps p.tables e below (s₁.setTop (entryFrame m #[(.ref o0)] 1)) t := fun t k => castTop (ef_4 m o0) k
  obtain ⟨T1, h1, X1, e1, W1, st1⟩ := putFN X0 hx hZ hown (hw _ (List.mem_of_getElem? (i := 14) rfl)) Via.refl e0 F_keyed_o0 E_o0 (Or.inl (hw _ (List.mem_of_getElem? (i := 15) rfl))) (hw _ (List.mem_of_getElem? (i := 1) rfl)) (ty := .boolean) (v' := (.int (1 : Int32))) (by decide) rfl (by decide) (g := (mkF m 2 #[.val (.ref o0)] [(.int (1 : Int32)), (.ref o0)])) rfl rfl (hb hby d4_2)
  have N1 := Fr.snoc X1 N0 g_o0
  have F_keyed_o0_w1 : Fld Z h1 o0 "com/example/tenet/tenet/model/Typing$NewRecord" "keyed" "Z" (.int (1 : Int32)) := (F_keyed_o0).same W1
  have E_o0_2 : Exa Z h1 o0 "com/example/tenet/tenet/model/Typing$NewRecord" := (E_o0).wr W1
  have SZ3 : h0.size ≤ h1.size := by rw [W1.size]; exact (Nat.le_refl _)
  have ZZ3 : n0 ≤ h1.size := Nat.le_trans Z0 SZ3
  have K4 : Keep h0 h1 [o0] := ((Keep.refl h0 [o0])).wr W1 (Or.inl (List.mem_of_getElem? (i := 0) rfl))
  have pre5 : ∀ t, Steps p.tables e below (T1.setTop (mkF m 5 #[.val (.ref o0)] [])) t → Steps p.tables e below (s₁.setTop (entryFrame m #[(.ref o0)] 1)) t := fun t k => pre0 t (by
    show Steps p.tables e below (s₁.setTop (mkF m 0 #[.val (.ref o0)] [])) _
    refine XS.aloadN X0.here hx rfl (hb hby d4_0) rfl rfl ?_
    show Steps p.tables e below (s₁.setTop (mkF m 1 #[.val (.ref o0)] [(.ref o0)])) _
    refine XS.iconst X0.here hx rfl (hb hby d4_1) ?_
    show Steps p.tables e below (s₁.setTop (mkF m 2 #[.val (.ref o0)] [(.int (1 : Int32)), (.ref o0)])) _
    refine st1 _ ?_
    show Steps p.tables e below (T1.setTop (mkF m 5 #[.val (.ref o0)] [])) _
    exact k)
  obtain ⟨fs, hr, hrun, hended, hW, hsame⟩ := X1.leave (v := none) (fun _ => rfl)
  refine ⟨_, _, pre5 _ ?_, hrun, hended, _, _, rfl, ?_, ⟨_, rfl⟩, hW, hsame.mono (by decide) (by decide)⟩
  · exact X1.returnOut hx Bd.returns (hb hby d4_5) hr
  · show Q4 Z o0 w h0 n0 _ T1.heap _
    rw [e1]
    exact ⟨rfl, N1, K4, F_keyed_o0_w1⟩
theorem pn_1 : plainName "com/example/tenet/tenet/model/NewRecordAwaitsKeyPinLaw" = true := by first | (simp [plainName, overriddenIn]; done) | decide +kernel
theorem pd_0 : parseMethodDescriptor "()V" = some ⟨[], none⟩ := by decide +kernel
theorem pd_1 : parseMethodDescriptor "()Z" = some ⟨[], some .boolean⟩ := by decide +kernel
theorem ef_0 (m : MethodId) (p0 : Int32) : entryFrame m #[(.int p0)] maxLocals = mkF m 0 #[.val (.int p0), .unset, .unset, .unset, .unset, .unset, .unset] [] := by first | (simp [entryFrame, mkF, argsToLocals, Value.category, maxLocals]; done) | rfl
def f0_82 (p0 : Int32) : Int32 := (if (p0 &&& (3 : Int32)) = (0 : Int32) then (1 : Int32) else (0 : Int32))

theorem own_t12 {m : Int32} (h : m < (1 : Int32)) : m < (2 : Int32) := own_gtn (own_lt h) (by decide)
theorem own_t23 {m : Int32} (h : m < (2 : Int32)) : m < (3 : Int32) := own_gtn (own_lt h) (by decide)
theorem own_82a (p0 : Int32) (h : (p0 &&& (3 : Int32)) < (1 : Int32)) : ((f3_12 (0 : Int32)) &&& 1) = f0_82 p0 := by
  have e := c_and p0 3 (by decide)
  have e2 := own_lt h
  have e3 : (1 : Int32).toInt = 1 := by decide
  have z : (p0 &&& (3 : Int32)) = (0 : Int32) := Int32.toInt_inj.mp (by show _ = (0 : Int); omega)
  simp only [f0_82, if_pos z]
  decide
theorem own_82b (p0 : Int32) (h : ¬ (p0 &&& (3 : Int32)) < (1 : Int32)) : ((f3_12 (1 : Int32)) &&& 1) = f0_82 p0 := by
  have z : ¬ (p0 &&& (3 : Int32)) = (0 : Int32) := fun e => h (by rw [e]; decide)
  simp only [f0_82, if_neg z]
  decide

def Q0 (Z : State) (p0 : Int32) (h0 : Heap) (n0 : Nat) (v : Option Value) (h : Heap) (L : List Loc) : Prop := v = some (.int 1) ∧ Fr n0 L
set_option maxRecDepth 65536 in
set_option maxHeartbeats 40000000 in
theorem rm0 (l : Launch) (Z : State) (a0 : Array Value) (hw : ∀ d ∈ tables_1, d.before a0 Z = true) (ws : List Jvm.Cond) (p0 : Int32) (h0 : Heap) (n0 : Nat) (Z0 : n0 ≤ h0.size)  :
    MetFree l x (head1 (Jvm.Cond.code x code maxLocals ret :: ws) room_1) (fun a U => a = #[(.int p0)] ∧ Z.Warmed39 U.vm ∧ U.heap = h0) (fun _ _ _ _ _ => True) (fun _ U o U' => ∃ v L, o = .returned v ∧ Q0 Z p0 h0 n0 v U'.heap L ∧ FrameEnd U o U' L room_1.cells room_1.slots) := by
  refine MetFree.of_bodySF (plainFor_of_name pn_1) hisR ?_
  intro p e s m args below meth c s₁ Bd hml0 hP hK
  obtain ⟨rfl, hZ, hh⟩ := hP
  have hx := Bd.exec
  have hby := Bd.bytes
  have hml : c.maxLocals = 7 := hml0
  have hown : s.vm.findClass "com/example/tenet/tenet/model/NewRecordAwaitsKeyPinLaw" = some m.cls := findClass_of_methodNamed Bd.named
  have hnm := (name_of_methodNamed Bd.named Bd.method).1
  have X0 : Stand p l e room_1 s m #[(.int p0)] below meth c s₁ [] 0 0 := Stand.of_body Bd
  have e0 : s₁.heap = h0 := by rw [← hh, Bd.state]; rfl
  have N0 := Fr.nil n0
  have pre0 : ∀ t, Steps p.tables e below (s₁.setTop (mkF m 0 #[.val (.int p0), .unset, .unset, .unset, .unset, .unset, .unset] [])) t → Steps p.tables e below (s₁.setTop (entryFrame m #[(.int p0)] maxLocals)) t := fun t k => castTop (ef_0 m p0) k
  obtain ⟨T1, h1, X1, e1, Ex1, Ne1, D1, -, st1⟩ := newO X0 hx hZ hown (hw _ (List.mem_of_getElem? (i := 0) rfl)) (hw _ (List.mem_of_getElem? (i := 1) rfl)) (hw _ (List.mem_of_getElem? (i := 2) rfl)) e0 (g := (mkF m 4 #[.val (.int p0), .val (.int (p0 &&& (3 : Int32))), .unset, .unset, .unset, .unset, .unset] [])) rfl (hb hby at_4) (by decide) (by decide)
  obtain ⟨b1, g1⟩ : ∃ z, z = h0.size := ⟨_, rfl⟩
  rw [← g1] at Ne1 D1 st1
  have g_b1 : n0 ≤ b1 := Nat.le_trans (Nat.le_trans Z0 (Nat.le_refl _)) (Nat.le_of_eq g1.symm)
  have sz_b1 : h0.size ≤ b1 := Nat.le_trans (Nat.le_refl _) (Nat.le_of_eq g1.symm)
  have SZ3 : h0.size ≤ h1.size := Nat.le_trans (Nat.le_refl _) Ex1.1
  have ZZ3 : n0 ≤ h1.size := Nat.le_trans Z0 SZ3
  have K4 : Keep h0 h1 [] := ((Keep.refl h0 [])).ext Ex1
  have F_keyed_b1_1 : Fld Z h1 b1 "com/example/tenet/tenet/model/Typing$NewRecord" "keyed" "Z" (.int (0 : Int32)) := D1 (Or.inl (hw _ (List.mem_of_getElem? (i := 15) rfl))) (ty := .boolean) (by decide)
  obtain ⟨_, _, ⟨T5, L5, k5, n5⟩, -, X5, ⟨Lc5, hQ5, l5, y5, z5⟩, st5⟩ := X1.specialBack hx (y := (⟨"com/example/tenet/tenet/model/Typing$NewRecord", "<init>", "()V"⟩ : MethodName)) rfl hown (mvT hZ (hw _ (List.mem_of_getElem? (i := 3) rfl))) (mvT hZ (hw _ (List.mem_of_getElem? (i := 4) rfl))) (mvT hZ (hw _ (List.mem_of_getElem? (i := 5) rfl))) (by decide) (backOf (W := 1) (rm1 l Z a0 hw [] b1 h1 n0 ZZ3) hZ (hw _ (List.mem_of_getElem? (i := 5) rfl)) (hw _ (List.mem_of_getElem? (i := 2) rfl)) (by decide) (by decide)) (g := (mkF m 8 #[.val (.int p0), .val (.int (p0 &&& (3 : Int32))), .unset, .unset, .unset, .unset, .unset] [(.ref b1), (.ref b1)])) rfl (by rw [hml]; rfl) (Steps.refl _) (a := b1) (argsL := []) (rest := [(.ref b1)]) (lenOf pd_0 rfl) rfl (by show 2 * 0 + _ ≤ _; exact Nat.le_of_eq rfl) (hb hby at_8) (fun _ _ => ⟨rfl, e1, (by decide : 1 + 0 ≤ _), (by decide : 1 + 0 ≤ _)⟩)
  dsimp only [Pt.U, Pt.locs, Pt.cells, Pt.slots] at X5 l5 y5 z5 st5 hQ5
  subst l5 y5 z5
  obtain ⟨rfl, N5q, hh5⟩ := hQ5
  have N5 := Fr.app N0 N5q
  obtain ⟨cq6, kq6, q6a, q6b, q6c⟩ := isOf hZ hh5 (Ne1)
  obtain ⟨_, _, ⟨T6, L6, k6, n6⟩, -, X6, ⟨Lc6, hQ6, l6, y6, z6⟩, st6⟩ := X5.virtualBack hx (y := (⟨"com/example/tenet/tenet/model/Typing$NewRecord", "awaitsKey", "()Z"⟩ : MethodName)) (z := (⟨"com/example/tenet/tenet/model/Typing$NewRecord", "awaitsKey", "()Z"⟩ : MethodName)) hown (mvT hZ (hw _ (List.mem_of_getElem? (i := 9) rfl))) (mvT hZ (hw _ (List.mem_of_getElem? (i := 10) rfl))) (notFace_of_selects (args := #[]) (mvT hZ (hw _ (List.mem_of_getElem? (i := 12) rfl)))) (mvT hZ (hw _ (List.mem_of_getElem? (i := 12) rfl))) (mvT hZ (hw _ (List.mem_of_getElem? (i := 11) rfl))) (by decide) (backOf (W := 0) (rm3 l Z a0 hw [] b1 (0 : Int32) h1 n0 ZZ3 F_keyed_b1_1) hZ (hw _ (List.mem_of_getElem? (i := 13) rfl)) (hw _ (List.mem_of_getElem? (i := 2) rfl)) (by decide) (by decide)) q6a q6c (g := (mkF m 13 #[.val (.int p0), .val (.int (p0 &&& (3 : Int32))), .val (.ref b1), .unset, .unset, .unset, .unset] [(.ref b1)])) rfl (by rw [hml]; rfl) (Steps.refl _) (argsL := []) (rest := []) (lenOf pd_1 rfl) rfl (by show 2 * 0 + _ ≤ _; exact Nat.le_of_eq rfl) (hb hby at_13) (fun _ _ => ⟨rfl, hh5, (by decide : 1 + 0 ≤ _), (by decide : 1 + 0 ≤ _)⟩)
  dsimp only [Pt.U, Pt.locs, Pt.cells, Pt.slots] at X6 l6 y6 z6 st6 hQ6
  subst l6 y6 z6
  obtain ⟨rfl, N6q, hh6⟩ := hQ6
  have N6 := Fr.app N5 N6q
  obtain ⟨cq7, kq7, q7a, q7b, q7c⟩ := isOf hZ hh6 (Ne1)
  obtain ⟨_, _, ⟨T7, L7, k7, n7⟩, -, X7, ⟨Lc7, hQ7, l7, y7, z7⟩, st7⟩ := X6.virtualBack hx (y := (⟨"com/example/tenet/tenet/model/Typing$NewRecord", "awaitsKey", "()Z"⟩ : MethodName)) (z := (⟨"com/example/tenet/tenet/model/Typing$NewRecord", "awaitsKey", "()Z"⟩ : MethodName)) hown (mvT hZ (hw _ (List.mem_of_getElem? (i := 9) rfl))) (mvT hZ (hw _ (List.mem_of_getElem? (i := 10) rfl))) (notFace_of_selects (args := #[]) (mvT hZ (hw _ (List.mem_of_getElem? (i := 12) rfl)))) (mvT hZ (hw _ (List.mem_of_getElem? (i := 12) rfl))) (mvT hZ (hw _ (List.mem_of_getElem? (i := 11) rfl))) (by decide) (backOf (W := 0) (rm3 l Z a0 hw [] b1 (0 : Int32) h1 n0 ZZ3 F_keyed_b1_1) hZ (hw _ (List.mem_of_getElem? (i := 13) rfl)) (hw _ (List.mem_of_getElem? (i := 2) rfl)) (by decide) (by decide)) q7a q7c (g := (mkF m 18 #[.val (.int p0), .val (.int (p0 &&& (3 : Int32))), .val (.ref b1), .val (.int ((f3_12 (0 : Int32)) &&& 1)), .unset, .unset, .unset] [(.ref b1)])) rfl (by rw [hml]; rfl) (Steps.refl _) (argsL := []) (rest := []) (lenOf pd_1 rfl) rfl (by show 2 * 0 + _ ≤ _; exact Nat.le_of_eq rfl) (hb hby at_18) (fun _ _ => ⟨rfl, hh6, (by decide : 1 + 0 ≤ _), (by decide : 1 + 0 ≤ _)⟩)
  dsimp only [Pt.U, Pt.locs, Pt.cells, Pt.slots] at X7 l7 y7 z7 st7 hQ7
  subst l7 y7 z7
  obtain ⟨rfl, N7q, hh7⟩ := hQ7
  have N7 := Fr.app N6 N7q
  have pre8 : ∀ t, Steps p.tables e below (T7.setTop (mkF m 25 #[.val (.int p0), .val (.int (p0 &&& (3 : Int32))), .val (.ref b1), .val (.int ((f3_12 (0 : Int32)) &&& 1)), .val (.int ((f3_12 (0 : Int32)) &&& 1)), .unset, .unset] [(.int (1 : Int32)), (.int (p0 &&& (3 : Int32)))])) t → Steps p.tables e below (s₁.setTop (entryFrame m #[(.int p0)] maxLocals)) t := fun t k => pre0 t (by
    show Steps p.tables e below (s₁.setTop (mkF m 0 #[.val (.int p0), .unset, .unset, .unset, .unset, .unset, .unset] [])) _
    refine XS.iloadN X0.here hx rfl (hb hby at_0) rfl ?_
    show Steps p.tables e below (s₁.setTop (mkF m 1 #[.val (.int p0), .unset, .unset, .unset, .unset, .unset, .unset] [(.int p0)])) _
    refine XS.iconst X0.here hx rfl (hb hby at_1) ?_
    show Steps p.tables e below (s₁.setTop (mkF m 2 #[.val (.int p0), .unset, .unset, .unset, .unset, .unset, .unset] [(.int (3 : Int32)), (.int p0)])) _
    refine XS.iand X0.here hx rfl (hb hby at_2) rfl ?_
    show Steps p.tables e below (s₁.setTop (mkF m 3 #[.val (.int p0), .unset, .unset, .unset, .unset, .unset, .unset] [(.int (p0 &&& (3 : Int32)))])) _
    refine XS.istoreN X0.here hx rfl (hb hby at_3) rfl (l' := #[.val (.int p0), .val (.int (p0 &&& (3 : Int32))), .unset, .unset, .unset, .unset, .unset]) rfl ?_
    show Steps p.tables e below (s₁.setTop (mkF m 4 #[.val (.int p0), .val (.int (p0 &&& (3 : Int32))), .unset, .unset, .unset, .unset, .unset] [])) _
    refine st1 _ ?_
    show Steps p.tables e below (T1.setTop (mkF m 7 #[.val (.int p0), .val (.int (p0 &&& (3 : Int32))), .unset, .unset, .unset, .unset, .unset] [(.ref b1)])) _
    refine XS.dup X1.here hx rfl (hb hby at_7) rfl rfl ?_
    show Steps p.tables e below (T1.setTop (mkF m 8 #[.val (.int p0), .val (.int (p0 &&& (3 : Int32))), .unset, .unset, .unset, .unset, .unset] [(.ref b1), (.ref b1)])) _
    refine st5.trans ?_
    show Steps p.tables e below (T5.setTop (mkF m 11 #[.val (.int p0), .val (.int (p0 &&& (3 : Int32))), .unset, .unset, .unset, .unset, .unset] [(.ref b1)])) _
    refine XS.astoreN X5.here hx rfl (hb hby at_11) rfl rfl (l' := #[.val (.int p0), .val (.int (p0 &&& (3 : Int32))), .val (.ref b1), .unset, .unset, .unset, .unset]) rfl ?_
    show Steps p.tables e below (T5.setTop (mkF m 12 #[.val (.int p0), .val (.int (p0 &&& (3 : Int32))), .val (.ref b1), .unset, .unset, .unset, .unset] [])) _
    refine XS.aloadN X5.here hx rfl (hb hby at_12) rfl rfl ?_
    show Steps p.tables e below (T5.setTop (mkF m 13 #[.val (.int p0), .val (.int (p0 &&& (3 : Int32))), .val (.ref b1), .unset, .unset, .unset, .unset] [(.ref b1)])) _
    refine st6.trans ?_
    show Steps p.tables e below (T6.setTop (mkF m 16 #[.val (.int p0), .val (.int (p0 &&& (3 : Int32))), .val (.ref b1), .unset, .unset, .unset, .unset] [(.int ((f3_12 (0 : Int32)) &&& 1))])) _
    refine XS.istoreN X6.here hx rfl (hb hby at_16) rfl (l' := #[.val (.int p0), .val (.int (p0 &&& (3 : Int32))), .val (.ref b1), .val (.int ((f3_12 (0 : Int32)) &&& 1)), .unset, .unset, .unset]) rfl ?_
    show Steps p.tables e below (T6.setTop (mkF m 17 #[.val (.int p0), .val (.int (p0 &&& (3 : Int32))), .val (.ref b1), .val (.int ((f3_12 (0 : Int32)) &&& 1)), .unset, .unset, .unset] [])) _
    refine XS.aloadN X6.here hx rfl (hb hby at_17) rfl rfl ?_
    show Steps p.tables e below (T6.setTop (mkF m 18 #[.val (.int p0), .val (.int (p0 &&& (3 : Int32))), .val (.ref b1), .val (.int ((f3_12 (0 : Int32)) &&& 1)), .unset, .unset, .unset] [(.ref b1)])) _
    refine st7.trans ?_
    show Steps p.tables e below (T7.setTop (mkF m 21 #[.val (.int p0), .val (.int (p0 &&& (3 : Int32))), .val (.ref b1), .val (.int ((f3_12 (0 : Int32)) &&& 1)), .unset, .unset, .unset] [(.int ((f3_12 (0 : Int32)) &&& 1))])) _
    refine XS.istore X7.here hx rfl (hb hby at_21) rfl (l' := #[.val (.int p0), .val (.int (p0 &&& (3 : Int32))), .val (.ref b1), .val (.int ((f3_12 (0 : Int32)) &&& 1)), .val (.int ((f3_12 (0 : Int32)) &&& 1)), .unset, .unset]) rfl ?_
    show Steps p.tables e below (T7.setTop (mkF m 23 #[.val (.int p0), .val (.int (p0 &&& (3 : Int32))), .val (.ref b1), .val (.int ((f3_12 (0 : Int32)) &&& 1)), .val (.int ((f3_12 (0 : Int32)) &&& 1)), .unset, .unset] [])) _
    refine XS.iloadN X7.here hx rfl (hb hby at_23) rfl ?_
    show Steps p.tables e below (T7.setTop (mkF m 24 #[.val (.int p0), .val (.int (p0 &&& (3 : Int32))), .val (.ref b1), .val (.int ((f3_12 (0 : Int32)) &&& 1)), .val (.int ((f3_12 (0 : Int32)) &&& 1)), .unset, .unset] [(.int (p0 &&& (3 : Int32)))])) _
    refine XS.iconst X7.here hx rfl (hb hby at_24) ?_
    show Steps p.tables e below (T7.setTop (mkF m 25 #[.val (.int p0), .val (.int (p0 &&& (3 : Int32))), .val (.ref b1), .val (.int ((f3_12 (0 : Int32)) &&& 1)), .val (.int ((f3_12 (0 : Int32)) &&& 1)), .unset, .unset] [(.int (1 : Int32)), (.int (p0 &&& (3 : Int32)))])) _
    exact k)
  by_cases hs9 : (p0 &&& (3 : Int32)) < (1 : Int32)
  · have pre10 : ∀ t, Steps p.tables e below (T7.setTop (mkF m 34 #[.val (.int p0), .val (.int (p0 &&& (3 : Int32))), .val (.ref b1), .val (.int ((f3_12 (0 : Int32)) &&& 1)), .val (.int ((f3_12 (0 : Int32)) &&& 1)), .unset, .unset] [(.int (2 : Int32)), (.int (p0 &&& (3 : Int32)))])) t → Steps p.tables e below (s₁.setTop (entryFrame m #[(.int p0)] maxLocals)) t := fun t k => pre8 t (by
      refine XS.icmpYes X7.here hx rfl (pc0 := 25) (pc' := 32) rfl (hb hby at_25) rfl (tlt hs9).1 (by decide) (by decide) ?_
      show Steps p.tables e below (T7.setTop (mkF m 32 #[.val (.int p0), .val (.int (p0 &&& (3 : Int32))), .val (.ref b1), .val (.int ((f3_12 (0 : Int32)) &&& 1)), .val (.int ((f3_12 (0 : Int32)) &&& 1)), .unset, .unset] [])) _
      refine XS.iloadN X7.here hx rfl (hb hby at_32) rfl ?_
      show Steps p.tables e below (T7.setTop (mkF m 33 #[.val (.int p0), .val (.int (p0 &&& (3 : Int32))), .val (.ref b1), .val (.int ((f3_12 (0 : Int32)) &&& 1)), .val (.int ((f3_12 (0 : Int32)) &&& 1)), .unset, .unset] [(.int (p0 &&& (3 : Int32)))])) _
      refine XS.iconst X7.here hx rfl (hb hby at_33) ?_
      show Steps p.tables e below (T7.setTop (mkF m 34 #[.val (.int p0), .val (.int (p0 &&& (3 : Int32))), .val (.ref b1), .val (.int ((f3_12 (0 : Int32)) &&& 1)), .val (.int ((f3_12 (0 : Int32)) &&& 1)), .unset, .unset] [(.int (2 : Int32)), (.int (p0 &&& (3 : Int32)))])) _
      exact k)
    by_cases hs11 : (p0 &&& (3 : Int32)) < (2 : Int32)
    · have pre12 : ∀ t, Steps p.tables e below (T7.setTop (mkF m 43 #[.val (.int p0), .val (.int (p0 &&& (3 : Int32))), .val (.ref b1), .val (.int ((f3_12 (0 : Int32)) &&& 1)), .val (.int ((f3_12 (0 : Int32)) &&& 1)), .unset, .unset] [(.int (3 : Int32)), (.int (p0 &&& (3 : Int32)))])) t → Steps p.tables e below (s₁.setTop (entryFrame m #[(.int p0)] maxLocals)) t := fun t k => pre10 t (by
        refine XS.icmpYes X7.here hx rfl (pc0 := 34) (pc' := 41) rfl (hb hby at_34) rfl (tlt hs11).1 (by decide) (by decide) ?_
        show Steps p.tables e below (T7.setTop (mkF m 41 #[.val (.int p0), .val (.int (p0 &&& (3 : Int32))), .val (.ref b1), .val (.int ((f3_12 (0 : Int32)) &&& 1)), .val (.int ((f3_12 (0 : Int32)) &&& 1)), .unset, .unset] [])) _
        refine XS.iloadN X7.here hx rfl (hb hby at_41) rfl ?_
        show Steps p.tables e below (T7.setTop (mkF m 42 #[.val (.int p0), .val (.int (p0 &&& (3 : Int32))), .val (.ref b1), .val (.int ((f3_12 (0 : Int32)) &&& 1)), .val (.int ((f3_12 (0 : Int32)) &&& 1)), .unset, .unset] [(.int (p0 &&& (3 : Int32)))])) _
        refine XS.iconst X7.here hx rfl (hb hby at_42) ?_
        show Steps p.tables e below (T7.setTop (mkF m 43 #[.val (.int p0), .val (.int (p0 &&& (3 : Int32))), .val (.ref b1), .val (.int ((f3_12 (0 : Int32)) &&& 1)), .val (.int ((f3_12 (0 : Int32)) &&& 1)), .unset, .unset] [(.int (3 : Int32)), (.int (p0 &&& (3 : Int32)))])) _
        exact k)
      by_cases hs13 : (p0 &&& (3 : Int32)) < (3 : Int32)
      · obtain ⟨cq14, kq14, q14a, q14b, q14c⟩ := isOf hZ hh7 (Ne1)
        obtain ⟨_, _, ⟨T14, L14, k14, n14⟩, -, X14, ⟨Lc14, hQ14, l14, y14, z14⟩, st14⟩ := X7.virtualBack hx (y := (⟨"com/example/tenet/tenet/model/Typing$NewRecord", "awaitsKey", "()Z"⟩ : MethodName)) (z := (⟨"com/example/tenet/tenet/model/Typing$NewRecord", "awaitsKey", "()Z"⟩ : MethodName)) hown (mvT hZ (hw _ (List.mem_of_getElem? (i := 9) rfl))) (mvT hZ (hw _ (List.mem_of_getElem? (i := 10) rfl))) (notFace_of_selects (args := #[]) (mvT hZ (hw _ (List.mem_of_getElem? (i := 12) rfl)))) (mvT hZ (hw _ (List.mem_of_getElem? (i := 12) rfl))) (mvT hZ (hw _ (List.mem_of_getElem? (i := 11) rfl))) (by decide) (backOf (W := 0) (rm3 l Z a0 hw [] b1 (0 : Int32) h1 n0 ZZ3 F_keyed_b1_1) hZ (hw _ (List.mem_of_getElem? (i := 13) rfl)) (hw _ (List.mem_of_getElem? (i := 2) rfl)) (by decide) (by decide)) q14a q14c (g := (mkF m 51 #[.val (.int p0), .val (.int (p0 &&& (3 : Int32))), .val (.ref b1), .val (.int ((f3_12 (0 : Int32)) &&& 1)), .val (.int ((f3_12 (0 : Int32)) &&& 1)), .unset, .unset] [(.ref b1)])) rfl (by rw [hml]; rfl) (Steps.refl _) (argsL := []) (rest := []) (lenOf pd_1 rfl) rfl (by show 2 * 0 + _ ≤ _; exact Nat.le_of_eq rfl) (hb hby at_51) (fun _ _ => ⟨rfl, hh7, (by decide : 1 + 0 ≤ _), (by decide : 1 + 0 ≤ _)⟩)
        dsimp only [Pt.U, Pt.locs, Pt.cells, Pt.slots] at X14 l14 y14 z14 st14 hQ14
        subst l14 y14 z14
        obtain ⟨rfl, N14q, hh14⟩ := hQ14
        have N14 := Fr.app N7 N14q
        obtain ⟨cq15, kq15, q15a, q15b, q15c⟩ := isOf hZ hh14 (Ne1)
        obtain ⟨_, _, ⟨T15, L15, k15, n15⟩, -, X15, ⟨Lc15, hQ15, l15, y15, z15⟩, st15⟩ := X14.virtualBack hx (y := (⟨"com/example/tenet/tenet/model/Typing$NewRecord", "awaitsKey", "()Z"⟩ : MethodName)) (z := (⟨"com/example/tenet/tenet/model/Typing$NewRecord", "awaitsKey", "()Z"⟩ : MethodName)) hown (mvT hZ (hw _ (List.mem_of_getElem? (i := 9) rfl))) (mvT hZ (hw _ (List.mem_of_getElem? (i := 10) rfl))) (notFace_of_selects (args := #[]) (mvT hZ (hw _ (List.mem_of_getElem? (i := 12) rfl)))) (mvT hZ (hw _ (List.mem_of_getElem? (i := 12) rfl))) (mvT hZ (hw _ (List.mem_of_getElem? (i := 11) rfl))) (by decide) (backOf (W := 0) (rm3 l Z a0 hw [] b1 (0 : Int32) h1 n0 ZZ3 F_keyed_b1_1) hZ (hw _ (List.mem_of_getElem? (i := 13) rfl)) (hw _ (List.mem_of_getElem? (i := 2) rfl)) (by decide) (by decide)) q15a q15c (g := (mkF m 57 #[.val (.int p0), .val (.int (p0 &&& (3 : Int32))), .val (.ref b1), .val (.int ((f3_12 (0 : Int32)) &&& 1)), .val (.int ((f3_12 (0 : Int32)) &&& 1)), .val (.int ((f3_12 (0 : Int32)) &&& 1)), .unset] [(.ref b1)])) rfl (by rw [hml]; rfl) (Steps.refl _) (argsL := []) (rest := []) (lenOf pd_1 rfl) rfl (by show 2 * 0 + _ ≤ _; exact Nat.le_of_eq rfl) (hb hby at_57) (fun _ _ => ⟨rfl, hh14, (by decide : 1 + 0 ≤ _), (by decide : 1 + 0 ≤ _)⟩)
        dsimp only [Pt.U, Pt.locs, Pt.cells, Pt.slots] at X15 l15 y15 z15 st15 hQ15
        subst l15 y15 z15
        obtain ⟨rfl, N15q, hh15⟩ := hQ15
        have N15 := Fr.app N14 N15q
        have pre16 : ∀ t, Steps p.tables e below (T15.setTop (mkF m 74 #[.val (.int p0), .val (.int (p0 &&& (3 : Int32))), .val (.ref b1), .val (.int ((f3_12 (0 : Int32)) &&& 1)), .val (.int ((f3_12 (0 : Int32)) &&& 1)), .val (.int ((f3_12 (0 : Int32)) &&& 1)), .val (.int ((f3_12 (0 : Int32)) &&& 1))] [(.int (p0 &&& (3 : Int32))), (.int ((f3_12 (0 : Int32)) &&& 1))])) t → Steps p.tables e below (s₁.setTop (entryFrame m #[(.int p0)] maxLocals)) t := fun t k => pre12 t (by
          refine XS.icmpYes X7.here hx rfl (pc0 := 43) (pc' := 50) rfl (hb hby at_43) rfl (tlt hs13).1 (by decide) (by decide) ?_
          show Steps p.tables e below (T7.setTop (mkF m 50 #[.val (.int p0), .val (.int (p0 &&& (3 : Int32))), .val (.ref b1), .val (.int ((f3_12 (0 : Int32)) &&& 1)), .val (.int ((f3_12 (0 : Int32)) &&& 1)), .unset, .unset] [])) _
          refine XS.aloadN X7.here hx rfl (hb hby at_50) rfl rfl ?_
          show Steps p.tables e below (T7.setTop (mkF m 51 #[.val (.int p0), .val (.int (p0 &&& (3 : Int32))), .val (.ref b1), .val (.int ((f3_12 (0 : Int32)) &&& 1)), .val (.int ((f3_12 (0 : Int32)) &&& 1)), .unset, .unset] [(.ref b1)])) _
          refine st14.trans ?_
          show Steps p.tables e below (T14.setTop (mkF m 54 #[.val (.int p0), .val (.int (p0 &&& (3 : Int32))), .val (.ref b1), .val (.int ((f3_12 (0 : Int32)) &&& 1)), .val (.int ((f3_12 (0 : Int32)) &&& 1)), .unset, .unset] [(.int ((f3_12 (0 : Int32)) &&& 1))])) _
          refine XS.istore X14.here hx rfl (hb hby at_54) rfl (l' := #[.val (.int p0), .val (.int (p0 &&& (3 : Int32))), .val (.ref b1), .val (.int ((f3_12 (0 : Int32)) &&& 1)), .val (.int ((f3_12 (0 : Int32)) &&& 1)), .val (.int ((f3_12 (0 : Int32)) &&& 1)), .unset]) rfl ?_
          show Steps p.tables e below (T14.setTop (mkF m 56 #[.val (.int p0), .val (.int (p0 &&& (3 : Int32))), .val (.ref b1), .val (.int ((f3_12 (0 : Int32)) &&& 1)), .val (.int ((f3_12 (0 : Int32)) &&& 1)), .val (.int ((f3_12 (0 : Int32)) &&& 1)), .unset] [])) _
          refine XS.aloadN X14.here hx rfl (hb hby at_56) rfl rfl ?_
          show Steps p.tables e below (T14.setTop (mkF m 57 #[.val (.int p0), .val (.int (p0 &&& (3 : Int32))), .val (.ref b1), .val (.int ((f3_12 (0 : Int32)) &&& 1)), .val (.int ((f3_12 (0 : Int32)) &&& 1)), .val (.int ((f3_12 (0 : Int32)) &&& 1)), .unset] [(.ref b1)])) _
          refine st15.trans ?_
          show Steps p.tables e below (T15.setTop (mkF m 60 #[.val (.int p0), .val (.int (p0 &&& (3 : Int32))), .val (.ref b1), .val (.int ((f3_12 (0 : Int32)) &&& 1)), .val (.int ((f3_12 (0 : Int32)) &&& 1)), .val (.int ((f3_12 (0 : Int32)) &&& 1)), .unset] [(.int ((f3_12 (0 : Int32)) &&& 1))])) _
          refine XS.istore X15.here hx rfl (hb hby at_60) rfl (l' := #[.val (.int p0), .val (.int (p0 &&& (3 : Int32))), .val (.ref b1), .val (.int ((f3_12 (0 : Int32)) &&& 1)), .val (.int ((f3_12 (0 : Int32)) &&& 1)), .val (.int ((f3_12 (0 : Int32)) &&& 1)), .val (.int ((f3_12 (0 : Int32)) &&& 1))]) rfl ?_
          show Steps p.tables e below (T15.setTop (mkF m 62 #[.val (.int p0), .val (.int (p0 &&& (3 : Int32))), .val (.ref b1), .val (.int ((f3_12 (0 : Int32)) &&& 1)), .val (.int ((f3_12 (0 : Int32)) &&& 1)), .val (.int ((f3_12 (0 : Int32)) &&& 1)), .val (.int ((f3_12 (0 : Int32)) &&& 1))] [])) _
          refine XS.iloadN X15.here hx rfl (hb hby at_62) rfl ?_
          show Steps p.tables e below (T15.setTop (mkF m 63 #[.val (.int p0), .val (.int (p0 &&& (3 : Int32))), .val (.ref b1), .val (.int ((f3_12 (0 : Int32)) &&& 1)), .val (.int ((f3_12 (0 : Int32)) &&& 1)), .val (.int ((f3_12 (0 : Int32)) &&& 1)), .val (.int ((f3_12 (0 : Int32)) &&& 1))] [(.int ((f3_12 (0 : Int32)) &&& 1))])) _
          refine XS.ifNo X15.here hx rfl (hb hby at_63) rfl ((if0 _ _).trans (feq (show ¬ (((f3_12 (0 : Int32)) &&& 1) = (0 : Int32)) from by decide)).1) ?_
          show Steps p.tables e below (T15.setTop (mkF m 66 #[.val (.int p0), .val (.int (p0 &&& (3 : Int32))), .val (.ref b1), .val (.int ((f3_12 (0 : Int32)) &&& 1)), .val (.int ((f3_12 (0 : Int32)) &&& 1)), .val (.int ((f3_12 (0 : Int32)) &&& 1)), .val (.int ((f3_12 (0 : Int32)) &&& 1))] [])) _
          refine XS.iload X15.here hx rfl (hb hby at_66) rfl ?_
          show Steps p.tables e below (T15.setTop (mkF m 68 #[.val (.int p0), .val (.int (p0 &&& (3 : Int32))), .val (.ref b1), .val (.int ((f3_12 (0 : Int32)) &&& 1)), .val (.int ((f3_12 (0 : Int32)) &&& 1)), .val (.int ((f3_12 (0 : Int32)) &&& 1)), .val (.int ((f3_12 (0 : Int32)) &&& 1))] [(.int ((f3_12 (0 : Int32)) &&& 1))])) _
          refine XS.ifNo X15.here hx rfl (hb hby at_68) rfl ((if0 _ _).trans (feq (show ¬ (((f3_12 (0 : Int32)) &&& 1) = (0 : Int32)) from by decide)).1) ?_
          show Steps p.tables e below (T15.setTop (mkF m 71 #[.val (.int p0), .val (.int (p0 &&& (3 : Int32))), .val (.ref b1), .val (.int ((f3_12 (0 : Int32)) &&& 1)), .val (.int ((f3_12 (0 : Int32)) &&& 1)), .val (.int ((f3_12 (0 : Int32)) &&& 1)), .val (.int ((f3_12 (0 : Int32)) &&& 1))] [])) _
          refine XS.iload X15.here hx rfl (hb hby at_71) rfl ?_
          show Steps p.tables e below (T15.setTop (mkF m 73 #[.val (.int p0), .val (.int (p0 &&& (3 : Int32))), .val (.ref b1), .val (.int ((f3_12 (0 : Int32)) &&& 1)), .val (.int ((f3_12 (0 : Int32)) &&& 1)), .val (.int ((f3_12 (0 : Int32)) &&& 1)), .val (.int ((f3_12 (0 : Int32)) &&& 1))] [(.int ((f3_12 (0 : Int32)) &&& 1))])) _
          refine XS.iloadN X15.here hx rfl (hb hby at_73) rfl ?_
          show Steps p.tables e below (T15.setTop (mkF m 74 #[.val (.int p0), .val (.int (p0 &&& (3 : Int32))), .val (.ref b1), .val (.int ((f3_12 (0 : Int32)) &&& 1)), .val (.int ((f3_12 (0 : Int32)) &&& 1)), .val (.int ((f3_12 (0 : Int32)) &&& 1)), .val (.int ((f3_12 (0 : Int32)) &&& 1))] [(.int (p0 &&& (3 : Int32))), (.int ((f3_12 (0 : Int32)) &&& 1))])) _
          exact k)
        have pre18 : ∀ t, Steps p.tables e below (T15.setTop (mkF m 82 #[.val (.int p0), .val (.int (p0 &&& (3 : Int32))), .val (.ref b1), .val (.int ((f3_12 (0 : Int32)) &&& 1)), .val (.int ((f3_12 (0 : Int32)) &&& 1)), .val (.int ((f3_12 (0 : Int32)) &&& 1)), .val (.int ((f3_12 (0 : Int32)) &&& 1))] [(.int (f0_82 p0)), (.int ((f3_12 (0 : Int32)) &&& 1))])) t → Steps p.tables e below (s₁.setTop (entryFrame m #[(.int p0)] maxLocals)) t := fun t k => pre16 t (by
          by_cases hf17 : (p0 &&& (3 : Int32)) = (0 : Int32)
          · refine XS.ifNo X15.here hx rfl (hb hby at_74) rfl ((if0 _ _).trans (teq hf17).2) ?_
            show Steps p.tables e below (T15.setTop (mkF m 77 #[.val (.int p0), .val (.int (p0 &&& (3 : Int32))), .val (.ref b1), .val (.int ((f3_12 (0 : Int32)) &&& 1)), .val (.int ((f3_12 (0 : Int32)) &&& 1)), .val (.int ((f3_12 (0 : Int32)) &&& 1)), .val (.int ((f3_12 (0 : Int32)) &&& 1))] [(.int ((f3_12 (0 : Int32)) &&& 1))])) _
            refine XS.iconst X15.here hx rfl (hb hby at_77) ?_
            show Steps p.tables e below (T15.setTop (mkF m 78 #[.val (.int p0), .val (.int (p0 &&& (3 : Int32))), .val (.ref b1), .val (.int ((f3_12 (0 : Int32)) &&& 1)), .val (.int ((f3_12 (0 : Int32)) &&& 1)), .val (.int ((f3_12 (0 : Int32)) &&& 1)), .val (.int ((f3_12 (0 : Int32)) &&& 1))] [(.int (1 : Int32)), (.int ((f3_12 (0 : Int32)) &&& 1))])) _
            refine XS.goto X15.here hx rfl (pc0 := 78) (pc' := 82) rfl (hb hby at_78) (by decide) (by decide) ?_
            show Steps p.tables e below (T15.setTop (mkF m 82 #[.val (.int p0), .val (.int (p0 &&& (3 : Int32))), .val (.ref b1), .val (.int ((f3_12 (0 : Int32)) &&& 1)), .val (.int ((f3_12 (0 : Int32)) &&& 1)), .val (.int ((f3_12 (0 : Int32)) &&& 1)), .val (.int ((f3_12 (0 : Int32)) &&& 1))] [(.int (1 : Int32)), (.int ((f3_12 (0 : Int32)) &&& 1))])) _
            rw [show (f0_82 p0) = ((1 : Int32) : Int32) from by simp only [f0_82, if_pos hf17]] at k
            exact k
          · refine XS.ifYes X15.here hx rfl (pc0 := 74) (pc' := 81) rfl (hb hby at_74) rfl ((if0 _ _).trans (feq hf17).2) (by decide) (by decide) ?_
            show Steps p.tables e below (T15.setTop (mkF m 81 #[.val (.int p0), .val (.int (p0 &&& (3 : Int32))), .val (.ref b1), .val (.int ((f3_12 (0 : Int32)) &&& 1)), .val (.int ((f3_12 (0 : Int32)) &&& 1)), .val (.int ((f3_12 (0 : Int32)) &&& 1)), .val (.int ((f3_12 (0 : Int32)) &&& 1))] [(.int ((f3_12 (0 : Int32)) &&& 1))])) _
            refine XS.iconst X15.here hx rfl (hb hby at_81) ?_
            show Steps p.tables e below (T15.setTop (mkF m 82 #[.val (.int p0), .val (.int (p0 &&& (3 : Int32))), .val (.ref b1), .val (.int ((f3_12 (0 : Int32)) &&& 1)), .val (.int ((f3_12 (0 : Int32)) &&& 1)), .val (.int ((f3_12 (0 : Int32)) &&& 1)), .val (.int ((f3_12 (0 : Int32)) &&& 1))] [(.int (0 : Int32)), (.int ((f3_12 (0 : Int32)) &&& 1))])) _
            rw [show (f0_82 p0) = ((0 : Int32) : Int32) from by simp only [f0_82, if_neg hf17]] at k
            exact k)
        have pre19 : ∀ t, Steps p.tables e below (T15.setTop (mkF m 97 #[.val (.int p0), .val (.int (p0 &&& (3 : Int32))), .val (.ref b1), .val (.int ((f3_12 (0 : Int32)) &&& 1)), .val (.int ((f3_12 (0 : Int32)) &&& 1)), .val (.int ((f3_12 (0 : Int32)) &&& 1)), .val (.int ((f3_12 (0 : Int32)) &&& 1))] [(.int (1 : Int32))])) t → Steps p.tables e below (s₁.setTop (entryFrame m #[(.int p0)] maxLocals)) t := fun t k => pre18 t (by
          refine XS.icmpNo X15.here hx rfl (hb hby at_82) rfl (teq (show ((f3_12 (0 : Int32)) &&& 1) = (f0_82 p0) from own_82a _ hs9)).2 ?_
          show Steps p.tables e below (T15.setTop (mkF m 85 #[.val (.int p0), .val (.int (p0 &&& (3 : Int32))), .val (.ref b1), .val (.int ((f3_12 (0 : Int32)) &&& 1)), .val (.int ((f3_12 (0 : Int32)) &&& 1)), .val (.int ((f3_12 (0 : Int32)) &&& 1)), .val (.int ((f3_12 (0 : Int32)) &&& 1))] [])) _
          refine XS.iload X15.here hx rfl (hb hby at_85) rfl ?_
          show Steps p.tables e below (T15.setTop (mkF m 87 #[.val (.int p0), .val (.int (p0 &&& (3 : Int32))), .val (.ref b1), .val (.int ((f3_12 (0 : Int32)) &&& 1)), .val (.int ((f3_12 (0 : Int32)) &&& 1)), .val (.int ((f3_12 (0 : Int32)) &&& 1)), .val (.int ((f3_12 (0 : Int32)) &&& 1))] [(.int ((f3_12 (0 : Int32)) &&& 1))])) _
          refine XS.iload X15.here hx rfl (hb hby at_87) rfl ?_
          show Steps p.tables e below (T15.setTop (mkF m 89 #[.val (.int p0), .val (.int (p0 &&& (3 : Int32))), .val (.ref b1), .val (.int ((f3_12 (0 : Int32)) &&& 1)), .val (.int ((f3_12 (0 : Int32)) &&& 1)), .val (.int ((f3_12 (0 : Int32)) &&& 1)), .val (.int ((f3_12 (0 : Int32)) &&& 1))] [(.int ((f3_12 (0 : Int32)) &&& 1)), (.int ((f3_12 (0 : Int32)) &&& 1))])) _
          refine XS.icmpNo X15.here hx rfl (hb hby at_89) rfl (teq rfl).2 ?_
          show Steps p.tables e below (T15.setTop (mkF m 92 #[.val (.int p0), .val (.int (p0 &&& (3 : Int32))), .val (.ref b1), .val (.int ((f3_12 (0 : Int32)) &&& 1)), .val (.int ((f3_12 (0 : Int32)) &&& 1)), .val (.int ((f3_12 (0 : Int32)) &&& 1)), .val (.int ((f3_12 (0 : Int32)) &&& 1))] [])) _
          refine XS.iconst X15.here hx rfl (hb hby at_92) ?_
          show Steps p.tables e below (T15.setTop (mkF m 93 #[.val (.int p0), .val (.int (p0 &&& (3 : Int32))), .val (.ref b1), .val (.int ((f3_12 (0 : Int32)) &&& 1)), .val (.int ((f3_12 (0 : Int32)) &&& 1)), .val (.int ((f3_12 (0 : Int32)) &&& 1)), .val (.int ((f3_12 (0 : Int32)) &&& 1))] [(.int (1 : Int32))])) _
          refine XS.goto X15.here hx rfl (pc0 := 93) (pc' := 97) rfl (hb hby at_93) (by decide) (by decide) ?_
          show Steps p.tables e below (T15.setTop (mkF m 97 #[.val (.int p0), .val (.int (p0 &&& (3 : Int32))), .val (.ref b1), .val (.int ((f3_12 (0 : Int32)) &&& 1)), .val (.int ((f3_12 (0 : Int32)) &&& 1)), .val (.int ((f3_12 (0 : Int32)) &&& 1)), .val (.int ((f3_12 (0 : Int32)) &&& 1))] [(.int (1 : Int32))])) _
          exact k)
        obtain ⟨fs, hr, hrun, hended, hW, hsame⟩ := X15.leave (v := some (.int (1 : Int32))) (fun h => by rw [Bd.returns] at h; cases h)
        refine ⟨_, _, pre19 _ ?_, hrun, hended, _, _, rfl, ?_, ⟨_, rfl⟩, hW, hsame.mono (by decide) (by decide)⟩
        · exact retN X15 hx (t := .boolean) Bd.returns (by simp) (hb hby at_97) hr
        · show Q0 Z p0 h0 n0 _ T15.heap _
          rw [hh15]
          exact ⟨rfl, N15⟩
      · exact absurd (own_t23 hs11) hs13
    · exact absurd (own_t12 hs9) hs11
  · obtain ⟨cq20, kq20, q20a, q20b, q20c⟩ := isOf hZ hh7 (Ne1)
    obtain ⟨_, _, ⟨T20, L20, k20, n20⟩, -, X20, ⟨Lc20, hQ20, l20, y20, z20⟩, st20⟩ := X7.virtualBack hx (y := (⟨"com/example/tenet/tenet/model/Typing$NewRecord", "markKeyed", "()V"⟩ : MethodName)) (z := (⟨"com/example/tenet/tenet/model/Typing$NewRecord", "markKeyed", "()V"⟩ : MethodName)) hown (mvT hZ (hw _ (List.mem_of_getElem? (i := 16) rfl))) (mvT hZ (hw _ (List.mem_of_getElem? (i := 17) rfl))) (notFace_of_selects (args := #[]) (mvT hZ (hw _ (List.mem_of_getElem? (i := 19) rfl)))) (mvT hZ (hw _ (List.mem_of_getElem? (i := 19) rfl))) (mvT hZ (hw _ (List.mem_of_getElem? (i := 18) rfl))) (by decide) (backOf (W := 0) (rm4 l Z a0 hw [] b1 (0 : Int32) h1 n0 ZZ3 F_keyed_b1_1 Ne1 g_b1) hZ (hw _ (List.mem_of_getElem? (i := 20) rfl)) (hw _ (List.mem_of_getElem? (i := 2) rfl)) (by decide) (by decide)) q20a q20c (g := (mkF m 29 #[.val (.int p0), .val (.int (p0 &&& (3 : Int32))), .val (.ref b1), .val (.int ((f3_12 (0 : Int32)) &&& 1)), .val (.int ((f3_12 (0 : Int32)) &&& 1)), .unset, .unset] [(.ref b1)])) rfl (by rw [hml]; rfl) (Steps.refl _) (argsL := []) (rest := []) (lenOf pd_0 rfl) rfl (by show 2 * 0 + _ ≤ _; exact Nat.le_of_eq rfl) (hb hby at_29) (fun _ _ => ⟨rfl, hh7, (by decide : 1 + 0 ≤ _), (by decide : 1 + 0 ≤ _)⟩)
    dsimp only [Pt.U, Pt.locs, Pt.cells, Pt.slots] at X20 l20 y20 z20 st20 hQ20
    subst l20 y20 z20
    obtain ⟨rfl, N20q, Kc20, P20_0⟩ := hQ20
    have N20 := Fr.app N7 N20q
    have E_b1_21 : Exa Z T20.heap b1 "com/example/tenet/tenet/model/Typing$NewRecord" := (Ne1).keep Kc20
    have SZ22 : h0.size ≤ T20.heap.size := Nat.le_trans SZ3 Kc20.1
    have ZZ22 : n0 ≤ T20.heap.size := Nat.le_trans Z0 SZ22
    have K23 : Keep h0 T20.heap [] := (K4).trans Kc20 (allS (Or.inr sz_b1) all0)
    have pre24 : ∀ t, Steps p.tables e below (T20.setTop (mkF m 34 #[.val (.int p0), .val (.int (p0 &&& (3 : Int32))), .val (.ref b1), .val (.int ((f3_12 (0 : Int32)) &&& 1)), .val (.int ((f3_12 (0 : Int32)) &&& 1)), .unset, .unset] [(.int (2 : Int32)), (.int (p0 &&& (3 : Int32)))])) t → Steps p.tables e below (s₁.setTop (entryFrame m #[(.int p0)] maxLocals)) t := fun t k => pre8 t (by
      refine XS.icmpNo X7.here hx rfl (hb hby at_25) rfl (flt hs9).1 ?_
      show Steps p.tables e below (T7.setTop (mkF m 28 #[.val (.int p0), .val (.int (p0 &&& (3 : Int32))), .val (.ref b1), .val (.int ((f3_12 (0 : Int32)) &&& 1)), .val (.int ((f3_12 (0 : Int32)) &&& 1)), .unset, .unset] [])) _
      refine XS.aloadN X7.here hx rfl (hb hby at_28) rfl rfl ?_
      show Steps p.tables e below (T7.setTop (mkF m 29 #[.val (.int p0), .val (.int (p0 &&& (3 : Int32))), .val (.ref b1), .val (.int ((f3_12 (0 : Int32)) &&& 1)), .val (.int ((f3_12 (0 : Int32)) &&& 1)), .unset, .unset] [(.ref b1)])) _
      refine st20.trans ?_
      show Steps p.tables e below (T20.setTop (mkF m 32 #[.val (.int p0), .val (.int (p0 &&& (3 : Int32))), .val (.ref b1), .val (.int ((f3_12 (0 : Int32)) &&& 1)), .val (.int ((f3_12 (0 : Int32)) &&& 1)), .unset, .unset] [])) _
      refine XS.iloadN X20.here hx rfl (hb hby at_32) rfl ?_
      show Steps p.tables e below (T20.setTop (mkF m 33 #[.val (.int p0), .val (.int (p0 &&& (3 : Int32))), .val (.ref b1), .val (.int ((f3_12 (0 : Int32)) &&& 1)), .val (.int ((f3_12 (0 : Int32)) &&& 1)), .unset, .unset] [(.int (p0 &&& (3 : Int32)))])) _
      refine XS.iconst X20.here hx rfl (hb hby at_33) ?_
      show Steps p.tables e below (T20.setTop (mkF m 34 #[.val (.int p0), .val (.int (p0 &&& (3 : Int32))), .val (.ref b1), .val (.int ((f3_12 (0 : Int32)) &&& 1)), .val (.int ((f3_12 (0 : Int32)) &&& 1)), .unset, .unset] [(.int (2 : Int32)), (.int (p0 &&& (3 : Int32)))])) _
      exact k)
    by_cases hs25 : (p0 &&& (3 : Int32)) < (2 : Int32)
    · have pre26 : ∀ t, Steps p.tables e below (T20.setTop (mkF m 43 #[.val (.int p0), .val (.int (p0 &&& (3 : Int32))), .val (.ref b1), .val (.int ((f3_12 (0 : Int32)) &&& 1)), .val (.int ((f3_12 (0 : Int32)) &&& 1)), .unset, .unset] [(.int (3 : Int32)), (.int (p0 &&& (3 : Int32)))])) t → Steps p.tables e below (s₁.setTop (entryFrame m #[(.int p0)] maxLocals)) t := fun t k => pre24 t (by
        refine XS.icmpYes X20.here hx rfl (pc0 := 34) (pc' := 41) rfl (hb hby at_34) rfl (tlt hs25).1 (by decide) (by decide) ?_
        show Steps p.tables e below (T20.setTop (mkF m 41 #[.val (.int p0), .val (.int (p0 &&& (3 : Int32))), .val (.ref b1), .val (.int ((f3_12 (0 : Int32)) &&& 1)), .val (.int ((f3_12 (0 : Int32)) &&& 1)), .unset, .unset] [])) _
        refine XS.iloadN X20.here hx rfl (hb hby at_41) rfl ?_
        show Steps p.tables e below (T20.setTop (mkF m 42 #[.val (.int p0), .val (.int (p0 &&& (3 : Int32))), .val (.ref b1), .val (.int ((f3_12 (0 : Int32)) &&& 1)), .val (.int ((f3_12 (0 : Int32)) &&& 1)), .unset, .unset] [(.int (p0 &&& (3 : Int32)))])) _
        refine XS.iconst X20.here hx rfl (hb hby at_42) ?_
        show Steps p.tables e below (T20.setTop (mkF m 43 #[.val (.int p0), .val (.int (p0 &&& (3 : Int32))), .val (.ref b1), .val (.int ((f3_12 (0 : Int32)) &&& 1)), .val (.int ((f3_12 (0 : Int32)) &&& 1)), .unset, .unset] [(.int (3 : Int32)), (.int (p0 &&& (3 : Int32)))])) _
        exact k)
      by_cases hs27 : (p0 &&& (3 : Int32)) < (3 : Int32)
      · obtain ⟨cq28, kq28, q28a, q28b, q28c⟩ := isOf hZ rfl (E_b1_21)
        obtain ⟨_, _, ⟨T28, L28, k28, n28⟩, -, X28, ⟨Lc28, hQ28, l28, y28, z28⟩, st28⟩ := X20.virtualBack hx (y := (⟨"com/example/tenet/tenet/model/Typing$NewRecord", "awaitsKey", "()Z"⟩ : MethodName)) (z := (⟨"com/example/tenet/tenet/model/Typing$NewRecord", "awaitsKey", "()Z"⟩ : MethodName)) hown (mvT hZ (hw _ (List.mem_of_getElem? (i := 9) rfl))) (mvT hZ (hw _ (List.mem_of_getElem? (i := 10) rfl))) (notFace_of_selects (args := #[]) (mvT hZ (hw _ (List.mem_of_getElem? (i := 12) rfl)))) (mvT hZ (hw _ (List.mem_of_getElem? (i := 12) rfl))) (mvT hZ (hw _ (List.mem_of_getElem? (i := 11) rfl))) (by decide) (backOf (W := 0) (rm3 l Z a0 hw [] b1 (1 : Int32) T20.heap n0 ZZ22 P20_0) hZ (hw _ (List.mem_of_getElem? (i := 13) rfl)) (hw _ (List.mem_of_getElem? (i := 2) rfl)) (by decide) (by decide)) q28a q28c (g := (mkF m 51 #[.val (.int p0), .val (.int (p0 &&& (3 : Int32))), .val (.ref b1), .val (.int ((f3_12 (0 : Int32)) &&& 1)), .val (.int ((f3_12 (0 : Int32)) &&& 1)), .unset, .unset] [(.ref b1)])) rfl (by rw [hml]; rfl) (Steps.refl _) (argsL := []) (rest := []) (lenOf pd_1 rfl) rfl (by show 2 * 0 + _ ≤ _; exact Nat.le_of_eq rfl) (hb hby at_51) (fun _ _ => ⟨rfl, rfl, (by decide : 1 + 0 ≤ _), (by decide : 1 + 0 ≤ _)⟩)
        dsimp only [Pt.U, Pt.locs, Pt.cells, Pt.slots] at X28 l28 y28 z28 st28 hQ28
        subst l28 y28 z28
        obtain ⟨rfl, N28q, hh28⟩ := hQ28
        have N28 := Fr.app N20 N28q
        obtain ⟨cq29, kq29, q29a, q29b, q29c⟩ := isOf hZ hh28 (E_b1_21)
        obtain ⟨_, _, ⟨T29, L29, k29, n29⟩, -, X29, ⟨Lc29, hQ29, l29, y29, z29⟩, st29⟩ := X28.virtualBack hx (y := (⟨"com/example/tenet/tenet/model/Typing$NewRecord", "awaitsKey", "()Z"⟩ : MethodName)) (z := (⟨"com/example/tenet/tenet/model/Typing$NewRecord", "awaitsKey", "()Z"⟩ : MethodName)) hown (mvT hZ (hw _ (List.mem_of_getElem? (i := 9) rfl))) (mvT hZ (hw _ (List.mem_of_getElem? (i := 10) rfl))) (notFace_of_selects (args := #[]) (mvT hZ (hw _ (List.mem_of_getElem? (i := 12) rfl)))) (mvT hZ (hw _ (List.mem_of_getElem? (i := 12) rfl))) (mvT hZ (hw _ (List.mem_of_getElem? (i := 11) rfl))) (by decide) (backOf (W := 0) (rm3 l Z a0 hw [] b1 (1 : Int32) T20.heap n0 ZZ22 P20_0) hZ (hw _ (List.mem_of_getElem? (i := 13) rfl)) (hw _ (List.mem_of_getElem? (i := 2) rfl)) (by decide) (by decide)) q29a q29c (g := (mkF m 57 #[.val (.int p0), .val (.int (p0 &&& (3 : Int32))), .val (.ref b1), .val (.int ((f3_12 (0 : Int32)) &&& 1)), .val (.int ((f3_12 (0 : Int32)) &&& 1)), .val (.int ((f3_12 (1 : Int32)) &&& 1)), .unset] [(.ref b1)])) rfl (by rw [hml]; rfl) (Steps.refl _) (argsL := []) (rest := []) (lenOf pd_1 rfl) rfl (by show 2 * 0 + _ ≤ _; exact Nat.le_of_eq rfl) (hb hby at_57) (fun _ _ => ⟨rfl, hh28, (by decide : 1 + 0 ≤ _), (by decide : 1 + 0 ≤ _)⟩)
        dsimp only [Pt.U, Pt.locs, Pt.cells, Pt.slots] at X29 l29 y29 z29 st29 hQ29
        subst l29 y29 z29
        obtain ⟨rfl, N29q, hh29⟩ := hQ29
        have N29 := Fr.app N28 N29q
        have pre30 : ∀ t, Steps p.tables e below (T29.setTop (mkF m 74 #[.val (.int p0), .val (.int (p0 &&& (3 : Int32))), .val (.ref b1), .val (.int ((f3_12 (0 : Int32)) &&& 1)), .val (.int ((f3_12 (0 : Int32)) &&& 1)), .val (.int ((f3_12 (1 : Int32)) &&& 1)), .val (.int ((f3_12 (1 : Int32)) &&& 1))] [(.int (p0 &&& (3 : Int32))), (.int ((f3_12 (1 : Int32)) &&& 1))])) t → Steps p.tables e below (s₁.setTop (entryFrame m #[(.int p0)] maxLocals)) t := fun t k => pre26 t (by
          refine XS.icmpYes X20.here hx rfl (pc0 := 43) (pc' := 50) rfl (hb hby at_43) rfl (tlt hs27).1 (by decide) (by decide) ?_
          show Steps p.tables e below (T20.setTop (mkF m 50 #[.val (.int p0), .val (.int (p0 &&& (3 : Int32))), .val (.ref b1), .val (.int ((f3_12 (0 : Int32)) &&& 1)), .val (.int ((f3_12 (0 : Int32)) &&& 1)), .unset, .unset] [])) _
          refine XS.aloadN X20.here hx rfl (hb hby at_50) rfl rfl ?_
          show Steps p.tables e below (T20.setTop (mkF m 51 #[.val (.int p0), .val (.int (p0 &&& (3 : Int32))), .val (.ref b1), .val (.int ((f3_12 (0 : Int32)) &&& 1)), .val (.int ((f3_12 (0 : Int32)) &&& 1)), .unset, .unset] [(.ref b1)])) _
          refine st28.trans ?_
          show Steps p.tables e below (T28.setTop (mkF m 54 #[.val (.int p0), .val (.int (p0 &&& (3 : Int32))), .val (.ref b1), .val (.int ((f3_12 (0 : Int32)) &&& 1)), .val (.int ((f3_12 (0 : Int32)) &&& 1)), .unset, .unset] [(.int ((f3_12 (1 : Int32)) &&& 1))])) _
          refine XS.istore X28.here hx rfl (hb hby at_54) rfl (l' := #[.val (.int p0), .val (.int (p0 &&& (3 : Int32))), .val (.ref b1), .val (.int ((f3_12 (0 : Int32)) &&& 1)), .val (.int ((f3_12 (0 : Int32)) &&& 1)), .val (.int ((f3_12 (1 : Int32)) &&& 1)), .unset]) rfl ?_
          show Steps p.tables e below (T28.setTop (mkF m 56 #[.val (.int p0), .val (.int (p0 &&& (3 : Int32))), .val (.ref b1), .val (.int ((f3_12 (0 : Int32)) &&& 1)), .val (.int ((f3_12 (0 : Int32)) &&& 1)), .val (.int ((f3_12 (1 : Int32)) &&& 1)), .unset] [])) _
          refine XS.aloadN X28.here hx rfl (hb hby at_56) rfl rfl ?_
          show Steps p.tables e below (T28.setTop (mkF m 57 #[.val (.int p0), .val (.int (p0 &&& (3 : Int32))), .val (.ref b1), .val (.int ((f3_12 (0 : Int32)) &&& 1)), .val (.int ((f3_12 (0 : Int32)) &&& 1)), .val (.int ((f3_12 (1 : Int32)) &&& 1)), .unset] [(.ref b1)])) _
          refine st29.trans ?_
          show Steps p.tables e below (T29.setTop (mkF m 60 #[.val (.int p0), .val (.int (p0 &&& (3 : Int32))), .val (.ref b1), .val (.int ((f3_12 (0 : Int32)) &&& 1)), .val (.int ((f3_12 (0 : Int32)) &&& 1)), .val (.int ((f3_12 (1 : Int32)) &&& 1)), .unset] [(.int ((f3_12 (1 : Int32)) &&& 1))])) _
          refine XS.istore X29.here hx rfl (hb hby at_60) rfl (l' := #[.val (.int p0), .val (.int (p0 &&& (3 : Int32))), .val (.ref b1), .val (.int ((f3_12 (0 : Int32)) &&& 1)), .val (.int ((f3_12 (0 : Int32)) &&& 1)), .val (.int ((f3_12 (1 : Int32)) &&& 1)), .val (.int ((f3_12 (1 : Int32)) &&& 1))]) rfl ?_
          show Steps p.tables e below (T29.setTop (mkF m 62 #[.val (.int p0), .val (.int (p0 &&& (3 : Int32))), .val (.ref b1), .val (.int ((f3_12 (0 : Int32)) &&& 1)), .val (.int ((f3_12 (0 : Int32)) &&& 1)), .val (.int ((f3_12 (1 : Int32)) &&& 1)), .val (.int ((f3_12 (1 : Int32)) &&& 1))] [])) _
          refine XS.iloadN X29.here hx rfl (hb hby at_62) rfl ?_
          show Steps p.tables e below (T29.setTop (mkF m 63 #[.val (.int p0), .val (.int (p0 &&& (3 : Int32))), .val (.ref b1), .val (.int ((f3_12 (0 : Int32)) &&& 1)), .val (.int ((f3_12 (0 : Int32)) &&& 1)), .val (.int ((f3_12 (1 : Int32)) &&& 1)), .val (.int ((f3_12 (1 : Int32)) &&& 1))] [(.int ((f3_12 (0 : Int32)) &&& 1))])) _
          refine XS.ifNo X29.here hx rfl (hb hby at_63) rfl ((if0 _ _).trans (feq (show ¬ (((f3_12 (0 : Int32)) &&& 1) = (0 : Int32)) from by decide)).1) ?_
          show Steps p.tables e below (T29.setTop (mkF m 66 #[.val (.int p0), .val (.int (p0 &&& (3 : Int32))), .val (.ref b1), .val (.int ((f3_12 (0 : Int32)) &&& 1)), .val (.int ((f3_12 (0 : Int32)) &&& 1)), .val (.int ((f3_12 (1 : Int32)) &&& 1)), .val (.int ((f3_12 (1 : Int32)) &&& 1))] [])) _
          refine XS.iload X29.here hx rfl (hb hby at_66) rfl ?_
          show Steps p.tables e below (T29.setTop (mkF m 68 #[.val (.int p0), .val (.int (p0 &&& (3 : Int32))), .val (.ref b1), .val (.int ((f3_12 (0 : Int32)) &&& 1)), .val (.int ((f3_12 (0 : Int32)) &&& 1)), .val (.int ((f3_12 (1 : Int32)) &&& 1)), .val (.int ((f3_12 (1 : Int32)) &&& 1))] [(.int ((f3_12 (0 : Int32)) &&& 1))])) _
          refine XS.ifNo X29.here hx rfl (hb hby at_68) rfl ((if0 _ _).trans (feq (show ¬ (((f3_12 (0 : Int32)) &&& 1) = (0 : Int32)) from by decide)).1) ?_
          show Steps p.tables e below (T29.setTop (mkF m 71 #[.val (.int p0), .val (.int (p0 &&& (3 : Int32))), .val (.ref b1), .val (.int ((f3_12 (0 : Int32)) &&& 1)), .val (.int ((f3_12 (0 : Int32)) &&& 1)), .val (.int ((f3_12 (1 : Int32)) &&& 1)), .val (.int ((f3_12 (1 : Int32)) &&& 1))] [])) _
          refine XS.iload X29.here hx rfl (hb hby at_71) rfl ?_
          show Steps p.tables e below (T29.setTop (mkF m 73 #[.val (.int p0), .val (.int (p0 &&& (3 : Int32))), .val (.ref b1), .val (.int ((f3_12 (0 : Int32)) &&& 1)), .val (.int ((f3_12 (0 : Int32)) &&& 1)), .val (.int ((f3_12 (1 : Int32)) &&& 1)), .val (.int ((f3_12 (1 : Int32)) &&& 1))] [(.int ((f3_12 (1 : Int32)) &&& 1))])) _
          refine XS.iloadN X29.here hx rfl (hb hby at_73) rfl ?_
          show Steps p.tables e below (T29.setTop (mkF m 74 #[.val (.int p0), .val (.int (p0 &&& (3 : Int32))), .val (.ref b1), .val (.int ((f3_12 (0 : Int32)) &&& 1)), .val (.int ((f3_12 (0 : Int32)) &&& 1)), .val (.int ((f3_12 (1 : Int32)) &&& 1)), .val (.int ((f3_12 (1 : Int32)) &&& 1))] [(.int (p0 &&& (3 : Int32))), (.int ((f3_12 (1 : Int32)) &&& 1))])) _
          exact k)
        have pre32 : ∀ t, Steps p.tables e below (T29.setTop (mkF m 82 #[.val (.int p0), .val (.int (p0 &&& (3 : Int32))), .val (.ref b1), .val (.int ((f3_12 (0 : Int32)) &&& 1)), .val (.int ((f3_12 (0 : Int32)) &&& 1)), .val (.int ((f3_12 (1 : Int32)) &&& 1)), .val (.int ((f3_12 (1 : Int32)) &&& 1))] [(.int (f0_82 p0)), (.int ((f3_12 (1 : Int32)) &&& 1))])) t → Steps p.tables e below (s₁.setTop (entryFrame m #[(.int p0)] maxLocals)) t := fun t k => pre30 t (by
          by_cases hf31 : (p0 &&& (3 : Int32)) = (0 : Int32)
          · refine XS.ifNo X29.here hx rfl (hb hby at_74) rfl ((if0 _ _).trans (teq hf31).2) ?_
            show Steps p.tables e below (T29.setTop (mkF m 77 #[.val (.int p0), .val (.int (p0 &&& (3 : Int32))), .val (.ref b1), .val (.int ((f3_12 (0 : Int32)) &&& 1)), .val (.int ((f3_12 (0 : Int32)) &&& 1)), .val (.int ((f3_12 (1 : Int32)) &&& 1)), .val (.int ((f3_12 (1 : Int32)) &&& 1))] [(.int ((f3_12 (1 : Int32)) &&& 1))])) _
            refine XS.iconst X29.here hx rfl (hb hby at_77) ?_
            show Steps p.tables e below (T29.setTop (mkF m 78 #[.val (.int p0), .val (.int (p0 &&& (3 : Int32))), .val (.ref b1), .val (.int ((f3_12 (0 : Int32)) &&& 1)), .val (.int ((f3_12 (0 : Int32)) &&& 1)), .val (.int ((f3_12 (1 : Int32)) &&& 1)), .val (.int ((f3_12 (1 : Int32)) &&& 1))] [(.int (1 : Int32)), (.int ((f3_12 (1 : Int32)) &&& 1))])) _
            refine XS.goto X29.here hx rfl (pc0 := 78) (pc' := 82) rfl (hb hby at_78) (by decide) (by decide) ?_
            show Steps p.tables e below (T29.setTop (mkF m 82 #[.val (.int p0), .val (.int (p0 &&& (3 : Int32))), .val (.ref b1), .val (.int ((f3_12 (0 : Int32)) &&& 1)), .val (.int ((f3_12 (0 : Int32)) &&& 1)), .val (.int ((f3_12 (1 : Int32)) &&& 1)), .val (.int ((f3_12 (1 : Int32)) &&& 1))] [(.int (1 : Int32)), (.int ((f3_12 (1 : Int32)) &&& 1))])) _
            rw [show (f0_82 p0) = ((1 : Int32) : Int32) from by simp only [f0_82, if_pos hf31]] at k
            exact k
          · refine XS.ifYes X29.here hx rfl (pc0 := 74) (pc' := 81) rfl (hb hby at_74) rfl ((if0 _ _).trans (feq hf31).2) (by decide) (by decide) ?_
            show Steps p.tables e below (T29.setTop (mkF m 81 #[.val (.int p0), .val (.int (p0 &&& (3 : Int32))), .val (.ref b1), .val (.int ((f3_12 (0 : Int32)) &&& 1)), .val (.int ((f3_12 (0 : Int32)) &&& 1)), .val (.int ((f3_12 (1 : Int32)) &&& 1)), .val (.int ((f3_12 (1 : Int32)) &&& 1))] [(.int ((f3_12 (1 : Int32)) &&& 1))])) _
            refine XS.iconst X29.here hx rfl (hb hby at_81) ?_
            show Steps p.tables e below (T29.setTop (mkF m 82 #[.val (.int p0), .val (.int (p0 &&& (3 : Int32))), .val (.ref b1), .val (.int ((f3_12 (0 : Int32)) &&& 1)), .val (.int ((f3_12 (0 : Int32)) &&& 1)), .val (.int ((f3_12 (1 : Int32)) &&& 1)), .val (.int ((f3_12 (1 : Int32)) &&& 1))] [(.int (0 : Int32)), (.int ((f3_12 (1 : Int32)) &&& 1))])) _
            rw [show (f0_82 p0) = ((0 : Int32) : Int32) from by simp only [f0_82, if_neg hf31]] at k
            exact k)
        have pre33 : ∀ t, Steps p.tables e below (T29.setTop (mkF m 97 #[.val (.int p0), .val (.int (p0 &&& (3 : Int32))), .val (.ref b1), .val (.int ((f3_12 (0 : Int32)) &&& 1)), .val (.int ((f3_12 (0 : Int32)) &&& 1)), .val (.int ((f3_12 (1 : Int32)) &&& 1)), .val (.int ((f3_12 (1 : Int32)) &&& 1))] [(.int (1 : Int32))])) t → Steps p.tables e below (s₁.setTop (entryFrame m #[(.int p0)] maxLocals)) t := fun t k => pre32 t (by
          refine XS.icmpNo X29.here hx rfl (hb hby at_82) rfl (teq (show ((f3_12 (1 : Int32)) &&& 1) = (f0_82 p0) from own_82b _ hs9)).2 ?_
          show Steps p.tables e below (T29.setTop (mkF m 85 #[.val (.int p0), .val (.int (p0 &&& (3 : Int32))), .val (.ref b1), .val (.int ((f3_12 (0 : Int32)) &&& 1)), .val (.int ((f3_12 (0 : Int32)) &&& 1)), .val (.int ((f3_12 (1 : Int32)) &&& 1)), .val (.int ((f3_12 (1 : Int32)) &&& 1))] [])) _
          refine XS.iload X29.here hx rfl (hb hby at_85) rfl ?_
          show Steps p.tables e below (T29.setTop (mkF m 87 #[.val (.int p0), .val (.int (p0 &&& (3 : Int32))), .val (.ref b1), .val (.int ((f3_12 (0 : Int32)) &&& 1)), .val (.int ((f3_12 (0 : Int32)) &&& 1)), .val (.int ((f3_12 (1 : Int32)) &&& 1)), .val (.int ((f3_12 (1 : Int32)) &&& 1))] [(.int ((f3_12 (1 : Int32)) &&& 1))])) _
          refine XS.iload X29.here hx rfl (hb hby at_87) rfl ?_
          show Steps p.tables e below (T29.setTop (mkF m 89 #[.val (.int p0), .val (.int (p0 &&& (3 : Int32))), .val (.ref b1), .val (.int ((f3_12 (0 : Int32)) &&& 1)), .val (.int ((f3_12 (0 : Int32)) &&& 1)), .val (.int ((f3_12 (1 : Int32)) &&& 1)), .val (.int ((f3_12 (1 : Int32)) &&& 1))] [(.int ((f3_12 (1 : Int32)) &&& 1)), (.int ((f3_12 (1 : Int32)) &&& 1))])) _
          refine XS.icmpNo X29.here hx rfl (hb hby at_89) rfl (teq rfl).2 ?_
          show Steps p.tables e below (T29.setTop (mkF m 92 #[.val (.int p0), .val (.int (p0 &&& (3 : Int32))), .val (.ref b1), .val (.int ((f3_12 (0 : Int32)) &&& 1)), .val (.int ((f3_12 (0 : Int32)) &&& 1)), .val (.int ((f3_12 (1 : Int32)) &&& 1)), .val (.int ((f3_12 (1 : Int32)) &&& 1))] [])) _
          refine XS.iconst X29.here hx rfl (hb hby at_92) ?_
          show Steps p.tables e below (T29.setTop (mkF m 93 #[.val (.int p0), .val (.int (p0 &&& (3 : Int32))), .val (.ref b1), .val (.int ((f3_12 (0 : Int32)) &&& 1)), .val (.int ((f3_12 (0 : Int32)) &&& 1)), .val (.int ((f3_12 (1 : Int32)) &&& 1)), .val (.int ((f3_12 (1 : Int32)) &&& 1))] [(.int (1 : Int32))])) _
          refine XS.goto X29.here hx rfl (pc0 := 93) (pc' := 97) rfl (hb hby at_93) (by decide) (by decide) ?_
          show Steps p.tables e below (T29.setTop (mkF m 97 #[.val (.int p0), .val (.int (p0 &&& (3 : Int32))), .val (.ref b1), .val (.int ((f3_12 (0 : Int32)) &&& 1)), .val (.int ((f3_12 (0 : Int32)) &&& 1)), .val (.int ((f3_12 (1 : Int32)) &&& 1)), .val (.int ((f3_12 (1 : Int32)) &&& 1))] [(.int (1 : Int32))])) _
          exact k)
        obtain ⟨fs, hr, hrun, hended, hW, hsame⟩ := X29.leave (v := some (.int (1 : Int32))) (fun h => by rw [Bd.returns] at h; cases h)
        refine ⟨_, _, pre33 _ ?_, hrun, hended, _, _, rfl, ?_, ⟨_, rfl⟩, hW, hsame.mono (by decide) (by decide)⟩
        · exact retN X29 hx (t := .boolean) Bd.returns (by simp) (hb hby at_97) hr
        · show Q0 Z p0 h0 n0 _ T29.heap _
          rw [hh29]
          exact ⟨rfl, N29⟩
      · exact absurd (own_t23 hs25) hs27
    · obtain ⟨cq34, kq34, q34a, q34b, q34c⟩ := isOf hZ rfl (E_b1_21)
      obtain ⟨_, _, ⟨T34, L34, k34, n34⟩, -, X34, ⟨Lc34, hQ34, l34, y34, z34⟩, st34⟩ := X20.virtualBack hx (y := (⟨"com/example/tenet/tenet/model/Typing$NewRecord", "markKeyed", "()V"⟩ : MethodName)) (z := (⟨"com/example/tenet/tenet/model/Typing$NewRecord", "markKeyed", "()V"⟩ : MethodName)) hown (mvT hZ (hw _ (List.mem_of_getElem? (i := 16) rfl))) (mvT hZ (hw _ (List.mem_of_getElem? (i := 17) rfl))) (notFace_of_selects (args := #[]) (mvT hZ (hw _ (List.mem_of_getElem? (i := 19) rfl)))) (mvT hZ (hw _ (List.mem_of_getElem? (i := 19) rfl))) (mvT hZ (hw _ (List.mem_of_getElem? (i := 18) rfl))) (by decide) (backOf (W := 0) (rm4 l Z a0 hw [] b1 (1 : Int32) T20.heap n0 ZZ22 P20_0 E_b1_21 g_b1) hZ (hw _ (List.mem_of_getElem? (i := 20) rfl)) (hw _ (List.mem_of_getElem? (i := 2) rfl)) (by decide) (by decide)) q34a q34c (g := (mkF m 38 #[.val (.int p0), .val (.int (p0 &&& (3 : Int32))), .val (.ref b1), .val (.int ((f3_12 (0 : Int32)) &&& 1)), .val (.int ((f3_12 (0 : Int32)) &&& 1)), .unset, .unset] [(.ref b1)])) rfl (by rw [hml]; rfl) (Steps.refl _) (argsL := []) (rest := []) (lenOf pd_0 rfl) rfl (by show 2 * 0 + _ ≤ _; exact Nat.le_of_eq rfl) (hb hby at_38) (fun _ _ => ⟨rfl, rfl, (by decide : 1 + 0 ≤ _), (by decide : 1 + 0 ≤ _)⟩)
      dsimp only [Pt.U, Pt.locs, Pt.cells, Pt.slots] at X34 l34 y34 z34 st34 hQ34
      subst l34 y34 z34
      obtain ⟨rfl, N34q, Kc34, P34_0⟩ := hQ34
      have N34 := Fr.app N20 N34q
      have E_b1_35 : Exa Z T34.heap b1 "com/example/tenet/tenet/model/Typing$NewRecord" := (E_b1_21).keep Kc34
      have SZ36 : h0.size ≤ T34.heap.size := Nat.le_trans SZ22 Kc34.1
      have ZZ36 : n0 ≤ T34.heap.size := Nat.le_trans Z0 SZ36
      have K37 : Keep h0 T34.heap [] := (K23).trans Kc34 (allS (Or.inr sz_b1) all0)
      have pre38 : ∀ t, Steps p.tables e below (T34.setTop (mkF m 43 #[.val (.int p0), .val (.int (p0 &&& (3 : Int32))), .val (.ref b1), .val (.int ((f3_12 (0 : Int32)) &&& 1)), .val (.int ((f3_12 (0 : Int32)) &&& 1)), .unset, .unset] [(.int (3 : Int32)), (.int (p0 &&& (3 : Int32)))])) t → Steps p.tables e below (s₁.setTop (entryFrame m #[(.int p0)] maxLocals)) t := fun t k => pre24 t (by
        refine XS.icmpNo X20.here hx rfl (hb hby at_34) rfl (flt hs25).1 ?_
        show Steps p.tables e below (T20.setTop (mkF m 37 #[.val (.int p0), .val (.int (p0 &&& (3 : Int32))), .val (.ref b1), .val (.int ((f3_12 (0 : Int32)) &&& 1)), .val (.int ((f3_12 (0 : Int32)) &&& 1)), .unset, .unset] [])) _
        refine XS.aloadN X20.here hx rfl (hb hby at_37) rfl rfl ?_
        show Steps p.tables e below (T20.setTop (mkF m 38 #[.val (.int p0), .val (.int (p0 &&& (3 : Int32))), .val (.ref b1), .val (.int ((f3_12 (0 : Int32)) &&& 1)), .val (.int ((f3_12 (0 : Int32)) &&& 1)), .unset, .unset] [(.ref b1)])) _
        refine st34.trans ?_
        show Steps p.tables e below (T34.setTop (mkF m 41 #[.val (.int p0), .val (.int (p0 &&& (3 : Int32))), .val (.ref b1), .val (.int ((f3_12 (0 : Int32)) &&& 1)), .val (.int ((f3_12 (0 : Int32)) &&& 1)), .unset, .unset] [])) _
        refine XS.iloadN X34.here hx rfl (hb hby at_41) rfl ?_
        show Steps p.tables e below (T34.setTop (mkF m 42 #[.val (.int p0), .val (.int (p0 &&& (3 : Int32))), .val (.ref b1), .val (.int ((f3_12 (0 : Int32)) &&& 1)), .val (.int ((f3_12 (0 : Int32)) &&& 1)), .unset, .unset] [(.int (p0 &&& (3 : Int32)))])) _
        refine XS.iconst X34.here hx rfl (hb hby at_42) ?_
        show Steps p.tables e below (T34.setTop (mkF m 43 #[.val (.int p0), .val (.int (p0 &&& (3 : Int32))), .val (.ref b1), .val (.int ((f3_12 (0 : Int32)) &&& 1)), .val (.int ((f3_12 (0 : Int32)) &&& 1)), .unset, .unset] [(.int (3 : Int32)), (.int (p0 &&& (3 : Int32)))])) _
        exact k)
      by_cases hs39 : (p0 &&& (3 : Int32)) < (3 : Int32)
      · obtain ⟨cq40, kq40, q40a, q40b, q40c⟩ := isOf hZ rfl (E_b1_35)
        obtain ⟨_, _, ⟨T40, L40, k40, n40⟩, -, X40, ⟨Lc40, hQ40, l40, y40, z40⟩, st40⟩ := X34.virtualBack hx (y := (⟨"com/example/tenet/tenet/model/Typing$NewRecord", "awaitsKey", "()Z"⟩ : MethodName)) (z := (⟨"com/example/tenet/tenet/model/Typing$NewRecord", "awaitsKey", "()Z"⟩ : MethodName)) hown (mvT hZ (hw _ (List.mem_of_getElem? (i := 9) rfl))) (mvT hZ (hw _ (List.mem_of_getElem? (i := 10) rfl))) (notFace_of_selects (args := #[]) (mvT hZ (hw _ (List.mem_of_getElem? (i := 12) rfl)))) (mvT hZ (hw _ (List.mem_of_getElem? (i := 12) rfl))) (mvT hZ (hw _ (List.mem_of_getElem? (i := 11) rfl))) (by decide) (backOf (W := 0) (rm3 l Z a0 hw [] b1 (1 : Int32) T34.heap n0 ZZ36 P34_0) hZ (hw _ (List.mem_of_getElem? (i := 13) rfl)) (hw _ (List.mem_of_getElem? (i := 2) rfl)) (by decide) (by decide)) q40a q40c (g := (mkF m 51 #[.val (.int p0), .val (.int (p0 &&& (3 : Int32))), .val (.ref b1), .val (.int ((f3_12 (0 : Int32)) &&& 1)), .val (.int ((f3_12 (0 : Int32)) &&& 1)), .unset, .unset] [(.ref b1)])) rfl (by rw [hml]; rfl) (Steps.refl _) (argsL := []) (rest := []) (lenOf pd_1 rfl) rfl (by show 2 * 0 + _ ≤ _; exact Nat.le_of_eq rfl) (hb hby at_51) (fun _ _ => ⟨rfl, rfl, (by decide : 1 + 0 ≤ _), (by decide : 1 + 0 ≤ _)⟩)
        dsimp only [Pt.U, Pt.locs, Pt.cells, Pt.slots] at X40 l40 y40 z40 st40 hQ40
        subst l40 y40 z40
        obtain ⟨rfl, N40q, hh40⟩ := hQ40
        have N40 := Fr.app N34 N40q
        obtain ⟨cq41, kq41, q41a, q41b, q41c⟩ := isOf hZ hh40 (E_b1_35)
        obtain ⟨_, _, ⟨T41, L41, k41, n41⟩, -, X41, ⟨Lc41, hQ41, l41, y41, z41⟩, st41⟩ := X40.virtualBack hx (y := (⟨"com/example/tenet/tenet/model/Typing$NewRecord", "awaitsKey", "()Z"⟩ : MethodName)) (z := (⟨"com/example/tenet/tenet/model/Typing$NewRecord", "awaitsKey", "()Z"⟩ : MethodName)) hown (mvT hZ (hw _ (List.mem_of_getElem? (i := 9) rfl))) (mvT hZ (hw _ (List.mem_of_getElem? (i := 10) rfl))) (notFace_of_selects (args := #[]) (mvT hZ (hw _ (List.mem_of_getElem? (i := 12) rfl)))) (mvT hZ (hw _ (List.mem_of_getElem? (i := 12) rfl))) (mvT hZ (hw _ (List.mem_of_getElem? (i := 11) rfl))) (by decide) (backOf (W := 0) (rm3 l Z a0 hw [] b1 (1 : Int32) T34.heap n0 ZZ36 P34_0) hZ (hw _ (List.mem_of_getElem? (i := 13) rfl)) (hw _ (List.mem_of_getElem? (i := 2) rfl)) (by decide) (by decide)) q41a q41c (g := (mkF m 57 #[.val (.int p0), .val (.int (p0 &&& (3 : Int32))), .val (.ref b1), .val (.int ((f3_12 (0 : Int32)) &&& 1)), .val (.int ((f3_12 (0 : Int32)) &&& 1)), .val (.int ((f3_12 (1 : Int32)) &&& 1)), .unset] [(.ref b1)])) rfl (by rw [hml]; rfl) (Steps.refl _) (argsL := []) (rest := []) (lenOf pd_1 rfl) rfl (by show 2 * 0 + _ ≤ _; exact Nat.le_of_eq rfl) (hb hby at_57) (fun _ _ => ⟨rfl, hh40, (by decide : 1 + 0 ≤ _), (by decide : 1 + 0 ≤ _)⟩)
        dsimp only [Pt.U, Pt.locs, Pt.cells, Pt.slots] at X41 l41 y41 z41 st41 hQ41
        subst l41 y41 z41
        obtain ⟨rfl, N41q, hh41⟩ := hQ41
        have N41 := Fr.app N40 N41q
        have pre42 : ∀ t, Steps p.tables e below (T41.setTop (mkF m 74 #[.val (.int p0), .val (.int (p0 &&& (3 : Int32))), .val (.ref b1), .val (.int ((f3_12 (0 : Int32)) &&& 1)), .val (.int ((f3_12 (0 : Int32)) &&& 1)), .val (.int ((f3_12 (1 : Int32)) &&& 1)), .val (.int ((f3_12 (1 : Int32)) &&& 1))] [(.int (p0 &&& (3 : Int32))), (.int ((f3_12 (1 : Int32)) &&& 1))])) t → Steps p.tables e below (s₁.setTop (entryFrame m #[(.int p0)] maxLocals)) t := fun t k => pre38 t (by
          refine XS.icmpYes X34.here hx rfl (pc0 := 43) (pc' := 50) rfl (hb hby at_43) rfl (tlt hs39).1 (by decide) (by decide) ?_
          show Steps p.tables e below (T34.setTop (mkF m 50 #[.val (.int p0), .val (.int (p0 &&& (3 : Int32))), .val (.ref b1), .val (.int ((f3_12 (0 : Int32)) &&& 1)), .val (.int ((f3_12 (0 : Int32)) &&& 1)), .unset, .unset] [])) _
          refine XS.aloadN X34.here hx rfl (hb hby at_50) rfl rfl ?_
          show Steps p.tables e below (T34.setTop (mkF m 51 #[.val (.int p0), .val (.int (p0 &&& (3 : Int32))), .val (.ref b1), .val (.int ((f3_12 (0 : Int32)) &&& 1)), .val (.int ((f3_12 (0 : Int32)) &&& 1)), .unset, .unset] [(.ref b1)])) _
          refine st40.trans ?_
          show Steps p.tables e below (T40.setTop (mkF m 54 #[.val (.int p0), .val (.int (p0 &&& (3 : Int32))), .val (.ref b1), .val (.int ((f3_12 (0 : Int32)) &&& 1)), .val (.int ((f3_12 (0 : Int32)) &&& 1)), .unset, .unset] [(.int ((f3_12 (1 : Int32)) &&& 1))])) _
          refine XS.istore X40.here hx rfl (hb hby at_54) rfl (l' := #[.val (.int p0), .val (.int (p0 &&& (3 : Int32))), .val (.ref b1), .val (.int ((f3_12 (0 : Int32)) &&& 1)), .val (.int ((f3_12 (0 : Int32)) &&& 1)), .val (.int ((f3_12 (1 : Int32)) &&& 1)), .unset]) rfl ?_
          show Steps p.tables e below (T40.setTop (mkF m 56 #[.val (.int p0), .val (.int (p0 &&& (3 : Int32))), .val (.ref b1), .val (.int ((f3_12 (0 : Int32)) &&& 1)), .val (.int ((f3_12 (0 : Int32)) &&& 1)), .val (.int ((f3_12 (1 : Int32)) &&& 1)), .unset] [])) _
          refine XS.aloadN X40.here hx rfl (hb hby at_56) rfl rfl ?_
          show Steps p.tables e below (T40.setTop (mkF m 57 #[.val (.int p0), .val (.int (p0 &&& (3 : Int32))), .val (.ref b1), .val (.int ((f3_12 (0 : Int32)) &&& 1)), .val (.int ((f3_12 (0 : Int32)) &&& 1)), .val (.int ((f3_12 (1 : Int32)) &&& 1)), .unset] [(.ref b1)])) _
          refine st41.trans ?_
          show Steps p.tables e below (T41.setTop (mkF m 60 #[.val (.int p0), .val (.int (p0 &&& (3 : Int32))), .val (.ref b1), .val (.int ((f3_12 (0 : Int32)) &&& 1)), .val (.int ((f3_12 (0 : Int32)) &&& 1)), .val (.int ((f3_12 (1 : Int32)) &&& 1)), .unset] [(.int ((f3_12 (1 : Int32)) &&& 1))])) _
          refine XS.istore X41.here hx rfl (hb hby at_60) rfl (l' := #[.val (.int p0), .val (.int (p0 &&& (3 : Int32))), .val (.ref b1), .val (.int ((f3_12 (0 : Int32)) &&& 1)), .val (.int ((f3_12 (0 : Int32)) &&& 1)), .val (.int ((f3_12 (1 : Int32)) &&& 1)), .val (.int ((f3_12 (1 : Int32)) &&& 1))]) rfl ?_
          show Steps p.tables e below (T41.setTop (mkF m 62 #[.val (.int p0), .val (.int (p0 &&& (3 : Int32))), .val (.ref b1), .val (.int ((f3_12 (0 : Int32)) &&& 1)), .val (.int ((f3_12 (0 : Int32)) &&& 1)), .val (.int ((f3_12 (1 : Int32)) &&& 1)), .val (.int ((f3_12 (1 : Int32)) &&& 1))] [])) _
          refine XS.iloadN X41.here hx rfl (hb hby at_62) rfl ?_
          show Steps p.tables e below (T41.setTop (mkF m 63 #[.val (.int p0), .val (.int (p0 &&& (3 : Int32))), .val (.ref b1), .val (.int ((f3_12 (0 : Int32)) &&& 1)), .val (.int ((f3_12 (0 : Int32)) &&& 1)), .val (.int ((f3_12 (1 : Int32)) &&& 1)), .val (.int ((f3_12 (1 : Int32)) &&& 1))] [(.int ((f3_12 (0 : Int32)) &&& 1))])) _
          refine XS.ifNo X41.here hx rfl (hb hby at_63) rfl ((if0 _ _).trans (feq (show ¬ (((f3_12 (0 : Int32)) &&& 1) = (0 : Int32)) from by decide)).1) ?_
          show Steps p.tables e below (T41.setTop (mkF m 66 #[.val (.int p0), .val (.int (p0 &&& (3 : Int32))), .val (.ref b1), .val (.int ((f3_12 (0 : Int32)) &&& 1)), .val (.int ((f3_12 (0 : Int32)) &&& 1)), .val (.int ((f3_12 (1 : Int32)) &&& 1)), .val (.int ((f3_12 (1 : Int32)) &&& 1))] [])) _
          refine XS.iload X41.here hx rfl (hb hby at_66) rfl ?_
          show Steps p.tables e below (T41.setTop (mkF m 68 #[.val (.int p0), .val (.int (p0 &&& (3 : Int32))), .val (.ref b1), .val (.int ((f3_12 (0 : Int32)) &&& 1)), .val (.int ((f3_12 (0 : Int32)) &&& 1)), .val (.int ((f3_12 (1 : Int32)) &&& 1)), .val (.int ((f3_12 (1 : Int32)) &&& 1))] [(.int ((f3_12 (0 : Int32)) &&& 1))])) _
          refine XS.ifNo X41.here hx rfl (hb hby at_68) rfl ((if0 _ _).trans (feq (show ¬ (((f3_12 (0 : Int32)) &&& 1) = (0 : Int32)) from by decide)).1) ?_
          show Steps p.tables e below (T41.setTop (mkF m 71 #[.val (.int p0), .val (.int (p0 &&& (3 : Int32))), .val (.ref b1), .val (.int ((f3_12 (0 : Int32)) &&& 1)), .val (.int ((f3_12 (0 : Int32)) &&& 1)), .val (.int ((f3_12 (1 : Int32)) &&& 1)), .val (.int ((f3_12 (1 : Int32)) &&& 1))] [])) _
          refine XS.iload X41.here hx rfl (hb hby at_71) rfl ?_
          show Steps p.tables e below (T41.setTop (mkF m 73 #[.val (.int p0), .val (.int (p0 &&& (3 : Int32))), .val (.ref b1), .val (.int ((f3_12 (0 : Int32)) &&& 1)), .val (.int ((f3_12 (0 : Int32)) &&& 1)), .val (.int ((f3_12 (1 : Int32)) &&& 1)), .val (.int ((f3_12 (1 : Int32)) &&& 1))] [(.int ((f3_12 (1 : Int32)) &&& 1))])) _
          refine XS.iloadN X41.here hx rfl (hb hby at_73) rfl ?_
          show Steps p.tables e below (T41.setTop (mkF m 74 #[.val (.int p0), .val (.int (p0 &&& (3 : Int32))), .val (.ref b1), .val (.int ((f3_12 (0 : Int32)) &&& 1)), .val (.int ((f3_12 (0 : Int32)) &&& 1)), .val (.int ((f3_12 (1 : Int32)) &&& 1)), .val (.int ((f3_12 (1 : Int32)) &&& 1))] [(.int (p0 &&& (3 : Int32))), (.int ((f3_12 (1 : Int32)) &&& 1))])) _
          exact k)
        have pre44 : ∀ t, Steps p.tables e below (T41.setTop (mkF m 82 #[.val (.int p0), .val (.int (p0 &&& (3 : Int32))), .val (.ref b1), .val (.int ((f3_12 (0 : Int32)) &&& 1)), .val (.int ((f3_12 (0 : Int32)) &&& 1)), .val (.int ((f3_12 (1 : Int32)) &&& 1)), .val (.int ((f3_12 (1 : Int32)) &&& 1))] [(.int (f0_82 p0)), (.int ((f3_12 (1 : Int32)) &&& 1))])) t → Steps p.tables e below (s₁.setTop (entryFrame m #[(.int p0)] maxLocals)) t := fun t k => pre42 t (by
          by_cases hf43 : (p0 &&& (3 : Int32)) = (0 : Int32)
          · refine XS.ifNo X41.here hx rfl (hb hby at_74) rfl ((if0 _ _).trans (teq hf43).2) ?_
            show Steps p.tables e below (T41.setTop (mkF m 77 #[.val (.int p0), .val (.int (p0 &&& (3 : Int32))), .val (.ref b1), .val (.int ((f3_12 (0 : Int32)) &&& 1)), .val (.int ((f3_12 (0 : Int32)) &&& 1)), .val (.int ((f3_12 (1 : Int32)) &&& 1)), .val (.int ((f3_12 (1 : Int32)) &&& 1))] [(.int ((f3_12 (1 : Int32)) &&& 1))])) _
            refine XS.iconst X41.here hx rfl (hb hby at_77) ?_
            show Steps p.tables e below (T41.setTop (mkF m 78 #[.val (.int p0), .val (.int (p0 &&& (3 : Int32))), .val (.ref b1), .val (.int ((f3_12 (0 : Int32)) &&& 1)), .val (.int ((f3_12 (0 : Int32)) &&& 1)), .val (.int ((f3_12 (1 : Int32)) &&& 1)), .val (.int ((f3_12 (1 : Int32)) &&& 1))] [(.int (1 : Int32)), (.int ((f3_12 (1 : Int32)) &&& 1))])) _
            refine XS.goto X41.here hx rfl (pc0 := 78) (pc' := 82) rfl (hb hby at_78) (by decide) (by decide) ?_
            show Steps p.tables e below (T41.setTop (mkF m 82 #[.val (.int p0), .val (.int (p0 &&& (3 : Int32))), .val (.ref b1), .val (.int ((f3_12 (0 : Int32)) &&& 1)), .val (.int ((f3_12 (0 : Int32)) &&& 1)), .val (.int ((f3_12 (1 : Int32)) &&& 1)), .val (.int ((f3_12 (1 : Int32)) &&& 1))] [(.int (1 : Int32)), (.int ((f3_12 (1 : Int32)) &&& 1))])) _
            rw [show (f0_82 p0) = ((1 : Int32) : Int32) from by simp only [f0_82, if_pos hf43]] at k
            exact k
          · refine XS.ifYes X41.here hx rfl (pc0 := 74) (pc' := 81) rfl (hb hby at_74) rfl ((if0 _ _).trans (feq hf43).2) (by decide) (by decide) ?_
            show Steps p.tables e below (T41.setTop (mkF m 81 #[.val (.int p0), .val (.int (p0 &&& (3 : Int32))), .val (.ref b1), .val (.int ((f3_12 (0 : Int32)) &&& 1)), .val (.int ((f3_12 (0 : Int32)) &&& 1)), .val (.int ((f3_12 (1 : Int32)) &&& 1)), .val (.int ((f3_12 (1 : Int32)) &&& 1))] [(.int ((f3_12 (1 : Int32)) &&& 1))])) _
            refine XS.iconst X41.here hx rfl (hb hby at_81) ?_
            show Steps p.tables e below (T41.setTop (mkF m 82 #[.val (.int p0), .val (.int (p0 &&& (3 : Int32))), .val (.ref b1), .val (.int ((f3_12 (0 : Int32)) &&& 1)), .val (.int ((f3_12 (0 : Int32)) &&& 1)), .val (.int ((f3_12 (1 : Int32)) &&& 1)), .val (.int ((f3_12 (1 : Int32)) &&& 1))] [(.int (0 : Int32)), (.int ((f3_12 (1 : Int32)) &&& 1))])) _
            rw [show (f0_82 p0) = ((0 : Int32) : Int32) from by simp only [f0_82, if_neg hf43]] at k
            exact k)
        have pre45 : ∀ t, Steps p.tables e below (T41.setTop (mkF m 97 #[.val (.int p0), .val (.int (p0 &&& (3 : Int32))), .val (.ref b1), .val (.int ((f3_12 (0 : Int32)) &&& 1)), .val (.int ((f3_12 (0 : Int32)) &&& 1)), .val (.int ((f3_12 (1 : Int32)) &&& 1)), .val (.int ((f3_12 (1 : Int32)) &&& 1))] [(.int (1 : Int32))])) t → Steps p.tables e below (s₁.setTop (entryFrame m #[(.int p0)] maxLocals)) t := fun t k => pre44 t (by
          refine XS.icmpNo X41.here hx rfl (hb hby at_82) rfl (teq (show ((f3_12 (1 : Int32)) &&& 1) = (f0_82 p0) from own_82b _ hs9)).2 ?_
          show Steps p.tables e below (T41.setTop (mkF m 85 #[.val (.int p0), .val (.int (p0 &&& (3 : Int32))), .val (.ref b1), .val (.int ((f3_12 (0 : Int32)) &&& 1)), .val (.int ((f3_12 (0 : Int32)) &&& 1)), .val (.int ((f3_12 (1 : Int32)) &&& 1)), .val (.int ((f3_12 (1 : Int32)) &&& 1))] [])) _
          refine XS.iload X41.here hx rfl (hb hby at_85) rfl ?_
          show Steps p.tables e below (T41.setTop (mkF m 87 #[.val (.int p0), .val (.int (p0 &&& (3 : Int32))), .val (.ref b1), .val (.int ((f3_12 (0 : Int32)) &&& 1)), .val (.int ((f3_12 (0 : Int32)) &&& 1)), .val (.int ((f3_12 (1 : Int32)) &&& 1)), .val (.int ((f3_12 (1 : Int32)) &&& 1))] [(.int ((f3_12 (1 : Int32)) &&& 1))])) _
          refine XS.iload X41.here hx rfl (hb hby at_87) rfl ?_
          show Steps p.tables e below (T41.setTop (mkF m 89 #[.val (.int p0), .val (.int (p0 &&& (3 : Int32))), .val (.ref b1), .val (.int ((f3_12 (0 : Int32)) &&& 1)), .val (.int ((f3_12 (0 : Int32)) &&& 1)), .val (.int ((f3_12 (1 : Int32)) &&& 1)), .val (.int ((f3_12 (1 : Int32)) &&& 1))] [(.int ((f3_12 (1 : Int32)) &&& 1)), (.int ((f3_12 (1 : Int32)) &&& 1))])) _
          refine XS.icmpNo X41.here hx rfl (hb hby at_89) rfl (teq rfl).2 ?_
          show Steps p.tables e below (T41.setTop (mkF m 92 #[.val (.int p0), .val (.int (p0 &&& (3 : Int32))), .val (.ref b1), .val (.int ((f3_12 (0 : Int32)) &&& 1)), .val (.int ((f3_12 (0 : Int32)) &&& 1)), .val (.int ((f3_12 (1 : Int32)) &&& 1)), .val (.int ((f3_12 (1 : Int32)) &&& 1))] [])) _
          refine XS.iconst X41.here hx rfl (hb hby at_92) ?_
          show Steps p.tables e below (T41.setTop (mkF m 93 #[.val (.int p0), .val (.int (p0 &&& (3 : Int32))), .val (.ref b1), .val (.int ((f3_12 (0 : Int32)) &&& 1)), .val (.int ((f3_12 (0 : Int32)) &&& 1)), .val (.int ((f3_12 (1 : Int32)) &&& 1)), .val (.int ((f3_12 (1 : Int32)) &&& 1))] [(.int (1 : Int32))])) _
          refine XS.goto X41.here hx rfl (pc0 := 93) (pc' := 97) rfl (hb hby at_93) (by decide) (by decide) ?_
          show Steps p.tables e below (T41.setTop (mkF m 97 #[.val (.int p0), .val (.int (p0 &&& (3 : Int32))), .val (.ref b1), .val (.int ((f3_12 (0 : Int32)) &&& 1)), .val (.int ((f3_12 (0 : Int32)) &&& 1)), .val (.int ((f3_12 (1 : Int32)) &&& 1)), .val (.int ((f3_12 (1 : Int32)) &&& 1))] [(.int (1 : Int32))])) _
          exact k)
        obtain ⟨fs, hr, hrun, hended, hW, hsame⟩ := X41.leave (v := some (.int (1 : Int32))) (fun h => by rw [Bd.returns] at h; cases h)
        refine ⟨_, _, pre45 _ ?_, hrun, hended, _, _, rfl, ?_, ⟨_, rfl⟩, hW, hsame.mono (by decide) (by decide)⟩
        · exact retN X41 hx (t := .boolean) Bd.returns (by simp) (hb hby at_97) hr
        · show Q0 Z p0 h0 n0 _ T41.heap _
          rw [hh41]
          exact ⟨rfl, N41⟩
      · obtain ⟨cq46, kq46, q46a, q46b, q46c⟩ := isOf hZ rfl (E_b1_35)
        obtain ⟨_, _, ⟨T46, L46, k46, n46⟩, -, X46, ⟨Lc46, hQ46, l46, y46, z46⟩, st46⟩ := X34.virtualBack hx (y := (⟨"com/example/tenet/tenet/model/Typing$NewRecord", "markKeyed", "()V"⟩ : MethodName)) (z := (⟨"com/example/tenet/tenet/model/Typing$NewRecord", "markKeyed", "()V"⟩ : MethodName)) hown (mvT hZ (hw _ (List.mem_of_getElem? (i := 16) rfl))) (mvT hZ (hw _ (List.mem_of_getElem? (i := 17) rfl))) (notFace_of_selects (args := #[]) (mvT hZ (hw _ (List.mem_of_getElem? (i := 19) rfl)))) (mvT hZ (hw _ (List.mem_of_getElem? (i := 19) rfl))) (mvT hZ (hw _ (List.mem_of_getElem? (i := 18) rfl))) (by decide) (backOf (W := 0) (rm4 l Z a0 hw [] b1 (1 : Int32) T34.heap n0 ZZ36 P34_0 E_b1_35 g_b1) hZ (hw _ (List.mem_of_getElem? (i := 20) rfl)) (hw _ (List.mem_of_getElem? (i := 2) rfl)) (by decide) (by decide)) q46a q46c (g := (mkF m 47 #[.val (.int p0), .val (.int (p0 &&& (3 : Int32))), .val (.ref b1), .val (.int ((f3_12 (0 : Int32)) &&& 1)), .val (.int ((f3_12 (0 : Int32)) &&& 1)), .unset, .unset] [(.ref b1)])) rfl (by rw [hml]; rfl) (Steps.refl _) (argsL := []) (rest := []) (lenOf pd_0 rfl) rfl (by show 2 * 0 + _ ≤ _; exact Nat.le_of_eq rfl) (hb hby at_47) (fun _ _ => ⟨rfl, rfl, (by decide : 1 + 0 ≤ _), (by decide : 1 + 0 ≤ _)⟩)
        dsimp only [Pt.U, Pt.locs, Pt.cells, Pt.slots] at X46 l46 y46 z46 st46 hQ46
        subst l46 y46 z46
        obtain ⟨rfl, N46q, Kc46, P46_0⟩ := hQ46
        have N46 := Fr.app N34 N46q
        have E_b1_47 : Exa Z T46.heap b1 "com/example/tenet/tenet/model/Typing$NewRecord" := (E_b1_35).keep Kc46
        have SZ48 : h0.size ≤ T46.heap.size := Nat.le_trans SZ36 Kc46.1
        have ZZ48 : n0 ≤ T46.heap.size := Nat.le_trans Z0 SZ48
        have K49 : Keep h0 T46.heap [] := (K37).trans Kc46 (allS (Or.inr sz_b1) all0)
        obtain ⟨cq50, kq50, q50a, q50b, q50c⟩ := isOf hZ rfl (E_b1_47)
        obtain ⟨_, _, ⟨T50, L50, k50, n50⟩, -, X50, ⟨Lc50, hQ50, l50, y50, z50⟩, st50⟩ := X46.virtualBack hx (y := (⟨"com/example/tenet/tenet/model/Typing$NewRecord", "awaitsKey", "()Z"⟩ : MethodName)) (z := (⟨"com/example/tenet/tenet/model/Typing$NewRecord", "awaitsKey", "()Z"⟩ : MethodName)) hown (mvT hZ (hw _ (List.mem_of_getElem? (i := 9) rfl))) (mvT hZ (hw _ (List.mem_of_getElem? (i := 10) rfl))) (notFace_of_selects (args := #[]) (mvT hZ (hw _ (List.mem_of_getElem? (i := 12) rfl)))) (mvT hZ (hw _ (List.mem_of_getElem? (i := 12) rfl))) (mvT hZ (hw _ (List.mem_of_getElem? (i := 11) rfl))) (by decide) (backOf (W := 0) (rm3 l Z a0 hw [] b1 (1 : Int32) T46.heap n0 ZZ48 P46_0) hZ (hw _ (List.mem_of_getElem? (i := 13) rfl)) (hw _ (List.mem_of_getElem? (i := 2) rfl)) (by decide) (by decide)) q50a q50c (g := (mkF m 51 #[.val (.int p0), .val (.int (p0 &&& (3 : Int32))), .val (.ref b1), .val (.int ((f3_12 (0 : Int32)) &&& 1)), .val (.int ((f3_12 (0 : Int32)) &&& 1)), .unset, .unset] [(.ref b1)])) rfl (by rw [hml]; rfl) (Steps.refl _) (argsL := []) (rest := []) (lenOf pd_1 rfl) rfl (by show 2 * 0 + _ ≤ _; exact Nat.le_of_eq rfl) (hb hby at_51) (fun _ _ => ⟨rfl, rfl, (by decide : 1 + 0 ≤ _), (by decide : 1 + 0 ≤ _)⟩)
        dsimp only [Pt.U, Pt.locs, Pt.cells, Pt.slots] at X50 l50 y50 z50 st50 hQ50
        subst l50 y50 z50
        obtain ⟨rfl, N50q, hh50⟩ := hQ50
        have N50 := Fr.app N46 N50q
        obtain ⟨cq51, kq51, q51a, q51b, q51c⟩ := isOf hZ hh50 (E_b1_47)
        obtain ⟨_, _, ⟨T51, L51, k51, n51⟩, -, X51, ⟨Lc51, hQ51, l51, y51, z51⟩, st51⟩ := X50.virtualBack hx (y := (⟨"com/example/tenet/tenet/model/Typing$NewRecord", "awaitsKey", "()Z"⟩ : MethodName)) (z := (⟨"com/example/tenet/tenet/model/Typing$NewRecord", "awaitsKey", "()Z"⟩ : MethodName)) hown (mvT hZ (hw _ (List.mem_of_getElem? (i := 9) rfl))) (mvT hZ (hw _ (List.mem_of_getElem? (i := 10) rfl))) (notFace_of_selects (args := #[]) (mvT hZ (hw _ (List.mem_of_getElem? (i := 12) rfl)))) (mvT hZ (hw _ (List.mem_of_getElem? (i := 12) rfl))) (mvT hZ (hw _ (List.mem_of_getElem? (i := 11) rfl))) (by decide) (backOf (W := 0) (rm3 l Z a0 hw [] b1 (1 : Int32) T46.heap n0 ZZ48 P46_0) hZ (hw _ (List.mem_of_getElem? (i := 13) rfl)) (hw _ (List.mem_of_getElem? (i := 2) rfl)) (by decide) (by decide)) q51a q51c (g := (mkF m 57 #[.val (.int p0), .val (.int (p0 &&& (3 : Int32))), .val (.ref b1), .val (.int ((f3_12 (0 : Int32)) &&& 1)), .val (.int ((f3_12 (0 : Int32)) &&& 1)), .val (.int ((f3_12 (1 : Int32)) &&& 1)), .unset] [(.ref b1)])) rfl (by rw [hml]; rfl) (Steps.refl _) (argsL := []) (rest := []) (lenOf pd_1 rfl) rfl (by show 2 * 0 + _ ≤ _; exact Nat.le_of_eq rfl) (hb hby at_57) (fun _ _ => ⟨rfl, hh50, (by decide : 1 + 0 ≤ _), (by decide : 1 + 0 ≤ _)⟩)
        dsimp only [Pt.U, Pt.locs, Pt.cells, Pt.slots] at X51 l51 y51 z51 st51 hQ51
        subst l51 y51 z51
        obtain ⟨rfl, N51q, hh51⟩ := hQ51
        have N51 := Fr.app N50 N51q
        have pre52 : ∀ t, Steps p.tables e below (T51.setTop (mkF m 74 #[.val (.int p0), .val (.int (p0 &&& (3 : Int32))), .val (.ref b1), .val (.int ((f3_12 (0 : Int32)) &&& 1)), .val (.int ((f3_12 (0 : Int32)) &&& 1)), .val (.int ((f3_12 (1 : Int32)) &&& 1)), .val (.int ((f3_12 (1 : Int32)) &&& 1))] [(.int (p0 &&& (3 : Int32))), (.int ((f3_12 (1 : Int32)) &&& 1))])) t → Steps p.tables e below (s₁.setTop (entryFrame m #[(.int p0)] maxLocals)) t := fun t k => pre38 t (by
          refine XS.icmpNo X34.here hx rfl (hb hby at_43) rfl (flt hs39).1 ?_
          show Steps p.tables e below (T34.setTop (mkF m 46 #[.val (.int p0), .val (.int (p0 &&& (3 : Int32))), .val (.ref b1), .val (.int ((f3_12 (0 : Int32)) &&& 1)), .val (.int ((f3_12 (0 : Int32)) &&& 1)), .unset, .unset] [])) _
          refine XS.aloadN X34.here hx rfl (hb hby at_46) rfl rfl ?_
          show Steps p.tables e below (T34.setTop (mkF m 47 #[.val (.int p0), .val (.int (p0 &&& (3 : Int32))), .val (.ref b1), .val (.int ((f3_12 (0 : Int32)) &&& 1)), .val (.int ((f3_12 (0 : Int32)) &&& 1)), .unset, .unset] [(.ref b1)])) _
          refine st46.trans ?_
          show Steps p.tables e below (T46.setTop (mkF m 50 #[.val (.int p0), .val (.int (p0 &&& (3 : Int32))), .val (.ref b1), .val (.int ((f3_12 (0 : Int32)) &&& 1)), .val (.int ((f3_12 (0 : Int32)) &&& 1)), .unset, .unset] [])) _
          refine XS.aloadN X46.here hx rfl (hb hby at_50) rfl rfl ?_
          show Steps p.tables e below (T46.setTop (mkF m 51 #[.val (.int p0), .val (.int (p0 &&& (3 : Int32))), .val (.ref b1), .val (.int ((f3_12 (0 : Int32)) &&& 1)), .val (.int ((f3_12 (0 : Int32)) &&& 1)), .unset, .unset] [(.ref b1)])) _
          refine st50.trans ?_
          show Steps p.tables e below (T50.setTop (mkF m 54 #[.val (.int p0), .val (.int (p0 &&& (3 : Int32))), .val (.ref b1), .val (.int ((f3_12 (0 : Int32)) &&& 1)), .val (.int ((f3_12 (0 : Int32)) &&& 1)), .unset, .unset] [(.int ((f3_12 (1 : Int32)) &&& 1))])) _
          refine XS.istore X50.here hx rfl (hb hby at_54) rfl (l' := #[.val (.int p0), .val (.int (p0 &&& (3 : Int32))), .val (.ref b1), .val (.int ((f3_12 (0 : Int32)) &&& 1)), .val (.int ((f3_12 (0 : Int32)) &&& 1)), .val (.int ((f3_12 (1 : Int32)) &&& 1)), .unset]) rfl ?_
          show Steps p.tables e below (T50.setTop (mkF m 56 #[.val (.int p0), .val (.int (p0 &&& (3 : Int32))), .val (.ref b1), .val (.int ((f3_12 (0 : Int32)) &&& 1)), .val (.int ((f3_12 (0 : Int32)) &&& 1)), .val (.int ((f3_12 (1 : Int32)) &&& 1)), .unset] [])) _
          refine XS.aloadN X50.here hx rfl (hb hby at_56) rfl rfl ?_
          show Steps p.tables e below (T50.setTop (mkF m 57 #[.val (.int p0), .val (.int (p0 &&& (3 : Int32))), .val (.ref b1), .val (.int ((f3_12 (0 : Int32)) &&& 1)), .val (.int ((f3_12 (0 : Int32)) &&& 1)), .val (.int ((f3_12 (1 : Int32)) &&& 1)), .unset] [(.ref b1)])) _
          refine st51.trans ?_
          show Steps p.tables e below (T51.setTop (mkF m 60 #[.val (.int p0), .val (.int (p0 &&& (3 : Int32))), .val (.ref b1), .val (.int ((f3_12 (0 : Int32)) &&& 1)), .val (.int ((f3_12 (0 : Int32)) &&& 1)), .val (.int ((f3_12 (1 : Int32)) &&& 1)), .unset] [(.int ((f3_12 (1 : Int32)) &&& 1))])) _
          refine XS.istore X51.here hx rfl (hb hby at_60) rfl (l' := #[.val (.int p0), .val (.int (p0 &&& (3 : Int32))), .val (.ref b1), .val (.int ((f3_12 (0 : Int32)) &&& 1)), .val (.int ((f3_12 (0 : Int32)) &&& 1)), .val (.int ((f3_12 (1 : Int32)) &&& 1)), .val (.int ((f3_12 (1 : Int32)) &&& 1))]) rfl ?_
          show Steps p.tables e below (T51.setTop (mkF m 62 #[.val (.int p0), .val (.int (p0 &&& (3 : Int32))), .val (.ref b1), .val (.int ((f3_12 (0 : Int32)) &&& 1)), .val (.int ((f3_12 (0 : Int32)) &&& 1)), .val (.int ((f3_12 (1 : Int32)) &&& 1)), .val (.int ((f3_12 (1 : Int32)) &&& 1))] [])) _
          refine XS.iloadN X51.here hx rfl (hb hby at_62) rfl ?_
          show Steps p.tables e below (T51.setTop (mkF m 63 #[.val (.int p0), .val (.int (p0 &&& (3 : Int32))), .val (.ref b1), .val (.int ((f3_12 (0 : Int32)) &&& 1)), .val (.int ((f3_12 (0 : Int32)) &&& 1)), .val (.int ((f3_12 (1 : Int32)) &&& 1)), .val (.int ((f3_12 (1 : Int32)) &&& 1))] [(.int ((f3_12 (0 : Int32)) &&& 1))])) _
          refine XS.ifNo X51.here hx rfl (hb hby at_63) rfl ((if0 _ _).trans (feq (show ¬ (((f3_12 (0 : Int32)) &&& 1) = (0 : Int32)) from by decide)).1) ?_
          show Steps p.tables e below (T51.setTop (mkF m 66 #[.val (.int p0), .val (.int (p0 &&& (3 : Int32))), .val (.ref b1), .val (.int ((f3_12 (0 : Int32)) &&& 1)), .val (.int ((f3_12 (0 : Int32)) &&& 1)), .val (.int ((f3_12 (1 : Int32)) &&& 1)), .val (.int ((f3_12 (1 : Int32)) &&& 1))] [])) _
          refine XS.iload X51.here hx rfl (hb hby at_66) rfl ?_
          show Steps p.tables e below (T51.setTop (mkF m 68 #[.val (.int p0), .val (.int (p0 &&& (3 : Int32))), .val (.ref b1), .val (.int ((f3_12 (0 : Int32)) &&& 1)), .val (.int ((f3_12 (0 : Int32)) &&& 1)), .val (.int ((f3_12 (1 : Int32)) &&& 1)), .val (.int ((f3_12 (1 : Int32)) &&& 1))] [(.int ((f3_12 (0 : Int32)) &&& 1))])) _
          refine XS.ifNo X51.here hx rfl (hb hby at_68) rfl ((if0 _ _).trans (feq (show ¬ (((f3_12 (0 : Int32)) &&& 1) = (0 : Int32)) from by decide)).1) ?_
          show Steps p.tables e below (T51.setTop (mkF m 71 #[.val (.int p0), .val (.int (p0 &&& (3 : Int32))), .val (.ref b1), .val (.int ((f3_12 (0 : Int32)) &&& 1)), .val (.int ((f3_12 (0 : Int32)) &&& 1)), .val (.int ((f3_12 (1 : Int32)) &&& 1)), .val (.int ((f3_12 (1 : Int32)) &&& 1))] [])) _
          refine XS.iload X51.here hx rfl (hb hby at_71) rfl ?_
          show Steps p.tables e below (T51.setTop (mkF m 73 #[.val (.int p0), .val (.int (p0 &&& (3 : Int32))), .val (.ref b1), .val (.int ((f3_12 (0 : Int32)) &&& 1)), .val (.int ((f3_12 (0 : Int32)) &&& 1)), .val (.int ((f3_12 (1 : Int32)) &&& 1)), .val (.int ((f3_12 (1 : Int32)) &&& 1))] [(.int ((f3_12 (1 : Int32)) &&& 1))])) _
          refine XS.iloadN X51.here hx rfl (hb hby at_73) rfl ?_
          show Steps p.tables e below (T51.setTop (mkF m 74 #[.val (.int p0), .val (.int (p0 &&& (3 : Int32))), .val (.ref b1), .val (.int ((f3_12 (0 : Int32)) &&& 1)), .val (.int ((f3_12 (0 : Int32)) &&& 1)), .val (.int ((f3_12 (1 : Int32)) &&& 1)), .val (.int ((f3_12 (1 : Int32)) &&& 1))] [(.int (p0 &&& (3 : Int32))), (.int ((f3_12 (1 : Int32)) &&& 1))])) _
          exact k)
        have pre54 : ∀ t, Steps p.tables e below (T51.setTop (mkF m 82 #[.val (.int p0), .val (.int (p0 &&& (3 : Int32))), .val (.ref b1), .val (.int ((f3_12 (0 : Int32)) &&& 1)), .val (.int ((f3_12 (0 : Int32)) &&& 1)), .val (.int ((f3_12 (1 : Int32)) &&& 1)), .val (.int ((f3_12 (1 : Int32)) &&& 1))] [(.int (f0_82 p0)), (.int ((f3_12 (1 : Int32)) &&& 1))])) t → Steps p.tables e below (s₁.setTop (entryFrame m #[(.int p0)] maxLocals)) t := fun t k => pre52 t (by
          by_cases hf53 : (p0 &&& (3 : Int32)) = (0 : Int32)
          · refine XS.ifNo X51.here hx rfl (hb hby at_74) rfl ((if0 _ _).trans (teq hf53).2) ?_
            show Steps p.tables e below (T51.setTop (mkF m 77 #[.val (.int p0), .val (.int (p0 &&& (3 : Int32))), .val (.ref b1), .val (.int ((f3_12 (0 : Int32)) &&& 1)), .val (.int ((f3_12 (0 : Int32)) &&& 1)), .val (.int ((f3_12 (1 : Int32)) &&& 1)), .val (.int ((f3_12 (1 : Int32)) &&& 1))] [(.int ((f3_12 (1 : Int32)) &&& 1))])) _
            refine XS.iconst X51.here hx rfl (hb hby at_77) ?_
            show Steps p.tables e below (T51.setTop (mkF m 78 #[.val (.int p0), .val (.int (p0 &&& (3 : Int32))), .val (.ref b1), .val (.int ((f3_12 (0 : Int32)) &&& 1)), .val (.int ((f3_12 (0 : Int32)) &&& 1)), .val (.int ((f3_12 (1 : Int32)) &&& 1)), .val (.int ((f3_12 (1 : Int32)) &&& 1))] [(.int (1 : Int32)), (.int ((f3_12 (1 : Int32)) &&& 1))])) _
            refine XS.goto X51.here hx rfl (pc0 := 78) (pc' := 82) rfl (hb hby at_78) (by decide) (by decide) ?_
            show Steps p.tables e below (T51.setTop (mkF m 82 #[.val (.int p0), .val (.int (p0 &&& (3 : Int32))), .val (.ref b1), .val (.int ((f3_12 (0 : Int32)) &&& 1)), .val (.int ((f3_12 (0 : Int32)) &&& 1)), .val (.int ((f3_12 (1 : Int32)) &&& 1)), .val (.int ((f3_12 (1 : Int32)) &&& 1))] [(.int (1 : Int32)), (.int ((f3_12 (1 : Int32)) &&& 1))])) _
            rw [show (f0_82 p0) = ((1 : Int32) : Int32) from by simp only [f0_82, if_pos hf53]] at k
            exact k
          · refine XS.ifYes X51.here hx rfl (pc0 := 74) (pc' := 81) rfl (hb hby at_74) rfl ((if0 _ _).trans (feq hf53).2) (by decide) (by decide) ?_
            show Steps p.tables e below (T51.setTop (mkF m 81 #[.val (.int p0), .val (.int (p0 &&& (3 : Int32))), .val (.ref b1), .val (.int ((f3_12 (0 : Int32)) &&& 1)), .val (.int ((f3_12 (0 : Int32)) &&& 1)), .val (.int ((f3_12 (1 : Int32)) &&& 1)), .val (.int ((f3_12 (1 : Int32)) &&& 1))] [(.int ((f3_12 (1 : Int32)) &&& 1))])) _
            refine XS.iconst X51.here hx rfl (hb hby at_81) ?_
            show Steps p.tables e below (T51.setTop (mkF m 82 #[.val (.int p0), .val (.int (p0 &&& (3 : Int32))), .val (.ref b1), .val (.int ((f3_12 (0 : Int32)) &&& 1)), .val (.int ((f3_12 (0 : Int32)) &&& 1)), .val (.int ((f3_12 (1 : Int32)) &&& 1)), .val (.int ((f3_12 (1 : Int32)) &&& 1))] [(.int (0 : Int32)), (.int ((f3_12 (1 : Int32)) &&& 1))])) _
            rw [show (f0_82 p0) = ((0 : Int32) : Int32) from by simp only [f0_82, if_neg hf53]] at k
            exact k)
        have pre55 : ∀ t, Steps p.tables e below (T51.setTop (mkF m 97 #[.val (.int p0), .val (.int (p0 &&& (3 : Int32))), .val (.ref b1), .val (.int ((f3_12 (0 : Int32)) &&& 1)), .val (.int ((f3_12 (0 : Int32)) &&& 1)), .val (.int ((f3_12 (1 : Int32)) &&& 1)), .val (.int ((f3_12 (1 : Int32)) &&& 1))] [(.int (1 : Int32))])) t → Steps p.tables e below (s₁.setTop (entryFrame m #[(.int p0)] maxLocals)) t := fun t k => pre54 t (by
          refine XS.icmpNo X51.here hx rfl (hb hby at_82) rfl (teq (show ((f3_12 (1 : Int32)) &&& 1) = (f0_82 p0) from own_82b _ hs9)).2 ?_
          show Steps p.tables e below (T51.setTop (mkF m 85 #[.val (.int p0), .val (.int (p0 &&& (3 : Int32))), .val (.ref b1), .val (.int ((f3_12 (0 : Int32)) &&& 1)), .val (.int ((f3_12 (0 : Int32)) &&& 1)), .val (.int ((f3_12 (1 : Int32)) &&& 1)), .val (.int ((f3_12 (1 : Int32)) &&& 1))] [])) _
          refine XS.iload X51.here hx rfl (hb hby at_85) rfl ?_
          show Steps p.tables e below (T51.setTop (mkF m 87 #[.val (.int p0), .val (.int (p0 &&& (3 : Int32))), .val (.ref b1), .val (.int ((f3_12 (0 : Int32)) &&& 1)), .val (.int ((f3_12 (0 : Int32)) &&& 1)), .val (.int ((f3_12 (1 : Int32)) &&& 1)), .val (.int ((f3_12 (1 : Int32)) &&& 1))] [(.int ((f3_12 (1 : Int32)) &&& 1))])) _
          refine XS.iload X51.here hx rfl (hb hby at_87) rfl ?_
          show Steps p.tables e below (T51.setTop (mkF m 89 #[.val (.int p0), .val (.int (p0 &&& (3 : Int32))), .val (.ref b1), .val (.int ((f3_12 (0 : Int32)) &&& 1)), .val (.int ((f3_12 (0 : Int32)) &&& 1)), .val (.int ((f3_12 (1 : Int32)) &&& 1)), .val (.int ((f3_12 (1 : Int32)) &&& 1))] [(.int ((f3_12 (1 : Int32)) &&& 1)), (.int ((f3_12 (1 : Int32)) &&& 1))])) _
          refine XS.icmpNo X51.here hx rfl (hb hby at_89) rfl (teq rfl).2 ?_
          show Steps p.tables e below (T51.setTop (mkF m 92 #[.val (.int p0), .val (.int (p0 &&& (3 : Int32))), .val (.ref b1), .val (.int ((f3_12 (0 : Int32)) &&& 1)), .val (.int ((f3_12 (0 : Int32)) &&& 1)), .val (.int ((f3_12 (1 : Int32)) &&& 1)), .val (.int ((f3_12 (1 : Int32)) &&& 1))] [])) _
          refine XS.iconst X51.here hx rfl (hb hby at_92) ?_
          show Steps p.tables e below (T51.setTop (mkF m 93 #[.val (.int p0), .val (.int (p0 &&& (3 : Int32))), .val (.ref b1), .val (.int ((f3_12 (0 : Int32)) &&& 1)), .val (.int ((f3_12 (0 : Int32)) &&& 1)), .val (.int ((f3_12 (1 : Int32)) &&& 1)), .val (.int ((f3_12 (1 : Int32)) &&& 1))] [(.int (1 : Int32))])) _
          refine XS.goto X51.here hx rfl (pc0 := 93) (pc' := 97) rfl (hb hby at_93) (by decide) (by decide) ?_
          show Steps p.tables e below (T51.setTop (mkF m 97 #[.val (.int p0), .val (.int (p0 &&& (3 : Int32))), .val (.ref b1), .val (.int ((f3_12 (0 : Int32)) &&& 1)), .val (.int ((f3_12 (0 : Int32)) &&& 1)), .val (.int ((f3_12 (1 : Int32)) &&& 1)), .val (.int ((f3_12 (1 : Int32)) &&& 1))] [(.int (1 : Int32))])) _
          exact k)
        obtain ⟨fs, hr, hrun, hended, hW, hsame⟩ := X51.leave (v := some (.int (1 : Int32))) (fun h => by rw [Bd.returns] at h; cases h)
        refine ⟨_, _, pre55 _ ?_, hrun, hended, _, _, rfl, ?_, ⟨_, rfl⟩, hW, hsame.mono (by decide) (by decide)⟩
        · exact retN X51 hx (t := .boolean) Bd.returns (by simp) (hb hby at_97) hr
        · show Q0 Z p0 h0 n0 _ T51.heap _
          rw [hh51]
          exact ⟨rfl, N51⟩
set_option maxRecDepth 65536 in
set_option maxHeartbeats 40000000 in
theorem comes_1 {Post : Tables → Env → Array Value → State → Outcome → State → Prop} (hpost : ∀ tb e args s v u, (limb_1_1.after args s (.returned v) u = true ∧ limb_1_2.after args s (.returned v) u = true ∧ True) → FrameEnd s (.returned v) u (Jvm.fieldLocs frame_1_writes args s ++ Jvm.arrayLocs frame_1_arrays args s ++ Jvm.staticLocs frame_1_statics s) 16 128 → Post tb e args s (.returned v) u) :
    ArmFor flags0 classFile x code maxLocals ret World_1 tables_1 room_1 Calls_1 rest_1 Pre_1 Post := by
  intro l hfl _ _ p e ha hc hk s m args below hf hA hF happ hP
  obtain ⟨hcalls, hrest, hpre⟩ := hP
  obtain ⟨-, -, -, hnamed, -, -, -, hat⟩ := (Spec.applies_iff hf).mp happ
  obtain ⟨hg, hn⟩ := and_e (Cond.before_iff.mp (show (Jvm.Cond.and given_1 narrow_1).before args s = true from hpre))
  obtain ⟨h1, g0⟩ := and_e hg
  obtain ⟨w0, rfl⟩ : ∃ w0 : Value, args = #[w0] := by
    have hs : args.size = 1 := by simpa [Cond.value, given_1] using h1
    obtain ⟨L⟩ := args
    match L, hs with
    | [w0], _ => exact ⟨w0, rfl⟩
  have hw := fun d (hd : d ∈ tables_1) => atoms_spec (ws := Jvm.Cond.code x code maxLocals ret :: tables_1) hat d (List.mem_cons_of_mem _ hd)
  have hfit : Fit s := fun {y c} hc i hi => by
    obtain ⟨ha, rfl⟩ := Array.getElem?_eq_some_iff.mp hc
    have q := List.all_eq_true.mp ((Array.all_eq_true_iff_forall_mem.mp hF) _ (Array.getElem_mem ha)) i (List.mem_range.mpr hi)
    simpa [Array.getElem?_eq_getElem hi] using q
  obtain ⟨i0, e0⟩ := is_v g0
  obtain rfl : w0 = (.int i0) := Option.some.inj e0
  obtain ⟨n, o, h1, h2, h3, _, L, rfl, ⟨rfl, N⟩, hq⟩ := rm0 l s _ hw tables_1 i0  s.heap s.heap.size (Nat.le_refl _)  p e ha hc hk s m _ below hf ((Spec.applies_iff_loose hf).mp happ).1 ⟨rfl, State.Warmed39.refl s, rfl⟩ trivial
  refine ⟨n, _, h1, h2, h3, hpost _ _ _ _ _ _ ⟨Cond.after_iff.mpr rfl, Cond.after_iff.mpr (eq_i res_at (Term.int_eval (1)) rfl), trivial⟩ ⟨hq.1, hq.2.1, (hq.2.2.sift fun y hy => Or.inr (N y hy)).mono (by decide) (by decide)⟩⟩
theorem main_1_1 : Claimed_1_1 := comes_1 fun _ _ _ _ _ _ h hF => ⟨h.1, hF⟩
theorem main_1_2 : Claimed_1_2 := comes_1 fun _ _ _ _ _ _ h hF => ⟨h.2.1, hF⟩
end Jvm.Pilot.@@N@@
namespace Jvm.Pilot.@@N@@
open Jvm Jvm.ClassFile Sem Op Lib Jvm.Free Jvm.Stand Jvm.Pilot.@@N@@.Jvm.D
/-! MADE BY PROGRAM (witnessworld.py) out of the Statement's table words and the real class files: 9 classes; the members and pool entries that the words name. The judged class is class 1, her method 1. -/
namespace start1
open Jvm.ClassFile
def u (s : String) : CpInfo := .utf8 (stringToUtf16 s)
/-- a pool by its gaps: so many unusable entries, then the entry; so many at the end -/
def gap : Nat → List CpInfo → List CpInfo
  | 0, r => r
  | n + 1, r => .unusable :: gap n r
def poolList (es : List (Nat × CpInfo)) (last : Nat) : List CpInfo := es.foldr (fun e r => gap e.1 (e.2 :: r)) (gap last [])
def pool (es : List (Nat × CpInfo)) (last : Nat) : Array CpInfo := ⟨poolList es last⟩
def fileOf (pool : Array CpInfo) (this : Nat) (attrs : Array Attribute := #[]) (ms : Array MethodInfo := #[]) (fl : Nat := 33) (sup : Nat := 0) (ifs : Array Nat := #[]) (fds : Array FieldInfo := #[]) : ClassFile where
  minorVersion := 0
  majorVersion := 65
  constantPool := pool
  accessFlags := fl
  thisClass := this
  superClass := sup
  interfaces := ifs
  fields := fds
  methods := ms
  attributes := attrs
def plain (name : String) (sup : Option ClassId) : Class where
  name := name
  kind := .ordinary
  loader := none
  accessFlags := 33
  super := sup
  interfaces := #[]
  cf := none
  fields := #[]
  methods := #[]
  instanceTypes := #[]
  staticTypes := #[]
  resolved := #[]
  callSites := []
  init := .initialized
  statics := none
  mirror := none

def pool0 : Array CpInfo := pool [(5, u "<init>"), (0, u "()V"), (1, .class_ 10), (1, u "java/lang/Object")] 113

def k0c0 : Code := { maxStack := 0, maxLocals := 1, code := object_method_1_code, exceptionTable := #[], attributes := #[] }
def k0m0 : Method := { name := "<init>", desc := "()V", sig := { parameters := [], returnType := none }, accessFlags := 1, code := some k0c0 }
/-- java/lang/Object -/
def k0 : Class := { plain "java/lang/Object" none with
  accessFlags := 33
  interfaces := #[]
  cf := some (fileOf pool0 8 #[] #[{ accessFlags := 1, nameIndex := 5, descriptorIndex := 6, attributes := #[] }] 33 0 #[] #[])
  fields := #[]
  methods := #[k0m0]
  instanceTypes := #[]
  staticTypes := #[]
  resolved := Array.replicate 124 none
  statics := none }

def pool1 : Array CpInfo := pool [(2, .class_ 4), (0, .nameAndType 5 6), (0, u "java/lang/Object"), (0, u "<init>"), (0, u "()V"), (0, .class_ 8), (0, u "com/example/tenet/tenet/model/Typing$NewRecord"), (0, .methodref 7 3), (0, .methodref 7 11), (0, .nameAndType 12 13), (0, u "awaitsKey"), (0, u "()Z"), (0, .methodref 7 15), (0, .nameAndType 16 6), (0, u "markKeyed"), (0, .class_ 18), (0, u "com/example/tenet/tenet/model/NewRecordAwaitsKeyPinLaw"), (2, u "law"), (0, u "(I)Z")] 7

def k1m0 : Method := { name := "<init>", desc := "()V", sig := { parameters := [], returnType := none }, accessFlags := 1, code := none }
def k1c1 : Code := { maxStack := 2, maxLocals := 7, code := code, exceptionTable := #[], attributes := #[] }
def k1m1 : Method := { name := "law", desc := "(I)Z", sig := { parameters := [.int], returnType := some .boolean }, accessFlags := 9, code := some k1c1 }
/-- com/example/tenet/tenet/model/NewRecordAwaitsKeyPinLaw -/
def k1 : Class := { plain "com/example/tenet/tenet/model/NewRecordAwaitsKeyPinLaw" (some 0) with
  accessFlags := 49
  interfaces := #[]
  cf := some (fileOf pool1 17 #[] #[{ accessFlags := 1, nameIndex := 5, descriptorIndex := 6, attributes := #[] }, { accessFlags := 9, nameIndex := 21, descriptorIndex := 22, attributes := #[] }] 49 2 #[] #[])
  fields := #[]
  methods := #[k1m0, k1m1]
  instanceTypes := #[]
  staticTypes := #[]
  resolved := Array.replicate 30 none
  statics := none }

def pool2 : Array CpInfo := pool [(1, .methodref 2 3), (0, .class_ 4), (0, .nameAndType 5 6), (0, u "java/lang/Object"), (0, u "<init>"), (0, u "()V"), (0, .fieldref 8 9), (0, .class_ 10), (0, .nameAndType 11 12), (0, u "com/example/tenet/tenet/model/Typing$NewRecord"), (0, u "keyed"), (0, u "Z"), (2, u "markKeyed"), (0, u "awaitsKey"), (0, u "()Z"), (4, .class_ 23), (0, u "com/example/tenet/tenet/model/Typing")] 2

def k2c0 : Code := { maxStack := 1, maxLocals := 1, code := prog_44_method_1_code, exceptionTable := #[], attributes := #[] }
def k2m0 : Method := { name := "<init>", desc := "()V", sig := { parameters := [], returnType := none }, accessFlags := 0, code := some k2c0 }
def k2c1 : Code := { maxStack := 2, maxLocals := 1, code := prog_44_method_2_code, exceptionTable := #[], attributes := #[] }
def k2m1 : Method := { name := "markKeyed", desc := "()V", sig := { parameters := [], returnType := none }, accessFlags := 0, code := some k2c1 }
def k2c2 : Code := { maxStack := 1, maxLocals := 1, code := prog_44_method_3_code, exceptionTable := #[], attributes := #[] }
def k2m2 : Method := { name := "awaitsKey", desc := "()Z", sig := { parameters := [], returnType := some .boolean }, accessFlags := 0, code := some k2c2 }
/-- com/example/tenet/tenet/model/Typing$NewRecord -/
def k2 : Class := { plain "com/example/tenet/tenet/model/Typing$NewRecord" (some 0) with
  accessFlags := 48
  interfaces := #[]
  cf := some (fileOf pool2 8 #[.nestHost 22] #[{ accessFlags := 0, nameIndex := 5, descriptorIndex := 6, attributes := #[] }, { accessFlags := 0, nameIndex := 15, descriptorIndex := 6, attributes := #[] }, { accessFlags := 0, nameIndex := 16, descriptorIndex := 17, attributes := #[] }] 48 2 #[] #[{ accessFlags := 2, nameIndex := 11, descriptorIndex := 12, attributes := #[] }])
  fields := #[{ name := "keyed", type := .boolean, accessFlags := 2, slot := 0, constantValue := 0 }]
  methods := #[k2m0, k2m1, k2m2]
  instanceTypes := #[.boolean]
  staticTypes := #[]
  resolved := Array.replicate 26 none
  statics := none }

def pool3 : Array CpInfo := pool [(1, u "java/lang/Cloneable"), (0, .class_ 1), (0, u "java/lang/Object"), (0, .class_ 3)] 3

/-- java/lang/Cloneable -/
def k3 : Class := { plain "java/lang/Cloneable" (some 0) with
  accessFlags := 1537
  interfaces := #[]
  cf := some (fileOf pool3 2 #[] #[] 1537 4 #[] #[])
  fields := #[]
  methods := #[]
  instanceTypes := #[]
  staticTypes := #[]
  resolved := Array.replicate 8 none
  statics := none }

def pool4 : Array CpInfo := pool [(1, u "java/io/Serializable"), (0, .class_ 1), (0, u "java/lang/Object"), (0, .class_ 3)] 3

/-- java/io/Serializable -/
def k4 : Class := { plain "java/io/Serializable" (some 0) with
  accessFlags := 1537
  interfaces := #[]
  cf := some (fileOf pool4 2 #[] #[] 1537 4 #[] #[])
  fields := #[]
  methods := #[]
  instanceTypes := #[]
  staticTypes := #[]
  resolved := Array.replicate 8 none
  statics := none }

/-- the primitive byte -/
def k5 : Class := { plain "byte" none with kind := .primitive 'B', accessFlags := 0x411 }
/-- [B -/
def k6 : Class := { plain "[B" (some 0) with kind := .array 5 .byte, interfaces := #[3, 4], accessFlags := 1041 }

/-- the primitive int -/
def k7 : Class := { plain "int" none with kind := .primitive 'I', accessFlags := 0x411 }
/-- [I -/
def k8 : Class := { plain "[I" (some 0) with kind := .array 7 .int, interfaces := #[3, 4], accessFlags := 1041 }

def heap : Heap := #[]
def classes : Array Class := #[k0, k1, k2, k3, k4, k5, k6, k7, k8]
def interned : List (Array UInt16 × Addr) := []
def slotsUsed : Nat := 0
def theMethod : MethodId := ⟨1, 1⟩
def args0 : Array Value := #[.int 5]
def aboutOver (below : List Frame) : State where
  vm := { classes := classes, interned := interned.toArray }
  heap := heap
  slotsUsed := slotsUsed
  threads := #[{ frames := .invoking theMethod args0 :: below }]
def below0 : List Frame := [.native { method := ⟨0, 0⟩, args := #[] }]
def about1 : State := aboutOver below0
def p0 : Program := .bare "" "" ""
def e0 : Env := launch0.env 0 0 0
theorem w_frames : about1.frames = Frame.invoking theMethod args0 :: below0 := rfl
set_option maxRecDepth 65536 in
theorem w_args : argsFit about1.vm theMethod args0 = true := by decide +kernel
set_option maxRecDepth 65536 in
theorem w_heap : heapFits about1 = true := by decide +kernel
set_option maxRecDepth 65536 in
theorem w_runnable : about1.curStatus? = some .runnable := by decide +kernel
set_option maxRecDepth 65536 in
theorem w_alone : about1.alone = true := by decide +kernel
set_option maxRecDepth 65536 in
theorem w_named : about1.methodNamed? x = some theMethod := by decide +kernel
set_option maxRecDepth 65536 in
theorem w_hears : about1.hears theMethod below0 = true := by decide +kernel
set_option maxRecDepth 65536 in
theorem w_ripe : about1.ripe theMethod args0 below0 = true := by decide +kernel
theorem w_running : about1.status = .running := rfl
set_option maxRecDepth 65536 in
theorem w_room : about1.hasRoom e0.platform room_1 = true :=
  launch0.hasRoom_least _ room_1 (by decide +kernel) (by decide +kernel) (by decide +kernel) (by decide +kernel) (by decide +kernel) (by decide +kernel)
theorem allAtoms_all (ts : List Jvm.Cond) (a : Array Jvm.Value) (st : Jvm.State) : (allAtoms ts).before a st = ts.all (fun c => c.before a st) := by
  induction ts with
  | nil => rfl
  | cons c t ih =>
    show (Jvm.Cond.and c (allAtoms t)).before a st = _
    rw [Jvm.Cond.before_and, ih, List.all_cons]
def words1 : List Jvm.Cond := Jvm.Cond.code x code maxLocals ret :: tables_1
/-- a 'code' word, met by the world's own term for the bytes: nothing is compared byte by byte -/
theorem code_word {y : MethodName} {bytes : ByteArray} {mx : Nat} {rt : Option FieldType} {a : Array Value} {s : State} {m : MethodId} {meth : Method} {c : Code} (h1 : s.methodNamed? y = some m) (h2 : s.vm.method? m = some meth) (h3 : meth.code = some c) (h4 : c.code = bytes)
    (h5 : (c.maxLocals == mx && c.exceptionTable.isEmpty && decide (c.maxStack ≤ mostOperands) && decide (meth.sig.returnType = rt) && !meth.locks && decide (parseMethodDescriptor y.desc = some meth.sig)) = true) : (Jvm.Cond.code y bytes mx rt).before a s = true := by
  simp only [Bool.and_eq_true, beq_iff_eq, Bool.not_eq_true', decide_eq_true_eq] at h5
  obtain ⟨⟨⟨⟨⟨g1, g2⟩, g3⟩, g4⟩, g5⟩, g6⟩ := h5
  simp [Cond.before, Cond.holds, Cond.value, h1, h2, h3, h4, g1, g2, g3, g4, g5, g6]
def isCode : Jvm.Cond → Bool
  | .code _ _ _ _ => true
  | _ => false
theorem all_split {L : List Jvm.Cond} {P : Jvm.Cond → Bool} (h1 : L.all (fun c => isCode c || P c) = true) (h2 : ∀ c ∈ L.filter isCode, P c = true) : L.all P = true := by
  refine List.all_eq_true.mpr fun c hc => ?_
  have h := List.all_eq_true.mp h1 c hc
  rcases Bool.eq_false_or_eq_true (isCode c) with hi | hi
  · exact h2 c (List.mem_filter.mpr ⟨hc, hi⟩)
  · simpa [hi] using h
set_option maxRecDepth 65536 in
theorem w_c0 : (Jvm.Cond.code x code maxLocals ret).before args0 about1 = true := code_word (m := ⟨1, 1⟩) (meth := k1m1) (c := k1c1) (by decide +kernel) rfl rfl rfl (by decide +kernel)
set_option maxRecDepth 65536 in
theorem w_c1 : (Jvm.Cond.code ({ cls := "com/example/tenet/tenet/model/Typing$NewRecord", name := "<init>", desc := "()V" } : Jvm.MethodName) prog_44_method_1_code (1 : Nat) (Option.none : Option Jvm.ClassFile.FieldType)).before args0 about1 = true := code_word (m := ⟨2, 0⟩) (meth := k2m0) (c := k2c0) (by decide +kernel) rfl rfl rfl (by decide +kernel)
set_option maxRecDepth 65536 in
theorem w_c2 : (Jvm.Cond.code ({ cls := "java/lang/Object", name := "<init>", desc := "()V" } : Jvm.MethodName) object_method_1_code (1 : Nat) (Option.none : Option Jvm.ClassFile.FieldType)).before args0 about1 = true := code_word (m := ⟨0, 0⟩) (meth := k0m0) (c := k0c0) (by decide +kernel) rfl rfl rfl (by decide +kernel)
set_option maxRecDepth 65536 in
theorem w_c3 : (Jvm.Cond.code ({ cls := "com/example/tenet/tenet/model/Typing$NewRecord", name := "awaitsKey", desc := "()Z" } : Jvm.MethodName) prog_44_method_3_code (1 : Nat) (Option.some Jvm.ClassFile.FieldType.boolean)).before args0 about1 = true := code_word (m := ⟨2, 2⟩) (meth := k2m2) (c := k2c2) (by decide +kernel) rfl rfl rfl (by decide +kernel)
set_option maxRecDepth 65536 in
theorem w_c4 : (Jvm.Cond.code ({ cls := "com/example/tenet/tenet/model/Typing$NewRecord", name := "markKeyed", desc := "()V" } : Jvm.MethodName) prog_44_method_2_code (1 : Nat) (Option.none : Option Jvm.ClassFile.FieldType)).before args0 about1 = true := code_word (m := ⟨2, 1⟩) (meth := k2m1) (c := k2c1) (by decide +kernel) rfl rfl rfl (by decide +kernel)
def codes1 : List Jvm.Cond := [Jvm.Cond.code x code maxLocals ret, Jvm.Cond.code ({ cls := "com/example/tenet/tenet/model/Typing$NewRecord", name := "<init>", desc := "()V" } : Jvm.MethodName) prog_44_method_1_code (1 : Nat) (Option.none : Option Jvm.ClassFile.FieldType), Jvm.Cond.code ({ cls := "java/lang/Object", name := "<init>", desc := "()V" } : Jvm.MethodName) object_method_1_code (1 : Nat) (Option.none : Option Jvm.ClassFile.FieldType), Jvm.Cond.code ({ cls := "com/example/tenet/tenet/model/Typing$NewRecord", name := "awaitsKey", desc := "()Z" } : Jvm.MethodName) prog_44_method_3_code (1 : Nat) (Option.some Jvm.ClassFile.FieldType.boolean), Jvm.Cond.code ({ cls := "com/example/tenet/tenet/model/Typing$NewRecord", name := "markKeyed", desc := "()V" } : Jvm.MethodName) prog_44_method_2_code (1 : Nat) (Option.none : Option Jvm.ClassFile.FieldType)]
set_option maxRecDepth 65536 in
theorem codes_eq : words1.filter isCode = codes1 := rfl
theorem w_codes : ∀ c ∈ words1.filter isCode, c.before args0 about1 = true := by
  rw [codes_eq]
  intro c hc
  simp only [codes1, List.mem_cons, List.not_mem_nil, or_false] at hc
  rcases hc with rfl | rfl | rfl | rfl | rfl
  · exact w_c0
  · exact w_c1
  · exact w_c2
  · exact w_c3
  · exact w_c4
set_option maxRecDepth 65536 in
theorem w_t1 : words1.all (fun c => isCode c || c.before args0 about1) = true := by decide +kernel
theorem w_tables : (allAtoms (Jvm.Cond.code x code maxLocals ret :: tables_1)).before args0 about1 = true := by
  rw [allAtoms_all]
  show words1.all (fun c => c.before args0 about1) = true
  refine all_split ?_ w_codes
  rw [w_t1]
set_option maxRecDepth 65536 in
theorem w_case : (Jvm.Cond.and given_1 narrow_1).before args0 about1 = true := by decide +kernel
theorem w_applies : (headSpec (Jvm.Cond.code x code maxLocals ret :: tables_1) room_1).applies x e0.platform about1 = true :=
  (Spec.applies_iff w_frames).mpr ⟨w_running, w_runnable, w_alone, w_named, w_hears, w_ripe, w_room, w_tables⟩
theorem atStart : AtStart classFile x code maxLocals ret World_1 tables_1 room_1 Calls_1 rest_1 Pre_1 launch0 p0 e0 about1 theMethod args0 below0 :=
  ⟨lists_1, trivial, launch0.admits_env _ _ _, launch0.least_env, fairChoices_fair.cas, fairChoices_fair.clock, w_frames, w_args, w_heap, w_applies, trivial, trivial, w_case⟩
end start1
theorem witness_1 : WitnessClaimed_1 := ⟨start1.p0, start1.e0, start1.about1, start1.theMethod, start1.args0, start1.below0, start1.atStart⟩
end Jvm.Pilot.@@N@@
