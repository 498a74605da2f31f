import JvmDerived
import JvmDerived.Pilot.@@N@@Statement
import JvmDerived.Pilot.@@N@@Code
set_option linter.unusedVariables false
set_option linter.unusedSimpArgs false
namespace Jvm.RoadKit
open Sem ClassFile Op Lib Jvm.Stand Jvm.Free Jvm.LawKit
section New
variable {p : Program} {l : Launch} {e : Env} {R : Room} {s : State} {m : MethodId} {args : Array Value} {below : List Frame} {meth : Method} {c : Code} {T : State} {locs : List Loc} {cells slots : Nat}
theorem retI (X : Stand p l e R s m args below meth c T locs cells slots) (hx : p.tables.exec = Jvm.exec) {pc : Nat} {Ls : Array Slot} {z : Int32} {rest : List Value} (hret : meth.sig.returnType = some .int) (hd : decode c.code pc = .ok (.ireturn, 1)) {fs : List Frame}
    (hl : ∀ (f : JFrame) (acts : List Action), f.method = m → f.locked = none → f.entered = [] → (doReturn e (T.setTop f) acts (some (.int z))).1 = T.setFrames fs) : Steps p.tables e below (T.setTop (mkF m pc Ls (.int z :: rest))) (T.setFrames fs) := by
  have hm' : T.vm.method? m = some meth := X.method'
  have hn : narrow .int (.int z) = .int z := rfl
  show Steps p.tables e below (T.setTop { method := m, pc := pc, locals := Ls, stack := _ :: rest, locked := none }) _
  jvm_step X.here [X.here.top, hx, hd, hm', hret, hn]
  first | (intro acts; rw [hl _ acts rfl rfl rfl]) | rw [hl _ _ rfl rfl rfl]
  exact Steps.refl _
end New
end Jvm.RoadKit
namespace Jvm.Pilot.@@N@@
open Jvm Jvm.ClassFile Sem Op Lib Jvm.Free Jvm.Stand Jvm.LawKit Jvm.RoadKit Bundle Jvm.Pilot.@@N@@.Jvm.D
theorem own_ltL {x y : Int64} (h : x < y) : ifCond.holds .lt (lcmpW x y) = true ∧ ifCond.holds .ge (lcmpW x y) = false ∧ ifCond.holds .gt (lcmpW y x) = true ∧ ifCond.holds .le (lcmpW y x) = false :=
  ⟨(if0 _ _).trans (tlt ((lw_lt x y).mpr h)).1, (if0 _ _).trans (tlt ((lw_lt x y).mpr h)).2.1, (if0 _ _).trans (tlt ((lw_gt y x).mpr h)).2.2.1, (if0 _ _).trans (tlt ((lw_gt y x).mpr h)).2.2.2⟩
theorem own_fltL {x y : Int64} (h : ¬ x < y) : ifCond.holds .lt (lcmpW x y) = false ∧ ifCond.holds .ge (lcmpW x y) = true ∧ ifCond.holds .gt (lcmpW y x) = false ∧ ifCond.holds .le (lcmpW y x) = true :=
  ⟨(if0 _ _).trans (flt (fun q => h ((lw_lt x y).mp q))).1, (if0 _ _).trans (flt (fun q => h ((lw_lt x y).mp q))).2.1, (if0 _ _).trans (flt (fun q => h ((lw_gt y x).mp q))).2.2.1, (if0 _ _).trans (flt (fun q => h ((lw_gt y x).mp q))).2.2.2⟩
theorem own_eqL {x y : Int64} (h : x = y) : ifCond.holds .eq (lcmpW x y) = true ∧ ifCond.holds .ne (lcmpW x y) = false :=
  ⟨(if0 _ _).trans (teq ((lw_eq x y).mpr h)).1, (if0 _ _).trans (teq ((lw_eq x y).mpr h)).2⟩
theorem own_neL {x y : Int64} (h : ¬ x = y) : ifCond.holds .eq (lcmpW x y) = false ∧ ifCond.holds .ne (lcmpW x y) = true :=
  ⟨(if0 _ _).trans (feq (fun q => h ((lw_eq x y).mp q))).1, (if0 _ _).trans (feq (fun q => h ((lw_eq x y).mp q))).2⟩

theorem own_fin {c : Int32} {N : Nat} (h0 : 0 ≤ c.toInt) (h1 : c.toInt < N) (hN : N ≤ 2147483648) : ∃ n : Fin N, c = n.1.toInt32 := by
  refine ⟨⟨c.toInt.toNat, by omega⟩, ?_⟩
  apply Int32.toInt_inj.mp
  rw [len_toInt (by show c.toInt.toNat < 2 ^ 31; omega)]
  show c.toInt = ((c.toInt.toNat : Nat) : Int)
  omega
theorem own_lt {x y : Int32} (h : x < y) : x.toInt < y.toInt := Int32.lt_iff_toInt_lt.mp h
theorem own_nlt' {x y : Int32} (h : ¬ x < y) : y.toInt ≤ x.toInt := by rw [Int32.lt_iff_toInt_lt] at h; omega
theorem own_nlt {x y : Int32} {k : Int} (h : k ≤ x.toInt) (hk : y.toInt ≤ k) : ¬ x < y := by rw [Int32.lt_iff_toInt_lt]; omega
theorem own_gt {x y : Int32} {k : Int} (h : k ≤ x.toInt) (hk : y.toInt < k) : y < x := by rw [Int32.lt_iff_toInt_lt]; omega
theorem own_ne {x y : Int32} {k : Int} (h : k ≤ x.toInt) (hk : y.toInt < k) : ¬ x = y := by rintro rfl; omega
theorem own_gtn {x y : Int32} {k : Int} (h : x.toInt < k) (hk : k ≤ y.toInt) : x < y := by rw [Int32.lt_iff_toInt_lt]; omega
theorem own_nel {x y : Int32} {k : Int} (h : x.toInt < k) (hk : k ≤ y.toInt) : ¬ x = y := by rintro rfl; omega
theorem own_lt' {x y : Int32} (h : x < y) : x.toInt + 1 ≤ y.toInt := by have := own_lt h; omega
theorem own_le' {x y : Int32} (h : ¬ y < x) : x.toInt < y.toInt + 1 := by have := own_nlt' h; omega

theorem d2_0 : decode prog_19_method_3_code 0 = .ok (.iload_n 0, 1) := by decide +kernel
theorem d2_1 : decode prog_19_method_3_code 1 = .ok (.bipush 97, 2) := by decide +kernel
theorem d2_3 : decode prog_19_method_3_code 3 = .ok (.if_icmp .lt 9, 3) := by decide +kernel
theorem d2_6 : decode prog_19_method_3_code 6 = .ok (.iload_n 0, 1) := by decide +kernel
theorem d2_7 : decode prog_19_method_3_code 7 = .ok (.bipush 122, 2) := by decide +kernel
theorem d2_9 : decode prog_19_method_3_code 9 = .ok (.if_icmp .le 21, 3) := by decide +kernel
theorem d2_12 : decode prog_19_method_3_code 12 = .ok (.iload_n 0, 1) := by decide +kernel
theorem d2_13 : decode prog_19_method_3_code 13 = .ok (.bipush 65, 2) := by decide +kernel
theorem d2_15 : decode prog_19_method_3_code 15 = .ok (.if_icmp .lt 9, 3) := by decide +kernel
theorem d2_18 : decode prog_19_method_3_code 18 = .ok (.iload_n 0, 1) := by decide +kernel
theorem d2_19 : decode prog_19_method_3_code 19 = .ok (.bipush 90, 2) := by decide +kernel
theorem d2_21 : decode prog_19_method_3_code 21 = .ok (.if_icmp .le 9, 3) := by decide +kernel
theorem d2_24 : decode prog_19_method_3_code 24 = .ok (.iload_n 0, 1) := by decide +kernel
theorem d2_25 : decode prog_19_method_3_code 25 = .ok (.bipush 95, 2) := by decide +kernel
theorem d2_27 : decode prog_19_method_3_code 27 = .ok (.if_icmp .ne 7, 3) := by decide +kernel
theorem d2_30 : decode prog_19_method_3_code 30 = .ok (.iconst 1, 1) := by decide +kernel
theorem d2_31 : decode prog_19_method_3_code 31 = .ok (.goto 4, 3) := by decide +kernel
theorem d2_34 : decode prog_19_method_3_code 34 = .ok (.iconst 0, 1) := by decide +kernel
theorem d2_35 : decode prog_19_method_3_code 35 = .ok (.ireturn, 1) := by decide +kernel
theorem pn_0 : plainName "com/example/punctual_monitor/punctualmonitor/Names" = true := by first | (simp [plainName, overriddenIn]; done) | decide +kernel
theorem ef_2 (m : MethodId) (p0 : Int32) : entryFrame m #[(.int p0)] 1 = mkF m 0 #[.val (.int p0)] [] := by first | (simp [entryFrame, mkF, argsToLocals, Value.category]; done) | rfl
def f2_35 (p0 : Int32) : Int32 := (if p0 < (97 : Int32) then (if p0 < (65 : Int32) then (if p0 = (95 : Int32) then (1 : Int32) else (0 : Int32)) else (if (90 : Int32) < p0 then (if p0 = (95 : Int32) then (1 : Int32) else (0 : Int32)) else (1 : Int32))) else (if (122 : Int32) < p0 then (if p0 < (65 : Int32) then (if p0 = (95 : Int32) then (1 : Int32) else (0 : Int32)) else (if (90 : Int32) < p0 then (if p0 = (95 : Int32) then (1 : Int32) else (0 : Int32)) else (1 : Int32))) else (1 : Int32)))
def f2_ret (p0 : Int32) : Int32 := ((f2_35 p0) &&& 1)

def Q2 (Z : State) (p0 : Int32) (h0 : Heap) (n0 : Nat) (v : Option Value) (h : Heap) (L : List Loc) : Prop := v = some (.int (f2_ret p0)) ∧ Fr n0 L ∧ h = h0
set_option maxRecDepth 65536 in
set_option maxHeartbeats 40000000 in
theorem rm2 (l : Launch) (Z : State) (a0 : Array Value) (hw : ∀ d ∈ tables_1, d.before a0 Z = true) (ws : List Jvm.Cond) (p0 : Int32) (h0 : Heap) (n0 : Nat) (Z0 : n0 ≤ h0.size)  :
    MetFree l (⟨"com/example/punctual_monitor/punctualmonitor/Names", "isNameStart", "(C)Z"⟩ : MethodName) (head1 (Jvm.Cond.code (⟨"com/example/punctual_monitor/punctualmonitor/Names", "isNameStart", "(C)Z"⟩ : MethodName) prog_19_method_3_code 1 (some .boolean) :: ws) ({ frames := 0, cells := 0, slots := 0, locals := 0 } : Room)) (fun a U => a = #[(.int p0)] ∧ Z.Warmed39 U.vm ∧ U.heap = h0) (fun _ _ _ _ _ => True) (fun _ U o U' => ∃ v L, o = .returned v ∧ Q2 Z p0 h0 n0 v U'.heap L ∧ FrameEnd U o U' L ({ frames := 0, cells := 0, slots := 0, locals := 0 } : Room).cells ({ frames := 0, cells := 0, slots := 0, locals := 0 } : Room).slots) := by
  refine MetFree.of_bodySF (plainFor_of_name pn_0) hisR ?_
  intro p e s m args below meth c s₁ Bd hml0 hP hK
  obtain ⟨rfl, hZ, hh⟩ := hP
  have hx := Bd.exec
  have hby := Bd.bytes
  have hml : c.maxLocals = 1 := hml0
  have hown : s.vm.findClass "com/example/punctual_monitor/punctualmonitor/Names" = some m.cls := findClass_of_methodNamed Bd.named
  have hnm := (name_of_methodNamed Bd.named Bd.method).1
  have X0 : Stand p l e ({ frames := 0, cells := 0, slots := 0, locals := 0 } : Room) s m #[(.int p0)] below meth c s₁ [] 0 0 := Stand.of_body Bd
  have e0 : s₁.heap = h0 := by rw [← hh, Bd.state]; rfl
  have N0 := Fr.nil n0
  have pre0 : ∀ t, Steps p.tables e below (s₁.setTop (mkF m 0 #[.val (.int p0)] [])) t → Steps p.tables e below (s₁.setTop (entryFrame m #[(.int p0)] 1)) t := fun t k => castTop (ef_2 m p0) k
  have pre1 : ∀ t, Steps p.tables e below (s₁.setTop (mkF m 3 #[.val (.int p0)] [(.int (97 : Int32)), (.int p0)])) t → Steps p.tables e below (s₁.setTop (entryFrame m #[(.int p0)] 1)) t := fun t k => pre0 t (by
    show Steps p.tables e below (s₁.setTop (mkF m 0 #[.val (.int p0)] [])) _
    refine XS.iloadN X0.here hx rfl (hb hby d2_0) rfl ?_
    show Steps p.tables e below (s₁.setTop (mkF m 1 #[.val (.int p0)] [(.int p0)])) _
    refine XS.bipush X0.here hx rfl (hb hby d2_1) ?_
    show Steps p.tables e below (s₁.setTop (mkF m 3 #[.val (.int p0)] [(.int (97 : Int32)), (.int p0)])) _
    exact k)
  have pre12 : ∀ t, Steps p.tables e below (s₁.setTop (mkF m 35 #[.val (.int p0)] [(.int (f2_35 p0))])) t → Steps p.tables e below (s₁.setTop (entryFrame m #[(.int p0)] 1)) t := fun t k => pre1 t (by
    by_cases hf2 : p0 < (97 : Int32)
    · refine XS.icmpYes X0.here hx rfl (pc0 := 3) (pc' := 12) rfl (hb hby d2_3) rfl (tlt hf2).1 (by decide) (by decide) ?_
      show Steps p.tables e below (s₁.setTop (mkF m 12 #[.val (.int p0)] [])) _
      refine XS.iloadN X0.here hx rfl (hb hby d2_12) rfl ?_
      show Steps p.tables e below (s₁.setTop (mkF m 13 #[.val (.int p0)] [(.int p0)])) _
      refine XS.bipush X0.here hx rfl (hb hby d2_13) ?_
      show Steps p.tables e below (s₁.setTop (mkF m 15 #[.val (.int p0)] [(.int (65 : Int32)), (.int p0)])) _
      by_cases hf3 : p0 < (65 : Int32)
      · refine XS.icmpYes X0.here hx rfl (pc0 := 15) (pc' := 24) rfl (hb hby d2_15) rfl (tlt hf3).1 (by decide) (by decide) ?_
        show Steps p.tables e below (s₁.setTop (mkF m 24 #[.val (.int p0)] [])) _
        refine XS.iloadN X0.here hx rfl (hb hby d2_24) rfl ?_
        show Steps p.tables e below (s₁.setTop (mkF m 25 #[.val (.int p0)] [(.int p0)])) _
        refine XS.bipush X0.here hx rfl (hb hby d2_25) ?_
        show Steps p.tables e below (s₁.setTop (mkF m 27 #[.val (.int p0)] [(.int (95 : Int32)), (.int p0)])) _
        by_cases hf4 : p0 = (95 : Int32)
        · refine XS.icmpNo X0.here hx rfl (hb hby d2_27) rfl (teq hf4).2 ?_
          show Steps p.tables e below (s₁.setTop (mkF m 30 #[.val (.int p0)] [])) _
          refine XS.iconst X0.here hx rfl (hb hby d2_30) ?_
          show Steps p.tables e below (s₁.setTop (mkF m 31 #[.val (.int p0)] [(.int (1 : Int32))])) _
          refine XS.goto X0.here hx rfl (pc0 := 31) (pc' := 35) rfl (hb hby d2_31) (by decide) (by decide) ?_
          show Steps p.tables e below (s₁.setTop (mkF m 35 #[.val (.int p0)] [(.int (1 : Int32))])) _
          rw [show (f2_35 p0) = ((1 : Int32) : Int32) from by simp only [f2_35, if_pos hf2, if_pos hf3, if_pos hf4]] at k
          exact k
        · refine XS.icmpYes X0.here hx rfl (pc0 := 27) (pc' := 34) rfl (hb hby d2_27) rfl (feq hf4).2 (by decide) (by decide) ?_
          show Steps p.tables e below (s₁.setTop (mkF m 34 #[.val (.int p0)] [])) _
          refine XS.iconst X0.here hx rfl (hb hby d2_34) ?_
          show Steps p.tables e below (s₁.setTop (mkF m 35 #[.val (.int p0)] [(.int (0 : Int32))])) _
          rw [show (f2_35 p0) = ((0 : Int32) : Int32) from by simp only [f2_35, if_pos hf2, if_pos hf3, if_neg hf4]] at k
          exact k
      · refine XS.icmpNo X0.here hx rfl (hb hby d2_15) rfl (flt hf3).1 ?_
        show Steps p.tables e below (s₁.setTop (mkF m 18 #[.val (.int p0)] [])) _
        refine XS.iloadN X0.here hx rfl (hb hby d2_18) rfl ?_
        show Steps p.tables e below (s₁.setTop (mkF m 19 #[.val (.int p0)] [(.int p0)])) _
        refine XS.bipush X0.here hx rfl (hb hby d2_19) ?_
        show Steps p.tables e below (s₁.setTop (mkF m 21 #[.val (.int p0)] [(.int (90 : Int32)), (.int p0)])) _
        by_cases hf5 : (90 : Int32) < p0
        · refine XS.icmpNo X0.here hx rfl (hb hby d2_21) rfl (tlt hf5).2.2.2 ?_
          show Steps p.tables e below (s₁.setTop (mkF m 24 #[.val (.int p0)] [])) _
          refine XS.iloadN X0.here hx rfl (hb hby d2_24) rfl ?_
          show Steps p.tables e below (s₁.setTop (mkF m 25 #[.val (.int p0)] [(.int p0)])) _
          refine XS.bipush X0.here hx rfl (hb hby d2_25) ?_
          show Steps p.tables e below (s₁.setTop (mkF m 27 #[.val (.int p0)] [(.int (95 : Int32)), (.int p0)])) _
          by_cases hf6 : p0 = (95 : Int32)
          · refine XS.icmpNo X0.here hx rfl (hb hby d2_27) rfl (teq hf6).2 ?_
            show Steps p.tables e below (s₁.setTop (mkF m 30 #[.val (.int p0)] [])) _
            refine XS.iconst X0.here hx rfl (hb hby d2_30) ?_
            show Steps p.tables e below (s₁.setTop (mkF m 31 #[.val (.int p0)] [(.int (1 : Int32))])) _
            refine XS.goto X0.here hx rfl (pc0 := 31) (pc' := 35) rfl (hb hby d2_31) (by decide) (by decide) ?_
            show Steps p.tables e below (s₁.setTop (mkF m 35 #[.val (.int p0)] [(.int (1 : Int32))])) _
            rw [show (f2_35 p0) = ((1 : Int32) : Int32) from by simp only [f2_35, if_pos hf2, if_neg hf3, if_pos hf5, if_pos hf6]] at k
            exact k
          · refine XS.icmpYes X0.here hx rfl (pc0 := 27) (pc' := 34) rfl (hb hby d2_27) rfl (feq hf6).2 (by decide) (by decide) ?_
            show Steps p.tables e below (s₁.setTop (mkF m 34 #[.val (.int p0)] [])) _
            refine XS.iconst X0.here hx rfl (hb hby d2_34) ?_
            show Steps p.tables e below (s₁.setTop (mkF m 35 #[.val (.int p0)] [(.int (0 : Int32))])) _
            rw [show (f2_35 p0) = ((0 : Int32) : Int32) from by simp only [f2_35, if_pos hf2, if_neg hf3, if_pos hf5, if_neg hf6]] at k
            exact k
        · refine XS.icmpYes X0.here hx rfl (pc0 := 21) (pc' := 30) rfl (hb hby d2_21) rfl (flt hf5).2.2.2 (by decide) (by decide) ?_
          show Steps p.tables e below (s₁.setTop (mkF m 30 #[.val (.int p0)] [])) _
          refine XS.iconst X0.here hx rfl (hb hby d2_30) ?_
          show Steps p.tables e below (s₁.setTop (mkF m 31 #[.val (.int p0)] [(.int (1 : Int32))])) _
          refine XS.goto X0.here hx rfl (pc0 := 31) (pc' := 35) rfl (hb hby d2_31) (by decide) (by decide) ?_
          show Steps p.tables e below (s₁.setTop (mkF m 35 #[.val (.int p0)] [(.int (1 : Int32))])) _
          rw [show (f2_35 p0) = ((1 : Int32) : Int32) from by simp only [f2_35, if_pos hf2, if_neg hf3, if_neg hf5]] at k
          exact k
    · refine XS.icmpNo X0.here hx rfl (hb hby d2_3) rfl (flt hf2).1 ?_
      show Steps p.tables e below (s₁.setTop (mkF m 6 #[.val (.int p0)] [])) _
      refine XS.iloadN X0.here hx rfl (hb hby d2_6) rfl ?_
      show Steps p.tables e below (s₁.setTop (mkF m 7 #[.val (.int p0)] [(.int p0)])) _
      refine XS.bipush X0.here hx rfl (hb hby d2_7) ?_
      show Steps p.tables e below (s₁.setTop (mkF m 9 #[.val (.int p0)] [(.int (122 : Int32)), (.int p0)])) _
      by_cases hf7 : (122 : Int32) < p0
      · refine XS.icmpNo X0.here hx rfl (hb hby d2_9) rfl (tlt hf7).2.2.2 ?_
        show Steps p.tables e below (s₁.setTop (mkF m 12 #[.val (.int p0)] [])) _
        refine XS.iloadN X0.here hx rfl (hb hby d2_12) rfl ?_
        show Steps p.tables e below (s₁.setTop (mkF m 13 #[.val (.int p0)] [(.int p0)])) _
        refine XS.bipush X0.here hx rfl (hb hby d2_13) ?_
        show Steps p.tables e below (s₁.setTop (mkF m 15 #[.val (.int p0)] [(.int (65 : Int32)), (.int p0)])) _
        by_cases hf8 : p0 < (65 : Int32)
        · refine XS.icmpYes X0.here hx rfl (pc0 := 15) (pc' := 24) rfl (hb hby d2_15) rfl (tlt hf8).1 (by decide) (by decide) ?_
          show Steps p.tables e below (s₁.setTop (mkF m 24 #[.val (.int p0)] [])) _
          refine XS.iloadN X0.here hx rfl (hb hby d2_24) rfl ?_
          show Steps p.tables e below (s₁.setTop (mkF m 25 #[.val (.int p0)] [(.int p0)])) _
          refine XS.bipush X0.here hx rfl (hb hby d2_25) ?_
          show Steps p.tables e below (s₁.setTop (mkF m 27 #[.val (.int p0)] [(.int (95 : Int32)), (.int p0)])) _
          by_cases hf9 : p0 = (95 : Int32)
          · refine XS.icmpNo X0.here hx rfl (hb hby d2_27) rfl (teq hf9).2 ?_
            show Steps p.tables e below (s₁.setTop (mkF m 30 #[.val (.int p0)] [])) _
            refine XS.iconst X0.here hx rfl (hb hby d2_30) ?_
            show Steps p.tables e below (s₁.setTop (mkF m 31 #[.val (.int p0)] [(.int (1 : Int32))])) _
            refine XS.goto X0.here hx rfl (pc0 := 31) (pc' := 35) rfl (hb hby d2_31) (by decide) (by decide) ?_
            show Steps p.tables e below (s₁.setTop (mkF m 35 #[.val (.int p0)] [(.int (1 : Int32))])) _
            rw [show (f2_35 p0) = ((1 : Int32) : Int32) from by simp only [f2_35, if_neg hf2, if_pos hf7, if_pos hf8, if_pos hf9]] at k
            exact k
          · refine XS.icmpYes X0.here hx rfl (pc0 := 27) (pc' := 34) rfl (hb hby d2_27) rfl (feq hf9).2 (by decide) (by decide) ?_
            show Steps p.tables e below (s₁.setTop (mkF m 34 #[.val (.int p0)] [])) _
            refine XS.iconst X0.here hx rfl (hb hby d2_34) ?_
            show Steps p.tables e below (s₁.setTop (mkF m 35 #[.val (.int p0)] [(.int (0 : Int32))])) _
            rw [show (f2_35 p0) = ((0 : Int32) : Int32) from by simp only [f2_35, if_neg hf2, if_pos hf7, if_pos hf8, if_neg hf9]] at k
            exact k
        · refine XS.icmpNo X0.here hx rfl (hb hby d2_15) rfl (flt hf8).1 ?_
          show Steps p.tables e below (s₁.setTop (mkF m 18 #[.val (.int p0)] [])) _
          refine XS.iloadN X0.here hx rfl (hb hby d2_18) rfl ?_
          show Steps p.tables e below (s₁.setTop (mkF m 19 #[.val (.int p0)] [(.int p0)])) _
          refine XS.bipush X0.here hx rfl (hb hby d2_19) ?_
          show Steps p.tables e below (s₁.setTop (mkF m 21 #[.val (.int p0)] [(.int (90 : Int32)), (.int p0)])) _
          by_cases hf10 : (90 : Int32) < p0
          · refine XS.icmpNo X0.here hx rfl (hb hby d2_21) rfl (tlt hf10).2.2.2 ?_
            show Steps p.tables e below (s₁.setTop (mkF m 24 #[.val (.int p0)] [])) _
            refine XS.iloadN X0.here hx rfl (hb hby d2_24) rfl ?_
            show Steps p.tables e below (s₁.setTop (mkF m 25 #[.val (.int p0)] [(.int p0)])) _
            refine XS.bipush X0.here hx rfl (hb hby d2_25) ?_
            show Steps p.tables e below (s₁.setTop (mkF m 27 #[.val (.int p0)] [(.int (95 : Int32)), (.int p0)])) _
            by_cases hf11 : p0 = (95 : Int32)
            · refine XS.icmpNo X0.here hx rfl (hb hby d2_27) rfl (teq hf11).2 ?_
              show Steps p.tables e below (s₁.setTop (mkF m 30 #[.val (.int p0)] [])) _
              refine XS.iconst X0.here hx rfl (hb hby d2_30) ?_
              show Steps p.tables e below (s₁.setTop (mkF m 31 #[.val (.int p0)] [(.int (1 : Int32))])) _
              refine XS.goto X0.here hx rfl (pc0 := 31) (pc' := 35) rfl (hb hby d2_31) (by decide) (by decide) ?_
              show Steps p.tables e below (s₁.setTop (mkF m 35 #[.val (.int p0)] [(.int (1 : Int32))])) _
              rw [show (f2_35 p0) = ((1 : Int32) : Int32) from by simp only [f2_35, if_neg hf2, if_pos hf7, if_neg hf8, if_pos hf10, if_pos hf11]] at k
              exact k
            · refine XS.icmpYes X0.here hx rfl (pc0 := 27) (pc' := 34) rfl (hb hby d2_27) rfl (feq hf11).2 (by decide) (by decide) ?_
              show Steps p.tables e below (s₁.setTop (mkF m 34 #[.val (.int p0)] [])) _
              refine XS.iconst X0.here hx rfl (hb hby d2_34) ?_
              show Steps p.tables e below (s₁.setTop (mkF m 35 #[.val (.int p0)] [(.int (0 : Int32))])) _
              rw [show (f2_35 p0) = ((0 : Int32) : Int32) from by simp only [f2_35, if_neg hf2, if_pos hf7, if_neg hf8, if_pos hf10, if_neg hf11]] at k
              exact k
          · refine XS.icmpYes X0.here hx rfl (pc0 := 21) (pc' := 30) rfl (hb hby d2_21) rfl (flt hf10).2.2.2 (by decide) (by decide) ?_
            show Steps p.tables e below (s₁.setTop (mkF m 30 #[.val (.int p0)] [])) _
            refine XS.iconst X0.here hx rfl (hb hby d2_30) ?_
            show Steps p.tables e below (s₁.setTop (mkF m 31 #[.val (.int p0)] [(.int (1 : Int32))])) _
            refine XS.goto X0.here hx rfl (pc0 := 31) (pc' := 35) rfl (hb hby d2_31) (by decide) (by decide) ?_
            show Steps p.tables e below (s₁.setTop (mkF m 35 #[.val (.int p0)] [(.int (1 : Int32))])) _
            rw [show (f2_35 p0) = ((1 : Int32) : Int32) from by simp only [f2_35, if_neg hf2, if_pos hf7, if_neg hf8, if_neg hf10]] at k
            exact k
      · refine XS.icmpYes X0.here hx rfl (pc0 := 9) (pc' := 30) rfl (hb hby d2_9) rfl (flt hf7).2.2.2 (by decide) (by decide) ?_
        show Steps p.tables e below (s₁.setTop (mkF m 30 #[.val (.int p0)] [])) _
        refine XS.iconst X0.here hx rfl (hb hby d2_30) ?_
        show Steps p.tables e below (s₁.setTop (mkF m 31 #[.val (.int p0)] [(.int (1 : Int32))])) _
        refine XS.goto X0.here hx rfl (pc0 := 31) (pc' := 35) rfl (hb hby d2_31) (by decide) (by decide) ?_
        show Steps p.tables e below (s₁.setTop (mkF m 35 #[.val (.int p0)] [(.int (1 : Int32))])) _
        rw [show (f2_35 p0) = ((1 : Int32) : Int32) from by simp only [f2_35, if_neg hf2, if_neg hf7]] at k
        exact k)
  obtain ⟨fs, hr, hrun, hended, hW, hsame⟩ := X0.leave (v := some (.int ((f2_35 p0) &&& 1))) (fun h => by rw [Bd.returns] at h; cases h)
  refine ⟨_, _, pre12 _ ?_, hrun, hended, _, _, rfl, ?_, ⟨_, rfl⟩, hW, hsame.mono (by decide) (by decide)⟩
  · exact retN X0 hx (t := .boolean) Bd.returns (by simp) (hb hby d2_35) hr
  · show Q2 Z p0 h0 n0 _ s₁.heap _
    rw [e0]
    exact ⟨rfl, N0, rfl⟩
theorem d1_0 : decode prog_19_method_4_code 0 = .ok (.iload_n 0, 1) := by decide +kernel
theorem d1_1 : decode prog_19_method_4_code 1 = .ok (.invokestatic 17, 3) := by decide +kernel
theorem d1_4 : decode prog_19_method_4_code 4 = .ok (.ifCond .ne 15, 3) := by decide +kernel
theorem d1_7 : decode prog_19_method_4_code 7 = .ok (.iload_n 0, 1) := by decide +kernel
theorem d1_8 : decode prog_19_method_4_code 8 = .ok (.bipush 48, 2) := by decide +kernel
theorem d1_10 : decode prog_19_method_4_code 10 = .ok (.if_icmp .lt 13, 3) := by decide +kernel
theorem d1_13 : decode prog_19_method_4_code 13 = .ok (.iload_n 0, 1) := by decide +kernel
theorem d1_14 : decode prog_19_method_4_code 14 = .ok (.bipush 57, 2) := by decide +kernel
theorem d1_16 : decode prog_19_method_4_code 16 = .ok (.if_icmp .gt 7, 3) := by decide +kernel
theorem d1_19 : decode prog_19_method_4_code 19 = .ok (.iconst 1, 1) := by decide +kernel
theorem d1_20 : decode prog_19_method_4_code 20 = .ok (.goto 4, 3) := by decide +kernel
theorem d1_23 : decode prog_19_method_4_code 23 = .ok (.iconst 0, 1) := by decide +kernel
theorem d1_24 : decode prog_19_method_4_code 24 = .ok (.ireturn, 1) := by decide +kernel
theorem pd_0 : parseMethodDescriptor "(C)Z" = some ⟨[.char], some .boolean⟩ := by decide +kernel
theorem ef_1 (m : MethodId) (p0 : Int32) : entryFrame m #[(.int p0)] 1 = mkF m 0 #[.val (.int p0)] [] := by first | (simp [entryFrame, mkF, argsToLocals, Value.category]; done) | rfl
def f1_24 (p0 : Int32) : Int32 := (if (f2_ret p0) = (0 : Int32) then (if p0 < (48 : Int32) then (0 : Int32) else (if (57 : Int32) < p0 then (0 : Int32) else (1 : Int32))) else (1 : Int32))
def f1_ret (p0 : Int32) : Int32 := ((f1_24 p0) &&& 1)

def Q1 (Z : State) (p0 : Int32) (h0 : Heap) (n0 : Nat) (v : Option Value) (h : Heap) (L : List Loc) : Prop := v = some (.int (f1_ret p0)) ∧ Fr n0 L ∧ h = h0
set_option maxRecDepth 65536 in
set_option maxHeartbeats 40000000 in
theorem rm1 (l : Launch) (Z : State) (a0 : Array Value) (hw : ∀ d ∈ tables_1, d.before a0 Z = true) (ws : List Jvm.Cond) (p0 : Int32) (h0 : Heap) (n0 : Nat) (Z0 : n0 ≤ h0.size)  :
    MetFree l (⟨"com/example/punctual_monitor/punctualmonitor/Names", "isNamePart", "(C)Z"⟩ : MethodName) (head1 (Jvm.Cond.code (⟨"com/example/punctual_monitor/punctualmonitor/Names", "isNamePart", "(C)Z"⟩ : MethodName) prog_19_method_4_code 1 (some .boolean) :: ws) ({ frames := 1, cells := 0, slots := 0, locals := 12 } : Room)) (fun a U => a = #[(.int p0)] ∧ Z.Warmed39 U.vm ∧ U.heap = h0) (fun _ _ _ _ _ => True) (fun _ U o U' => ∃ v L, o = .returned v ∧ Q1 Z p0 h0 n0 v U'.heap L ∧ FrameEnd U o U' L ({ frames := 1, cells := 0, slots := 0, locals := 12 } : Room).cells ({ frames := 1, cells := 0, slots := 0, locals := 12 } : Room).slots) := by
  refine MetFree.of_bodySF (plainFor_of_name pn_0) hisR ?_
  intro p e s m args below meth c s₁ Bd hml0 hP hK
  obtain ⟨rfl, hZ, hh⟩ := hP
  have hx := Bd.exec
  have hby := Bd.bytes
  have hml : c.maxLocals = 1 := hml0
  have hown : s.vm.findClass "com/example/punctual_monitor/punctualmonitor/Names" = some m.cls := findClass_of_methodNamed Bd.named
  have hnm := (name_of_methodNamed Bd.named Bd.method).1
  have X0 : Stand p l e ({ frames := 1, cells := 0, slots := 0, locals := 12 } : Room) s m #[(.int p0)] below meth c s₁ [] 0 0 := Stand.of_body Bd
  have e0 : s₁.heap = h0 := by rw [← hh, Bd.state]; rfl
  have N0 := Fr.nil n0
  have pre0 : ∀ t, Steps p.tables e below (s₁.setTop (mkF m 0 #[.val (.int p0)] [])) t → Steps p.tables e below (s₁.setTop (entryFrame m #[(.int p0)] 1)) t := fun t k => castTop (ef_1 m p0) k
  obtain ⟨_, _, ⟨T1, L1, k1, n1⟩, -, X1, ⟨Lc1, hQ1, l1, y1, z1⟩, st1⟩ := Jvm.LawKit.callS X0 hx (y := (⟨"com/example/punctual_monitor/punctualmonitor/Names", "isNameStart", "(C)Z"⟩ : MethodName)) hown (mvT hZ (hw _ (List.mem_of_getElem? (i := 5) rfl))) (mvT hZ (hw _ (List.mem_of_getElem? (i := 6) rfl))) (mvT hZ (hw _ (List.mem_of_getElem? (i := 3) rfl))) (mvT hZ (hw _ (List.mem_of_getElem? (i := 7) rfl))) (by decide) (backOf (W := 0) (rm2 l Z a0 hw [] p0 h0 n0 Z0) hZ (hw _ (List.mem_of_getElem? (i := 7) rfl)) (hw _ (List.mem_of_getElem? (i := 3) rfl)) (by decide) (by decide)) (g := (mkF m 1 #[.val (.int p0)] [(.int p0)])) rfl (by rw [hml]; rfl) (argsL := [(.int p0)]) (rest := []) (lenOf pd_0 rfl) rfl (by show 2 * 0 + _ ≤ _; exact Nat.le_of_eq rfl) (hb hby d1_1) (fun _ _ => ⟨rfl, e0, (by decide : 0 + 0 ≤ _), (by decide : 0 + 0 ≤ _)⟩)
  dsimp only [Pt.U, Pt.locs, Pt.cells, Pt.slots] at X1 l1 y1 z1 st1 hQ1
  subst l1 y1 z1
  obtain ⟨rfl, N1q, hh1⟩ := hQ1
  have N1 := Fr.app N0 N1q
  have pre2 : ∀ t, Steps p.tables e below (T1.setTop (mkF m 4 #[.val (.int p0)] [(.int (f2_ret p0))])) t → Steps p.tables e below (s₁.setTop (entryFrame m #[(.int p0)] 1)) t := fun t k => pre0 t (by
    show Steps p.tables e below (s₁.setTop (mkF m 0 #[.val (.int p0)] [])) _
    refine XS.iloadN X0.here hx rfl (hb hby d1_0) rfl ?_
    show Steps p.tables e below (s₁.setTop (mkF m 1 #[.val (.int p0)] [(.int p0)])) _
    refine st1 _ ?_
    show Steps p.tables e below (T1.setTop (mkF m 4 #[.val (.int p0)] [(.int (f2_ret p0))])) _
    exact k)
  have pre6 : ∀ t, Steps p.tables e below (T1.setTop (mkF m 24 #[.val (.int p0)] [(.int (f1_24 p0))])) t → Steps p.tables e below (s₁.setTop (entryFrame m #[(.int p0)] 1)) t := fun t k => pre2 t (by
    by_cases hf3 : (f2_ret p0) = (0 : Int32)
    · refine XS.ifNo X1.here hx rfl (hb hby d1_4) rfl ((if0 _ _).trans (teq hf3).2) ?_
      show Steps p.tables e below (T1.setTop (mkF m 7 #[.val (.int p0)] [])) _
      refine XS.iloadN X1.here hx rfl (hb hby d1_7) rfl ?_
      show Steps p.tables e below (T1.setTop (mkF m 8 #[.val (.int p0)] [(.int p0)])) _
      refine XS.bipush X1.here hx rfl (hb hby d1_8) ?_
      show Steps p.tables e below (T1.setTop (mkF m 10 #[.val (.int p0)] [(.int (48 : Int32)), (.int p0)])) _
      by_cases hf4 : p0 < (48 : Int32)
      · refine XS.icmpYes X1.here hx rfl (pc0 := 10) (pc' := 23) rfl (hb hby d1_10) rfl (tlt hf4).1 (by decide) (by decide) ?_
        show Steps p.tables e below (T1.setTop (mkF m 23 #[.val (.int p0)] [])) _
        refine XS.iconst X1.here hx rfl (hb hby d1_23) ?_
        show Steps p.tables e below (T1.setTop (mkF m 24 #[.val (.int p0)] [(.int (0 : Int32))])) _
        rw [show (f1_24 p0) = ((0 : Int32) : Int32) from by simp only [f1_24, if_pos hf3, if_pos hf4]] at k
        exact k
      · refine XS.icmpNo X1.here hx rfl (hb hby d1_10) rfl (flt hf4).1 ?_
        show Steps p.tables e below (T1.setTop (mkF m 13 #[.val (.int p0)] [])) _
        refine XS.iloadN X1.here hx rfl (hb hby d1_13) rfl ?_
        show Steps p.tables e below (T1.setTop (mkF m 14 #[.val (.int p0)] [(.int p0)])) _
        refine XS.bipush X1.here hx rfl (hb hby d1_14) ?_
        show Steps p.tables e below (T1.setTop (mkF m 16 #[.val (.int p0)] [(.int (57 : Int32)), (.int p0)])) _
        by_cases hf5 : (57 : Int32) < p0
        · refine XS.icmpYes X1.here hx rfl (pc0 := 16) (pc' := 23) rfl (hb hby d1_16) rfl (tlt hf5).2.2.1 (by decide) (by decide) ?_
          show Steps p.tables e below (T1.setTop (mkF m 23 #[.val (.int p0)] [])) _
          refine XS.iconst X1.here hx rfl (hb hby d1_23) ?_
          show Steps p.tables e below (T1.setTop (mkF m 24 #[.val (.int p0)] [(.int (0 : Int32))])) _
          rw [show (f1_24 p0) = ((0 : Int32) : Int32) from by simp only [f1_24, if_pos hf3, if_neg hf4, if_pos hf5]] at k
          exact k
        · refine XS.icmpNo X1.here hx rfl (hb hby d1_16) rfl (flt hf5).2.2.1 ?_
          show Steps p.tables e below (T1.setTop (mkF m 19 #[.val (.int p0)] [])) _
          refine XS.iconst X1.here hx rfl (hb hby d1_19) ?_
          show Steps p.tables e below (T1.setTop (mkF m 20 #[.val (.int p0)] [(.int (1 : Int32))])) _
          refine XS.goto X1.here hx rfl (pc0 := 20) (pc' := 24) rfl (hb hby d1_20) (by decide) (by decide) ?_
          show Steps p.tables e below (T1.setTop (mkF m 24 #[.val (.int p0)] [(.int (1 : Int32))])) _
          rw [show (f1_24 p0) = ((1 : Int32) : Int32) from by simp only [f1_24, if_pos hf3, if_neg hf4, if_neg hf5]] at k
          exact k
    · refine XS.ifYes X1.here hx rfl (pc0 := 4) (pc' := 19) rfl (hb hby d1_4) rfl ((if0 _ _).trans (feq hf3).2) (by decide) (by decide) ?_
      show Steps p.tables e below (T1.setTop (mkF m 19 #[.val (.int p0)] [])) _
      refine XS.iconst X1.here hx rfl (hb hby d1_19) ?_
      show Steps p.tables e below (T1.setTop (mkF m 20 #[.val (.int p0)] [(.int (1 : Int32))])) _
      refine XS.goto X1.here hx rfl (pc0 := 20) (pc' := 24) rfl (hb hby d1_20) (by decide) (by decide) ?_
      show Steps p.tables e below (T1.setTop (mkF m 24 #[.val (.int p0)] [(.int (1 : Int32))])) _
      rw [show (f1_24 p0) = ((1 : Int32) : Int32) from by simp only [f1_24, if_neg hf3]] at k
      exact k)
  obtain ⟨fs, hr, hrun, hended, hW, hsame⟩ := X1.leave (v := some (.int ((f1_24 p0) &&& 1))) (fun h => by rw [Bd.returns] at h; cases h)
  refine ⟨_, _, pre6 _ ?_, hrun, hended, _, _, rfl, ?_, ⟨_, rfl⟩, hW, hsame.mono (by decide) (by decide)⟩
  · exact retN X1 hx (t := .boolean) Bd.returns (by simp) (hb hby d1_24) hr
  · show Q1 Z p0 h0 n0 _ T1.heap _
    rw [hh1]
    exact ⟨rfl, N1, rfl⟩
theorem pn_1 : plainName "com/example/punctual_monitor/punctualmonitor/NamesIsNamePartPinLaw" = true := by first | (simp [plainName, overriddenIn]; done) | decide +kernel
theorem ef_0 (m : MethodId) (p0 : Int32) : entryFrame m #[(.int p0)] maxLocals = mkF m 0 #[.val (.int p0), .unset, .unset, .unset, .unset, .unset, .unset, .unset] [] := by first | (simp [entryFrame, mkF, argsToLocals, Value.category, maxLocals]; done) | rfl
def f0_5 (p0 : Int32) : Int32 := ((p0 &&& (65535 : Int32)).toUInt32.toUInt16.toUInt32.toInt32)
def f0_30 (p0 : Int32) : Int32 := (if ((f0_5 p0) ||| (32 : Int32)) < (97 : Int32) then (0 : Int32) else (if (122 : Int32) < ((f0_5 p0) ||| (32 : Int32)) then (0 : Int32) else (1 : Int32)))
def f0_49 (p0 : Int32) : Int32 := (if (f0_5 p0) < (48 : Int32) then (0 : Int32) else (if (57 : Int32) < (f0_5 p0) then (0 : Int32) else (1 : Int32)))
def f0_62 (p0 : Int32) : Int32 := (if (f0_5 p0) = (95 : Int32) then (1 : Int32) else (0 : Int32))
def f0_84 (p0 : Int32) : Int32 := (if (f0_30 p0) = (0 : Int32) then (if (f0_49 p0) = (0 : Int32) then (if (f0_62 p0) = (0 : Int32) then (0 : Int32) else (1 : Int32)) else (1 : Int32)) else (1 : Int32))

def own_a (c : Int32) : Int32 := (if (c ||| (32 : Int32)) < (97 : Int32) then (0 : Int32) else (if (122 : Int32) < (c ||| (32 : Int32)) then (0 : Int32) else (1 : Int32)))
def own_b (c : Int32) : Int32 := (if c < (48 : Int32) then (0 : Int32) else (if (57 : Int32) < c then (0 : Int32) else (1 : Int32)))
def own_c (c : Int32) : Int32 := (if c = (95 : Int32) then (1 : Int32) else (0 : Int32))
def own_x (c : Int32) : Int32 := (if own_a c = (0 : Int32) then (if own_b c = (0 : Int32) then (if own_c c = (0 : Int32) then (0 : Int32) else (1 : Int32)) else (1 : Int32)) else (1 : Int32))
theorem own_low : ∀ n : Fin 128, f1_ret (n.1.toInt32) = own_x (n.1.toInt32) := by decide +kernel
theorem own_law (p0 : Int32) : f1_ret (f0_5 p0) = f0_84 p0 := by
  obtain ⟨-, h0, h1⟩ := c_i2c (p0 &&& (65535 : Int32))
  have e : f0_84 p0 = own_x (f0_5 p0) := rfl
  rw [e]
  have g0 : 0 ≤ (f0_5 p0).toInt := h0
  generalize f0_5 p0 = c at g0 ⊢
  by_cases hc : c < (128 : Int32)
  · obtain ⟨n, rfl⟩ := own_fin (c := c) (N := 128) g0 (own_lt hc) (by decide)
    exact own_low n
  · have hf : c.toInt ≤ (c ||| (32 : Int32)).toInt := (c_or0 c 32 g0 (by decide)).1
    have a1 : ¬ c < (97 : Int32) := own_nlt (own_nlt' hc) (by decide)
    have a2 : (122 : Int32) < c := own_gt (own_nlt' hc) (by decide)
    have a3 : ¬ c < (65 : Int32) := own_nlt (own_nlt' hc) (by decide)
    have a4 : (90 : Int32) < c := own_gt (own_nlt' hc) (by decide)
    have a5 : ¬ c = (95 : Int32) := own_ne (own_nlt' hc) (by decide)
    have a6 : ¬ c < (48 : Int32) := own_nlt (own_nlt' hc) (by decide)
    have a7 : (57 : Int32) < c := own_gt (own_nlt' hc) (by decide)
    have b1 : ¬ (c ||| (32 : Int32)) < (97 : Int32) := own_nlt (Int.le_trans (own_nlt' hc) hf) (by decide)
    have b2 : (122 : Int32) < (c ||| (32 : Int32)) := own_gt (Int.le_trans (own_nlt' hc) hf) (by decide)
    have k1 : f2_ret c = (0 : Int32) := by
      rw [f2_ret, f2_35, if_neg a1, if_pos a2, if_neg a3, if_pos a4, if_neg a5]; rfl
    have k2 : own_a c = (0 : Int32) := by rw [own_a, if_neg b1, if_pos b2]
    have k3 : own_b c = (0 : Int32) := by rw [own_b, if_neg a6, if_pos a7]
    have k4 : own_c c = (0 : Int32) := by rw [own_c, if_neg a5]
    rw [f1_ret, f1_24, if_pos k1, if_neg a6, if_pos a7, own_x, if_pos k2, if_pos k3, if_pos k4]
    rfl

def Q0 (Z : State) (p0 : Int32) (h0 : Heap) (n0 : Nat) (v : Option Value) (h : Heap) (L : List Loc) : Prop := v = some (.int 1) ∧ Fr n0 L
set_option maxRecDepth 65536 in
set_option maxHeartbeats 40000000 in
theorem rm0 (l : Launch) (Z : State) (a0 : Array Value) (hw : ∀ d ∈ tables_1, d.before a0 Z = true) (ws : List Jvm.Cond) (p0 : Int32) (h0 : Heap) (n0 : Nat) (Z0 : n0 ≤ h0.size)  :
    MetFree l x (head1 (Jvm.Cond.code x code maxLocals ret :: ws) room_1) (fun a U => a = #[(.int p0)] ∧ Z.Warmed39 U.vm ∧ U.heap = h0) (fun _ _ _ _ _ => True) (fun _ U o U' => ∃ v L, o = .returned v ∧ Q0 Z p0 h0 n0 v U'.heap L ∧ FrameEnd U o U' L room_1.cells room_1.slots) := by
  refine MetFree.of_bodySF (plainFor_of_name pn_1) hisR ?_
  intro p e s m args below meth c s₁ Bd hml0 hP hK
  obtain ⟨rfl, hZ, hh⟩ := hP
  have hx := Bd.exec
  have hby := Bd.bytes
  have hml : c.maxLocals = 8 := hml0
  have hown : s.vm.findClass "com/example/punctual_monitor/punctualmonitor/NamesIsNamePartPinLaw" = some m.cls := findClass_of_methodNamed Bd.named
  have hnm := (name_of_methodNamed Bd.named Bd.method).1
  have X0 : Stand p l e room_1 s m #[(.int p0)] below meth c s₁ [] 0 0 := Stand.of_body Bd
  have e0 : s₁.heap = h0 := by rw [← hh, Bd.state]; rfl
  have N0 := Fr.nil n0
  have pre0 : ∀ t, Steps p.tables e below (s₁.setTop (mkF m 0 #[.val (.int p0), .unset, .unset, .unset, .unset, .unset, .unset, .unset] [])) t → Steps p.tables e below (s₁.setTop (entryFrame m #[(.int p0)] maxLocals)) t := fun t k => castTop (ef_0 m p0) k
  have pre1 : ∀ t, Steps p.tables e below (s₁.setTop (mkF m 16 #[.val (.int p0), .val (.int (f0_5 p0)), .val (.int (f0_5 p0)), .val (.int ((f0_5 p0) ||| (32 : Int32))), .unset, .unset, .unset, .unset] [(.int (97 : Int32)), (.int ((f0_5 p0) ||| (32 : Int32)))])) t → Steps p.tables e below (s₁.setTop (entryFrame m #[(.int p0)] maxLocals)) t := fun t k => pre0 t (by
    show Steps p.tables e below (s₁.setTop (mkF m 0 #[.val (.int p0), .unset, .unset, .unset, .unset, .unset, .unset, .unset] [])) _
    refine XS.iloadN X0.here hx rfl (hb hby at_0) rfl ?_
    show Steps p.tables e below (s₁.setTop (mkF m 1 #[.val (.int p0), .unset, .unset, .unset, .unset, .unset, .unset, .unset] [(.int p0)])) _
    refine X0.ldcInt hx hown (mvT hZ (hw _ (List.mem_of_getElem? (i := 0) rfl))) (g := (mkF m 1 #[.val (.int p0), .unset, .unset, .unset, .unset, .unset, .unset, .unset] [(.int p0)])) rfl (hb hby at_1) _ ?_
    show Steps p.tables e below (s₁.setTop (mkF m 3 #[.val (.int p0), .unset, .unset, .unset, .unset, .unset, .unset, .unset] [(.int (65535 : Int32)), (.int p0)])) _
    refine XS.iand X0.here hx rfl (hb hby at_3) rfl ?_
    show Steps p.tables e below (s₁.setTop (mkF m 4 #[.val (.int p0), .unset, .unset, .unset, .unset, .unset, .unset, .unset] [(.int (p0 &&& (65535 : Int32)))])) _
    refine XS.i2c X0.here hx rfl (hb hby at_4) rfl ?_
    show Steps p.tables e below (s₁.setTop (mkF m 5 #[.val (.int p0), .unset, .unset, .unset, .unset, .unset, .unset, .unset] [(.int ((p0 &&& (65535 : Int32)).toUInt32.toUInt16.toUInt32.toInt32))])) _
    refine XS.istoreN X0.here hx rfl (hb hby at_5) rfl (l' := #[.val (.int p0), .val (.int (f0_5 p0)), .unset, .unset, .unset, .unset, .unset, .unset]) rfl ?_
    show Steps p.tables e below (s₁.setTop (mkF m 6 #[.val (.int p0), .val (.int (f0_5 p0)), .unset, .unset, .unset, .unset, .unset, .unset] [])) _
    refine XS.iloadN X0.here hx rfl (hb hby at_6) rfl ?_
    show Steps p.tables e below (s₁.setTop (mkF m 7 #[.val (.int p0), .val (.int (f0_5 p0)), .unset, .unset, .unset, .unset, .unset, .unset] [(.int (f0_5 p0))])) _
    refine XS.istoreN X0.here hx rfl (hb hby at_7) rfl (l' := #[.val (.int p0), .val (.int (f0_5 p0)), .val (.int (f0_5 p0)), .unset, .unset, .unset, .unset, .unset]) rfl ?_
    show Steps p.tables e below (s₁.setTop (mkF m 8 #[.val (.int p0), .val (.int (f0_5 p0)), .val (.int (f0_5 p0)), .unset, .unset, .unset, .unset, .unset] [])) _
    refine XS.iloadN X0.here hx rfl (hb hby at_8) rfl ?_
    show Steps p.tables e below (s₁.setTop (mkF m 9 #[.val (.int p0), .val (.int (f0_5 p0)), .val (.int (f0_5 p0)), .unset, .unset, .unset, .unset, .unset] [(.int (f0_5 p0))])) _
    refine XS.bipush X0.here hx rfl (hb hby at_9) ?_
    show Steps p.tables e below (s₁.setTop (mkF m 11 #[.val (.int p0), .val (.int (f0_5 p0)), .val (.int (f0_5 p0)), .unset, .unset, .unset, .unset, .unset] [(.int (32 : Int32)), (.int (f0_5 p0))])) _
    refine XS.ior X0.here hx rfl (hb hby at_11) rfl ?_
    show Steps p.tables e below (s₁.setTop (mkF m 12 #[.val (.int p0), .val (.int (f0_5 p0)), .val (.int (f0_5 p0)), .unset, .unset, .unset, .unset, .unset] [(.int ((f0_5 p0) ||| (32 : Int32)))])) _
    refine XS.istoreN X0.here hx rfl (hb hby at_12) rfl (l' := #[.val (.int p0), .val (.int (f0_5 p0)), .val (.int (f0_5 p0)), .val (.int ((f0_5 p0) ||| (32 : Int32))), .unset, .unset, .unset, .unset]) rfl ?_
    show Steps p.tables e below (s₁.setTop (mkF m 13 #[.val (.int p0), .val (.int (f0_5 p0)), .val (.int (f0_5 p0)), .val (.int ((f0_5 p0) ||| (32 : Int32))), .unset, .unset, .unset, .unset] [])) _
    refine XS.iloadN X0.here hx rfl (hb hby at_13) rfl ?_
    show Steps p.tables e below (s₁.setTop (mkF m 14 #[.val (.int p0), .val (.int (f0_5 p0)), .val (.int (f0_5 p0)), .val (.int ((f0_5 p0) ||| (32 : Int32))), .unset, .unset, .unset, .unset] [(.int ((f0_5 p0) ||| (32 : Int32)))])) _
    refine XS.bipush X0.here hx rfl (hb hby at_14) ?_
    show Steps p.tables e below (s₁.setTop (mkF m 16 #[.val (.int p0), .val (.int (f0_5 p0)), .val (.int (f0_5 p0)), .val (.int ((f0_5 p0) ||| (32 : Int32))), .unset, .unset, .unset, .unset] [(.int (97 : Int32)), (.int ((f0_5 p0) ||| (32 : Int32)))])) _
    exact k)
  have pre4 : ∀ t, Steps p.tables e below (s₁.setTop (mkF m 30 #[.val (.int p0), .val (.int (f0_5 p0)), .val (.int (f0_5 p0)), .val (.int ((f0_5 p0) ||| (32 : Int32))), .unset, .unset, .unset, .unset] [(.int (f0_30 p0))])) t → Steps p.tables e below (s₁.setTop (entryFrame m #[(.int p0)] maxLocals)) t := fun t k => pre1 t (by
    by_cases hf2 : ((f0_5 p0) ||| (32 : Int32)) < (97 : Int32)
    · refine XS.icmpYes X0.here hx rfl (pc0 := 16) (pc' := 29) rfl (hb hby at_16) rfl (tlt hf2).1 (by decide) (by decide) ?_
      show Steps p.tables e below (s₁.setTop (mkF m 29 #[.val (.int p0), .val (.int (f0_5 p0)), .val (.int (f0_5 p0)), .val (.int ((f0_5 p0) ||| (32 : Int32))), .unset, .unset, .unset, .unset] [])) _
      refine XS.iconst X0.here hx rfl (hb hby at_29) ?_
      show Steps p.tables e below (s₁.setTop (mkF m 30 #[.val (.int p0), .val (.int (f0_5 p0)), .val (.int (f0_5 p0)), .val (.int ((f0_5 p0) ||| (32 : Int32))), .unset, .unset, .unset, .unset] [(.int (0 : Int32))])) _
      rw [show (f0_30 p0) = ((0 : Int32) : Int32) from by simp only [f0_30, if_pos hf2]] at k
      exact k
    · refine XS.icmpNo X0.here hx rfl (hb hby at_16) rfl (flt hf2).1 ?_
      show Steps p.tables e below (s₁.setTop (mkF m 19 #[.val (.int p0), .val (.int (f0_5 p0)), .val (.int (f0_5 p0)), .val (.int ((f0_5 p0) ||| (32 : Int32))), .unset, .unset, .unset, .unset] [])) _
      refine XS.iloadN X0.here hx rfl (hb hby at_19) rfl ?_
      show Steps p.tables e below (s₁.setTop (mkF m 20 #[.val (.int p0), .val (.int (f0_5 p0)), .val (.int (f0_5 p0)), .val (.int ((f0_5 p0) ||| (32 : Int32))), .unset, .unset, .unset, .unset] [(.int ((f0_5 p0) ||| (32 : Int32)))])) _
      refine XS.bipush X0.here hx rfl (hb hby at_20) ?_
      show Steps p.tables e below (s₁.setTop (mkF m 22 #[.val (.int p0), .val (.int (f0_5 p0)), .val (.int (f0_5 p0)), .val (.int ((f0_5 p0) ||| (32 : Int32))), .unset, .unset, .unset, .unset] [(.int (122 : Int32)), (.int ((f0_5 p0) ||| (32 : Int32)))])) _
      by_cases hf3 : (122 : Int32) < ((f0_5 p0) ||| (32 : Int32))
      · refine XS.icmpYes X0.here hx rfl (pc0 := 22) (pc' := 29) rfl (hb hby at_22) rfl (tlt hf3).2.2.1 (by decide) (by decide) ?_
        show Steps p.tables e below (s₁.setTop (mkF m 29 #[.val (.int p0), .val (.int (f0_5 p0)), .val (.int (f0_5 p0)), .val (.int ((f0_5 p0) ||| (32 : Int32))), .unset, .unset, .unset, .unset] [])) _
        refine XS.iconst X0.here hx rfl (hb hby at_29) ?_
        show Steps p.tables e below (s₁.setTop (mkF m 30 #[.val (.int p0), .val (.int (f0_5 p0)), .val (.int (f0_5 p0)), .val (.int ((f0_5 p0) ||| (32 : Int32))), .unset, .unset, .unset, .unset] [(.int (0 : Int32))])) _
        rw [show (f0_30 p0) = ((0 : Int32) : Int32) from by simp only [f0_30, if_neg hf2, if_pos hf3]] at k
        exact k
      · refine XS.icmpNo X0.here hx rfl (hb hby at_22) rfl (flt hf3).2.2.1 ?_
        show Steps p.tables e below (s₁.setTop (mkF m 25 #[.val (.int p0), .val (.int (f0_5 p0)), .val (.int (f0_5 p0)), .val (.int ((f0_5 p0) ||| (32 : Int32))), .unset, .unset, .unset, .unset] [])) _
        refine XS.iconst X0.here hx rfl (hb hby at_25) ?_
        show Steps p.tables e below (s₁.setTop (mkF m 26 #[.val (.int p0), .val (.int (f0_5 p0)), .val (.int (f0_5 p0)), .val (.int ((f0_5 p0) ||| (32 : Int32))), .unset, .unset, .unset, .unset] [(.int (1 : Int32))])) _
        refine XS.goto X0.here hx rfl (pc0 := 26) (pc' := 30) rfl (hb hby at_26) (by decide) (by decide) ?_
        show Steps p.tables e below (s₁.setTop (mkF m 30 #[.val (.int p0), .val (.int (f0_5 p0)), .val (.int (f0_5 p0)), .val (.int ((f0_5 p0) ||| (32 : Int32))), .unset, .unset, .unset, .unset] [(.int (1 : Int32))])) _
        rw [show (f0_30 p0) = ((1 : Int32) : Int32) from by simp only [f0_30, if_neg hf2, if_neg hf3]] at k
        exact k)
  have pre5 : ∀ t, Steps p.tables e below (s₁.setTop (mkF m 35 #[.val (.int p0), .val (.int (f0_5 p0)), .val (.int (f0_5 p0)), .val (.int ((f0_5 p0) ||| (32 : Int32))), .val (.int (f0_30 p0)), .unset, .unset, .unset] [(.int (48 : Int32)), (.int (f0_5 p0))])) t → Steps p.tables e below (s₁.setTop (entryFrame m #[(.int p0)] maxLocals)) t := fun t k => pre4 t (by
    refine XS.istore X0.here hx rfl (hb hby at_30) rfl (l' := #[.val (.int p0), .val (.int (f0_5 p0)), .val (.int (f0_5 p0)), .val (.int ((f0_5 p0) ||| (32 : Int32))), .val (.int (f0_30 p0)), .unset, .unset, .unset]) rfl ?_
    show Steps p.tables e below (s₁.setTop (mkF m 32 #[.val (.int p0), .val (.int (f0_5 p0)), .val (.int (f0_5 p0)), .val (.int ((f0_5 p0) ||| (32 : Int32))), .val (.int (f0_30 p0)), .unset, .unset, .unset] [])) _
    refine XS.iloadN X0.here hx rfl (hb hby at_32) rfl ?_
    show Steps p.tables e below (s₁.setTop (mkF m 33 #[.val (.int p0), .val (.int (f0_5 p0)), .val (.int (f0_5 p0)), .val (.int ((f0_5 p0) ||| (32 : Int32))), .val (.int (f0_30 p0)), .unset, .unset, .unset] [(.int (f0_5 p0))])) _
    refine XS.bipush X0.here hx rfl (hb hby at_33) ?_
    show Steps p.tables e below (s₁.setTop (mkF m 35 #[.val (.int p0), .val (.int (f0_5 p0)), .val (.int (f0_5 p0)), .val (.int ((f0_5 p0) ||| (32 : Int32))), .val (.int (f0_30 p0)), .unset, .unset, .unset] [(.int (48 : Int32)), (.int (f0_5 p0))])) _
    exact k)
  have pre8 : ∀ t, Steps p.tables e below (s₁.setTop (mkF m 49 #[.val (.int p0), .val (.int (f0_5 p0)), .val (.int (f0_5 p0)), .val (.int ((f0_5 p0) ||| (32 : Int32))), .val (.int (f0_30 p0)), .unset, .unset, .unset] [(.int (f0_49 p0))])) t → Steps p.tables e below (s₁.setTop (entryFrame m #[(.int p0)] maxLocals)) t := fun t k => pre5 t (by
    by_cases hf6 : (f0_5 p0) < (48 : Int32)
    · refine XS.icmpYes X0.here hx rfl (pc0 := 35) (pc' := 48) rfl (hb hby at_35) rfl (tlt hf6).1 (by decide) (by decide) ?_
      show Steps p.tables e below (s₁.setTop (mkF m 48 #[.val (.int p0), .val (.int (f0_5 p0)), .val (.int (f0_5 p0)), .val (.int ((f0_5 p0) ||| (32 : Int32))), .val (.int (f0_30 p0)), .unset, .unset, .unset] [])) _
      refine XS.iconst X0.here hx rfl (hb hby at_48) ?_
      show Steps p.tables e below (s₁.setTop (mkF m 49 #[.val (.int p0), .val (.int (f0_5 p0)), .val (.int (f0_5 p0)), .val (.int ((f0_5 p0) ||| (32 : Int32))), .val (.int (f0_30 p0)), .unset, .unset, .unset] [(.int (0 : Int32))])) _
      rw [show (f0_49 p0) = ((0 : Int32) : Int32) from by simp only [f0_49, if_pos hf6]] at k
      exact k
    · refine XS.icmpNo X0.here hx rfl (hb hby at_35) rfl (flt hf6).1 ?_
      show Steps p.tables e below (s₁.setTop (mkF m 38 #[.val (.int p0), .val (.int (f0_5 p0)), .val (.int (f0_5 p0)), .val (.int ((f0_5 p0) ||| (32 : Int32))), .val (.int (f0_30 p0)), .unset, .unset, .unset] [])) _
      refine XS.iloadN X0.here hx rfl (hb hby at_38) rfl ?_
      show Steps p.tables e below (s₁.setTop (mkF m 39 #[.val (.int p0), .val (.int (f0_5 p0)), .val (.int (f0_5 p0)), .val (.int ((f0_5 p0) ||| (32 : Int32))), .val (.int (f0_30 p0)), .unset, .unset, .unset] [(.int (f0_5 p0))])) _
      refine XS.bipush X0.here hx rfl (hb hby at_39) ?_
      show Steps p.tables e below (s₁.setTop (mkF m 41 #[.val (.int p0), .val (.int (f0_5 p0)), .val (.int (f0_5 p0)), .val (.int ((f0_5 p0) ||| (32 : Int32))), .val (.int (f0_30 p0)), .unset, .unset, .unset] [(.int (57 : Int32)), (.int (f0_5 p0))])) _
      by_cases hf7 : (57 : Int32) < (f0_5 p0)
      · refine XS.icmpYes X0.here hx rfl (pc0 := 41) (pc' := 48) rfl (hb hby at_41) rfl (tlt hf7).2.2.1 (by decide) (by decide) ?_
        show Steps p.tables e below (s₁.setTop (mkF m 48 #[.val (.int p0), .val (.int (f0_5 p0)), .val (.int (f0_5 p0)), .val (.int ((f0_5 p0) ||| (32 : Int32))), .val (.int (f0_30 p0)), .unset, .unset, .unset] [])) _
        refine XS.iconst X0.here hx rfl (hb hby at_48) ?_
        show Steps p.tables e below (s₁.setTop (mkF m 49 #[.val (.int p0), .val (.int (f0_5 p0)), .val (.int (f0_5 p0)), .val (.int ((f0_5 p0) ||| (32 : Int32))), .val (.int (f0_30 p0)), .unset, .unset, .unset] [(.int (0 : Int32))])) _
        rw [show (f0_49 p0) = ((0 : Int32) : Int32) from by simp only [f0_49, if_neg hf6, if_pos hf7]] at k
        exact k
      · refine XS.icmpNo X0.here hx rfl (hb hby at_41) rfl (flt hf7).2.2.1 ?_
        show Steps p.tables e below (s₁.setTop (mkF m 44 #[.val (.int p0), .val (.int (f0_5 p0)), .val (.int (f0_5 p0)), .val (.int ((f0_5 p0) ||| (32 : Int32))), .val (.int (f0_30 p0)), .unset, .unset, .unset] [])) _
        refine XS.iconst X0.here hx rfl (hb hby at_44) ?_
        show Steps p.tables e below (s₁.setTop (mkF m 45 #[.val (.int p0), .val (.int (f0_5 p0)), .val (.int (f0_5 p0)), .val (.int ((f0_5 p0) ||| (32 : Int32))), .val (.int (f0_30 p0)), .unset, .unset, .unset] [(.int (1 : Int32))])) _
        refine XS.goto X0.here hx rfl (pc0 := 45) (pc' := 49) rfl (hb hby at_45) (by decide) (by decide) ?_
        show Steps p.tables e below (s₁.setTop (mkF m 49 #[.val (.int p0), .val (.int (f0_5 p0)), .val (.int (f0_5 p0)), .val (.int ((f0_5 p0) ||| (32 : Int32))), .val (.int (f0_30 p0)), .unset, .unset, .unset] [(.int (1 : Int32))])) _
        rw [show (f0_49 p0) = ((1 : Int32) : Int32) from by simp only [f0_49, if_neg hf6, if_neg hf7]] at k
        exact k)
  have pre9 : ∀ t, Steps p.tables e below (s₁.setTop (mkF m 54 #[.val (.int p0), .val (.int (f0_5 p0)), .val (.int (f0_5 p0)), .val (.int ((f0_5 p0) ||| (32 : Int32))), .val (.int (f0_30 p0)), .val (.int (f0_49 p0)), .unset, .unset] [(.int (95 : Int32)), (.int (f0_5 p0))])) t → Steps p.tables e below (s₁.setTop (entryFrame m #[(.int p0)] maxLocals)) t := fun t k => pre8 t (by
    refine XS.istore X0.here hx rfl (hb hby at_49) rfl (l' := #[.val (.int p0), .val (.int (f0_5 p0)), .val (.int (f0_5 p0)), .val (.int ((f0_5 p0) ||| (32 : Int32))), .val (.int (f0_30 p0)), .val (.int (f0_49 p0)), .unset, .unset]) rfl ?_
    show Steps p.tables e below (s₁.setTop (mkF m 51 #[.val (.int p0), .val (.int (f0_5 p0)), .val (.int (f0_5 p0)), .val (.int ((f0_5 p0) ||| (32 : Int32))), .val (.int (f0_30 p0)), .val (.int (f0_49 p0)), .unset, .unset] [])) _
    refine XS.iloadN X0.here hx rfl (hb hby at_51) rfl ?_
    show Steps p.tables e below (s₁.setTop (mkF m 52 #[.val (.int p0), .val (.int (f0_5 p0)), .val (.int (f0_5 p0)), .val (.int ((f0_5 p0) ||| (32 : Int32))), .val (.int (f0_30 p0)), .val (.int (f0_49 p0)), .unset, .unset] [(.int (f0_5 p0))])) _
    refine XS.bipush X0.here hx rfl (hb hby at_52) ?_
    show Steps p.tables e below (s₁.setTop (mkF m 54 #[.val (.int p0), .val (.int (f0_5 p0)), .val (.int (f0_5 p0)), .val (.int ((f0_5 p0) ||| (32 : Int32))), .val (.int (f0_30 p0)), .val (.int (f0_49 p0)), .unset, .unset] [(.int (95 : Int32)), (.int (f0_5 p0))])) _
    exact k)
  have pre11 : ∀ t, Steps p.tables e below (s₁.setTop (mkF m 62 #[.val (.int p0), .val (.int (f0_5 p0)), .val (.int (f0_5 p0)), .val (.int ((f0_5 p0) ||| (32 : Int32))), .val (.int (f0_30 p0)), .val (.int (f0_49 p0)), .unset, .unset] [(.int (f0_62 p0))])) t → Steps p.tables e below (s₁.setTop (entryFrame m #[(.int p0)] maxLocals)) t := fun t k => pre9 t (by
    by_cases hf10 : (f0_5 p0) = (95 : Int32)
    · refine XS.icmpNo X0.here hx rfl (hb hby at_54) rfl (teq hf10).2 ?_
      show Steps p.tables e below (s₁.setTop (mkF m 57 #[.val (.int p0), .val (.int (f0_5 p0)), .val (.int (f0_5 p0)), .val (.int ((f0_5 p0) ||| (32 : Int32))), .val (.int (f0_30 p0)), .val (.int (f0_49 p0)), .unset, .unset] [])) _
      refine XS.iconst X0.here hx rfl (hb hby at_57) ?_
      show Steps p.tables e below (s₁.setTop (mkF m 58 #[.val (.int p0), .val (.int (f0_5 p0)), .val (.int (f0_5 p0)), .val (.int ((f0_5 p0) ||| (32 : Int32))), .val (.int (f0_30 p0)), .val (.int (f0_49 p0)), .unset, .unset] [(.int (1 : Int32))])) _
      refine XS.goto X0.here hx rfl (pc0 := 58) (pc' := 62) rfl (hb hby at_58) (by decide) (by decide) ?_
      show Steps p.tables e below (s₁.setTop (mkF m 62 #[.val (.int p0), .val (.int (f0_5 p0)), .val (.int (f0_5 p0)), .val (.int ((f0_5 p0) ||| (32 : Int32))), .val (.int (f0_30 p0)), .val (.int (f0_49 p0)), .unset, .unset] [(.int (1 : Int32))])) _
      rw [show (f0_62 p0) = ((1 : Int32) : Int32) from by simp only [f0_62, if_pos hf10]] at k
      exact k
    · refine XS.icmpYes X0.here hx rfl (pc0 := 54) (pc' := 61) rfl (hb hby at_54) rfl (feq hf10).2 (by decide) (by decide) ?_
      show Steps p.tables e below (s₁.setTop (mkF m 61 #[.val (.int p0), .val (.int (f0_5 p0)), .val (.int (f0_5 p0)), .val (.int ((f0_5 p0) ||| (32 : Int32))), .val (.int (f0_30 p0)), .val (.int (f0_49 p0)), .unset, .unset] [])) _
      refine XS.iconst X0.here hx rfl (hb hby at_61) ?_
      show Steps p.tables e below (s₁.setTop (mkF m 62 #[.val (.int p0), .val (.int (f0_5 p0)), .val (.int (f0_5 p0)), .val (.int ((f0_5 p0) ||| (32 : Int32))), .val (.int (f0_30 p0)), .val (.int (f0_49 p0)), .unset, .unset] [(.int (0 : Int32))])) _
      rw [show (f0_62 p0) = ((0 : Int32) : Int32) from by simp only [f0_62, if_neg hf10]] at k
      exact k)
  have pre12 : ∀ t, Steps p.tables e below (s₁.setTop (mkF m 66 #[.val (.int p0), .val (.int (f0_5 p0)), .val (.int (f0_5 p0)), .val (.int ((f0_5 p0) ||| (32 : Int32))), .val (.int (f0_30 p0)), .val (.int (f0_49 p0)), .val (.int (f0_62 p0)), .unset] [(.int (f0_30 p0))])) t → Steps p.tables e below (s₁.setTop (entryFrame m #[(.int p0)] maxLocals)) t := fun t k => pre11 t (by
    refine XS.istore X0.here hx rfl (hb hby at_62) rfl (l' := #[.val (.int p0), .val (.int (f0_5 p0)), .val (.int (f0_5 p0)), .val (.int ((f0_5 p0) ||| (32 : Int32))), .val (.int (f0_30 p0)), .val (.int (f0_49 p0)), .val (.int (f0_62 p0)), .unset]) rfl ?_
    show Steps p.tables e below (s₁.setTop (mkF m 64 #[.val (.int p0), .val (.int (f0_5 p0)), .val (.int (f0_5 p0)), .val (.int ((f0_5 p0) ||| (32 : Int32))), .val (.int (f0_30 p0)), .val (.int (f0_49 p0)), .val (.int (f0_62 p0)), .unset] [])) _
    refine XS.iload X0.here hx rfl (hb hby at_64) rfl ?_
    show Steps p.tables e below (s₁.setTop (mkF m 66 #[.val (.int p0), .val (.int (f0_5 p0)), .val (.int (f0_5 p0)), .val (.int ((f0_5 p0) ||| (32 : Int32))), .val (.int (f0_30 p0)), .val (.int (f0_49 p0)), .val (.int (f0_62 p0)), .unset] [(.int (f0_30 p0))])) _
    exact k)
  have pre16 : ∀ t, Steps p.tables e below (s₁.setTop (mkF m 84 #[.val (.int p0), .val (.int (f0_5 p0)), .val (.int (f0_5 p0)), .val (.int ((f0_5 p0) ||| (32 : Int32))), .val (.int (f0_30 p0)), .val (.int (f0_49 p0)), .val (.int (f0_62 p0)), .unset] [(.int (f0_84 p0))])) t → Steps p.tables e below (s₁.setTop (entryFrame m #[(.int p0)] maxLocals)) t := fun t k => pre12 t (by
    by_cases hf13 : (f0_30 p0) = (0 : Int32)
    · refine XS.ifNo X0.here hx rfl (hb hby at_66) rfl ((if0 _ _).trans (teq hf13).2) ?_
      show Steps p.tables e below (s₁.setTop (mkF m 69 #[.val (.int p0), .val (.int (f0_5 p0)), .val (.int (f0_5 p0)), .val (.int ((f0_5 p0) ||| (32 : Int32))), .val (.int (f0_30 p0)), .val (.int (f0_49 p0)), .val (.int (f0_62 p0)), .unset] [])) _
      refine XS.iload X0.here hx rfl (hb hby at_69) rfl ?_
      show Steps p.tables e below (s₁.setTop (mkF m 71 #[.val (.int p0), .val (.int (f0_5 p0)), .val (.int (f0_5 p0)), .val (.int ((f0_5 p0) ||| (32 : Int32))), .val (.int (f0_30 p0)), .val (.int (f0_49 p0)), .val (.int (f0_62 p0)), .unset] [(.int (f0_49 p0))])) _
      by_cases hf14 : (f0_49 p0) = (0 : Int32)
      · refine XS.ifNo X0.here hx rfl (hb hby at_71) rfl ((if0 _ _).trans (teq hf14).2) ?_
        show Steps p.tables e below (s₁.setTop (mkF m 74 #[.val (.int p0), .val (.int (f0_5 p0)), .val (.int (f0_5 p0)), .val (.int ((f0_5 p0) ||| (32 : Int32))), .val (.int (f0_30 p0)), .val (.int (f0_49 p0)), .val (.int (f0_62 p0)), .unset] [])) _
        refine XS.iload X0.here hx rfl (hb hby at_74) rfl ?_
        show Steps p.tables e below (s₁.setTop (mkF m 76 #[.val (.int p0), .val (.int (f0_5 p0)), .val (.int (f0_5 p0)), .val (.int ((f0_5 p0) ||| (32 : Int32))), .val (.int (f0_30 p0)), .val (.int (f0_49 p0)), .val (.int (f0_62 p0)), .unset] [(.int (f0_62 p0))])) _
        by_cases hf15 : (f0_62 p0) = (0 : Int32)
        · refine XS.ifYes X0.here hx rfl (pc0 := 76) (pc' := 83) rfl (hb hby at_76) rfl ((if0 _ _).trans (teq hf15).1) (by decide) (by decide) ?_
          show Steps p.tables e below (s₁.setTop (mkF m 83 #[.val (.int p0), .val (.int (f0_5 p0)), .val (.int (f0_5 p0)), .val (.int ((f0_5 p0) ||| (32 : Int32))), .val (.int (f0_30 p0)), .val (.int (f0_49 p0)), .val (.int (f0_62 p0)), .unset] [])) _
          refine XS.iconst X0.here hx rfl (hb hby at_83) ?_
          show Steps p.tables e below (s₁.setTop (mkF m 84 #[.val (.int p0), .val (.int (f0_5 p0)), .val (.int (f0_5 p0)), .val (.int ((f0_5 p0) ||| (32 : Int32))), .val (.int (f0_30 p0)), .val (.int (f0_49 p0)), .val (.int (f0_62 p0)), .unset] [(.int (0 : Int32))])) _
          rw [show (f0_84 p0) = ((0 : Int32) : Int32) from by simp only [f0_84, if_pos hf13, if_pos hf14, if_pos hf15]] at k
          exact k
        · refine XS.ifNo X0.here hx rfl (hb hby at_76) rfl ((if0 _ _).trans (feq hf15).1) ?_
          show Steps p.tables e below (s₁.setTop (mkF m 79 #[.val (.int p0), .val (.int (f0_5 p0)), .val (.int (f0_5 p0)), .val (.int ((f0_5 p0) ||| (32 : Int32))), .val (.int (f0_30 p0)), .val (.int (f0_49 p0)), .val (.int (f0_62 p0)), .unset] [])) _
          refine XS.iconst X0.here hx rfl (hb hby at_79) ?_
          show Steps p.tables e below (s₁.setTop (mkF m 80 #[.val (.int p0), .val (.int (f0_5 p0)), .val (.int (f0_5 p0)), .val (.int ((f0_5 p0) ||| (32 : Int32))), .val (.int (f0_30 p0)), .val (.int (f0_49 p0)), .val (.int (f0_62 p0)), .unset] [(.int (1 : Int32))])) _
          refine XS.goto X0.here hx rfl (pc0 := 80) (pc' := 84) rfl (hb hby at_80) (by decide) (by decide) ?_
          show Steps p.tables e below (s₁.setTop (mkF m 84 #[.val (.int p0), .val (.int (f0_5 p0)), .val (.int (f0_5 p0)), .val (.int ((f0_5 p0) ||| (32 : Int32))), .val (.int (f0_30 p0)), .val (.int (f0_49 p0)), .val (.int (f0_62 p0)), .unset] [(.int (1 : Int32))])) _
          rw [show (f0_84 p0) = ((1 : Int32) : Int32) from by simp only [f0_84, if_pos hf13, if_pos hf14, if_neg hf15]] at k
          exact k
      · refine XS.ifYes X0.here hx rfl (pc0 := 71) (pc' := 79) rfl (hb hby at_71) rfl ((if0 _ _).trans (feq hf14).2) (by decide) (by decide) ?_
        show Steps p.tables e below (s₁.setTop (mkF m 79 #[.val (.int p0), .val (.int (f0_5 p0)), .val (.int (f0_5 p0)), .val (.int ((f0_5 p0) ||| (32 : Int32))), .val (.int (f0_30 p0)), .val (.int (f0_49 p0)), .val (.int (f0_62 p0)), .unset] [])) _
        refine XS.iconst X0.here hx rfl (hb hby at_79) ?_
        show Steps p.tables e below (s₁.setTop (mkF m 80 #[.val (.int p0), .val (.int (f0_5 p0)), .val (.int (f0_5 p0)), .val (.int ((f0_5 p0) ||| (32 : Int32))), .val (.int (f0_30 p0)), .val (.int (f0_49 p0)), .val (.int (f0_62 p0)), .unset] [(.int (1 : Int32))])) _
        refine XS.goto X0.here hx rfl (pc0 := 80) (pc' := 84) rfl (hb hby at_80) (by decide) (by decide) ?_
        show Steps p.tables e below (s₁.setTop (mkF m 84 #[.val (.int p0), .val (.int (f0_5 p0)), .val (.int (f0_5 p0)), .val (.int ((f0_5 p0) ||| (32 : Int32))), .val (.int (f0_30 p0)), .val (.int (f0_49 p0)), .val (.int (f0_62 p0)), .unset] [(.int (1 : Int32))])) _
        rw [show (f0_84 p0) = ((1 : Int32) : Int32) from by simp only [f0_84, if_pos hf13, if_neg hf14]] at k
        exact k
    · refine XS.ifYes X0.here hx rfl (pc0 := 66) (pc' := 79) rfl (hb hby at_66) rfl ((if0 _ _).trans (feq hf13).2) (by decide) (by decide) ?_
      show Steps p.tables e below (s₁.setTop (mkF m 79 #[.val (.int p0), .val (.int (f0_5 p0)), .val (.int (f0_5 p0)), .val (.int ((f0_5 p0) ||| (32 : Int32))), .val (.int (f0_30 p0)), .val (.int (f0_49 p0)), .val (.int (f0_62 p0)), .unset] [])) _
      refine XS.iconst X0.here hx rfl (hb hby at_79) ?_
      show Steps p.tables e below (s₁.setTop (mkF m 80 #[.val (.int p0), .val (.int (f0_5 p0)), .val (.int (f0_5 p0)), .val (.int ((f0_5 p0) ||| (32 : Int32))), .val (.int (f0_30 p0)), .val (.int (f0_49 p0)), .val (.int (f0_62 p0)), .unset] [(.int (1 : Int32))])) _
      refine XS.goto X0.here hx rfl (pc0 := 80) (pc' := 84) rfl (hb hby at_80) (by decide) (by decide) ?_
      show Steps p.tables e below (s₁.setTop (mkF m 84 #[.val (.int p0), .val (.int (f0_5 p0)), .val (.int (f0_5 p0)), .val (.int ((f0_5 p0) ||| (32 : Int32))), .val (.int (f0_30 p0)), .val (.int (f0_49 p0)), .val (.int (f0_62 p0)), .unset] [(.int (1 : Int32))])) _
      rw [show (f0_84 p0) = ((1 : Int32) : Int32) from by simp only [f0_84, if_neg hf13]] at k
      exact k)
  obtain ⟨_, _, ⟨T17, L17, k17, n17⟩, -, X17, ⟨Lc17, hQ17, l17, y17, z17⟩, st17⟩ := Jvm.LawKit.callS X0 hx (y := (⟨"com/example/punctual_monitor/punctualmonitor/Names", "isNamePart", "(C)Z"⟩ : MethodName)) hown (mvT hZ (hw _ (List.mem_of_getElem? (i := 1) rfl))) (mvT hZ (hw _ (List.mem_of_getElem? (i := 2) rfl))) (mvT hZ (hw _ (List.mem_of_getElem? (i := 3) rfl))) (mvT hZ (hw _ (List.mem_of_getElem? (i := 4) rfl))) (by decide) (backOf (W := 0) (rm1 l Z a0 hw [] (f0_5 p0) h0 n0 Z0) hZ (hw _ (List.mem_of_getElem? (i := 4) rfl)) (hw _ (List.mem_of_getElem? (i := 3) rfl)) (by decide) (by decide)) (g := (mkF m 87 #[.val (.int p0), .val (.int (f0_5 p0)), .val (.int (f0_5 p0)), .val (.int ((f0_5 p0) ||| (32 : Int32))), .val (.int (f0_30 p0)), .val (.int (f0_49 p0)), .val (.int (f0_62 p0)), .val (.int (f0_84 p0))] [(.int (f0_5 p0))])) rfl (by rw [hml]; rfl) (argsL := [(.int (f0_5 p0))]) (rest := []) (lenOf pd_0 rfl) rfl (by show 2 * 0 + _ ≤ _; exact Nat.le_of_eq rfl) (hb hby at_87) (fun _ _ => ⟨rfl, e0, (by decide : 0 + 0 ≤ _), (by decide : 0 + 0 ≤ _)⟩)
  dsimp only [Pt.U, Pt.locs, Pt.cells, Pt.slots] at X17 l17 y17 z17 st17 hQ17
  subst l17 y17 z17
  obtain ⟨rfl, N17q, hh17⟩ := hQ17
  have N17 := Fr.app N0 N17q
  have pre18 : ∀ t, Steps p.tables e below (T17.setTop (mkF m 100 #[.val (.int p0), .val (.int (f0_5 p0)), .val (.int (f0_5 p0)), .val (.int ((f0_5 p0) ||| (32 : Int32))), .val (.int (f0_30 p0)), .val (.int (f0_49 p0)), .val (.int (f0_62 p0)), .val (.int (f0_84 p0))] [(.int (1 : Int32))])) t → Steps p.tables e below (s₁.setTop (entryFrame m #[(.int p0)] maxLocals)) t := fun t k => pre16 t (by
    refine XS.istore X0.here hx rfl (hb hby at_84) rfl (l' := #[.val (.int p0), .val (.int (f0_5 p0)), .val (.int (f0_5 p0)), .val (.int ((f0_5 p0) ||| (32 : Int32))), .val (.int (f0_30 p0)), .val (.int (f0_49 p0)), .val (.int (f0_62 p0)), .val (.int (f0_84 p0))]) rfl ?_
    show Steps p.tables e below (s₁.setTop (mkF m 86 #[.val (.int p0), .val (.int (f0_5 p0)), .val (.int (f0_5 p0)), .val (.int ((f0_5 p0) ||| (32 : Int32))), .val (.int (f0_30 p0)), .val (.int (f0_49 p0)), .val (.int (f0_62 p0)), .val (.int (f0_84 p0))] [])) _
    refine XS.iloadN X0.here hx rfl (hb hby at_86) rfl ?_
    show Steps p.tables e below (s₁.setTop (mkF m 87 #[.val (.int p0), .val (.int (f0_5 p0)), .val (.int (f0_5 p0)), .val (.int ((f0_5 p0) ||| (32 : Int32))), .val (.int (f0_30 p0)), .val (.int (f0_49 p0)), .val (.int (f0_62 p0)), .val (.int (f0_84 p0))] [(.int (f0_5 p0))])) _
    refine st17 _ ?_
    show Steps p.tables e below (T17.setTop (mkF m 90 #[.val (.int p0), .val (.int (f0_5 p0)), .val (.int (f0_5 p0)), .val (.int ((f0_5 p0) ||| (32 : Int32))), .val (.int (f0_30 p0)), .val (.int (f0_49 p0)), .val (.int (f0_62 p0)), .val (.int (f0_84 p0))] [(.int (f1_ret (f0_5 p0)))])) _
    refine XS.iload X17.here hx rfl (hb hby at_90) rfl ?_
    show Steps p.tables e below (T17.setTop (mkF m 92 #[.val (.int p0), .val (.int (f0_5 p0)), .val (.int (f0_5 p0)), .val (.int ((f0_5 p0) ||| (32 : Int32))), .val (.int (f0_30 p0)), .val (.int (f0_49 p0)), .val (.int (f0_62 p0)), .val (.int (f0_84 p0))] [(.int (f0_84 p0)), (.int (f1_ret (f0_5 p0)))])) _
    refine XS.icmpNo X17.here hx rfl (hb hby at_92) rfl (teq (show (f1_ret (f0_5 p0)) = (f0_84 p0) from own_law _)).2 ?_
    show Steps p.tables e below (T17.setTop (mkF m 95 #[.val (.int p0), .val (.int (f0_5 p0)), .val (.int (f0_5 p0)), .val (.int ((f0_5 p0) ||| (32 : Int32))), .val (.int (f0_30 p0)), .val (.int (f0_49 p0)), .val (.int (f0_62 p0)), .val (.int (f0_84 p0))] [])) _
    refine XS.iconst X17.here hx rfl (hb hby at_95) ?_
    show Steps p.tables e below (T17.setTop (mkF m 96 #[.val (.int p0), .val (.int (f0_5 p0)), .val (.int (f0_5 p0)), .val (.int ((f0_5 p0) ||| (32 : Int32))), .val (.int (f0_30 p0)), .val (.int (f0_49 p0)), .val (.int (f0_62 p0)), .val (.int (f0_84 p0))] [(.int (1 : Int32))])) _
    refine XS.goto X17.here hx rfl (pc0 := 96) (pc' := 100) rfl (hb hby at_96) (by decide) (by decide) ?_
    show Steps p.tables e below (T17.setTop (mkF m 100 #[.val (.int p0), .val (.int (f0_5 p0)), .val (.int (f0_5 p0)), .val (.int ((f0_5 p0) ||| (32 : Int32))), .val (.int (f0_30 p0)), .val (.int (f0_49 p0)), .val (.int (f0_62 p0)), .val (.int (f0_84 p0))] [(.int (1 : Int32))])) _
    exact k)
  obtain ⟨fs, hr, hrun, hended, hW, hsame⟩ := X17.leave (v := some (.int (1 : Int32))) (fun h => by rw [Bd.returns] at h; cases h)
  refine ⟨_, _, pre18 _ ?_, hrun, hended, _, _, rfl, ?_, ⟨_, rfl⟩, hW, hsame.mono (by decide) (by decide)⟩
  · exact retN X17 hx (t := .boolean) Bd.returns (by simp) (hb hby at_100) hr
  · show Q0 Z p0 h0 n0 _ T17.heap _
    rw [hh17]
    exact ⟨rfl, N17⟩
set_option maxRecDepth 65536 in
set_option maxHeartbeats 40000000 in
theorem comes_1 {Post : Tables → Env → Array Value → State → Outcome → State → Prop} (hpost : ∀ tb e args s v u, (limb_1_1.after args s (.returned v) u = true ∧ limb_1_2.after args s (.returned v) u = true ∧ True) → FrameEnd s (.returned v) u (Jvm.fieldLocs frame_1_writes args s ++ Jvm.arrayLocs frame_1_arrays args s ++ Jvm.staticLocs frame_1_statics s) 0 0 → Post tb e args s (.returned v) u) :
    ArmFor flags0 classFile x code maxLocals ret World_1 tables_1 room_1 Calls_1 rest_1 Pre_1 Post := by
  intro l hfl _ _ p e ha hc hk s m args below hf hA hF happ hP
  obtain ⟨hcalls, hrest, hpre⟩ := hP
  obtain ⟨-, -, -, hnamed, -, -, -, hat⟩ := (Spec.applies_iff hf).mp happ
  obtain ⟨hg, hn⟩ := and_e (Cond.before_iff.mp (show (Jvm.Cond.and given_1 narrow_1).before args s = true from hpre))
  obtain ⟨h1, g0⟩ := and_e hg
  obtain ⟨w0, rfl⟩ : ∃ w0 : Value, args = #[w0] := by
    have hs : args.size = 1 := by simpa [Cond.value, given_1] using h1
    obtain ⟨L⟩ := args
    match L, hs with
    | [w0], _ => exact ⟨w0, rfl⟩
  have hw := fun d (hd : d ∈ tables_1) => atoms_spec (ws := Jvm.Cond.code x code maxLocals ret :: tables_1) hat d (List.mem_cons_of_mem _ hd)
  have hfit : Fit s := fun {y c} hc i hi => by
    obtain ⟨ha, rfl⟩ := Array.getElem?_eq_some_iff.mp hc
    have q := List.all_eq_true.mp ((Array.all_eq_true_iff_forall_mem.mp hF) _ (Array.getElem_mem ha)) i (List.mem_range.mpr hi)
    simpa [Array.getElem?_eq_getElem hi] using q
  obtain ⟨i0, e0⟩ := is_v g0
  obtain rfl : w0 = (.int i0) := Option.some.inj e0
  obtain ⟨n, o, h1, h2, h3, _, L, rfl, ⟨rfl, N⟩, hq⟩ := rm0 l s _ hw tables_1 i0  s.heap s.heap.size (Nat.le_refl _)  p e ha hc hk s m _ below hf ((Spec.applies_iff_loose hf).mp happ).1 ⟨rfl, State.Warmed39.refl s, rfl⟩ trivial
  refine ⟨n, _, h1, h2, h3, hpost _ _ _ _ _ _ ⟨Cond.after_iff.mpr rfl, Cond.after_iff.mpr (eq_i res_at (Term.int_eval (1)) rfl), trivial⟩ ⟨hq.1, hq.2.1, (hq.2.2.sift fun y hy => Or.inr (N y hy)).mono (by decide) (by decide)⟩⟩
theorem main_1_1 : Claimed_1_1 := comes_1 fun _ _ _ _ _ _ h hF => ⟨h.1, hF⟩
theorem main_1_2 : Claimed_1_2 := comes_1 fun _ _ _ _ _ _ h hF => ⟨h.2.1, hF⟩
end Jvm.Pilot.@@N@@
namespace Jvm.Pilot.@@N@@
open Jvm Jvm.ClassFile Sem Op Lib Jvm.Free Jvm.Stand Jvm.Pilot.@@N@@.Jvm.D
/-! MADE BY PROGRAM (witnessworld.py) out of the Statement's table words and the real class files: 9 classes; the members and pool entries that the words name. The judged class is class 1, her method 1. -/
namespace start1
open Jvm.ClassFile
def u (s : String) : CpInfo := .utf8 (stringToUtf16 s)
/-- a pool by its gaps: so many unusable entries, then the entry; so many at the end -/
def gap : Nat → List CpInfo → List CpInfo
  | 0, r => r
  | n + 1, r => .unusable :: gap n r
def poolList (es : List (Nat × CpInfo)) (last : Nat) : List CpInfo := es.foldr (fun e r => gap e.1 (e.2 :: r)) (gap last [])
def pool (es : List (Nat × CpInfo)) (last : Nat) : Array CpInfo := ⟨poolList es last⟩
def fileOf (pool : Array CpInfo) (this : Nat) (attrs : Array Attribute := #[]) (ms : Array MethodInfo := #[]) (fl : Nat := 33) (sup : Nat := 0) (ifs : Array Nat := #[]) (fds : Array FieldInfo := #[]) : ClassFile where
  minorVersion := 0
  majorVersion := 65
  constantPool := pool
  accessFlags := fl
  thisClass := this
  superClass := sup
  interfaces := ifs
  fields := fds
  methods := ms
  attributes := attrs
def plain (name : String) (sup : Option ClassId) : Class where
  name := name
  kind := .ordinary
  loader := none
  accessFlags := 33
  super := sup
  interfaces := #[]
  cf := none
  fields := #[]
  methods := #[]
  instanceTypes := #[]
  staticTypes := #[]
  resolved := #[]
  callSites := []
  init := .initialized
  statics := none
  mirror := none

def pool0 : Array CpInfo := pool [(5, u "<init>"), (0, u "()V"), (1, .class_ 10), (1, u "java/lang/Object")] 113

def k0m0 : Method := { name := "<init>", desc := "()V", sig := { parameters := [], returnType := none }, accessFlags := 1, code := none }
/-- java/lang/Object -/
def k0 : Class := { plain "java/lang/Object" none with
  accessFlags := 33
  interfaces := #[]
  cf := some (fileOf pool0 8 #[] #[{ accessFlags := 1, nameIndex := 5, descriptorIndex := 6, attributes := #[] }] 33 0 #[] #[])
  fields := #[]
  methods := #[k0m0]
  instanceTypes := #[]
  staticTypes := #[]
  resolved := Array.replicate 124 none
  statics := none }

def pool1 : Array CpInfo := pool [(2, .class_ 4), (1, u "java/lang/Object"), (0, u "<init>"), (0, u "()V"), (0, .integer 65535), (0, .methodref 9 10), (0, .class_ 11), (0, .nameAndType 12 13), (0, u "com/example/punctual_monitor/punctualmonitor/Names"), (0, u "isNamePart"), (0, u "(C)Z"), (0, .class_ 15), (0, u "com/example/punctual_monitor/punctualmonitor/NamesIsNamePartPinLaw"), (2, u "law"), (0, u "(I)Z")] 3

def k1m0 : Method := { name := "<init>", desc := "()V", sig := { parameters := [], returnType := none }, accessFlags := 2, code := none }
def k1c1 : Code := { maxStack := 2, maxLocals := 8, code := code, exceptionTable := #[], attributes := #[] }
def k1m1 : Method := { name := "law", desc := "(I)Z", sig := { parameters := [.int], returnType := some .boolean }, accessFlags := 9, code := some k1c1 }
/-- com/example/punctual_monitor/punctualmonitor/NamesIsNamePartPinLaw -/
def k1 : Class := { plain "com/example/punctual_monitor/punctualmonitor/NamesIsNamePartPinLaw" (some 0) with
  accessFlags := 49
  interfaces := #[]
  cf := some (fileOf pool1 14 #[] #[{ accessFlags := 2, nameIndex := 5, descriptorIndex := 6, attributes := #[] }, { accessFlags := 9, nameIndex := 18, descriptorIndex := 19, attributes := #[] }] 49 2 #[] #[])
  fields := #[]
  methods := #[k1m0, k1m1]
  instanceTypes := #[]
  staticTypes := #[]
  resolved := Array.replicate 23 none
  statics := none }

def pool2 : Array CpInfo := pool [(2, .class_ 4), (1, u "java/lang/Object"), (0, u "<init>"), (0, u "()V"), (10, .methodref 18 19), (0, .class_ 20), (0, .nameAndType 21 22), (0, u "com/example/punctual_monitor/punctualmonitor/Names"), (0, u "isNameStart"), (0, u "(C)Z"), (6, u "isNamePart")] 7

def k2m0 : Method := { name := "<init>", desc := "()V", sig := { parameters := [], returnType := none }, accessFlags := 2, code := none }
def k2c1 : Code := { maxStack := 2, maxLocals := 1, code := prog_19_method_3_code, exceptionTable := #[], attributes := #[] }
def k2m1 : Method := { name := "isNameStart", desc := "(C)Z", sig := { parameters := [.char], returnType := some .boolean }, accessFlags := 8, code := some k2c1 }
def k2c2 : Code := { maxStack := 2, maxLocals := 1, code := prog_19_method_4_code, exceptionTable := #[], attributes := #[] }
def k2m2 : Method := { name := "isNamePart", desc := "(C)Z", sig := { parameters := [.char], returnType := some .boolean }, accessFlags := 8, code := some k2c2 }
/-- com/example/punctual_monitor/punctualmonitor/Names -/
def k2 : Class := { plain "com/example/punctual_monitor/punctualmonitor/Names" (some 0) with
  accessFlags := 48
  interfaces := #[]
  cf := some (fileOf pool2 18 #[] #[{ accessFlags := 2, nameIndex := 5, descriptorIndex := 6, attributes := #[] }, { accessFlags := 8, nameIndex := 21, descriptorIndex := 22, attributes := #[] }, { accessFlags := 8, nameIndex := 29, descriptorIndex := 22, attributes := #[] }] 48 2 #[] #[])
  fields := #[]
  methods := #[k2m0, k2m1, k2m2]
  instanceTypes := #[]
  staticTypes := #[]
  resolved := Array.replicate 37 none
  statics := none }

def pool3 : Array CpInfo := pool [(1, u "java/lang/Cloneable"), (0, .class_ 1), (0, u "java/lang/Object"), (0, .class_ 3)] 3

/-- java/lang/Cloneable -/
def k3 : Class := { plain "java/lang/Cloneable" (some 0) with
  accessFlags := 1537
  interfaces := #[]
  cf := some (fileOf pool3 2 #[] #[] 1537 4 #[] #[])
  fields := #[]
  methods := #[]
  instanceTypes := #[]
  staticTypes := #[]
  resolved := Array.replicate 8 none
  statics := none }

def pool4 : Array CpInfo := pool [(1, u "java/io/Serializable"), (0, .class_ 1), (0, u "java/lang/Object"), (0, .class_ 3)] 3

/-- java/io/Serializable -/
def k4 : Class := { plain "java/io/Serializable" (some 0) with
  accessFlags := 1537
  interfaces := #[]
  cf := some (fileOf pool4 2 #[] #[] 1537 4 #[] #[])
  fields := #[]
  methods := #[]
  instanceTypes := #[]
  staticTypes := #[]
  resolved := Array.replicate 8 none
  statics := none }

/-- the primitive byte -/
def k5 : Class := { plain "byte" none with kind := .primitive 'B', accessFlags := 0x411 }
/-- [B -/
def k6 : Class := { plain "[B" (some 0) with kind := .array 5 .byte, interfaces := #[3, 4], accessFlags := 1041 }

/-- the primitive int -/
def k7 : Class := { plain "int" none with kind := .primitive 'I', accessFlags := 0x411 }
/-- [I -/
def k8 : Class := { plain "[I" (some 0) with kind := .array 7 .int, interfaces := #[3, 4], accessFlags := 1041 }

def heap : Heap := #[]
def classes : Array Class := #[k0, k1, k2, k3, k4, k5, k6, k7, k8]
def interned : List (Array UInt16 × Addr) := []
def slotsUsed : Nat := 0
def theMethod : MethodId := ⟨1, 1⟩
def args0 : Array Value := #[.int 5]
def aboutOver (below : List Frame) : State where
  vm := { classes := classes, interned := interned.toArray }
  heap := heap
  slotsUsed := slotsUsed
  threads := #[{ frames := .invoking theMethod args0 :: below }]
def below0 : List Frame := [.native { method := ⟨0, 0⟩, args := #[] }]
def about1 : State := aboutOver below0
def p0 : Program := .bare "" "" ""
def e0 : Env := launch0.env 0 0 0
theorem w_frames : about1.frames = Frame.invoking theMethod args0 :: below0 := rfl
set_option maxRecDepth 65536 in
theorem w_args : argsFit about1.vm theMethod args0 = true := by decide +kernel
set_option maxRecDepth 65536 in
theorem w_heap : heapFits about1 = true := by decide +kernel
set_option maxRecDepth 65536 in
theorem w_runnable : about1.curStatus? = some .runnable := by decide +kernel
set_option maxRecDepth 65536 in
theorem w_alone : about1.alone = true := by decide +kernel
set_option maxRecDepth 65536 in
theorem w_named : about1.methodNamed? x = some theMethod := by decide +kernel
set_option maxRecDepth 65536 in
theorem w_hears : about1.hears theMethod below0 = true := by decide +kernel
set_option maxRecDepth 65536 in
theorem w_ripe : about1.ripe theMethod args0 below0 = true := by decide +kernel
theorem w_running : about1.status = .running := rfl
set_option maxRecDepth 65536 in
theorem w_room : about1.hasRoom e0.platform room_1 = true :=
  launch0.hasRoom_least _ room_1 (by decide +kernel) (by decide +kernel) (by decide +kernel) (by decide +kernel) (by decide +kernel) (by decide +kernel)
theorem allAtoms_all (ts : List Jvm.Cond) (a : Array Jvm.Value) (st : Jvm.State) : (allAtoms ts).before a st = ts.all (fun c => c.before a st) := by
  induction ts with
  | nil => rfl
  | cons c t ih =>
    show (Jvm.Cond.and c (allAtoms t)).before a st = _
    rw [Jvm.Cond.before_and, ih, List.all_cons]
def words1 : List Jvm.Cond := Jvm.Cond.code x code maxLocals ret :: tables_1
/-- a 'code' word, met by the world's own term for the bytes: nothing is compared byte by byte -/
theorem code_word {y : MethodName} {bytes : ByteArray} {mx : Nat} {rt : Option FieldType} {a : Array Value} {s : State} {m : MethodId} {meth : Method} {c : Code} (h1 : s.methodNamed? y = some m) (h2 : s.vm.method? m = some meth) (h3 : meth.code = some c) (h4 : c.code = bytes)
    (h5 : (c.maxLocals == mx && c.exceptionTable.isEmpty && decide (c.maxStack ≤ mostOperands) && decide (meth.sig.returnType = rt) && !meth.locks && decide (parseMethodDescriptor y.desc = some meth.sig)) = true) : (Jvm.Cond.code y bytes mx rt).before a s = true := by
  simp only [Bool.and_eq_true, beq_iff_eq, Bool.not_eq_true', decide_eq_true_eq] at h5
  obtain ⟨⟨⟨⟨⟨g1, g2⟩, g3⟩, g4⟩, g5⟩, g6⟩ := h5
  simp [Cond.before, Cond.holds, Cond.value, h1, h2, h3, h4, g1, g2, g3, g4, g5, g6]
def isCode : Jvm.Cond → Bool
  | .code _ _ _ _ => true
  | _ => false
theorem all_split {L : List Jvm.Cond} {P : Jvm.Cond → Bool} (h1 : L.all (fun c => isCode c || P c) = true) (h2 : ∀ c ∈ L.filter isCode, P c = true) : L.all P = true := by
  refine List.all_eq_true.mpr fun c hc => ?_
  have h := List.all_eq_true.mp h1 c hc
  rcases Bool.eq_false_or_eq_true (isCode c) with hi | hi
  · exact h2 c (List.mem_filter.mpr ⟨hc, hi⟩)
  · simpa [hi] using h
set_option maxRecDepth 65536 in
theorem w_c0 : (Jvm.Cond.code x code maxLocals ret).before args0 about1 = true := code_word (m := ⟨1, 1⟩) (meth := k1m1) (c := k1c1) (by decide +kernel) rfl rfl rfl (by decide +kernel)
set_option maxRecDepth 65536 in
theorem w_c1 : (Jvm.Cond.code ({ cls := "com/example/punctual_monitor/punctualmonitor/Names", name := "isNamePart", desc := "(C)Z" } : Jvm.MethodName) prog_19_method_4_code (1 : Nat) (Option.some Jvm.ClassFile.FieldType.boolean)).before args0 about1 = true := code_word (m := ⟨2, 2⟩) (meth := k2m2) (c := k2c2) (by decide +kernel) rfl rfl rfl (by decide +kernel)
set_option maxRecDepth 65536 in
theorem w_c2 : (Jvm.Cond.code ({ cls := "com/example/punctual_monitor/punctualmonitor/Names", name := "isNameStart", desc := "(C)Z" } : Jvm.MethodName) prog_19_method_3_code (1 : Nat) (Option.some Jvm.ClassFile.FieldType.boolean)).before args0 about1 = true := code_word (m := ⟨2, 1⟩) (meth := k2m1) (c := k2c1) (by decide +kernel) rfl rfl rfl (by decide +kernel)
def codes1 : List Jvm.Cond := [Jvm.Cond.code x code maxLocals ret, Jvm.Cond.code ({ cls := "com/example/punctual_monitor/punctualmonitor/Names", name := "isNamePart", desc := "(C)Z" } : Jvm.MethodName) prog_19_method_4_code (1 : Nat) (Option.some Jvm.ClassFile.FieldType.boolean), Jvm.Cond.code ({ cls := "com/example/punctual_monitor/punctualmonitor/Names", name := "isNameStart", desc := "(C)Z" } : Jvm.MethodName) prog_19_method_3_code (1 : Nat) (Option.some Jvm.ClassFile.FieldType.boolean)]
set_option maxRecDepth 65536 in
theorem codes_eq : words1.filter isCode = codes1 := rfl
theorem w_codes : ∀ c ∈ words1.filter isCode, c.before args0 about1 = true := by
  rw [codes_eq]
  intro c hc
  simp only [codes1, List.mem_cons, List.not_mem_nil, or_false] at hc
  rcases hc with rfl | rfl | rfl
  · exact w_c0
  · exact w_c1
  · exact w_c2
set_option maxRecDepth 65536 in
theorem w_t1 : words1.all (fun c => isCode c || c.before args0 about1) = true := by decide +kernel
theorem w_tables : (allAtoms (Jvm.Cond.code x code maxLocals ret :: tables_1)).before args0 about1 = true := by
  rw [allAtoms_all]
  show words1.all (fun c => c.before args0 about1) = true
  refine all_split ?_ w_codes
  rw [w_t1]
set_option maxRecDepth 65536 in
theorem w_case : (Jvm.Cond.and given_1 narrow_1).before args0 about1 = true := by decide +kernel
theorem w_applies : (headSpec (Jvm.Cond.code x code maxLocals ret :: tables_1) room_1).applies x e0.platform about1 = true :=
  (Spec.applies_iff w_frames).mpr ⟨w_running, w_runnable, w_alone, w_named, w_hears, w_ripe, w_room, w_tables⟩
theorem atStart : AtStart classFile x code maxLocals ret World_1 tables_1 room_1 Calls_1 rest_1 Pre_1 launch0 p0 e0 about1 theMethod args0 below0 :=
  ⟨lists_1, trivial, launch0.admits_env _ _ _, launch0.least_env, fairChoices_fair.cas, fairChoices_fair.clock, w_frames, w_args, w_heap, w_applies, trivial, trivial, w_case⟩
end start1
theorem witness_1 : WitnessClaimed_1 := ⟨start1.p0, start1.e0, start1.about1, start1.theMethod, start1.args0, start1.below0, start1.atStart⟩
end Jvm.Pilot.@@N@@
