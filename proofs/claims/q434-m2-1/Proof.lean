import JvmDerived
import JvmDerived.Pilot.@@N@@Statement
import JvmDerived.Pilot.@@N@@Code
set_option linter.unusedVariables false
set_option linter.unusedSimpArgs false
namespace Jvm.RoadKit
open Sem ClassFile Op Lib Jvm.Stand Jvm.Free Jvm.LawKit
section New
variable {p : Program} {l : Launch} {e : Env} {R : Room} {s : State} {m : MethodId} {args : Array Value} {below : List Frame} {meth : Method} {c : Code} {T : State} {locs : List Loc} {cells slots : Nat}
theorem retI (X : Stand p l e R s m args below meth c T locs cells slots) (hx : p.tables.exec = Jvm.exec) {pc : Nat} {Ls : Array Slot} {z : Int32} {rest : List Value} (hret : meth.sig.returnType = some .int) (hd : decode c.code pc = .ok (.ireturn, 1)) {fs : List Frame}
    (hl : ∀ (f : JFrame) (acts : List Action), f.method = m → f.locked = none → f.entered = [] → (doReturn e (T.setTop f) acts (some (.int z))).1 = T.setFrames fs) : Steps p.tables e below (T.setTop (mkF m pc Ls (.int z :: rest))) (T.setFrames fs) := by
  have hm' : T.vm.method? m = some meth := X.method'
  have hn : narrow .int (.int z) = .int z := rfl
  show Steps p.tables e below (T.setTop { method := m, pc := pc, locals := Ls, stack := _ :: rest, locked := none }) _
  jvm_step X.here [X.here.top, hx, hd, hm', hret, hn]
  first | (intro acts; rw [hl _ acts rfl rfl rfl]) | rw [hl _ _ rfl rfl rfl]
  exact Steps.refl _
end New
end Jvm.RoadKit
namespace Jvm.Pilot.@@N@@
open Jvm Jvm.ClassFile Sem Op Lib Jvm.Free Jvm.Stand Jvm.LawKit Jvm.RoadKit Bundle Jvm.Pilot.@@N@@.Jvm.D
theorem own_ltL {x y : Int64} (h : x < y) : ifCond.holds .lt (lcmpW x y) = true ∧ ifCond.holds .ge (lcmpW x y) = false ∧ ifCond.holds .gt (lcmpW y x) = true ∧ ifCond.holds .le (lcmpW y x) = false :=
  ⟨(if0 _ _).trans (tlt ((lw_lt x y).mpr h)).1, (if0 _ _).trans (tlt ((lw_lt x y).mpr h)).2.1, (if0 _ _).trans (tlt ((lw_gt y x).mpr h)).2.2.1, (if0 _ _).trans (tlt ((lw_gt y x).mpr h)).2.2.2⟩
theorem own_fltL {x y : Int64} (h : ¬ x < y) : ifCond.holds .lt (lcmpW x y) = false ∧ ifCond.holds .ge (lcmpW x y) = true ∧ ifCond.holds .gt (lcmpW y x) = false ∧ ifCond.holds .le (lcmpW y x) = true :=
  ⟨(if0 _ _).trans (flt (fun q => h ((lw_lt x y).mp q))).1, (if0 _ _).trans (flt (fun q => h ((lw_lt x y).mp q))).2.1, (if0 _ _).trans (flt (fun q => h ((lw_gt y x).mp q))).2.2.1, (if0 _ _).trans (flt (fun q => h ((lw_gt y x).mp q))).2.2.2⟩
theorem own_eqL {x y : Int64} (h : x = y) : ifCond.holds .eq (lcmpW x y) = true ∧ ifCond.holds .ne (lcmpW x y) = false :=
  ⟨(if0 _ _).trans (teq ((lw_eq x y).mpr h)).1, (if0 _ _).trans (teq ((lw_eq x y).mpr h)).2⟩
theorem own_neL {x y : Int64} (h : ¬ x = y) : ifCond.holds .eq (lcmpW x y) = false ∧ ifCond.holds .ne (lcmpW x y) = true :=
  ⟨(if0 _ _).trans (feq (fun q => h ((lw_eq x y).mp q))).1, (if0 _ _).trans (feq (fun q => h ((lw_eq x y).mp q))).2⟩

theorem own_fld {args : Array Value} {s : State} {t : Term} {C n d : String} {k : Int32} {x : Addr} (ht : t.eval args s none [] s = some (.ref x)) (h : (Jvm.Cond.eq (.field t C n d) (.int k)).value args s none s [] = some true) : Fld s s.heap x C n d (.int k) := by
  obtain ⟨u, v, e1, e2, k1, k2⟩ := cmp_v (Or.inl h)
  cases (Term.int_eval k).symm.trans e2
  obtain ⟨z, rfl⟩ := k2
  have q := gotT (Cond.eq_ints e1 (Term.int_eval k)) h
  subst q
  exact Fld.start ((fld_at ht).symm.trans e1)

theorem d1_0 : decode prog_41_method_5_code 0 = .ok (.aload_n 0, 1) := by decide +kernel
theorem d1_1 : decode prog_41_method_5_code 1 = .ok (.getstatic 3, 3) := by decide +kernel
theorem d1_4 : decode prog_41_method_5_code 4 = .ok (.if_acmp .eq 17, 3) := by decide +kernel
theorem d1_7 : decode prog_41_method_5_code 7 = .ok (.aload_n 0, 1) := by decide +kernel
theorem d1_8 : decode prog_41_method_5_code 8 = .ok (.getstatic 7, 3) := by decide +kernel
theorem d1_11 : decode prog_41_method_5_code 11 = .ok (.if_acmp .eq 10, 3) := by decide +kernel
theorem d1_14 : decode prog_41_method_5_code 14 = .ok (.aload_n 0, 1) := by decide +kernel
theorem d1_15 : decode prog_41_method_5_code 15 = .ok (.getstatic 10, 3) := by decide +kernel
theorem d1_18 : decode prog_41_method_5_code 18 = .ok (.if_acmp .ne 7, 3) := by decide +kernel
theorem d1_21 : decode prog_41_method_5_code 21 = .ok (.iconst 1, 1) := by decide +kernel
theorem d1_22 : decode prog_41_method_5_code 22 = .ok (.goto 4, 3) := by decide +kernel
theorem d1_25 : decode prog_41_method_5_code 25 = .ok (.iconst 0, 1) := by decide +kernel
theorem d1_26 : decode prog_41_method_5_code 26 = .ok (.ireturn, 1) := by decide +kernel
theorem pn_0 : plainName "com/example/holonym/holonym/ontology/Restriction$Kind" = true := by first | (simp [plainName, overriddenIn]; done) | decide +kernel
theorem ef_1 (m : MethodId) (o0 : Addr) : entryFrame m #[(.ref o0)] 1 = mkF m 0 #[.val (.ref o0)] [] := by first | (simp [entryFrame, mkF, argsToLocals, Value.category]; done) | rfl
def f1_26 (aEXACT : Addr) (o0 : Addr) : Int32 := (if o0 = aEXACT then (1 : Int32) else (0 : Int32))

def Q1 (Z : State) (o0 : Addr) (aMIN aMAX aEXACT : Addr) (h0 : Heap) (n0 : Nat) (v : Option Value) (h : Heap) (L : List Loc) : Prop := v = some (.int (if o0 = aMIN then (1 : Int32) else (if o0 = aMAX then (1 : Int32) else (if o0 = aEXACT then (1 : Int32) else (0 : Int32))))) ∧ Fr n0 L ∧ h = h0
set_option maxRecDepth 65536 in
set_option maxHeartbeats 40000000 in
theorem rm1 (l : Launch) (Z : State) (a0 : Array Value) (hw : ∀ d ∈ tables_1, d.before a0 Z = true) (ws : List Jvm.Cond) (o0 : Addr) (aMIN aMAX aEXACT : Addr) (h0 : Heap) (n0 : Nat) (Z0 : n0 ≤ h0.size) (S_MIN : Sta Z h0 "com/example/holonym/holonym/ontology/Restriction$Kind" "MIN" "Lcom/example/holonym/holonym/ontology/Restriction$Kind;" (.ref aMIN)) (S_MAX : Sta Z h0 "com/example/holonym/holonym/ontology/Restriction$Kind" "MAX" "Lcom/example/holonym/holonym/ontology/Restriction$Kind;" (.ref aMAX)) (S_EXACT : Sta Z h0 "com/example/holonym/holonym/ontology/Restriction$Kind" "EXACT" "Lcom/example/holonym/holonym/ontology/Restriction$Kind;" (.ref aEXACT)) :
    MetFree l (⟨"com/example/holonym/holonym/ontology/Restriction$Kind", "isCardinality", "()Z"⟩ : MethodName) (head1 (Jvm.Cond.code (⟨"com/example/holonym/holonym/ontology/Restriction$Kind", "isCardinality", "()Z"⟩ : MethodName) prog_41_method_5_code 1 (some .boolean) :: ws) ({ frames := 0, cells := 0, slots := 0, locals := 0 } : Room)) (fun a U => a = #[(.ref o0)] ∧ Z.Warmed39 U.vm ∧ U.heap = h0) (fun _ _ _ _ _ => True) (fun _ U o U' => ∃ v L, o = .returned v ∧ Q1 Z o0 aMIN aMAX aEXACT h0 n0 v U'.heap L ∧ FrameEnd U o U' L ({ frames := 0, cells := 0, slots := 0, locals := 0 } : Room).cells ({ frames := 0, cells := 0, slots := 0, locals := 0 } : Room).slots) := by
  refine MetFree.of_bodySF (plainFor_of_name pn_0) hisR ?_
  intro p e s m args below meth c s₁ Bd hml0 hP hK
  obtain ⟨rfl, hZ, hh⟩ := hP
  have hx := Bd.exec
  have hby := Bd.bytes
  have hml : c.maxLocals = 1 := hml0
  have hown : s.vm.findClass "com/example/holonym/holonym/ontology/Restriction$Kind" = some m.cls := findClass_of_methodNamed Bd.named
  have hnm := (name_of_methodNamed Bd.named Bd.method).1
  have X0 : Stand p l e ({ frames := 0, cells := 0, slots := 0, locals := 0 } : Room) s m #[(.ref o0)] below meth c s₁ [] 0 0 := Stand.of_body Bd
  have e0 : s₁.heap = h0 := by rw [← hh, Bd.state]; rfl
  have N0 := Fr.nil n0
  have pre0 : ∀ t, Steps p.tables e below (s₁.setTop (mkF m 0 #[.val (.ref o0)] [])) t → Steps p.tables e below (s₁.setTop (entryFrame m #[(.ref o0)] 1)) t := fun t k => castTop (ef_1 m o0) k
  obtain ⟨T1, X1, e1, st1⟩ := getS2 X0 hx hZ hown (host := "") (Or.inl (hw _ (List.mem_of_getElem? (i := 9) rfl))) Via.refl e0 S_MIN (g := (mkF m 1 #[.val (.ref o0)] [(.ref o0)])) rfl (hb hby d1_1)
  have pre2 : ∀ t, Steps p.tables e below (T1.setTop (mkF m 4 #[.val (.ref o0)] [(.ref aMIN), (.ref o0)])) t → Steps p.tables e below (s₁.setTop (entryFrame m #[(.ref o0)] 1)) t := fun t k => pre0 t (by
    show Steps p.tables e below (s₁.setTop (mkF m 0 #[.val (.ref o0)] [])) _
    refine XS.aloadN X0.here hx rfl (hb hby d1_0) rfl rfl ?_
    show Steps p.tables e below (s₁.setTop (mkF m 1 #[.val (.ref o0)] [(.ref o0)])) _
    refine st1 _ ?_
    show Steps p.tables e below (T1.setTop (mkF m 4 #[.val (.ref o0)] [(.ref aMIN), (.ref o0)])) _
    exact k)
  by_cases hs3 : o0 = aMIN
  · have pre4 : ∀ t, Steps p.tables e below (T1.setTop (mkF m 26 #[.val (.ref o0)] [(.int (1 : Int32))])) t → Steps p.tables e below (s₁.setTop (entryFrame m #[(.ref o0)] 1)) t := fun t k => pre2 t (by
      refine Jvm.RoadKit.acmp (g := (mkF m 4 #[.val (.ref o0)] [(.ref aMIN), (.ref o0)])) X1 hx rfl rfl rfl (pc0 := 4) (pc' := 21) (same := true) rfl (hb hby d1_4) rfl (decide_eq_true (congrArg Value.ref hs3)) (by decide) (by decide) ?_
      show Steps p.tables e below (T1.setTop (mkF m 21 #[.val (.ref o0)] [])) _
      refine XS.iconst X1.here hx rfl (hb hby d1_21) ?_
      show Steps p.tables e below (T1.setTop (mkF m 22 #[.val (.ref o0)] [(.int (1 : Int32))])) _
      refine XS.goto X1.here hx rfl (pc0 := 22) (pc' := 26) rfl (hb hby d1_22) (by decide) (by decide) ?_
      show Steps p.tables e below (T1.setTop (mkF m 26 #[.val (.ref o0)] [(.int (1 : Int32))])) _
      exact k)
    obtain ⟨fs, hr, hrun, hended, hW, hsame⟩ := X1.leave (v := some (.int (1 : Int32))) (fun h => by rw [Bd.returns] at h; cases h)
    refine ⟨_, _, pre4 _ ?_, hrun, hended, _, _, rfl, ?_, ⟨_, rfl⟩, hW, hsame.mono (by decide) (by decide)⟩
    · exact retN X1 hx (t := .boolean) Bd.returns (by simp) (hb hby d1_26) hr
    · show Q1 Z o0 aMIN aMAX aEXACT h0 n0 _ T1.heap _
      rw [e1]
      exact ⟨congrArg some (congrArg Value.int (by simp only [if_pos hs3])), N0, rfl⟩
  · obtain ⟨T5, X5, e5, st5⟩ := getS2 X1 hx hZ hown (host := "") (Or.inl (hw _ (List.mem_of_getElem? (i := 12) rfl))) Via.refl e1 S_MAX (g := (mkF m 8 #[.val (.ref o0)] [(.ref o0)])) rfl (hb hby d1_8)
    have pre6 : ∀ t, Steps p.tables e below (T5.setTop (mkF m 11 #[.val (.ref o0)] [(.ref aMAX), (.ref o0)])) t → Steps p.tables e below (s₁.setTop (entryFrame m #[(.ref o0)] 1)) t := fun t k => pre2 t (by
      refine Jvm.RoadKit.acmp (g := (mkF m 4 #[.val (.ref o0)] [(.ref aMIN), (.ref o0)])) X1 hx rfl rfl rfl (pc0 := 4) (pc' := 7) (same := false) rfl (hb hby d1_4) rfl (decide_eq_false fun q => hs3 (Value.ref.inj q)) (by decide) (by decide) ?_
      show Steps p.tables e below (T1.setTop (mkF m 7 #[.val (.ref o0)] [])) _
      refine XS.aloadN X1.here hx rfl (hb hby d1_7) rfl rfl ?_
      show Steps p.tables e below (T1.setTop (mkF m 8 #[.val (.ref o0)] [(.ref o0)])) _
      refine st5 _ ?_
      show Steps p.tables e below (T5.setTop (mkF m 11 #[.val (.ref o0)] [(.ref aMAX), (.ref o0)])) _
      exact k)
    by_cases hs7 : o0 = aMAX
    · have pre8 : ∀ t, Steps p.tables e below (T5.setTop (mkF m 26 #[.val (.ref o0)] [(.int (1 : Int32))])) t → Steps p.tables e below (s₁.setTop (entryFrame m #[(.ref o0)] 1)) t := fun t k => pre6 t (by
        refine Jvm.RoadKit.acmp (g := (mkF m 11 #[.val (.ref o0)] [(.ref aMAX), (.ref o0)])) X5 hx rfl rfl rfl (pc0 := 11) (pc' := 21) (same := true) rfl (hb hby d1_11) rfl (decide_eq_true (congrArg Value.ref hs7)) (by decide) (by decide) ?_
        show Steps p.tables e below (T5.setTop (mkF m 21 #[.val (.ref o0)] [])) _
        refine XS.iconst X5.here hx rfl (hb hby d1_21) ?_
        show Steps p.tables e below (T5.setTop (mkF m 22 #[.val (.ref o0)] [(.int (1 : Int32))])) _
        refine XS.goto X5.here hx rfl (pc0 := 22) (pc' := 26) rfl (hb hby d1_22) (by decide) (by decide) ?_
        show Steps p.tables e below (T5.setTop (mkF m 26 #[.val (.ref o0)] [(.int (1 : Int32))])) _
        exact k)
      obtain ⟨fs, hr, hrun, hended, hW, hsame⟩ := X5.leave (v := some (.int (1 : Int32))) (fun h => by rw [Bd.returns] at h; cases h)
      refine ⟨_, _, pre8 _ ?_, hrun, hended, _, _, rfl, ?_, ⟨_, rfl⟩, hW, hsame.mono (by decide) (by decide)⟩
      · exact retN X5 hx (t := .boolean) Bd.returns (by simp) (hb hby d1_26) hr
      · show Q1 Z o0 aMIN aMAX aEXACT h0 n0 _ T5.heap _
        rw [e5]
        exact ⟨congrArg some (congrArg Value.int (by simp only [if_neg hs3, if_pos hs7])), N0, rfl⟩
    · obtain ⟨T9, X9, e9, st9⟩ := getS2 X5 hx hZ hown (host := "") (Or.inl (hw _ (List.mem_of_getElem? (i := 14) rfl))) Via.refl e5 S_EXACT (g := (mkF m 15 #[.val (.ref o0)] [(.ref o0)])) rfl (hb hby d1_15)
      have pre10 : ∀ t, Steps p.tables e below (T9.setTop (mkF m 18 #[.val (.ref o0)] [(.ref aEXACT), (.ref o0)])) t → Steps p.tables e below (s₁.setTop (entryFrame m #[(.ref o0)] 1)) t := fun t k => pre6 t (by
        refine Jvm.RoadKit.acmp (g := (mkF m 11 #[.val (.ref o0)] [(.ref aMAX), (.ref o0)])) X5 hx rfl rfl rfl (pc0 := 11) (pc' := 14) (same := false) rfl (hb hby d1_11) rfl (decide_eq_false fun q => hs7 (Value.ref.inj q)) (by decide) (by decide) ?_
        show Steps p.tables e below (T5.setTop (mkF m 14 #[.val (.ref o0)] [])) _
        refine XS.aloadN X5.here hx rfl (hb hby d1_14) rfl rfl ?_
        show Steps p.tables e below (T5.setTop (mkF m 15 #[.val (.ref o0)] [(.ref o0)])) _
        refine st9 _ ?_
        show Steps p.tables e below (T9.setTop (mkF m 18 #[.val (.ref o0)] [(.ref aEXACT), (.ref o0)])) _
        exact k)
      have pre12 : ∀ t, Steps p.tables e below (T9.setTop (mkF m 26 #[.val (.ref o0)] [(.int (f1_26 aEXACT o0))])) t → Steps p.tables e below (s₁.setTop (entryFrame m #[(.ref o0)] 1)) t := fun t k => pre10 t (by
        by_cases hf11 : o0 = aEXACT
        · refine Jvm.RoadKit.acmp (g := (mkF m 18 #[.val (.ref o0)] [(.ref aEXACT), (.ref o0)])) X9 hx rfl rfl rfl (pc0 := 18) (pc' := 21) (same := true) rfl (hb hby d1_18) rfl (decide_eq_true (congrArg Value.ref hf11)) (by decide) (by decide) ?_
          show Steps p.tables e below (T9.setTop (mkF m 21 #[.val (.ref o0)] [])) _
          refine XS.iconst X9.here hx rfl (hb hby d1_21) ?_
          show Steps p.tables e below (T9.setTop (mkF m 22 #[.val (.ref o0)] [(.int (1 : Int32))])) _
          refine XS.goto X9.here hx rfl (pc0 := 22) (pc' := 26) rfl (hb hby d1_22) (by decide) (by decide) ?_
          show Steps p.tables e below (T9.setTop (mkF m 26 #[.val (.ref o0)] [(.int (1 : Int32))])) _
          rw [show (f1_26 aEXACT o0) = ((1 : Int32) : Int32) from by simp only [f1_26, if_pos hf11]] at k
          exact k
        · refine Jvm.RoadKit.acmp (g := (mkF m 18 #[.val (.ref o0)] [(.ref aEXACT), (.ref o0)])) X9 hx rfl rfl rfl (pc0 := 18) (pc' := 25) (same := false) rfl (hb hby d1_18) rfl (decide_eq_false fun q => hf11 (Value.ref.inj q)) (by decide) (by decide) ?_
          show Steps p.tables e below (T9.setTop (mkF m 25 #[.val (.ref o0)] [])) _
          refine XS.iconst X9.here hx rfl (hb hby d1_25) ?_
          show Steps p.tables e below (T9.setTop (mkF m 26 #[.val (.ref o0)] [(.int (0 : Int32))])) _
          rw [show (f1_26 aEXACT o0) = ((0 : Int32) : Int32) from by simp only [f1_26, if_neg hf11]] at k
          exact k)
      obtain ⟨fs, hr, hrun, hended, hW, hsame⟩ := X9.leave (v := some (.int ((f1_26 aEXACT o0) &&& 1))) (fun h => by rw [Bd.returns] at h; cases h)
      refine ⟨_, _, pre12 _ ?_, hrun, hended, _, _, rfl, ?_, ⟨_, rfl⟩, hW, hsame.mono (by decide) (by decide)⟩
      · exact retN X9 hx (t := .boolean) Bd.returns (by simp) (hb hby d1_26) hr
      · show Q1 Z o0 aMIN aMAX aEXACT h0 n0 _ T9.heap _
        rw [e9]
        exact ⟨congrArg some (congrArg Value.int (by simp only [if_neg hs3, if_neg hs7]; unfold f1_26; split <;> rfl)), N0, rfl⟩
theorem pn_1 : plainName "com/example/holonym/holonym/ontology/KindIsCardinalityPinLaw" = true := by first | (simp [plainName, overriddenIn]; done) | decide +kernel
theorem pd_0 : parseMethodDescriptor "()Z" = some ⟨[], some .boolean⟩ := by decide +kernel
theorem ef_0 (m : MethodId) (p0 : Int32) : entryFrame m #[(.int p0)] maxLocals = mkF m 0 #[.val (.int p0), .unset, .unset, .unset] [] := by first | (simp [entryFrame, mkF, argsToLocals, Value.category, maxLocals]; done) | rfl

def Q0 (Z : State) (p0 : Int32) (aMIN : Addr) (aSOME : Addr) (aMAX : Addr) (aEXACT : Addr) (aVALUE : Addr) (aONLY : Addr) (h0 : Heap) (n0 : Nat) (v : Option Value) (h : Heap) (L : List Loc) : Prop := v = some (.int 1) ∧ Fr n0 L
set_option maxRecDepth 65536 in
set_option maxHeartbeats 40000000 in
theorem rm0 (l : Launch) (Z : State) (a0 : Array Value) (hw : ∀ d ∈ tables_1, d.before a0 Z = true) (ws : List Jvm.Cond) (p0 : Int32) (aMIN : Addr) (aSOME : Addr) (aMAX : Addr) (aEXACT : Addr) (aVALUE : Addr) (aONLY : Addr) (h0 : Heap) (n0 : Nat) (Z0 : n0 ≤ h0.size) (S_MIN : Sta Z h0 "com/example/holonym/holonym/ontology/Restriction$Kind" "MIN" "Lcom/example/holonym/holonym/ontology/Restriction$Kind;" (.ref aMIN)) (E_aMIN : Exa Z h0 aMIN "com/example/holonym/holonym/ontology/Restriction$Kind") (S_SOME : Sta Z h0 "com/example/holonym/holonym/ontology/Restriction$Kind" "SOME" "Lcom/example/holonym/holonym/ontology/Restriction$Kind;" (.ref aSOME)) (E_aSOME : Exa Z h0 aSOME "com/example/holonym/holonym/ontology/Restriction$Kind") (S_MAX : Sta Z h0 "com/example/holonym/holonym/ontology/Restriction$Kind" "MAX" "Lcom/example/holonym/holonym/ontology/Restriction$Kind;" (.ref aMAX)) (E_aMAX : Exa Z h0 aMAX "com/example/holonym/holonym/ontology/Restriction$Kind") (S_EXACT : Sta Z h0 "com/example/holonym/holonym/ontology/Restriction$Kind" "EXACT" "Lcom/example/holonym/holonym/ontology/Restriction$Kind;" (.ref aEXACT)) (E_aEXACT : Exa Z h0 aEXACT "com/example/holonym/holonym/ontology/Restriction$Kind") (S_VALUE : Sta Z h0 "com/example/holonym/holonym/ontology/Restriction$Kind" "VALUE" "Lcom/example/holonym/holonym/ontology/Restriction$Kind;" (.ref aVALUE)) (E_aVALUE : Exa Z h0 aVALUE "com/example/holonym/holonym/ontology/Restriction$Kind") (S_ONLY : Sta Z h0 "com/example/holonym/holonym/ontology/Restriction$Kind" "ONLY" "Lcom/example/holonym/holonym/ontology/Restriction$Kind;" (.ref aONLY)) (E_aONLY : Exa Z h0 aONLY "com/example/holonym/holonym/ontology/Restriction$Kind") (F_ordinal_aSOME : Fld Z h0 aSOME "java/lang/Enum" "ordinal" "I" (.int (3 : Int32))) (F_ordinal_aMIN : Fld Z h0 aMIN "java/lang/Enum" "ordinal" "I" (.int (0 : Int32))) (F_ordinal_aMAX : Fld Z h0 aMAX "java/lang/Enum" "ordinal" "I" (.int (1 : Int32))) (F_ordinal_aEXACT : Fld Z h0 aEXACT "java/lang/Enum" "ordinal" "I" (.int (2 : Int32))) (F_ordinal_aVALUE : Fld Z h0 aVALUE "java/lang/Enum" "ordinal" "I" (.int (5 : Int32))) (F_ordinal_aONLY : Fld Z h0 aONLY "java/lang/Enum" "ordinal" "I" (.int (4 : Int32))) :
    MetFree l x (head1 (Jvm.Cond.code x code maxLocals ret :: ws) room_1) (fun a U => a = #[(.int p0)] ∧ Z.Warmed39 U.vm ∧ U.heap = h0) (fun _ _ _ _ _ => True) (fun _ U o U' => ∃ v L, o = .returned v ∧ Q0 Z p0 aMIN aSOME aMAX aEXACT aVALUE aONLY h0 n0 v U'.heap L ∧ FrameEnd U o U' L room_1.cells room_1.slots) := by
  refine MetFree.of_bodySF (plainFor_of_name pn_1) hisR ?_
  intro p e s m args below meth c s₁ Bd hml0 hP hK
  obtain ⟨rfl, hZ, hh⟩ := hP
  have hx := Bd.exec
  have hby := Bd.bytes
  have hml : c.maxLocals = 4 := hml0
  have hown : s.vm.findClass "com/example/holonym/holonym/ontology/KindIsCardinalityPinLaw" = some m.cls := findClass_of_methodNamed Bd.named
  have hnm := (name_of_methodNamed Bd.named Bd.method).1
  have X0 : Stand p l e room_1 s m #[(.int p0)] below meth c s₁ [] 0 0 := Stand.of_body Bd
  have e0 : s₁.heap = h0 := by rw [← hh, Bd.state]; rfl
  have N0 := Fr.nil n0
  have pre0 : ∀ t, Steps p.tables e below (s₁.setTop (mkF m 0 #[.val (.int p0), .unset, .unset, .unset] [])) t → Steps p.tables e below (s₁.setTop (entryFrame m #[(.int p0)] maxLocals)) t := fun t k => castTop (ef_0 m p0) k
  have pre1 : ∀ t, Steps p.tables e below (s₁.setTop (mkF m 9 #[.val (.int p0), .val (.int ((p0 &&& (2147483647 : Int32)) % (6 : Int32))), .unset, .unset] [(.int ((p0 &&& (2147483647 : Int32)) % (6 : Int32)))])) t → Steps p.tables e below (s₁.setTop (entryFrame m #[(.int p0)] maxLocals)) t := fun t k => pre0 t (by
    show Steps p.tables e below (s₁.setTop (mkF m 0 #[.val (.int p0), .unset, .unset, .unset] [])) _
    refine XS.iloadN X0.here hx rfl (hb hby at_0) rfl ?_
    show Steps p.tables e below (s₁.setTop (mkF m 1 #[.val (.int p0), .unset, .unset, .unset] [(.int p0)])) _
    refine X0.ldcInt hx hown (mvT hZ (hw _ (List.mem_of_getElem? (i := 0) rfl))) (g := (mkF m 1 #[.val (.int p0), .unset, .unset, .unset] [(.int p0)])) rfl (hb hby at_1) _ ?_
    show Steps p.tables e below (s₁.setTop (mkF m 3 #[.val (.int p0), .unset, .unset, .unset] [(.int (2147483647 : Int32)), (.int p0)])) _
    refine XS.iand X0.here hx rfl (hb hby at_3) rfl ?_
    show Steps p.tables e below (s₁.setTop (mkF m 4 #[.val (.int p0), .unset, .unset, .unset] [(.int (p0 &&& (2147483647 : Int32)))])) _
    refine XS.bipush X0.here hx rfl (hb hby at_4) ?_
    show Steps p.tables e below (s₁.setTop (mkF m 6 #[.val (.int p0), .unset, .unset, .unset] [(.int (6 : Int32)), (.int (p0 &&& (2147483647 : Int32)))])) _
    refine iremM (g := (mkF m 6 #[.val (.int p0), .unset, .unset, .unset] [(.int (6 : Int32)), (.int (p0 &&& (2147483647 : Int32)))])) X0 hx rfl (hb hby at_6) rfl (by decide) ?_
    show Steps p.tables e below (s₁.setTop (mkF m 7 #[.val (.int p0), .unset, .unset, .unset] [(.int ((p0 &&& (2147483647 : Int32)) % (6 : Int32)))])) _
    refine XS.istoreN X0.here hx rfl (hb hby at_7) rfl (l' := #[.val (.int p0), .val (.int ((p0 &&& (2147483647 : Int32)) % (6 : Int32))), .unset, .unset]) rfl ?_
    show Steps p.tables e below (s₁.setTop (mkF m 8 #[.val (.int p0), .val (.int ((p0 &&& (2147483647 : Int32)) % (6 : Int32))), .unset, .unset] [])) _
    refine XS.iloadN X0.here hx rfl (hb hby at_8) rfl ?_
    show Steps p.tables e below (s₁.setTop (mkF m 9 #[.val (.int p0), .val (.int ((p0 &&& (2147483647 : Int32)) % (6 : Int32))), .unset, .unset] [(.int ((p0 &&& (2147483647 : Int32)) % (6 : Int32)))])) _
    exact k)
  by_cases hs2 : ((p0 &&& (2147483647 : Int32)) % (6 : Int32)) = (0 : Int32)
  · obtain ⟨T3, X3, e3, st3⟩ := getS2 X0 hx hZ hown (host := "") (Or.inl (hw _ (List.mem_of_getElem? (i := 1) rfl))) Via.refl e0 S_MIN (g := (mkF m 12 #[.val (.int p0), .val (.int ((p0 &&& (2147483647 : Int32)) % (6 : Int32))), .unset, .unset] [])) rfl (hb hby at_12)
    have ne_aMIN_aMAX : ¬ aMIN = aMAX := Fld.ne F_ordinal_aMIN F_ordinal_aMAX (fun q => absurd (Value.int.inj q) (by decide))
    have ne_aMIN_aEXACT : ¬ aMIN = aEXACT := Fld.ne F_ordinal_aMIN F_ordinal_aEXACT (fun q => absurd (Value.int.inj q) (by decide))
    obtain ⟨cq4, kq4, q4a, q4b, q4c⟩ := isOf hZ e3 (E_aMIN)
    obtain ⟨_, _, ⟨T4, L4, k4, n4⟩, -, X4, ⟨Lc4, hQ4, l4, y4, z4⟩, st4⟩ := X3.virtualBack hx (y := (⟨"com/example/holonym/holonym/ontology/Restriction$Kind", "isCardinality", "()Z"⟩ : MethodName)) (z := (⟨"com/example/holonym/holonym/ontology/Restriction$Kind", "isCardinality", "()Z"⟩ : MethodName)) hown (mvT hZ (hw _ (List.mem_of_getElem? (i := 4) rfl))) (mvT hZ (hw _ (List.mem_of_getElem? (i := 5) rfl))) (notFace_of_selects (args := #[]) (mvT hZ (hw _ (List.mem_of_getElem? (i := 7) rfl)))) (mvT hZ (hw _ (List.mem_of_getElem? (i := 7) rfl))) (mvT hZ (hw _ (List.mem_of_getElem? (i := 6) rfl))) (by decide) (backOf (W := 0) (rm1 l Z a0 hw [] aMIN aMIN aMAX aEXACT h0 n0 Z0 S_MIN S_MAX S_EXACT) hZ (hw _ (List.mem_of_getElem? (i := 8) rfl)) (hw _ (List.mem_of_getElem? (i := 2) rfl)) (by decide) (by decide)) q4a q4c (g := (mkF m 84 #[.val (.int p0), .val (.int ((p0 &&& (2147483647 : Int32)) % (6 : Int32))), .val (.ref aMIN), .val (.int (1 : Int32))] [(.ref aMIN)])) rfl (by rw [hml]; rfl) (Steps.refl _) (argsL := []) (rest := []) (lenOf pd_0 rfl) rfl (by show 2 * 0 + _ ≤ _; exact Nat.le_of_eq rfl) (hb hby at_84) (fun _ _ => ⟨rfl, e3, (by decide : 0 + 0 ≤ _), (by decide : 0 + 0 ≤ _)⟩)
    dsimp only [Pt.U, Pt.locs, Pt.cells, Pt.slots] at X4 l4 y4 z4 st4 hQ4
    subst l4 y4 z4
    obtain ⟨rfl, N4q, hh4⟩ := hQ4
    have N4 := Fr.app N0 N4q
    have pre5 : ∀ t, Steps p.tables e below (T4.setTop (mkF m 96 #[.val (.int p0), .val (.int ((p0 &&& (2147483647 : Int32)) % (6 : Int32))), .val (.ref aMIN), .val (.int (1 : Int32))] [(.int (1 : Int32))])) t → Steps p.tables e below (s₁.setTop (entryFrame m #[(.int p0)] maxLocals)) t := fun t k => pre1 t (by
      refine XS.ifNo X0.here hx rfl (hb hby at_9) rfl ((if0 _ _).trans (teq hs2).2) ?_
      show Steps p.tables e below (s₁.setTop (mkF m 12 #[.val (.int p0), .val (.int ((p0 &&& (2147483647 : Int32)) % (6 : Int32))), .unset, .unset] [])) _
      refine st3 _ ?_
      show Steps p.tables e below (T3.setTop (mkF m 15 #[.val (.int p0), .val (.int ((p0 &&& (2147483647 : Int32)) % (6 : Int32))), .unset, .unset] [(.ref aMIN)])) _
      refine XS.astoreN X3.here hx rfl (hb hby at_15) rfl rfl (l' := #[.val (.int p0), .val (.int ((p0 &&& (2147483647 : Int32)) % (6 : Int32))), .val (.ref aMIN), .unset]) rfl ?_
      show Steps p.tables e below (T3.setTop (mkF m 16 #[.val (.int p0), .val (.int ((p0 &&& (2147483647 : Int32)) % (6 : Int32))), .val (.ref aMIN), .unset] [])) _
      refine XS.iconst X3.here hx rfl (hb hby at_16) ?_
      show Steps p.tables e below (T3.setTop (mkF m 17 #[.val (.int p0), .val (.int ((p0 &&& (2147483647 : Int32)) % (6 : Int32))), .val (.ref aMIN), .unset] [(.int (1 : Int32))])) _
      refine XS.istoreN X3.here hx rfl (hb hby at_17) rfl (l' := #[.val (.int p0), .val (.int ((p0 &&& (2147483647 : Int32)) % (6 : Int32))), .val (.ref aMIN), .val (.int (1 : Int32))]) rfl ?_
      show Steps p.tables e below (T3.setTop (mkF m 18 #[.val (.int p0), .val (.int ((p0 &&& (2147483647 : Int32)) % (6 : Int32))), .val (.ref aMIN), .val (.int (1 : Int32))] [])) _
      refine XS.goto X3.here hx rfl (pc0 := 18) (pc' := 83) rfl (hb hby at_18) (by decide) (by decide) ?_
      show Steps p.tables e below (T3.setTop (mkF m 83 #[.val (.int p0), .val (.int ((p0 &&& (2147483647 : Int32)) % (6 : Int32))), .val (.ref aMIN), .val (.int (1 : Int32))] [])) _
      refine XS.aloadN X3.here hx rfl (hb hby at_83) rfl rfl ?_
      show Steps p.tables e below (T3.setTop (mkF m 84 #[.val (.int p0), .val (.int ((p0 &&& (2147483647 : Int32)) % (6 : Int32))), .val (.ref aMIN), .val (.int (1 : Int32))] [(.ref aMIN)])) _
      refine st4.trans ?_
      show Steps p.tables e below (T4.setTop (mkF m 87 #[.val (.int p0), .val (.int ((p0 &&& (2147483647 : Int32)) % (6 : Int32))), .val (.ref aMIN), .val (.int (1 : Int32))] [(.int (if aMIN = aMIN then (1 : Int32) else (if aMIN = aMAX then (1 : Int32) else (if aMIN = aEXACT then (1 : Int32) else (0 : Int32)))))])) _
      refine XS.iloadN X4.here hx rfl (hb hby at_87) rfl ?_
      show Steps p.tables e below (T4.setTop (mkF m 88 #[.val (.int p0), .val (.int ((p0 &&& (2147483647 : Int32)) % (6 : Int32))), .val (.ref aMIN), .val (.int (1 : Int32))] [(.int (1 : Int32)), (.int (if aMIN = aMIN then (1 : Int32) else (if aMIN = aMAX then (1 : Int32) else (if aMIN = aEXACT then (1 : Int32) else (0 : Int32)))))])) _
      refine XS.icmpNo X4.here hx rfl (hb hby at_88) rfl (teq (show (if aMIN = aMIN then (1 : Int32) else (if aMIN = aMAX then (1 : Int32) else (if aMIN = aEXACT then (1 : Int32) else (0 : Int32)))) = (1 : Int32) from by rw [if_pos rfl])).2 ?_
      show Steps p.tables e below (T4.setTop (mkF m 91 #[.val (.int p0), .val (.int ((p0 &&& (2147483647 : Int32)) % (6 : Int32))), .val (.ref aMIN), .val (.int (1 : Int32))] [])) _
      refine XS.iconst X4.here hx rfl (hb hby at_91) ?_
      show Steps p.tables e below (T4.setTop (mkF m 92 #[.val (.int p0), .val (.int ((p0 &&& (2147483647 : Int32)) % (6 : Int32))), .val (.ref aMIN), .val (.int (1 : Int32))] [(.int (1 : Int32))])) _
      refine XS.goto X4.here hx rfl (pc0 := 92) (pc' := 96) rfl (hb hby at_92) (by decide) (by decide) ?_
      show Steps p.tables e below (T4.setTop (mkF m 96 #[.val (.int p0), .val (.int ((p0 &&& (2147483647 : Int32)) % (6 : Int32))), .val (.ref aMIN), .val (.int (1 : Int32))] [(.int (1 : Int32))])) _
      exact k)
    obtain ⟨fs, hr, hrun, hended, hW, hsame⟩ := X4.leave (v := some (.int (1 : Int32))) (fun h => by rw [Bd.returns] at h; cases h)
    refine ⟨_, _, pre5 _ ?_, hrun, hended, _, _, rfl, ?_, ⟨_, rfl⟩, hW, hsame.mono (by decide) (by decide)⟩
    · exact retN X4 hx (t := .boolean) Bd.returns (by simp) (hb hby at_96) hr
    · show Q0 Z p0 aMIN aSOME aMAX aEXACT aVALUE aONLY h0 n0 _ T4.heap _
      rw [hh4]
      exact ⟨rfl, N4⟩
  · have pre6 : ∀ t, Steps p.tables e below (s₁.setTop (mkF m 23 #[.val (.int p0), .val (.int ((p0 &&& (2147483647 : Int32)) % (6 : Int32))), .unset, .unset] [(.int (1 : Int32)), (.int ((p0 &&& (2147483647 : Int32)) % (6 : Int32)))])) t → Steps p.tables e below (s₁.setTop (entryFrame m #[(.int p0)] maxLocals)) t := fun t k => pre1 t (by
      refine XS.ifYes X0.here hx rfl (pc0 := 9) (pc' := 21) rfl (hb hby at_9) rfl ((if0 _ _).trans (feq hs2).2) (by decide) (by decide) ?_
      show Steps p.tables e below (s₁.setTop (mkF m 21 #[.val (.int p0), .val (.int ((p0 &&& (2147483647 : Int32)) % (6 : Int32))), .unset, .unset] [])) _
      refine XS.iloadN X0.here hx rfl (hb hby at_21) rfl ?_
      show Steps p.tables e below (s₁.setTop (mkF m 22 #[.val (.int p0), .val (.int ((p0 &&& (2147483647 : Int32)) % (6 : Int32))), .unset, .unset] [(.int ((p0 &&& (2147483647 : Int32)) % (6 : Int32)))])) _
      refine XS.iconst X0.here hx rfl (hb hby at_22) ?_
      show Steps p.tables e below (s₁.setTop (mkF m 23 #[.val (.int p0), .val (.int ((p0 &&& (2147483647 : Int32)) % (6 : Int32))), .unset, .unset] [(.int (1 : Int32)), (.int ((p0 &&& (2147483647 : Int32)) % (6 : Int32)))])) _
      exact k)
    by_cases hs7 : ((p0 &&& (2147483647 : Int32)) % (6 : Int32)) = (1 : Int32)
    · obtain ⟨T8, X8, e8, st8⟩ := getS2 X0 hx hZ hown (host := "") (Or.inl (hw _ (List.mem_of_getElem? (i := 17) rfl))) Via.refl e0 S_MAX (g := (mkF m 26 #[.val (.int p0), .val (.int ((p0 &&& (2147483647 : Int32)) % (6 : Int32))), .unset, .unset] [])) rfl (hb hby at_26)
      have ne_aMAX_aMIN : ¬ aMAX = aMIN := Fld.ne F_ordinal_aMAX F_ordinal_aMIN (fun q => absurd (Value.int.inj q) (by decide))
      have ne_aMAX_aEXACT : ¬ aMAX = aEXACT := Fld.ne F_ordinal_aMAX F_ordinal_aEXACT (fun q => absurd (Value.int.inj q) (by decide))
      obtain ⟨cq9, kq9, q9a, q9b, q9c⟩ := isOf hZ e8 (E_aMAX)
      obtain ⟨_, _, ⟨T9, L9, k9, n9⟩, -, X9, ⟨Lc9, hQ9, l9, y9, z9⟩, st9⟩ := X8.virtualBack hx (y := (⟨"com/example/holonym/holonym/ontology/Restriction$Kind", "isCardinality", "()Z"⟩ : MethodName)) (z := (⟨"com/example/holonym/holonym/ontology/Restriction$Kind", "isCardinality", "()Z"⟩ : MethodName)) hown (mvT hZ (hw _ (List.mem_of_getElem? (i := 4) rfl))) (mvT hZ (hw _ (List.mem_of_getElem? (i := 5) rfl))) (notFace_of_selects (args := #[]) (mvT hZ (hw _ (List.mem_of_getElem? (i := 7) rfl)))) (mvT hZ (hw _ (List.mem_of_getElem? (i := 7) rfl))) (mvT hZ (hw _ (List.mem_of_getElem? (i := 6) rfl))) (by decide) (backOf (W := 0) (rm1 l Z a0 hw [] aMAX aMIN aMAX aEXACT h0 n0 Z0 S_MIN S_MAX S_EXACT) hZ (hw _ (List.mem_of_getElem? (i := 8) rfl)) (hw _ (List.mem_of_getElem? (i := 2) rfl)) (by decide) (by decide)) q9a q9c (g := (mkF m 84 #[.val (.int p0), .val (.int ((p0 &&& (2147483647 : Int32)) % (6 : Int32))), .val (.ref aMAX), .val (.int (1 : Int32))] [(.ref aMAX)])) rfl (by rw [hml]; rfl) (Steps.refl _) (argsL := []) (rest := []) (lenOf pd_0 rfl) rfl (by show 2 * 0 + _ ≤ _; exact Nat.le_of_eq rfl) (hb hby at_84) (fun _ _ => ⟨rfl, e8, (by decide : 0 + 0 ≤ _), (by decide : 0 + 0 ≤ _)⟩)
      dsimp only [Pt.U, Pt.locs, Pt.cells, Pt.slots] at X9 l9 y9 z9 st9 hQ9
      subst l9 y9 z9
      obtain ⟨rfl, N9q, hh9⟩ := hQ9
      have N9 := Fr.app N0 N9q
      have pre10 : ∀ t, Steps p.tables e below (T9.setTop (mkF m 96 #[.val (.int p0), .val (.int ((p0 &&& (2147483647 : Int32)) % (6 : Int32))), .val (.ref aMAX), .val (.int (1 : Int32))] [(.int (1 : Int32))])) t → Steps p.tables e below (s₁.setTop (entryFrame m #[(.int p0)] maxLocals)) t := fun t k => pre6 t (by
        refine XS.icmpNo X0.here hx rfl (hb hby at_23) rfl (teq hs7).2 ?_
        show Steps p.tables e below (s₁.setTop (mkF m 26 #[.val (.int p0), .val (.int ((p0 &&& (2147483647 : Int32)) % (6 : Int32))), .unset, .unset] [])) _
        refine st8 _ ?_
        show Steps p.tables e below (T8.setTop (mkF m 29 #[.val (.int p0), .val (.int ((p0 &&& (2147483647 : Int32)) % (6 : Int32))), .unset, .unset] [(.ref aMAX)])) _
        refine XS.astoreN X8.here hx rfl (hb hby at_29) rfl rfl (l' := #[.val (.int p0), .val (.int ((p0 &&& (2147483647 : Int32)) % (6 : Int32))), .val (.ref aMAX), .unset]) rfl ?_
        show Steps p.tables e below (T8.setTop (mkF m 30 #[.val (.int p0), .val (.int ((p0 &&& (2147483647 : Int32)) % (6 : Int32))), .val (.ref aMAX), .unset] [])) _
        refine XS.iconst X8.here hx rfl (hb hby at_30) ?_
        show Steps p.tables e below (T8.setTop (mkF m 31 #[.val (.int p0), .val (.int ((p0 &&& (2147483647 : Int32)) % (6 : Int32))), .val (.ref aMAX), .unset] [(.int (1 : Int32))])) _
        refine XS.istoreN X8.here hx rfl (hb hby at_31) rfl (l' := #[.val (.int p0), .val (.int ((p0 &&& (2147483647 : Int32)) % (6 : Int32))), .val (.ref aMAX), .val (.int (1 : Int32))]) rfl ?_
        show Steps p.tables e below (T8.setTop (mkF m 32 #[.val (.int p0), .val (.int ((p0 &&& (2147483647 : Int32)) % (6 : Int32))), .val (.ref aMAX), .val (.int (1 : Int32))] [])) _
        refine XS.goto X8.here hx rfl (pc0 := 32) (pc' := 83) rfl (hb hby at_32) (by decide) (by decide) ?_
        show Steps p.tables e below (T8.setTop (mkF m 83 #[.val (.int p0), .val (.int ((p0 &&& (2147483647 : Int32)) % (6 : Int32))), .val (.ref aMAX), .val (.int (1 : Int32))] [])) _
        refine XS.aloadN X8.here hx rfl (hb hby at_83) rfl rfl ?_
        show Steps p.tables e below (T8.setTop (mkF m 84 #[.val (.int p0), .val (.int ((p0 &&& (2147483647 : Int32)) % (6 : Int32))), .val (.ref aMAX), .val (.int (1 : Int32))] [(.ref aMAX)])) _
        refine st9.trans ?_
        show Steps p.tables e below (T9.setTop (mkF m 87 #[.val (.int p0), .val (.int ((p0 &&& (2147483647 : Int32)) % (6 : Int32))), .val (.ref aMAX), .val (.int (1 : Int32))] [(.int (if aMAX = aMIN then (1 : Int32) else (if aMAX = aMAX then (1 : Int32) else (if aMAX = aEXACT then (1 : Int32) else (0 : Int32)))))])) _
        refine XS.iloadN X9.here hx rfl (hb hby at_87) rfl ?_
        show Steps p.tables e below (T9.setTop (mkF m 88 #[.val (.int p0), .val (.int ((p0 &&& (2147483647 : Int32)) % (6 : Int32))), .val (.ref aMAX), .val (.int (1 : Int32))] [(.int (1 : Int32)), (.int (if aMAX = aMIN then (1 : Int32) else (if aMAX = aMAX then (1 : Int32) else (if aMAX = aEXACT then (1 : Int32) else (0 : Int32)))))])) _
        refine XS.icmpNo X9.here hx rfl (hb hby at_88) rfl (teq (show (if aMAX = aMIN then (1 : Int32) else (if aMAX = aMAX then (1 : Int32) else (if aMAX = aEXACT then (1 : Int32) else (0 : Int32)))) = (1 : Int32) from by rw [if_neg ne_aMAX_aMIN, if_pos rfl])).2 ?_
        show Steps p.tables e below (T9.setTop (mkF m 91 #[.val (.int p0), .val (.int ((p0 &&& (2147483647 : Int32)) % (6 : Int32))), .val (.ref aMAX), .val (.int (1 : Int32))] [])) _
        refine XS.iconst X9.here hx rfl (hb hby at_91) ?_
        show Steps p.tables e below (T9.setTop (mkF m 92 #[.val (.int p0), .val (.int ((p0 &&& (2147483647 : Int32)) % (6 : Int32))), .val (.ref aMAX), .val (.int (1 : Int32))] [(.int (1 : Int32))])) _
        refine XS.goto X9.here hx rfl (pc0 := 92) (pc' := 96) rfl (hb hby at_92) (by decide) (by decide) ?_
        show Steps p.tables e below (T9.setTop (mkF m 96 #[.val (.int p0), .val (.int ((p0 &&& (2147483647 : Int32)) % (6 : Int32))), .val (.ref aMAX), .val (.int (1 : Int32))] [(.int (1 : Int32))])) _
        exact k)
      obtain ⟨fs, hr, hrun, hended, hW, hsame⟩ := X9.leave (v := some (.int (1 : Int32))) (fun h => by rw [Bd.returns] at h; cases h)
      refine ⟨_, _, pre10 _ ?_, hrun, hended, _, _, rfl, ?_, ⟨_, rfl⟩, hW, hsame.mono (by decide) (by decide)⟩
      · exact retN X9 hx (t := .boolean) Bd.returns (by simp) (hb hby at_96) hr
      · show Q0 Z p0 aMIN aSOME aMAX aEXACT aVALUE aONLY h0 n0 _ T9.heap _
        rw [hh9]
        exact ⟨rfl, N9⟩
    · have pre11 : ∀ t, Steps p.tables e below (s₁.setTop (mkF m 37 #[.val (.int p0), .val (.int ((p0 &&& (2147483647 : Int32)) % (6 : Int32))), .unset, .unset] [(.int (2 : Int32)), (.int ((p0 &&& (2147483647 : Int32)) % (6 : Int32)))])) t → Steps p.tables e below (s₁.setTop (entryFrame m #[(.int p0)] maxLocals)) t := fun t k => pre6 t (by
        refine XS.icmpYes X0.here hx rfl (pc0 := 23) (pc' := 35) rfl (hb hby at_23) rfl (feq hs7).2 (by decide) (by decide) ?_
        show Steps p.tables e below (s₁.setTop (mkF m 35 #[.val (.int p0), .val (.int ((p0 &&& (2147483647 : Int32)) % (6 : Int32))), .unset, .unset] [])) _
        refine XS.iloadN X0.here hx rfl (hb hby at_35) rfl ?_
        show Steps p.tables e below (s₁.setTop (mkF m 36 #[.val (.int p0), .val (.int ((p0 &&& (2147483647 : Int32)) % (6 : Int32))), .unset, .unset] [(.int ((p0 &&& (2147483647 : Int32)) % (6 : Int32)))])) _
        refine XS.iconst X0.here hx rfl (hb hby at_36) ?_
        show Steps p.tables e below (s₁.setTop (mkF m 37 #[.val (.int p0), .val (.int ((p0 &&& (2147483647 : Int32)) % (6 : Int32))), .unset, .unset] [(.int (2 : Int32)), (.int ((p0 &&& (2147483647 : Int32)) % (6 : Int32)))])) _
        exact k)
      by_cases hs12 : ((p0 &&& (2147483647 : Int32)) % (6 : Int32)) = (2 : Int32)
      · obtain ⟨T13, X13, e13, st13⟩ := getS2 X0 hx hZ hown (host := "") (Or.inl (hw _ (List.mem_of_getElem? (i := 16) rfl))) Via.refl e0 S_EXACT (g := (mkF m 40 #[.val (.int p0), .val (.int ((p0 &&& (2147483647 : Int32)) % (6 : Int32))), .unset, .unset] [])) rfl (hb hby at_40)
        have ne_aEXACT_aMIN : ¬ aEXACT = aMIN := Fld.ne F_ordinal_aEXACT F_ordinal_aMIN (fun q => absurd (Value.int.inj q) (by decide))
        have ne_aEXACT_aMAX : ¬ aEXACT = aMAX := Fld.ne F_ordinal_aEXACT F_ordinal_aMAX (fun q => absurd (Value.int.inj q) (by decide))
        obtain ⟨cq14, kq14, q14a, q14b, q14c⟩ := isOf hZ e13 (E_aEXACT)
        obtain ⟨_, _, ⟨T14, L14, k14, n14⟩, -, X14, ⟨Lc14, hQ14, l14, y14, z14⟩, st14⟩ := X13.virtualBack hx (y := (⟨"com/example/holonym/holonym/ontology/Restriction$Kind", "isCardinality", "()Z"⟩ : MethodName)) (z := (⟨"com/example/holonym/holonym/ontology/Restriction$Kind", "isCardinality", "()Z"⟩ : MethodName)) hown (mvT hZ (hw _ (List.mem_of_getElem? (i := 4) rfl))) (mvT hZ (hw _ (List.mem_of_getElem? (i := 5) rfl))) (notFace_of_selects (args := #[]) (mvT hZ (hw _ (List.mem_of_getElem? (i := 7) rfl)))) (mvT hZ (hw _ (List.mem_of_getElem? (i := 7) rfl))) (mvT hZ (hw _ (List.mem_of_getElem? (i := 6) rfl))) (by decide) (backOf (W := 0) (rm1 l Z a0 hw [] aEXACT aMIN aMAX aEXACT h0 n0 Z0 S_MIN S_MAX S_EXACT) hZ (hw _ (List.mem_of_getElem? (i := 8) rfl)) (hw _ (List.mem_of_getElem? (i := 2) rfl)) (by decide) (by decide)) q14a q14c (g := (mkF m 84 #[.val (.int p0), .val (.int ((p0 &&& (2147483647 : Int32)) % (6 : Int32))), .val (.ref aEXACT), .val (.int (1 : Int32))] [(.ref aEXACT)])) rfl (by rw [hml]; rfl) (Steps.refl _) (argsL := []) (rest := []) (lenOf pd_0 rfl) rfl (by show 2 * 0 + _ ≤ _; exact Nat.le_of_eq rfl) (hb hby at_84) (fun _ _ => ⟨rfl, e13, (by decide : 0 + 0 ≤ _), (by decide : 0 + 0 ≤ _)⟩)
        dsimp only [Pt.U, Pt.locs, Pt.cells, Pt.slots] at X14 l14 y14 z14 st14 hQ14
        subst l14 y14 z14
        obtain ⟨rfl, N14q, hh14⟩ := hQ14
        have N14 := Fr.app N0 N14q
        have pre15 : ∀ t, Steps p.tables e below (T14.setTop (mkF m 96 #[.val (.int p0), .val (.int ((p0 &&& (2147483647 : Int32)) % (6 : Int32))), .val (.ref aEXACT), .val (.int (1 : Int32))] [(.int (1 : Int32))])) t → Steps p.tables e below (s₁.setTop (entryFrame m #[(.int p0)] maxLocals)) t := fun t k => pre11 t (by
          refine XS.icmpNo X0.here hx rfl (hb hby at_37) rfl (teq hs12).2 ?_
          show Steps p.tables e below (s₁.setTop (mkF m 40 #[.val (.int p0), .val (.int ((p0 &&& (2147483647 : Int32)) % (6 : Int32))), .unset, .unset] [])) _
          refine st13 _ ?_
          show Steps p.tables e below (T13.setTop (mkF m 43 #[.val (.int p0), .val (.int ((p0 &&& (2147483647 : Int32)) % (6 : Int32))), .unset, .unset] [(.ref aEXACT)])) _
          refine XS.astoreN X13.here hx rfl (hb hby at_43) rfl rfl (l' := #[.val (.int p0), .val (.int ((p0 &&& (2147483647 : Int32)) % (6 : Int32))), .val (.ref aEXACT), .unset]) rfl ?_
          show Steps p.tables e below (T13.setTop (mkF m 44 #[.val (.int p0), .val (.int ((p0 &&& (2147483647 : Int32)) % (6 : Int32))), .val (.ref aEXACT), .unset] [])) _
          refine XS.iconst X13.here hx rfl (hb hby at_44) ?_
          show Steps p.tables e below (T13.setTop (mkF m 45 #[.val (.int p0), .val (.int ((p0 &&& (2147483647 : Int32)) % (6 : Int32))), .val (.ref aEXACT), .unset] [(.int (1 : Int32))])) _
          refine XS.istoreN X13.here hx rfl (hb hby at_45) rfl (l' := #[.val (.int p0), .val (.int ((p0 &&& (2147483647 : Int32)) % (6 : Int32))), .val (.ref aEXACT), .val (.int (1 : Int32))]) rfl ?_
          show Steps p.tables e below (T13.setTop (mkF m 46 #[.val (.int p0), .val (.int ((p0 &&& (2147483647 : Int32)) % (6 : Int32))), .val (.ref aEXACT), .val (.int (1 : Int32))] [])) _
          refine XS.goto X13.here hx rfl (pc0 := 46) (pc' := 83) rfl (hb hby at_46) (by decide) (by decide) ?_
          show Steps p.tables e below (T13.setTop (mkF m 83 #[.val (.int p0), .val (.int ((p0 &&& (2147483647 : Int32)) % (6 : Int32))), .val (.ref aEXACT), .val (.int (1 : Int32))] [])) _
          refine XS.aloadN X13.here hx rfl (hb hby at_83) rfl rfl ?_
          show Steps p.tables e below (T13.setTop (mkF m 84 #[.val (.int p0), .val (.int ((p0 &&& (2147483647 : Int32)) % (6 : Int32))), .val (.ref aEXACT), .val (.int (1 : Int32))] [(.ref aEXACT)])) _
          refine st14.trans ?_
          show Steps p.tables e below (T14.setTop (mkF m 87 #[.val (.int p0), .val (.int ((p0 &&& (2147483647 : Int32)) % (6 : Int32))), .val (.ref aEXACT), .val (.int (1 : Int32))] [(.int (if aEXACT = aMIN then (1 : Int32) else (if aEXACT = aMAX then (1 : Int32) else (if aEXACT = aEXACT then (1 : Int32) else (0 : Int32)))))])) _
          refine XS.iloadN X14.here hx rfl (hb hby at_87) rfl ?_
          show Steps p.tables e below (T14.setTop (mkF m 88 #[.val (.int p0), .val (.int ((p0 &&& (2147483647 : Int32)) % (6 : Int32))), .val (.ref aEXACT), .val (.int (1 : Int32))] [(.int (1 : Int32)), (.int (if aEXACT = aMIN then (1 : Int32) else (if aEXACT = aMAX then (1 : Int32) else (if aEXACT = aEXACT then (1 : Int32) else (0 : Int32)))))])) _
          refine XS.icmpNo X14.here hx rfl (hb hby at_88) rfl (teq (show (if aEXACT = aMIN then (1 : Int32) else (if aEXACT = aMAX then (1 : Int32) else (if aEXACT = aEXACT then (1 : Int32) else (0 : Int32)))) = (1 : Int32) from by rw [if_neg ne_aEXACT_aMIN, if_neg ne_aEXACT_aMAX, if_pos rfl])).2 ?_
          show Steps p.tables e below (T14.setTop (mkF m 91 #[.val (.int p0), .val (.int ((p0 &&& (2147483647 : Int32)) % (6 : Int32))), .val (.ref aEXACT), .val (.int (1 : Int32))] [])) _
          refine XS.iconst X14.here hx rfl (hb hby at_91) ?_
          show Steps p.tables e below (T14.setTop (mkF m 92 #[.val (.int p0), .val (.int ((p0 &&& (2147483647 : Int32)) % (6 : Int32))), .val (.ref aEXACT), .val (.int (1 : Int32))] [(.int (1 : Int32))])) _
          refine XS.goto X14.here hx rfl (pc0 := 92) (pc' := 96) rfl (hb hby at_92) (by decide) (by decide) ?_
          show Steps p.tables e below (T14.setTop (mkF m 96 #[.val (.int p0), .val (.int ((p0 &&& (2147483647 : Int32)) % (6 : Int32))), .val (.ref aEXACT), .val (.int (1 : Int32))] [(.int (1 : Int32))])) _
          exact k)
        obtain ⟨fs, hr, hrun, hended, hW, hsame⟩ := X14.leave (v := some (.int (1 : Int32))) (fun h => by rw [Bd.returns] at h; cases h)
        refine ⟨_, _, pre15 _ ?_, hrun, hended, _, _, rfl, ?_, ⟨_, rfl⟩, hW, hsame.mono (by decide) (by decide)⟩
        · exact retN X14 hx (t := .boolean) Bd.returns (by simp) (hb hby at_96) hr
        · show Q0 Z p0 aMIN aSOME aMAX aEXACT aVALUE aONLY h0 n0 _ T14.heap _
          rw [hh14]
          exact ⟨rfl, N14⟩
      · have pre16 : ∀ t, Steps p.tables e below (s₁.setTop (mkF m 51 #[.val (.int p0), .val (.int ((p0 &&& (2147483647 : Int32)) % (6 : Int32))), .unset, .unset] [(.int (3 : Int32)), (.int ((p0 &&& (2147483647 : Int32)) % (6 : Int32)))])) t → Steps p.tables e below (s₁.setTop (entryFrame m #[(.int p0)] maxLocals)) t := fun t k => pre11 t (by
          refine XS.icmpYes X0.here hx rfl (pc0 := 37) (pc' := 49) rfl (hb hby at_37) rfl (feq hs12).2 (by decide) (by decide) ?_
          show Steps p.tables e below (s₁.setTop (mkF m 49 #[.val (.int p0), .val (.int ((p0 &&& (2147483647 : Int32)) % (6 : Int32))), .unset, .unset] [])) _
          refine XS.iloadN X0.here hx rfl (hb hby at_49) rfl ?_
          show Steps p.tables e below (s₁.setTop (mkF m 50 #[.val (.int p0), .val (.int ((p0 &&& (2147483647 : Int32)) % (6 : Int32))), .unset, .unset] [(.int ((p0 &&& (2147483647 : Int32)) % (6 : Int32)))])) _
          refine XS.iconst X0.here hx rfl (hb hby at_50) ?_
          show Steps p.tables e below (s₁.setTop (mkF m 51 #[.val (.int p0), .val (.int ((p0 &&& (2147483647 : Int32)) % (6 : Int32))), .unset, .unset] [(.int (3 : Int32)), (.int ((p0 &&& (2147483647 : Int32)) % (6 : Int32)))])) _
          exact k)
        by_cases hs17 : ((p0 &&& (2147483647 : Int32)) % (6 : Int32)) = (3 : Int32)
        · obtain ⟨T18, X18, e18, st18⟩ := getS2 X0 hx hZ hown (host := "") (Or.inl (hw _ (List.mem_of_getElem? (i := 10) rfl))) Via.refl e0 S_SOME (g := (mkF m 54 #[.val (.int p0), .val (.int ((p0 &&& (2147483647 : Int32)) % (6 : Int32))), .unset, .unset] [])) rfl (hb hby at_54)
          have ne_aSOME_aMIN : ¬ aSOME = aMIN := Fld.ne F_ordinal_aSOME F_ordinal_aMIN (fun q => absurd (Value.int.inj q) (by decide))
          have ne_aSOME_aMAX : ¬ aSOME = aMAX := Fld.ne F_ordinal_aSOME F_ordinal_aMAX (fun q => absurd (Value.int.inj q) (by decide))
          have ne_aSOME_aEXACT : ¬ aSOME = aEXACT := Fld.ne F_ordinal_aSOME F_ordinal_aEXACT (fun q => absurd (Value.int.inj q) (by decide))
          obtain ⟨cq19, kq19, q19a, q19b, q19c⟩ := isOf hZ e18 (E_aSOME)
          obtain ⟨_, _, ⟨T19, L19, k19, n19⟩, -, X19, ⟨Lc19, hQ19, l19, y19, z19⟩, st19⟩ := X18.virtualBack hx (y := (⟨"com/example/holonym/holonym/ontology/Restriction$Kind", "isCardinality", "()Z"⟩ : MethodName)) (z := (⟨"com/example/holonym/holonym/ontology/Restriction$Kind", "isCardinality", "()Z"⟩ : MethodName)) hown (mvT hZ (hw _ (List.mem_of_getElem? (i := 4) rfl))) (mvT hZ (hw _ (List.mem_of_getElem? (i := 5) rfl))) (notFace_of_selects (args := #[]) (mvT hZ (hw _ (List.mem_of_getElem? (i := 7) rfl)))) (mvT hZ (hw _ (List.mem_of_getElem? (i := 7) rfl))) (mvT hZ (hw _ (List.mem_of_getElem? (i := 6) rfl))) (by decide) (backOf (W := 0) (rm1 l Z a0 hw [] aSOME aMIN aMAX aEXACT h0 n0 Z0 S_MIN S_MAX S_EXACT) hZ (hw _ (List.mem_of_getElem? (i := 8) rfl)) (hw _ (List.mem_of_getElem? (i := 2) rfl)) (by decide) (by decide)) q19a q19c (g := (mkF m 84 #[.val (.int p0), .val (.int ((p0 &&& (2147483647 : Int32)) % (6 : Int32))), .val (.ref aSOME), .val (.int (0 : Int32))] [(.ref aSOME)])) rfl (by rw [hml]; rfl) (Steps.refl _) (argsL := []) (rest := []) (lenOf pd_0 rfl) rfl (by show 2 * 0 + _ ≤ _; exact Nat.le_of_eq rfl) (hb hby at_84) (fun _ _ => ⟨rfl, e18, (by decide : 0 + 0 ≤ _), (by decide : 0 + 0 ≤ _)⟩)
          dsimp only [Pt.U, Pt.locs, Pt.cells, Pt.slots] at X19 l19 y19 z19 st19 hQ19
          subst l19 y19 z19
          obtain ⟨rfl, N19q, hh19⟩ := hQ19
          have N19 := Fr.app N0 N19q
          have pre20 : ∀ t, Steps p.tables e below (T19.setTop (mkF m 96 #[.val (.int p0), .val (.int ((p0 &&& (2147483647 : Int32)) % (6 : Int32))), .val (.ref aSOME), .val (.int (0 : Int32))] [(.int (1 : Int32))])) t → Steps p.tables e below (s₁.setTop (entryFrame m #[(.int p0)] maxLocals)) t := fun t k => pre16 t (by
            refine XS.icmpNo X0.here hx rfl (hb hby at_51) rfl (teq hs17).2 ?_
            show Steps p.tables e below (s₁.setTop (mkF m 54 #[.val (.int p0), .val (.int ((p0 &&& (2147483647 : Int32)) % (6 : Int32))), .unset, .unset] [])) _
            refine st18 _ ?_
            show Steps p.tables e below (T18.setTop (mkF m 57 #[.val (.int p0), .val (.int ((p0 &&& (2147483647 : Int32)) % (6 : Int32))), .unset, .unset] [(.ref aSOME)])) _
            refine XS.astoreN X18.here hx rfl (hb hby at_57) rfl rfl (l' := #[.val (.int p0), .val (.int ((p0 &&& (2147483647 : Int32)) % (6 : Int32))), .val (.ref aSOME), .unset]) rfl ?_
            show Steps p.tables e below (T18.setTop (mkF m 58 #[.val (.int p0), .val (.int ((p0 &&& (2147483647 : Int32)) % (6 : Int32))), .val (.ref aSOME), .unset] [])) _
            refine XS.iconst X18.here hx rfl (hb hby at_58) ?_
            show Steps p.tables e below (T18.setTop (mkF m 59 #[.val (.int p0), .val (.int ((p0 &&& (2147483647 : Int32)) % (6 : Int32))), .val (.ref aSOME), .unset] [(.int (0 : Int32))])) _
            refine XS.istoreN X18.here hx rfl (hb hby at_59) rfl (l' := #[.val (.int p0), .val (.int ((p0 &&& (2147483647 : Int32)) % (6 : Int32))), .val (.ref aSOME), .val (.int (0 : Int32))]) rfl ?_
            show Steps p.tables e below (T18.setTop (mkF m 60 #[.val (.int p0), .val (.int ((p0 &&& (2147483647 : Int32)) % (6 : Int32))), .val (.ref aSOME), .val (.int (0 : Int32))] [])) _
            refine XS.goto X18.here hx rfl (pc0 := 60) (pc' := 83) rfl (hb hby at_60) (by decide) (by decide) ?_
            show Steps p.tables e below (T18.setTop (mkF m 83 #[.val (.int p0), .val (.int ((p0 &&& (2147483647 : Int32)) % (6 : Int32))), .val (.ref aSOME), .val (.int (0 : Int32))] [])) _
            refine XS.aloadN X18.here hx rfl (hb hby at_83) rfl rfl ?_
            show Steps p.tables e below (T18.setTop (mkF m 84 #[.val (.int p0), .val (.int ((p0 &&& (2147483647 : Int32)) % (6 : Int32))), .val (.ref aSOME), .val (.int (0 : Int32))] [(.ref aSOME)])) _
            refine st19.trans ?_
            show Steps p.tables e below (T19.setTop (mkF m 87 #[.val (.int p0), .val (.int ((p0 &&& (2147483647 : Int32)) % (6 : Int32))), .val (.ref aSOME), .val (.int (0 : Int32))] [(.int (if aSOME = aMIN then (1 : Int32) else (if aSOME = aMAX then (1 : Int32) else (if aSOME = aEXACT then (1 : Int32) else (0 : Int32)))))])) _
            refine XS.iloadN X19.here hx rfl (hb hby at_87) rfl ?_
            show Steps p.tables e below (T19.setTop (mkF m 88 #[.val (.int p0), .val (.int ((p0 &&& (2147483647 : Int32)) % (6 : Int32))), .val (.ref aSOME), .val (.int (0 : Int32))] [(.int (0 : Int32)), (.int (if aSOME = aMIN then (1 : Int32) else (if aSOME = aMAX then (1 : Int32) else (if aSOME = aEXACT then (1 : Int32) else (0 : Int32)))))])) _
            refine XS.icmpNo X19.here hx rfl (hb hby at_88) rfl (teq (show (if aSOME = aMIN then (1 : Int32) else (if aSOME = aMAX then (1 : Int32) else (if aSOME = aEXACT then (1 : Int32) else (0 : Int32)))) = (0 : Int32) from by rw [if_neg ne_aSOME_aMIN, if_neg ne_aSOME_aMAX, if_neg ne_aSOME_aEXACT])).2 ?_
            show Steps p.tables e below (T19.setTop (mkF m 91 #[.val (.int p0), .val (.int ((p0 &&& (2147483647 : Int32)) % (6 : Int32))), .val (.ref aSOME), .val (.int (0 : Int32))] [])) _
            refine XS.iconst X19.here hx rfl (hb hby at_91) ?_
            show Steps p.tables e below (T19.setTop (mkF m 92 #[.val (.int p0), .val (.int ((p0 &&& (2147483647 : Int32)) % (6 : Int32))), .val (.ref aSOME), .val (.int (0 : Int32))] [(.int (1 : Int32))])) _
            refine XS.goto X19.here hx rfl (pc0 := 92) (pc' := 96) rfl (hb hby at_92) (by decide) (by decide) ?_
            show Steps p.tables e below (T19.setTop (mkF m 96 #[.val (.int p0), .val (.int ((p0 &&& (2147483647 : Int32)) % (6 : Int32))), .val (.ref aSOME), .val (.int (0 : Int32))] [(.int (1 : Int32))])) _
            exact k)
          obtain ⟨fs, hr, hrun, hended, hW, hsame⟩ := X19.leave (v := some (.int (1 : Int32))) (fun h => by rw [Bd.returns] at h; cases h)
          refine ⟨_, _, pre20 _ ?_, hrun, hended, _, _, rfl, ?_, ⟨_, rfl⟩, hW, hsame.mono (by decide) (by decide)⟩
          · exact retN X19 hx (t := .boolean) Bd.returns (by simp) (hb hby at_96) hr
          · show Q0 Z p0 aMIN aSOME aMAX aEXACT aVALUE aONLY h0 n0 _ T19.heap _
            rw [hh19]
            exact ⟨rfl, N19⟩
        · have pre21 : ∀ t, Steps p.tables e below (s₁.setTop (mkF m 65 #[.val (.int p0), .val (.int ((p0 &&& (2147483647 : Int32)) % (6 : Int32))), .unset, .unset] [(.int (4 : Int32)), (.int ((p0 &&& (2147483647 : Int32)) % (6 : Int32)))])) t → Steps p.tables e below (s₁.setTop (entryFrame m #[(.int p0)] maxLocals)) t := fun t k => pre16 t (by
            refine XS.icmpYes X0.here hx rfl (pc0 := 51) (pc' := 63) rfl (hb hby at_51) rfl (feq hs17).2 (by decide) (by decide) ?_
            show Steps p.tables e below (s₁.setTop (mkF m 63 #[.val (.int p0), .val (.int ((p0 &&& (2147483647 : Int32)) % (6 : Int32))), .unset, .unset] [])) _
            refine XS.iloadN X0.here hx rfl (hb hby at_63) rfl ?_
            show Steps p.tables e below (s₁.setTop (mkF m 64 #[.val (.int p0), .val (.int ((p0 &&& (2147483647 : Int32)) % (6 : Int32))), .unset, .unset] [(.int ((p0 &&& (2147483647 : Int32)) % (6 : Int32)))])) _
            refine XS.iconst X0.here hx rfl (hb hby at_64) ?_
            show Steps p.tables e below (s₁.setTop (mkF m 65 #[.val (.int p0), .val (.int ((p0 &&& (2147483647 : Int32)) % (6 : Int32))), .unset, .unset] [(.int (4 : Int32)), (.int ((p0 &&& (2147483647 : Int32)) % (6 : Int32)))])) _
            exact k)
          by_cases hs22 : ((p0 &&& (2147483647 : Int32)) % (6 : Int32)) = (4 : Int32)
          · obtain ⟨T23, X23, e23, st23⟩ := getS2 X0 hx hZ hown (host := "") (Or.inl (hw _ (List.mem_of_getElem? (i := 20) rfl))) Via.refl e0 S_ONLY (g := (mkF m 68 #[.val (.int p0), .val (.int ((p0 &&& (2147483647 : Int32)) % (6 : Int32))), .unset, .unset] [])) rfl (hb hby at_68)
            have ne_aONLY_aMIN : ¬ aONLY = aMIN := Fld.ne F_ordinal_aONLY F_ordinal_aMIN (fun q => absurd (Value.int.inj q) (by decide))
            have ne_aONLY_aMAX : ¬ aONLY = aMAX := Fld.ne F_ordinal_aONLY F_ordinal_aMAX (fun q => absurd (Value.int.inj q) (by decide))
            have ne_aONLY_aEXACT : ¬ aONLY = aEXACT := Fld.ne F_ordinal_aONLY F_ordinal_aEXACT (fun q => absurd (Value.int.inj q) (by decide))
            obtain ⟨cq24, kq24, q24a, q24b, q24c⟩ := isOf hZ e23 (E_aONLY)
            obtain ⟨_, _, ⟨T24, L24, k24, n24⟩, -, X24, ⟨Lc24, hQ24, l24, y24, z24⟩, st24⟩ := X23.virtualBack hx (y := (⟨"com/example/holonym/holonym/ontology/Restriction$Kind", "isCardinality", "()Z"⟩ : MethodName)) (z := (⟨"com/example/holonym/holonym/ontology/Restriction$Kind", "isCardinality", "()Z"⟩ : MethodName)) hown (mvT hZ (hw _ (List.mem_of_getElem? (i := 4) rfl))) (mvT hZ (hw _ (List.mem_of_getElem? (i := 5) rfl))) (notFace_of_selects (args := #[]) (mvT hZ (hw _ (List.mem_of_getElem? (i := 7) rfl)))) (mvT hZ (hw _ (List.mem_of_getElem? (i := 7) rfl))) (mvT hZ (hw _ (List.mem_of_getElem? (i := 6) rfl))) (by decide) (backOf (W := 0) (rm1 l Z a0 hw [] aONLY aMIN aMAX aEXACT h0 n0 Z0 S_MIN S_MAX S_EXACT) hZ (hw _ (List.mem_of_getElem? (i := 8) rfl)) (hw _ (List.mem_of_getElem? (i := 2) rfl)) (by decide) (by decide)) q24a q24c (g := (mkF m 84 #[.val (.int p0), .val (.int ((p0 &&& (2147483647 : Int32)) % (6 : Int32))), .val (.ref aONLY), .val (.int (0 : Int32))] [(.ref aONLY)])) rfl (by rw [hml]; rfl) (Steps.refl _) (argsL := []) (rest := []) (lenOf pd_0 rfl) rfl (by show 2 * 0 + _ ≤ _; exact Nat.le_of_eq rfl) (hb hby at_84) (fun _ _ => ⟨rfl, e23, (by decide : 0 + 0 ≤ _), (by decide : 0 + 0 ≤ _)⟩)
            dsimp only [Pt.U, Pt.locs, Pt.cells, Pt.slots] at X24 l24 y24 z24 st24 hQ24
            subst l24 y24 z24
            obtain ⟨rfl, N24q, hh24⟩ := hQ24
            have N24 := Fr.app N0 N24q
            have pre25 : ∀ t, Steps p.tables e below (T24.setTop (mkF m 96 #[.val (.int p0), .val (.int ((p0 &&& (2147483647 : Int32)) % (6 : Int32))), .val (.ref aONLY), .val (.int (0 : Int32))] [(.int (1 : Int32))])) t → Steps p.tables e below (s₁.setTop (entryFrame m #[(.int p0)] maxLocals)) t := fun t k => pre21 t (by
              refine XS.icmpNo X0.here hx rfl (hb hby at_65) rfl (teq hs22).2 ?_
              show Steps p.tables e below (s₁.setTop (mkF m 68 #[.val (.int p0), .val (.int ((p0 &&& (2147483647 : Int32)) % (6 : Int32))), .unset, .unset] [])) _
              refine st23 _ ?_
              show Steps p.tables e below (T23.setTop (mkF m 71 #[.val (.int p0), .val (.int ((p0 &&& (2147483647 : Int32)) % (6 : Int32))), .unset, .unset] [(.ref aONLY)])) _
              refine XS.astoreN X23.here hx rfl (hb hby at_71) rfl rfl (l' := #[.val (.int p0), .val (.int ((p0 &&& (2147483647 : Int32)) % (6 : Int32))), .val (.ref aONLY), .unset]) rfl ?_
              show Steps p.tables e below (T23.setTop (mkF m 72 #[.val (.int p0), .val (.int ((p0 &&& (2147483647 : Int32)) % (6 : Int32))), .val (.ref aONLY), .unset] [])) _
              refine XS.iconst X23.here hx rfl (hb hby at_72) ?_
              show Steps p.tables e below (T23.setTop (mkF m 73 #[.val (.int p0), .val (.int ((p0 &&& (2147483647 : Int32)) % (6 : Int32))), .val (.ref aONLY), .unset] [(.int (0 : Int32))])) _
              refine XS.istoreN X23.here hx rfl (hb hby at_73) rfl (l' := #[.val (.int p0), .val (.int ((p0 &&& (2147483647 : Int32)) % (6 : Int32))), .val (.ref aONLY), .val (.int (0 : Int32))]) rfl ?_
              show Steps p.tables e below (T23.setTop (mkF m 74 #[.val (.int p0), .val (.int ((p0 &&& (2147483647 : Int32)) % (6 : Int32))), .val (.ref aONLY), .val (.int (0 : Int32))] [])) _
              refine XS.goto X23.here hx rfl (pc0 := 74) (pc' := 83) rfl (hb hby at_74) (by decide) (by decide) ?_
              show Steps p.tables e below (T23.setTop (mkF m 83 #[.val (.int p0), .val (.int ((p0 &&& (2147483647 : Int32)) % (6 : Int32))), .val (.ref aONLY), .val (.int (0 : Int32))] [])) _
              refine XS.aloadN X23.here hx rfl (hb hby at_83) rfl rfl ?_
              show Steps p.tables e below (T23.setTop (mkF m 84 #[.val (.int p0), .val (.int ((p0 &&& (2147483647 : Int32)) % (6 : Int32))), .val (.ref aONLY), .val (.int (0 : Int32))] [(.ref aONLY)])) _
              refine st24.trans ?_
              show Steps p.tables e below (T24.setTop (mkF m 87 #[.val (.int p0), .val (.int ((p0 &&& (2147483647 : Int32)) % (6 : Int32))), .val (.ref aONLY), .val (.int (0 : Int32))] [(.int (if aONLY = aMIN then (1 : Int32) else (if aONLY = aMAX then (1 : Int32) else (if aONLY = aEXACT then (1 : Int32) else (0 : Int32)))))])) _
              refine XS.iloadN X24.here hx rfl (hb hby at_87) rfl ?_
              show Steps p.tables e below (T24.setTop (mkF m 88 #[.val (.int p0), .val (.int ((p0 &&& (2147483647 : Int32)) % (6 : Int32))), .val (.ref aONLY), .val (.int (0 : Int32))] [(.int (0 : Int32)), (.int (if aONLY = aMIN then (1 : Int32) else (if aONLY = aMAX then (1 : Int32) else (if aONLY = aEXACT then (1 : Int32) else (0 : Int32)))))])) _
              refine XS.icmpNo X24.here hx rfl (hb hby at_88) rfl (teq (show (if aONLY = aMIN then (1 : Int32) else (if aONLY = aMAX then (1 : Int32) else (if aONLY = aEXACT then (1 : Int32) else (0 : Int32)))) = (0 : Int32) from by rw [if_neg ne_aONLY_aMIN, if_neg ne_aONLY_aMAX, if_neg ne_aONLY_aEXACT])).2 ?_
              show Steps p.tables e below (T24.setTop (mkF m 91 #[.val (.int p0), .val (.int ((p0 &&& (2147483647 : Int32)) % (6 : Int32))), .val (.ref aONLY), .val (.int (0 : Int32))] [])) _
              refine XS.iconst X24.here hx rfl (hb hby at_91) ?_
              show Steps p.tables e below (T24.setTop (mkF m 92 #[.val (.int p0), .val (.int ((p0 &&& (2147483647 : Int32)) % (6 : Int32))), .val (.ref aONLY), .val (.int (0 : Int32))] [(.int (1 : Int32))])) _
              refine XS.goto X24.here hx rfl (pc0 := 92) (pc' := 96) rfl (hb hby at_92) (by decide) (by decide) ?_
              show Steps p.tables e below (T24.setTop (mkF m 96 #[.val (.int p0), .val (.int ((p0 &&& (2147483647 : Int32)) % (6 : Int32))), .val (.ref aONLY), .val (.int (0 : Int32))] [(.int (1 : Int32))])) _
              exact k)
            obtain ⟨fs, hr, hrun, hended, hW, hsame⟩ := X24.leave (v := some (.int (1 : Int32))) (fun h => by rw [Bd.returns] at h; cases h)
            refine ⟨_, _, pre25 _ ?_, hrun, hended, _, _, rfl, ?_, ⟨_, rfl⟩, hW, hsame.mono (by decide) (by decide)⟩
            · exact retN X24 hx (t := .boolean) Bd.returns (by simp) (hb hby at_96) hr
            · show Q0 Z p0 aMIN aSOME aMAX aEXACT aVALUE aONLY h0 n0 _ T24.heap _
              rw [hh24]
              exact ⟨rfl, N24⟩
          · obtain ⟨T26, X26, e26, st26⟩ := getS2 X0 hx hZ hown (host := "") (Or.inl (hw _ (List.mem_of_getElem? (i := 18) rfl))) Via.refl e0 S_VALUE (g := (mkF m 77 #[.val (.int p0), .val (.int ((p0 &&& (2147483647 : Int32)) % (6 : Int32))), .unset, .unset] [])) rfl (hb hby at_77)
            have ne_aVALUE_aMIN : ¬ aVALUE = aMIN := Fld.ne F_ordinal_aVALUE F_ordinal_aMIN (fun q => absurd (Value.int.inj q) (by decide))
            have ne_aVALUE_aMAX : ¬ aVALUE = aMAX := Fld.ne F_ordinal_aVALUE F_ordinal_aMAX (fun q => absurd (Value.int.inj q) (by decide))
            have ne_aVALUE_aEXACT : ¬ aVALUE = aEXACT := Fld.ne F_ordinal_aVALUE F_ordinal_aEXACT (fun q => absurd (Value.int.inj q) (by decide))
            obtain ⟨cq27, kq27, q27a, q27b, q27c⟩ := isOf hZ e26 (E_aVALUE)
            obtain ⟨_, _, ⟨T27, L27, k27, n27⟩, -, X27, ⟨Lc27, hQ27, l27, y27, z27⟩, st27⟩ := X26.virtualBack hx (y := (⟨"com/example/holonym/holonym/ontology/Restriction$Kind", "isCardinality", "()Z"⟩ : MethodName)) (z := (⟨"com/example/holonym/holonym/ontology/Restriction$Kind", "isCardinality", "()Z"⟩ : MethodName)) hown (mvT hZ (hw _ (List.mem_of_getElem? (i := 4) rfl))) (mvT hZ (hw _ (List.mem_of_getElem? (i := 5) rfl))) (notFace_of_selects (args := #[]) (mvT hZ (hw _ (List.mem_of_getElem? (i := 7) rfl)))) (mvT hZ (hw _ (List.mem_of_getElem? (i := 7) rfl))) (mvT hZ (hw _ (List.mem_of_getElem? (i := 6) rfl))) (by decide) (backOf (W := 0) (rm1 l Z a0 hw [] aVALUE aMIN aMAX aEXACT h0 n0 Z0 S_MIN S_MAX S_EXACT) hZ (hw _ (List.mem_of_getElem? (i := 8) rfl)) (hw _ (List.mem_of_getElem? (i := 2) rfl)) (by decide) (by decide)) q27a q27c (g := (mkF m 84 #[.val (.int p0), .val (.int ((p0 &&& (2147483647 : Int32)) % (6 : Int32))), .val (.ref aVALUE), .val (.int (0 : Int32))] [(.ref aVALUE)])) rfl (by rw [hml]; rfl) (Steps.refl _) (argsL := []) (rest := []) (lenOf pd_0 rfl) rfl (by show 2 * 0 + _ ≤ _; exact Nat.le_of_eq rfl) (hb hby at_84) (fun _ _ => ⟨rfl, e26, (by decide : 0 + 0 ≤ _), (by decide : 0 + 0 ≤ _)⟩)
            dsimp only [Pt.U, Pt.locs, Pt.cells, Pt.slots] at X27 l27 y27 z27 st27 hQ27
            subst l27 y27 z27
            obtain ⟨rfl, N27q, hh27⟩ := hQ27
            have N27 := Fr.app N0 N27q
            have pre28 : ∀ t, Steps p.tables e below (T27.setTop (mkF m 96 #[.val (.int p0), .val (.int ((p0 &&& (2147483647 : Int32)) % (6 : Int32))), .val (.ref aVALUE), .val (.int (0 : Int32))] [(.int (1 : Int32))])) t → Steps p.tables e below (s₁.setTop (entryFrame m #[(.int p0)] maxLocals)) t := fun t k => pre21 t (by
              refine XS.icmpYes X0.here hx rfl (pc0 := 65) (pc' := 77) rfl (hb hby at_65) rfl (feq hs22).2 (by decide) (by decide) ?_
              show Steps p.tables e below (s₁.setTop (mkF m 77 #[.val (.int p0), .val (.int ((p0 &&& (2147483647 : Int32)) % (6 : Int32))), .unset, .unset] [])) _
              refine st26 _ ?_
              show Steps p.tables e below (T26.setTop (mkF m 80 #[.val (.int p0), .val (.int ((p0 &&& (2147483647 : Int32)) % (6 : Int32))), .unset, .unset] [(.ref aVALUE)])) _
              refine XS.astoreN X26.here hx rfl (hb hby at_80) rfl rfl (l' := #[.val (.int p0), .val (.int ((p0 &&& (2147483647 : Int32)) % (6 : Int32))), .val (.ref aVALUE), .unset]) rfl ?_
              show Steps p.tables e below (T26.setTop (mkF m 81 #[.val (.int p0), .val (.int ((p0 &&& (2147483647 : Int32)) % (6 : Int32))), .val (.ref aVALUE), .unset] [])) _
              refine XS.iconst X26.here hx rfl (hb hby at_81) ?_
              show Steps p.tables e below (T26.setTop (mkF m 82 #[.val (.int p0), .val (.int ((p0 &&& (2147483647 : Int32)) % (6 : Int32))), .val (.ref aVALUE), .unset] [(.int (0 : Int32))])) _
              refine XS.istoreN X26.here hx rfl (hb hby at_82) rfl (l' := #[.val (.int p0), .val (.int ((p0 &&& (2147483647 : Int32)) % (6 : Int32))), .val (.ref aVALUE), .val (.int (0 : Int32))]) rfl ?_
              show Steps p.tables e below (T26.setTop (mkF m 83 #[.val (.int p0), .val (.int ((p0 &&& (2147483647 : Int32)) % (6 : Int32))), .val (.ref aVALUE), .val (.int (0 : Int32))] [])) _
              refine XS.aloadN X26.here hx rfl (hb hby at_83) rfl rfl ?_
              show Steps p.tables e below (T26.setTop (mkF m 84 #[.val (.int p0), .val (.int ((p0 &&& (2147483647 : Int32)) % (6 : Int32))), .val (.ref aVALUE), .val (.int (0 : Int32))] [(.ref aVALUE)])) _
              refine st27.trans ?_
              show Steps p.tables e below (T27.setTop (mkF m 87 #[.val (.int p0), .val (.int ((p0 &&& (2147483647 : Int32)) % (6 : Int32))), .val (.ref aVALUE), .val (.int (0 : Int32))] [(.int (if aVALUE = aMIN then (1 : Int32) else (if aVALUE = aMAX then (1 : Int32) else (if aVALUE = aEXACT then (1 : Int32) else (0 : Int32)))))])) _
              refine XS.iloadN X27.here hx rfl (hb hby at_87) rfl ?_
              show Steps p.tables e below (T27.setTop (mkF m 88 #[.val (.int p0), .val (.int ((p0 &&& (2147483647 : Int32)) % (6 : Int32))), .val (.ref aVALUE), .val (.int (0 : Int32))] [(.int (0 : Int32)), (.int (if aVALUE = aMIN then (1 : Int32) else (if aVALUE = aMAX then (1 : Int32) else (if aVALUE = aEXACT then (1 : Int32) else (0 : Int32)))))])) _
              refine XS.icmpNo X27.here hx rfl (hb hby at_88) rfl (teq (show (if aVALUE = aMIN then (1 : Int32) else (if aVALUE = aMAX then (1 : Int32) else (if aVALUE = aEXACT then (1 : Int32) else (0 : Int32)))) = (0 : Int32) from by rw [if_neg ne_aVALUE_aMIN, if_neg ne_aVALUE_aMAX, if_neg ne_aVALUE_aEXACT])).2 ?_
              show Steps p.tables e below (T27.setTop (mkF m 91 #[.val (.int p0), .val (.int ((p0 &&& (2147483647 : Int32)) % (6 : Int32))), .val (.ref aVALUE), .val (.int (0 : Int32))] [])) _
              refine XS.iconst X27.here hx rfl (hb hby at_91) ?_
              show Steps p.tables e below (T27.setTop (mkF m 92 #[.val (.int p0), .val (.int ((p0 &&& (2147483647 : Int32)) % (6 : Int32))), .val (.ref aVALUE), .val (.int (0 : Int32))] [(.int (1 : Int32))])) _
              refine XS.goto X27.here hx rfl (pc0 := 92) (pc' := 96) rfl (hb hby at_92) (by decide) (by decide) ?_
              show Steps p.tables e below (T27.setTop (mkF m 96 #[.val (.int p0), .val (.int ((p0 &&& (2147483647 : Int32)) % (6 : Int32))), .val (.ref aVALUE), .val (.int (0 : Int32))] [(.int (1 : Int32))])) _
              exact k)
            obtain ⟨fs, hr, hrun, hended, hW, hsame⟩ := X27.leave (v := some (.int (1 : Int32))) (fun h => by rw [Bd.returns] at h; cases h)
            refine ⟨_, _, pre28 _ ?_, hrun, hended, _, _, rfl, ?_, ⟨_, rfl⟩, hW, hsame.mono (by decide) (by decide)⟩
            · exact retN X27 hx (t := .boolean) Bd.returns (by simp) (hb hby at_96) hr
            · show Q0 Z p0 aMIN aSOME aMAX aEXACT aVALUE aONLY h0 n0 _ T27.heap _
              rw [hh27]
              exact ⟨rfl, N27⟩
set_option maxRecDepth 65536 in
set_option maxHeartbeats 40000000 in
theorem comes_1 {Post : Tables → Env → Array Value → State → Outcome → State → Prop} (hpost : ∀ tb e args s v u, (limb_1_1.after args s (.returned v) u = true ∧ limb_1_2.after args s (.returned v) u = true ∧ True) → FrameEnd s (.returned v) u (Jvm.fieldLocs frame_1_writes args s ++ Jvm.arrayLocs frame_1_arrays args s ++ Jvm.staticLocs frame_1_statics s) 0 0 → Post tb e args s (.returned v) u) :
    ArmFor flags0 classFile x code maxLocals ret World_1 tables_1 room_1 Calls_1 rest_1 Pre_1 Post := by
  intro l hfl _ _ p e ha hc hk s m args below hf hA hF happ hP
  obtain ⟨hcalls, hrest, hpre⟩ := hP
  obtain ⟨-, -, -, hnamed, -, -, -, hat⟩ := (Spec.applies_iff hf).mp happ
  obtain ⟨hg, hn⟩ := and_e (Cond.before_iff.mp (show (Jvm.Cond.and given_1 narrow_1).before args s = true from hpre))
  obtain ⟨h1, g0⟩ := and_e hg
  obtain ⟨w0, rfl⟩ : ∃ w0 : Value, args = #[w0] := by
    have hs : args.size = 1 := by simpa [Cond.value, given_1] using h1
    obtain ⟨L⟩ := args
    match L, hs with
    | [w0], _ => exact ⟨w0, rfl⟩
  have hw := fun d (hd : d ∈ tables_1) => atoms_spec (ws := Jvm.Cond.code x code maxLocals ret :: tables_1) hat d (List.mem_cons_of_mem _ hd)
  have hfit : Fit s := fun {y c} hc i hi => by
    obtain ⟨ha, rfl⟩ := Array.getElem?_eq_some_iff.mp hc
    have q := List.all_eq_true.mp ((Array.all_eq_true_iff_forall_mem.mp hF) _ (Array.getElem_mem ha)) i (List.mem_range.mpr hi)
    simpa [Array.getElem?_eq_getElem hi] using q
  obtain ⟨i0, e0⟩ := is_v g0
  obtain rfl : w0 = (.int i0) := Option.some.inj e0
  obtain ⟨nc0, nr0⟩ := and_e hn
  obtain ⟨nc1, nr1⟩ := and_e nr0
  obtain ⟨nc2, nr2⟩ := and_e nr1
  obtain ⟨nc3, nr3⟩ := and_e nr2
  obtain ⟨nc4, nr4⟩ := and_e nr3
  obtain ⟨nc5, nr5⟩ := and_e nr4
  obtain ⟨nc6, nr6⟩ := and_e nr5
  obtain ⟨nc7, nr7⟩ := and_e nr6
  obtain ⟨nc8, nr8⟩ := and_e nr7
  obtain ⟨nc9, nr9⟩ := and_e nr8
  obtain ⟨nc10, nr10⟩ := and_e nr9
  obtain ⟨aMIN, ev_aMIN⟩ := exa_v nc0
  have S_aMIN : Sta s s.heap "com/example/holonym/holonym/ontology/Restriction$Kind" "MIN" "Lcom/example/holonym/holonym/ontology/Restriction$Kind;" (.ref aMIN) := Sta.start ev_aMIN (Or.inr ⟨(hw _ (List.mem_of_getElem? (i := 2) rfl)), (hw _ (List.mem_of_getElem? (i := 3) rfl))⟩)
  have E_aMIN : Exa s s.heap aMIN "com/example/holonym/holonym/ontology/Restriction$Kind" := Exa.start ev_aMIN nc0
  obtain ⟨aSOME, ev_aSOME⟩ := exa_v nc1
  have S_aSOME : Sta s s.heap "com/example/holonym/holonym/ontology/Restriction$Kind" "SOME" "Lcom/example/holonym/holonym/ontology/Restriction$Kind;" (.ref aSOME) := Sta.start ev_aSOME (Or.inr ⟨(hw _ (List.mem_of_getElem? (i := 2) rfl)), (hw _ (List.mem_of_getElem? (i := 11) rfl))⟩)
  have E_aSOME : Exa s s.heap aSOME "com/example/holonym/holonym/ontology/Restriction$Kind" := Exa.start ev_aSOME nc1
  obtain ⟨aMAX, ev_aMAX⟩ := exa_v nc4
  have S_aMAX : Sta s s.heap "com/example/holonym/holonym/ontology/Restriction$Kind" "MAX" "Lcom/example/holonym/holonym/ontology/Restriction$Kind;" (.ref aMAX) := Sta.start ev_aMAX (Or.inr ⟨(hw _ (List.mem_of_getElem? (i := 2) rfl)), (hw _ (List.mem_of_getElem? (i := 13) rfl))⟩)
  have E_aMAX : Exa s s.heap aMAX "com/example/holonym/holonym/ontology/Restriction$Kind" := Exa.start ev_aMAX nc4
  obtain ⟨aEXACT, ev_aEXACT⟩ := exa_v nc6
  have S_aEXACT : Sta s s.heap "com/example/holonym/holonym/ontology/Restriction$Kind" "EXACT" "Lcom/example/holonym/holonym/ontology/Restriction$Kind;" (.ref aEXACT) := Sta.start ev_aEXACT (Or.inr ⟨(hw _ (List.mem_of_getElem? (i := 2) rfl)), (hw _ (List.mem_of_getElem? (i := 15) rfl))⟩)
  have E_aEXACT : Exa s s.heap aEXACT "com/example/holonym/holonym/ontology/Restriction$Kind" := Exa.start ev_aEXACT nc6
  obtain ⟨aVALUE, ev_aVALUE⟩ := exa_v nc8
  have S_aVALUE : Sta s s.heap "com/example/holonym/holonym/ontology/Restriction$Kind" "VALUE" "Lcom/example/holonym/holonym/ontology/Restriction$Kind;" (.ref aVALUE) := Sta.start ev_aVALUE (Or.inr ⟨(hw _ (List.mem_of_getElem? (i := 2) rfl)), (hw _ (List.mem_of_getElem? (i := 19) rfl))⟩)
  have E_aVALUE : Exa s s.heap aVALUE "com/example/holonym/holonym/ontology/Restriction$Kind" := Exa.start ev_aVALUE nc8
  obtain ⟨aONLY, ev_aONLY⟩ := exa_v nc10
  have S_aONLY : Sta s s.heap "com/example/holonym/holonym/ontology/Restriction$Kind" "ONLY" "Lcom/example/holonym/holonym/ontology/Restriction$Kind;" (.ref aONLY) := Sta.start ev_aONLY (Or.inr ⟨(hw _ (List.mem_of_getElem? (i := 2) rfl)), (hw _ (List.mem_of_getElem? (i := 21) rfl))⟩)
  have E_aONLY : Exa s s.heap aONLY "com/example/holonym/holonym/ontology/Restriction$Kind" := Exa.start ev_aONLY nc10
  have F_ordinal_aSOME : Fld s s.heap aSOME "java/lang/Enum" "ordinal" "I" (.int (3 : Int32)) := own_fld ev_aSOME nc2
  have F_ordinal_aMIN : Fld s s.heap aMIN "java/lang/Enum" "ordinal" "I" (.int (0 : Int32)) := own_fld ev_aMIN nc3
  have F_ordinal_aMAX : Fld s s.heap aMAX "java/lang/Enum" "ordinal" "I" (.int (1 : Int32)) := own_fld ev_aMAX nc5
  have F_ordinal_aEXACT : Fld s s.heap aEXACT "java/lang/Enum" "ordinal" "I" (.int (2 : Int32)) := own_fld ev_aEXACT nc7
  have F_ordinal_aVALUE : Fld s s.heap aVALUE "java/lang/Enum" "ordinal" "I" (.int (5 : Int32)) := own_fld ev_aVALUE nc9
  have F_ordinal_aONLY : Fld s s.heap aONLY "java/lang/Enum" "ordinal" "I" (.int (4 : Int32)) := own_fld ev_aONLY nr10
  obtain ⟨n, o, h1, h2, h3, _, L, rfl, ⟨rfl, N⟩, hq⟩ := rm0 l s _ hw tables_1 i0 aMIN aSOME aMAX aEXACT aVALUE aONLY s.heap s.heap.size (Nat.le_refl _) S_aMIN E_aMIN S_aSOME E_aSOME S_aMAX E_aMAX S_aEXACT E_aEXACT S_aVALUE E_aVALUE S_aONLY E_aONLY F_ordinal_aSOME F_ordinal_aMIN F_ordinal_aMAX F_ordinal_aEXACT F_ordinal_aVALUE F_ordinal_aONLY p e ha hc hk s m _ below hf ((Spec.applies_iff_loose hf).mp happ).1 ⟨rfl, State.Warmed39.refl s, rfl⟩ trivial
  refine ⟨n, _, h1, h2, h3, hpost _ _ _ _ _ _ ⟨Cond.after_iff.mpr rfl, Cond.after_iff.mpr (eq_i res_at (Term.int_eval (1)) rfl), trivial⟩ ⟨hq.1, hq.2.1, (hq.2.2.sift fun y hy => Or.inr (N y hy)).mono (by decide) (by decide)⟩⟩
theorem main_1_1 : Claimed_1_1 := comes_1 fun _ _ _ _ _ _ h hF => ⟨h.1, hF⟩
theorem main_1_2 : Claimed_1_2 := comes_1 fun _ _ _ _ _ _ h hF => ⟨h.2.1, hF⟩
end Jvm.Pilot.@@N@@
namespace Jvm.Pilot.@@N@@
open Jvm Jvm.ClassFile Sem Op Lib Jvm.Free Jvm.Stand Jvm.Pilot.@@N@@.Jvm.D
/-! MADE BY PROGRAM (witnessworld.py) out of the Statement's table words and the real class files: 12 classes; the members and pool entries that the words name. The judged class is class 1, her method 1. -/
namespace start1
open Jvm.ClassFile
def u (s : String) : CpInfo := .utf8 (stringToUtf16 s)
/-- a pool by its gaps: so many unusable entries, then the entry; so many at the end -/
def gap : Nat → List CpInfo → List CpInfo
  | 0, r => r
  | n + 1, r => .unusable :: gap n r
def poolList (es : List (Nat × CpInfo)) (last : Nat) : List CpInfo := es.foldr (fun e r => gap e.1 (e.2 :: r)) (gap last [])
def pool (es : List (Nat × CpInfo)) (last : Nat) : Array CpInfo := ⟨poolList es last⟩
def fileOf (pool : Array CpInfo) (this : Nat) (attrs : Array Attribute := #[]) (ms : Array MethodInfo := #[]) (fl : Nat := 33) (sup : Nat := 0) (ifs : Array Nat := #[]) (fds : Array FieldInfo := #[]) : ClassFile where
  minorVersion := 0
  majorVersion := 65
  constantPool := pool
  accessFlags := fl
  thisClass := this
  superClass := sup
  interfaces := ifs
  fields := fds
  methods := ms
  attributes := attrs
def plain (name : String) (sup : Option ClassId) : Class where
  name := name
  kind := .ordinary
  loader := none
  accessFlags := 33
  super := sup
  interfaces := #[]
  cf := none
  fields := #[]
  methods := #[]
  instanceTypes := #[]
  staticTypes := #[]
  resolved := #[]
  callSites := []
  init := .initialized
  statics := none
  mirror := none

def pool0 : Array CpInfo := pool [(5, u "<init>"), (0, u "()V"), (1, .class_ 10), (1, u "java/lang/Object")] 113

def k0m0 : Method := { name := "<init>", desc := "()V", sig := { parameters := [], returnType := none }, accessFlags := 1, code := none }
/-- java/lang/Object -/
def k0 : Class := { plain "java/lang/Object" none with
  accessFlags := 33
  interfaces := #[]
  cf := some (fileOf pool0 8 #[] #[{ accessFlags := 1, nameIndex := 5, descriptorIndex := 6, attributes := #[] }] 33 0 #[] #[])
  fields := #[]
  methods := #[k0m0]
  instanceTypes := #[]
  staticTypes := #[]
  resolved := Array.replicate 124 none
  statics := none }

def pool1 : Array CpInfo := pool [(2, .class_ 4), (1, u "java/lang/Object"), (0, u "<init>"), (0, u "()V"), (0, .integer 2147483647), (0, .fieldref 9 10), (0, .class_ 11), (0, .nameAndType 12 13), (0, u "com/example/holonym/holonym/ontology/Restriction$Kind"), (0, u "MIN"), (0, u "Lcom/example/holonym/holonym/ontology/Restriction$Kind;"), (0, .fieldref 9 15), (0, .nameAndType 16 13), (0, u "MAX"), (0, .fieldref 9 18), (0, .nameAndType 19 13), (0, u "EXACT"), (0, .fieldref 9 21), (0, .nameAndType 22 13), (0, u "SOME"), (0, .fieldref 9 24), (0, .nameAndType 25 13), (0, u "ONLY"), (0, .fieldref 9 27), (0, .nameAndType 28 13), (0, u "VALUE"), (0, .methodref 9 30), (0, .nameAndType 31 32), (0, u "isCardinality"), (0, u "()Z"), (0, .class_ 34), (0, u "com/example/holonym/holonym/ontology/KindIsCardinalityPinLaw"), (2, u "law"), (0, u "(I)Z")] 7

def k1m0 : Method := { name := "<init>", desc := "()V", sig := { parameters := [], returnType := none }, accessFlags := 1, code := none }
def k1c1 : Code := { maxStack := 2, maxLocals := 4, code := code, exceptionTable := #[], attributes := #[] }
def k1m1 : Method := { name := "law", desc := "(I)Z", sig := { parameters := [.int], returnType := some .boolean }, accessFlags := 9, code := some k1c1 }
/-- com/example/holonym/holonym/ontology/KindIsCardinalityPinLaw -/
def k1 : Class := { plain "com/example/holonym/holonym/ontology/KindIsCardinalityPinLaw" (some 0) with
  accessFlags := 49
  interfaces := #[]
  cf := some (fileOf pool1 33 #[] #[{ accessFlags := 1, nameIndex := 5, descriptorIndex := 6, attributes := #[] }, { accessFlags := 9, nameIndex := 37, descriptorIndex := 38, attributes := #[] }] 49 2 #[] #[])
  fields := #[]
  methods := #[k1m0, k1m1]
  instanceTypes := #[]
  staticTypes := #[]
  resolved := Array.replicate 46 none
  statics := none }

def pool2 : Array CpInfo := pool [(1, .class_ 2), (0, u "java/lang/constant/Constable"), (0, .class_ 4), (0, u "java/lang/Object")] 6

/-- java/lang/constant/Constable -/
def k2 : Class := { plain "java/lang/constant/Constable" (some 0) with
  accessFlags := 1537
  interfaces := #[]
  cf := some (fileOf pool2 1 #[] #[] 1537 3 #[] #[])
  fields := #[]
  methods := #[]
  instanceTypes := #[]
  staticTypes := #[]
  resolved := Array.replicate 11 none
  statics := none }

def pool3 : Array CpInfo := pool [(1, .class_ 2), (0, u "java/lang/Comparable"), (0, .class_ 4), (0, u "java/lang/Object")] 7

/-- java/lang/Comparable -/
def k3 : Class := { plain "java/lang/Comparable" (some 0) with
  accessFlags := 1537
  interfaces := #[]
  cf := some (fileOf pool3 1 #[] #[] 1537 3 #[] #[])
  fields := #[]
  methods := #[]
  instanceTypes := #[]
  staticTypes := #[]
  resolved := Array.replicate 12 none
  statics := none }

def pool4 : Array CpInfo := pool [(1, .class_ 2), (0, u "java/io/Serializable"), (0, .class_ 4), (0, u "java/lang/Object")] 2

/-- java/io/Serializable -/
def k4 : Class := { plain "java/io/Serializable" (some 0) with
  accessFlags := 1537
  interfaces := #[]
  cf := some (fileOf pool4 1 #[] #[] 1537 3 #[] #[])
  fields := #[]
  methods := #[]
  instanceTypes := #[]
  staticTypes := #[]
  resolved := Array.replicate 7 none
  statics := none }

def pool5 : Array CpInfo := pool [(2, .class_ 4), (1, u "java/lang/Enum"), (0, u "name"), (0, u "Ljava/lang/String;"), (2, u "ordinal"), (0, u "I"), (1, .class_ 14), (1, u "java/lang/Object"), (4, u "hash"), (86, .class_ 108), (1, u "java/lang/Enum$EnumDesc"), (2, .class_ 112), (0, u "java/lang/constant/Constable"), (0, .class_ 114), (0, u "java/lang/Comparable"), (0, .class_ 116), (0, u "java/io/Serializable")] 87

/-- java/lang/Enum -/
def k5 : Class := { plain "java/lang/Enum" (some 0) with
  accessFlags := 1057
  interfaces := #[2, 3, 4]
  cf := some (fileOf pool5 2 #[.nestMembers #[106]] #[] 1057 12 #[111, 113, 115] #[{ accessFlags := 18, nameIndex := 5, descriptorIndex := 6, attributes := #[] }, { accessFlags := 18, nameIndex := 9, descriptorIndex := 10, attributes := #[] }, { accessFlags := 2, nameIndex := 19, descriptorIndex := 10, attributes := #[] }])
  fields := #[{ name := "name", type := (.object "java/lang/String"), accessFlags := 18, slot := 0, constantValue := 0 }, { name := "ordinal", type := .int, accessFlags := 18, slot := 1, constantValue := 0 }, { name := "hash", type := .int, accessFlags := 2, slot := 2, constantValue := 0 }]
  methods := #[]
  instanceTypes := #[(.object "java/lang/String"), .int, .int]
  staticTypes := #[]
  resolved := Array.replicate 204 none
  statics := none }

def pool6 : Array CpInfo := pool [(1, .class_ 2), (0, u "com/example/holonym/holonym/ontology/Restriction$Kind"), (0, .fieldref 1 4), (0, .nameAndType 5 6), (0, u "MIN"), (0, u "Lcom/example/holonym/holonym/ontology/Restriction$Kind;"), (0, .fieldref 1 8), (0, .nameAndType 9 6), (0, u "MAX"), (0, .fieldref 1 11), (0, .nameAndType 12 6), (0, u "EXACT"), (2, u "SOME"), (2, u "ONLY"), (2, u "VALUE"), (2, u "$VALUES"), (0, u "[Lcom/example/holonym/holonym/ontology/Restriction$Kind;"), (6, .class_ 34), (1, u "java/lang/Enum"), (8, u "word"), (0, u "Ljava/lang/String;"), (33, u "isCardinality"), (0, u "()Z"), (7, .class_ 88), (0, u "com/example/holonym/holonym/ontology/Restriction")] 2

def k6c0 : Code := { maxStack := 2, maxLocals := 1, code := prog_41_method_5_code, exceptionTable := #[], attributes := #[] }
def k6m0 : Method := { name := "isCardinality", desc := "()Z", sig := { parameters := [], returnType := some .boolean }, accessFlags := 1, code := some k6c0 }
/-- com/example/holonym/holonym/ontology/Restriction$Kind -/
def k6 : Class := { plain "com/example/holonym/holonym/ontology/Restriction$Kind" (some 5) with
  accessFlags := 16433
  interfaces := #[]
  cf := some (fileOf pool6 1 #[.nestHost 87] #[{ accessFlags := 1, nameIndex := 78, descriptorIndex := 79, attributes := #[] }] 16433 32 #[] #[{ accessFlags := 16409, nameIndex := 5, descriptorIndex := 6, attributes := #[] }, { accessFlags := 16409, nameIndex := 9, descriptorIndex := 6, attributes := #[] }, { accessFlags := 16409, nameIndex := 12, descriptorIndex := 6, attributes := #[] }, { accessFlags := 16409, nameIndex := 15, descriptorIndex := 6, attributes := #[] }, { accessFlags := 16409, nameIndex := 18, descriptorIndex := 6, attributes := #[] }, { accessFlags := 16409, nameIndex := 21, descriptorIndex := 6, attributes := #[] }, { accessFlags := 18, nameIndex := 43, descriptorIndex := 44, attributes := #[] }, { accessFlags := 4122, nameIndex := 24, descriptorIndex := 25, attributes := #[] }])
  fields := #[{ name := "MIN", type := (.object "com/example/holonym/holonym/ontology/Restriction$Kind"), accessFlags := 16409, slot := 0, constantValue := 0 }, { name := "MAX", type := (.object "com/example/holonym/holonym/ontology/Restriction$Kind"), accessFlags := 16409, slot := 1, constantValue := 0 }, { name := "EXACT", type := (.object "com/example/holonym/holonym/ontology/Restriction$Kind"), accessFlags := 16409, slot := 2, constantValue := 0 }, { name := "SOME", type := (.object "com/example/holonym/holonym/ontology/Restriction$Kind"), accessFlags := 16409, slot := 3, constantValue := 0 }, { name := "ONLY", type := (.object "com/example/holonym/holonym/ontology/Restriction$Kind"), accessFlags := 16409, slot := 4, constantValue := 0 }, { name := "VALUE", type := (.object "com/example/holonym/holonym/ontology/Restriction$Kind"), accessFlags := 16409, slot := 5, constantValue := 0 }, { name := "word", type := (.object "java/lang/String"), accessFlags := 18, slot := 3, constantValue := 0 }, { name := "$VALUES", type := (.array (.object "com/example/holonym/holonym/ontology/Restriction$Kind")), accessFlags := 4122, slot := 6, constantValue := 0 }]
  methods := #[k6m0]
  instanceTypes := #[(.object "java/lang/String"), .int, .int, (.object "java/lang/String")]
  staticTypes := #[(.object "com/example/holonym/holonym/ontology/Restriction$Kind"), (.object "com/example/holonym/holonym/ontology/Restriction$Kind"), (.object "com/example/holonym/holonym/ontology/Restriction$Kind"), (.object "com/example/holonym/holonym/ontology/Restriction$Kind"), (.object "com/example/holonym/holonym/ontology/Restriction$Kind"), (.object "com/example/holonym/holonym/ontology/Restriction$Kind"), (.array (.object "com/example/holonym/holonym/ontology/Restriction$Kind"))]
  resolved := Array.replicate 91 none
  statics := some 0 }

def pool7 : Array CpInfo := pool [(1, u "java/lang/Cloneable"), (0, .class_ 1), (0, u "java/lang/Object"), (0, .class_ 3)] 3

/-- java/lang/Cloneable -/
def k7 : Class := { plain "java/lang/Cloneable" (some 0) with
  accessFlags := 1537
  interfaces := #[]
  cf := some (fileOf pool7 2 #[] #[] 1537 4 #[] #[])
  fields := #[]
  methods := #[]
  instanceTypes := #[]
  staticTypes := #[]
  resolved := Array.replicate 8 none
  statics := none }

/-- the primitive byte -/
def k8 : Class := { plain "byte" none with kind := .primitive 'B', accessFlags := 0x411 }
/-- [B -/
def k9 : Class := { plain "[B" (some 0) with kind := .array 8 .byte, interfaces := #[7, 4], accessFlags := 1041 }

/-- the primitive int -/
def k10 : Class := { plain "int" none with kind := .primitive 'I', accessFlags := 0x411 }
/-- [I -/
def k11 : Class := { plain "[I" (some 0) with kind := .array 10 .int, interfaces := #[7, 4], accessFlags := 1041 }

def heap : Heap := #[{ cls := 6, slots := #[.ref 1, .ref 2, .ref 3, .ref 4, .ref 5, .ref 6, .null], vm := .statics 6 },
  { cls := 6, slots := #[.null, .int 0, .int 0, .null], vm := .none },
  { cls := 6, slots := #[.null, .int 1, .int 0, .null], vm := .none },
  { cls := 6, slots := #[.null, .int 2, .int 0, .null], vm := .none },
  { cls := 6, slots := #[.null, .int 3, .int 0, .null], vm := .none },
  { cls := 6, slots := #[.null, .int 4, .int 0, .null], vm := .none },
  { cls := 6, slots := #[.null, .int 5, .int 0, .null], vm := .none }]
def classes : Array Class := #[k0, k1, k2, k3, k4, k5, k6, k7, k8, k9, k10, k11]
def interned : List (Array UInt16 × Addr) := []
def slotsUsed : Nat := 31
def theMethod : MethodId := ⟨1, 1⟩
def args0 : Array Value := #[.int 5]
def aboutOver (below : List Frame) : State where
  vm := { classes := classes, interned := interned.toArray }
  heap := heap
  slotsUsed := slotsUsed
  threads := #[{ frames := .invoking theMethod args0 :: below }]
def below0 : List Frame := [.native { method := ⟨0, 0⟩, args := #[] }]
def about1 : State := aboutOver below0
def p0 : Program := .bare "" "" ""
def e0 : Env := launch0.env 0 0 0
theorem w_frames : about1.frames = Frame.invoking theMethod args0 :: below0 := rfl
set_option maxRecDepth 65536 in
theorem w_args : argsFit about1.vm theMethod args0 = true := by decide +kernel
set_option maxRecDepth 65536 in
theorem w_heap : heapFits about1 = true := by decide +kernel
set_option maxRecDepth 65536 in
theorem w_runnable : about1.curStatus? = some .runnable := by decide +kernel
set_option maxRecDepth 65536 in
theorem w_alone : about1.alone = true := by decide +kernel
set_option maxRecDepth 65536 in
theorem w_named : about1.methodNamed? x = some theMethod := by decide +kernel
set_option maxRecDepth 65536 in
theorem w_hears : about1.hears theMethod below0 = true := by decide +kernel
set_option maxRecDepth 65536 in
theorem w_ripe : about1.ripe theMethod args0 below0 = true := by decide +kernel
theorem w_running : about1.status = .running := rfl
set_option maxRecDepth 65536 in
theorem w_room : about1.hasRoom e0.platform room_1 = true :=
  launch0.hasRoom_least _ room_1 (by decide +kernel) (by decide +kernel) (by decide +kernel) (by decide +kernel) (by decide +kernel) (by decide +kernel)
theorem allAtoms_all (ts : List Jvm.Cond) (a : Array Jvm.Value) (st : Jvm.State) : (allAtoms ts).before a st = ts.all (fun c => c.before a st) := by
  induction ts with
  | nil => rfl
  | cons c t ih =>
    show (Jvm.Cond.and c (allAtoms t)).before a st = _
    rw [Jvm.Cond.before_and, ih, List.all_cons]
def words1 : List Jvm.Cond := Jvm.Cond.code x code maxLocals ret :: tables_1
/-- a 'code' word, met by the world's own term for the bytes: nothing is compared byte by byte -/
theorem code_word {y : MethodName} {bytes : ByteArray} {mx : Nat} {rt : Option FieldType} {a : Array Value} {s : State} {m : MethodId} {meth : Method} {c : Code} (h1 : s.methodNamed? y = some m) (h2 : s.vm.method? m = some meth) (h3 : meth.code = some c) (h4 : c.code = bytes)
    (h5 : (c.maxLocals == mx && c.exceptionTable.isEmpty && decide (c.maxStack ≤ mostOperands) && decide (meth.sig.returnType = rt) && !meth.locks && decide (parseMethodDescriptor y.desc = some meth.sig)) = true) : (Jvm.Cond.code y bytes mx rt).before a s = true := by
  simp only [Bool.and_eq_true, beq_iff_eq, Bool.not_eq_true', decide_eq_true_eq] at h5
  obtain ⟨⟨⟨⟨⟨g1, g2⟩, g3⟩, g4⟩, g5⟩, g6⟩ := h5
  simp [Cond.before, Cond.holds, Cond.value, h1, h2, h3, h4, g1, g2, g3, g4, g5, g6]
def isCode : Jvm.Cond → Bool
  | .code _ _ _ _ => true
  | _ => false
theorem all_split {L : List Jvm.Cond} {P : Jvm.Cond → Bool} (h1 : L.all (fun c => isCode c || P c) = true) (h2 : ∀ c ∈ L.filter isCode, P c = true) : L.all P = true := by
  refine List.all_eq_true.mpr fun c hc => ?_
  have h := List.all_eq_true.mp h1 c hc
  rcases Bool.eq_false_or_eq_true (isCode c) with hi | hi
  · exact h2 c (List.mem_filter.mpr ⟨hc, hi⟩)
  · simpa [hi] using h
set_option maxRecDepth 65536 in
theorem w_c0 : (Jvm.Cond.code x code maxLocals ret).before args0 about1 = true := code_word (m := ⟨1, 1⟩) (meth := k1m1) (c := k1c1) (by decide +kernel) rfl rfl rfl (by decide +kernel)
set_option maxRecDepth 65536 in
theorem w_c1 : (Jvm.Cond.code ({ cls := "com/example/holonym/holonym/ontology/Restriction$Kind", name := "isCardinality", desc := "()Z" } : Jvm.MethodName) prog_41_method_5_code (1 : Nat) (Option.some Jvm.ClassFile.FieldType.boolean)).before args0 about1 = true := code_word (m := ⟨6, 0⟩) (meth := k6m0) (c := k6c0) (by decide +kernel) rfl rfl rfl (by decide +kernel)
def codes1 : List Jvm.Cond := [Jvm.Cond.code x code maxLocals ret, Jvm.Cond.code ({ cls := "com/example/holonym/holonym/ontology/Restriction$Kind", name := "isCardinality", desc := "()Z" } : Jvm.MethodName) prog_41_method_5_code (1 : Nat) (Option.some Jvm.ClassFile.FieldType.boolean)]
set_option maxRecDepth 65536 in
theorem codes_eq : words1.filter isCode = codes1 := rfl
theorem w_codes : ∀ c ∈ words1.filter isCode, c.before args0 about1 = true := by
  rw [codes_eq]
  intro c hc
  simp only [codes1, List.mem_cons, List.not_mem_nil, or_false] at hc
  rcases hc with rfl | rfl
  · exact w_c0
  · exact w_c1
set_option maxRecDepth 65536 in
theorem w_t1 : words1.all (fun c => isCode c || c.before args0 about1) = true := by decide +kernel
theorem w_tables : (allAtoms (Jvm.Cond.code x code maxLocals ret :: tables_1)).before args0 about1 = true := by
  rw [allAtoms_all]
  show words1.all (fun c => c.before args0 about1) = true
  refine all_split ?_ w_codes
  rw [w_t1]
set_option maxRecDepth 65536 in
theorem w_case : (Jvm.Cond.and given_1 narrow_1).before args0 about1 = true := by decide +kernel
theorem w_applies : (headSpec (Jvm.Cond.code x code maxLocals ret :: tables_1) room_1).applies x e0.platform about1 = true :=
  (Spec.applies_iff w_frames).mpr ⟨w_running, w_runnable, w_alone, w_named, w_hears, w_ripe, w_room, w_tables⟩
theorem atStart : AtStart classFile x code maxLocals ret World_1 tables_1 room_1 Calls_1 rest_1 Pre_1 launch0 p0 e0 about1 theMethod args0 below0 :=
  ⟨lists_1, trivial, launch0.admits_env _ _ _, launch0.least_env, fairChoices_fair.cas, fairChoices_fair.clock, w_frames, w_args, w_heap, w_applies, trivial, trivial, w_case⟩
end start1
theorem witness_1 : WitnessClaimed_1 := ⟨start1.p0, start1.e0, start1.about1, start1.theMethod, start1.args0, start1.below0, start1.atStart⟩
end Jvm.Pilot.@@N@@
