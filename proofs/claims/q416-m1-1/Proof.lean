import JvmDerived
import JvmDerived.Pilot.@@N@@Statement
import JvmDerived.Pilot.@@N@@Code
set_option linter.unusedVariables false
set_option linter.unusedSimpArgs false
namespace Jvm.RoadKit
open Sem ClassFile Op Lib Jvm.Stand Jvm.Free Jvm.LawKit
section New
variable {p : Program} {l : Launch} {e : Env} {R : Room} {s : State} {m : MethodId} {args : Array Value} {below : List Frame} {meth : Method} {c : Code} {T : State} {locs : List Loc} {cells slots : Nat}
theorem retI (X : Stand p l e R s m args below meth c T locs cells slots) (hx : p.tables.exec = Jvm.exec) {pc : Nat} {Ls : Array Slot} {z : Int32} {rest : List Value} (hret : meth.sig.returnType = some .int) (hd : decode c.code pc = .ok (.ireturn, 1)) {fs : List Frame}
    (hl : ∀ (f : JFrame) (acts : List Action), f.method = m → f.locked = none → f.entered = [] → (doReturn e (T.setTop f) acts (some (.int z))).1 = T.setFrames fs) : Steps p.tables e below (T.setTop (mkF m pc Ls (.int z :: rest))) (T.setFrames fs) := by
  have hm' : T.vm.method? m = some meth := X.method'
  have hn : narrow .int (.int z) = .int z := rfl
  show Steps p.tables e below (T.setTop { method := m, pc := pc, locals := Ls, stack := _ :: rest, locked := none }) _
  jvm_step X.here [X.here.top, hx, hd, hm', hret, hn]
  first | (intro acts; rw [hl _ acts rfl rfl rfl]) | rw [hl _ _ rfl rfl rfl]
  exact Steps.refl _
end New
end Jvm.RoadKit
namespace Jvm.Pilot.@@N@@
open Jvm Jvm.ClassFile Sem Op Lib Jvm.Free Jvm.Stand Jvm.LawKit Jvm.RoadKit Bundle Jvm.Pilot.@@N@@.Jvm.D
theorem own_ltL {x y : Int64} (h : x < y) : ifCond.holds .lt (lcmpW x y) = true ∧ ifCond.holds .ge (lcmpW x y) = false ∧ ifCond.holds .gt (lcmpW y x) = true ∧ ifCond.holds .le (lcmpW y x) = false :=
  ⟨(if0 _ _).trans (tlt ((lw_lt x y).mpr h)).1, (if0 _ _).trans (tlt ((lw_lt x y).mpr h)).2.1, (if0 _ _).trans (tlt ((lw_gt y x).mpr h)).2.2.1, (if0 _ _).trans (tlt ((lw_gt y x).mpr h)).2.2.2⟩
theorem own_fltL {x y : Int64} (h : ¬ x < y) : ifCond.holds .lt (lcmpW x y) = false ∧ ifCond.holds .ge (lcmpW x y) = true ∧ ifCond.holds .gt (lcmpW y x) = false ∧ ifCond.holds .le (lcmpW y x) = true :=
  ⟨(if0 _ _).trans (flt (fun q => h ((lw_lt x y).mp q))).1, (if0 _ _).trans (flt (fun q => h ((lw_lt x y).mp q))).2.1, (if0 _ _).trans (flt (fun q => h ((lw_gt y x).mp q))).2.2.1, (if0 _ _).trans (flt (fun q => h ((lw_gt y x).mp q))).2.2.2⟩
theorem own_eqL {x y : Int64} (h : x = y) : ifCond.holds .eq (lcmpW x y) = true ∧ ifCond.holds .ne (lcmpW x y) = false :=
  ⟨(if0 _ _).trans (teq ((lw_eq x y).mpr h)).1, (if0 _ _).trans (teq ((lw_eq x y).mpr h)).2⟩
theorem own_neL {x y : Int64} (h : ¬ x = y) : ifCond.holds .eq (lcmpW x y) = false ∧ ifCond.holds .ne (lcmpW x y) = true :=
  ⟨(if0 _ _).trans (feq (fun q => h ((lw_eq x y).mp q))).1, (if0 _ _).trans (feq (fun q => h ((lw_eq x y).mp q))).2⟩

theorem own_fin {c : Int32} {N : Nat} (h0 : 0 ≤ c.toInt) (h1 : c.toInt < N) (hN : N ≤ 2147483648) : ∃ n : Fin N, c = n.1.toInt32 := by
  refine ⟨⟨c.toInt.toNat, by omega⟩, ?_⟩
  apply Int32.toInt_inj.mp
  rw [len_toInt (by show c.toInt.toNat < 2 ^ 31; omega)]
  show c.toInt = ((c.toInt.toNat : Nat) : Int)
  omega
theorem own_lt {x y : Int32} (h : x < y) : x.toInt < y.toInt := Int32.lt_iff_toInt_lt.mp h
theorem own_nlt' {x y : Int32} (h : ¬ x < y) : y.toInt ≤ x.toInt := by rw [Int32.lt_iff_toInt_lt] at h; omega
theorem own_nlt {x y : Int32} {k : Int} (h : k ≤ x.toInt) (hk : y.toInt ≤ k) : ¬ x < y := by rw [Int32.lt_iff_toInt_lt]; omega
theorem own_gt {x y : Int32} {k : Int} (h : k ≤ x.toInt) (hk : y.toInt < k) : y < x := by rw [Int32.lt_iff_toInt_lt]; omega
theorem own_ne {x y : Int32} {k : Int} (h : k ≤ x.toInt) (hk : y.toInt < k) : ¬ x = y := by rintro rfl; omega
theorem own_gtn {x y : Int32} {k : Int} (h : x.toInt < k) (hk : k ≤ y.toInt) : x < y := by rw [Int32.lt_iff_toInt_lt]; omega
theorem own_nel {x y : Int32} {k : Int} (h : x.toInt < k) (hk : k ≤ y.toInt) : ¬ x = y := by rintro rfl; omega
theorem own_lt' {x y : Int32} (h : x < y) : x.toInt + 1 ≤ y.toInt := by have := own_lt h; omega
theorem own_le' {x y : Int32} (h : ¬ y < x) : x.toInt < y.toInt + 1 := by have := own_nlt' h; omega

def own_A (Z : State) (h : Heap) (a : Addr) (ty : FieldType) (n : Nat) (f : Nat → Value) : Prop := ∃ c : Cell, Arr Z h a c ty ∧ c.slots.size = n ∧ ∀ j, j < n → c.slots[j]? = some (f j)
section OwnA
variable {Z : State} {h h' : Heap} {a b : Addr} {ty : FieldType} {n sl : Nat} {f : Nat → Value} {v : Value} {ws : List Addr}
theorem own_A.lt (F : own_A Z h a ty n f) : a < h.size := by obtain ⟨c, A, -⟩ := F; exact A.lt
theorem own_A.ext (F : own_A Z h a ty n f) (E : Ext h h') : own_A Z h' a ty n f := by obtain ⟨c, A, r⟩ := F; exact ⟨c, A.ext E, r⟩
theorem own_A.other (F : own_A Z h b ty n f) (W : Wr h h' a sl v) (q : b ≠ a) : own_A Z h' b ty n f := by obtain ⟨c, A, r⟩ := F; exact ⟨c, A.other W q, r⟩
theorem own_A.keep (F : own_A Z h a ty n f) (K : Keep h h' ws) (q : a ∉ ws) : own_A Z h' a ty n f := by obtain ⟨c, A, r⟩ := F; exact ⟨c, ⟨K.2.1 a c A.1 q, A.2⟩, r⟩
theorem own_A.set (F : own_A Z h a ty n f) (W : Wr h h' a sl v) : own_A Z h' a ty n (fun i => if i = sl then v else f i) := by
  obtain ⟨c, A, S, H⟩ := F
  refine ⟨_, A.same W, (sz_set _ _ _).trans S, fun j hj => ?_⟩
  by_cases e : j = sl
  · subst e
    simp only [Cell.setSlot, if_true]
    rw [Array.getElem?_setIfInBounds_self_of_lt (by omega)]
  · simp only [Cell.setSlot, if_neg e]
    rw [Array.getElem?_setIfInBounds_ne (Ne.symm e)]
    exact H j hj
theorem own_A.eqv {g : Nat → Value} (F : own_A Z h a ty n f) (e : ∀ j, j < n → f j = g j) : own_A Z h a ty n g := by
  obtain ⟨c, A, S, H⟩ := F
  exact ⟨c, A, S, fun j hj => (e j hj) ▸ H j hj⟩
theorem own_A.setI {g : Nat → Int32} {x : Int32} (F : own_A Z h a ty n (fun i => .int (g i))) (W : Wr h h' a sl (.int x)) : own_A Z h' a ty n (fun i => .int (if i = sl then x else g i)) :=
  (F.set W).eqv fun j _ => by
    by_cases e : j = sl
    · simp only [if_pos e]
    · simp only [if_neg e]
theorem own_A.setJ {g : Nat → Int64} {x : Int64} (F : own_A Z h a ty n (fun i => .long (g i))) (W : Wr h h' a sl (.long x)) : own_A Z h' a ty n (fun i => .long (if i = sl then x else g i)) :=
  (F.set W).eqv fun j _ => by
    by_cases e : j = sl
    · simp only [if_pos e]
    · simp only [if_neg e]
theorem own_A.new {k : ClassId} {z : Int32} (A : Arr Z h a (newA k ty z) ty) : own_A Z h a ty z.toNatClampNeg (fun _ => defaultValue ty) :=
  ⟨_, A, sz_new _ _ _, fun j hj => by simp [newA, hj]⟩
end OwnA
theorem own_in {c : Cell} {n : Nat} {j : Int32} (S : c.slots.size = n) (h : 0 ≤ j.toInt ∧ j.toInt < n) : ¬ (j < 0 ∨ c.slots.size ≤ j.toNatClampNeg) := by
  rw [S, Int32.lt_iff_toInt_lt, show (0 : Int32).toInt = 0 from rfl]
  have e : j.toNatClampNeg = j.toInt.toNat := rfl
  rw [e]; omega
theorem own_ix {n : Nat} {j : Int32} (h : 0 ≤ j.toInt ∧ j.toInt < n) : j.toNatClampNeg < n := by
  have e : j.toNatClampNeg = j.toInt.toNat := rfl
  rw [e]; omega
theorem own_len {c : Cell} {n : Nat} {z : Int32} (S : c.slots.size = n) (h : n.toInt32 = z) : c.slots.size.toInt32 = z := by rw [S]; exact h
def own_O (Z : State) (h : Heap) (a : Addr) (C : String) : Prop := ∃ c : Cell, h[a]? = some c ∧ Ovr Z c.cls C
theorem own_O.ext {Z : State} {h h' : Heap} {a : Addr} {C : String} (F : own_O Z h a C) (E : Ext h h') : own_O Z h' a C := by obtain ⟨c, h1, o⟩ := F; exact ⟨c, E.2 _ _ h1, o⟩
theorem own_O.wr {Z : State} {h h' : Heap} {a b : Addr} {C : String} {sl : Nat} {v : Value} (F : own_O Z h a C) (W : Wr h h' b sl v) : own_O Z h' a C := by
  obtain ⟨c, h1, o⟩ := F
  obtain ⟨c', e1, e2, -⟩ := wr_at W h1
  exact ⟨c', e1, e2 ▸ o⟩
theorem own_sto {Z : State} {h : Heap} {a y : Addr} {cl : Cell} {ty : FieldType} {C : String} (A : Arr Z h a cl ty) (O : own_O Z h a C) (I : Ins Z h y C true) : Sto Z h a (.ref y) := by
  obtain ⟨c, h1, o⟩ := O
  cases A.1.symm.trans h1
  exact Sto.of A o I

theorem own_fld {args : Array Value} {s : State} {t : Term} {C n d : String} {k : Int32} {x : Addr} (ht : t.eval args s none [] s = some (.ref x)) (h : (Jvm.Cond.eq (.field t C n d) (.int k)).value args s none s [] = some true) : Fld s s.heap x C n d (.int k) := by
  obtain ⟨u, v, e1, e2, k1, k2⟩ := cmp_v (Or.inl h)
  cases (Term.int_eval k).symm.trans e2
  obtain ⟨z, rfl⟩ := k2
  have q := gotT (Cond.eq_ints e1 (Term.int_eval k)) h
  subst q
  exact Fld.start ((fld_at ht).symm.trans e1)

theorem d1_0 : decode prog_148_method_5_code 0 = .ok (.aload_n 0, 1) := by decide +kernel
theorem d1_1 : decode prog_148_method_5_code 1 = .ok (.getfield 50, 3) := by decide +kernel
theorem d1_4 : decode prog_148_method_5_code 4 = .ok (.sipush 500, 3) := by decide +kernel
theorem d1_7 : decode prog_148_method_5_code 7 = .ok (.if_icmp .lt 7, 3) := by decide +kernel
theorem d1_10 : decode prog_148_method_5_code 10 = .ok (.iconst 1, 1) := by decide +kernel
theorem d1_11 : decode prog_148_method_5_code 11 = .ok (.goto 4, 3) := by decide +kernel
theorem d1_14 : decode prog_148_method_5_code 14 = .ok (.iconst 0, 1) := by decide +kernel
theorem d1_15 : decode prog_148_method_5_code 15 = .ok (.ireturn, 1) := by decide +kernel
theorem pn_0 : plainName "com/example/tenet/tenet/runtime/Status" = true := by first | (simp [plainName, overriddenIn]; done) | decide +kernel
theorem ef_1 (m : MethodId) (o0 : Addr) : entryFrame m #[(.ref o0)] 1 = mkF m 0 #[.val (.ref o0)] [] := by first | (simp [entryFrame, mkF, argsToLocals, Value.category]; done) | rfl
def f1_15 (w : Int32) : Int32 := (if w < (500 : Int32) then (0 : Int32) else (1 : Int32))

def Q1 (Z : State) (o0 : Addr) (w : Int32) (h0 : Heap) (n0 : Nat) (v : Option Value) (h : Heap) (L : List Loc) : Prop := v = some (.int ((f1_15 w) &&& 1)) ∧ Fr n0 L ∧ h = h0
set_option maxRecDepth 65536 in
set_option maxHeartbeats 40000000 in
theorem rm1 (l : Launch) (Z : State) (a0 : Array Value) (hw : ∀ d ∈ tables_1, d.before a0 Z = true) (ws : List Jvm.Cond) (o0 : Addr) (w : Int32) (h0 : Heap) (n0 : Nat) (Z0 : n0 ≤ h0.size) (F_code_o0 : Fld Z h0 o0 "com/example/tenet/tenet/runtime/Status" "code" "I" (.int w)) :
    MetFree l (⟨"com/example/tenet/tenet/runtime/Status", "isServerError", "()Z"⟩ : MethodName) (head1 (Jvm.Cond.code (⟨"com/example/tenet/tenet/runtime/Status", "isServerError", "()Z"⟩ : MethodName) prog_148_method_5_code 1 (some .boolean) :: ws) ({ frames := 0, cells := 0, slots := 0, locals := 0 } : Room)) (fun a U => a = #[(.ref o0)] ∧ Z.Warmed39 U.vm ∧ U.heap = h0) (fun _ _ _ _ _ => True) (fun _ U o U' => ∃ v L, o = .returned v ∧ Q1 Z o0 w h0 n0 v U'.heap L ∧ FrameEnd U o U' L ({ frames := 0, cells := 0, slots := 0, locals := 0 } : Room).cells ({ frames := 0, cells := 0, slots := 0, locals := 0 } : Room).slots) := by
  refine MetFree.of_bodySF (plainFor_of_name pn_0) hisR ?_
  intro p e s m args below meth c s₁ Bd hml0 hP hK
  obtain ⟨rfl, hZ, hh⟩ := hP
  have hx := Bd.exec
  have hby := Bd.bytes
  have hml : c.maxLocals = 1 := hml0
  have hown : s.vm.findClass "com/example/tenet/tenet/runtime/Status" = some m.cls := findClass_of_methodNamed Bd.named
  have hnm := (name_of_methodNamed Bd.named Bd.method).1
  have X0 : Stand p l e ({ frames := 0, cells := 0, slots := 0, locals := 0 } : Room) s m #[(.ref o0)] below meth c s₁ [] 0 0 := Stand.of_body Bd
  have e0 : s₁.heap = h0 := by rw [← hh, Bd.state]; rfl
  have N0 := Fr.nil n0
  have pre0 : ∀ t, Steps p.tables e below (s₁.setTop (mkF m 0 #[.val (.ref o0)] [])) t → Steps p.tables e below (s₁.setTop (entryFrame m #[(.ref o0)] 1)) t := fun t k => castTop (ef_1 m o0) k
  obtain ⟨T1, X1, e1, st1⟩ := getF X0 hx hZ hown (host := "") (Or.inl (hw _ (List.mem_of_getElem? (i := 28) rfl))) Via.refl e0 F_code_o0 (g := (mkF m 1 #[.val (.ref o0)] [(.ref o0)])) rfl rfl (hb hby d1_1)
  have pre2 : ∀ t, Steps p.tables e below (T1.setTop (mkF m 7 #[.val (.ref o0)] [(.int (500 : Int32)), (.int w)])) t → Steps p.tables e below (s₁.setTop (entryFrame m #[(.ref o0)] 1)) t := fun t k => pre0 t (by
    show Steps p.tables e below (s₁.setTop (mkF m 0 #[.val (.ref o0)] [])) _
    refine XS.aloadN X0.here hx rfl (hb hby d1_0) rfl rfl ?_
    show Steps p.tables e below (s₁.setTop (mkF m 1 #[.val (.ref o0)] [(.ref o0)])) _
    refine st1 _ ?_
    show Steps p.tables e below (T1.setTop (mkF m 4 #[.val (.ref o0)] [(.int w)])) _
    refine XS.sipush X1.here hx rfl (hb hby d1_4) ?_
    show Steps p.tables e below (T1.setTop (mkF m 7 #[.val (.ref o0)] [(.int (500 : Int32)), (.int w)])) _
    exact k)
  have pre4 : ∀ t, Steps p.tables e below (T1.setTop (mkF m 15 #[.val (.ref o0)] [(.int (f1_15 w))])) t → Steps p.tables e below (s₁.setTop (entryFrame m #[(.ref o0)] 1)) t := fun t k => pre2 t (by
    by_cases hf3 : w < (500 : Int32)
    · refine XS.icmpYes X1.here hx rfl (pc0 := 7) (pc' := 14) rfl (hb hby d1_7) rfl (tlt hf3).1 (by decide) (by decide) ?_
      show Steps p.tables e below (T1.setTop (mkF m 14 #[.val (.ref o0)] [])) _
      refine XS.iconst X1.here hx rfl (hb hby d1_14) ?_
      show Steps p.tables e below (T1.setTop (mkF m 15 #[.val (.ref o0)] [(.int (0 : Int32))])) _
      rw [show (f1_15 w) = ((0 : Int32) : Int32) from by simp only [f1_15, if_pos hf3]] at k
      exact k
    · refine XS.icmpNo X1.here hx rfl (hb hby d1_7) rfl (flt hf3).1 ?_
      show Steps p.tables e below (T1.setTop (mkF m 10 #[.val (.ref o0)] [])) _
      refine XS.iconst X1.here hx rfl (hb hby d1_10) ?_
      show Steps p.tables e below (T1.setTop (mkF m 11 #[.val (.ref o0)] [(.int (1 : Int32))])) _
      refine XS.goto X1.here hx rfl (pc0 := 11) (pc' := 15) rfl (hb hby d1_11) (by decide) (by decide) ?_
      show Steps p.tables e below (T1.setTop (mkF m 15 #[.val (.ref o0)] [(.int (1 : Int32))])) _
      rw [show (f1_15 w) = ((1 : Int32) : Int32) from by simp only [f1_15, if_neg hf3]] at k
      exact k)
  obtain ⟨fs, hr, hrun, hended, hW, hsame⟩ := X1.leave (v := some (.int ((f1_15 w) &&& 1))) (fun h => by rw [Bd.returns] at h; cases h)
  refine ⟨_, _, pre4 _ ?_, hrun, hended, _, _, rfl, ?_, ⟨_, rfl⟩, hW, hsame.mono (by decide) (by decide)⟩
  · exact retN X1 hx (t := .boolean) Bd.returns (by simp) (hb hby d1_15) hr
  · show Q1 Z o0 w h0 n0 _ T1.heap _
    rw [e1]
    exact ⟨rfl, N0, rfl⟩
theorem d2_0 : decode prog_148_method_4_code 0 = .ok (.aload_n 0, 1) := by decide +kernel
theorem d2_1 : decode prog_148_method_4_code 1 = .ok (.getfield 50, 3) := by decide +kernel
theorem d2_4 : decode prog_148_method_4_code 4 = .ok (.ireturn, 1) := by decide +kernel
theorem ef_2 (m : MethodId) (o0 : Addr) : entryFrame m #[(.ref o0)] 1 = mkF m 0 #[.val (.ref o0)] [] := by first | (simp [entryFrame, mkF, argsToLocals, Value.category]; done) | rfl

def Q2 (Z : State) (o0 : Addr) (w : Int32) (h0 : Heap) (n0 : Nat) (v : Option Value) (h : Heap) (L : List Loc) : Prop := v = some (.int w) ∧ Fr n0 L ∧ h = h0
set_option maxRecDepth 65536 in
set_option maxHeartbeats 40000000 in
theorem rm2 (l : Launch) (Z : State) (a0 : Array Value) (hw : ∀ d ∈ tables_1, d.before a0 Z = true) (ws : List Jvm.Cond) (o0 : Addr) (w : Int32) (h0 : Heap) (n0 : Nat) (Z0 : n0 ≤ h0.size) (F_code_o0 : Fld Z h0 o0 "com/example/tenet/tenet/runtime/Status" "code" "I" (.int w)) :
    MetFree l (⟨"com/example/tenet/tenet/runtime/Status", "code", "()I"⟩ : MethodName) (head1 (Jvm.Cond.code (⟨"com/example/tenet/tenet/runtime/Status", "code", "()I"⟩ : MethodName) prog_148_method_4_code 1 (some .int) :: ws) ({ frames := 0, cells := 0, slots := 0, locals := 0 } : Room)) (fun a U => a = #[(.ref o0)] ∧ Z.Warmed39 U.vm ∧ U.heap = h0) (fun _ _ _ _ _ => True) (fun _ U o U' => ∃ v L, o = .returned v ∧ Q2 Z o0 w h0 n0 v U'.heap L ∧ FrameEnd U o U' L ({ frames := 0, cells := 0, slots := 0, locals := 0 } : Room).cells ({ frames := 0, cells := 0, slots := 0, locals := 0 } : Room).slots) := by
  refine MetFree.of_bodySF (plainFor_of_name pn_0) hisR ?_
  intro p e s m args below meth c s₁ Bd hml0 hP hK
  obtain ⟨rfl, hZ, hh⟩ := hP
  have hx := Bd.exec
  have hby := Bd.bytes
  have hml : c.maxLocals = 1 := hml0
  have hown : s.vm.findClass "com/example/tenet/tenet/runtime/Status" = some m.cls := findClass_of_methodNamed Bd.named
  have hnm := (name_of_methodNamed Bd.named Bd.method).1
  have X0 : Stand p l e ({ frames := 0, cells := 0, slots := 0, locals := 0 } : Room) s m #[(.ref o0)] below meth c s₁ [] 0 0 := Stand.of_body Bd
  have e0 : s₁.heap = h0 := by rw [← hh, Bd.state]; rfl
  have N0 := Fr.nil n0
  have pre0 : ∀ t, Steps p.tables e below (s₁.setTop (mkF m 0 #[.val (.ref o0)] [])) t → Steps p.tables e below (s₁.setTop (entryFrame m #[(.ref o0)] 1)) t := fun t k => castTop (ef_2 m o0) k
  obtain ⟨T1, X1, e1, st1⟩ := getF X0 hx hZ hown (host := "") (Or.inl (hw _ (List.mem_of_getElem? (i := 28) rfl))) Via.refl e0 F_code_o0 (g := (mkF m 1 #[.val (.ref o0)] [(.ref o0)])) rfl rfl (hb hby d2_1)
  have pre2 : ∀ t, Steps p.tables e below (T1.setTop (mkF m 4 #[.val (.ref o0)] [(.int w)])) t → Steps p.tables e below (s₁.setTop (entryFrame m #[(.ref o0)] 1)) t := fun t k => pre0 t (by
    show Steps p.tables e below (s₁.setTop (mkF m 0 #[.val (.ref o0)] [])) _
    refine XS.aloadN X0.here hx rfl (hb hby d2_0) rfl rfl ?_
    show Steps p.tables e below (s₁.setTop (mkF m 1 #[.val (.ref o0)] [(.ref o0)])) _
    refine st1 _ ?_
    show Steps p.tables e below (T1.setTop (mkF m 4 #[.val (.ref o0)] [(.int w)])) _
    exact k)
  obtain ⟨fs, hr, hrun, hended, hW, hsame⟩ := X1.leave (v := some (.int w)) (fun h => by rw [Bd.returns] at h; cases h)
  refine ⟨_, _, pre2 _ ?_, hrun, hended, _, _, rfl, ?_, ⟨_, rfl⟩, hW, hsame.mono (by decide) (by decide)⟩
  · exact retI X1 hx Bd.returns (hb hby d2_4) hr
  · show Q2 Z o0 w h0 n0 _ T1.heap _
    rw [e1]
    exact ⟨rfl, N0, rfl⟩
theorem pn_1 : plainName "com/example/tenet/tenet/runtime/StatusIsServerErrorPinLaw" = true := by first | (simp [plainName, overriddenIn]; done) | decide +kernel
theorem pd_0 : parseMethodDescriptor "()Z" = some ⟨[], some .boolean⟩ := by decide +kernel
theorem pd_1 : parseMethodDescriptor "()I" = some ⟨[], some .int⟩ := by decide +kernel
theorem ef_0 (m : MethodId) (p0 : Int32) : entryFrame m #[(.int p0)] maxLocals = mkF m 0 #[.val (.int p0), .unset, .unset, .unset, .unset, .unset, .unset, .unset] [] := by first | (simp [entryFrame, mkF, argsToLocals, Value.category, maxLocals]; done) | rfl

theorem own_k9 (p0 : Int32) : ((p0 &&& (2147483647 : Int32)) % (9 : Int32)) = (0 : Int32) ∨ ((p0 &&& (2147483647 : Int32)) % (9 : Int32)) = (1 : Int32) ∨ ((p0 &&& (2147483647 : Int32)) % (9 : Int32)) = (2 : Int32) ∨ ((p0 &&& (2147483647 : Int32)) % (9 : Int32)) = (3 : Int32) ∨ ((p0 &&& (2147483647 : Int32)) % (9 : Int32)) = (4 : Int32) ∨ ((p0 &&& (2147483647 : Int32)) % (9 : Int32)) = (5 : Int32) ∨ ((p0 &&& (2147483647 : Int32)) % (9 : Int32)) = (6 : Int32) ∨ ((p0 &&& (2147483647 : Int32)) % (9 : Int32)) = (7 : Int32) ∨ ((p0 &&& (2147483647 : Int32)) % (9 : Int32)) = (8 : Int32) := by
  have e1 : (p0 &&& (2147483647 : Int32)).toInt = p0.toInt % (2 ^ 31 : Nat) := c_mask p0 2147483647 31 (by decide) (by decide)
  have e2 := (c_irem (p0 &&& (2147483647 : Int32)) (9 : Int32) 9 (by decide)).1 (by omega)
  obtain ⟨n, h⟩ := own_fin (c := (p0 &&& (2147483647 : Int32)) % (9 : Int32)) (N := 9) (by omega) (by omega) (by decide)
  rw [h]
  clear e1 e2 h
  revert n
  decide

def Q0 (Z : State) (p0 : Int32) (aOK : Addr) (aNO_CONTENT : Addr) (aBAD_REQUEST : Addr) (aUNAUTHORIZED : Addr) (aFORBIDDEN : Addr) (aNOT_FOUND : Addr) (aCONFLICT : Addr) (aINVARIANT_VIOLATED : Addr) (aINTERNAL_ERROR : Addr) (h0 : Heap) (n0 : Nat) (v : Option Value) (h : Heap) (L : List Loc) : Prop := v = some (.int 1) ∧ Fr n0 L
set_option maxRecDepth 65536 in
set_option maxHeartbeats 40000000 in
theorem rm0 (l : Launch) (Z : State) (a0 : Array Value) (hw : ∀ d ∈ tables_1, d.before a0 Z = true) (ws : List Jvm.Cond) (p0 : Int32) (aOK : Addr) (aNO_CONTENT : Addr) (aBAD_REQUEST : Addr) (aUNAUTHORIZED : Addr) (aFORBIDDEN : Addr) (aNOT_FOUND : Addr) (aCONFLICT : Addr) (aINVARIANT_VIOLATED : Addr) (aINTERNAL_ERROR : Addr) (h0 : Heap) (n0 : Nat) (Z0 : n0 ≤ h0.size) (S_OK : Sta Z h0 "com/example/tenet/tenet/runtime/Status" "OK" "Lcom/example/tenet/tenet/runtime/Status;" (.ref aOK)) (E_aOK : Exa Z h0 aOK "com/example/tenet/tenet/runtime/Status") (S_NO_CONTENT : Sta Z h0 "com/example/tenet/tenet/runtime/Status" "NO_CONTENT" "Lcom/example/tenet/tenet/runtime/Status;" (.ref aNO_CONTENT)) (E_aNO_CONTENT : Exa Z h0 aNO_CONTENT "com/example/tenet/tenet/runtime/Status") (S_BAD_REQUEST : Sta Z h0 "com/example/tenet/tenet/runtime/Status" "BAD_REQUEST" "Lcom/example/tenet/tenet/runtime/Status;" (.ref aBAD_REQUEST)) (E_aBAD_REQUEST : Exa Z h0 aBAD_REQUEST "com/example/tenet/tenet/runtime/Status") (S_UNAUTHORIZED : Sta Z h0 "com/example/tenet/tenet/runtime/Status" "UNAUTHORIZED" "Lcom/example/tenet/tenet/runtime/Status;" (.ref aUNAUTHORIZED)) (E_aUNAUTHORIZED : Exa Z h0 aUNAUTHORIZED "com/example/tenet/tenet/runtime/Status") (S_FORBIDDEN : Sta Z h0 "com/example/tenet/tenet/runtime/Status" "FORBIDDEN" "Lcom/example/tenet/tenet/runtime/Status;" (.ref aFORBIDDEN)) (E_aFORBIDDEN : Exa Z h0 aFORBIDDEN "com/example/tenet/tenet/runtime/Status") (S_NOT_FOUND : Sta Z h0 "com/example/tenet/tenet/runtime/Status" "NOT_FOUND" "Lcom/example/tenet/tenet/runtime/Status;" (.ref aNOT_FOUND)) (E_aNOT_FOUND : Exa Z h0 aNOT_FOUND "com/example/tenet/tenet/runtime/Status") (S_CONFLICT : Sta Z h0 "com/example/tenet/tenet/runtime/Status" "CONFLICT" "Lcom/example/tenet/tenet/runtime/Status;" (.ref aCONFLICT)) (E_aCONFLICT : Exa Z h0 aCONFLICT "com/example/tenet/tenet/runtime/Status") (S_INVARIANT_VIOLATED : Sta Z h0 "com/example/tenet/tenet/runtime/Status" "INVARIANT_VIOLATED" "Lcom/example/tenet/tenet/runtime/Status;" (.ref aINVARIANT_VIOLATED)) (E_aINVARIANT_VIOLATED : Exa Z h0 aINVARIANT_VIOLATED "com/example/tenet/tenet/runtime/Status") (S_INTERNAL_ERROR : Sta Z h0 "com/example/tenet/tenet/runtime/Status" "INTERNAL_ERROR" "Lcom/example/tenet/tenet/runtime/Status;" (.ref aINTERNAL_ERROR)) (E_aINTERNAL_ERROR : Exa Z h0 aINTERNAL_ERROR "com/example/tenet/tenet/runtime/Status") (F_ordinal_aOK : Fld Z h0 aOK "java/lang/Enum" "ordinal" "I" (.int (0 : Int32))) (F_ordinal_aINTERNAL_ERROR : Fld Z h0 aINTERNAL_ERROR "java/lang/Enum" "ordinal" "I" (.int (8 : Int32))) (F_code_aOK : Fld Z h0 aOK "com/example/tenet/tenet/runtime/Status" "code" "I" (.int (200 : Int32))) (F_ordinal_aUNAUTHORIZED : Fld Z h0 aUNAUTHORIZED "java/lang/Enum" "ordinal" "I" (.int (3 : Int32))) (F_code_aUNAUTHORIZED : Fld Z h0 aUNAUTHORIZED "com/example/tenet/tenet/runtime/Status" "code" "I" (.int (401 : Int32))) (F_ordinal_aBAD_REQUEST : Fld Z h0 aBAD_REQUEST "java/lang/Enum" "ordinal" "I" (.int (2 : Int32))) (F_code_aBAD_REQUEST : Fld Z h0 aBAD_REQUEST "com/example/tenet/tenet/runtime/Status" "code" "I" (.int (400 : Int32))) (F_ordinal_aNO_CONTENT : Fld Z h0 aNO_CONTENT "java/lang/Enum" "ordinal" "I" (.int (1 : Int32))) (F_code_aNO_CONTENT : Fld Z h0 aNO_CONTENT "com/example/tenet/tenet/runtime/Status" "code" "I" (.int (204 : Int32))) (F_ordinal_aINVARIANT_VIOLATED : Fld Z h0 aINVARIANT_VIOLATED "java/lang/Enum" "ordinal" "I" (.int (7 : Int32))) (F_code_aINVARIANT_VIOLATED : Fld Z h0 aINVARIANT_VIOLATED "com/example/tenet/tenet/runtime/Status" "code" "I" (.int (422 : Int32))) (F_ordinal_aFORBIDDEN : Fld Z h0 aFORBIDDEN "java/lang/Enum" "ordinal" "I" (.int (4 : Int32))) (F_code_aFORBIDDEN : Fld Z h0 aFORBIDDEN "com/example/tenet/tenet/runtime/Status" "code" "I" (.int (403 : Int32))) (F_code_aINTERNAL_ERROR : Fld Z h0 aINTERNAL_ERROR "com/example/tenet/tenet/runtime/Status" "code" "I" (.int (500 : Int32))) (F_ordinal_aCONFLICT : Fld Z h0 aCONFLICT "java/lang/Enum" "ordinal" "I" (.int (6 : Int32))) (F_code_aCONFLICT : Fld Z h0 aCONFLICT "com/example/tenet/tenet/runtime/Status" "code" "I" (.int (409 : Int32))) (F_ordinal_aNOT_FOUND : Fld Z h0 aNOT_FOUND "java/lang/Enum" "ordinal" "I" (.int (5 : Int32))) (F_code_aNOT_FOUND : Fld Z h0 aNOT_FOUND "com/example/tenet/tenet/runtime/Status" "code" "I" (.int (404 : Int32))) :
    MetFree l x (head1 (Jvm.Cond.code x code maxLocals ret :: ws) room_1) (fun a U => a = #[(.int p0)] ∧ Z.Warmed39 U.vm ∧ U.heap = h0) (fun _ _ _ _ _ => True) (fun _ U o U' => ∃ v L, o = .returned v ∧ Q0 Z p0 aOK aNO_CONTENT aBAD_REQUEST aUNAUTHORIZED aFORBIDDEN aNOT_FOUND aCONFLICT aINVARIANT_VIOLATED aINTERNAL_ERROR h0 n0 v U'.heap L ∧ FrameEnd U o U' L room_1.cells room_1.slots) := by
  refine MetFree.of_bodySF (plainFor_of_name pn_1) hisR ?_
  intro p e s m args below meth c s₁ Bd hml0 hP hK
  obtain ⟨rfl, hZ, hh⟩ := hP
  have hx := Bd.exec
  have hby := Bd.bytes
  have hml : c.maxLocals = 8 := hml0
  have hown : s.vm.findClass "com/example/tenet/tenet/runtime/StatusIsServerErrorPinLaw" = some m.cls := findClass_of_methodNamed Bd.named
  have hnm := (name_of_methodNamed Bd.named Bd.method).1
  have X0 : Stand p l e room_1 s m #[(.int p0)] below meth c s₁ [] 0 0 := Stand.of_body Bd
  have e0 : s₁.heap = h0 := by rw [← hh, Bd.state]; rfl
  have N0 := Fr.nil n0
  have pre0 : ∀ t, Steps p.tables e below (s₁.setTop (mkF m 0 #[.val (.int p0), .unset, .unset, .unset, .unset, .unset, .unset, .unset] [])) t → Steps p.tables e below (s₁.setTop (entryFrame m #[(.int p0)] maxLocals)) t := fun t k => castTop (ef_0 m p0) k
  obtain ⟨T1, h1, k1, X1, e1, Ex1, Ne1, Ov1, st1⟩ := newR X0 hx hZ hown (hw _ (List.mem_of_getElem? (i := 0) rfl)) (hw _ (List.mem_of_getElem? (i := 1) rfl)) e0 (g := (mkF m 2 #[.val (.int p0), .unset, .unset, .unset, .unset, .unset, .unset, .unset] [(.int (9 : Int32))])) rfl (hb hby at_2) rfl (by decide) (cap := 9) (by decide) (by decide) (by decide) (by decide)
  obtain ⟨b1, g1⟩ : ∃ z, z = h0.size := ⟨_, rfl⟩
  rw [← g1] at Ne1 st1
  have ne_aOK_b1 : aOK ≠ b1 := by rw [g1]; exact Nat.ne_of_lt (E_aOK).lt
  have ne_aNO_CONTENT_b1 : aNO_CONTENT ≠ b1 := by rw [g1]; exact Nat.ne_of_lt (E_aNO_CONTENT).lt
  have ne_aBAD_REQUEST_b1 : aBAD_REQUEST ≠ b1 := by rw [g1]; exact Nat.ne_of_lt (E_aBAD_REQUEST).lt
  have ne_aUNAUTHORIZED_b1 : aUNAUTHORIZED ≠ b1 := by rw [g1]; exact Nat.ne_of_lt (E_aUNAUTHORIZED).lt
  have ne_aFORBIDDEN_b1 : aFORBIDDEN ≠ b1 := by rw [g1]; exact Nat.ne_of_lt (E_aFORBIDDEN).lt
  have ne_aNOT_FOUND_b1 : aNOT_FOUND ≠ b1 := by rw [g1]; exact Nat.ne_of_lt (E_aNOT_FOUND).lt
  have ne_aCONFLICT_b1 : aCONFLICT ≠ b1 := by rw [g1]; exact Nat.ne_of_lt (E_aCONFLICT).lt
  have ne_aINVARIANT_VIOLATED_b1 : aINVARIANT_VIOLATED ≠ b1 := by rw [g1]; exact Nat.ne_of_lt (E_aINVARIANT_VIOLATED).lt
  have ne_aINTERNAL_ERROR_b1 : aINTERNAL_ERROR ≠ b1 := by rw [g1]; exact Nat.ne_of_lt (E_aINTERNAL_ERROR).lt
  have g_b1 : n0 ≤ b1 := Nat.le_trans (Nat.le_trans Z0 (Nat.le_refl _)) (Nat.le_of_eq g1.symm)
  have sz_b1 : h0.size ≤ b1 := Nat.le_trans (Nat.le_refl _) (Nat.le_of_eq g1.symm)
  have S_OK_2 : Sta Z h1 "com/example/tenet/tenet/runtime/Status" "OK" "Lcom/example/tenet/tenet/runtime/Status;" (.ref aOK) := (S_OK).ext Ex1
  have E_aOK_2 : Exa Z h1 aOK "com/example/tenet/tenet/runtime/Status" := (E_aOK).ext Ex1
  have S_NO_CONTENT_2 : Sta Z h1 "com/example/tenet/tenet/runtime/Status" "NO_CONTENT" "Lcom/example/tenet/tenet/runtime/Status;" (.ref aNO_CONTENT) := (S_NO_CONTENT).ext Ex1
  have E_aNO_CONTENT_2 : Exa Z h1 aNO_CONTENT "com/example/tenet/tenet/runtime/Status" := (E_aNO_CONTENT).ext Ex1
  have S_BAD_REQUEST_2 : Sta Z h1 "com/example/tenet/tenet/runtime/Status" "BAD_REQUEST" "Lcom/example/tenet/tenet/runtime/Status;" (.ref aBAD_REQUEST) := (S_BAD_REQUEST).ext Ex1
  have E_aBAD_REQUEST_2 : Exa Z h1 aBAD_REQUEST "com/example/tenet/tenet/runtime/Status" := (E_aBAD_REQUEST).ext Ex1
  have S_UNAUTHORIZED_2 : Sta Z h1 "com/example/tenet/tenet/runtime/Status" "UNAUTHORIZED" "Lcom/example/tenet/tenet/runtime/Status;" (.ref aUNAUTHORIZED) := (S_UNAUTHORIZED).ext Ex1
  have E_aUNAUTHORIZED_2 : Exa Z h1 aUNAUTHORIZED "com/example/tenet/tenet/runtime/Status" := (E_aUNAUTHORIZED).ext Ex1
  have S_FORBIDDEN_2 : Sta Z h1 "com/example/tenet/tenet/runtime/Status" "FORBIDDEN" "Lcom/example/tenet/tenet/runtime/Status;" (.ref aFORBIDDEN) := (S_FORBIDDEN).ext Ex1
  have E_aFORBIDDEN_2 : Exa Z h1 aFORBIDDEN "com/example/tenet/tenet/runtime/Status" := (E_aFORBIDDEN).ext Ex1
  have S_NOT_FOUND_2 : Sta Z h1 "com/example/tenet/tenet/runtime/Status" "NOT_FOUND" "Lcom/example/tenet/tenet/runtime/Status;" (.ref aNOT_FOUND) := (S_NOT_FOUND).ext Ex1
  have E_aNOT_FOUND_2 : Exa Z h1 aNOT_FOUND "com/example/tenet/tenet/runtime/Status" := (E_aNOT_FOUND).ext Ex1
  have S_CONFLICT_2 : Sta Z h1 "com/example/tenet/tenet/runtime/Status" "CONFLICT" "Lcom/example/tenet/tenet/runtime/Status;" (.ref aCONFLICT) := (S_CONFLICT).ext Ex1
  have E_aCONFLICT_2 : Exa Z h1 aCONFLICT "com/example/tenet/tenet/runtime/Status" := (E_aCONFLICT).ext Ex1
  have S_INVARIANT_VIOLATED_2 : Sta Z h1 "com/example/tenet/tenet/runtime/Status" "INVARIANT_VIOLATED" "Lcom/example/tenet/tenet/runtime/Status;" (.ref aINVARIANT_VIOLATED) := (S_INVARIANT_VIOLATED).ext Ex1
  have E_aINVARIANT_VIOLATED_2 : Exa Z h1 aINVARIANT_VIOLATED "com/example/tenet/tenet/runtime/Status" := (E_aINVARIANT_VIOLATED).ext Ex1
  have S_INTERNAL_ERROR_2 : Sta Z h1 "com/example/tenet/tenet/runtime/Status" "INTERNAL_ERROR" "Lcom/example/tenet/tenet/runtime/Status;" (.ref aINTERNAL_ERROR) := (S_INTERNAL_ERROR).ext Ex1
  have E_aINTERNAL_ERROR_2 : Exa Z h1 aINTERNAL_ERROR "com/example/tenet/tenet/runtime/Status" := (E_aINTERNAL_ERROR).ext Ex1
  have F_ordinal_aOK_2 : Fld Z h1 aOK "java/lang/Enum" "ordinal" "I" (.int (0 : Int32)) := (F_ordinal_aOK).ext Ex1
  have F_ordinal_aINTERNAL_ERROR_2 : Fld Z h1 aINTERNAL_ERROR "java/lang/Enum" "ordinal" "I" (.int (8 : Int32)) := (F_ordinal_aINTERNAL_ERROR).ext Ex1
  have F_code_aOK_2 : Fld Z h1 aOK "com/example/tenet/tenet/runtime/Status" "code" "I" (.int (200 : Int32)) := (F_code_aOK).ext Ex1
  have F_ordinal_aUNAUTHORIZED_2 : Fld Z h1 aUNAUTHORIZED "java/lang/Enum" "ordinal" "I" (.int (3 : Int32)) := (F_ordinal_aUNAUTHORIZED).ext Ex1
  have F_code_aUNAUTHORIZED_2 : Fld Z h1 aUNAUTHORIZED "com/example/tenet/tenet/runtime/Status" "code" "I" (.int (401 : Int32)) := (F_code_aUNAUTHORIZED).ext Ex1
  have F_ordinal_aBAD_REQUEST_2 : Fld Z h1 aBAD_REQUEST "java/lang/Enum" "ordinal" "I" (.int (2 : Int32)) := (F_ordinal_aBAD_REQUEST).ext Ex1
  have F_code_aBAD_REQUEST_2 : Fld Z h1 aBAD_REQUEST "com/example/tenet/tenet/runtime/Status" "code" "I" (.int (400 : Int32)) := (F_code_aBAD_REQUEST).ext Ex1
  have F_ordinal_aNO_CONTENT_2 : Fld Z h1 aNO_CONTENT "java/lang/Enum" "ordinal" "I" (.int (1 : Int32)) := (F_ordinal_aNO_CONTENT).ext Ex1
  have F_code_aNO_CONTENT_2 : Fld Z h1 aNO_CONTENT "com/example/tenet/tenet/runtime/Status" "code" "I" (.int (204 : Int32)) := (F_code_aNO_CONTENT).ext Ex1
  have F_ordinal_aINVARIANT_VIOLATED_2 : Fld Z h1 aINVARIANT_VIOLATED "java/lang/Enum" "ordinal" "I" (.int (7 : Int32)) := (F_ordinal_aINVARIANT_VIOLATED).ext Ex1
  have F_code_aINVARIANT_VIOLATED_2 : Fld Z h1 aINVARIANT_VIOLATED "com/example/tenet/tenet/runtime/Status" "code" "I" (.int (422 : Int32)) := (F_code_aINVARIANT_VIOLATED).ext Ex1
  have F_ordinal_aFORBIDDEN_2 : Fld Z h1 aFORBIDDEN "java/lang/Enum" "ordinal" "I" (.int (4 : Int32)) := (F_ordinal_aFORBIDDEN).ext Ex1
  have F_code_aFORBIDDEN_2 : Fld Z h1 aFORBIDDEN "com/example/tenet/tenet/runtime/Status" "code" "I" (.int (403 : Int32)) := (F_code_aFORBIDDEN).ext Ex1
  have F_code_aINTERNAL_ERROR_2 : Fld Z h1 aINTERNAL_ERROR "com/example/tenet/tenet/runtime/Status" "code" "I" (.int (500 : Int32)) := (F_code_aINTERNAL_ERROR).ext Ex1
  have F_ordinal_aCONFLICT_2 : Fld Z h1 aCONFLICT "java/lang/Enum" "ordinal" "I" (.int (6 : Int32)) := (F_ordinal_aCONFLICT).ext Ex1
  have F_code_aCONFLICT_2 : Fld Z h1 aCONFLICT "com/example/tenet/tenet/runtime/Status" "code" "I" (.int (409 : Int32)) := (F_code_aCONFLICT).ext Ex1
  have F_ordinal_aNOT_FOUND_2 : Fld Z h1 aNOT_FOUND "java/lang/Enum" "ordinal" "I" (.int (5 : Int32)) := (F_ordinal_aNOT_FOUND).ext Ex1
  have F_code_aNOT_FOUND_2 : Fld Z h1 aNOT_FOUND "com/example/tenet/tenet/runtime/Status" "code" "I" (.int (404 : Int32)) := (F_code_aNOT_FOUND).ext Ex1
  have SZ3 : h0.size ≤ h1.size := Nat.le_trans (Nat.le_refl _) Ex1.1
  have ZZ3 : n0 ≤ h1.size := Nat.le_trans Z0 SZ3
  have K4 : Keep h0 h1 [] := ((Keep.refl h0 [])).ext Ex1
  have A_b1_1 : own_A Z h1 b1 (.object "com/example/tenet/tenet/runtime/Status") 9 (fun _ => .null) := own_A.new Ne1
  have O_b1_1 : own_O Z h1 b1 "com/example/tenet/tenet/runtime/Status" := ⟨_, Ne1.1, Ov1⟩
  obtain ⟨T5, X5, e5, st5⟩ := getS2 X1 hx hZ hown (host := "") (Or.inl (hw _ (List.mem_of_getElem? (i := 2) rfl))) Via.refl e1 S_OK_2 (g := (mkF m 7 #[.val (.int p0), .unset, .unset, .unset, .unset, .unset, .unset, .unset] [(.int (0 : Int32)), (.ref b1), (.ref b1)])) rfl (hb hby at_7)
  have qa6 := A_b1_1
  obtain ⟨c6, Ar6, Sz6, H6⟩ := qa6
  have hi7 : 0 ≤ ((0 : Int32) : Int32).toInt ∧ ((0 : Int32) : Int32).toInt < (9 : Nat) := (by decide)
  obtain ⟨T7, h7, X7, e7, W7, st7⟩ := stR X5 hx hZ e5 Ar6 (j := (0 : Int32)) (own_in Sz6 hi7) rfl (own_sto Ar6 O_b1_1 (Ins.self E_aOK_2)) (g := (mkF m 10 #[.val (.int p0), .unset, .unset, .unset, .unset, .unset, .unset, .unset] [(.ref aOK), (.int (0 : Int32)), (.ref b1), (.ref b1)])) rfl rfl (hb hby at_10)
  have N7 := Fr.snoc X7 N0 g_b1
  have A_b1_w7 : own_A Z h7 b1 (.object "com/example/tenet/tenet/runtime/Status") 9 (fun i => if i = ((0 : Int32) : Int32).toNatClampNeg then (.ref aOK) else ((fun _ => .null)) i) := (A_b1_1).set W7
  have S_OK_8 : Sta Z h7 "com/example/tenet/tenet/runtime/Status" "OK" "Lcom/example/tenet/tenet/runtime/Status;" (.ref aOK) := (S_OK_2).wr W7
  have E_aOK_8 : Exa Z h7 aOK "com/example/tenet/tenet/runtime/Status" := (E_aOK_2).wr W7
  have S_NO_CONTENT_8 : Sta Z h7 "com/example/tenet/tenet/runtime/Status" "NO_CONTENT" "Lcom/example/tenet/tenet/runtime/Status;" (.ref aNO_CONTENT) := (S_NO_CONTENT_2).wr W7
  have E_aNO_CONTENT_8 : Exa Z h7 aNO_CONTENT "com/example/tenet/tenet/runtime/Status" := (E_aNO_CONTENT_2).wr W7
  have S_BAD_REQUEST_8 : Sta Z h7 "com/example/tenet/tenet/runtime/Status" "BAD_REQUEST" "Lcom/example/tenet/tenet/runtime/Status;" (.ref aBAD_REQUEST) := (S_BAD_REQUEST_2).wr W7
  have E_aBAD_REQUEST_8 : Exa Z h7 aBAD_REQUEST "com/example/tenet/tenet/runtime/Status" := (E_aBAD_REQUEST_2).wr W7
  have S_UNAUTHORIZED_8 : Sta Z h7 "com/example/tenet/tenet/runtime/Status" "UNAUTHORIZED" "Lcom/example/tenet/tenet/runtime/Status;" (.ref aUNAUTHORIZED) := (S_UNAUTHORIZED_2).wr W7
  have E_aUNAUTHORIZED_8 : Exa Z h7 aUNAUTHORIZED "com/example/tenet/tenet/runtime/Status" := (E_aUNAUTHORIZED_2).wr W7
  have S_FORBIDDEN_8 : Sta Z h7 "com/example/tenet/tenet/runtime/Status" "FORBIDDEN" "Lcom/example/tenet/tenet/runtime/Status;" (.ref aFORBIDDEN) := (S_FORBIDDEN_2).wr W7
  have E_aFORBIDDEN_8 : Exa Z h7 aFORBIDDEN "com/example/tenet/tenet/runtime/Status" := (E_aFORBIDDEN_2).wr W7
  have S_NOT_FOUND_8 : Sta Z h7 "com/example/tenet/tenet/runtime/Status" "NOT_FOUND" "Lcom/example/tenet/tenet/runtime/Status;" (.ref aNOT_FOUND) := (S_NOT_FOUND_2).wr W7
  have E_aNOT_FOUND_8 : Exa Z h7 aNOT_FOUND "com/example/tenet/tenet/runtime/Status" := (E_aNOT_FOUND_2).wr W7
  have S_CONFLICT_8 : Sta Z h7 "com/example/tenet/tenet/runtime/Status" "CONFLICT" "Lcom/example/tenet/tenet/runtime/Status;" (.ref aCONFLICT) := (S_CONFLICT_2).wr W7
  have E_aCONFLICT_8 : Exa Z h7 aCONFLICT "com/example/tenet/tenet/runtime/Status" := (E_aCONFLICT_2).wr W7
  have S_INVARIANT_VIOLATED_8 : Sta Z h7 "com/example/tenet/tenet/runtime/Status" "INVARIANT_VIOLATED" "Lcom/example/tenet/tenet/runtime/Status;" (.ref aINVARIANT_VIOLATED) := (S_INVARIANT_VIOLATED_2).wr W7
  have E_aINVARIANT_VIOLATED_8 : Exa Z h7 aINVARIANT_VIOLATED "com/example/tenet/tenet/runtime/Status" := (E_aINVARIANT_VIOLATED_2).wr W7
  have S_INTERNAL_ERROR_8 : Sta Z h7 "com/example/tenet/tenet/runtime/Status" "INTERNAL_ERROR" "Lcom/example/tenet/tenet/runtime/Status;" (.ref aINTERNAL_ERROR) := (S_INTERNAL_ERROR_2).wr W7
  have E_aINTERNAL_ERROR_8 : Exa Z h7 aINTERNAL_ERROR "com/example/tenet/tenet/runtime/Status" := (E_aINTERNAL_ERROR_2).wr W7
  have F_ordinal_aOK_8 : Fld Z h7 aOK "java/lang/Enum" "ordinal" "I" (.int (0 : Int32)) := (F_ordinal_aOK_2).other W7 (Or.inl ne_aOK_b1)
  have F_ordinal_aINTERNAL_ERROR_8 : Fld Z h7 aINTERNAL_ERROR "java/lang/Enum" "ordinal" "I" (.int (8 : Int32)) := (F_ordinal_aINTERNAL_ERROR_2).other W7 (Or.inl ne_aINTERNAL_ERROR_b1)
  have F_code_aOK_8 : Fld Z h7 aOK "com/example/tenet/tenet/runtime/Status" "code" "I" (.int (200 : Int32)) := (F_code_aOK_2).other W7 (Or.inl ne_aOK_b1)
  have F_ordinal_aUNAUTHORIZED_8 : Fld Z h7 aUNAUTHORIZED "java/lang/Enum" "ordinal" "I" (.int (3 : Int32)) := (F_ordinal_aUNAUTHORIZED_2).other W7 (Or.inl ne_aUNAUTHORIZED_b1)
  have F_code_aUNAUTHORIZED_8 : Fld Z h7 aUNAUTHORIZED "com/example/tenet/tenet/runtime/Status" "code" "I" (.int (401 : Int32)) := (F_code_aUNAUTHORIZED_2).other W7 (Or.inl ne_aUNAUTHORIZED_b1)
  have F_ordinal_aBAD_REQUEST_8 : Fld Z h7 aBAD_REQUEST "java/lang/Enum" "ordinal" "I" (.int (2 : Int32)) := (F_ordinal_aBAD_REQUEST_2).other W7 (Or.inl ne_aBAD_REQUEST_b1)
  have F_code_aBAD_REQUEST_8 : Fld Z h7 aBAD_REQUEST "com/example/tenet/tenet/runtime/Status" "code" "I" (.int (400 : Int32)) := (F_code_aBAD_REQUEST_2).other W7 (Or.inl ne_aBAD_REQUEST_b1)
  have F_ordinal_aNO_CONTENT_8 : Fld Z h7 aNO_CONTENT "java/lang/Enum" "ordinal" "I" (.int (1 : Int32)) := (F_ordinal_aNO_CONTENT_2).other W7 (Or.inl ne_aNO_CONTENT_b1)
  have F_code_aNO_CONTENT_8 : Fld Z h7 aNO_CONTENT "com/example/tenet/tenet/runtime/Status" "code" "I" (.int (204 : Int32)) := (F_code_aNO_CONTENT_2).other W7 (Or.inl ne_aNO_CONTENT_b1)
  have F_ordinal_aINVARIANT_VIOLATED_8 : Fld Z h7 aINVARIANT_VIOLATED "java/lang/Enum" "ordinal" "I" (.int (7 : Int32)) := (F_ordinal_aINVARIANT_VIOLATED_2).other W7 (Or.inl ne_aINVARIANT_VIOLATED_b1)
  have F_code_aINVARIANT_VIOLATED_8 : Fld Z h7 aINVARIANT_VIOLATED "com/example/tenet/tenet/runtime/Status" "code" "I" (.int (422 : Int32)) := (F_code_aINVARIANT_VIOLATED_2).other W7 (Or.inl ne_aINVARIANT_VIOLATED_b1)
  have F_ordinal_aFORBIDDEN_8 : Fld Z h7 aFORBIDDEN "java/lang/Enum" "ordinal" "I" (.int (4 : Int32)) := (F_ordinal_aFORBIDDEN_2).other W7 (Or.inl ne_aFORBIDDEN_b1)
  have F_code_aFORBIDDEN_8 : Fld Z h7 aFORBIDDEN "com/example/tenet/tenet/runtime/Status" "code" "I" (.int (403 : Int32)) := (F_code_aFORBIDDEN_2).other W7 (Or.inl ne_aFORBIDDEN_b1)
  have F_code_aINTERNAL_ERROR_8 : Fld Z h7 aINTERNAL_ERROR "com/example/tenet/tenet/runtime/Status" "code" "I" (.int (500 : Int32)) := (F_code_aINTERNAL_ERROR_2).other W7 (Or.inl ne_aINTERNAL_ERROR_b1)
  have F_ordinal_aCONFLICT_8 : Fld Z h7 aCONFLICT "java/lang/Enum" "ordinal" "I" (.int (6 : Int32)) := (F_ordinal_aCONFLICT_2).other W7 (Or.inl ne_aCONFLICT_b1)
  have F_code_aCONFLICT_8 : Fld Z h7 aCONFLICT "com/example/tenet/tenet/runtime/Status" "code" "I" (.int (409 : Int32)) := (F_code_aCONFLICT_2).other W7 (Or.inl ne_aCONFLICT_b1)
  have F_ordinal_aNOT_FOUND_8 : Fld Z h7 aNOT_FOUND "java/lang/Enum" "ordinal" "I" (.int (5 : Int32)) := (F_ordinal_aNOT_FOUND_2).other W7 (Or.inl ne_aNOT_FOUND_b1)
  have F_code_aNOT_FOUND_8 : Fld Z h7 aNOT_FOUND "com/example/tenet/tenet/runtime/Status" "code" "I" (.int (404 : Int32)) := (F_code_aNOT_FOUND_2).other W7 (Or.inl ne_aNOT_FOUND_b1)
  have O_b1_8 : own_O Z h7 b1 "com/example/tenet/tenet/runtime/Status" := (O_b1_1).wr W7
  have SZ9 : h0.size ≤ h7.size := by rw [W7.size]; exact SZ3
  have ZZ9 : n0 ≤ h7.size := Nat.le_trans Z0 SZ9
  have K10 : Keep h0 h7 [] := (K4).wr W7 (Or.inr sz_b1)
  obtain ⟨T11, X11, e11, st11⟩ := getS2 X7 hx hZ hown (host := "") (Or.inl (hw _ (List.mem_of_getElem? (i := 6) rfl))) Via.refl e7 S_NO_CONTENT_8 (g := (mkF m 13 #[.val (.int p0), .unset, .unset, .unset, .unset, .unset, .unset, .unset] [(.int (1 : Int32)), (.ref b1), (.ref b1)])) rfl (hb hby at_13)
  have qa12 := A_b1_w7
  obtain ⟨c12, Ar12, Sz12, H12⟩ := qa12
  have hi13 : 0 ≤ ((1 : Int32) : Int32).toInt ∧ ((1 : Int32) : Int32).toInt < (9 : Nat) := (by decide)
  obtain ⟨T13, h13, X13, e13, W13, st13⟩ := stR X11 hx hZ e11 Ar12 (j := (1 : Int32)) (own_in Sz12 hi13) rfl (own_sto Ar12 O_b1_8 (Ins.self E_aNO_CONTENT_8)) (g := (mkF m 16 #[.val (.int p0), .unset, .unset, .unset, .unset, .unset, .unset, .unset] [(.ref aNO_CONTENT), (.int (1 : Int32)), (.ref b1), (.ref b1)])) rfl rfl (hb hby at_16)
  have N13 := Fr.snoc X13 N7 g_b1
  have A_b1_w13 : own_A Z h13 b1 (.object "com/example/tenet/tenet/runtime/Status") 9 (fun i => if i = ((1 : Int32) : Int32).toNatClampNeg then (.ref aNO_CONTENT) else ((fun i => if i = ((0 : Int32) : Int32).toNatClampNeg then (.ref aOK) else ((fun _ => .null)) i)) i) := (A_b1_w7).set W13
  have S_OK_14 : Sta Z h13 "com/example/tenet/tenet/runtime/Status" "OK" "Lcom/example/tenet/tenet/runtime/Status;" (.ref aOK) := (S_OK_8).wr W13
  have E_aOK_14 : Exa Z h13 aOK "com/example/tenet/tenet/runtime/Status" := (E_aOK_8).wr W13
  have S_NO_CONTENT_14 : Sta Z h13 "com/example/tenet/tenet/runtime/Status" "NO_CONTENT" "Lcom/example/tenet/tenet/runtime/Status;" (.ref aNO_CONTENT) := (S_NO_CONTENT_8).wr W13
  have E_aNO_CONTENT_14 : Exa Z h13 aNO_CONTENT "com/example/tenet/tenet/runtime/Status" := (E_aNO_CONTENT_8).wr W13
  have S_BAD_REQUEST_14 : Sta Z h13 "com/example/tenet/tenet/runtime/Status" "BAD_REQUEST" "Lcom/example/tenet/tenet/runtime/Status;" (.ref aBAD_REQUEST) := (S_BAD_REQUEST_8).wr W13
  have E_aBAD_REQUEST_14 : Exa Z h13 aBAD_REQUEST "com/example/tenet/tenet/runtime/Status" := (E_aBAD_REQUEST_8).wr W13
  have S_UNAUTHORIZED_14 : Sta Z h13 "com/example/tenet/tenet/runtime/Status" "UNAUTHORIZED" "Lcom/example/tenet/tenet/runtime/Status;" (.ref aUNAUTHORIZED) := (S_UNAUTHORIZED_8).wr W13
  have E_aUNAUTHORIZED_14 : Exa Z h13 aUNAUTHORIZED "com/example/tenet/tenet/runtime/Status" := (E_aUNAUTHORIZED_8).wr W13
  have S_FORBIDDEN_14 : Sta Z h13 "com/example/tenet/tenet/runtime/Status" "FORBIDDEN" "Lcom/example/tenet/tenet/runtime/Status;" (.ref aFORBIDDEN) := (S_FORBIDDEN_8).wr W13
  have E_aFORBIDDEN_14 : Exa Z h13 aFORBIDDEN "com/example/tenet/tenet/runtime/Status" := (E_aFORBIDDEN_8).wr W13
  have S_NOT_FOUND_14 : Sta Z h13 "com/example/tenet/tenet/runtime/Status" "NOT_FOUND" "Lcom/example/tenet/tenet/runtime/Status;" (.ref aNOT_FOUND) := (S_NOT_FOUND_8).wr W13
  have E_aNOT_FOUND_14 : Exa Z h13 aNOT_FOUND "com/example/tenet/tenet/runtime/Status" := (E_aNOT_FOUND_8).wr W13
  have S_CONFLICT_14 : Sta Z h13 "com/example/tenet/tenet/runtime/Status" "CONFLICT" "Lcom/example/tenet/tenet/runtime/Status;" (.ref aCONFLICT) := (S_CONFLICT_8).wr W13
  have E_aCONFLICT_14 : Exa Z h13 aCONFLICT "com/example/tenet/tenet/runtime/Status" := (E_aCONFLICT_8).wr W13
  have S_INVARIANT_VIOLATED_14 : Sta Z h13 "com/example/tenet/tenet/runtime/Status" "INVARIANT_VIOLATED" "Lcom/example/tenet/tenet/runtime/Status;" (.ref aINVARIANT_VIOLATED) := (S_INVARIANT_VIOLATED_8).wr W13
  have E_aINVARIANT_VIOLATED_14 : Exa Z h13 aINVARIANT_VIOLATED "com/example/tenet/tenet/runtime/Status" := (E_aINVARIANT_VIOLATED_8).wr W13
  have S_INTERNAL_ERROR_14 : Sta Z h13 "com/example/tenet/tenet/runtime/Status" "INTERNAL_ERROR" "Lcom/example/tenet/tenet/runtime/Status;" (.ref aINTERNAL_ERROR) := (S_INTERNAL_ERROR_8).wr W13
  have E_aINTERNAL_ERROR_14 : Exa Z h13 aINTERNAL_ERROR "com/example/tenet/tenet/runtime/Status" := (E_aINTERNAL_ERROR_8).wr W13
  have F_ordinal_aOK_14 : Fld Z h13 aOK "java/lang/Enum" "ordinal" "I" (.int (0 : Int32)) := (F_ordinal_aOK_8).other W13 (Or.inl ne_aOK_b1)
  have F_ordinal_aINTERNAL_ERROR_14 : Fld Z h13 aINTERNAL_ERROR "java/lang/Enum" "ordinal" "I" (.int (8 : Int32)) := (F_ordinal_aINTERNAL_ERROR_8).other W13 (Or.inl ne_aINTERNAL_ERROR_b1)
  have F_code_aOK_14 : Fld Z h13 aOK "com/example/tenet/tenet/runtime/Status" "code" "I" (.int (200 : Int32)) := (F_code_aOK_8).other W13 (Or.inl ne_aOK_b1)
  have F_ordinal_aUNAUTHORIZED_14 : Fld Z h13 aUNAUTHORIZED "java/lang/Enum" "ordinal" "I" (.int (3 : Int32)) := (F_ordinal_aUNAUTHORIZED_8).other W13 (Or.inl ne_aUNAUTHORIZED_b1)
  have F_code_aUNAUTHORIZED_14 : Fld Z h13 aUNAUTHORIZED "com/example/tenet/tenet/runtime/Status" "code" "I" (.int (401 : Int32)) := (F_code_aUNAUTHORIZED_8).other W13 (Or.inl ne_aUNAUTHORIZED_b1)
  have F_ordinal_aBAD_REQUEST_14 : Fld Z h13 aBAD_REQUEST "java/lang/Enum" "ordinal" "I" (.int (2 : Int32)) := (F_ordinal_aBAD_REQUEST_8).other W13 (Or.inl ne_aBAD_REQUEST_b1)
  have F_code_aBAD_REQUEST_14 : Fld Z h13 aBAD_REQUEST "com/example/tenet/tenet/runtime/Status" "code" "I" (.int (400 : Int32)) := (F_code_aBAD_REQUEST_8).other W13 (Or.inl ne_aBAD_REQUEST_b1)
  have F_ordinal_aNO_CONTENT_14 : Fld Z h13 aNO_CONTENT "java/lang/Enum" "ordinal" "I" (.int (1 : Int32)) := (F_ordinal_aNO_CONTENT_8).other W13 (Or.inl ne_aNO_CONTENT_b1)
  have F_code_aNO_CONTENT_14 : Fld Z h13 aNO_CONTENT "com/example/tenet/tenet/runtime/Status" "code" "I" (.int (204 : Int32)) := (F_code_aNO_CONTENT_8).other W13 (Or.inl ne_aNO_CONTENT_b1)
  have F_ordinal_aINVARIANT_VIOLATED_14 : Fld Z h13 aINVARIANT_VIOLATED "java/lang/Enum" "ordinal" "I" (.int (7 : Int32)) := (F_ordinal_aINVARIANT_VIOLATED_8).other W13 (Or.inl ne_aINVARIANT_VIOLATED_b1)
  have F_code_aINVARIANT_VIOLATED_14 : Fld Z h13 aINVARIANT_VIOLATED "com/example/tenet/tenet/runtime/Status" "code" "I" (.int (422 : Int32)) := (F_code_aINVARIANT_VIOLATED_8).other W13 (Or.inl ne_aINVARIANT_VIOLATED_b1)
  have F_ordinal_aFORBIDDEN_14 : Fld Z h13 aFORBIDDEN "java/lang/Enum" "ordinal" "I" (.int (4 : Int32)) := (F_ordinal_aFORBIDDEN_8).other W13 (Or.inl ne_aFORBIDDEN_b1)
  have F_code_aFORBIDDEN_14 : Fld Z h13 aFORBIDDEN "com/example/tenet/tenet/runtime/Status" "code" "I" (.int (403 : Int32)) := (F_code_aFORBIDDEN_8).other W13 (Or.inl ne_aFORBIDDEN_b1)
  have F_code_aINTERNAL_ERROR_14 : Fld Z h13 aINTERNAL_ERROR "com/example/tenet/tenet/runtime/Status" "code" "I" (.int (500 : Int32)) := (F_code_aINTERNAL_ERROR_8).other W13 (Or.inl ne_aINTERNAL_ERROR_b1)
  have F_ordinal_aCONFLICT_14 : Fld Z h13 aCONFLICT "java/lang/Enum" "ordinal" "I" (.int (6 : Int32)) := (F_ordinal_aCONFLICT_8).other W13 (Or.inl ne_aCONFLICT_b1)
  have F_code_aCONFLICT_14 : Fld Z h13 aCONFLICT "com/example/tenet/tenet/runtime/Status" "code" "I" (.int (409 : Int32)) := (F_code_aCONFLICT_8).other W13 (Or.inl ne_aCONFLICT_b1)
  have F_ordinal_aNOT_FOUND_14 : Fld Z h13 aNOT_FOUND "java/lang/Enum" "ordinal" "I" (.int (5 : Int32)) := (F_ordinal_aNOT_FOUND_8).other W13 (Or.inl ne_aNOT_FOUND_b1)
  have F_code_aNOT_FOUND_14 : Fld Z h13 aNOT_FOUND "com/example/tenet/tenet/runtime/Status" "code" "I" (.int (404 : Int32)) := (F_code_aNOT_FOUND_8).other W13 (Or.inl ne_aNOT_FOUND_b1)
  have O_b1_14 : own_O Z h13 b1 "com/example/tenet/tenet/runtime/Status" := (O_b1_8).wr W13
  have SZ15 : h0.size ≤ h13.size := by rw [W13.size]; exact SZ9
  have ZZ15 : n0 ≤ h13.size := Nat.le_trans Z0 SZ15
  have K16 : Keep h0 h13 [] := (K10).wr W13 (Or.inr sz_b1)
  obtain ⟨T17, X17, e17, st17⟩ := getS2 X13 hx hZ hown (host := "") (Or.inl (hw _ (List.mem_of_getElem? (i := 8) rfl))) Via.refl e13 S_BAD_REQUEST_14 (g := (mkF m 19 #[.val (.int p0), .unset, .unset, .unset, .unset, .unset, .unset, .unset] [(.int (2 : Int32)), (.ref b1), (.ref b1)])) rfl (hb hby at_19)
  have qa18 := A_b1_w13
  obtain ⟨c18, Ar18, Sz18, H18⟩ := qa18
  have hi19 : 0 ≤ ((2 : Int32) : Int32).toInt ∧ ((2 : Int32) : Int32).toInt < (9 : Nat) := (by decide)
  obtain ⟨T19, h19, X19, e19, W19, st19⟩ := stR X17 hx hZ e17 Ar18 (j := (2 : Int32)) (own_in Sz18 hi19) rfl (own_sto Ar18 O_b1_14 (Ins.self E_aBAD_REQUEST_14)) (g := (mkF m 22 #[.val (.int p0), .unset, .unset, .unset, .unset, .unset, .unset, .unset] [(.ref aBAD_REQUEST), (.int (2 : Int32)), (.ref b1), (.ref b1)])) rfl rfl (hb hby at_22)
  have N19 := Fr.snoc X19 N13 g_b1
  have A_b1_w19 : own_A Z h19 b1 (.object "com/example/tenet/tenet/runtime/Status") 9 (fun i => if i = ((2 : Int32) : Int32).toNatClampNeg then (.ref aBAD_REQUEST) else ((fun i => if i = ((1 : Int32) : Int32).toNatClampNeg then (.ref aNO_CONTENT) else ((fun i => if i = ((0 : Int32) : Int32).toNatClampNeg then (.ref aOK) else ((fun _ => .null)) i)) i)) i) := (A_b1_w13).set W19
  have S_OK_20 : Sta Z h19 "com/example/tenet/tenet/runtime/Status" "OK" "Lcom/example/tenet/tenet/runtime/Status;" (.ref aOK) := (S_OK_14).wr W19
  have E_aOK_20 : Exa Z h19 aOK "com/example/tenet/tenet/runtime/Status" := (E_aOK_14).wr W19
  have S_NO_CONTENT_20 : Sta Z h19 "com/example/tenet/tenet/runtime/Status" "NO_CONTENT" "Lcom/example/tenet/tenet/runtime/Status;" (.ref aNO_CONTENT) := (S_NO_CONTENT_14).wr W19
  have E_aNO_CONTENT_20 : Exa Z h19 aNO_CONTENT "com/example/tenet/tenet/runtime/Status" := (E_aNO_CONTENT_14).wr W19
  have S_BAD_REQUEST_20 : Sta Z h19 "com/example/tenet/tenet/runtime/Status" "BAD_REQUEST" "Lcom/example/tenet/tenet/runtime/Status;" (.ref aBAD_REQUEST) := (S_BAD_REQUEST_14).wr W19
  have E_aBAD_REQUEST_20 : Exa Z h19 aBAD_REQUEST "com/example/tenet/tenet/runtime/Status" := (E_aBAD_REQUEST_14).wr W19
  have S_UNAUTHORIZED_20 : Sta Z h19 "com/example/tenet/tenet/runtime/Status" "UNAUTHORIZED" "Lcom/example/tenet/tenet/runtime/Status;" (.ref aUNAUTHORIZED) := (S_UNAUTHORIZED_14).wr W19
  have E_aUNAUTHORIZED_20 : Exa Z h19 aUNAUTHORIZED "com/example/tenet/tenet/runtime/Status" := (E_aUNAUTHORIZED_14).wr W19
  have S_FORBIDDEN_20 : Sta Z h19 "com/example/tenet/tenet/runtime/Status" "FORBIDDEN" "Lcom/example/tenet/tenet/runtime/Status;" (.ref aFORBIDDEN) := (S_FORBIDDEN_14).wr W19
  have E_aFORBIDDEN_20 : Exa Z h19 aFORBIDDEN "com/example/tenet/tenet/runtime/Status" := (E_aFORBIDDEN_14).wr W19
  have S_NOT_FOUND_20 : Sta Z h19 "com/example/tenet/tenet/runtime/Status" "NOT_FOUND" "Lcom/example/tenet/tenet/runtime/Status;" (.ref aNOT_FOUND) := (S_NOT_FOUND_14).wr W19
  have E_aNOT_FOUND_20 : Exa Z h19 aNOT_FOUND "com/example/tenet/tenet/runtime/Status" := (E_aNOT_FOUND_14).wr W19
  have S_CONFLICT_20 : Sta Z h19 "com/example/tenet/tenet/runtime/Status" "CONFLICT" "Lcom/example/tenet/tenet/runtime/Status;" (.ref aCONFLICT) := (S_CONFLICT_14).wr W19
  have E_aCONFLICT_20 : Exa Z h19 aCONFLICT "com/example/tenet/tenet/runtime/Status" := (E_aCONFLICT_14).wr W19
  have S_INVARIANT_VIOLATED_20 : Sta Z h19 "com/example/tenet/tenet/runtime/Status" "INVARIANT_VIOLATED" "Lcom/example/tenet/tenet/runtime/Status;" (.ref aINVARIANT_VIOLATED) := (S_INVARIANT_VIOLATED_14).wr W19
  have E_aINVARIANT_VIOLATED_20 : Exa Z h19 aINVARIANT_VIOLATED "com/example/tenet/tenet/runtime/Status" := (E_aINVARIANT_VIOLATED_14).wr W19
  have S_INTERNAL_ERROR_20 : Sta Z h19 "com/example/tenet/tenet/runtime/Status" "INTERNAL_ERROR" "Lcom/example/tenet/tenet/runtime/Status;" (.ref aINTERNAL_ERROR) := (S_INTERNAL_ERROR_14).wr W19
  have E_aINTERNAL_ERROR_20 : Exa Z h19 aINTERNAL_ERROR "com/example/tenet/tenet/runtime/Status" := (E_aINTERNAL_ERROR_14).wr W19
  have F_ordinal_aOK_20 : Fld Z h19 aOK "java/lang/Enum" "ordinal" "I" (.int (0 : Int32)) := (F_ordinal_aOK_14).other W19 (Or.inl ne_aOK_b1)
  have F_ordinal_aINTERNAL_ERROR_20 : Fld Z h19 aINTERNAL_ERROR "java/lang/Enum" "ordinal" "I" (.int (8 : Int32)) := (F_ordinal_aINTERNAL_ERROR_14).other W19 (Or.inl ne_aINTERNAL_ERROR_b1)
  have F_code_aOK_20 : Fld Z h19 aOK "com/example/tenet/tenet/runtime/Status" "code" "I" (.int (200 : Int32)) := (F_code_aOK_14).other W19 (Or.inl ne_aOK_b1)
  have F_ordinal_aUNAUTHORIZED_20 : Fld Z h19 aUNAUTHORIZED "java/lang/Enum" "ordinal" "I" (.int (3 : Int32)) := (F_ordinal_aUNAUTHORIZED_14).other W19 (Or.inl ne_aUNAUTHORIZED_b1)
  have F_code_aUNAUTHORIZED_20 : Fld Z h19 aUNAUTHORIZED "com/example/tenet/tenet/runtime/Status" "code" "I" (.int (401 : Int32)) := (F_code_aUNAUTHORIZED_14).other W19 (Or.inl ne_aUNAUTHORIZED_b1)
  have F_ordinal_aBAD_REQUEST_20 : Fld Z h19 aBAD_REQUEST "java/lang/Enum" "ordinal" "I" (.int (2 : Int32)) := (F_ordinal_aBAD_REQUEST_14).other W19 (Or.inl ne_aBAD_REQUEST_b1)
  have F_code_aBAD_REQUEST_20 : Fld Z h19 aBAD_REQUEST "com/example/tenet/tenet/runtime/Status" "code" "I" (.int (400 : Int32)) := (F_code_aBAD_REQUEST_14).other W19 (Or.inl ne_aBAD_REQUEST_b1)
  have F_ordinal_aNO_CONTENT_20 : Fld Z h19 aNO_CONTENT "java/lang/Enum" "ordinal" "I" (.int (1 : Int32)) := (F_ordinal_aNO_CONTENT_14).other W19 (Or.inl ne_aNO_CONTENT_b1)
  have F_code_aNO_CONTENT_20 : Fld Z h19 aNO_CONTENT "com/example/tenet/tenet/runtime/Status" "code" "I" (.int (204 : Int32)) := (F_code_aNO_CONTENT_14).other W19 (Or.inl ne_aNO_CONTENT_b1)
  have F_ordinal_aINVARIANT_VIOLATED_20 : Fld Z h19 aINVARIANT_VIOLATED "java/lang/Enum" "ordinal" "I" (.int (7 : Int32)) := (F_ordinal_aINVARIANT_VIOLATED_14).other W19 (Or.inl ne_aINVARIANT_VIOLATED_b1)
  have F_code_aINVARIANT_VIOLATED_20 : Fld Z h19 aINVARIANT_VIOLATED "com/example/tenet/tenet/runtime/Status" "code" "I" (.int (422 : Int32)) := (F_code_aINVARIANT_VIOLATED_14).other W19 (Or.inl ne_aINVARIANT_VIOLATED_b1)
  have F_ordinal_aFORBIDDEN_20 : Fld Z h19 aFORBIDDEN "java/lang/Enum" "ordinal" "I" (.int (4 : Int32)) := (F_ordinal_aFORBIDDEN_14).other W19 (Or.inl ne_aFORBIDDEN_b1)
  have F_code_aFORBIDDEN_20 : Fld Z h19 aFORBIDDEN "com/example/tenet/tenet/runtime/Status" "code" "I" (.int (403 : Int32)) := (F_code_aFORBIDDEN_14).other W19 (Or.inl ne_aFORBIDDEN_b1)
  have F_code_aINTERNAL_ERROR_20 : Fld Z h19 aINTERNAL_ERROR "com/example/tenet/tenet/runtime/Status" "code" "I" (.int (500 : Int32)) := (F_code_aINTERNAL_ERROR_14).other W19 (Or.inl ne_aINTERNAL_ERROR_b1)
  have F_ordinal_aCONFLICT_20 : Fld Z h19 aCONFLICT "java/lang/Enum" "ordinal" "I" (.int (6 : Int32)) := (F_ordinal_aCONFLICT_14).other W19 (Or.inl ne_aCONFLICT_b1)
  have F_code_aCONFLICT_20 : Fld Z h19 aCONFLICT "com/example/tenet/tenet/runtime/Status" "code" "I" (.int (409 : Int32)) := (F_code_aCONFLICT_14).other W19 (Or.inl ne_aCONFLICT_b1)
  have F_ordinal_aNOT_FOUND_20 : Fld Z h19 aNOT_FOUND "java/lang/Enum" "ordinal" "I" (.int (5 : Int32)) := (F_ordinal_aNOT_FOUND_14).other W19 (Or.inl ne_aNOT_FOUND_b1)
  have F_code_aNOT_FOUND_20 : Fld Z h19 aNOT_FOUND "com/example/tenet/tenet/runtime/Status" "code" "I" (.int (404 : Int32)) := (F_code_aNOT_FOUND_14).other W19 (Or.inl ne_aNOT_FOUND_b1)
  have O_b1_20 : own_O Z h19 b1 "com/example/tenet/tenet/runtime/Status" := (O_b1_14).wr W19
  have SZ21 : h0.size ≤ h19.size := by rw [W19.size]; exact SZ15
  have ZZ21 : n0 ≤ h19.size := Nat.le_trans Z0 SZ21
  have K22 : Keep h0 h19 [] := (K16).wr W19 (Or.inr sz_b1)
  obtain ⟨T23, X23, e23, st23⟩ := getS2 X19 hx hZ hown (host := "") (Or.inl (hw _ (List.mem_of_getElem? (i := 10) rfl))) Via.refl e19 S_UNAUTHORIZED_20 (g := (mkF m 25 #[.val (.int p0), .unset, .unset, .unset, .unset, .unset, .unset, .unset] [(.int (3 : Int32)), (.ref b1), (.ref b1)])) rfl (hb hby at_25)
  have qa24 := A_b1_w19
  obtain ⟨c24, Ar24, Sz24, H24⟩ := qa24
  have hi25 : 0 ≤ ((3 : Int32) : Int32).toInt ∧ ((3 : Int32) : Int32).toInt < (9 : Nat) := (by decide)
  obtain ⟨T25, h25, X25, e25, W25, st25⟩ := stR X23 hx hZ e23 Ar24 (j := (3 : Int32)) (own_in Sz24 hi25) rfl (own_sto Ar24 O_b1_20 (Ins.self E_aUNAUTHORIZED_20)) (g := (mkF m 28 #[.val (.int p0), .unset, .unset, .unset, .unset, .unset, .unset, .unset] [(.ref aUNAUTHORIZED), (.int (3 : Int32)), (.ref b1), (.ref b1)])) rfl rfl (hb hby at_28)
  have N25 := Fr.snoc X25 N19 g_b1
  have A_b1_w25 : own_A Z h25 b1 (.object "com/example/tenet/tenet/runtime/Status") 9 (fun i => if i = ((3 : Int32) : Int32).toNatClampNeg then (.ref aUNAUTHORIZED) else ((fun i => if i = ((2 : Int32) : Int32).toNatClampNeg then (.ref aBAD_REQUEST) else ((fun i => if i = ((1 : Int32) : Int32).toNatClampNeg then (.ref aNO_CONTENT) else ((fun i => if i = ((0 : Int32) : Int32).toNatClampNeg then (.ref aOK) else ((fun _ => .null)) i)) i)) i)) i) := (A_b1_w19).set W25
  have S_OK_26 : Sta Z h25 "com/example/tenet/tenet/runtime/Status" "OK" "Lcom/example/tenet/tenet/runtime/Status;" (.ref aOK) := (S_OK_20).wr W25
  have E_aOK_26 : Exa Z h25 aOK "com/example/tenet/tenet/runtime/Status" := (E_aOK_20).wr W25
  have S_NO_CONTENT_26 : Sta Z h25 "com/example/tenet/tenet/runtime/Status" "NO_CONTENT" "Lcom/example/tenet/tenet/runtime/Status;" (.ref aNO_CONTENT) := (S_NO_CONTENT_20).wr W25
  have E_aNO_CONTENT_26 : Exa Z h25 aNO_CONTENT "com/example/tenet/tenet/runtime/Status" := (E_aNO_CONTENT_20).wr W25
  have S_BAD_REQUEST_26 : Sta Z h25 "com/example/tenet/tenet/runtime/Status" "BAD_REQUEST" "Lcom/example/tenet/tenet/runtime/Status;" (.ref aBAD_REQUEST) := (S_BAD_REQUEST_20).wr W25
  have E_aBAD_REQUEST_26 : Exa Z h25 aBAD_REQUEST "com/example/tenet/tenet/runtime/Status" := (E_aBAD_REQUEST_20).wr W25
  have S_UNAUTHORIZED_26 : Sta Z h25 "com/example/tenet/tenet/runtime/Status" "UNAUTHORIZED" "Lcom/example/tenet/tenet/runtime/Status;" (.ref aUNAUTHORIZED) := (S_UNAUTHORIZED_20).wr W25
  have E_aUNAUTHORIZED_26 : Exa Z h25 aUNAUTHORIZED "com/example/tenet/tenet/runtime/Status" := (E_aUNAUTHORIZED_20).wr W25
  have S_FORBIDDEN_26 : Sta Z h25 "com/example/tenet/tenet/runtime/Status" "FORBIDDEN" "Lcom/example/tenet/tenet/runtime/Status;" (.ref aFORBIDDEN) := (S_FORBIDDEN_20).wr W25
  have E_aFORBIDDEN_26 : Exa Z h25 aFORBIDDEN "com/example/tenet/tenet/runtime/Status" := (E_aFORBIDDEN_20).wr W25
  have S_NOT_FOUND_26 : Sta Z h25 "com/example/tenet/tenet/runtime/Status" "NOT_FOUND" "Lcom/example/tenet/tenet/runtime/Status;" (.ref aNOT_FOUND) := (S_NOT_FOUND_20).wr W25
  have E_aNOT_FOUND_26 : Exa Z h25 aNOT_FOUND "com/example/tenet/tenet/runtime/Status" := (E_aNOT_FOUND_20).wr W25
  have S_CONFLICT_26 : Sta Z h25 "com/example/tenet/tenet/runtime/Status" "CONFLICT" "Lcom/example/tenet/tenet/runtime/Status;" (.ref aCONFLICT) := (S_CONFLICT_20).wr W25
  have E_aCONFLICT_26 : Exa Z h25 aCONFLICT "com/example/tenet/tenet/runtime/Status" := (E_aCONFLICT_20).wr W25
  have S_INVARIANT_VIOLATED_26 : Sta Z h25 "com/example/tenet/tenet/runtime/Status" "INVARIANT_VIOLATED" "Lcom/example/tenet/tenet/runtime/Status;" (.ref aINVARIANT_VIOLATED) := (S_INVARIANT_VIOLATED_20).wr W25
  have E_aINVARIANT_VIOLATED_26 : Exa Z h25 aINVARIANT_VIOLATED "com/example/tenet/tenet/runtime/Status" := (E_aINVARIANT_VIOLATED_20).wr W25
  have S_INTERNAL_ERROR_26 : Sta Z h25 "com/example/tenet/tenet/runtime/Status" "INTERNAL_ERROR" "Lcom/example/tenet/tenet/runtime/Status;" (.ref aINTERNAL_ERROR) := (S_INTERNAL_ERROR_20).wr W25
  have E_aINTERNAL_ERROR_26 : Exa Z h25 aINTERNAL_ERROR "com/example/tenet/tenet/runtime/Status" := (E_aINTERNAL_ERROR_20).wr W25
  have F_ordinal_aOK_26 : Fld Z h25 aOK "java/lang/Enum" "ordinal" "I" (.int (0 : Int32)) := (F_ordinal_aOK_20).other W25 (Or.inl ne_aOK_b1)
  have F_ordinal_aINTERNAL_ERROR_26 : Fld Z h25 aINTERNAL_ERROR "java/lang/Enum" "ordinal" "I" (.int (8 : Int32)) := (F_ordinal_aINTERNAL_ERROR_20).other W25 (Or.inl ne_aINTERNAL_ERROR_b1)
  have F_code_aOK_26 : Fld Z h25 aOK "com/example/tenet/tenet/runtime/Status" "code" "I" (.int (200 : Int32)) := (F_code_aOK_20).other W25 (Or.inl ne_aOK_b1)
  have F_ordinal_aUNAUTHORIZED_26 : Fld Z h25 aUNAUTHORIZED "java/lang/Enum" "ordinal" "I" (.int (3 : Int32)) := (F_ordinal_aUNAUTHORIZED_20).other W25 (Or.inl ne_aUNAUTHORIZED_b1)
  have F_code_aUNAUTHORIZED_26 : Fld Z h25 aUNAUTHORIZED "com/example/tenet/tenet/runtime/Status" "code" "I" (.int (401 : Int32)) := (F_code_aUNAUTHORIZED_20).other W25 (Or.inl ne_aUNAUTHORIZED_b1)
  have F_ordinal_aBAD_REQUEST_26 : Fld Z h25 aBAD_REQUEST "java/lang/Enum" "ordinal" "I" (.int (2 : Int32)) := (F_ordinal_aBAD_REQUEST_20).other W25 (Or.inl ne_aBAD_REQUEST_b1)
  have F_code_aBAD_REQUEST_26 : Fld Z h25 aBAD_REQUEST "com/example/tenet/tenet/runtime/Status" "code" "I" (.int (400 : Int32)) := (F_code_aBAD_REQUEST_20).other W25 (Or.inl ne_aBAD_REQUEST_b1)
  have F_ordinal_aNO_CONTENT_26 : Fld Z h25 aNO_CONTENT "java/lang/Enum" "ordinal" "I" (.int (1 : Int32)) := (F_ordinal_aNO_CONTENT_20).other W25 (Or.inl ne_aNO_CONTENT_b1)
  have F_code_aNO_CONTENT_26 : Fld Z h25 aNO_CONTENT "com/example/tenet/tenet/runtime/Status" "code" "I" (.int (204 : Int32)) := (F_code_aNO_CONTENT_20).other W25 (Or.inl ne_aNO_CONTENT_b1)
  have F_ordinal_aINVARIANT_VIOLATED_26 : Fld Z h25 aINVARIANT_VIOLATED "java/lang/Enum" "ordinal" "I" (.int (7 : Int32)) := (F_ordinal_aINVARIANT_VIOLATED_20).other W25 (Or.inl ne_aINVARIANT_VIOLATED_b1)
  have F_code_aINVARIANT_VIOLATED_26 : Fld Z h25 aINVARIANT_VIOLATED "com/example/tenet/tenet/runtime/Status" "code" "I" (.int (422 : Int32)) := (F_code_aINVARIANT_VIOLATED_20).other W25 (Or.inl ne_aINVARIANT_VIOLATED_b1)
  have F_ordinal_aFORBIDDEN_26 : Fld Z h25 aFORBIDDEN "java/lang/Enum" "ordinal" "I" (.int (4 : Int32)) := (F_ordinal_aFORBIDDEN_20).other W25 (Or.inl ne_aFORBIDDEN_b1)
  have F_code_aFORBIDDEN_26 : Fld Z h25 aFORBIDDEN "com/example/tenet/tenet/runtime/Status" "code" "I" (.int (403 : Int32)) := (F_code_aFORBIDDEN_20).other W25 (Or.inl ne_aFORBIDDEN_b1)
  have F_code_aINTERNAL_ERROR_26 : Fld Z h25 aINTERNAL_ERROR "com/example/tenet/tenet/runtime/Status" "code" "I" (.int (500 : Int32)) := (F_code_aINTERNAL_ERROR_20).other W25 (Or.inl ne_aINTERNAL_ERROR_b1)
  have F_ordinal_aCONFLICT_26 : Fld Z h25 aCONFLICT "java/lang/Enum" "ordinal" "I" (.int (6 : Int32)) := (F_ordinal_aCONFLICT_20).other W25 (Or.inl ne_aCONFLICT_b1)
  have F_code_aCONFLICT_26 : Fld Z h25 aCONFLICT "com/example/tenet/tenet/runtime/Status" "code" "I" (.int (409 : Int32)) := (F_code_aCONFLICT_20).other W25 (Or.inl ne_aCONFLICT_b1)
  have F_ordinal_aNOT_FOUND_26 : Fld Z h25 aNOT_FOUND "java/lang/Enum" "ordinal" "I" (.int (5 : Int32)) := (F_ordinal_aNOT_FOUND_20).other W25 (Or.inl ne_aNOT_FOUND_b1)
  have F_code_aNOT_FOUND_26 : Fld Z h25 aNOT_FOUND "com/example/tenet/tenet/runtime/Status" "code" "I" (.int (404 : Int32)) := (F_code_aNOT_FOUND_20).other W25 (Or.inl ne_aNOT_FOUND_b1)
  have O_b1_26 : own_O Z h25 b1 "com/example/tenet/tenet/runtime/Status" := (O_b1_20).wr W25
  have SZ27 : h0.size ≤ h25.size := by rw [W25.size]; exact SZ21
  have ZZ27 : n0 ≤ h25.size := Nat.le_trans Z0 SZ27
  have K28 : Keep h0 h25 [] := (K22).wr W25 (Or.inr sz_b1)
  obtain ⟨T29, X29, e29, st29⟩ := getS2 X25 hx hZ hown (host := "") (Or.inl (hw _ (List.mem_of_getElem? (i := 12) rfl))) Via.refl e25 S_FORBIDDEN_26 (g := (mkF m 31 #[.val (.int p0), .unset, .unset, .unset, .unset, .unset, .unset, .unset] [(.int (4 : Int32)), (.ref b1), (.ref b1)])) rfl (hb hby at_31)
  have qa30 := A_b1_w25
  obtain ⟨c30, Ar30, Sz30, H30⟩ := qa30
  have hi31 : 0 ≤ ((4 : Int32) : Int32).toInt ∧ ((4 : Int32) : Int32).toInt < (9 : Nat) := (by decide)
  obtain ⟨T31, h31, X31, e31, W31, st31⟩ := stR X29 hx hZ e29 Ar30 (j := (4 : Int32)) (own_in Sz30 hi31) rfl (own_sto Ar30 O_b1_26 (Ins.self E_aFORBIDDEN_26)) (g := (mkF m 34 #[.val (.int p0), .unset, .unset, .unset, .unset, .unset, .unset, .unset] [(.ref aFORBIDDEN), (.int (4 : Int32)), (.ref b1), (.ref b1)])) rfl rfl (hb hby at_34)
  have N31 := Fr.snoc X31 N25 g_b1
  have A_b1_w31 : own_A Z h31 b1 (.object "com/example/tenet/tenet/runtime/Status") 9 (fun i => if i = ((4 : Int32) : Int32).toNatClampNeg then (.ref aFORBIDDEN) else ((fun i => if i = ((3 : Int32) : Int32).toNatClampNeg then (.ref aUNAUTHORIZED) else ((fun i => if i = ((2 : Int32) : Int32).toNatClampNeg then (.ref aBAD_REQUEST) else ((fun i => if i = ((1 : Int32) : Int32).toNatClampNeg then (.ref aNO_CONTENT) else ((fun i => if i = ((0 : Int32) : Int32).toNatClampNeg then (.ref aOK) else ((fun _ => .null)) i)) i)) i)) i)) i) := (A_b1_w25).set W31
  have S_OK_32 : Sta Z h31 "com/example/tenet/tenet/runtime/Status" "OK" "Lcom/example/tenet/tenet/runtime/Status;" (.ref aOK) := (S_OK_26).wr W31
  have E_aOK_32 : Exa Z h31 aOK "com/example/tenet/tenet/runtime/Status" := (E_aOK_26).wr W31
  have S_NO_CONTENT_32 : Sta Z h31 "com/example/tenet/tenet/runtime/Status" "NO_CONTENT" "Lcom/example/tenet/tenet/runtime/Status;" (.ref aNO_CONTENT) := (S_NO_CONTENT_26).wr W31
  have E_aNO_CONTENT_32 : Exa Z h31 aNO_CONTENT "com/example/tenet/tenet/runtime/Status" := (E_aNO_CONTENT_26).wr W31
  have S_BAD_REQUEST_32 : Sta Z h31 "com/example/tenet/tenet/runtime/Status" "BAD_REQUEST" "Lcom/example/tenet/tenet/runtime/Status;" (.ref aBAD_REQUEST) := (S_BAD_REQUEST_26).wr W31
  have E_aBAD_REQUEST_32 : Exa Z h31 aBAD_REQUEST "com/example/tenet/tenet/runtime/Status" := (E_aBAD_REQUEST_26).wr W31
  have S_UNAUTHORIZED_32 : Sta Z h31 "com/example/tenet/tenet/runtime/Status" "UNAUTHORIZED" "Lcom/example/tenet/tenet/runtime/Status;" (.ref aUNAUTHORIZED) := (S_UNAUTHORIZED_26).wr W31
  have E_aUNAUTHORIZED_32 : Exa Z h31 aUNAUTHORIZED "com/example/tenet/tenet/runtime/Status" := (E_aUNAUTHORIZED_26).wr W31
  have S_FORBIDDEN_32 : Sta Z h31 "com/example/tenet/tenet/runtime/Status" "FORBIDDEN" "Lcom/example/tenet/tenet/runtime/Status;" (.ref aFORBIDDEN) := (S_FORBIDDEN_26).wr W31
  have E_aFORBIDDEN_32 : Exa Z h31 aFORBIDDEN "com/example/tenet/tenet/runtime/Status" := (E_aFORBIDDEN_26).wr W31
  have S_NOT_FOUND_32 : Sta Z h31 "com/example/tenet/tenet/runtime/Status" "NOT_FOUND" "Lcom/example/tenet/tenet/runtime/Status;" (.ref aNOT_FOUND) := (S_NOT_FOUND_26).wr W31
  have E_aNOT_FOUND_32 : Exa Z h31 aNOT_FOUND "com/example/tenet/tenet/runtime/Status" := (E_aNOT_FOUND_26).wr W31
  have S_CONFLICT_32 : Sta Z h31 "com/example/tenet/tenet/runtime/Status" "CONFLICT" "Lcom/example/tenet/tenet/runtime/Status;" (.ref aCONFLICT) := (S_CONFLICT_26).wr W31
  have E_aCONFLICT_32 : Exa Z h31 aCONFLICT "com/example/tenet/tenet/runtime/Status" := (E_aCONFLICT_26).wr W31
  have S_INVARIANT_VIOLATED_32 : Sta Z h31 "com/example/tenet/tenet/runtime/Status" "INVARIANT_VIOLATED" "Lcom/example/tenet/tenet/runtime/Status;" (.ref aINVARIANT_VIOLATED) := (S_INVARIANT_VIOLATED_26).wr W31
  have E_aINVARIANT_VIOLATED_32 : Exa Z h31 aINVARIANT_VIOLATED "com/example/tenet/tenet/runtime/Status" := (E_aINVARIANT_VIOLATED_26).wr W31
  have S_INTERNAL_ERROR_32 : Sta Z h31 "com/example/tenet/tenet/runtime/Status" "INTERNAL_ERROR" "Lcom/example/tenet/tenet/runtime/Status;" (.ref aINTERNAL_ERROR) := (S_INTERNAL_ERROR_26).wr W31
  have E_aINTERNAL_ERROR_32 : Exa Z h31 aINTERNAL_ERROR "com/example/tenet/tenet/runtime/Status" := (E_aINTERNAL_ERROR_26).wr W31
  have F_ordinal_aOK_32 : Fld Z h31 aOK "java/lang/Enum" "ordinal" "I" (.int (0 : Int32)) := (F_ordinal_aOK_26).other W31 (Or.inl ne_aOK_b1)
  have F_ordinal_aINTERNAL_ERROR_32 : Fld Z h31 aINTERNAL_ERROR "java/lang/Enum" "ordinal" "I" (.int (8 : Int32)) := (F_ordinal_aINTERNAL_ERROR_26).other W31 (Or.inl ne_aINTERNAL_ERROR_b1)
  have F_code_aOK_32 : Fld Z h31 aOK "com/example/tenet/tenet/runtime/Status" "code" "I" (.int (200 : Int32)) := (F_code_aOK_26).other W31 (Or.inl ne_aOK_b1)
  have F_ordinal_aUNAUTHORIZED_32 : Fld Z h31 aUNAUTHORIZED "java/lang/Enum" "ordinal" "I" (.int (3 : Int32)) := (F_ordinal_aUNAUTHORIZED_26).other W31 (Or.inl ne_aUNAUTHORIZED_b1)
  have F_code_aUNAUTHORIZED_32 : Fld Z h31 aUNAUTHORIZED "com/example/tenet/tenet/runtime/Status" "code" "I" (.int (401 : Int32)) := (F_code_aUNAUTHORIZED_26).other W31 (Or.inl ne_aUNAUTHORIZED_b1)
  have F_ordinal_aBAD_REQUEST_32 : Fld Z h31 aBAD_REQUEST "java/lang/Enum" "ordinal" "I" (.int (2 : Int32)) := (F_ordinal_aBAD_REQUEST_26).other W31 (Or.inl ne_aBAD_REQUEST_b1)
  have F_code_aBAD_REQUEST_32 : Fld Z h31 aBAD_REQUEST "com/example/tenet/tenet/runtime/Status" "code" "I" (.int (400 : Int32)) := (F_code_aBAD_REQUEST_26).other W31 (Or.inl ne_aBAD_REQUEST_b1)
  have F_ordinal_aNO_CONTENT_32 : Fld Z h31 aNO_CONTENT "java/lang/Enum" "ordinal" "I" (.int (1 : Int32)) := (F_ordinal_aNO_CONTENT_26).other W31 (Or.inl ne_aNO_CONTENT_b1)
  have F_code_aNO_CONTENT_32 : Fld Z h31 aNO_CONTENT "com/example/tenet/tenet/runtime/Status" "code" "I" (.int (204 : Int32)) := (F_code_aNO_CONTENT_26).other W31 (Or.inl ne_aNO_CONTENT_b1)
  have F_ordinal_aINVARIANT_VIOLATED_32 : Fld Z h31 aINVARIANT_VIOLATED "java/lang/Enum" "ordinal" "I" (.int (7 : Int32)) := (F_ordinal_aINVARIANT_VIOLATED_26).other W31 (Or.inl ne_aINVARIANT_VIOLATED_b1)
  have F_code_aINVARIANT_VIOLATED_32 : Fld Z h31 aINVARIANT_VIOLATED "com/example/tenet/tenet/runtime/Status" "code" "I" (.int (422 : Int32)) := (F_code_aINVARIANT_VIOLATED_26).other W31 (Or.inl ne_aINVARIANT_VIOLATED_b1)
  have F_ordinal_aFORBIDDEN_32 : Fld Z h31 aFORBIDDEN "java/lang/Enum" "ordinal" "I" (.int (4 : Int32)) := (F_ordinal_aFORBIDDEN_26).other W31 (Or.inl ne_aFORBIDDEN_b1)
  have F_code_aFORBIDDEN_32 : Fld Z h31 aFORBIDDEN "com/example/tenet/tenet/runtime/Status" "code" "I" (.int (403 : Int32)) := (F_code_aFORBIDDEN_26).other W31 (Or.inl ne_aFORBIDDEN_b1)
  have F_code_aINTERNAL_ERROR_32 : Fld Z h31 aINTERNAL_ERROR "com/example/tenet/tenet/runtime/Status" "code" "I" (.int (500 : Int32)) := (F_code_aINTERNAL_ERROR_26).other W31 (Or.inl ne_aINTERNAL_ERROR_b1)
  have F_ordinal_aCONFLICT_32 : Fld Z h31 aCONFLICT "java/lang/Enum" "ordinal" "I" (.int (6 : Int32)) := (F_ordinal_aCONFLICT_26).other W31 (Or.inl ne_aCONFLICT_b1)
  have F_code_aCONFLICT_32 : Fld Z h31 aCONFLICT "com/example/tenet/tenet/runtime/Status" "code" "I" (.int (409 : Int32)) := (F_code_aCONFLICT_26).other W31 (Or.inl ne_aCONFLICT_b1)
  have F_ordinal_aNOT_FOUND_32 : Fld Z h31 aNOT_FOUND "java/lang/Enum" "ordinal" "I" (.int (5 : Int32)) := (F_ordinal_aNOT_FOUND_26).other W31 (Or.inl ne_aNOT_FOUND_b1)
  have F_code_aNOT_FOUND_32 : Fld Z h31 aNOT_FOUND "com/example/tenet/tenet/runtime/Status" "code" "I" (.int (404 : Int32)) := (F_code_aNOT_FOUND_26).other W31 (Or.inl ne_aNOT_FOUND_b1)
  have O_b1_32 : own_O Z h31 b1 "com/example/tenet/tenet/runtime/Status" := (O_b1_26).wr W31
  have SZ33 : h0.size ≤ h31.size := by rw [W31.size]; exact SZ27
  have ZZ33 : n0 ≤ h31.size := Nat.le_trans Z0 SZ33
  have K34 : Keep h0 h31 [] := (K28).wr W31 (Or.inr sz_b1)
  obtain ⟨T35, X35, e35, st35⟩ := getS2 X31 hx hZ hown (host := "") (Or.inl (hw _ (List.mem_of_getElem? (i := 14) rfl))) Via.refl e31 S_NOT_FOUND_32 (g := (mkF m 37 #[.val (.int p0), .unset, .unset, .unset, .unset, .unset, .unset, .unset] [(.int (5 : Int32)), (.ref b1), (.ref b1)])) rfl (hb hby at_37)
  have qa36 := A_b1_w31
  obtain ⟨c36, Ar36, Sz36, H36⟩ := qa36
  have hi37 : 0 ≤ ((5 : Int32) : Int32).toInt ∧ ((5 : Int32) : Int32).toInt < (9 : Nat) := (by decide)
  obtain ⟨T37, h37, X37, e37, W37, st37⟩ := stR X35 hx hZ e35 Ar36 (j := (5 : Int32)) (own_in Sz36 hi37) rfl (own_sto Ar36 O_b1_32 (Ins.self E_aNOT_FOUND_32)) (g := (mkF m 40 #[.val (.int p0), .unset, .unset, .unset, .unset, .unset, .unset, .unset] [(.ref aNOT_FOUND), (.int (5 : Int32)), (.ref b1), (.ref b1)])) rfl rfl (hb hby at_40)
  have N37 := Fr.snoc X37 N31 g_b1
  have A_b1_w37 : own_A Z h37 b1 (.object "com/example/tenet/tenet/runtime/Status") 9 (fun i => if i = ((5 : Int32) : Int32).toNatClampNeg then (.ref aNOT_FOUND) else ((fun i => if i = ((4 : Int32) : Int32).toNatClampNeg then (.ref aFORBIDDEN) else ((fun i => if i = ((3 : Int32) : Int32).toNatClampNeg then (.ref aUNAUTHORIZED) else ((fun i => if i = ((2 : Int32) : Int32).toNatClampNeg then (.ref aBAD_REQUEST) else ((fun i => if i = ((1 : Int32) : Int32).toNatClampNeg then (.ref aNO_CONTENT) else ((fun i => if i = ((0 : Int32) : Int32).toNatClampNeg then (.ref aOK) else ((fun _ => .null)) i)) i)) i)) i)) i)) i) := (A_b1_w31).set W37
  have S_OK_38 : Sta Z h37 "com/example/tenet/tenet/runtime/Status" "OK" "Lcom/example/tenet/tenet/runtime/Status;" (.ref aOK) := (S_OK_32).wr W37
  have E_aOK_38 : Exa Z h37 aOK "com/example/tenet/tenet/runtime/Status" := (E_aOK_32).wr W37
  have S_NO_CONTENT_38 : Sta Z h37 "com/example/tenet/tenet/runtime/Status" "NO_CONTENT" "Lcom/example/tenet/tenet/runtime/Status;" (.ref aNO_CONTENT) := (S_NO_CONTENT_32).wr W37
  have E_aNO_CONTENT_38 : Exa Z h37 aNO_CONTENT "com/example/tenet/tenet/runtime/Status" := (E_aNO_CONTENT_32).wr W37
  have S_BAD_REQUEST_38 : Sta Z h37 "com/example/tenet/tenet/runtime/Status" "BAD_REQUEST" "Lcom/example/tenet/tenet/runtime/Status;" (.ref aBAD_REQUEST) := (S_BAD_REQUEST_32).wr W37
  have E_aBAD_REQUEST_38 : Exa Z h37 aBAD_REQUEST "com/example/tenet/tenet/runtime/Status" := (E_aBAD_REQUEST_32).wr W37
  have S_UNAUTHORIZED_38 : Sta Z h37 "com/example/tenet/tenet/runtime/Status" "UNAUTHORIZED" "Lcom/example/tenet/tenet/runtime/Status;" (.ref aUNAUTHORIZED) := (S_UNAUTHORIZED_32).wr W37
  have E_aUNAUTHORIZED_38 : Exa Z h37 aUNAUTHORIZED "com/example/tenet/tenet/runtime/Status" := (E_aUNAUTHORIZED_32).wr W37
  have S_FORBIDDEN_38 : Sta Z h37 "com/example/tenet/tenet/runtime/Status" "FORBIDDEN" "Lcom/example/tenet/tenet/runtime/Status;" (.ref aFORBIDDEN) := (S_FORBIDDEN_32).wr W37
  have E_aFORBIDDEN_38 : Exa Z h37 aFORBIDDEN "com/example/tenet/tenet/runtime/Status" := (E_aFORBIDDEN_32).wr W37
  have S_NOT_FOUND_38 : Sta Z h37 "com/example/tenet/tenet/runtime/Status" "NOT_FOUND" "Lcom/example/tenet/tenet/runtime/Status;" (.ref aNOT_FOUND) := (S_NOT_FOUND_32).wr W37
  have E_aNOT_FOUND_38 : Exa Z h37 aNOT_FOUND "com/example/tenet/tenet/runtime/Status" := (E_aNOT_FOUND_32).wr W37
  have S_CONFLICT_38 : Sta Z h37 "com/example/tenet/tenet/runtime/Status" "CONFLICT" "Lcom/example/tenet/tenet/runtime/Status;" (.ref aCONFLICT) := (S_CONFLICT_32).wr W37
  have E_aCONFLICT_38 : Exa Z h37 aCONFLICT "com/example/tenet/tenet/runtime/Status" := (E_aCONFLICT_32).wr W37
  have S_INVARIANT_VIOLATED_38 : Sta Z h37 "com/example/tenet/tenet/runtime/Status" "INVARIANT_VIOLATED" "Lcom/example/tenet/tenet/runtime/Status;" (.ref aINVARIANT_VIOLATED) := (S_INVARIANT_VIOLATED_32).wr W37
  have E_aINVARIANT_VIOLATED_38 : Exa Z h37 aINVARIANT_VIOLATED "com/example/tenet/tenet/runtime/Status" := (E_aINVARIANT_VIOLATED_32).wr W37
  have S_INTERNAL_ERROR_38 : Sta Z h37 "com/example/tenet/tenet/runtime/Status" "INTERNAL_ERROR" "Lcom/example/tenet/tenet/runtime/Status;" (.ref aINTERNAL_ERROR) := (S_INTERNAL_ERROR_32).wr W37
  have E_aINTERNAL_ERROR_38 : Exa Z h37 aINTERNAL_ERROR "com/example/tenet/tenet/runtime/Status" := (E_aINTERNAL_ERROR_32).wr W37
  have F_ordinal_aOK_38 : Fld Z h37 aOK "java/lang/Enum" "ordinal" "I" (.int (0 : Int32)) := (F_ordinal_aOK_32).other W37 (Or.inl ne_aOK_b1)
  have F_ordinal_aINTERNAL_ERROR_38 : Fld Z h37 aINTERNAL_ERROR "java/lang/Enum" "ordinal" "I" (.int (8 : Int32)) := (F_ordinal_aINTERNAL_ERROR_32).other W37 (Or.inl ne_aINTERNAL_ERROR_b1)
  have F_code_aOK_38 : Fld Z h37 aOK "com/example/tenet/tenet/runtime/Status" "code" "I" (.int (200 : Int32)) := (F_code_aOK_32).other W37 (Or.inl ne_aOK_b1)
  have F_ordinal_aUNAUTHORIZED_38 : Fld Z h37 aUNAUTHORIZED "java/lang/Enum" "ordinal" "I" (.int (3 : Int32)) := (F_ordinal_aUNAUTHORIZED_32).other W37 (Or.inl ne_aUNAUTHORIZED_b1)
  have F_code_aUNAUTHORIZED_38 : Fld Z h37 aUNAUTHORIZED "com/example/tenet/tenet/runtime/Status" "code" "I" (.int (401 : Int32)) := (F_code_aUNAUTHORIZED_32).other W37 (Or.inl ne_aUNAUTHORIZED_b1)
  have F_ordinal_aBAD_REQUEST_38 : Fld Z h37 aBAD_REQUEST "java/lang/Enum" "ordinal" "I" (.int (2 : Int32)) := (F_ordinal_aBAD_REQUEST_32).other W37 (Or.inl ne_aBAD_REQUEST_b1)
  have F_code_aBAD_REQUEST_38 : Fld Z h37 aBAD_REQUEST "com/example/tenet/tenet/runtime/Status" "code" "I" (.int (400 : Int32)) := (F_code_aBAD_REQUEST_32).other W37 (Or.inl ne_aBAD_REQUEST_b1)
  have F_ordinal_aNO_CONTENT_38 : Fld Z h37 aNO_CONTENT "java/lang/Enum" "ordinal" "I" (.int (1 : Int32)) := (F_ordinal_aNO_CONTENT_32).other W37 (Or.inl ne_aNO_CONTENT_b1)
  have F_code_aNO_CONTENT_38 : Fld Z h37 aNO_CONTENT "com/example/tenet/tenet/runtime/Status" "code" "I" (.int (204 : Int32)) := (F_code_aNO_CONTENT_32).other W37 (Or.inl ne_aNO_CONTENT_b1)
  have F_ordinal_aINVARIANT_VIOLATED_38 : Fld Z h37 aINVARIANT_VIOLATED "java/lang/Enum" "ordinal" "I" (.int (7 : Int32)) := (F_ordinal_aINVARIANT_VIOLATED_32).other W37 (Or.inl ne_aINVARIANT_VIOLATED_b1)
  have F_code_aINVARIANT_VIOLATED_38 : Fld Z h37 aINVARIANT_VIOLATED "com/example/tenet/tenet/runtime/Status" "code" "I" (.int (422 : Int32)) := (F_code_aINVARIANT_VIOLATED_32).other W37 (Or.inl ne_aINVARIANT_VIOLATED_b1)
  have F_ordinal_aFORBIDDEN_38 : Fld Z h37 aFORBIDDEN "java/lang/Enum" "ordinal" "I" (.int (4 : Int32)) := (F_ordinal_aFORBIDDEN_32).other W37 (Or.inl ne_aFORBIDDEN_b1)
  have F_code_aFORBIDDEN_38 : Fld Z h37 aFORBIDDEN "com/example/tenet/tenet/runtime/Status" "code" "I" (.int (403 : Int32)) := (F_code_aFORBIDDEN_32).other W37 (Or.inl ne_aFORBIDDEN_b1)
  have F_code_aINTERNAL_ERROR_38 : Fld Z h37 aINTERNAL_ERROR "com/example/tenet/tenet/runtime/Status" "code" "I" (.int (500 : Int32)) := (F_code_aINTERNAL_ERROR_32).other W37 (Or.inl ne_aINTERNAL_ERROR_b1)
  have F_ordinal_aCONFLICT_38 : Fld Z h37 aCONFLICT "java/lang/Enum" "ordinal" "I" (.int (6 : Int32)) := (F_ordinal_aCONFLICT_32).other W37 (Or.inl ne_aCONFLICT_b1)
  have F_code_aCONFLICT_38 : Fld Z h37 aCONFLICT "com/example/tenet/tenet/runtime/Status" "code" "I" (.int (409 : Int32)) := (F_code_aCONFLICT_32).other W37 (Or.inl ne_aCONFLICT_b1)
  have F_ordinal_aNOT_FOUND_38 : Fld Z h37 aNOT_FOUND "java/lang/Enum" "ordinal" "I" (.int (5 : Int32)) := (F_ordinal_aNOT_FOUND_32).other W37 (Or.inl ne_aNOT_FOUND_b1)
  have F_code_aNOT_FOUND_38 : Fld Z h37 aNOT_FOUND "com/example/tenet/tenet/runtime/Status" "code" "I" (.int (404 : Int32)) := (F_code_aNOT_FOUND_32).other W37 (Or.inl ne_aNOT_FOUND_b1)
  have O_b1_38 : own_O Z h37 b1 "com/example/tenet/tenet/runtime/Status" := (O_b1_32).wr W37
  have SZ39 : h0.size ≤ h37.size := by rw [W37.size]; exact SZ33
  have ZZ39 : n0 ≤ h37.size := Nat.le_trans Z0 SZ39
  have K40 : Keep h0 h37 [] := (K34).wr W37 (Or.inr sz_b1)
  obtain ⟨T41, X41, e41, st41⟩ := getS2 X37 hx hZ hown (host := "") (Or.inl (hw _ (List.mem_of_getElem? (i := 16) rfl))) Via.refl e37 S_CONFLICT_38 (g := (mkF m 44 #[.val (.int p0), .unset, .unset, .unset, .unset, .unset, .unset, .unset] [(.int (6 : Int32)), (.ref b1), (.ref b1)])) rfl (hb hby at_44)
  have qa42 := A_b1_w37
  obtain ⟨c42, Ar42, Sz42, H42⟩ := qa42
  have hi43 : 0 ≤ ((6 : Int32) : Int32).toInt ∧ ((6 : Int32) : Int32).toInt < (9 : Nat) := (by decide)
  obtain ⟨T43, h43, X43, e43, W43, st43⟩ := stR X41 hx hZ e41 Ar42 (j := (6 : Int32)) (own_in Sz42 hi43) rfl (own_sto Ar42 O_b1_38 (Ins.self E_aCONFLICT_38)) (g := (mkF m 47 #[.val (.int p0), .unset, .unset, .unset, .unset, .unset, .unset, .unset] [(.ref aCONFLICT), (.int (6 : Int32)), (.ref b1), (.ref b1)])) rfl rfl (hb hby at_47)
  have N43 := Fr.snoc X43 N37 g_b1
  have A_b1_w43 : own_A Z h43 b1 (.object "com/example/tenet/tenet/runtime/Status") 9 (fun i => if i = ((6 : Int32) : Int32).toNatClampNeg then (.ref aCONFLICT) else ((fun i => if i = ((5 : Int32) : Int32).toNatClampNeg then (.ref aNOT_FOUND) else ((fun i => if i = ((4 : Int32) : Int32).toNatClampNeg then (.ref aFORBIDDEN) else ((fun i => if i = ((3 : Int32) : Int32).toNatClampNeg then (.ref aUNAUTHORIZED) else ((fun i => if i = ((2 : Int32) : Int32).toNatClampNeg then (.ref aBAD_REQUEST) else ((fun i => if i = ((1 : Int32) : Int32).toNatClampNeg then (.ref aNO_CONTENT) else ((fun i => if i = ((0 : Int32) : Int32).toNatClampNeg then (.ref aOK) else ((fun _ => .null)) i)) i)) i)) i)) i)) i)) i) := (A_b1_w37).set W43
  have S_OK_44 : Sta Z h43 "com/example/tenet/tenet/runtime/Status" "OK" "Lcom/example/tenet/tenet/runtime/Status;" (.ref aOK) := (S_OK_38).wr W43
  have E_aOK_44 : Exa Z h43 aOK "com/example/tenet/tenet/runtime/Status" := (E_aOK_38).wr W43
  have S_NO_CONTENT_44 : Sta Z h43 "com/example/tenet/tenet/runtime/Status" "NO_CONTENT" "Lcom/example/tenet/tenet/runtime/Status;" (.ref aNO_CONTENT) := (S_NO_CONTENT_38).wr W43
  have E_aNO_CONTENT_44 : Exa Z h43 aNO_CONTENT "com/example/tenet/tenet/runtime/Status" := (E_aNO_CONTENT_38).wr W43
  have S_BAD_REQUEST_44 : Sta Z h43 "com/example/tenet/tenet/runtime/Status" "BAD_REQUEST" "Lcom/example/tenet/tenet/runtime/Status;" (.ref aBAD_REQUEST) := (S_BAD_REQUEST_38).wr W43
  have E_aBAD_REQUEST_44 : Exa Z h43 aBAD_REQUEST "com/example/tenet/tenet/runtime/Status" := (E_aBAD_REQUEST_38).wr W43
  have S_UNAUTHORIZED_44 : Sta Z h43 "com/example/tenet/tenet/runtime/Status" "UNAUTHORIZED" "Lcom/example/tenet/tenet/runtime/Status;" (.ref aUNAUTHORIZED) := (S_UNAUTHORIZED_38).wr W43
  have E_aUNAUTHORIZED_44 : Exa Z h43 aUNAUTHORIZED "com/example/tenet/tenet/runtime/Status" := (E_aUNAUTHORIZED_38).wr W43
  have S_FORBIDDEN_44 : Sta Z h43 "com/example/tenet/tenet/runtime/Status" "FORBIDDEN" "Lcom/example/tenet/tenet/runtime/Status;" (.ref aFORBIDDEN) := (S_FORBIDDEN_38).wr W43
  have E_aFORBIDDEN_44 : Exa Z h43 aFORBIDDEN "com/example/tenet/tenet/runtime/Status" := (E_aFORBIDDEN_38).wr W43
  have S_NOT_FOUND_44 : Sta Z h43 "com/example/tenet/tenet/runtime/Status" "NOT_FOUND" "Lcom/example/tenet/tenet/runtime/Status;" (.ref aNOT_FOUND) := (S_NOT_FOUND_38).wr W43
  have E_aNOT_FOUND_44 : Exa Z h43 aNOT_FOUND "com/example/tenet/tenet/runtime/Status" := (E_aNOT_FOUND_38).wr W43
  have S_CONFLICT_44 : Sta Z h43 "com/example/tenet/tenet/runtime/Status" "CONFLICT" "Lcom/example/tenet/tenet/runtime/Status;" (.ref aCONFLICT) := (S_CONFLICT_38).wr W43
  have E_aCONFLICT_44 : Exa Z h43 aCONFLICT "com/example/tenet/tenet/runtime/Status" := (E_aCONFLICT_38).wr W43
  have S_INVARIANT_VIOLATED_44 : Sta Z h43 "com/example/tenet/tenet/runtime/Status" "INVARIANT_VIOLATED" "Lcom/example/tenet/tenet/runtime/Status;" (.ref aINVARIANT_VIOLATED) := (S_INVARIANT_VIOLATED_38).wr W43
  have E_aINVARIANT_VIOLATED_44 : Exa Z h43 aINVARIANT_VIOLATED "com/example/tenet/tenet/runtime/Status" := (E_aINVARIANT_VIOLATED_38).wr W43
  have S_INTERNAL_ERROR_44 : Sta Z h43 "com/example/tenet/tenet/runtime/Status" "INTERNAL_ERROR" "Lcom/example/tenet/tenet/runtime/Status;" (.ref aINTERNAL_ERROR) := (S_INTERNAL_ERROR_38).wr W43
  have E_aINTERNAL_ERROR_44 : Exa Z h43 aINTERNAL_ERROR "com/example/tenet/tenet/runtime/Status" := (E_aINTERNAL_ERROR_38).wr W43
  have F_ordinal_aOK_44 : Fld Z h43 aOK "java/lang/Enum" "ordinal" "I" (.int (0 : Int32)) := (F_ordinal_aOK_38).other W43 (Or.inl ne_aOK_b1)
  have F_ordinal_aINTERNAL_ERROR_44 : Fld Z h43 aINTERNAL_ERROR "java/lang/Enum" "ordinal" "I" (.int (8 : Int32)) := (F_ordinal_aINTERNAL_ERROR_38).other W43 (Or.inl ne_aINTERNAL_ERROR_b1)
  have F_code_aOK_44 : Fld Z h43 aOK "com/example/tenet/tenet/runtime/Status" "code" "I" (.int (200 : Int32)) := (F_code_aOK_38).other W43 (Or.inl ne_aOK_b1)
  have F_ordinal_aUNAUTHORIZED_44 : Fld Z h43 aUNAUTHORIZED "java/lang/Enum" "ordinal" "I" (.int (3 : Int32)) := (F_ordinal_aUNAUTHORIZED_38).other W43 (Or.inl ne_aUNAUTHORIZED_b1)
  have F_code_aUNAUTHORIZED_44 : Fld Z h43 aUNAUTHORIZED "com/example/tenet/tenet/runtime/Status" "code" "I" (.int (401 : Int32)) := (F_code_aUNAUTHORIZED_38).other W43 (Or.inl ne_aUNAUTHORIZED_b1)
  have F_ordinal_aBAD_REQUEST_44 : Fld Z h43 aBAD_REQUEST "java/lang/Enum" "ordinal" "I" (.int (2 : Int32)) := (F_ordinal_aBAD_REQUEST_38).other W43 (Or.inl ne_aBAD_REQUEST_b1)
  have F_code_aBAD_REQUEST_44 : Fld Z h43 aBAD_REQUEST "com/example/tenet/tenet/runtime/Status" "code" "I" (.int (400 : Int32)) := (F_code_aBAD_REQUEST_38).other W43 (Or.inl ne_aBAD_REQUEST_b1)
  have F_ordinal_aNO_CONTENT_44 : Fld Z h43 aNO_CONTENT "java/lang/Enum" "ordinal" "I" (.int (1 : Int32)) := (F_ordinal_aNO_CONTENT_38).other W43 (Or.inl ne_aNO_CONTENT_b1)
  have F_code_aNO_CONTENT_44 : Fld Z h43 aNO_CONTENT "com/example/tenet/tenet/runtime/Status" "code" "I" (.int (204 : Int32)) := (F_code_aNO_CONTENT_38).other W43 (Or.inl ne_aNO_CONTENT_b1)
  have F_ordinal_aINVARIANT_VIOLATED_44 : Fld Z h43 aINVARIANT_VIOLATED "java/lang/Enum" "ordinal" "I" (.int (7 : Int32)) := (F_ordinal_aINVARIANT_VIOLATED_38).other W43 (Or.inl ne_aINVARIANT_VIOLATED_b1)
  have F_code_aINVARIANT_VIOLATED_44 : Fld Z h43 aINVARIANT_VIOLATED "com/example/tenet/tenet/runtime/Status" "code" "I" (.int (422 : Int32)) := (F_code_aINVARIANT_VIOLATED_38).other W43 (Or.inl ne_aINVARIANT_VIOLATED_b1)
  have F_ordinal_aFORBIDDEN_44 : Fld Z h43 aFORBIDDEN "java/lang/Enum" "ordinal" "I" (.int (4 : Int32)) := (F_ordinal_aFORBIDDEN_38).other W43 (Or.inl ne_aFORBIDDEN_b1)
  have F_code_aFORBIDDEN_44 : Fld Z h43 aFORBIDDEN "com/example/tenet/tenet/runtime/Status" "code" "I" (.int (403 : Int32)) := (F_code_aFORBIDDEN_38).other W43 (Or.inl ne_aFORBIDDEN_b1)
  have F_code_aINTERNAL_ERROR_44 : Fld Z h43 aINTERNAL_ERROR "com/example/tenet/tenet/runtime/Status" "code" "I" (.int (500 : Int32)) := (F_code_aINTERNAL_ERROR_38).other W43 (Or.inl ne_aINTERNAL_ERROR_b1)
  have F_ordinal_aCONFLICT_44 : Fld Z h43 aCONFLICT "java/lang/Enum" "ordinal" "I" (.int (6 : Int32)) := (F_ordinal_aCONFLICT_38).other W43 (Or.inl ne_aCONFLICT_b1)
  have F_code_aCONFLICT_44 : Fld Z h43 aCONFLICT "com/example/tenet/tenet/runtime/Status" "code" "I" (.int (409 : Int32)) := (F_code_aCONFLICT_38).other W43 (Or.inl ne_aCONFLICT_b1)
  have F_ordinal_aNOT_FOUND_44 : Fld Z h43 aNOT_FOUND "java/lang/Enum" "ordinal" "I" (.int (5 : Int32)) := (F_ordinal_aNOT_FOUND_38).other W43 (Or.inl ne_aNOT_FOUND_b1)
  have F_code_aNOT_FOUND_44 : Fld Z h43 aNOT_FOUND "com/example/tenet/tenet/runtime/Status" "code" "I" (.int (404 : Int32)) := (F_code_aNOT_FOUND_38).other W43 (Or.inl ne_aNOT_FOUND_b1)
  have O_b1_44 : own_O Z h43 b1 "com/example/tenet/tenet/runtime/Status" := (O_b1_38).wr W43
  have SZ45 : h0.size ≤ h43.size := by rw [W43.size]; exact SZ39
  have ZZ45 : n0 ≤ h43.size := Nat.le_trans Z0 SZ45
  have K46 : Keep h0 h43 [] := (K40).wr W43 (Or.inr sz_b1)
  obtain ⟨T47, X47, e47, st47⟩ := getS2 X43 hx hZ hown (host := "") (Or.inl (hw _ (List.mem_of_getElem? (i := 18) rfl))) Via.refl e43 S_INVARIANT_VIOLATED_44 (g := (mkF m 51 #[.val (.int p0), .unset, .unset, .unset, .unset, .unset, .unset, .unset] [(.int (7 : Int32)), (.ref b1), (.ref b1)])) rfl (hb hby at_51)
  have qa48 := A_b1_w43
  obtain ⟨c48, Ar48, Sz48, H48⟩ := qa48
  have hi49 : 0 ≤ ((7 : Int32) : Int32).toInt ∧ ((7 : Int32) : Int32).toInt < (9 : Nat) := (by decide)
  obtain ⟨T49, h49, X49, e49, W49, st49⟩ := stR X47 hx hZ e47 Ar48 (j := (7 : Int32)) (own_in Sz48 hi49) rfl (own_sto Ar48 O_b1_44 (Ins.self E_aINVARIANT_VIOLATED_44)) (g := (mkF m 54 #[.val (.int p0), .unset, .unset, .unset, .unset, .unset, .unset, .unset] [(.ref aINVARIANT_VIOLATED), (.int (7 : Int32)), (.ref b1), (.ref b1)])) rfl rfl (hb hby at_54)
  have N49 := Fr.snoc X49 N43 g_b1
  have A_b1_w49 : own_A Z h49 b1 (.object "com/example/tenet/tenet/runtime/Status") 9 (fun i => if i = ((7 : Int32) : Int32).toNatClampNeg then (.ref aINVARIANT_VIOLATED) else ((fun i => if i = ((6 : Int32) : Int32).toNatClampNeg then (.ref aCONFLICT) else ((fun i => if i = ((5 : Int32) : Int32).toNatClampNeg then (.ref aNOT_FOUND) else ((fun i => if i = ((4 : Int32) : Int32).toNatClampNeg then (.ref aFORBIDDEN) else ((fun i => if i = ((3 : Int32) : Int32).toNatClampNeg then (.ref aUNAUTHORIZED) else ((fun i => if i = ((2 : Int32) : Int32).toNatClampNeg then (.ref aBAD_REQUEST) else ((fun i => if i = ((1 : Int32) : Int32).toNatClampNeg then (.ref aNO_CONTENT) else ((fun i => if i = ((0 : Int32) : Int32).toNatClampNeg then (.ref aOK) else ((fun _ => .null)) i)) i)) i)) i)) i)) i)) i)) i) := (A_b1_w43).set W49
  have S_OK_50 : Sta Z h49 "com/example/tenet/tenet/runtime/Status" "OK" "Lcom/example/tenet/tenet/runtime/Status;" (.ref aOK) := (S_OK_44).wr W49
  have E_aOK_50 : Exa Z h49 aOK "com/example/tenet/tenet/runtime/Status" := (E_aOK_44).wr W49
  have S_NO_CONTENT_50 : Sta Z h49 "com/example/tenet/tenet/runtime/Status" "NO_CONTENT" "Lcom/example/tenet/tenet/runtime/Status;" (.ref aNO_CONTENT) := (S_NO_CONTENT_44).wr W49
  have E_aNO_CONTENT_50 : Exa Z h49 aNO_CONTENT "com/example/tenet/tenet/runtime/Status" := (E_aNO_CONTENT_44).wr W49
  have S_BAD_REQUEST_50 : Sta Z h49 "com/example/tenet/tenet/runtime/Status" "BAD_REQUEST" "Lcom/example/tenet/tenet/runtime/Status;" (.ref aBAD_REQUEST) := (S_BAD_REQUEST_44).wr W49
  have E_aBAD_REQUEST_50 : Exa Z h49 aBAD_REQUEST "com/example/tenet/tenet/runtime/Status" := (E_aBAD_REQUEST_44).wr W49
  have S_UNAUTHORIZED_50 : Sta Z h49 "com/example/tenet/tenet/runtime/Status" "UNAUTHORIZED" "Lcom/example/tenet/tenet/runtime/Status;" (.ref aUNAUTHORIZED) := (S_UNAUTHORIZED_44).wr W49
  have E_aUNAUTHORIZED_50 : Exa Z h49 aUNAUTHORIZED "com/example/tenet/tenet/runtime/Status" := (E_aUNAUTHORIZED_44).wr W49
  have S_FORBIDDEN_50 : Sta Z h49 "com/example/tenet/tenet/runtime/Status" "FORBIDDEN" "Lcom/example/tenet/tenet/runtime/Status;" (.ref aFORBIDDEN) := (S_FORBIDDEN_44).wr W49
  have E_aFORBIDDEN_50 : Exa Z h49 aFORBIDDEN "com/example/tenet/tenet/runtime/Status" := (E_aFORBIDDEN_44).wr W49
  have S_NOT_FOUND_50 : Sta Z h49 "com/example/tenet/tenet/runtime/Status" "NOT_FOUND" "Lcom/example/tenet/tenet/runtime/Status;" (.ref aNOT_FOUND) := (S_NOT_FOUND_44).wr W49
  have E_aNOT_FOUND_50 : Exa Z h49 aNOT_FOUND "com/example/tenet/tenet/runtime/Status" := (E_aNOT_FOUND_44).wr W49
  have S_CONFLICT_50 : Sta Z h49 "com/example/tenet/tenet/runtime/Status" "CONFLICT" "Lcom/example/tenet/tenet/runtime/Status;" (.ref aCONFLICT) := (S_CONFLICT_44).wr W49
  have E_aCONFLICT_50 : Exa Z h49 aCONFLICT "com/example/tenet/tenet/runtime/Status" := (E_aCONFLICT_44).wr W49
  have S_INVARIANT_VIOLATED_50 : Sta Z h49 "com/example/tenet/tenet/runtime/Status" "INVARIANT_VIOLATED" "Lcom/example/tenet/tenet/runtime/Status;" (.ref aINVARIANT_VIOLATED) := (S_INVARIANT_VIOLATED_44).wr W49
  have E_aINVARIANT_VIOLATED_50 : Exa Z h49 aINVARIANT_VIOLATED "com/example/tenet/tenet/runtime/Status" := (E_aINVARIANT_VIOLATED_44).wr W49
  have S_INTERNAL_ERROR_50 : Sta Z h49 "com/example/tenet/tenet/runtime/Status" "INTERNAL_ERROR" "Lcom/example/tenet/tenet/runtime/Status;" (.ref aINTERNAL_ERROR) := (S_INTERNAL_ERROR_44).wr W49
  have E_aINTERNAL_ERROR_50 : Exa Z h49 aINTERNAL_ERROR "com/example/tenet/tenet/runtime/Status" := (E_aINTERNAL_ERROR_44).wr W49
  have F_ordinal_aOK_50 : Fld Z h49 aOK "java/lang/Enum" "ordinal" "I" (.int (0 : Int32)) := (F_ordinal_aOK_44).other W49 (Or.inl ne_aOK_b1)
  have F_ordinal_aINTERNAL_ERROR_50 : Fld Z h49 aINTERNAL_ERROR "java/lang/Enum" "ordinal" "I" (.int (8 : Int32)) := (F_ordinal_aINTERNAL_ERROR_44).other W49 (Or.inl ne_aINTERNAL_ERROR_b1)
  have F_code_aOK_50 : Fld Z h49 aOK "com/example/tenet/tenet/runtime/Status" "code" "I" (.int (200 : Int32)) := (F_code_aOK_44).other W49 (Or.inl ne_aOK_b1)
  have F_ordinal_aUNAUTHORIZED_50 : Fld Z h49 aUNAUTHORIZED "java/lang/Enum" "ordinal" "I" (.int (3 : Int32)) := (F_ordinal_aUNAUTHORIZED_44).other W49 (Or.inl ne_aUNAUTHORIZED_b1)
  have F_code_aUNAUTHORIZED_50 : Fld Z h49 aUNAUTHORIZED "com/example/tenet/tenet/runtime/Status" "code" "I" (.int (401 : Int32)) := (F_code_aUNAUTHORIZED_44).other W49 (Or.inl ne_aUNAUTHORIZED_b1)
  have F_ordinal_aBAD_REQUEST_50 : Fld Z h49 aBAD_REQUEST "java/lang/Enum" "ordinal" "I" (.int (2 : Int32)) := (F_ordinal_aBAD_REQUEST_44).other W49 (Or.inl ne_aBAD_REQUEST_b1)
  have F_code_aBAD_REQUEST_50 : Fld Z h49 aBAD_REQUEST "com/example/tenet/tenet/runtime/Status" "code" "I" (.int (400 : Int32)) := (F_code_aBAD_REQUEST_44).other W49 (Or.inl ne_aBAD_REQUEST_b1)
  have F_ordinal_aNO_CONTENT_50 : Fld Z h49 aNO_CONTENT "java/lang/Enum" "ordinal" "I" (.int (1 : Int32)) := (F_ordinal_aNO_CONTENT_44).other W49 (Or.inl ne_aNO_CONTENT_b1)
  have F_code_aNO_CONTENT_50 : Fld Z h49 aNO_CONTENT "com/example/tenet/tenet/runtime/Status" "code" "I" (.int (204 : Int32)) := (F_code_aNO_CONTENT_44).other W49 (Or.inl ne_aNO_CONTENT_b1)
  have F_ordinal_aINVARIANT_VIOLATED_50 : Fld Z h49 aINVARIANT_VIOLATED "java/lang/Enum" "ordinal" "I" (.int (7 : Int32)) := (F_ordinal_aINVARIANT_VIOLATED_44).other W49 (Or.inl ne_aINVARIANT_VIOLATED_b1)
  have F_code_aINVARIANT_VIOLATED_50 : Fld Z h49 aINVARIANT_VIOLATED "com/example/tenet/tenet/runtime/Status" "code" "I" (.int (422 : Int32)) := (F_code_aINVARIANT_VIOLATED_44).other W49 (Or.inl ne_aINVARIANT_VIOLATED_b1)
  have F_ordinal_aFORBIDDEN_50 : Fld Z h49 aFORBIDDEN "java/lang/Enum" "ordinal" "I" (.int (4 : Int32)) := (F_ordinal_aFORBIDDEN_44).other W49 (Or.inl ne_aFORBIDDEN_b1)
  have F_code_aFORBIDDEN_50 : Fld Z h49 aFORBIDDEN "com/example/tenet/tenet/runtime/Status" "code" "I" (.int (403 : Int32)) := (F_code_aFORBIDDEN_44).other W49 (Or.inl ne_aFORBIDDEN_b1)
  have F_code_aINTERNAL_ERROR_50 : Fld Z h49 aINTERNAL_ERROR "com/example/tenet/tenet/runtime/Status" "code" "I" (.int (500 : Int32)) := (F_code_aINTERNAL_ERROR_44).other W49 (Or.inl ne_aINTERNAL_ERROR_b1)
  have F_ordinal_aCONFLICT_50 : Fld Z h49 aCONFLICT "java/lang/Enum" "ordinal" "I" (.int (6 : Int32)) := (F_ordinal_aCONFLICT_44).other W49 (Or.inl ne_aCONFLICT_b1)
  have F_code_aCONFLICT_50 : Fld Z h49 aCONFLICT "com/example/tenet/tenet/runtime/Status" "code" "I" (.int (409 : Int32)) := (F_code_aCONFLICT_44).other W49 (Or.inl ne_aCONFLICT_b1)
  have F_ordinal_aNOT_FOUND_50 : Fld Z h49 aNOT_FOUND "java/lang/Enum" "ordinal" "I" (.int (5 : Int32)) := (F_ordinal_aNOT_FOUND_44).other W49 (Or.inl ne_aNOT_FOUND_b1)
  have F_code_aNOT_FOUND_50 : Fld Z h49 aNOT_FOUND "com/example/tenet/tenet/runtime/Status" "code" "I" (.int (404 : Int32)) := (F_code_aNOT_FOUND_44).other W49 (Or.inl ne_aNOT_FOUND_b1)
  have O_b1_50 : own_O Z h49 b1 "com/example/tenet/tenet/runtime/Status" := (O_b1_44).wr W49
  have SZ51 : h0.size ≤ h49.size := by rw [W49.size]; exact SZ45
  have ZZ51 : n0 ≤ h49.size := Nat.le_trans Z0 SZ51
  have K52 : Keep h0 h49 [] := (K46).wr W49 (Or.inr sz_b1)
  obtain ⟨T53, X53, e53, st53⟩ := getS2 X49 hx hZ hown (host := "") (Or.inl (hw _ (List.mem_of_getElem? (i := 20) rfl))) Via.refl e49 S_INTERNAL_ERROR_50 (g := (mkF m 58 #[.val (.int p0), .unset, .unset, .unset, .unset, .unset, .unset, .unset] [(.int (8 : Int32)), (.ref b1), (.ref b1)])) rfl (hb hby at_58)
  have qa54 := A_b1_w49
  obtain ⟨c54, Ar54, Sz54, H54⟩ := qa54
  have hi55 : 0 ≤ ((8 : Int32) : Int32).toInt ∧ ((8 : Int32) : Int32).toInt < (9 : Nat) := (by decide)
  obtain ⟨T55, h55, X55, e55, W55, st55⟩ := stR X53 hx hZ e53 Ar54 (j := (8 : Int32)) (own_in Sz54 hi55) rfl (own_sto Ar54 O_b1_50 (Ins.self E_aINTERNAL_ERROR_50)) (g := (mkF m 61 #[.val (.int p0), .unset, .unset, .unset, .unset, .unset, .unset, .unset] [(.ref aINTERNAL_ERROR), (.int (8 : Int32)), (.ref b1), (.ref b1)])) rfl rfl (hb hby at_61)
  have N55 := Fr.snoc X55 N49 g_b1
  have A_b1_w55 : own_A Z h55 b1 (.object "com/example/tenet/tenet/runtime/Status") 9 (fun i => if i = ((8 : Int32) : Int32).toNatClampNeg then (.ref aINTERNAL_ERROR) else ((fun i => if i = ((7 : Int32) : Int32).toNatClampNeg then (.ref aINVARIANT_VIOLATED) else ((fun i => if i = ((6 : Int32) : Int32).toNatClampNeg then (.ref aCONFLICT) else ((fun i => if i = ((5 : Int32) : Int32).toNatClampNeg then (.ref aNOT_FOUND) else ((fun i => if i = ((4 : Int32) : Int32).toNatClampNeg then (.ref aFORBIDDEN) else ((fun i => if i = ((3 : Int32) : Int32).toNatClampNeg then (.ref aUNAUTHORIZED) else ((fun i => if i = ((2 : Int32) : Int32).toNatClampNeg then (.ref aBAD_REQUEST) else ((fun i => if i = ((1 : Int32) : Int32).toNatClampNeg then (.ref aNO_CONTENT) else ((fun i => if i = ((0 : Int32) : Int32).toNatClampNeg then (.ref aOK) else ((fun _ => .null)) i)) i)) i)) i)) i)) i)) i)) i)) i) := (A_b1_w49).set W55
  have S_OK_56 : Sta Z h55 "com/example/tenet/tenet/runtime/Status" "OK" "Lcom/example/tenet/tenet/runtime/Status;" (.ref aOK) := (S_OK_50).wr W55
  have E_aOK_56 : Exa Z h55 aOK "com/example/tenet/tenet/runtime/Status" := (E_aOK_50).wr W55
  have S_NO_CONTENT_56 : Sta Z h55 "com/example/tenet/tenet/runtime/Status" "NO_CONTENT" "Lcom/example/tenet/tenet/runtime/Status;" (.ref aNO_CONTENT) := (S_NO_CONTENT_50).wr W55
  have E_aNO_CONTENT_56 : Exa Z h55 aNO_CONTENT "com/example/tenet/tenet/runtime/Status" := (E_aNO_CONTENT_50).wr W55
  have S_BAD_REQUEST_56 : Sta Z h55 "com/example/tenet/tenet/runtime/Status" "BAD_REQUEST" "Lcom/example/tenet/tenet/runtime/Status;" (.ref aBAD_REQUEST) := (S_BAD_REQUEST_50).wr W55
  have E_aBAD_REQUEST_56 : Exa Z h55 aBAD_REQUEST "com/example/tenet/tenet/runtime/Status" := (E_aBAD_REQUEST_50).wr W55
  have S_UNAUTHORIZED_56 : Sta Z h55 "com/example/tenet/tenet/runtime/Status" "UNAUTHORIZED" "Lcom/example/tenet/tenet/runtime/Status;" (.ref aUNAUTHORIZED) := (S_UNAUTHORIZED_50).wr W55
  have E_aUNAUTHORIZED_56 : Exa Z h55 aUNAUTHORIZED "com/example/tenet/tenet/runtime/Status" := (E_aUNAUTHORIZED_50).wr W55
  have S_FORBIDDEN_56 : Sta Z h55 "com/example/tenet/tenet/runtime/Status" "FORBIDDEN" "Lcom/example/tenet/tenet/runtime/Status;" (.ref aFORBIDDEN) := (S_FORBIDDEN_50).wr W55
  have E_aFORBIDDEN_56 : Exa Z h55 aFORBIDDEN "com/example/tenet/tenet/runtime/Status" := (E_aFORBIDDEN_50).wr W55
  have S_NOT_FOUND_56 : Sta Z h55 "com/example/tenet/tenet/runtime/Status" "NOT_FOUND" "Lcom/example/tenet/tenet/runtime/Status;" (.ref aNOT_FOUND) := (S_NOT_FOUND_50).wr W55
  have E_aNOT_FOUND_56 : Exa Z h55 aNOT_FOUND "com/example/tenet/tenet/runtime/Status" := (E_aNOT_FOUND_50).wr W55
  have S_CONFLICT_56 : Sta Z h55 "com/example/tenet/tenet/runtime/Status" "CONFLICT" "Lcom/example/tenet/tenet/runtime/Status;" (.ref aCONFLICT) := (S_CONFLICT_50).wr W55
  have E_aCONFLICT_56 : Exa Z h55 aCONFLICT "com/example/tenet/tenet/runtime/Status" := (E_aCONFLICT_50).wr W55
  have S_INVARIANT_VIOLATED_56 : Sta Z h55 "com/example/tenet/tenet/runtime/Status" "INVARIANT_VIOLATED" "Lcom/example/tenet/tenet/runtime/Status;" (.ref aINVARIANT_VIOLATED) := (S_INVARIANT_VIOLATED_50).wr W55
  have E_aINVARIANT_VIOLATED_56 : Exa Z h55 aINVARIANT_VIOLATED "com/example/tenet/tenet/runtime/Status" := (E_aINVARIANT_VIOLATED_50).wr W55
  have S_INTERNAL_ERROR_56 : Sta Z h55 "com/example/tenet/tenet/runtime/Status" "INTERNAL_ERROR" "Lcom/example/tenet/tenet/runtime/Status;" (.ref aINTERNAL_ERROR) := (S_INTERNAL_ERROR_50).wr W55
  have E_aINTERNAL_ERROR_56 : Exa Z h55 aINTERNAL_ERROR "com/example/tenet/tenet/runtime/Status" := (E_aINTERNAL_ERROR_50).wr W55
  have F_ordinal_aOK_56 : Fld Z h55 aOK "java/lang/Enum" "ordinal" "I" (.int (0 : Int32)) := (F_ordinal_aOK_50).other W55 (Or.inl ne_aOK_b1)
  have F_ordinal_aINTERNAL_ERROR_56 : Fld Z h55 aINTERNAL_ERROR "java/lang/Enum" "ordinal" "I" (.int (8 : Int32)) := (F_ordinal_aINTERNAL_ERROR_50).other W55 (Or.inl ne_aINTERNAL_ERROR_b1)
  have F_code_aOK_56 : Fld Z h55 aOK "com/example/tenet/tenet/runtime/Status" "code" "I" (.int (200 : Int32)) := (F_code_aOK_50).other W55 (Or.inl ne_aOK_b1)
  have F_ordinal_aUNAUTHORIZED_56 : Fld Z h55 aUNAUTHORIZED "java/lang/Enum" "ordinal" "I" (.int (3 : Int32)) := (F_ordinal_aUNAUTHORIZED_50).other W55 (Or.inl ne_aUNAUTHORIZED_b1)
  have F_code_aUNAUTHORIZED_56 : Fld Z h55 aUNAUTHORIZED "com/example/tenet/tenet/runtime/Status" "code" "I" (.int (401 : Int32)) := (F_code_aUNAUTHORIZED_50).other W55 (Or.inl ne_aUNAUTHORIZED_b1)
  have F_ordinal_aBAD_REQUEST_56 : Fld Z h55 aBAD_REQUEST "java/lang/Enum" "ordinal" "I" (.int (2 : Int32)) := (F_ordinal_aBAD_REQUEST_50).other W55 (Or.inl ne_aBAD_REQUEST_b1)
  have F_code_aBAD_REQUEST_56 : Fld Z h55 aBAD_REQUEST "com/example/tenet/tenet/runtime/Status" "code" "I" (.int (400 : Int32)) := (F_code_aBAD_REQUEST_50).other W55 (Or.inl ne_aBAD_REQUEST_b1)
  have F_ordinal_aNO_CONTENT_56 : Fld Z h55 aNO_CONTENT "java/lang/Enum" "ordinal" "I" (.int (1 : Int32)) := (F_ordinal_aNO_CONTENT_50).other W55 (Or.inl ne_aNO_CONTENT_b1)
  have F_code_aNO_CONTENT_56 : Fld Z h55 aNO_CONTENT "com/example/tenet/tenet/runtime/Status" "code" "I" (.int (204 : Int32)) := (F_code_aNO_CONTENT_50).other W55 (Or.inl ne_aNO_CONTENT_b1)
  have F_ordinal_aINVARIANT_VIOLATED_56 : Fld Z h55 aINVARIANT_VIOLATED "java/lang/Enum" "ordinal" "I" (.int (7 : Int32)) := (F_ordinal_aINVARIANT_VIOLATED_50).other W55 (Or.inl ne_aINVARIANT_VIOLATED_b1)
  have F_code_aINVARIANT_VIOLATED_56 : Fld Z h55 aINVARIANT_VIOLATED "com/example/tenet/tenet/runtime/Status" "code" "I" (.int (422 : Int32)) := (F_code_aINVARIANT_VIOLATED_50).other W55 (Or.inl ne_aINVARIANT_VIOLATED_b1)
  have F_ordinal_aFORBIDDEN_56 : Fld Z h55 aFORBIDDEN "java/lang/Enum" "ordinal" "I" (.int (4 : Int32)) := (F_ordinal_aFORBIDDEN_50).other W55 (Or.inl ne_aFORBIDDEN_b1)
  have F_code_aFORBIDDEN_56 : Fld Z h55 aFORBIDDEN "com/example/tenet/tenet/runtime/Status" "code" "I" (.int (403 : Int32)) := (F_code_aFORBIDDEN_50).other W55 (Or.inl ne_aFORBIDDEN_b1)
  have F_code_aINTERNAL_ERROR_56 : Fld Z h55 aINTERNAL_ERROR "com/example/tenet/tenet/runtime/Status" "code" "I" (.int (500 : Int32)) := (F_code_aINTERNAL_ERROR_50).other W55 (Or.inl ne_aINTERNAL_ERROR_b1)
  have F_ordinal_aCONFLICT_56 : Fld Z h55 aCONFLICT "java/lang/Enum" "ordinal" "I" (.int (6 : Int32)) := (F_ordinal_aCONFLICT_50).other W55 (Or.inl ne_aCONFLICT_b1)
  have F_code_aCONFLICT_56 : Fld Z h55 aCONFLICT "com/example/tenet/tenet/runtime/Status" "code" "I" (.int (409 : Int32)) := (F_code_aCONFLICT_50).other W55 (Or.inl ne_aCONFLICT_b1)
  have F_ordinal_aNOT_FOUND_56 : Fld Z h55 aNOT_FOUND "java/lang/Enum" "ordinal" "I" (.int (5 : Int32)) := (F_ordinal_aNOT_FOUND_50).other W55 (Or.inl ne_aNOT_FOUND_b1)
  have F_code_aNOT_FOUND_56 : Fld Z h55 aNOT_FOUND "com/example/tenet/tenet/runtime/Status" "code" "I" (.int (404 : Int32)) := (F_code_aNOT_FOUND_50).other W55 (Or.inl ne_aNOT_FOUND_b1)
  have O_b1_56 : own_O Z h55 b1 "com/example/tenet/tenet/runtime/Status" := (O_b1_50).wr W55
  have SZ57 : h0.size ≤ h55.size := by rw [W55.size]; exact SZ51
  have ZZ57 : n0 ≤ h55.size := Nat.le_trans Z0 SZ57
  have K58 : Keep h0 h55 [] := (K52).wr W55 (Or.inr sz_b1)
  have pre59 : ∀ t, Steps p.tables e below (T55.setTop (mkF m 71 #[.val (.int p0), .val (.ref b1), .val (.int ((p0 &&& (2147483647 : Int32)) % (9 : Int32))), .unset, .unset, .unset, .unset, .unset] [])) t → Steps p.tables e below (s₁.setTop (entryFrame m #[(.int p0)] maxLocals)) t := fun t k => pre0 t (by
    show Steps p.tables e below (s₁.setTop (mkF m 0 #[.val (.int p0), .unset, .unset, .unset, .unset, .unset, .unset, .unset] [])) _
    refine XS.bipush X0.here hx rfl (hb hby at_0) ?_
    show Steps p.tables e below (s₁.setTop (mkF m 2 #[.val (.int p0), .unset, .unset, .unset, .unset, .unset, .unset, .unset] [(.int (9 : Int32))])) _
    refine st1 _ ?_
    show Steps p.tables e below (T1.setTop (mkF m 5 #[.val (.int p0), .unset, .unset, .unset, .unset, .unset, .unset, .unset] [(.ref b1)])) _
    refine XS.dup X1.here hx rfl (hb hby at_5) rfl rfl ?_
    show Steps p.tables e below (T1.setTop (mkF m 6 #[.val (.int p0), .unset, .unset, .unset, .unset, .unset, .unset, .unset] [(.ref b1), (.ref b1)])) _
    refine XS.iconst X1.here hx rfl (hb hby at_6) ?_
    show Steps p.tables e below (T1.setTop (mkF m 7 #[.val (.int p0), .unset, .unset, .unset, .unset, .unset, .unset, .unset] [(.int (0 : Int32)), (.ref b1), (.ref b1)])) _
    refine st5 _ ?_
    show Steps p.tables e below (T5.setTop (mkF m 10 #[.val (.int p0), .unset, .unset, .unset, .unset, .unset, .unset, .unset] [(.ref aOK), (.int (0 : Int32)), (.ref b1), (.ref b1)])) _
    refine st7 _ ?_
    show Steps p.tables e below (T7.setTop (mkF m 11 #[.val (.int p0), .unset, .unset, .unset, .unset, .unset, .unset, .unset] [(.ref b1)])) _
    refine XS.dup X7.here hx rfl (hb hby at_11) rfl rfl ?_
    show Steps p.tables e below (T7.setTop (mkF m 12 #[.val (.int p0), .unset, .unset, .unset, .unset, .unset, .unset, .unset] [(.ref b1), (.ref b1)])) _
    refine XS.iconst X7.here hx rfl (hb hby at_12) ?_
    show Steps p.tables e below (T7.setTop (mkF m 13 #[.val (.int p0), .unset, .unset, .unset, .unset, .unset, .unset, .unset] [(.int (1 : Int32)), (.ref b1), (.ref b1)])) _
    refine st11 _ ?_
    show Steps p.tables e below (T11.setTop (mkF m 16 #[.val (.int p0), .unset, .unset, .unset, .unset, .unset, .unset, .unset] [(.ref aNO_CONTENT), (.int (1 : Int32)), (.ref b1), (.ref b1)])) _
    refine st13 _ ?_
    show Steps p.tables e below (T13.setTop (mkF m 17 #[.val (.int p0), .unset, .unset, .unset, .unset, .unset, .unset, .unset] [(.ref b1)])) _
    refine XS.dup X13.here hx rfl (hb hby at_17) rfl rfl ?_
    show Steps p.tables e below (T13.setTop (mkF m 18 #[.val (.int p0), .unset, .unset, .unset, .unset, .unset, .unset, .unset] [(.ref b1), (.ref b1)])) _
    refine XS.iconst X13.here hx rfl (hb hby at_18) ?_
    show Steps p.tables e below (T13.setTop (mkF m 19 #[.val (.int p0), .unset, .unset, .unset, .unset, .unset, .unset, .unset] [(.int (2 : Int32)), (.ref b1), (.ref b1)])) _
    refine st17 _ ?_
    show Steps p.tables e below (T17.setTop (mkF m 22 #[.val (.int p0), .unset, .unset, .unset, .unset, .unset, .unset, .unset] [(.ref aBAD_REQUEST), (.int (2 : Int32)), (.ref b1), (.ref b1)])) _
    refine st19 _ ?_
    show Steps p.tables e below (T19.setTop (mkF m 23 #[.val (.int p0), .unset, .unset, .unset, .unset, .unset, .unset, .unset] [(.ref b1)])) _
    refine XS.dup X19.here hx rfl (hb hby at_23) rfl rfl ?_
    show Steps p.tables e below (T19.setTop (mkF m 24 #[.val (.int p0), .unset, .unset, .unset, .unset, .unset, .unset, .unset] [(.ref b1), (.ref b1)])) _
    refine XS.iconst X19.here hx rfl (hb hby at_24) ?_
    show Steps p.tables e below (T19.setTop (mkF m 25 #[.val (.int p0), .unset, .unset, .unset, .unset, .unset, .unset, .unset] [(.int (3 : Int32)), (.ref b1), (.ref b1)])) _
    refine st23 _ ?_
    show Steps p.tables e below (T23.setTop (mkF m 28 #[.val (.int p0), .unset, .unset, .unset, .unset, .unset, .unset, .unset] [(.ref aUNAUTHORIZED), (.int (3 : Int32)), (.ref b1), (.ref b1)])) _
    refine st25 _ ?_
    show Steps p.tables e below (T25.setTop (mkF m 29 #[.val (.int p0), .unset, .unset, .unset, .unset, .unset, .unset, .unset] [(.ref b1)])) _
    refine XS.dup X25.here hx rfl (hb hby at_29) rfl rfl ?_
    show Steps p.tables e below (T25.setTop (mkF m 30 #[.val (.int p0), .unset, .unset, .unset, .unset, .unset, .unset, .unset] [(.ref b1), (.ref b1)])) _
    refine XS.iconst X25.here hx rfl (hb hby at_30) ?_
    show Steps p.tables e below (T25.setTop (mkF m 31 #[.val (.int p0), .unset, .unset, .unset, .unset, .unset, .unset, .unset] [(.int (4 : Int32)), (.ref b1), (.ref b1)])) _
    refine st29 _ ?_
    show Steps p.tables e below (T29.setTop (mkF m 34 #[.val (.int p0), .unset, .unset, .unset, .unset, .unset, .unset, .unset] [(.ref aFORBIDDEN), (.int (4 : Int32)), (.ref b1), (.ref b1)])) _
    refine st31 _ ?_
    show Steps p.tables e below (T31.setTop (mkF m 35 #[.val (.int p0), .unset, .unset, .unset, .unset, .unset, .unset, .unset] [(.ref b1)])) _
    refine XS.dup X31.here hx rfl (hb hby at_35) rfl rfl ?_
    show Steps p.tables e below (T31.setTop (mkF m 36 #[.val (.int p0), .unset, .unset, .unset, .unset, .unset, .unset, .unset] [(.ref b1), (.ref b1)])) _
    refine XS.iconst X31.here hx rfl (hb hby at_36) ?_
    show Steps p.tables e below (T31.setTop (mkF m 37 #[.val (.int p0), .unset, .unset, .unset, .unset, .unset, .unset, .unset] [(.int (5 : Int32)), (.ref b1), (.ref b1)])) _
    refine st35 _ ?_
    show Steps p.tables e below (T35.setTop (mkF m 40 #[.val (.int p0), .unset, .unset, .unset, .unset, .unset, .unset, .unset] [(.ref aNOT_FOUND), (.int (5 : Int32)), (.ref b1), (.ref b1)])) _
    refine st37 _ ?_
    show Steps p.tables e below (T37.setTop (mkF m 41 #[.val (.int p0), .unset, .unset, .unset, .unset, .unset, .unset, .unset] [(.ref b1)])) _
    refine XS.dup X37.here hx rfl (hb hby at_41) rfl rfl ?_
    show Steps p.tables e below (T37.setTop (mkF m 42 #[.val (.int p0), .unset, .unset, .unset, .unset, .unset, .unset, .unset] [(.ref b1), (.ref b1)])) _
    refine XS.bipush X37.here hx rfl (hb hby at_42) ?_
    show Steps p.tables e below (T37.setTop (mkF m 44 #[.val (.int p0), .unset, .unset, .unset, .unset, .unset, .unset, .unset] [(.int (6 : Int32)), (.ref b1), (.ref b1)])) _
    refine st41 _ ?_
    show Steps p.tables e below (T41.setTop (mkF m 47 #[.val (.int p0), .unset, .unset, .unset, .unset, .unset, .unset, .unset] [(.ref aCONFLICT), (.int (6 : Int32)), (.ref b1), (.ref b1)])) _
    refine st43 _ ?_
    show Steps p.tables e below (T43.setTop (mkF m 48 #[.val (.int p0), .unset, .unset, .unset, .unset, .unset, .unset, .unset] [(.ref b1)])) _
    refine XS.dup X43.here hx rfl (hb hby at_48) rfl rfl ?_
    show Steps p.tables e below (T43.setTop (mkF m 49 #[.val (.int p0), .unset, .unset, .unset, .unset, .unset, .unset, .unset] [(.ref b1), (.ref b1)])) _
    refine XS.bipush X43.here hx rfl (hb hby at_49) ?_
    show Steps p.tables e below (T43.setTop (mkF m 51 #[.val (.int p0), .unset, .unset, .unset, .unset, .unset, .unset, .unset] [(.int (7 : Int32)), (.ref b1), (.ref b1)])) _
    refine st47 _ ?_
    show Steps p.tables e below (T47.setTop (mkF m 54 #[.val (.int p0), .unset, .unset, .unset, .unset, .unset, .unset, .unset] [(.ref aINVARIANT_VIOLATED), (.int (7 : Int32)), (.ref b1), (.ref b1)])) _
    refine st49 _ ?_
    show Steps p.tables e below (T49.setTop (mkF m 55 #[.val (.int p0), .unset, .unset, .unset, .unset, .unset, .unset, .unset] [(.ref b1)])) _
    refine XS.dup X49.here hx rfl (hb hby at_55) rfl rfl ?_
    show Steps p.tables e below (T49.setTop (mkF m 56 #[.val (.int p0), .unset, .unset, .unset, .unset, .unset, .unset, .unset] [(.ref b1), (.ref b1)])) _
    refine XS.bipush X49.here hx rfl (hb hby at_56) ?_
    show Steps p.tables e below (T49.setTop (mkF m 58 #[.val (.int p0), .unset, .unset, .unset, .unset, .unset, .unset, .unset] [(.int (8 : Int32)), (.ref b1), (.ref b1)])) _
    refine st53 _ ?_
    show Steps p.tables e below (T53.setTop (mkF m 61 #[.val (.int p0), .unset, .unset, .unset, .unset, .unset, .unset, .unset] [(.ref aINTERNAL_ERROR), (.int (8 : Int32)), (.ref b1), (.ref b1)])) _
    refine st55 _ ?_
    show Steps p.tables e below (T55.setTop (mkF m 62 #[.val (.int p0), .unset, .unset, .unset, .unset, .unset, .unset, .unset] [(.ref b1)])) _
    refine XS.astoreN X55.here hx rfl (hb hby at_62) rfl rfl (l' := #[.val (.int p0), .val (.ref b1), .unset, .unset, .unset, .unset, .unset, .unset]) rfl ?_
    show Steps p.tables e below (T55.setTop (mkF m 63 #[.val (.int p0), .val (.ref b1), .unset, .unset, .unset, .unset, .unset, .unset] [])) _
    refine XS.iloadN X55.here hx rfl (hb hby at_63) rfl ?_
    show Steps p.tables e below (T55.setTop (mkF m 64 #[.val (.int p0), .val (.ref b1), .unset, .unset, .unset, .unset, .unset, .unset] [(.int p0)])) _
    refine X55.ldcInt hx hown (mvT hZ (hw _ (List.mem_of_getElem? (i := 22) rfl))) (g := (mkF m 64 #[.val (.int p0), .val (.ref b1), .unset, .unset, .unset, .unset, .unset, .unset] [(.int p0)])) rfl (hb hby at_64) _ ?_
    show Steps p.tables e below (T55.setTop (mkF m 66 #[.val (.int p0), .val (.ref b1), .unset, .unset, .unset, .unset, .unset, .unset] [(.int (2147483647 : Int32)), (.int p0)])) _
    refine XS.iand X55.here hx rfl (hb hby at_66) rfl ?_
    show Steps p.tables e below (T55.setTop (mkF m 67 #[.val (.int p0), .val (.ref b1), .unset, .unset, .unset, .unset, .unset, .unset] [(.int (p0 &&& (2147483647 : Int32)))])) _
    refine XS.bipush X55.here hx rfl (hb hby at_67) ?_
    show Steps p.tables e below (T55.setTop (mkF m 69 #[.val (.int p0), .val (.ref b1), .unset, .unset, .unset, .unset, .unset, .unset] [(.int (9 : Int32)), (.int (p0 &&& (2147483647 : Int32)))])) _
    refine iremM (g := (mkF m 69 #[.val (.int p0), .val (.ref b1), .unset, .unset, .unset, .unset, .unset, .unset] [(.int (9 : Int32)), (.int (p0 &&& (2147483647 : Int32)))])) X55 hx rfl (hb hby at_69) rfl (by decide) ?_
    show Steps p.tables e below (T55.setTop (mkF m 70 #[.val (.int p0), .val (.ref b1), .unset, .unset, .unset, .unset, .unset, .unset] [(.int ((p0 &&& (2147483647 : Int32)) % (9 : Int32)))])) _
    refine XS.istoreN X55.here hx rfl (hb hby at_70) rfl (l' := #[.val (.int p0), .val (.ref b1), .val (.int ((p0 &&& (2147483647 : Int32)) % (9 : Int32))), .unset, .unset, .unset, .unset, .unset]) rfl ?_
    show Steps p.tables e below (T55.setTop (mkF m 71 #[.val (.int p0), .val (.ref b1), .val (.int ((p0 &&& (2147483647 : Int32)) % (9 : Int32))), .unset, .unset, .unset, .unset, .unset] [])) _
    exact k)
  rcases own_k9 p0 with hk | hk | hk | hk | hk | hk | hk | hk | hk
  · have pre60 : ∀ t, Steps p.tables e below (T55.setTop (mkF m 71 #[.val (.int p0), .val (.ref b1), .val (.int (0 : Int32)), .unset, .unset, .unset, .unset, .unset] [])) t → Steps p.tables e below (s₁.setTop (entryFrame m #[(.int p0)] maxLocals)) t := fun t k => pre59 t (by rw [hk]; exact k)
    have qa61 := A_b1_w55
    obtain ⟨c61, Ar61, Sz61, H61⟩ := qa61
    have hi62 : 0 ≤ ((0 : Int32) : Int32).toInt ∧ ((0 : Int32) : Int32).toInt < (9 : Nat) := (by decide)
    have hl62 : c61.slots[((0 : Int32) : Int32).toNatClampNeg]? = some (.ref aOK) := H61 _ (own_ix hi62)
    obtain ⟨T63, X63, e63, st63⟩ := getS2 X55 hx hZ hown (host := "") (Or.inl (hw _ (List.mem_of_getElem? (i := 20) rfl))) Via.refl e55 S_INTERNAL_ERROR_56 (g := (mkF m 76 #[.val (.int p0), .val (.ref b1), .val (.int (0 : Int32)), .val (.ref aOK), .unset, .unset, .unset, .unset] [(.ref aOK)])) rfl (hb hby at_76)
    have ne_I : ¬ aOK = aINTERNAL_ERROR := Fld.ne F_ordinal_aOK_56 F_ordinal_aINTERNAL_ERROR_56 (fun q => absurd (Value.int.inj q) (by decide))
    obtain ⟨cq64, kq64, q64a, q64b, q64c⟩ := isOf hZ e63 (E_aOK_56)
    obtain ⟨_, _, ⟨T64, L64, k64, n64⟩, -, X64, ⟨Lc64, hQ64, l64, y64, z64⟩, st64⟩ := X63.virtualBack hx (y := (⟨"com/example/tenet/tenet/runtime/Status", "isServerError", "()Z"⟩ : MethodName)) (z := (⟨"com/example/tenet/tenet/runtime/Status", "isServerError", "()Z"⟩ : MethodName)) hown (mvT hZ (hw _ (List.mem_of_getElem? (i := 23) rfl))) (mvT hZ (hw _ (List.mem_of_getElem? (i := 24) rfl))) (notFace_of_selects (args := #[]) (mvT hZ (hw _ (List.mem_of_getElem? (i := 26) rfl)))) (mvT hZ (hw _ (List.mem_of_getElem? (i := 26) rfl))) (mvT hZ (hw _ (List.mem_of_getElem? (i := 25) rfl))) (by decide) (backOf (W := 0) (rm1 l Z a0 hw [] aOK (200 : Int32) h55 n0 ZZ57 F_code_aOK_56) hZ (hw _ (List.mem_of_getElem? (i := 27) rfl)) (hw _ (List.mem_of_getElem? (i := 3) rfl)) (by decide) (by decide)) q64a q64c (g := (mkF m 90 #[.val (.int p0), .val (.ref b1), .val (.int (0 : Int32)), .val (.ref aOK), .val (.int (0 : Int32)), .unset, .unset, .unset] [(.ref aOK)])) rfl (by rw [hml]; rfl) (Steps.refl _) (argsL := []) (rest := []) (lenOf pd_0 rfl) rfl (by show 2 * 0 + _ ≤ _; exact Nat.le_of_eq rfl) (hb hby at_90) (fun _ _ => ⟨rfl, e63, (by decide : 1 + 0 ≤ _), (by decide : 9 + 0 ≤ _)⟩)
    dsimp only [Pt.U, Pt.locs, Pt.cells, Pt.slots] at X64 l64 y64 z64 st64 hQ64
    subst l64 y64 z64
    obtain ⟨rfl, N64q, hh64⟩ := hQ64
    have N64 := Fr.app N55 N64q
    obtain ⟨cq65, kq65, q65a, q65b, q65c⟩ := isOf hZ hh64 (E_aOK_56)
    obtain ⟨_, _, ⟨T65, L65, k65, n65⟩, -, X65, ⟨Lc65, hQ65, l65, y65, z65⟩, st65⟩ := X64.virtualBack hx (y := (⟨"com/example/tenet/tenet/runtime/Status", "code", "()I"⟩ : MethodName)) (z := (⟨"com/example/tenet/tenet/runtime/Status", "code", "()I"⟩ : MethodName)) hown (mvT hZ (hw _ (List.mem_of_getElem? (i := 30) rfl))) (mvT hZ (hw _ (List.mem_of_getElem? (i := 31) rfl))) (notFace_of_selects (args := #[]) (mvT hZ (hw _ (List.mem_of_getElem? (i := 33) rfl)))) (mvT hZ (hw _ (List.mem_of_getElem? (i := 33) rfl))) (mvT hZ (hw _ (List.mem_of_getElem? (i := 32) rfl))) (by decide) (backOf (W := 0) (rm2 l Z a0 hw [] aOK (200 : Int32) h55 n0 ZZ57 F_code_aOK_56) hZ (hw _ (List.mem_of_getElem? (i := 34) rfl)) (hw _ (List.mem_of_getElem? (i := 3) rfl)) (by decide) (by decide)) q65a q65c (g := (mkF m 96 #[.val (.int p0), .val (.ref b1), .val (.int (0 : Int32)), .val (.ref aOK), .val (.int (0 : Int32)), .val (.int ((f1_15 (200 : Int32)) &&& 1)), .unset, .unset] [(.ref aOK)])) rfl (by rw [hml]; rfl) (Steps.refl _) (argsL := []) (rest := []) (lenOf pd_1 rfl) rfl (by show 2 * 0 + _ ≤ _; exact Nat.le_of_eq rfl) (hb hby at_96) (fun _ _ => ⟨rfl, hh64, (by decide : 1 + 0 ≤ _), (by decide : 9 + 0 ≤ _)⟩)
    dsimp only [Pt.U, Pt.locs, Pt.cells, Pt.slots] at X65 l65 y65 z65 st65 hQ65
    subst l65 y65 z65
    obtain ⟨rfl, N65q, hh65⟩ := hQ65
    have N65 := Fr.app N64 N65q
    have pre66 : ∀ t, Steps p.tables e below (T65.setTop (mkF m 143 #[.val (.int p0), .val (.ref b1), .val (.int (0 : Int32)), .val (.ref aOK), .val (.int (0 : Int32)), .val (.int ((f1_15 (200 : Int32)) &&& 1)), .val (.int (200 : Int32)), .val (.int (0 : Int32))] [(.int (1 : Int32))])) t → Steps p.tables e below (s₁.setTop (entryFrame m #[(.int p0)] maxLocals)) t := fun t k => pre60 t (by
      show Steps p.tables e below (T55.setTop (mkF m 71 #[.val (.int p0), .val (.ref b1), .val (.int (0 : Int32)), .unset, .unset, .unset, .unset, .unset] [])) _
      refine XS.aloadN X55.here hx rfl (hb hby at_71) rfl rfl ?_
      show Steps p.tables e below (T55.setTop (mkF m 72 #[.val (.int p0), .val (.ref b1), .val (.int (0 : Int32)), .unset, .unset, .unset, .unset, .unset] [(.ref b1)])) _
      refine XS.iloadN X55.here hx rfl (hb hby at_72) rfl ?_
      show Steps p.tables e below (T55.setTop (mkF m 73 #[.val (.int p0), .val (.ref b1), .val (.int (0 : Int32)), .unset, .unset, .unset, .unset, .unset] [(.int (0 : Int32)), (.ref b1)])) _
      refine X55.aaload hx (j := (0 : Int32)) (v := (.ref aOK)) (by rw [e55]; exact Ar61.1) (State.isArrayOf_alike hZ.alike Ar61.2.1) rfl Ar61.2.2 (own_in Sz61 hi62) hl62 (g := (mkF m 73 #[.val (.int p0), .val (.ref b1), .val (.int (0 : Int32)), .unset, .unset, .unset, .unset, .unset] [(.int (0 : Int32)), (.ref b1)])) rfl rfl (hb hby at_73) _ ?_
      show Steps p.tables e below (T55.setTop (mkF m 74 #[.val (.int p0), .val (.ref b1), .val (.int (0 : Int32)), .unset, .unset, .unset, .unset, .unset] [(.ref aOK)])) _
      refine XS.astoreN X55.here hx rfl (hb hby at_74) rfl rfl (l' := #[.val (.int p0), .val (.ref b1), .val (.int (0 : Int32)), .val (.ref aOK), .unset, .unset, .unset, .unset]) rfl ?_
      show Steps p.tables e below (T55.setTop (mkF m 75 #[.val (.int p0), .val (.ref b1), .val (.int (0 : Int32)), .val (.ref aOK), .unset, .unset, .unset, .unset] [])) _
      refine XS.aloadN X55.here hx rfl (hb hby at_75) rfl rfl ?_
      show Steps p.tables e below (T55.setTop (mkF m 76 #[.val (.int p0), .val (.ref b1), .val (.int (0 : Int32)), .val (.ref aOK), .unset, .unset, .unset, .unset] [(.ref aOK)])) _
      refine st63 _ ?_
      show Steps p.tables e below (T63.setTop (mkF m 79 #[.val (.int p0), .val (.ref b1), .val (.int (0 : Int32)), .val (.ref aOK), .unset, .unset, .unset, .unset] [(.ref aINTERNAL_ERROR), (.ref aOK)])) _
      refine Jvm.RoadKit.acmp (g := (mkF m 79 #[.val (.int p0), .val (.ref b1), .val (.int (0 : Int32)), .val (.ref aOK), .unset, .unset, .unset, .unset] [(.ref aINTERNAL_ERROR), (.ref aOK)])) X63 hx rfl rfl rfl (pc0 := 79) (pc' := 86) (same := false) rfl (hb hby at_79) rfl (decide_eq_false fun q => ne_I (Value.ref.inj q)) (by decide) (by decide) ?_
      show Steps p.tables e below (T63.setTop (mkF m 86 #[.val (.int p0), .val (.ref b1), .val (.int (0 : Int32)), .val (.ref aOK), .unset, .unset, .unset, .unset] [])) _
      refine XS.iconst X63.here hx rfl (hb hby at_86) ?_
      show Steps p.tables e below (T63.setTop (mkF m 87 #[.val (.int p0), .val (.ref b1), .val (.int (0 : Int32)), .val (.ref aOK), .unset, .unset, .unset, .unset] [(.int (0 : Int32))])) _
      refine XS.istore X63.here hx rfl (hb hby at_87) rfl (l' := #[.val (.int p0), .val (.ref b1), .val (.int (0 : Int32)), .val (.ref aOK), .val (.int (0 : Int32)), .unset, .unset, .unset]) rfl ?_
      show Steps p.tables e below (T63.setTop (mkF m 89 #[.val (.int p0), .val (.ref b1), .val (.int (0 : Int32)), .val (.ref aOK), .val (.int (0 : Int32)), .unset, .unset, .unset] [])) _
      refine XS.aloadN X63.here hx rfl (hb hby at_89) rfl rfl ?_
      show Steps p.tables e below (T63.setTop (mkF m 90 #[.val (.int p0), .val (.ref b1), .val (.int (0 : Int32)), .val (.ref aOK), .val (.int (0 : Int32)), .unset, .unset, .unset] [(.ref aOK)])) _
      refine st64.trans ?_
      show Steps p.tables e below (T64.setTop (mkF m 93 #[.val (.int p0), .val (.ref b1), .val (.int (0 : Int32)), .val (.ref aOK), .val (.int (0 : Int32)), .unset, .unset, .unset] [(.int ((f1_15 (200 : Int32)) &&& 1))])) _
      refine XS.istore X64.here hx rfl (hb hby at_93) rfl (l' := #[.val (.int p0), .val (.ref b1), .val (.int (0 : Int32)), .val (.ref aOK), .val (.int (0 : Int32)), .val (.int ((f1_15 (200 : Int32)) &&& 1)), .unset, .unset]) rfl ?_
      show Steps p.tables e below (T64.setTop (mkF m 95 #[.val (.int p0), .val (.ref b1), .val (.int (0 : Int32)), .val (.ref aOK), .val (.int (0 : Int32)), .val (.int ((f1_15 (200 : Int32)) &&& 1)), .unset, .unset] [])) _
      refine XS.aloadN X64.here hx rfl (hb hby at_95) rfl rfl ?_
      show Steps p.tables e below (T64.setTop (mkF m 96 #[.val (.int p0), .val (.ref b1), .val (.int (0 : Int32)), .val (.ref aOK), .val (.int (0 : Int32)), .val (.int ((f1_15 (200 : Int32)) &&& 1)), .unset, .unset] [(.ref aOK)])) _
      refine st65.trans ?_
      show Steps p.tables e below (T65.setTop (mkF m 99 #[.val (.int p0), .val (.ref b1), .val (.int (0 : Int32)), .val (.ref aOK), .val (.int (0 : Int32)), .val (.int ((f1_15 (200 : Int32)) &&& 1)), .unset, .unset] [(.int (200 : Int32))])) _
      refine XS.istore X65.here hx rfl (hb hby at_99) rfl (l' := #[.val (.int p0), .val (.ref b1), .val (.int (0 : Int32)), .val (.ref aOK), .val (.int (0 : Int32)), .val (.int ((f1_15 (200 : Int32)) &&& 1)), .val (.int (200 : Int32)), .unset]) rfl ?_
      show Steps p.tables e below (T65.setTop (mkF m 101 #[.val (.int p0), .val (.ref b1), .val (.int (0 : Int32)), .val (.ref aOK), .val (.int (0 : Int32)), .val (.int ((f1_15 (200 : Int32)) &&& 1)), .val (.int (200 : Int32)), .unset] [])) _
      refine XS.iload X65.here hx rfl (hb hby at_101) rfl ?_
      show Steps p.tables e below (T65.setTop (mkF m 103 #[.val (.int p0), .val (.ref b1), .val (.int (0 : Int32)), .val (.ref aOK), .val (.int (0 : Int32)), .val (.int ((f1_15 (200 : Int32)) &&& 1)), .val (.int (200 : Int32)), .unset] [(.int (200 : Int32))])) _
      refine XS.sipush X65.here hx rfl (hb hby at_103) ?_
      show Steps p.tables e below (T65.setTop (mkF m 106 #[.val (.int p0), .val (.ref b1), .val (.int (0 : Int32)), .val (.ref aOK), .val (.int (0 : Int32)), .val (.int ((f1_15 (200 : Int32)) &&& 1)), .val (.int (200 : Int32)), .unset] [(.int (500 : Int32)), (.int (200 : Int32))])) _
      refine XS.icmpYes X65.here hx rfl (pc0 := 106) (pc' := 121) rfl (hb hby at_106) rfl (tlt (show (200 : Int32) < (500 : Int32) by decide)).1 (by decide) (by decide) ?_
      show Steps p.tables e below (T65.setTop (mkF m 121 #[.val (.int p0), .val (.ref b1), .val (.int (0 : Int32)), .val (.ref aOK), .val (.int (0 : Int32)), .val (.int ((f1_15 (200 : Int32)) &&& 1)), .val (.int (200 : Int32)), .unset] [])) _
      refine XS.iconst X65.here hx rfl (hb hby at_121) ?_
      show Steps p.tables e below (T65.setTop (mkF m 122 #[.val (.int p0), .val (.ref b1), .val (.int (0 : Int32)), .val (.ref aOK), .val (.int (0 : Int32)), .val (.int ((f1_15 (200 : Int32)) &&& 1)), .val (.int (200 : Int32)), .unset] [(.int (0 : Int32))])) _
      refine XS.istore X65.here hx rfl (hb hby at_122) rfl (l' := #[.val (.int p0), .val (.ref b1), .val (.int (0 : Int32)), .val (.ref aOK), .val (.int (0 : Int32)), .val (.int ((f1_15 (200 : Int32)) &&& 1)), .val (.int (200 : Int32)), .val (.int (0 : Int32))]) rfl ?_
      show Steps p.tables e below (T65.setTop (mkF m 124 #[.val (.int p0), .val (.ref b1), .val (.int (0 : Int32)), .val (.ref aOK), .val (.int (0 : Int32)), .val (.int ((f1_15 (200 : Int32)) &&& 1)), .val (.int (200 : Int32)), .val (.int (0 : Int32))] [])) _
      refine XS.iload X65.here hx rfl (hb hby at_124) rfl ?_
      show Steps p.tables e below (T65.setTop (mkF m 126 #[.val (.int p0), .val (.ref b1), .val (.int (0 : Int32)), .val (.ref aOK), .val (.int (0 : Int32)), .val (.int ((f1_15 (200 : Int32)) &&& 1)), .val (.int (200 : Int32)), .val (.int (0 : Int32))] [(.int ((f1_15 (200 : Int32)) &&& 1))])) _
      refine XS.iload X65.here hx rfl (hb hby at_126) rfl ?_
      show Steps p.tables e below (T65.setTop (mkF m 128 #[.val (.int p0), .val (.ref b1), .val (.int (0 : Int32)), .val (.ref aOK), .val (.int (0 : Int32)), .val (.int ((f1_15 (200 : Int32)) &&& 1)), .val (.int (200 : Int32)), .val (.int (0 : Int32))] [(.int (0 : Int32)), (.int ((f1_15 (200 : Int32)) &&& 1))])) _
      refine XS.icmpNo X65.here hx rfl (hb hby at_128) rfl (teq (show ((f1_15 (200 : Int32)) &&& 1) = (0 : Int32) from by decide)).2 ?_
      show Steps p.tables e below (T65.setTop (mkF m 131 #[.val (.int p0), .val (.ref b1), .val (.int (0 : Int32)), .val (.ref aOK), .val (.int (0 : Int32)), .val (.int ((f1_15 (200 : Int32)) &&& 1)), .val (.int (200 : Int32)), .val (.int (0 : Int32))] [])) _
      refine XS.iload X65.here hx rfl (hb hby at_131) rfl ?_
      show Steps p.tables e below (T65.setTop (mkF m 133 #[.val (.int p0), .val (.ref b1), .val (.int (0 : Int32)), .val (.ref aOK), .val (.int (0 : Int32)), .val (.int ((f1_15 (200 : Int32)) &&& 1)), .val (.int (200 : Int32)), .val (.int (0 : Int32))] [(.int ((f1_15 (200 : Int32)) &&& 1))])) _
      refine XS.iload X65.here hx rfl (hb hby at_133) rfl ?_
      show Steps p.tables e below (T65.setTop (mkF m 135 #[.val (.int p0), .val (.ref b1), .val (.int (0 : Int32)), .val (.ref aOK), .val (.int (0 : Int32)), .val (.int ((f1_15 (200 : Int32)) &&& 1)), .val (.int (200 : Int32)), .val (.int (0 : Int32))] [(.int (0 : Int32)), (.int ((f1_15 (200 : Int32)) &&& 1))])) _
      refine XS.icmpNo X65.here hx rfl (hb hby at_135) rfl (teq (show ((f1_15 (200 : Int32)) &&& 1) = (0 : Int32) from by decide)).2 ?_
      show Steps p.tables e below (T65.setTop (mkF m 138 #[.val (.int p0), .val (.ref b1), .val (.int (0 : Int32)), .val (.ref aOK), .val (.int (0 : Int32)), .val (.int ((f1_15 (200 : Int32)) &&& 1)), .val (.int (200 : Int32)), .val (.int (0 : Int32))] [])) _
      refine XS.iconst X65.here hx rfl (hb hby at_138) ?_
      show Steps p.tables e below (T65.setTop (mkF m 139 #[.val (.int p0), .val (.ref b1), .val (.int (0 : Int32)), .val (.ref aOK), .val (.int (0 : Int32)), .val (.int ((f1_15 (200 : Int32)) &&& 1)), .val (.int (200 : Int32)), .val (.int (0 : Int32))] [(.int (1 : Int32))])) _
      refine XS.goto X65.here hx rfl (pc0 := 139) (pc' := 143) rfl (hb hby at_139) (by decide) (by decide) ?_
      show Steps p.tables e below (T65.setTop (mkF m 143 #[.val (.int p0), .val (.ref b1), .val (.int (0 : Int32)), .val (.ref aOK), .val (.int (0 : Int32)), .val (.int ((f1_15 (200 : Int32)) &&& 1)), .val (.int (200 : Int32)), .val (.int (0 : Int32))] [(.int (1 : Int32))])) _
      exact k)
    obtain ⟨fs, hr, hrun, hended, hW, hsame⟩ := X65.leave (v := some (.int (1 : Int32))) (fun h => by rw [Bd.returns] at h; cases h)
    refine ⟨_, _, pre66 _ ?_, hrun, hended, _, _, rfl, ?_, ⟨_, rfl⟩, hW, hsame.mono (by decide) (by decide)⟩
    · exact retN X65 hx (t := .boolean) Bd.returns (by simp) (hb hby at_143) hr
    · show Q0 Z p0 aOK aNO_CONTENT aBAD_REQUEST aUNAUTHORIZED aFORBIDDEN aNOT_FOUND aCONFLICT aINVARIANT_VIOLATED aINTERNAL_ERROR h0 n0 _ T65.heap _
      rw [hh65]
      exact ⟨rfl, N65⟩
  · have pre67 : ∀ t, Steps p.tables e below (T55.setTop (mkF m 71 #[.val (.int p0), .val (.ref b1), .val (.int (1 : Int32)), .unset, .unset, .unset, .unset, .unset] [])) t → Steps p.tables e below (s₁.setTop (entryFrame m #[(.int p0)] maxLocals)) t := fun t k => pre59 t (by rw [hk]; exact k)
    have qa68 := A_b1_w55
    obtain ⟨c68, Ar68, Sz68, H68⟩ := qa68
    have hi69 : 0 ≤ ((1 : Int32) : Int32).toInt ∧ ((1 : Int32) : Int32).toInt < (9 : Nat) := (by decide)
    have hl69 : c68.slots[((1 : Int32) : Int32).toNatClampNeg]? = some (.ref aNO_CONTENT) := H68 _ (own_ix hi69)
    obtain ⟨T70, X70, e70, st70⟩ := getS2 X55 hx hZ hown (host := "") (Or.inl (hw _ (List.mem_of_getElem? (i := 20) rfl))) Via.refl e55 S_INTERNAL_ERROR_56 (g := (mkF m 76 #[.val (.int p0), .val (.ref b1), .val (.int (1 : Int32)), .val (.ref aNO_CONTENT), .unset, .unset, .unset, .unset] [(.ref aNO_CONTENT)])) rfl (hb hby at_76)
    have ne_I : ¬ aNO_CONTENT = aINTERNAL_ERROR := Fld.ne F_ordinal_aNO_CONTENT_56 F_ordinal_aINTERNAL_ERROR_56 (fun q => absurd (Value.int.inj q) (by decide))
    obtain ⟨cq71, kq71, q71a, q71b, q71c⟩ := isOf hZ e70 (E_aNO_CONTENT_56)
    obtain ⟨_, _, ⟨T71, L71, k71, n71⟩, -, X71, ⟨Lc71, hQ71, l71, y71, z71⟩, st71⟩ := X70.virtualBack hx (y := (⟨"com/example/tenet/tenet/runtime/Status", "isServerError", "()Z"⟩ : MethodName)) (z := (⟨"com/example/tenet/tenet/runtime/Status", "isServerError", "()Z"⟩ : MethodName)) hown (mvT hZ (hw _ (List.mem_of_getElem? (i := 23) rfl))) (mvT hZ (hw _ (List.mem_of_getElem? (i := 24) rfl))) (notFace_of_selects (args := #[]) (mvT hZ (hw _ (List.mem_of_getElem? (i := 26) rfl)))) (mvT hZ (hw _ (List.mem_of_getElem? (i := 26) rfl))) (mvT hZ (hw _ (List.mem_of_getElem? (i := 25) rfl))) (by decide) (backOf (W := 0) (rm1 l Z a0 hw [] aNO_CONTENT (204 : Int32) h55 n0 ZZ57 F_code_aNO_CONTENT_56) hZ (hw _ (List.mem_of_getElem? (i := 27) rfl)) (hw _ (List.mem_of_getElem? (i := 3) rfl)) (by decide) (by decide)) q71a q71c (g := (mkF m 90 #[.val (.int p0), .val (.ref b1), .val (.int (1 : Int32)), .val (.ref aNO_CONTENT), .val (.int (0 : Int32)), .unset, .unset, .unset] [(.ref aNO_CONTENT)])) rfl (by rw [hml]; rfl) (Steps.refl _) (argsL := []) (rest := []) (lenOf pd_0 rfl) rfl (by show 2 * 0 + _ ≤ _; exact Nat.le_of_eq rfl) (hb hby at_90) (fun _ _ => ⟨rfl, e70, (by decide : 1 + 0 ≤ _), (by decide : 9 + 0 ≤ _)⟩)
    dsimp only [Pt.U, Pt.locs, Pt.cells, Pt.slots] at X71 l71 y71 z71 st71 hQ71
    subst l71 y71 z71
    obtain ⟨rfl, N71q, hh71⟩ := hQ71
    have N71 := Fr.app N55 N71q
    obtain ⟨cq72, kq72, q72a, q72b, q72c⟩ := isOf hZ hh71 (E_aNO_CONTENT_56)
    obtain ⟨_, _, ⟨T72, L72, k72, n72⟩, -, X72, ⟨Lc72, hQ72, l72, y72, z72⟩, st72⟩ := X71.virtualBack hx (y := (⟨"com/example/tenet/tenet/runtime/Status", "code", "()I"⟩ : MethodName)) (z := (⟨"com/example/tenet/tenet/runtime/Status", "code", "()I"⟩ : MethodName)) hown (mvT hZ (hw _ (List.mem_of_getElem? (i := 30) rfl))) (mvT hZ (hw _ (List.mem_of_getElem? (i := 31) rfl))) (notFace_of_selects (args := #[]) (mvT hZ (hw _ (List.mem_of_getElem? (i := 33) rfl)))) (mvT hZ (hw _ (List.mem_of_getElem? (i := 33) rfl))) (mvT hZ (hw _ (List.mem_of_getElem? (i := 32) rfl))) (by decide) (backOf (W := 0) (rm2 l Z a0 hw [] aNO_CONTENT (204 : Int32) h55 n0 ZZ57 F_code_aNO_CONTENT_56) hZ (hw _ (List.mem_of_getElem? (i := 34) rfl)) (hw _ (List.mem_of_getElem? (i := 3) rfl)) (by decide) (by decide)) q72a q72c (g := (mkF m 96 #[.val (.int p0), .val (.ref b1), .val (.int (1 : Int32)), .val (.ref aNO_CONTENT), .val (.int (0 : Int32)), .val (.int ((f1_15 (204 : Int32)) &&& 1)), .unset, .unset] [(.ref aNO_CONTENT)])) rfl (by rw [hml]; rfl) (Steps.refl _) (argsL := []) (rest := []) (lenOf pd_1 rfl) rfl (by show 2 * 0 + _ ≤ _; exact Nat.le_of_eq rfl) (hb hby at_96) (fun _ _ => ⟨rfl, hh71, (by decide : 1 + 0 ≤ _), (by decide : 9 + 0 ≤ _)⟩)
    dsimp only [Pt.U, Pt.locs, Pt.cells, Pt.slots] at X72 l72 y72 z72 st72 hQ72
    subst l72 y72 z72
    obtain ⟨rfl, N72q, hh72⟩ := hQ72
    have N72 := Fr.app N71 N72q
    have pre73 : ∀ t, Steps p.tables e below (T72.setTop (mkF m 143 #[.val (.int p0), .val (.ref b1), .val (.int (1 : Int32)), .val (.ref aNO_CONTENT), .val (.int (0 : Int32)), .val (.int ((f1_15 (204 : Int32)) &&& 1)), .val (.int (204 : Int32)), .val (.int (0 : Int32))] [(.int (1 : Int32))])) t → Steps p.tables e below (s₁.setTop (entryFrame m #[(.int p0)] maxLocals)) t := fun t k => pre67 t (by
      show Steps p.tables e below (T55.setTop (mkF m 71 #[.val (.int p0), .val (.ref b1), .val (.int (1 : Int32)), .unset, .unset, .unset, .unset, .unset] [])) _
      refine XS.aloadN X55.here hx rfl (hb hby at_71) rfl rfl ?_
      show Steps p.tables e below (T55.setTop (mkF m 72 #[.val (.int p0), .val (.ref b1), .val (.int (1 : Int32)), .unset, .unset, .unset, .unset, .unset] [(.ref b1)])) _
      refine XS.iloadN X55.here hx rfl (hb hby at_72) rfl ?_
      show Steps p.tables e below (T55.setTop (mkF m 73 #[.val (.int p0), .val (.ref b1), .val (.int (1 : Int32)), .unset, .unset, .unset, .unset, .unset] [(.int (1 : Int32)), (.ref b1)])) _
      refine X55.aaload hx (j := (1 : Int32)) (v := (.ref aNO_CONTENT)) (by rw [e55]; exact Ar68.1) (State.isArrayOf_alike hZ.alike Ar68.2.1) rfl Ar68.2.2 (own_in Sz68 hi69) hl69 (g := (mkF m 73 #[.val (.int p0), .val (.ref b1), .val (.int (1 : Int32)), .unset, .unset, .unset, .unset, .unset] [(.int (1 : Int32)), (.ref b1)])) rfl rfl (hb hby at_73) _ ?_
      show Steps p.tables e below (T55.setTop (mkF m 74 #[.val (.int p0), .val (.ref b1), .val (.int (1 : Int32)), .unset, .unset, .unset, .unset, .unset] [(.ref aNO_CONTENT)])) _
      refine XS.astoreN X55.here hx rfl (hb hby at_74) rfl rfl (l' := #[.val (.int p0), .val (.ref b1), .val (.int (1 : Int32)), .val (.ref aNO_CONTENT), .unset, .unset, .unset, .unset]) rfl ?_
      show Steps p.tables e below (T55.setTop (mkF m 75 #[.val (.int p0), .val (.ref b1), .val (.int (1 : Int32)), .val (.ref aNO_CONTENT), .unset, .unset, .unset, .unset] [])) _
      refine XS.aloadN X55.here hx rfl (hb hby at_75) rfl rfl ?_
      show Steps p.tables e below (T55.setTop (mkF m 76 #[.val (.int p0), .val (.ref b1), .val (.int (1 : Int32)), .val (.ref aNO_CONTENT), .unset, .unset, .unset, .unset] [(.ref aNO_CONTENT)])) _
      refine st70 _ ?_
      show Steps p.tables e below (T70.setTop (mkF m 79 #[.val (.int p0), .val (.ref b1), .val (.int (1 : Int32)), .val (.ref aNO_CONTENT), .unset, .unset, .unset, .unset] [(.ref aINTERNAL_ERROR), (.ref aNO_CONTENT)])) _
      refine Jvm.RoadKit.acmp (g := (mkF m 79 #[.val (.int p0), .val (.ref b1), .val (.int (1 : Int32)), .val (.ref aNO_CONTENT), .unset, .unset, .unset, .unset] [(.ref aINTERNAL_ERROR), (.ref aNO_CONTENT)])) X70 hx rfl rfl rfl (pc0 := 79) (pc' := 86) (same := false) rfl (hb hby at_79) rfl (decide_eq_false fun q => ne_I (Value.ref.inj q)) (by decide) (by decide) ?_
      show Steps p.tables e below (T70.setTop (mkF m 86 #[.val (.int p0), .val (.ref b1), .val (.int (1 : Int32)), .val (.ref aNO_CONTENT), .unset, .unset, .unset, .unset] [])) _
      refine XS.iconst X70.here hx rfl (hb hby at_86) ?_
      show Steps p.tables e below (T70.setTop (mkF m 87 #[.val (.int p0), .val (.ref b1), .val (.int (1 : Int32)), .val (.ref aNO_CONTENT), .unset, .unset, .unset, .unset] [(.int (0 : Int32))])) _
      refine XS.istore X70.here hx rfl (hb hby at_87) rfl (l' := #[.val (.int p0), .val (.ref b1), .val (.int (1 : Int32)), .val (.ref aNO_CONTENT), .val (.int (0 : Int32)), .unset, .unset, .unset]) rfl ?_
      show Steps p.tables e below (T70.setTop (mkF m 89 #[.val (.int p0), .val (.ref b1), .val (.int (1 : Int32)), .val (.ref aNO_CONTENT), .val (.int (0 : Int32)), .unset, .unset, .unset] [])) _
      refine XS.aloadN X70.here hx rfl (hb hby at_89) rfl rfl ?_
      show Steps p.tables e below (T70.setTop (mkF m 90 #[.val (.int p0), .val (.ref b1), .val (.int (1 : Int32)), .val (.ref aNO_CONTENT), .val (.int (0 : Int32)), .unset, .unset, .unset] [(.ref aNO_CONTENT)])) _
      refine st71.trans ?_
      show Steps p.tables e below (T71.setTop (mkF m 93 #[.val (.int p0), .val (.ref b1), .val (.int (1 : Int32)), .val (.ref aNO_CONTENT), .val (.int (0 : Int32)), .unset, .unset, .unset] [(.int ((f1_15 (204 : Int32)) &&& 1))])) _
      refine XS.istore X71.here hx rfl (hb hby at_93) rfl (l' := #[.val (.int p0), .val (.ref b1), .val (.int (1 : Int32)), .val (.ref aNO_CONTENT), .val (.int (0 : Int32)), .val (.int ((f1_15 (204 : Int32)) &&& 1)), .unset, .unset]) rfl ?_
      show Steps p.tables e below (T71.setTop (mkF m 95 #[.val (.int p0), .val (.ref b1), .val (.int (1 : Int32)), .val (.ref aNO_CONTENT), .val (.int (0 : Int32)), .val (.int ((f1_15 (204 : Int32)) &&& 1)), .unset, .unset] [])) _
      refine XS.aloadN X71.here hx rfl (hb hby at_95) rfl rfl ?_
      show Steps p.tables e below (T71.setTop (mkF m 96 #[.val (.int p0), .val (.ref b1), .val (.int (1 : Int32)), .val (.ref aNO_CONTENT), .val (.int (0 : Int32)), .val (.int ((f1_15 (204 : Int32)) &&& 1)), .unset, .unset] [(.ref aNO_CONTENT)])) _
      refine st72.trans ?_
      show Steps p.tables e below (T72.setTop (mkF m 99 #[.val (.int p0), .val (.ref b1), .val (.int (1 : Int32)), .val (.ref aNO_CONTENT), .val (.int (0 : Int32)), .val (.int ((f1_15 (204 : Int32)) &&& 1)), .unset, .unset] [(.int (204 : Int32))])) _
      refine XS.istore X72.here hx rfl (hb hby at_99) rfl (l' := #[.val (.int p0), .val (.ref b1), .val (.int (1 : Int32)), .val (.ref aNO_CONTENT), .val (.int (0 : Int32)), .val (.int ((f1_15 (204 : Int32)) &&& 1)), .val (.int (204 : Int32)), .unset]) rfl ?_
      show Steps p.tables e below (T72.setTop (mkF m 101 #[.val (.int p0), .val (.ref b1), .val (.int (1 : Int32)), .val (.ref aNO_CONTENT), .val (.int (0 : Int32)), .val (.int ((f1_15 (204 : Int32)) &&& 1)), .val (.int (204 : Int32)), .unset] [])) _
      refine XS.iload X72.here hx rfl (hb hby at_101) rfl ?_
      show Steps p.tables e below (T72.setTop (mkF m 103 #[.val (.int p0), .val (.ref b1), .val (.int (1 : Int32)), .val (.ref aNO_CONTENT), .val (.int (0 : Int32)), .val (.int ((f1_15 (204 : Int32)) &&& 1)), .val (.int (204 : Int32)), .unset] [(.int (204 : Int32))])) _
      refine XS.sipush X72.here hx rfl (hb hby at_103) ?_
      show Steps p.tables e below (T72.setTop (mkF m 106 #[.val (.int p0), .val (.ref b1), .val (.int (1 : Int32)), .val (.ref aNO_CONTENT), .val (.int (0 : Int32)), .val (.int ((f1_15 (204 : Int32)) &&& 1)), .val (.int (204 : Int32)), .unset] [(.int (500 : Int32)), (.int (204 : Int32))])) _
      refine XS.icmpYes X72.here hx rfl (pc0 := 106) (pc' := 121) rfl (hb hby at_106) rfl (tlt (show (204 : Int32) < (500 : Int32) by decide)).1 (by decide) (by decide) ?_
      show Steps p.tables e below (T72.setTop (mkF m 121 #[.val (.int p0), .val (.ref b1), .val (.int (1 : Int32)), .val (.ref aNO_CONTENT), .val (.int (0 : Int32)), .val (.int ((f1_15 (204 : Int32)) &&& 1)), .val (.int (204 : Int32)), .unset] [])) _
      refine XS.iconst X72.here hx rfl (hb hby at_121) ?_
      show Steps p.tables e below (T72.setTop (mkF m 122 #[.val (.int p0), .val (.ref b1), .val (.int (1 : Int32)), .val (.ref aNO_CONTENT), .val (.int (0 : Int32)), .val (.int ((f1_15 (204 : Int32)) &&& 1)), .val (.int (204 : Int32)), .unset] [(.int (0 : Int32))])) _
      refine XS.istore X72.here hx rfl (hb hby at_122) rfl (l' := #[.val (.int p0), .val (.ref b1), .val (.int (1 : Int32)), .val (.ref aNO_CONTENT), .val (.int (0 : Int32)), .val (.int ((f1_15 (204 : Int32)) &&& 1)), .val (.int (204 : Int32)), .val (.int (0 : Int32))]) rfl ?_
      show Steps p.tables e below (T72.setTop (mkF m 124 #[.val (.int p0), .val (.ref b1), .val (.int (1 : Int32)), .val (.ref aNO_CONTENT), .val (.int (0 : Int32)), .val (.int ((f1_15 (204 : Int32)) &&& 1)), .val (.int (204 : Int32)), .val (.int (0 : Int32))] [])) _
      refine XS.iload X72.here hx rfl (hb hby at_124) rfl ?_
      show Steps p.tables e below (T72.setTop (mkF m 126 #[.val (.int p0), .val (.ref b1), .val (.int (1 : Int32)), .val (.ref aNO_CONTENT), .val (.int (0 : Int32)), .val (.int ((f1_15 (204 : Int32)) &&& 1)), .val (.int (204 : Int32)), .val (.int (0 : Int32))] [(.int ((f1_15 (204 : Int32)) &&& 1))])) _
      refine XS.iload X72.here hx rfl (hb hby at_126) rfl ?_
      show Steps p.tables e below (T72.setTop (mkF m 128 #[.val (.int p0), .val (.ref b1), .val (.int (1 : Int32)), .val (.ref aNO_CONTENT), .val (.int (0 : Int32)), .val (.int ((f1_15 (204 : Int32)) &&& 1)), .val (.int (204 : Int32)), .val (.int (0 : Int32))] [(.int (0 : Int32)), (.int ((f1_15 (204 : Int32)) &&& 1))])) _
      refine XS.icmpNo X72.here hx rfl (hb hby at_128) rfl (teq (show ((f1_15 (204 : Int32)) &&& 1) = (0 : Int32) from by decide)).2 ?_
      show Steps p.tables e below (T72.setTop (mkF m 131 #[.val (.int p0), .val (.ref b1), .val (.int (1 : Int32)), .val (.ref aNO_CONTENT), .val (.int (0 : Int32)), .val (.int ((f1_15 (204 : Int32)) &&& 1)), .val (.int (204 : Int32)), .val (.int (0 : Int32))] [])) _
      refine XS.iload X72.here hx rfl (hb hby at_131) rfl ?_
      show Steps p.tables e below (T72.setTop (mkF m 133 #[.val (.int p0), .val (.ref b1), .val (.int (1 : Int32)), .val (.ref aNO_CONTENT), .val (.int (0 : Int32)), .val (.int ((f1_15 (204 : Int32)) &&& 1)), .val (.int (204 : Int32)), .val (.int (0 : Int32))] [(.int ((f1_15 (204 : Int32)) &&& 1))])) _
      refine XS.iload X72.here hx rfl (hb hby at_133) rfl ?_
      show Steps p.tables e below (T72.setTop (mkF m 135 #[.val (.int p0), .val (.ref b1), .val (.int (1 : Int32)), .val (.ref aNO_CONTENT), .val (.int (0 : Int32)), .val (.int ((f1_15 (204 : Int32)) &&& 1)), .val (.int (204 : Int32)), .val (.int (0 : Int32))] [(.int (0 : Int32)), (.int ((f1_15 (204 : Int32)) &&& 1))])) _
      refine XS.icmpNo X72.here hx rfl (hb hby at_135) rfl (teq (show ((f1_15 (204 : Int32)) &&& 1) = (0 : Int32) from by decide)).2 ?_
      show Steps p.tables e below (T72.setTop (mkF m 138 #[.val (.int p0), .val (.ref b1), .val (.int (1 : Int32)), .val (.ref aNO_CONTENT), .val (.int (0 : Int32)), .val (.int ((f1_15 (204 : Int32)) &&& 1)), .val (.int (204 : Int32)), .val (.int (0 : Int32))] [])) _
      refine XS.iconst X72.here hx rfl (hb hby at_138) ?_
      show Steps p.tables e below (T72.setTop (mkF m 139 #[.val (.int p0), .val (.ref b1), .val (.int (1 : Int32)), .val (.ref aNO_CONTENT), .val (.int (0 : Int32)), .val (.int ((f1_15 (204 : Int32)) &&& 1)), .val (.int (204 : Int32)), .val (.int (0 : Int32))] [(.int (1 : Int32))])) _
      refine XS.goto X72.here hx rfl (pc0 := 139) (pc' := 143) rfl (hb hby at_139) (by decide) (by decide) ?_
      show Steps p.tables e below (T72.setTop (mkF m 143 #[.val (.int p0), .val (.ref b1), .val (.int (1 : Int32)), .val (.ref aNO_CONTENT), .val (.int (0 : Int32)), .val (.int ((f1_15 (204 : Int32)) &&& 1)), .val (.int (204 : Int32)), .val (.int (0 : Int32))] [(.int (1 : Int32))])) _
      exact k)
    obtain ⟨fs, hr, hrun, hended, hW, hsame⟩ := X72.leave (v := some (.int (1 : Int32))) (fun h => by rw [Bd.returns] at h; cases h)
    refine ⟨_, _, pre73 _ ?_, hrun, hended, _, _, rfl, ?_, ⟨_, rfl⟩, hW, hsame.mono (by decide) (by decide)⟩
    · exact retN X72 hx (t := .boolean) Bd.returns (by simp) (hb hby at_143) hr
    · show Q0 Z p0 aOK aNO_CONTENT aBAD_REQUEST aUNAUTHORIZED aFORBIDDEN aNOT_FOUND aCONFLICT aINVARIANT_VIOLATED aINTERNAL_ERROR h0 n0 _ T72.heap _
      rw [hh72]
      exact ⟨rfl, N72⟩
  · have pre74 : ∀ t, Steps p.tables e below (T55.setTop (mkF m 71 #[.val (.int p0), .val (.ref b1), .val (.int (2 : Int32)), .unset, .unset, .unset, .unset, .unset] [])) t → Steps p.tables e below (s₁.setTop (entryFrame m #[(.int p0)] maxLocals)) t := fun t k => pre59 t (by rw [hk]; exact k)
    have qa75 := A_b1_w55
    obtain ⟨c75, Ar75, Sz75, H75⟩ := qa75
    have hi76 : 0 ≤ ((2 : Int32) : Int32).toInt ∧ ((2 : Int32) : Int32).toInt < (9 : Nat) := (by decide)
    have hl76 : c75.slots[((2 : Int32) : Int32).toNatClampNeg]? = some (.ref aBAD_REQUEST) := H75 _ (own_ix hi76)
    obtain ⟨T77, X77, e77, st77⟩ := getS2 X55 hx hZ hown (host := "") (Or.inl (hw _ (List.mem_of_getElem? (i := 20) rfl))) Via.refl e55 S_INTERNAL_ERROR_56 (g := (mkF m 76 #[.val (.int p0), .val (.ref b1), .val (.int (2 : Int32)), .val (.ref aBAD_REQUEST), .unset, .unset, .unset, .unset] [(.ref aBAD_REQUEST)])) rfl (hb hby at_76)
    have ne_I : ¬ aBAD_REQUEST = aINTERNAL_ERROR := Fld.ne F_ordinal_aBAD_REQUEST_56 F_ordinal_aINTERNAL_ERROR_56 (fun q => absurd (Value.int.inj q) (by decide))
    obtain ⟨cq78, kq78, q78a, q78b, q78c⟩ := isOf hZ e77 (E_aBAD_REQUEST_56)
    obtain ⟨_, _, ⟨T78, L78, k78, n78⟩, -, X78, ⟨Lc78, hQ78, l78, y78, z78⟩, st78⟩ := X77.virtualBack hx (y := (⟨"com/example/tenet/tenet/runtime/Status", "isServerError", "()Z"⟩ : MethodName)) (z := (⟨"com/example/tenet/tenet/runtime/Status", "isServerError", "()Z"⟩ : MethodName)) hown (mvT hZ (hw _ (List.mem_of_getElem? (i := 23) rfl))) (mvT hZ (hw _ (List.mem_of_getElem? (i := 24) rfl))) (notFace_of_selects (args := #[]) (mvT hZ (hw _ (List.mem_of_getElem? (i := 26) rfl)))) (mvT hZ (hw _ (List.mem_of_getElem? (i := 26) rfl))) (mvT hZ (hw _ (List.mem_of_getElem? (i := 25) rfl))) (by decide) (backOf (W := 0) (rm1 l Z a0 hw [] aBAD_REQUEST (400 : Int32) h55 n0 ZZ57 F_code_aBAD_REQUEST_56) hZ (hw _ (List.mem_of_getElem? (i := 27) rfl)) (hw _ (List.mem_of_getElem? (i := 3) rfl)) (by decide) (by decide)) q78a q78c (g := (mkF m 90 #[.val (.int p0), .val (.ref b1), .val (.int (2 : Int32)), .val (.ref aBAD_REQUEST), .val (.int (0 : Int32)), .unset, .unset, .unset] [(.ref aBAD_REQUEST)])) rfl (by rw [hml]; rfl) (Steps.refl _) (argsL := []) (rest := []) (lenOf pd_0 rfl) rfl (by show 2 * 0 + _ ≤ _; exact Nat.le_of_eq rfl) (hb hby at_90) (fun _ _ => ⟨rfl, e77, (by decide : 1 + 0 ≤ _), (by decide : 9 + 0 ≤ _)⟩)
    dsimp only [Pt.U, Pt.locs, Pt.cells, Pt.slots] at X78 l78 y78 z78 st78 hQ78
    subst l78 y78 z78
    obtain ⟨rfl, N78q, hh78⟩ := hQ78
    have N78 := Fr.app N55 N78q
    obtain ⟨cq79, kq79, q79a, q79b, q79c⟩ := isOf hZ hh78 (E_aBAD_REQUEST_56)
    obtain ⟨_, _, ⟨T79, L79, k79, n79⟩, -, X79, ⟨Lc79, hQ79, l79, y79, z79⟩, st79⟩ := X78.virtualBack hx (y := (⟨"com/example/tenet/tenet/runtime/Status", "code", "()I"⟩ : MethodName)) (z := (⟨"com/example/tenet/tenet/runtime/Status", "code", "()I"⟩ : MethodName)) hown (mvT hZ (hw _ (List.mem_of_getElem? (i := 30) rfl))) (mvT hZ (hw _ (List.mem_of_getElem? (i := 31) rfl))) (notFace_of_selects (args := #[]) (mvT hZ (hw _ (List.mem_of_getElem? (i := 33) rfl)))) (mvT hZ (hw _ (List.mem_of_getElem? (i := 33) rfl))) (mvT hZ (hw _ (List.mem_of_getElem? (i := 32) rfl))) (by decide) (backOf (W := 0) (rm2 l Z a0 hw [] aBAD_REQUEST (400 : Int32) h55 n0 ZZ57 F_code_aBAD_REQUEST_56) hZ (hw _ (List.mem_of_getElem? (i := 34) rfl)) (hw _ (List.mem_of_getElem? (i := 3) rfl)) (by decide) (by decide)) q79a q79c (g := (mkF m 96 #[.val (.int p0), .val (.ref b1), .val (.int (2 : Int32)), .val (.ref aBAD_REQUEST), .val (.int (0 : Int32)), .val (.int ((f1_15 (400 : Int32)) &&& 1)), .unset, .unset] [(.ref aBAD_REQUEST)])) rfl (by rw [hml]; rfl) (Steps.refl _) (argsL := []) (rest := []) (lenOf pd_1 rfl) rfl (by show 2 * 0 + _ ≤ _; exact Nat.le_of_eq rfl) (hb hby at_96) (fun _ _ => ⟨rfl, hh78, (by decide : 1 + 0 ≤ _), (by decide : 9 + 0 ≤ _)⟩)
    dsimp only [Pt.U, Pt.locs, Pt.cells, Pt.slots] at X79 l79 y79 z79 st79 hQ79
    subst l79 y79 z79
    obtain ⟨rfl, N79q, hh79⟩ := hQ79
    have N79 := Fr.app N78 N79q
    have pre80 : ∀ t, Steps p.tables e below (T79.setTop (mkF m 143 #[.val (.int p0), .val (.ref b1), .val (.int (2 : Int32)), .val (.ref aBAD_REQUEST), .val (.int (0 : Int32)), .val (.int ((f1_15 (400 : Int32)) &&& 1)), .val (.int (400 : Int32)), .val (.int (0 : Int32))] [(.int (1 : Int32))])) t → Steps p.tables e below (s₁.setTop (entryFrame m #[(.int p0)] maxLocals)) t := fun t k => pre74 t (by
      show Steps p.tables e below (T55.setTop (mkF m 71 #[.val (.int p0), .val (.ref b1), .val (.int (2 : Int32)), .unset, .unset, .unset, .unset, .unset] [])) _
      refine XS.aloadN X55.here hx rfl (hb hby at_71) rfl rfl ?_
      show Steps p.tables e below (T55.setTop (mkF m 72 #[.val (.int p0), .val (.ref b1), .val (.int (2 : Int32)), .unset, .unset, .unset, .unset, .unset] [(.ref b1)])) _
      refine XS.iloadN X55.here hx rfl (hb hby at_72) rfl ?_
      show Steps p.tables e below (T55.setTop (mkF m 73 #[.val (.int p0), .val (.ref b1), .val (.int (2 : Int32)), .unset, .unset, .unset, .unset, .unset] [(.int (2 : Int32)), (.ref b1)])) _
      refine X55.aaload hx (j := (2 : Int32)) (v := (.ref aBAD_REQUEST)) (by rw [e55]; exact Ar75.1) (State.isArrayOf_alike hZ.alike Ar75.2.1) rfl Ar75.2.2 (own_in Sz75 hi76) hl76 (g := (mkF m 73 #[.val (.int p0), .val (.ref b1), .val (.int (2 : Int32)), .unset, .unset, .unset, .unset, .unset] [(.int (2 : Int32)), (.ref b1)])) rfl rfl (hb hby at_73) _ ?_
      show Steps p.tables e below (T55.setTop (mkF m 74 #[.val (.int p0), .val (.ref b1), .val (.int (2 : Int32)), .unset, .unset, .unset, .unset, .unset] [(.ref aBAD_REQUEST)])) _
      refine XS.astoreN X55.here hx rfl (hb hby at_74) rfl rfl (l' := #[.val (.int p0), .val (.ref b1), .val (.int (2 : Int32)), .val (.ref aBAD_REQUEST), .unset, .unset, .unset, .unset]) rfl ?_
      show Steps p.tables e below (T55.setTop (mkF m 75 #[.val (.int p0), .val (.ref b1), .val (.int (2 : Int32)), .val (.ref aBAD_REQUEST), .unset, .unset, .unset, .unset] [])) _
      refine XS.aloadN X55.here hx rfl (hb hby at_75) rfl rfl ?_
      show Steps p.tables e below (T55.setTop (mkF m 76 #[.val (.int p0), .val (.ref b1), .val (.int (2 : Int32)), .val (.ref aBAD_REQUEST), .unset, .unset, .unset, .unset] [(.ref aBAD_REQUEST)])) _
      refine st77 _ ?_
      show Steps p.tables e below (T77.setTop (mkF m 79 #[.val (.int p0), .val (.ref b1), .val (.int (2 : Int32)), .val (.ref aBAD_REQUEST), .unset, .unset, .unset, .unset] [(.ref aINTERNAL_ERROR), (.ref aBAD_REQUEST)])) _
      refine Jvm.RoadKit.acmp (g := (mkF m 79 #[.val (.int p0), .val (.ref b1), .val (.int (2 : Int32)), .val (.ref aBAD_REQUEST), .unset, .unset, .unset, .unset] [(.ref aINTERNAL_ERROR), (.ref aBAD_REQUEST)])) X77 hx rfl rfl rfl (pc0 := 79) (pc' := 86) (same := false) rfl (hb hby at_79) rfl (decide_eq_false fun q => ne_I (Value.ref.inj q)) (by decide) (by decide) ?_
      show Steps p.tables e below (T77.setTop (mkF m 86 #[.val (.int p0), .val (.ref b1), .val (.int (2 : Int32)), .val (.ref aBAD_REQUEST), .unset, .unset, .unset, .unset] [])) _
      refine XS.iconst X77.here hx rfl (hb hby at_86) ?_
      show Steps p.tables e below (T77.setTop (mkF m 87 #[.val (.int p0), .val (.ref b1), .val (.int (2 : Int32)), .val (.ref aBAD_REQUEST), .unset, .unset, .unset, .unset] [(.int (0 : Int32))])) _
      refine XS.istore X77.here hx rfl (hb hby at_87) rfl (l' := #[.val (.int p0), .val (.ref b1), .val (.int (2 : Int32)), .val (.ref aBAD_REQUEST), .val (.int (0 : Int32)), .unset, .unset, .unset]) rfl ?_
      show Steps p.tables e below (T77.setTop (mkF m 89 #[.val (.int p0), .val (.ref b1), .val (.int (2 : Int32)), .val (.ref aBAD_REQUEST), .val (.int (0 : Int32)), .unset, .unset, .unset] [])) _
      refine XS.aloadN X77.here hx rfl (hb hby at_89) rfl rfl ?_
      show Steps p.tables e below (T77.setTop (mkF m 90 #[.val (.int p0), .val (.ref b1), .val (.int (2 : Int32)), .val (.ref aBAD_REQUEST), .val (.int (0 : Int32)), .unset, .unset, .unset] [(.ref aBAD_REQUEST)])) _
      refine st78.trans ?_
      show Steps p.tables e below (T78.setTop (mkF m 93 #[.val (.int p0), .val (.ref b1), .val (.int (2 : Int32)), .val (.ref aBAD_REQUEST), .val (.int (0 : Int32)), .unset, .unset, .unset] [(.int ((f1_15 (400 : Int32)) &&& 1))])) _
      refine XS.istore X78.here hx rfl (hb hby at_93) rfl (l' := #[.val (.int p0), .val (.ref b1), .val (.int (2 : Int32)), .val (.ref aBAD_REQUEST), .val (.int (0 : Int32)), .val (.int ((f1_15 (400 : Int32)) &&& 1)), .unset, .unset]) rfl ?_
      show Steps p.tables e below (T78.setTop (mkF m 95 #[.val (.int p0), .val (.ref b1), .val (.int (2 : Int32)), .val (.ref aBAD_REQUEST), .val (.int (0 : Int32)), .val (.int ((f1_15 (400 : Int32)) &&& 1)), .unset, .unset] [])) _
      refine XS.aloadN X78.here hx rfl (hb hby at_95) rfl rfl ?_
      show Steps p.tables e below (T78.setTop (mkF m 96 #[.val (.int p0), .val (.ref b1), .val (.int (2 : Int32)), .val (.ref aBAD_REQUEST), .val (.int (0 : Int32)), .val (.int ((f1_15 (400 : Int32)) &&& 1)), .unset, .unset] [(.ref aBAD_REQUEST)])) _
      refine st79.trans ?_
      show Steps p.tables e below (T79.setTop (mkF m 99 #[.val (.int p0), .val (.ref b1), .val (.int (2 : Int32)), .val (.ref aBAD_REQUEST), .val (.int (0 : Int32)), .val (.int ((f1_15 (400 : Int32)) &&& 1)), .unset, .unset] [(.int (400 : Int32))])) _
      refine XS.istore X79.here hx rfl (hb hby at_99) rfl (l' := #[.val (.int p0), .val (.ref b1), .val (.int (2 : Int32)), .val (.ref aBAD_REQUEST), .val (.int (0 : Int32)), .val (.int ((f1_15 (400 : Int32)) &&& 1)), .val (.int (400 : Int32)), .unset]) rfl ?_
      show Steps p.tables e below (T79.setTop (mkF m 101 #[.val (.int p0), .val (.ref b1), .val (.int (2 : Int32)), .val (.ref aBAD_REQUEST), .val (.int (0 : Int32)), .val (.int ((f1_15 (400 : Int32)) &&& 1)), .val (.int (400 : Int32)), .unset] [])) _
      refine XS.iload X79.here hx rfl (hb hby at_101) rfl ?_
      show Steps p.tables e below (T79.setTop (mkF m 103 #[.val (.int p0), .val (.ref b1), .val (.int (2 : Int32)), .val (.ref aBAD_REQUEST), .val (.int (0 : Int32)), .val (.int ((f1_15 (400 : Int32)) &&& 1)), .val (.int (400 : Int32)), .unset] [(.int (400 : Int32))])) _
      refine XS.sipush X79.here hx rfl (hb hby at_103) ?_
      show Steps p.tables e below (T79.setTop (mkF m 106 #[.val (.int p0), .val (.ref b1), .val (.int (2 : Int32)), .val (.ref aBAD_REQUEST), .val (.int (0 : Int32)), .val (.int ((f1_15 (400 : Int32)) &&& 1)), .val (.int (400 : Int32)), .unset] [(.int (500 : Int32)), (.int (400 : Int32))])) _
      refine XS.icmpYes X79.here hx rfl (pc0 := 106) (pc' := 121) rfl (hb hby at_106) rfl (tlt (show (400 : Int32) < (500 : Int32) by decide)).1 (by decide) (by decide) ?_
      show Steps p.tables e below (T79.setTop (mkF m 121 #[.val (.int p0), .val (.ref b1), .val (.int (2 : Int32)), .val (.ref aBAD_REQUEST), .val (.int (0 : Int32)), .val (.int ((f1_15 (400 : Int32)) &&& 1)), .val (.int (400 : Int32)), .unset] [])) _
      refine XS.iconst X79.here hx rfl (hb hby at_121) ?_
      show Steps p.tables e below (T79.setTop (mkF m 122 #[.val (.int p0), .val (.ref b1), .val (.int (2 : Int32)), .val (.ref aBAD_REQUEST), .val (.int (0 : Int32)), .val (.int ((f1_15 (400 : Int32)) &&& 1)), .val (.int (400 : Int32)), .unset] [(.int (0 : Int32))])) _
      refine XS.istore X79.here hx rfl (hb hby at_122) rfl (l' := #[.val (.int p0), .val (.ref b1), .val (.int (2 : Int32)), .val (.ref aBAD_REQUEST), .val (.int (0 : Int32)), .val (.int ((f1_15 (400 : Int32)) &&& 1)), .val (.int (400 : Int32)), .val (.int (0 : Int32))]) rfl ?_
      show Steps p.tables e below (T79.setTop (mkF m 124 #[.val (.int p0), .val (.ref b1), .val (.int (2 : Int32)), .val (.ref aBAD_REQUEST), .val (.int (0 : Int32)), .val (.int ((f1_15 (400 : Int32)) &&& 1)), .val (.int (400 : Int32)), .val (.int (0 : Int32))] [])) _
      refine XS.iload X79.here hx rfl (hb hby at_124) rfl ?_
      show Steps p.tables e below (T79.setTop (mkF m 126 #[.val (.int p0), .val (.ref b1), .val (.int (2 : Int32)), .val (.ref aBAD_REQUEST), .val (.int (0 : Int32)), .val (.int ((f1_15 (400 : Int32)) &&& 1)), .val (.int (400 : Int32)), .val (.int (0 : Int32))] [(.int ((f1_15 (400 : Int32)) &&& 1))])) _
      refine XS.iload X79.here hx rfl (hb hby at_126) rfl ?_
      show Steps p.tables e below (T79.setTop (mkF m 128 #[.val (.int p0), .val (.ref b1), .val (.int (2 : Int32)), .val (.ref aBAD_REQUEST), .val (.int (0 : Int32)), .val (.int ((f1_15 (400 : Int32)) &&& 1)), .val (.int (400 : Int32)), .val (.int (0 : Int32))] [(.int (0 : Int32)), (.int ((f1_15 (400 : Int32)) &&& 1))])) _
      refine XS.icmpNo X79.here hx rfl (hb hby at_128) rfl (teq (show ((f1_15 (400 : Int32)) &&& 1) = (0 : Int32) from by decide)).2 ?_
      show Steps p.tables e below (T79.setTop (mkF m 131 #[.val (.int p0), .val (.ref b1), .val (.int (2 : Int32)), .val (.ref aBAD_REQUEST), .val (.int (0 : Int32)), .val (.int ((f1_15 (400 : Int32)) &&& 1)), .val (.int (400 : Int32)), .val (.int (0 : Int32))] [])) _
      refine XS.iload X79.here hx rfl (hb hby at_131) rfl ?_
      show Steps p.tables e below (T79.setTop (mkF m 133 #[.val (.int p0), .val (.ref b1), .val (.int (2 : Int32)), .val (.ref aBAD_REQUEST), .val (.int (0 : Int32)), .val (.int ((f1_15 (400 : Int32)) &&& 1)), .val (.int (400 : Int32)), .val (.int (0 : Int32))] [(.int ((f1_15 (400 : Int32)) &&& 1))])) _
      refine XS.iload X79.here hx rfl (hb hby at_133) rfl ?_
      show Steps p.tables e below (T79.setTop (mkF m 135 #[.val (.int p0), .val (.ref b1), .val (.int (2 : Int32)), .val (.ref aBAD_REQUEST), .val (.int (0 : Int32)), .val (.int ((f1_15 (400 : Int32)) &&& 1)), .val (.int (400 : Int32)), .val (.int (0 : Int32))] [(.int (0 : Int32)), (.int ((f1_15 (400 : Int32)) &&& 1))])) _
      refine XS.icmpNo X79.here hx rfl (hb hby at_135) rfl (teq (show ((f1_15 (400 : Int32)) &&& 1) = (0 : Int32) from by decide)).2 ?_
      show Steps p.tables e below (T79.setTop (mkF m 138 #[.val (.int p0), .val (.ref b1), .val (.int (2 : Int32)), .val (.ref aBAD_REQUEST), .val (.int (0 : Int32)), .val (.int ((f1_15 (400 : Int32)) &&& 1)), .val (.int (400 : Int32)), .val (.int (0 : Int32))] [])) _
      refine XS.iconst X79.here hx rfl (hb hby at_138) ?_
      show Steps p.tables e below (T79.setTop (mkF m 139 #[.val (.int p0), .val (.ref b1), .val (.int (2 : Int32)), .val (.ref aBAD_REQUEST), .val (.int (0 : Int32)), .val (.int ((f1_15 (400 : Int32)) &&& 1)), .val (.int (400 : Int32)), .val (.int (0 : Int32))] [(.int (1 : Int32))])) _
      refine XS.goto X79.here hx rfl (pc0 := 139) (pc' := 143) rfl (hb hby at_139) (by decide) (by decide) ?_
      show Steps p.tables e below (T79.setTop (mkF m 143 #[.val (.int p0), .val (.ref b1), .val (.int (2 : Int32)), .val (.ref aBAD_REQUEST), .val (.int (0 : Int32)), .val (.int ((f1_15 (400 : Int32)) &&& 1)), .val (.int (400 : Int32)), .val (.int (0 : Int32))] [(.int (1 : Int32))])) _
      exact k)
    obtain ⟨fs, hr, hrun, hended, hW, hsame⟩ := X79.leave (v := some (.int (1 : Int32))) (fun h => by rw [Bd.returns] at h; cases h)
    refine ⟨_, _, pre80 _ ?_, hrun, hended, _, _, rfl, ?_, ⟨_, rfl⟩, hW, hsame.mono (by decide) (by decide)⟩
    · exact retN X79 hx (t := .boolean) Bd.returns (by simp) (hb hby at_143) hr
    · show Q0 Z p0 aOK aNO_CONTENT aBAD_REQUEST aUNAUTHORIZED aFORBIDDEN aNOT_FOUND aCONFLICT aINVARIANT_VIOLATED aINTERNAL_ERROR h0 n0 _ T79.heap _
      rw [hh79]
      exact ⟨rfl, N79⟩
  · have pre81 : ∀ t, Steps p.tables e below (T55.setTop (mkF m 71 #[.val (.int p0), .val (.ref b1), .val (.int (3 : Int32)), .unset, .unset, .unset, .unset, .unset] [])) t → Steps p.tables e below (s₁.setTop (entryFrame m #[(.int p0)] maxLocals)) t := fun t k => pre59 t (by rw [hk]; exact k)
    have qa82 := A_b1_w55
    obtain ⟨c82, Ar82, Sz82, H82⟩ := qa82
    have hi83 : 0 ≤ ((3 : Int32) : Int32).toInt ∧ ((3 : Int32) : Int32).toInt < (9 : Nat) := (by decide)
    have hl83 : c82.slots[((3 : Int32) : Int32).toNatClampNeg]? = some (.ref aUNAUTHORIZED) := H82 _ (own_ix hi83)
    obtain ⟨T84, X84, e84, st84⟩ := getS2 X55 hx hZ hown (host := "") (Or.inl (hw _ (List.mem_of_getElem? (i := 20) rfl))) Via.refl e55 S_INTERNAL_ERROR_56 (g := (mkF m 76 #[.val (.int p0), .val (.ref b1), .val (.int (3 : Int32)), .val (.ref aUNAUTHORIZED), .unset, .unset, .unset, .unset] [(.ref aUNAUTHORIZED)])) rfl (hb hby at_76)
    have ne_I : ¬ aUNAUTHORIZED = aINTERNAL_ERROR := Fld.ne F_ordinal_aUNAUTHORIZED_56 F_ordinal_aINTERNAL_ERROR_56 (fun q => absurd (Value.int.inj q) (by decide))
    obtain ⟨cq85, kq85, q85a, q85b, q85c⟩ := isOf hZ e84 (E_aUNAUTHORIZED_56)
    obtain ⟨_, _, ⟨T85, L85, k85, n85⟩, -, X85, ⟨Lc85, hQ85, l85, y85, z85⟩, st85⟩ := X84.virtualBack hx (y := (⟨"com/example/tenet/tenet/runtime/Status", "isServerError", "()Z"⟩ : MethodName)) (z := (⟨"com/example/tenet/tenet/runtime/Status", "isServerError", "()Z"⟩ : MethodName)) hown (mvT hZ (hw _ (List.mem_of_getElem? (i := 23) rfl))) (mvT hZ (hw _ (List.mem_of_getElem? (i := 24) rfl))) (notFace_of_selects (args := #[]) (mvT hZ (hw _ (List.mem_of_getElem? (i := 26) rfl)))) (mvT hZ (hw _ (List.mem_of_getElem? (i := 26) rfl))) (mvT hZ (hw _ (List.mem_of_getElem? (i := 25) rfl))) (by decide) (backOf (W := 0) (rm1 l Z a0 hw [] aUNAUTHORIZED (401 : Int32) h55 n0 ZZ57 F_code_aUNAUTHORIZED_56) hZ (hw _ (List.mem_of_getElem? (i := 27) rfl)) (hw _ (List.mem_of_getElem? (i := 3) rfl)) (by decide) (by decide)) q85a q85c (g := (mkF m 90 #[.val (.int p0), .val (.ref b1), .val (.int (3 : Int32)), .val (.ref aUNAUTHORIZED), .val (.int (0 : Int32)), .unset, .unset, .unset] [(.ref aUNAUTHORIZED)])) rfl (by rw [hml]; rfl) (Steps.refl _) (argsL := []) (rest := []) (lenOf pd_0 rfl) rfl (by show 2 * 0 + _ ≤ _; exact Nat.le_of_eq rfl) (hb hby at_90) (fun _ _ => ⟨rfl, e84, (by decide : 1 + 0 ≤ _), (by decide : 9 + 0 ≤ _)⟩)
    dsimp only [Pt.U, Pt.locs, Pt.cells, Pt.slots] at X85 l85 y85 z85 st85 hQ85
    subst l85 y85 z85
    obtain ⟨rfl, N85q, hh85⟩ := hQ85
    have N85 := Fr.app N55 N85q
    obtain ⟨cq86, kq86, q86a, q86b, q86c⟩ := isOf hZ hh85 (E_aUNAUTHORIZED_56)
    obtain ⟨_, _, ⟨T86, L86, k86, n86⟩, -, X86, ⟨Lc86, hQ86, l86, y86, z86⟩, st86⟩ := X85.virtualBack hx (y := (⟨"com/example/tenet/tenet/runtime/Status", "code", "()I"⟩ : MethodName)) (z := (⟨"com/example/tenet/tenet/runtime/Status", "code", "()I"⟩ : MethodName)) hown (mvT hZ (hw _ (List.mem_of_getElem? (i := 30) rfl))) (mvT hZ (hw _ (List.mem_of_getElem? (i := 31) rfl))) (notFace_of_selects (args := #[]) (mvT hZ (hw _ (List.mem_of_getElem? (i := 33) rfl)))) (mvT hZ (hw _ (List.mem_of_getElem? (i := 33) rfl))) (mvT hZ (hw _ (List.mem_of_getElem? (i := 32) rfl))) (by decide) (backOf (W := 0) (rm2 l Z a0 hw [] aUNAUTHORIZED (401 : Int32) h55 n0 ZZ57 F_code_aUNAUTHORIZED_56) hZ (hw _ (List.mem_of_getElem? (i := 34) rfl)) (hw _ (List.mem_of_getElem? (i := 3) rfl)) (by decide) (by decide)) q86a q86c (g := (mkF m 96 #[.val (.int p0), .val (.ref b1), .val (.int (3 : Int32)), .val (.ref aUNAUTHORIZED), .val (.int (0 : Int32)), .val (.int ((f1_15 (401 : Int32)) &&& 1)), .unset, .unset] [(.ref aUNAUTHORIZED)])) rfl (by rw [hml]; rfl) (Steps.refl _) (argsL := []) (rest := []) (lenOf pd_1 rfl) rfl (by show 2 * 0 + _ ≤ _; exact Nat.le_of_eq rfl) (hb hby at_96) (fun _ _ => ⟨rfl, hh85, (by decide : 1 + 0 ≤ _), (by decide : 9 + 0 ≤ _)⟩)
    dsimp only [Pt.U, Pt.locs, Pt.cells, Pt.slots] at X86 l86 y86 z86 st86 hQ86
    subst l86 y86 z86
    obtain ⟨rfl, N86q, hh86⟩ := hQ86
    have N86 := Fr.app N85 N86q
    have pre87 : ∀ t, Steps p.tables e below (T86.setTop (mkF m 143 #[.val (.int p0), .val (.ref b1), .val (.int (3 : Int32)), .val (.ref aUNAUTHORIZED), .val (.int (0 : Int32)), .val (.int ((f1_15 (401 : Int32)) &&& 1)), .val (.int (401 : Int32)), .val (.int (0 : Int32))] [(.int (1 : Int32))])) t → Steps p.tables e below (s₁.setTop (entryFrame m #[(.int p0)] maxLocals)) t := fun t k => pre81 t (by
      show Steps p.tables e below (T55.setTop (mkF m 71 #[.val (.int p0), .val (.ref b1), .val (.int (3 : Int32)), .unset, .unset, .unset, .unset, .unset] [])) _
      refine XS.aloadN X55.here hx rfl (hb hby at_71) rfl rfl ?_
      show Steps p.tables e below (T55.setTop (mkF m 72 #[.val (.int p0), .val (.ref b1), .val (.int (3 : Int32)), .unset, .unset, .unset, .unset, .unset] [(.ref b1)])) _
      refine XS.iloadN X55.here hx rfl (hb hby at_72) rfl ?_
      show Steps p.tables e below (T55.setTop (mkF m 73 #[.val (.int p0), .val (.ref b1), .val (.int (3 : Int32)), .unset, .unset, .unset, .unset, .unset] [(.int (3 : Int32)), (.ref b1)])) _
      refine X55.aaload hx (j := (3 : Int32)) (v := (.ref aUNAUTHORIZED)) (by rw [e55]; exact Ar82.1) (State.isArrayOf_alike hZ.alike Ar82.2.1) rfl Ar82.2.2 (own_in Sz82 hi83) hl83 (g := (mkF m 73 #[.val (.int p0), .val (.ref b1), .val (.int (3 : Int32)), .unset, .unset, .unset, .unset, .unset] [(.int (3 : Int32)), (.ref b1)])) rfl rfl (hb hby at_73) _ ?_
      show Steps p.tables e below (T55.setTop (mkF m 74 #[.val (.int p0), .val (.ref b1), .val (.int (3 : Int32)), .unset, .unset, .unset, .unset, .unset] [(.ref aUNAUTHORIZED)])) _
      refine XS.astoreN X55.here hx rfl (hb hby at_74) rfl rfl (l' := #[.val (.int p0), .val (.ref b1), .val (.int (3 : Int32)), .val (.ref aUNAUTHORIZED), .unset, .unset, .unset, .unset]) rfl ?_
      show Steps p.tables e below (T55.setTop (mkF m 75 #[.val (.int p0), .val (.ref b1), .val (.int (3 : Int32)), .val (.ref aUNAUTHORIZED), .unset, .unset, .unset, .unset] [])) _
      refine XS.aloadN X55.here hx rfl (hb hby at_75) rfl rfl ?_
      show Steps p.tables e below (T55.setTop (mkF m 76 #[.val (.int p0), .val (.ref b1), .val (.int (3 : Int32)), .val (.ref aUNAUTHORIZED), .unset, .unset, .unset, .unset] [(.ref aUNAUTHORIZED)])) _
      refine st84 _ ?_
      show Steps p.tables e below (T84.setTop (mkF m 79 #[.val (.int p0), .val (.ref b1), .val (.int (3 : Int32)), .val (.ref aUNAUTHORIZED), .unset, .unset, .unset, .unset] [(.ref aINTERNAL_ERROR), (.ref aUNAUTHORIZED)])) _
      refine Jvm.RoadKit.acmp (g := (mkF m 79 #[.val (.int p0), .val (.ref b1), .val (.int (3 : Int32)), .val (.ref aUNAUTHORIZED), .unset, .unset, .unset, .unset] [(.ref aINTERNAL_ERROR), (.ref aUNAUTHORIZED)])) X84 hx rfl rfl rfl (pc0 := 79) (pc' := 86) (same := false) rfl (hb hby at_79) rfl (decide_eq_false fun q => ne_I (Value.ref.inj q)) (by decide) (by decide) ?_
      show Steps p.tables e below (T84.setTop (mkF m 86 #[.val (.int p0), .val (.ref b1), .val (.int (3 : Int32)), .val (.ref aUNAUTHORIZED), .unset, .unset, .unset, .unset] [])) _
      refine XS.iconst X84.here hx rfl (hb hby at_86) ?_
      show Steps p.tables e below (T84.setTop (mkF m 87 #[.val (.int p0), .val (.ref b1), .val (.int (3 : Int32)), .val (.ref aUNAUTHORIZED), .unset, .unset, .unset, .unset] [(.int (0 : Int32))])) _
      refine XS.istore X84.here hx rfl (hb hby at_87) rfl (l' := #[.val (.int p0), .val (.ref b1), .val (.int (3 : Int32)), .val (.ref aUNAUTHORIZED), .val (.int (0 : Int32)), .unset, .unset, .unset]) rfl ?_
      show Steps p.tables e below (T84.setTop (mkF m 89 #[.val (.int p0), .val (.ref b1), .val (.int (3 : Int32)), .val (.ref aUNAUTHORIZED), .val (.int (0 : Int32)), .unset, .unset, .unset] [])) _
      refine XS.aloadN X84.here hx rfl (hb hby at_89) rfl rfl ?_
      show Steps p.tables e below (T84.setTop (mkF m 90 #[.val (.int p0), .val (.ref b1), .val (.int (3 : Int32)), .val (.ref aUNAUTHORIZED), .val (.int (0 : Int32)), .unset, .unset, .unset] [(.ref aUNAUTHORIZED)])) _
      refine st85.trans ?_
      show Steps p.tables e below (T85.setTop (mkF m 93 #[.val (.int p0), .val (.ref b1), .val (.int (3 : Int32)), .val (.ref aUNAUTHORIZED), .val (.int (0 : Int32)), .unset, .unset, .unset] [(.int ((f1_15 (401 : Int32)) &&& 1))])) _
      refine XS.istore X85.here hx rfl (hb hby at_93) rfl (l' := #[.val (.int p0), .val (.ref b1), .val (.int (3 : Int32)), .val (.ref aUNAUTHORIZED), .val (.int (0 : Int32)), .val (.int ((f1_15 (401 : Int32)) &&& 1)), .unset, .unset]) rfl ?_
      show Steps p.tables e below (T85.setTop (mkF m 95 #[.val (.int p0), .val (.ref b1), .val (.int (3 : Int32)), .val (.ref aUNAUTHORIZED), .val (.int (0 : Int32)), .val (.int ((f1_15 (401 : Int32)) &&& 1)), .unset, .unset] [])) _
      refine XS.aloadN X85.here hx rfl (hb hby at_95) rfl rfl ?_
      show Steps p.tables e below (T85.setTop (mkF m 96 #[.val (.int p0), .val (.ref b1), .val (.int (3 : Int32)), .val (.ref aUNAUTHORIZED), .val (.int (0 : Int32)), .val (.int ((f1_15 (401 : Int32)) &&& 1)), .unset, .unset] [(.ref aUNAUTHORIZED)])) _
      refine st86.trans ?_
      show Steps p.tables e below (T86.setTop (mkF m 99 #[.val (.int p0), .val (.ref b1), .val (.int (3 : Int32)), .val (.ref aUNAUTHORIZED), .val (.int (0 : Int32)), .val (.int ((f1_15 (401 : Int32)) &&& 1)), .unset, .unset] [(.int (401 : Int32))])) _
      refine XS.istore X86.here hx rfl (hb hby at_99) rfl (l' := #[.val (.int p0), .val (.ref b1), .val (.int (3 : Int32)), .val (.ref aUNAUTHORIZED), .val (.int (0 : Int32)), .val (.int ((f1_15 (401 : Int32)) &&& 1)), .val (.int (401 : Int32)), .unset]) rfl ?_
      show Steps p.tables e below (T86.setTop (mkF m 101 #[.val (.int p0), .val (.ref b1), .val (.int (3 : Int32)), .val (.ref aUNAUTHORIZED), .val (.int (0 : Int32)), .val (.int ((f1_15 (401 : Int32)) &&& 1)), .val (.int (401 : Int32)), .unset] [])) _
      refine XS.iload X86.here hx rfl (hb hby at_101) rfl ?_
      show Steps p.tables e below (T86.setTop (mkF m 103 #[.val (.int p0), .val (.ref b1), .val (.int (3 : Int32)), .val (.ref aUNAUTHORIZED), .val (.int (0 : Int32)), .val (.int ((f1_15 (401 : Int32)) &&& 1)), .val (.int (401 : Int32)), .unset] [(.int (401 : Int32))])) _
      refine XS.sipush X86.here hx rfl (hb hby at_103) ?_
      show Steps p.tables e below (T86.setTop (mkF m 106 #[.val (.int p0), .val (.ref b1), .val (.int (3 : Int32)), .val (.ref aUNAUTHORIZED), .val (.int (0 : Int32)), .val (.int ((f1_15 (401 : Int32)) &&& 1)), .val (.int (401 : Int32)), .unset] [(.int (500 : Int32)), (.int (401 : Int32))])) _
      refine XS.icmpYes X86.here hx rfl (pc0 := 106) (pc' := 121) rfl (hb hby at_106) rfl (tlt (show (401 : Int32) < (500 : Int32) by decide)).1 (by decide) (by decide) ?_
      show Steps p.tables e below (T86.setTop (mkF m 121 #[.val (.int p0), .val (.ref b1), .val (.int (3 : Int32)), .val (.ref aUNAUTHORIZED), .val (.int (0 : Int32)), .val (.int ((f1_15 (401 : Int32)) &&& 1)), .val (.int (401 : Int32)), .unset] [])) _
      refine XS.iconst X86.here hx rfl (hb hby at_121) ?_
      show Steps p.tables e below (T86.setTop (mkF m 122 #[.val (.int p0), .val (.ref b1), .val (.int (3 : Int32)), .val (.ref aUNAUTHORIZED), .val (.int (0 : Int32)), .val (.int ((f1_15 (401 : Int32)) &&& 1)), .val (.int (401 : Int32)), .unset] [(.int (0 : Int32))])) _
      refine XS.istore X86.here hx rfl (hb hby at_122) rfl (l' := #[.val (.int p0), .val (.ref b1), .val (.int (3 : Int32)), .val (.ref aUNAUTHORIZED), .val (.int (0 : Int32)), .val (.int ((f1_15 (401 : Int32)) &&& 1)), .val (.int (401 : Int32)), .val (.int (0 : Int32))]) rfl ?_
      show Steps p.tables e below (T86.setTop (mkF m 124 #[.val (.int p0), .val (.ref b1), .val (.int (3 : Int32)), .val (.ref aUNAUTHORIZED), .val (.int (0 : Int32)), .val (.int ((f1_15 (401 : Int32)) &&& 1)), .val (.int (401 : Int32)), .val (.int (0 : Int32))] [])) _
      refine XS.iload X86.here hx rfl (hb hby at_124) rfl ?_
      show Steps p.tables e below (T86.setTop (mkF m 126 #[.val (.int p0), .val (.ref b1), .val (.int (3 : Int32)), .val (.ref aUNAUTHORIZED), .val (.int (0 : Int32)), .val (.int ((f1_15 (401 : Int32)) &&& 1)), .val (.int (401 : Int32)), .val (.int (0 : Int32))] [(.int ((f1_15 (401 : Int32)) &&& 1))])) _
      refine XS.iload X86.here hx rfl (hb hby at_126) rfl ?_
      show Steps p.tables e below (T86.setTop (mkF m 128 #[.val (.int p0), .val (.ref b1), .val (.int (3 : Int32)), .val (.ref aUNAUTHORIZED), .val (.int (0 : Int32)), .val (.int ((f1_15 (401 : Int32)) &&& 1)), .val (.int (401 : Int32)), .val (.int (0 : Int32))] [(.int (0 : Int32)), (.int ((f1_15 (401 : Int32)) &&& 1))])) _
      refine XS.icmpNo X86.here hx rfl (hb hby at_128) rfl (teq (show ((f1_15 (401 : Int32)) &&& 1) = (0 : Int32) from by decide)).2 ?_
      show Steps p.tables e below (T86.setTop (mkF m 131 #[.val (.int p0), .val (.ref b1), .val (.int (3 : Int32)), .val (.ref aUNAUTHORIZED), .val (.int (0 : Int32)), .val (.int ((f1_15 (401 : Int32)) &&& 1)), .val (.int (401 : Int32)), .val (.int (0 : Int32))] [])) _
      refine XS.iload X86.here hx rfl (hb hby at_131) rfl ?_
      show Steps p.tables e below (T86.setTop (mkF m 133 #[.val (.int p0), .val (.ref b1), .val (.int (3 : Int32)), .val (.ref aUNAUTHORIZED), .val (.int (0 : Int32)), .val (.int ((f1_15 (401 : Int32)) &&& 1)), .val (.int (401 : Int32)), .val (.int (0 : Int32))] [(.int ((f1_15 (401 : Int32)) &&& 1))])) _
      refine XS.iload X86.here hx rfl (hb hby at_133) rfl ?_
      show Steps p.tables e below (T86.setTop (mkF m 135 #[.val (.int p0), .val (.ref b1), .val (.int (3 : Int32)), .val (.ref aUNAUTHORIZED), .val (.int (0 : Int32)), .val (.int ((f1_15 (401 : Int32)) &&& 1)), .val (.int (401 : Int32)), .val (.int (0 : Int32))] [(.int (0 : Int32)), (.int ((f1_15 (401 : Int32)) &&& 1))])) _
      refine XS.icmpNo X86.here hx rfl (hb hby at_135) rfl (teq (show ((f1_15 (401 : Int32)) &&& 1) = (0 : Int32) from by decide)).2 ?_
      show Steps p.tables e below (T86.setTop (mkF m 138 #[.val (.int p0), .val (.ref b1), .val (.int (3 : Int32)), .val (.ref aUNAUTHORIZED), .val (.int (0 : Int32)), .val (.int ((f1_15 (401 : Int32)) &&& 1)), .val (.int (401 : Int32)), .val (.int (0 : Int32))] [])) _
      refine XS.iconst X86.here hx rfl (hb hby at_138) ?_
      show Steps p.tables e below (T86.setTop (mkF m 139 #[.val (.int p0), .val (.ref b1), .val (.int (3 : Int32)), .val (.ref aUNAUTHORIZED), .val (.int (0 : Int32)), .val (.int ((f1_15 (401 : Int32)) &&& 1)), .val (.int (401 : Int32)), .val (.int (0 : Int32))] [(.int (1 : Int32))])) _
      refine XS.goto X86.here hx rfl (pc0 := 139) (pc' := 143) rfl (hb hby at_139) (by decide) (by decide) ?_
      show Steps p.tables e below (T86.setTop (mkF m 143 #[.val (.int p0), .val (.ref b1), .val (.int (3 : Int32)), .val (.ref aUNAUTHORIZED), .val (.int (0 : Int32)), .val (.int ((f1_15 (401 : Int32)) &&& 1)), .val (.int (401 : Int32)), .val (.int (0 : Int32))] [(.int (1 : Int32))])) _
      exact k)
    obtain ⟨fs, hr, hrun, hended, hW, hsame⟩ := X86.leave (v := some (.int (1 : Int32))) (fun h => by rw [Bd.returns] at h; cases h)
    refine ⟨_, _, pre87 _ ?_, hrun, hended, _, _, rfl, ?_, ⟨_, rfl⟩, hW, hsame.mono (by decide) (by decide)⟩
    · exact retN X86 hx (t := .boolean) Bd.returns (by simp) (hb hby at_143) hr
    · show Q0 Z p0 aOK aNO_CONTENT aBAD_REQUEST aUNAUTHORIZED aFORBIDDEN aNOT_FOUND aCONFLICT aINVARIANT_VIOLATED aINTERNAL_ERROR h0 n0 _ T86.heap _
      rw [hh86]
      exact ⟨rfl, N86⟩
  · have pre88 : ∀ t, Steps p.tables e below (T55.setTop (mkF m 71 #[.val (.int p0), .val (.ref b1), .val (.int (4 : Int32)), .unset, .unset, .unset, .unset, .unset] [])) t → Steps p.tables e below (s₁.setTop (entryFrame m #[(.int p0)] maxLocals)) t := fun t k => pre59 t (by rw [hk]; exact k)
    have qa89 := A_b1_w55
    obtain ⟨c89, Ar89, Sz89, H89⟩ := qa89
    have hi90 : 0 ≤ ((4 : Int32) : Int32).toInt ∧ ((4 : Int32) : Int32).toInt < (9 : Nat) := (by decide)
    have hl90 : c89.slots[((4 : Int32) : Int32).toNatClampNeg]? = some (.ref aFORBIDDEN) := H89 _ (own_ix hi90)
    obtain ⟨T91, X91, e91, st91⟩ := getS2 X55 hx hZ hown (host := "") (Or.inl (hw _ (List.mem_of_getElem? (i := 20) rfl))) Via.refl e55 S_INTERNAL_ERROR_56 (g := (mkF m 76 #[.val (.int p0), .val (.ref b1), .val (.int (4 : Int32)), .val (.ref aFORBIDDEN), .unset, .unset, .unset, .unset] [(.ref aFORBIDDEN)])) rfl (hb hby at_76)
    have ne_I : ¬ aFORBIDDEN = aINTERNAL_ERROR := Fld.ne F_ordinal_aFORBIDDEN_56 F_ordinal_aINTERNAL_ERROR_56 (fun q => absurd (Value.int.inj q) (by decide))
    obtain ⟨cq92, kq92, q92a, q92b, q92c⟩ := isOf hZ e91 (E_aFORBIDDEN_56)
    obtain ⟨_, _, ⟨T92, L92, k92, n92⟩, -, X92, ⟨Lc92, hQ92, l92, y92, z92⟩, st92⟩ := X91.virtualBack hx (y := (⟨"com/example/tenet/tenet/runtime/Status", "isServerError", "()Z"⟩ : MethodName)) (z := (⟨"com/example/tenet/tenet/runtime/Status", "isServerError", "()Z"⟩ : MethodName)) hown (mvT hZ (hw _ (List.mem_of_getElem? (i := 23) rfl))) (mvT hZ (hw _ (List.mem_of_getElem? (i := 24) rfl))) (notFace_of_selects (args := #[]) (mvT hZ (hw _ (List.mem_of_getElem? (i := 26) rfl)))) (mvT hZ (hw _ (List.mem_of_getElem? (i := 26) rfl))) (mvT hZ (hw _ (List.mem_of_getElem? (i := 25) rfl))) (by decide) (backOf (W := 0) (rm1 l Z a0 hw [] aFORBIDDEN (403 : Int32) h55 n0 ZZ57 F_code_aFORBIDDEN_56) hZ (hw _ (List.mem_of_getElem? (i := 27) rfl)) (hw _ (List.mem_of_getElem? (i := 3) rfl)) (by decide) (by decide)) q92a q92c (g := (mkF m 90 #[.val (.int p0), .val (.ref b1), .val (.int (4 : Int32)), .val (.ref aFORBIDDEN), .val (.int (0 : Int32)), .unset, .unset, .unset] [(.ref aFORBIDDEN)])) rfl (by rw [hml]; rfl) (Steps.refl _) (argsL := []) (rest := []) (lenOf pd_0 rfl) rfl (by show 2 * 0 + _ ≤ _; exact Nat.le_of_eq rfl) (hb hby at_90) (fun _ _ => ⟨rfl, e91, (by decide : 1 + 0 ≤ _), (by decide : 9 + 0 ≤ _)⟩)
    dsimp only [Pt.U, Pt.locs, Pt.cells, Pt.slots] at X92 l92 y92 z92 st92 hQ92
    subst l92 y92 z92
    obtain ⟨rfl, N92q, hh92⟩ := hQ92
    have N92 := Fr.app N55 N92q
    obtain ⟨cq93, kq93, q93a, q93b, q93c⟩ := isOf hZ hh92 (E_aFORBIDDEN_56)
    obtain ⟨_, _, ⟨T93, L93, k93, n93⟩, -, X93, ⟨Lc93, hQ93, l93, y93, z93⟩, st93⟩ := X92.virtualBack hx (y := (⟨"com/example/tenet/tenet/runtime/Status", "code", "()I"⟩ : MethodName)) (z := (⟨"com/example/tenet/tenet/runtime/Status", "code", "()I"⟩ : MethodName)) hown (mvT hZ (hw _ (List.mem_of_getElem? (i := 30) rfl))) (mvT hZ (hw _ (List.mem_of_getElem? (i := 31) rfl))) (notFace_of_selects (args := #[]) (mvT hZ (hw _ (List.mem_of_getElem? (i := 33) rfl)))) (mvT hZ (hw _ (List.mem_of_getElem? (i := 33) rfl))) (mvT hZ (hw _ (List.mem_of_getElem? (i := 32) rfl))) (by decide) (backOf (W := 0) (rm2 l Z a0 hw [] aFORBIDDEN (403 : Int32) h55 n0 ZZ57 F_code_aFORBIDDEN_56) hZ (hw _ (List.mem_of_getElem? (i := 34) rfl)) (hw _ (List.mem_of_getElem? (i := 3) rfl)) (by decide) (by decide)) q93a q93c (g := (mkF m 96 #[.val (.int p0), .val (.ref b1), .val (.int (4 : Int32)), .val (.ref aFORBIDDEN), .val (.int (0 : Int32)), .val (.int ((f1_15 (403 : Int32)) &&& 1)), .unset, .unset] [(.ref aFORBIDDEN)])) rfl (by rw [hml]; rfl) (Steps.refl _) (argsL := []) (rest := []) (lenOf pd_1 rfl) rfl (by show 2 * 0 + _ ≤ _; exact Nat.le_of_eq rfl) (hb hby at_96) (fun _ _ => ⟨rfl, hh92, (by decide : 1 + 0 ≤ _), (by decide : 9 + 0 ≤ _)⟩)
    dsimp only [Pt.U, Pt.locs, Pt.cells, Pt.slots] at X93 l93 y93 z93 st93 hQ93
    subst l93 y93 z93
    obtain ⟨rfl, N93q, hh93⟩ := hQ93
    have N93 := Fr.app N92 N93q
    have pre94 : ∀ t, Steps p.tables e below (T93.setTop (mkF m 143 #[.val (.int p0), .val (.ref b1), .val (.int (4 : Int32)), .val (.ref aFORBIDDEN), .val (.int (0 : Int32)), .val (.int ((f1_15 (403 : Int32)) &&& 1)), .val (.int (403 : Int32)), .val (.int (0 : Int32))] [(.int (1 : Int32))])) t → Steps p.tables e below (s₁.setTop (entryFrame m #[(.int p0)] maxLocals)) t := fun t k => pre88 t (by
      show Steps p.tables e below (T55.setTop (mkF m 71 #[.val (.int p0), .val (.ref b1), .val (.int (4 : Int32)), .unset, .unset, .unset, .unset, .unset] [])) _
      refine XS.aloadN X55.here hx rfl (hb hby at_71) rfl rfl ?_
      show Steps p.tables e below (T55.setTop (mkF m 72 #[.val (.int p0), .val (.ref b1), .val (.int (4 : Int32)), .unset, .unset, .unset, .unset, .unset] [(.ref b1)])) _
      refine XS.iloadN X55.here hx rfl (hb hby at_72) rfl ?_
      show Steps p.tables e below (T55.setTop (mkF m 73 #[.val (.int p0), .val (.ref b1), .val (.int (4 : Int32)), .unset, .unset, .unset, .unset, .unset] [(.int (4 : Int32)), (.ref b1)])) _
      refine X55.aaload hx (j := (4 : Int32)) (v := (.ref aFORBIDDEN)) (by rw [e55]; exact Ar89.1) (State.isArrayOf_alike hZ.alike Ar89.2.1) rfl Ar89.2.2 (own_in Sz89 hi90) hl90 (g := (mkF m 73 #[.val (.int p0), .val (.ref b1), .val (.int (4 : Int32)), .unset, .unset, .unset, .unset, .unset] [(.int (4 : Int32)), (.ref b1)])) rfl rfl (hb hby at_73) _ ?_
      show Steps p.tables e below (T55.setTop (mkF m 74 #[.val (.int p0), .val (.ref b1), .val (.int (4 : Int32)), .unset, .unset, .unset, .unset, .unset] [(.ref aFORBIDDEN)])) _
      refine XS.astoreN X55.here hx rfl (hb hby at_74) rfl rfl (l' := #[.val (.int p0), .val (.ref b1), .val (.int (4 : Int32)), .val (.ref aFORBIDDEN), .unset, .unset, .unset, .unset]) rfl ?_
      show Steps p.tables e below (T55.setTop (mkF m 75 #[.val (.int p0), .val (.ref b1), .val (.int (4 : Int32)), .val (.ref aFORBIDDEN), .unset, .unset, .unset, .unset] [])) _
      refine XS.aloadN X55.here hx rfl (hb hby at_75) rfl rfl ?_
      show Steps p.tables e below (T55.setTop (mkF m 76 #[.val (.int p0), .val (.ref b1), .val (.int (4 : Int32)), .val (.ref aFORBIDDEN), .unset, .unset, .unset, .unset] [(.ref aFORBIDDEN)])) _
      refine st91 _ ?_
      show Steps p.tables e below (T91.setTop (mkF m 79 #[.val (.int p0), .val (.ref b1), .val (.int (4 : Int32)), .val (.ref aFORBIDDEN), .unset, .unset, .unset, .unset] [(.ref aINTERNAL_ERROR), (.ref aFORBIDDEN)])) _
      refine Jvm.RoadKit.acmp (g := (mkF m 79 #[.val (.int p0), .val (.ref b1), .val (.int (4 : Int32)), .val (.ref aFORBIDDEN), .unset, .unset, .unset, .unset] [(.ref aINTERNAL_ERROR), (.ref aFORBIDDEN)])) X91 hx rfl rfl rfl (pc0 := 79) (pc' := 86) (same := false) rfl (hb hby at_79) rfl (decide_eq_false fun q => ne_I (Value.ref.inj q)) (by decide) (by decide) ?_
      show Steps p.tables e below (T91.setTop (mkF m 86 #[.val (.int p0), .val (.ref b1), .val (.int (4 : Int32)), .val (.ref aFORBIDDEN), .unset, .unset, .unset, .unset] [])) _
      refine XS.iconst X91.here hx rfl (hb hby at_86) ?_
      show Steps p.tables e below (T91.setTop (mkF m 87 #[.val (.int p0), .val (.ref b1), .val (.int (4 : Int32)), .val (.ref aFORBIDDEN), .unset, .unset, .unset, .unset] [(.int (0 : Int32))])) _
      refine XS.istore X91.here hx rfl (hb hby at_87) rfl (l' := #[.val (.int p0), .val (.ref b1), .val (.int (4 : Int32)), .val (.ref aFORBIDDEN), .val (.int (0 : Int32)), .unset, .unset, .unset]) rfl ?_
      show Steps p.tables e below (T91.setTop (mkF m 89 #[.val (.int p0), .val (.ref b1), .val (.int (4 : Int32)), .val (.ref aFORBIDDEN), .val (.int (0 : Int32)), .unset, .unset, .unset] [])) _
      refine XS.aloadN X91.here hx rfl (hb hby at_89) rfl rfl ?_
      show Steps p.tables e below (T91.setTop (mkF m 90 #[.val (.int p0), .val (.ref b1), .val (.int (4 : Int32)), .val (.ref aFORBIDDEN), .val (.int (0 : Int32)), .unset, .unset, .unset] [(.ref aFORBIDDEN)])) _
      refine st92.trans ?_
      show Steps p.tables e below (T92.setTop (mkF m 93 #[.val (.int p0), .val (.ref b1), .val (.int (4 : Int32)), .val (.ref aFORBIDDEN), .val (.int (0 : Int32)), .unset, .unset, .unset] [(.int ((f1_15 (403 : Int32)) &&& 1))])) _
      refine XS.istore X92.here hx rfl (hb hby at_93) rfl (l' := #[.val (.int p0), .val (.ref b1), .val (.int (4 : Int32)), .val (.ref aFORBIDDEN), .val (.int (0 : Int32)), .val (.int ((f1_15 (403 : Int32)) &&& 1)), .unset, .unset]) rfl ?_
      show Steps p.tables e below (T92.setTop (mkF m 95 #[.val (.int p0), .val (.ref b1), .val (.int (4 : Int32)), .val (.ref aFORBIDDEN), .val (.int (0 : Int32)), .val (.int ((f1_15 (403 : Int32)) &&& 1)), .unset, .unset] [])) _
      refine XS.aloadN X92.here hx rfl (hb hby at_95) rfl rfl ?_
      show Steps p.tables e below (T92.setTop (mkF m 96 #[.val (.int p0), .val (.ref b1), .val (.int (4 : Int32)), .val (.ref aFORBIDDEN), .val (.int (0 : Int32)), .val (.int ((f1_15 (403 : Int32)) &&& 1)), .unset, .unset] [(.ref aFORBIDDEN)])) _
      refine st93.trans ?_
      show Steps p.tables e below (T93.setTop (mkF m 99 #[.val (.int p0), .val (.ref b1), .val (.int (4 : Int32)), .val (.ref aFORBIDDEN), .val (.int (0 : Int32)), .val (.int ((f1_15 (403 : Int32)) &&& 1)), .unset, .unset] [(.int (403 : Int32))])) _
      refine XS.istore X93.here hx rfl (hb hby at_99) rfl (l' := #[.val (.int p0), .val (.ref b1), .val (.int (4 : Int32)), .val (.ref aFORBIDDEN), .val (.int (0 : Int32)), .val (.int ((f1_15 (403 : Int32)) &&& 1)), .val (.int (403 : Int32)), .unset]) rfl ?_
      show Steps p.tables e below (T93.setTop (mkF m 101 #[.val (.int p0), .val (.ref b1), .val (.int (4 : Int32)), .val (.ref aFORBIDDEN), .val (.int (0 : Int32)), .val (.int ((f1_15 (403 : Int32)) &&& 1)), .val (.int (403 : Int32)), .unset] [])) _
      refine XS.iload X93.here hx rfl (hb hby at_101) rfl ?_
      show Steps p.tables e below (T93.setTop (mkF m 103 #[.val (.int p0), .val (.ref b1), .val (.int (4 : Int32)), .val (.ref aFORBIDDEN), .val (.int (0 : Int32)), .val (.int ((f1_15 (403 : Int32)) &&& 1)), .val (.int (403 : Int32)), .unset] [(.int (403 : Int32))])) _
      refine XS.sipush X93.here hx rfl (hb hby at_103) ?_
      show Steps p.tables e below (T93.setTop (mkF m 106 #[.val (.int p0), .val (.ref b1), .val (.int (4 : Int32)), .val (.ref aFORBIDDEN), .val (.int (0 : Int32)), .val (.int ((f1_15 (403 : Int32)) &&& 1)), .val (.int (403 : Int32)), .unset] [(.int (500 : Int32)), (.int (403 : Int32))])) _
      refine XS.icmpYes X93.here hx rfl (pc0 := 106) (pc' := 121) rfl (hb hby at_106) rfl (tlt (show (403 : Int32) < (500 : Int32) by decide)).1 (by decide) (by decide) ?_
      show Steps p.tables e below (T93.setTop (mkF m 121 #[.val (.int p0), .val (.ref b1), .val (.int (4 : Int32)), .val (.ref aFORBIDDEN), .val (.int (0 : Int32)), .val (.int ((f1_15 (403 : Int32)) &&& 1)), .val (.int (403 : Int32)), .unset] [])) _
      refine XS.iconst X93.here hx rfl (hb hby at_121) ?_
      show Steps p.tables e below (T93.setTop (mkF m 122 #[.val (.int p0), .val (.ref b1), .val (.int (4 : Int32)), .val (.ref aFORBIDDEN), .val (.int (0 : Int32)), .val (.int ((f1_15 (403 : Int32)) &&& 1)), .val (.int (403 : Int32)), .unset] [(.int (0 : Int32))])) _
      refine XS.istore X93.here hx rfl (hb hby at_122) rfl (l' := #[.val (.int p0), .val (.ref b1), .val (.int (4 : Int32)), .val (.ref aFORBIDDEN), .val (.int (0 : Int32)), .val (.int ((f1_15 (403 : Int32)) &&& 1)), .val (.int (403 : Int32)), .val (.int (0 : Int32))]) rfl ?_
      show Steps p.tables e below (T93.setTop (mkF m 124 #[.val (.int p0), .val (.ref b1), .val (.int (4 : Int32)), .val (.ref aFORBIDDEN), .val (.int (0 : Int32)), .val (.int ((f1_15 (403 : Int32)) &&& 1)), .val (.int (403 : Int32)), .val (.int (0 : Int32))] [])) _
      refine XS.iload X93.here hx rfl (hb hby at_124) rfl ?_
      show Steps p.tables e below (T93.setTop (mkF m 126 #[.val (.int p0), .val (.ref b1), .val (.int (4 : Int32)), .val (.ref aFORBIDDEN), .val (.int (0 : Int32)), .val (.int ((f1_15 (403 : Int32)) &&& 1)), .val (.int (403 : Int32)), .val (.int (0 : Int32))] [(.int ((f1_15 (403 : Int32)) &&& 1))])) _
      refine XS.iload X93.here hx rfl (hb hby at_126) rfl ?_
      show Steps p.tables e below (T93.setTop (mkF m 128 #[.val (.int p0), .val (.ref b1), .val (.int (4 : Int32)), .val (.ref aFORBIDDEN), .val (.int (0 : Int32)), .val (.int ((f1_15 (403 : Int32)) &&& 1)), .val (.int (403 : Int32)), .val (.int (0 : Int32))] [(.int (0 : Int32)), (.int ((f1_15 (403 : Int32)) &&& 1))])) _
      refine XS.icmpNo X93.here hx rfl (hb hby at_128) rfl (teq (show ((f1_15 (403 : Int32)) &&& 1) = (0 : Int32) from by decide)).2 ?_
      show Steps p.tables e below (T93.setTop (mkF m 131 #[.val (.int p0), .val (.ref b1), .val (.int (4 : Int32)), .val (.ref aFORBIDDEN), .val (.int (0 : Int32)), .val (.int ((f1_15 (403 : Int32)) &&& 1)), .val (.int (403 : Int32)), .val (.int (0 : Int32))] [])) _
      refine XS.iload X93.here hx rfl (hb hby at_131) rfl ?_
      show Steps p.tables e below (T93.setTop (mkF m 133 #[.val (.int p0), .val (.ref b1), .val (.int (4 : Int32)), .val (.ref aFORBIDDEN), .val (.int (0 : Int32)), .val (.int ((f1_15 (403 : Int32)) &&& 1)), .val (.int (403 : Int32)), .val (.int (0 : Int32))] [(.int ((f1_15 (403 : Int32)) &&& 1))])) _
      refine XS.iload X93.here hx rfl (hb hby at_133) rfl ?_
      show Steps p.tables e below (T93.setTop (mkF m 135 #[.val (.int p0), .val (.ref b1), .val (.int (4 : Int32)), .val (.ref aFORBIDDEN), .val (.int (0 : Int32)), .val (.int ((f1_15 (403 : Int32)) &&& 1)), .val (.int (403 : Int32)), .val (.int (0 : Int32))] [(.int (0 : Int32)), (.int ((f1_15 (403 : Int32)) &&& 1))])) _
      refine XS.icmpNo X93.here hx rfl (hb hby at_135) rfl (teq (show ((f1_15 (403 : Int32)) &&& 1) = (0 : Int32) from by decide)).2 ?_
      show Steps p.tables e below (T93.setTop (mkF m 138 #[.val (.int p0), .val (.ref b1), .val (.int (4 : Int32)), .val (.ref aFORBIDDEN), .val (.int (0 : Int32)), .val (.int ((f1_15 (403 : Int32)) &&& 1)), .val (.int (403 : Int32)), .val (.int (0 : Int32))] [])) _
      refine XS.iconst X93.here hx rfl (hb hby at_138) ?_
      show Steps p.tables e below (T93.setTop (mkF m 139 #[.val (.int p0), .val (.ref b1), .val (.int (4 : Int32)), .val (.ref aFORBIDDEN), .val (.int (0 : Int32)), .val (.int ((f1_15 (403 : Int32)) &&& 1)), .val (.int (403 : Int32)), .val (.int (0 : Int32))] [(.int (1 : Int32))])) _
      refine XS.goto X93.here hx rfl (pc0 := 139) (pc' := 143) rfl (hb hby at_139) (by decide) (by decide) ?_
      show Steps p.tables e below (T93.setTop (mkF m 143 #[.val (.int p0), .val (.ref b1), .val (.int (4 : Int32)), .val (.ref aFORBIDDEN), .val (.int (0 : Int32)), .val (.int ((f1_15 (403 : Int32)) &&& 1)), .val (.int (403 : Int32)), .val (.int (0 : Int32))] [(.int (1 : Int32))])) _
      exact k)
    obtain ⟨fs, hr, hrun, hended, hW, hsame⟩ := X93.leave (v := some (.int (1 : Int32))) (fun h => by rw [Bd.returns] at h; cases h)
    refine ⟨_, _, pre94 _ ?_, hrun, hended, _, _, rfl, ?_, ⟨_, rfl⟩, hW, hsame.mono (by decide) (by decide)⟩
    · exact retN X93 hx (t := .boolean) Bd.returns (by simp) (hb hby at_143) hr
    · show Q0 Z p0 aOK aNO_CONTENT aBAD_REQUEST aUNAUTHORIZED aFORBIDDEN aNOT_FOUND aCONFLICT aINVARIANT_VIOLATED aINTERNAL_ERROR h0 n0 _ T93.heap _
      rw [hh93]
      exact ⟨rfl, N93⟩
  · have pre95 : ∀ t, Steps p.tables e below (T55.setTop (mkF m 71 #[.val (.int p0), .val (.ref b1), .val (.int (5 : Int32)), .unset, .unset, .unset, .unset, .unset] [])) t → Steps p.tables e below (s₁.setTop (entryFrame m #[(.int p0)] maxLocals)) t := fun t k => pre59 t (by rw [hk]; exact k)
    have qa96 := A_b1_w55
    obtain ⟨c96, Ar96, Sz96, H96⟩ := qa96
    have hi97 : 0 ≤ ((5 : Int32) : Int32).toInt ∧ ((5 : Int32) : Int32).toInt < (9 : Nat) := (by decide)
    have hl97 : c96.slots[((5 : Int32) : Int32).toNatClampNeg]? = some (.ref aNOT_FOUND) := H96 _ (own_ix hi97)
    obtain ⟨T98, X98, e98, st98⟩ := getS2 X55 hx hZ hown (host := "") (Or.inl (hw _ (List.mem_of_getElem? (i := 20) rfl))) Via.refl e55 S_INTERNAL_ERROR_56 (g := (mkF m 76 #[.val (.int p0), .val (.ref b1), .val (.int (5 : Int32)), .val (.ref aNOT_FOUND), .unset, .unset, .unset, .unset] [(.ref aNOT_FOUND)])) rfl (hb hby at_76)
    have ne_I : ¬ aNOT_FOUND = aINTERNAL_ERROR := Fld.ne F_ordinal_aNOT_FOUND_56 F_ordinal_aINTERNAL_ERROR_56 (fun q => absurd (Value.int.inj q) (by decide))
    obtain ⟨cq99, kq99, q99a, q99b, q99c⟩ := isOf hZ e98 (E_aNOT_FOUND_56)
    obtain ⟨_, _, ⟨T99, L99, k99, n99⟩, -, X99, ⟨Lc99, hQ99, l99, y99, z99⟩, st99⟩ := X98.virtualBack hx (y := (⟨"com/example/tenet/tenet/runtime/Status", "isServerError", "()Z"⟩ : MethodName)) (z := (⟨"com/example/tenet/tenet/runtime/Status", "isServerError", "()Z"⟩ : MethodName)) hown (mvT hZ (hw _ (List.mem_of_getElem? (i := 23) rfl))) (mvT hZ (hw _ (List.mem_of_getElem? (i := 24) rfl))) (notFace_of_selects (args := #[]) (mvT hZ (hw _ (List.mem_of_getElem? (i := 26) rfl)))) (mvT hZ (hw _ (List.mem_of_getElem? (i := 26) rfl))) (mvT hZ (hw _ (List.mem_of_getElem? (i := 25) rfl))) (by decide) (backOf (W := 0) (rm1 l Z a0 hw [] aNOT_FOUND (404 : Int32) h55 n0 ZZ57 F_code_aNOT_FOUND_56) hZ (hw _ (List.mem_of_getElem? (i := 27) rfl)) (hw _ (List.mem_of_getElem? (i := 3) rfl)) (by decide) (by decide)) q99a q99c (g := (mkF m 90 #[.val (.int p0), .val (.ref b1), .val (.int (5 : Int32)), .val (.ref aNOT_FOUND), .val (.int (0 : Int32)), .unset, .unset, .unset] [(.ref aNOT_FOUND)])) rfl (by rw [hml]; rfl) (Steps.refl _) (argsL := []) (rest := []) (lenOf pd_0 rfl) rfl (by show 2 * 0 + _ ≤ _; exact Nat.le_of_eq rfl) (hb hby at_90) (fun _ _ => ⟨rfl, e98, (by decide : 1 + 0 ≤ _), (by decide : 9 + 0 ≤ _)⟩)
    dsimp only [Pt.U, Pt.locs, Pt.cells, Pt.slots] at X99 l99 y99 z99 st99 hQ99
    subst l99 y99 z99
    obtain ⟨rfl, N99q, hh99⟩ := hQ99
    have N99 := Fr.app N55 N99q
    obtain ⟨cq100, kq100, q100a, q100b, q100c⟩ := isOf hZ hh99 (E_aNOT_FOUND_56)
    obtain ⟨_, _, ⟨T100, L100, k100, n100⟩, -, X100, ⟨Lc100, hQ100, l100, y100, z100⟩, st100⟩ := X99.virtualBack hx (y := (⟨"com/example/tenet/tenet/runtime/Status", "code", "()I"⟩ : MethodName)) (z := (⟨"com/example/tenet/tenet/runtime/Status", "code", "()I"⟩ : MethodName)) hown (mvT hZ (hw _ (List.mem_of_getElem? (i := 30) rfl))) (mvT hZ (hw _ (List.mem_of_getElem? (i := 31) rfl))) (notFace_of_selects (args := #[]) (mvT hZ (hw _ (List.mem_of_getElem? (i := 33) rfl)))) (mvT hZ (hw _ (List.mem_of_getElem? (i := 33) rfl))) (mvT hZ (hw _ (List.mem_of_getElem? (i := 32) rfl))) (by decide) (backOf (W := 0) (rm2 l Z a0 hw [] aNOT_FOUND (404 : Int32) h55 n0 ZZ57 F_code_aNOT_FOUND_56) hZ (hw _ (List.mem_of_getElem? (i := 34) rfl)) (hw _ (List.mem_of_getElem? (i := 3) rfl)) (by decide) (by decide)) q100a q100c (g := (mkF m 96 #[.val (.int p0), .val (.ref b1), .val (.int (5 : Int32)), .val (.ref aNOT_FOUND), .val (.int (0 : Int32)), .val (.int ((f1_15 (404 : Int32)) &&& 1)), .unset, .unset] [(.ref aNOT_FOUND)])) rfl (by rw [hml]; rfl) (Steps.refl _) (argsL := []) (rest := []) (lenOf pd_1 rfl) rfl (by show 2 * 0 + _ ≤ _; exact Nat.le_of_eq rfl) (hb hby at_96) (fun _ _ => ⟨rfl, hh99, (by decide : 1 + 0 ≤ _), (by decide : 9 + 0 ≤ _)⟩)
    dsimp only [Pt.U, Pt.locs, Pt.cells, Pt.slots] at X100 l100 y100 z100 st100 hQ100
    subst l100 y100 z100
    obtain ⟨rfl, N100q, hh100⟩ := hQ100
    have N100 := Fr.app N99 N100q
    have pre101 : ∀ t, Steps p.tables e below (T100.setTop (mkF m 143 #[.val (.int p0), .val (.ref b1), .val (.int (5 : Int32)), .val (.ref aNOT_FOUND), .val (.int (0 : Int32)), .val (.int ((f1_15 (404 : Int32)) &&& 1)), .val (.int (404 : Int32)), .val (.int (0 : Int32))] [(.int (1 : Int32))])) t → Steps p.tables e below (s₁.setTop (entryFrame m #[(.int p0)] maxLocals)) t := fun t k => pre95 t (by
      show Steps p.tables e below (T55.setTop (mkF m 71 #[.val (.int p0), .val (.ref b1), .val (.int (5 : Int32)), .unset, .unset, .unset, .unset, .unset] [])) _
      refine XS.aloadN X55.here hx rfl (hb hby at_71) rfl rfl ?_
      show Steps p.tables e below (T55.setTop (mkF m 72 #[.val (.int p0), .val (.ref b1), .val (.int (5 : Int32)), .unset, .unset, .unset, .unset, .unset] [(.ref b1)])) _
      refine XS.iloadN X55.here hx rfl (hb hby at_72) rfl ?_
      show Steps p.tables e below (T55.setTop (mkF m 73 #[.val (.int p0), .val (.ref b1), .val (.int (5 : Int32)), .unset, .unset, .unset, .unset, .unset] [(.int (5 : Int32)), (.ref b1)])) _
      refine X55.aaload hx (j := (5 : Int32)) (v := (.ref aNOT_FOUND)) (by rw [e55]; exact Ar96.1) (State.isArrayOf_alike hZ.alike Ar96.2.1) rfl Ar96.2.2 (own_in Sz96 hi97) hl97 (g := (mkF m 73 #[.val (.int p0), .val (.ref b1), .val (.int (5 : Int32)), .unset, .unset, .unset, .unset, .unset] [(.int (5 : Int32)), (.ref b1)])) rfl rfl (hb hby at_73) _ ?_
      show Steps p.tables e below (T55.setTop (mkF m 74 #[.val (.int p0), .val (.ref b1), .val (.int (5 : Int32)), .unset, .unset, .unset, .unset, .unset] [(.ref aNOT_FOUND)])) _
      refine XS.astoreN X55.here hx rfl (hb hby at_74) rfl rfl (l' := #[.val (.int p0), .val (.ref b1), .val (.int (5 : Int32)), .val (.ref aNOT_FOUND), .unset, .unset, .unset, .unset]) rfl ?_
      show Steps p.tables e below (T55.setTop (mkF m 75 #[.val (.int p0), .val (.ref b1), .val (.int (5 : Int32)), .val (.ref aNOT_FOUND), .unset, .unset, .unset, .unset] [])) _
      refine XS.aloadN X55.here hx rfl (hb hby at_75) rfl rfl ?_
      show Steps p.tables e below (T55.setTop (mkF m 76 #[.val (.int p0), .val (.ref b1), .val (.int (5 : Int32)), .val (.ref aNOT_FOUND), .unset, .unset, .unset, .unset] [(.ref aNOT_FOUND)])) _
      refine st98 _ ?_
      show Steps p.tables e below (T98.setTop (mkF m 79 #[.val (.int p0), .val (.ref b1), .val (.int (5 : Int32)), .val (.ref aNOT_FOUND), .unset, .unset, .unset, .unset] [(.ref aINTERNAL_ERROR), (.ref aNOT_FOUND)])) _
      refine Jvm.RoadKit.acmp (g := (mkF m 79 #[.val (.int p0), .val (.ref b1), .val (.int (5 : Int32)), .val (.ref aNOT_FOUND), .unset, .unset, .unset, .unset] [(.ref aINTERNAL_ERROR), (.ref aNOT_FOUND)])) X98 hx rfl rfl rfl (pc0 := 79) (pc' := 86) (same := false) rfl (hb hby at_79) rfl (decide_eq_false fun q => ne_I (Value.ref.inj q)) (by decide) (by decide) ?_
      show Steps p.tables e below (T98.setTop (mkF m 86 #[.val (.int p0), .val (.ref b1), .val (.int (5 : Int32)), .val (.ref aNOT_FOUND), .unset, .unset, .unset, .unset] [])) _
      refine XS.iconst X98.here hx rfl (hb hby at_86) ?_
      show Steps p.tables e below (T98.setTop (mkF m 87 #[.val (.int p0), .val (.ref b1), .val (.int (5 : Int32)), .val (.ref aNOT_FOUND), .unset, .unset, .unset, .unset] [(.int (0 : Int32))])) _
      refine XS.istore X98.here hx rfl (hb hby at_87) rfl (l' := #[.val (.int p0), .val (.ref b1), .val (.int (5 : Int32)), .val (.ref aNOT_FOUND), .val (.int (0 : Int32)), .unset, .unset, .unset]) rfl ?_
      show Steps p.tables e below (T98.setTop (mkF m 89 #[.val (.int p0), .val (.ref b1), .val (.int (5 : Int32)), .val (.ref aNOT_FOUND), .val (.int (0 : Int32)), .unset, .unset, .unset] [])) _
      refine XS.aloadN X98.here hx rfl (hb hby at_89) rfl rfl ?_
      show Steps p.tables e below (T98.setTop (mkF m 90 #[.val (.int p0), .val (.ref b1), .val (.int (5 : Int32)), .val (.ref aNOT_FOUND), .val (.int (0 : Int32)), .unset, .unset, .unset] [(.ref aNOT_FOUND)])) _
      refine st99.trans ?_
      show Steps p.tables e below (T99.setTop (mkF m 93 #[.val (.int p0), .val (.ref b1), .val (.int (5 : Int32)), .val (.ref aNOT_FOUND), .val (.int (0 : Int32)), .unset, .unset, .unset] [(.int ((f1_15 (404 : Int32)) &&& 1))])) _
      refine XS.istore X99.here hx rfl (hb hby at_93) rfl (l' := #[.val (.int p0), .val (.ref b1), .val (.int (5 : Int32)), .val (.ref aNOT_FOUND), .val (.int (0 : Int32)), .val (.int ((f1_15 (404 : Int32)) &&& 1)), .unset, .unset]) rfl ?_
      show Steps p.tables e below (T99.setTop (mkF m 95 #[.val (.int p0), .val (.ref b1), .val (.int (5 : Int32)), .val (.ref aNOT_FOUND), .val (.int (0 : Int32)), .val (.int ((f1_15 (404 : Int32)) &&& 1)), .unset, .unset] [])) _
      refine XS.aloadN X99.here hx rfl (hb hby at_95) rfl rfl ?_
      show Steps p.tables e below (T99.setTop (mkF m 96 #[.val (.int p0), .val (.ref b1), .val (.int (5 : Int32)), .val (.ref aNOT_FOUND), .val (.int (0 : Int32)), .val (.int ((f1_15 (404 : Int32)) &&& 1)), .unset, .unset] [(.ref aNOT_FOUND)])) _
      refine st100.trans ?_
      show Steps p.tables e below (T100.setTop (mkF m 99 #[.val (.int p0), .val (.ref b1), .val (.int (5 : Int32)), .val (.ref aNOT_FOUND), .val (.int (0 : Int32)), .val (.int ((f1_15 (404 : Int32)) &&& 1)), .unset, .unset] [(.int (404 : Int32))])) _
      refine XS.istore X100.here hx rfl (hb hby at_99) rfl (l' := #[.val (.int p0), .val (.ref b1), .val (.int (5 : Int32)), .val (.ref aNOT_FOUND), .val (.int (0 : Int32)), .val (.int ((f1_15 (404 : Int32)) &&& 1)), .val (.int (404 : Int32)), .unset]) rfl ?_
      show Steps p.tables e below (T100.setTop (mkF m 101 #[.val (.int p0), .val (.ref b1), .val (.int (5 : Int32)), .val (.ref aNOT_FOUND), .val (.int (0 : Int32)), .val (.int ((f1_15 (404 : Int32)) &&& 1)), .val (.int (404 : Int32)), .unset] [])) _
      refine XS.iload X100.here hx rfl (hb hby at_101) rfl ?_
      show Steps p.tables e below (T100.setTop (mkF m 103 #[.val (.int p0), .val (.ref b1), .val (.int (5 : Int32)), .val (.ref aNOT_FOUND), .val (.int (0 : Int32)), .val (.int ((f1_15 (404 : Int32)) &&& 1)), .val (.int (404 : Int32)), .unset] [(.int (404 : Int32))])) _
      refine XS.sipush X100.here hx rfl (hb hby at_103) ?_
      show Steps p.tables e below (T100.setTop (mkF m 106 #[.val (.int p0), .val (.ref b1), .val (.int (5 : Int32)), .val (.ref aNOT_FOUND), .val (.int (0 : Int32)), .val (.int ((f1_15 (404 : Int32)) &&& 1)), .val (.int (404 : Int32)), .unset] [(.int (500 : Int32)), (.int (404 : Int32))])) _
      refine XS.icmpYes X100.here hx rfl (pc0 := 106) (pc' := 121) rfl (hb hby at_106) rfl (tlt (show (404 : Int32) < (500 : Int32) by decide)).1 (by decide) (by decide) ?_
      show Steps p.tables e below (T100.setTop (mkF m 121 #[.val (.int p0), .val (.ref b1), .val (.int (5 : Int32)), .val (.ref aNOT_FOUND), .val (.int (0 : Int32)), .val (.int ((f1_15 (404 : Int32)) &&& 1)), .val (.int (404 : Int32)), .unset] [])) _
      refine XS.iconst X100.here hx rfl (hb hby at_121) ?_
      show Steps p.tables e below (T100.setTop (mkF m 122 #[.val (.int p0), .val (.ref b1), .val (.int (5 : Int32)), .val (.ref aNOT_FOUND), .val (.int (0 : Int32)), .val (.int ((f1_15 (404 : Int32)) &&& 1)), .val (.int (404 : Int32)), .unset] [(.int (0 : Int32))])) _
      refine XS.istore X100.here hx rfl (hb hby at_122) rfl (l' := #[.val (.int p0), .val (.ref b1), .val (.int (5 : Int32)), .val (.ref aNOT_FOUND), .val (.int (0 : Int32)), .val (.int ((f1_15 (404 : Int32)) &&& 1)), .val (.int (404 : Int32)), .val (.int (0 : Int32))]) rfl ?_
      show Steps p.tables e below (T100.setTop (mkF m 124 #[.val (.int p0), .val (.ref b1), .val (.int (5 : Int32)), .val (.ref aNOT_FOUND), .val (.int (0 : Int32)), .val (.int ((f1_15 (404 : Int32)) &&& 1)), .val (.int (404 : Int32)), .val (.int (0 : Int32))] [])) _
      refine XS.iload X100.here hx rfl (hb hby at_124) rfl ?_
      show Steps p.tables e below (T100.setTop (mkF m 126 #[.val (.int p0), .val (.ref b1), .val (.int (5 : Int32)), .val (.ref aNOT_FOUND), .val (.int (0 : Int32)), .val (.int ((f1_15 (404 : Int32)) &&& 1)), .val (.int (404 : Int32)), .val (.int (0 : Int32))] [(.int ((f1_15 (404 : Int32)) &&& 1))])) _
      refine XS.iload X100.here hx rfl (hb hby at_126) rfl ?_
      show Steps p.tables e below (T100.setTop (mkF m 128 #[.val (.int p0), .val (.ref b1), .val (.int (5 : Int32)), .val (.ref aNOT_FOUND), .val (.int (0 : Int32)), .val (.int ((f1_15 (404 : Int32)) &&& 1)), .val (.int (404 : Int32)), .val (.int (0 : Int32))] [(.int (0 : Int32)), (.int ((f1_15 (404 : Int32)) &&& 1))])) _
      refine XS.icmpNo X100.here hx rfl (hb hby at_128) rfl (teq (show ((f1_15 (404 : Int32)) &&& 1) = (0 : Int32) from by decide)).2 ?_
      show Steps p.tables e below (T100.setTop (mkF m 131 #[.val (.int p0), .val (.ref b1), .val (.int (5 : Int32)), .val (.ref aNOT_FOUND), .val (.int (0 : Int32)), .val (.int ((f1_15 (404 : Int32)) &&& 1)), .val (.int (404 : Int32)), .val (.int (0 : Int32))] [])) _
      refine XS.iload X100.here hx rfl (hb hby at_131) rfl ?_
      show Steps p.tables e below (T100.setTop (mkF m 133 #[.val (.int p0), .val (.ref b1), .val (.int (5 : Int32)), .val (.ref aNOT_FOUND), .val (.int (0 : Int32)), .val (.int ((f1_15 (404 : Int32)) &&& 1)), .val (.int (404 : Int32)), .val (.int (0 : Int32))] [(.int ((f1_15 (404 : Int32)) &&& 1))])) _
      refine XS.iload X100.here hx rfl (hb hby at_133) rfl ?_
      show Steps p.tables e below (T100.setTop (mkF m 135 #[.val (.int p0), .val (.ref b1), .val (.int (5 : Int32)), .val (.ref aNOT_FOUND), .val (.int (0 : Int32)), .val (.int ((f1_15 (404 : Int32)) &&& 1)), .val (.int (404 : Int32)), .val (.int (0 : Int32))] [(.int (0 : Int32)), (.int ((f1_15 (404 : Int32)) &&& 1))])) _
      refine XS.icmpNo X100.here hx rfl (hb hby at_135) rfl (teq (show ((f1_15 (404 : Int32)) &&& 1) = (0 : Int32) from by decide)).2 ?_
      show Steps p.tables e below (T100.setTop (mkF m 138 #[.val (.int p0), .val (.ref b1), .val (.int (5 : Int32)), .val (.ref aNOT_FOUND), .val (.int (0 : Int32)), .val (.int ((f1_15 (404 : Int32)) &&& 1)), .val (.int (404 : Int32)), .val (.int (0 : Int32))] [])) _
      refine XS.iconst X100.here hx rfl (hb hby at_138) ?_
      show Steps p.tables e below (T100.setTop (mkF m 139 #[.val (.int p0), .val (.ref b1), .val (.int (5 : Int32)), .val (.ref aNOT_FOUND), .val (.int (0 : Int32)), .val (.int ((f1_15 (404 : Int32)) &&& 1)), .val (.int (404 : Int32)), .val (.int (0 : Int32))] [(.int (1 : Int32))])) _
      refine XS.goto X100.here hx rfl (pc0 := 139) (pc' := 143) rfl (hb hby at_139) (by decide) (by decide) ?_
      show Steps p.tables e below (T100.setTop (mkF m 143 #[.val (.int p0), .val (.ref b1), .val (.int (5 : Int32)), .val (.ref aNOT_FOUND), .val (.int (0 : Int32)), .val (.int ((f1_15 (404 : Int32)) &&& 1)), .val (.int (404 : Int32)), .val (.int (0 : Int32))] [(.int (1 : Int32))])) _
      exact k)
    obtain ⟨fs, hr, hrun, hended, hW, hsame⟩ := X100.leave (v := some (.int (1 : Int32))) (fun h => by rw [Bd.returns] at h; cases h)
    refine ⟨_, _, pre101 _ ?_, hrun, hended, _, _, rfl, ?_, ⟨_, rfl⟩, hW, hsame.mono (by decide) (by decide)⟩
    · exact retN X100 hx (t := .boolean) Bd.returns (by simp) (hb hby at_143) hr
    · show Q0 Z p0 aOK aNO_CONTENT aBAD_REQUEST aUNAUTHORIZED aFORBIDDEN aNOT_FOUND aCONFLICT aINVARIANT_VIOLATED aINTERNAL_ERROR h0 n0 _ T100.heap _
      rw [hh100]
      exact ⟨rfl, N100⟩
  · have pre102 : ∀ t, Steps p.tables e below (T55.setTop (mkF m 71 #[.val (.int p0), .val (.ref b1), .val (.int (6 : Int32)), .unset, .unset, .unset, .unset, .unset] [])) t → Steps p.tables e below (s₁.setTop (entryFrame m #[(.int p0)] maxLocals)) t := fun t k => pre59 t (by rw [hk]; exact k)
    have qa103 := A_b1_w55
    obtain ⟨c103, Ar103, Sz103, H103⟩ := qa103
    have hi104 : 0 ≤ ((6 : Int32) : Int32).toInt ∧ ((6 : Int32) : Int32).toInt < (9 : Nat) := (by decide)
    have hl104 : c103.slots[((6 : Int32) : Int32).toNatClampNeg]? = some (.ref aCONFLICT) := H103 _ (own_ix hi104)
    obtain ⟨T105, X105, e105, st105⟩ := getS2 X55 hx hZ hown (host := "") (Or.inl (hw _ (List.mem_of_getElem? (i := 20) rfl))) Via.refl e55 S_INTERNAL_ERROR_56 (g := (mkF m 76 #[.val (.int p0), .val (.ref b1), .val (.int (6 : Int32)), .val (.ref aCONFLICT), .unset, .unset, .unset, .unset] [(.ref aCONFLICT)])) rfl (hb hby at_76)
    have ne_I : ¬ aCONFLICT = aINTERNAL_ERROR := Fld.ne F_ordinal_aCONFLICT_56 F_ordinal_aINTERNAL_ERROR_56 (fun q => absurd (Value.int.inj q) (by decide))
    obtain ⟨cq106, kq106, q106a, q106b, q106c⟩ := isOf hZ e105 (E_aCONFLICT_56)
    obtain ⟨_, _, ⟨T106, L106, k106, n106⟩, -, X106, ⟨Lc106, hQ106, l106, y106, z106⟩, st106⟩ := X105.virtualBack hx (y := (⟨"com/example/tenet/tenet/runtime/Status", "isServerError", "()Z"⟩ : MethodName)) (z := (⟨"com/example/tenet/tenet/runtime/Status", "isServerError", "()Z"⟩ : MethodName)) hown (mvT hZ (hw _ (List.mem_of_getElem? (i := 23) rfl))) (mvT hZ (hw _ (List.mem_of_getElem? (i := 24) rfl))) (notFace_of_selects (args := #[]) (mvT hZ (hw _ (List.mem_of_getElem? (i := 26) rfl)))) (mvT hZ (hw _ (List.mem_of_getElem? (i := 26) rfl))) (mvT hZ (hw _ (List.mem_of_getElem? (i := 25) rfl))) (by decide) (backOf (W := 0) (rm1 l Z a0 hw [] aCONFLICT (409 : Int32) h55 n0 ZZ57 F_code_aCONFLICT_56) hZ (hw _ (List.mem_of_getElem? (i := 27) rfl)) (hw _ (List.mem_of_getElem? (i := 3) rfl)) (by decide) (by decide)) q106a q106c (g := (mkF m 90 #[.val (.int p0), .val (.ref b1), .val (.int (6 : Int32)), .val (.ref aCONFLICT), .val (.int (0 : Int32)), .unset, .unset, .unset] [(.ref aCONFLICT)])) rfl (by rw [hml]; rfl) (Steps.refl _) (argsL := []) (rest := []) (lenOf pd_0 rfl) rfl (by show 2 * 0 + _ ≤ _; exact Nat.le_of_eq rfl) (hb hby at_90) (fun _ _ => ⟨rfl, e105, (by decide : 1 + 0 ≤ _), (by decide : 9 + 0 ≤ _)⟩)
    dsimp only [Pt.U, Pt.locs, Pt.cells, Pt.slots] at X106 l106 y106 z106 st106 hQ106
    subst l106 y106 z106
    obtain ⟨rfl, N106q, hh106⟩ := hQ106
    have N106 := Fr.app N55 N106q
    obtain ⟨cq107, kq107, q107a, q107b, q107c⟩ := isOf hZ hh106 (E_aCONFLICT_56)
    obtain ⟨_, _, ⟨T107, L107, k107, n107⟩, -, X107, ⟨Lc107, hQ107, l107, y107, z107⟩, st107⟩ := X106.virtualBack hx (y := (⟨"com/example/tenet/tenet/runtime/Status", "code", "()I"⟩ : MethodName)) (z := (⟨"com/example/tenet/tenet/runtime/Status", "code", "()I"⟩ : MethodName)) hown (mvT hZ (hw _ (List.mem_of_getElem? (i := 30) rfl))) (mvT hZ (hw _ (List.mem_of_getElem? (i := 31) rfl))) (notFace_of_selects (args := #[]) (mvT hZ (hw _ (List.mem_of_getElem? (i := 33) rfl)))) (mvT hZ (hw _ (List.mem_of_getElem? (i := 33) rfl))) (mvT hZ (hw _ (List.mem_of_getElem? (i := 32) rfl))) (by decide) (backOf (W := 0) (rm2 l Z a0 hw [] aCONFLICT (409 : Int32) h55 n0 ZZ57 F_code_aCONFLICT_56) hZ (hw _ (List.mem_of_getElem? (i := 34) rfl)) (hw _ (List.mem_of_getElem? (i := 3) rfl)) (by decide) (by decide)) q107a q107c (g := (mkF m 96 #[.val (.int p0), .val (.ref b1), .val (.int (6 : Int32)), .val (.ref aCONFLICT), .val (.int (0 : Int32)), .val (.int ((f1_15 (409 : Int32)) &&& 1)), .unset, .unset] [(.ref aCONFLICT)])) rfl (by rw [hml]; rfl) (Steps.refl _) (argsL := []) (rest := []) (lenOf pd_1 rfl) rfl (by show 2 * 0 + _ ≤ _; exact Nat.le_of_eq rfl) (hb hby at_96) (fun _ _ => ⟨rfl, hh106, (by decide : 1 + 0 ≤ _), (by decide : 9 + 0 ≤ _)⟩)
    dsimp only [Pt.U, Pt.locs, Pt.cells, Pt.slots] at X107 l107 y107 z107 st107 hQ107
    subst l107 y107 z107
    obtain ⟨rfl, N107q, hh107⟩ := hQ107
    have N107 := Fr.app N106 N107q
    have pre108 : ∀ t, Steps p.tables e below (T107.setTop (mkF m 143 #[.val (.int p0), .val (.ref b1), .val (.int (6 : Int32)), .val (.ref aCONFLICT), .val (.int (0 : Int32)), .val (.int ((f1_15 (409 : Int32)) &&& 1)), .val (.int (409 : Int32)), .val (.int (0 : Int32))] [(.int (1 : Int32))])) t → Steps p.tables e below (s₁.setTop (entryFrame m #[(.int p0)] maxLocals)) t := fun t k => pre102 t (by
      show Steps p.tables e below (T55.setTop (mkF m 71 #[.val (.int p0), .val (.ref b1), .val (.int (6 : Int32)), .unset, .unset, .unset, .unset, .unset] [])) _
      refine XS.aloadN X55.here hx rfl (hb hby at_71) rfl rfl ?_
      show Steps p.tables e below (T55.setTop (mkF m 72 #[.val (.int p0), .val (.ref b1), .val (.int (6 : Int32)), .unset, .unset, .unset, .unset, .unset] [(.ref b1)])) _
      refine XS.iloadN X55.here hx rfl (hb hby at_72) rfl ?_
      show Steps p.tables e below (T55.setTop (mkF m 73 #[.val (.int p0), .val (.ref b1), .val (.int (6 : Int32)), .unset, .unset, .unset, .unset, .unset] [(.int (6 : Int32)), (.ref b1)])) _
      refine X55.aaload hx (j := (6 : Int32)) (v := (.ref aCONFLICT)) (by rw [e55]; exact Ar103.1) (State.isArrayOf_alike hZ.alike Ar103.2.1) rfl Ar103.2.2 (own_in Sz103 hi104) hl104 (g := (mkF m 73 #[.val (.int p0), .val (.ref b1), .val (.int (6 : Int32)), .unset, .unset, .unset, .unset, .unset] [(.int (6 : Int32)), (.ref b1)])) rfl rfl (hb hby at_73) _ ?_
      show Steps p.tables e below (T55.setTop (mkF m 74 #[.val (.int p0), .val (.ref b1), .val (.int (6 : Int32)), .unset, .unset, .unset, .unset, .unset] [(.ref aCONFLICT)])) _
      refine XS.astoreN X55.here hx rfl (hb hby at_74) rfl rfl (l' := #[.val (.int p0), .val (.ref b1), .val (.int (6 : Int32)), .val (.ref aCONFLICT), .unset, .unset, .unset, .unset]) rfl ?_
      show Steps p.tables e below (T55.setTop (mkF m 75 #[.val (.int p0), .val (.ref b1), .val (.int (6 : Int32)), .val (.ref aCONFLICT), .unset, .unset, .unset, .unset] [])) _
      refine XS.aloadN X55.here hx rfl (hb hby at_75) rfl rfl ?_
      show Steps p.tables e below (T55.setTop (mkF m 76 #[.val (.int p0), .val (.ref b1), .val (.int (6 : Int32)), .val (.ref aCONFLICT), .unset, .unset, .unset, .unset] [(.ref aCONFLICT)])) _
      refine st105 _ ?_
      show Steps p.tables e below (T105.setTop (mkF m 79 #[.val (.int p0), .val (.ref b1), .val (.int (6 : Int32)), .val (.ref aCONFLICT), .unset, .unset, .unset, .unset] [(.ref aINTERNAL_ERROR), (.ref aCONFLICT)])) _
      refine Jvm.RoadKit.acmp (g := (mkF m 79 #[.val (.int p0), .val (.ref b1), .val (.int (6 : Int32)), .val (.ref aCONFLICT), .unset, .unset, .unset, .unset] [(.ref aINTERNAL_ERROR), (.ref aCONFLICT)])) X105 hx rfl rfl rfl (pc0 := 79) (pc' := 86) (same := false) rfl (hb hby at_79) rfl (decide_eq_false fun q => ne_I (Value.ref.inj q)) (by decide) (by decide) ?_
      show Steps p.tables e below (T105.setTop (mkF m 86 #[.val (.int p0), .val (.ref b1), .val (.int (6 : Int32)), .val (.ref aCONFLICT), .unset, .unset, .unset, .unset] [])) _
      refine XS.iconst X105.here hx rfl (hb hby at_86) ?_
      show Steps p.tables e below (T105.setTop (mkF m 87 #[.val (.int p0), .val (.ref b1), .val (.int (6 : Int32)), .val (.ref aCONFLICT), .unset, .unset, .unset, .unset] [(.int (0 : Int32))])) _
      refine XS.istore X105.here hx rfl (hb hby at_87) rfl (l' := #[.val (.int p0), .val (.ref b1), .val (.int (6 : Int32)), .val (.ref aCONFLICT), .val (.int (0 : Int32)), .unset, .unset, .unset]) rfl ?_
      show Steps p.tables e below (T105.setTop (mkF m 89 #[.val (.int p0), .val (.ref b1), .val (.int (6 : Int32)), .val (.ref aCONFLICT), .val (.int (0 : Int32)), .unset, .unset, .unset] [])) _
      refine XS.aloadN X105.here hx rfl (hb hby at_89) rfl rfl ?_
      show Steps p.tables e below (T105.setTop (mkF m 90 #[.val (.int p0), .val (.ref b1), .val (.int (6 : Int32)), .val (.ref aCONFLICT), .val (.int (0 : Int32)), .unset, .unset, .unset] [(.ref aCONFLICT)])) _
      refine st106.trans ?_
      show Steps p.tables e below (T106.setTop (mkF m 93 #[.val (.int p0), .val (.ref b1), .val (.int (6 : Int32)), .val (.ref aCONFLICT), .val (.int (0 : Int32)), .unset, .unset, .unset] [(.int ((f1_15 (409 : Int32)) &&& 1))])) _
      refine XS.istore X106.here hx rfl (hb hby at_93) rfl (l' := #[.val (.int p0), .val (.ref b1), .val (.int (6 : Int32)), .val (.ref aCONFLICT), .val (.int (0 : Int32)), .val (.int ((f1_15 (409 : Int32)) &&& 1)), .unset, .unset]) rfl ?_
      show Steps p.tables e below (T106.setTop (mkF m 95 #[.val (.int p0), .val (.ref b1), .val (.int (6 : Int32)), .val (.ref aCONFLICT), .val (.int (0 : Int32)), .val (.int ((f1_15 (409 : Int32)) &&& 1)), .unset, .unset] [])) _
      refine XS.aloadN X106.here hx rfl (hb hby at_95) rfl rfl ?_
      show Steps p.tables e below (T106.setTop (mkF m 96 #[.val (.int p0), .val (.ref b1), .val (.int (6 : Int32)), .val (.ref aCONFLICT), .val (.int (0 : Int32)), .val (.int ((f1_15 (409 : Int32)) &&& 1)), .unset, .unset] [(.ref aCONFLICT)])) _
      refine st107.trans ?_
      show Steps p.tables e below (T107.setTop (mkF m 99 #[.val (.int p0), .val (.ref b1), .val (.int (6 : Int32)), .val (.ref aCONFLICT), .val (.int (0 : Int32)), .val (.int ((f1_15 (409 : Int32)) &&& 1)), .unset, .unset] [(.int (409 : Int32))])) _
      refine XS.istore X107.here hx rfl (hb hby at_99) rfl (l' := #[.val (.int p0), .val (.ref b1), .val (.int (6 : Int32)), .val (.ref aCONFLICT), .val (.int (0 : Int32)), .val (.int ((f1_15 (409 : Int32)) &&& 1)), .val (.int (409 : Int32)), .unset]) rfl ?_
      show Steps p.tables e below (T107.setTop (mkF m 101 #[.val (.int p0), .val (.ref b1), .val (.int (6 : Int32)), .val (.ref aCONFLICT), .val (.int (0 : Int32)), .val (.int ((f1_15 (409 : Int32)) &&& 1)), .val (.int (409 : Int32)), .unset] [])) _
      refine XS.iload X107.here hx rfl (hb hby at_101) rfl ?_
      show Steps p.tables e below (T107.setTop (mkF m 103 #[.val (.int p0), .val (.ref b1), .val (.int (6 : Int32)), .val (.ref aCONFLICT), .val (.int (0 : Int32)), .val (.int ((f1_15 (409 : Int32)) &&& 1)), .val (.int (409 : Int32)), .unset] [(.int (409 : Int32))])) _
      refine XS.sipush X107.here hx rfl (hb hby at_103) ?_
      show Steps p.tables e below (T107.setTop (mkF m 106 #[.val (.int p0), .val (.ref b1), .val (.int (6 : Int32)), .val (.ref aCONFLICT), .val (.int (0 : Int32)), .val (.int ((f1_15 (409 : Int32)) &&& 1)), .val (.int (409 : Int32)), .unset] [(.int (500 : Int32)), (.int (409 : Int32))])) _
      refine XS.icmpYes X107.here hx rfl (pc0 := 106) (pc' := 121) rfl (hb hby at_106) rfl (tlt (show (409 : Int32) < (500 : Int32) by decide)).1 (by decide) (by decide) ?_
      show Steps p.tables e below (T107.setTop (mkF m 121 #[.val (.int p0), .val (.ref b1), .val (.int (6 : Int32)), .val (.ref aCONFLICT), .val (.int (0 : Int32)), .val (.int ((f1_15 (409 : Int32)) &&& 1)), .val (.int (409 : Int32)), .unset] [])) _
      refine XS.iconst X107.here hx rfl (hb hby at_121) ?_
      show Steps p.tables e below (T107.setTop (mkF m 122 #[.val (.int p0), .val (.ref b1), .val (.int (6 : Int32)), .val (.ref aCONFLICT), .val (.int (0 : Int32)), .val (.int ((f1_15 (409 : Int32)) &&& 1)), .val (.int (409 : Int32)), .unset] [(.int (0 : Int32))])) _
      refine XS.istore X107.here hx rfl (hb hby at_122) rfl (l' := #[.val (.int p0), .val (.ref b1), .val (.int (6 : Int32)), .val (.ref aCONFLICT), .val (.int (0 : Int32)), .val (.int ((f1_15 (409 : Int32)) &&& 1)), .val (.int (409 : Int32)), .val (.int (0 : Int32))]) rfl ?_
      show Steps p.tables e below (T107.setTop (mkF m 124 #[.val (.int p0), .val (.ref b1), .val (.int (6 : Int32)), .val (.ref aCONFLICT), .val (.int (0 : Int32)), .val (.int ((f1_15 (409 : Int32)) &&& 1)), .val (.int (409 : Int32)), .val (.int (0 : Int32))] [])) _
      refine XS.iload X107.here hx rfl (hb hby at_124) rfl ?_
      show Steps p.tables e below (T107.setTop (mkF m 126 #[.val (.int p0), .val (.ref b1), .val (.int (6 : Int32)), .val (.ref aCONFLICT), .val (.int (0 : Int32)), .val (.int ((f1_15 (409 : Int32)) &&& 1)), .val (.int (409 : Int32)), .val (.int (0 : Int32))] [(.int ((f1_15 (409 : Int32)) &&& 1))])) _
      refine XS.iload X107.here hx rfl (hb hby at_126) rfl ?_
      show Steps p.tables e below (T107.setTop (mkF m 128 #[.val (.int p0), .val (.ref b1), .val (.int (6 : Int32)), .val (.ref aCONFLICT), .val (.int (0 : Int32)), .val (.int ((f1_15 (409 : Int32)) &&& 1)), .val (.int (409 : Int32)), .val (.int (0 : Int32))] [(.int (0 : Int32)), (.int ((f1_15 (409 : Int32)) &&& 1))])) _
      refine XS.icmpNo X107.here hx rfl (hb hby at_128) rfl (teq (show ((f1_15 (409 : Int32)) &&& 1) = (0 : Int32) from by decide)).2 ?_
      show Steps p.tables e below (T107.setTop (mkF m 131 #[.val (.int p0), .val (.ref b1), .val (.int (6 : Int32)), .val (.ref aCONFLICT), .val (.int (0 : Int32)), .val (.int ((f1_15 (409 : Int32)) &&& 1)), .val (.int (409 : Int32)), .val (.int (0 : Int32))] [])) _
      refine XS.iload X107.here hx rfl (hb hby at_131) rfl ?_
      show Steps p.tables e below (T107.setTop (mkF m 133 #[.val (.int p0), .val (.ref b1), .val (.int (6 : Int32)), .val (.ref aCONFLICT), .val (.int (0 : Int32)), .val (.int ((f1_15 (409 : Int32)) &&& 1)), .val (.int (409 : Int32)), .val (.int (0 : Int32))] [(.int ((f1_15 (409 : Int32)) &&& 1))])) _
      refine XS.iload X107.here hx rfl (hb hby at_133) rfl ?_
      show Steps p.tables e below (T107.setTop (mkF m 135 #[.val (.int p0), .val (.ref b1), .val (.int (6 : Int32)), .val (.ref aCONFLICT), .val (.int (0 : Int32)), .val (.int ((f1_15 (409 : Int32)) &&& 1)), .val (.int (409 : Int32)), .val (.int (0 : Int32))] [(.int (0 : Int32)), (.int ((f1_15 (409 : Int32)) &&& 1))])) _
      refine XS.icmpNo X107.here hx rfl (hb hby at_135) rfl (teq (show ((f1_15 (409 : Int32)) &&& 1) = (0 : Int32) from by decide)).2 ?_
      show Steps p.tables e below (T107.setTop (mkF m 138 #[.val (.int p0), .val (.ref b1), .val (.int (6 : Int32)), .val (.ref aCONFLICT), .val (.int (0 : Int32)), .val (.int ((f1_15 (409 : Int32)) &&& 1)), .val (.int (409 : Int32)), .val (.int (0 : Int32))] [])) _
      refine XS.iconst X107.here hx rfl (hb hby at_138) ?_
      show Steps p.tables e below (T107.setTop (mkF m 139 #[.val (.int p0), .val (.ref b1), .val (.int (6 : Int32)), .val (.ref aCONFLICT), .val (.int (0 : Int32)), .val (.int ((f1_15 (409 : Int32)) &&& 1)), .val (.int (409 : Int32)), .val (.int (0 : Int32))] [(.int (1 : Int32))])) _
      refine XS.goto X107.here hx rfl (pc0 := 139) (pc' := 143) rfl (hb hby at_139) (by decide) (by decide) ?_
      show Steps p.tables e below (T107.setTop (mkF m 143 #[.val (.int p0), .val (.ref b1), .val (.int (6 : Int32)), .val (.ref aCONFLICT), .val (.int (0 : Int32)), .val (.int ((f1_15 (409 : Int32)) &&& 1)), .val (.int (409 : Int32)), .val (.int (0 : Int32))] [(.int (1 : Int32))])) _
      exact k)
    obtain ⟨fs, hr, hrun, hended, hW, hsame⟩ := X107.leave (v := some (.int (1 : Int32))) (fun h => by rw [Bd.returns] at h; cases h)
    refine ⟨_, _, pre108 _ ?_, hrun, hended, _, _, rfl, ?_, ⟨_, rfl⟩, hW, hsame.mono (by decide) (by decide)⟩
    · exact retN X107 hx (t := .boolean) Bd.returns (by simp) (hb hby at_143) hr
    · show Q0 Z p0 aOK aNO_CONTENT aBAD_REQUEST aUNAUTHORIZED aFORBIDDEN aNOT_FOUND aCONFLICT aINVARIANT_VIOLATED aINTERNAL_ERROR h0 n0 _ T107.heap _
      rw [hh107]
      exact ⟨rfl, N107⟩
  · have pre109 : ∀ t, Steps p.tables e below (T55.setTop (mkF m 71 #[.val (.int p0), .val (.ref b1), .val (.int (7 : Int32)), .unset, .unset, .unset, .unset, .unset] [])) t → Steps p.tables e below (s₁.setTop (entryFrame m #[(.int p0)] maxLocals)) t := fun t k => pre59 t (by rw [hk]; exact k)
    have qa110 := A_b1_w55
    obtain ⟨c110, Ar110, Sz110, H110⟩ := qa110
    have hi111 : 0 ≤ ((7 : Int32) : Int32).toInt ∧ ((7 : Int32) : Int32).toInt < (9 : Nat) := (by decide)
    have hl111 : c110.slots[((7 : Int32) : Int32).toNatClampNeg]? = some (.ref aINVARIANT_VIOLATED) := H110 _ (own_ix hi111)
    obtain ⟨T112, X112, e112, st112⟩ := getS2 X55 hx hZ hown (host := "") (Or.inl (hw _ (List.mem_of_getElem? (i := 20) rfl))) Via.refl e55 S_INTERNAL_ERROR_56 (g := (mkF m 76 #[.val (.int p0), .val (.ref b1), .val (.int (7 : Int32)), .val (.ref aINVARIANT_VIOLATED), .unset, .unset, .unset, .unset] [(.ref aINVARIANT_VIOLATED)])) rfl (hb hby at_76)
    have ne_I : ¬ aINVARIANT_VIOLATED = aINTERNAL_ERROR := Fld.ne F_ordinal_aINVARIANT_VIOLATED_56 F_ordinal_aINTERNAL_ERROR_56 (fun q => absurd (Value.int.inj q) (by decide))
    obtain ⟨cq113, kq113, q113a, q113b, q113c⟩ := isOf hZ e112 (E_aINVARIANT_VIOLATED_56)
    obtain ⟨_, _, ⟨T113, L113, k113, n113⟩, -, X113, ⟨Lc113, hQ113, l113, y113, z113⟩, st113⟩ := X112.virtualBack hx (y := (⟨"com/example/tenet/tenet/runtime/Status", "isServerError", "()Z"⟩ : MethodName)) (z := (⟨"com/example/tenet/tenet/runtime/Status", "isServerError", "()Z"⟩ : MethodName)) hown (mvT hZ (hw _ (List.mem_of_getElem? (i := 23) rfl))) (mvT hZ (hw _ (List.mem_of_getElem? (i := 24) rfl))) (notFace_of_selects (args := #[]) (mvT hZ (hw _ (List.mem_of_getElem? (i := 26) rfl)))) (mvT hZ (hw _ (List.mem_of_getElem? (i := 26) rfl))) (mvT hZ (hw _ (List.mem_of_getElem? (i := 25) rfl))) (by decide) (backOf (W := 0) (rm1 l Z a0 hw [] aINVARIANT_VIOLATED (422 : Int32) h55 n0 ZZ57 F_code_aINVARIANT_VIOLATED_56) hZ (hw _ (List.mem_of_getElem? (i := 27) rfl)) (hw _ (List.mem_of_getElem? (i := 3) rfl)) (by decide) (by decide)) q113a q113c (g := (mkF m 90 #[.val (.int p0), .val (.ref b1), .val (.int (7 : Int32)), .val (.ref aINVARIANT_VIOLATED), .val (.int (0 : Int32)), .unset, .unset, .unset] [(.ref aINVARIANT_VIOLATED)])) rfl (by rw [hml]; rfl) (Steps.refl _) (argsL := []) (rest := []) (lenOf pd_0 rfl) rfl (by show 2 * 0 + _ ≤ _; exact Nat.le_of_eq rfl) (hb hby at_90) (fun _ _ => ⟨rfl, e112, (by decide : 1 + 0 ≤ _), (by decide : 9 + 0 ≤ _)⟩)
    dsimp only [Pt.U, Pt.locs, Pt.cells, Pt.slots] at X113 l113 y113 z113 st113 hQ113
    subst l113 y113 z113
    obtain ⟨rfl, N113q, hh113⟩ := hQ113
    have N113 := Fr.app N55 N113q
    obtain ⟨cq114, kq114, q114a, q114b, q114c⟩ := isOf hZ hh113 (E_aINVARIANT_VIOLATED_56)
    obtain ⟨_, _, ⟨T114, L114, k114, n114⟩, -, X114, ⟨Lc114, hQ114, l114, y114, z114⟩, st114⟩ := X113.virtualBack hx (y := (⟨"com/example/tenet/tenet/runtime/Status", "code", "()I"⟩ : MethodName)) (z := (⟨"com/example/tenet/tenet/runtime/Status", "code", "()I"⟩ : MethodName)) hown (mvT hZ (hw _ (List.mem_of_getElem? (i := 30) rfl))) (mvT hZ (hw _ (List.mem_of_getElem? (i := 31) rfl))) (notFace_of_selects (args := #[]) (mvT hZ (hw _ (List.mem_of_getElem? (i := 33) rfl)))) (mvT hZ (hw _ (List.mem_of_getElem? (i := 33) rfl))) (mvT hZ (hw _ (List.mem_of_getElem? (i := 32) rfl))) (by decide) (backOf (W := 0) (rm2 l Z a0 hw [] aINVARIANT_VIOLATED (422 : Int32) h55 n0 ZZ57 F_code_aINVARIANT_VIOLATED_56) hZ (hw _ (List.mem_of_getElem? (i := 34) rfl)) (hw _ (List.mem_of_getElem? (i := 3) rfl)) (by decide) (by decide)) q114a q114c (g := (mkF m 96 #[.val (.int p0), .val (.ref b1), .val (.int (7 : Int32)), .val (.ref aINVARIANT_VIOLATED), .val (.int (0 : Int32)), .val (.int ((f1_15 (422 : Int32)) &&& 1)), .unset, .unset] [(.ref aINVARIANT_VIOLATED)])) rfl (by rw [hml]; rfl) (Steps.refl _) (argsL := []) (rest := []) (lenOf pd_1 rfl) rfl (by show 2 * 0 + _ ≤ _; exact Nat.le_of_eq rfl) (hb hby at_96) (fun _ _ => ⟨rfl, hh113, (by decide : 1 + 0 ≤ _), (by decide : 9 + 0 ≤ _)⟩)
    dsimp only [Pt.U, Pt.locs, Pt.cells, Pt.slots] at X114 l114 y114 z114 st114 hQ114
    subst l114 y114 z114
    obtain ⟨rfl, N114q, hh114⟩ := hQ114
    have N114 := Fr.app N113 N114q
    have pre115 : ∀ t, Steps p.tables e below (T114.setTop (mkF m 143 #[.val (.int p0), .val (.ref b1), .val (.int (7 : Int32)), .val (.ref aINVARIANT_VIOLATED), .val (.int (0 : Int32)), .val (.int ((f1_15 (422 : Int32)) &&& 1)), .val (.int (422 : Int32)), .val (.int (0 : Int32))] [(.int (1 : Int32))])) t → Steps p.tables e below (s₁.setTop (entryFrame m #[(.int p0)] maxLocals)) t := fun t k => pre109 t (by
      show Steps p.tables e below (T55.setTop (mkF m 71 #[.val (.int p0), .val (.ref b1), .val (.int (7 : Int32)), .unset, .unset, .unset, .unset, .unset] [])) _
      refine XS.aloadN X55.here hx rfl (hb hby at_71) rfl rfl ?_
      show Steps p.tables e below (T55.setTop (mkF m 72 #[.val (.int p0), .val (.ref b1), .val (.int (7 : Int32)), .unset, .unset, .unset, .unset, .unset] [(.ref b1)])) _
      refine XS.iloadN X55.here hx rfl (hb hby at_72) rfl ?_
      show Steps p.tables e below (T55.setTop (mkF m 73 #[.val (.int p0), .val (.ref b1), .val (.int (7 : Int32)), .unset, .unset, .unset, .unset, .unset] [(.int (7 : Int32)), (.ref b1)])) _
      refine X55.aaload hx (j := (7 : Int32)) (v := (.ref aINVARIANT_VIOLATED)) (by rw [e55]; exact Ar110.1) (State.isArrayOf_alike hZ.alike Ar110.2.1) rfl Ar110.2.2 (own_in Sz110 hi111) hl111 (g := (mkF m 73 #[.val (.int p0), .val (.ref b1), .val (.int (7 : Int32)), .unset, .unset, .unset, .unset, .unset] [(.int (7 : Int32)), (.ref b1)])) rfl rfl (hb hby at_73) _ ?_
      show Steps p.tables e below (T55.setTop (mkF m 74 #[.val (.int p0), .val (.ref b1), .val (.int (7 : Int32)), .unset, .unset, .unset, .unset, .unset] [(.ref aINVARIANT_VIOLATED)])) _
      refine XS.astoreN X55.here hx rfl (hb hby at_74) rfl rfl (l' := #[.val (.int p0), .val (.ref b1), .val (.int (7 : Int32)), .val (.ref aINVARIANT_VIOLATED), .unset, .unset, .unset, .unset]) rfl ?_
      show Steps p.tables e below (T55.setTop (mkF m 75 #[.val (.int p0), .val (.ref b1), .val (.int (7 : Int32)), .val (.ref aINVARIANT_VIOLATED), .unset, .unset, .unset, .unset] [])) _
      refine XS.aloadN X55.here hx rfl (hb hby at_75) rfl rfl ?_
      show Steps p.tables e below (T55.setTop (mkF m 76 #[.val (.int p0), .val (.ref b1), .val (.int (7 : Int32)), .val (.ref aINVARIANT_VIOLATED), .unset, .unset, .unset, .unset] [(.ref aINVARIANT_VIOLATED)])) _
      refine st112 _ ?_
      show Steps p.tables e below (T112.setTop (mkF m 79 #[.val (.int p0), .val (.ref b1), .val (.int (7 : Int32)), .val (.ref aINVARIANT_VIOLATED), .unset, .unset, .unset, .unset] [(.ref aINTERNAL_ERROR), (.ref aINVARIANT_VIOLATED)])) _
      refine Jvm.RoadKit.acmp (g := (mkF m 79 #[.val (.int p0), .val (.ref b1), .val (.int (7 : Int32)), .val (.ref aINVARIANT_VIOLATED), .unset, .unset, .unset, .unset] [(.ref aINTERNAL_ERROR), (.ref aINVARIANT_VIOLATED)])) X112 hx rfl rfl rfl (pc0 := 79) (pc' := 86) (same := false) rfl (hb hby at_79) rfl (decide_eq_false fun q => ne_I (Value.ref.inj q)) (by decide) (by decide) ?_
      show Steps p.tables e below (T112.setTop (mkF m 86 #[.val (.int p0), .val (.ref b1), .val (.int (7 : Int32)), .val (.ref aINVARIANT_VIOLATED), .unset, .unset, .unset, .unset] [])) _
      refine XS.iconst X112.here hx rfl (hb hby at_86) ?_
      show Steps p.tables e below (T112.setTop (mkF m 87 #[.val (.int p0), .val (.ref b1), .val (.int (7 : Int32)), .val (.ref aINVARIANT_VIOLATED), .unset, .unset, .unset, .unset] [(.int (0 : Int32))])) _
      refine XS.istore X112.here hx rfl (hb hby at_87) rfl (l' := #[.val (.int p0), .val (.ref b1), .val (.int (7 : Int32)), .val (.ref aINVARIANT_VIOLATED), .val (.int (0 : Int32)), .unset, .unset, .unset]) rfl ?_
      show Steps p.tables e below (T112.setTop (mkF m 89 #[.val (.int p0), .val (.ref b1), .val (.int (7 : Int32)), .val (.ref aINVARIANT_VIOLATED), .val (.int (0 : Int32)), .unset, .unset, .unset] [])) _
      refine XS.aloadN X112.here hx rfl (hb hby at_89) rfl rfl ?_
      show Steps p.tables e below (T112.setTop (mkF m 90 #[.val (.int p0), .val (.ref b1), .val (.int (7 : Int32)), .val (.ref aINVARIANT_VIOLATED), .val (.int (0 : Int32)), .unset, .unset, .unset] [(.ref aINVARIANT_VIOLATED)])) _
      refine st113.trans ?_
      show Steps p.tables e below (T113.setTop (mkF m 93 #[.val (.int p0), .val (.ref b1), .val (.int (7 : Int32)), .val (.ref aINVARIANT_VIOLATED), .val (.int (0 : Int32)), .unset, .unset, .unset] [(.int ((f1_15 (422 : Int32)) &&& 1))])) _
      refine XS.istore X113.here hx rfl (hb hby at_93) rfl (l' := #[.val (.int p0), .val (.ref b1), .val (.int (7 : Int32)), .val (.ref aINVARIANT_VIOLATED), .val (.int (0 : Int32)), .val (.int ((f1_15 (422 : Int32)) &&& 1)), .unset, .unset]) rfl ?_
      show Steps p.tables e below (T113.setTop (mkF m 95 #[.val (.int p0), .val (.ref b1), .val (.int (7 : Int32)), .val (.ref aINVARIANT_VIOLATED), .val (.int (0 : Int32)), .val (.int ((f1_15 (422 : Int32)) &&& 1)), .unset, .unset] [])) _
      refine XS.aloadN X113.here hx rfl (hb hby at_95) rfl rfl ?_
      show Steps p.tables e below (T113.setTop (mkF m 96 #[.val (.int p0), .val (.ref b1), .val (.int (7 : Int32)), .val (.ref aINVARIANT_VIOLATED), .val (.int (0 : Int32)), .val (.int ((f1_15 (422 : Int32)) &&& 1)), .unset, .unset] [(.ref aINVARIANT_VIOLATED)])) _
      refine st114.trans ?_
      show Steps p.tables e below (T114.setTop (mkF m 99 #[.val (.int p0), .val (.ref b1), .val (.int (7 : Int32)), .val (.ref aINVARIANT_VIOLATED), .val (.int (0 : Int32)), .val (.int ((f1_15 (422 : Int32)) &&& 1)), .unset, .unset] [(.int (422 : Int32))])) _
      refine XS.istore X114.here hx rfl (hb hby at_99) rfl (l' := #[.val (.int p0), .val (.ref b1), .val (.int (7 : Int32)), .val (.ref aINVARIANT_VIOLATED), .val (.int (0 : Int32)), .val (.int ((f1_15 (422 : Int32)) &&& 1)), .val (.int (422 : Int32)), .unset]) rfl ?_
      show Steps p.tables e below (T114.setTop (mkF m 101 #[.val (.int p0), .val (.ref b1), .val (.int (7 : Int32)), .val (.ref aINVARIANT_VIOLATED), .val (.int (0 : Int32)), .val (.int ((f1_15 (422 : Int32)) &&& 1)), .val (.int (422 : Int32)), .unset] [])) _
      refine XS.iload X114.here hx rfl (hb hby at_101) rfl ?_
      show Steps p.tables e below (T114.setTop (mkF m 103 #[.val (.int p0), .val (.ref b1), .val (.int (7 : Int32)), .val (.ref aINVARIANT_VIOLATED), .val (.int (0 : Int32)), .val (.int ((f1_15 (422 : Int32)) &&& 1)), .val (.int (422 : Int32)), .unset] [(.int (422 : Int32))])) _
      refine XS.sipush X114.here hx rfl (hb hby at_103) ?_
      show Steps p.tables e below (T114.setTop (mkF m 106 #[.val (.int p0), .val (.ref b1), .val (.int (7 : Int32)), .val (.ref aINVARIANT_VIOLATED), .val (.int (0 : Int32)), .val (.int ((f1_15 (422 : Int32)) &&& 1)), .val (.int (422 : Int32)), .unset] [(.int (500 : Int32)), (.int (422 : Int32))])) _
      refine XS.icmpYes X114.here hx rfl (pc0 := 106) (pc' := 121) rfl (hb hby at_106) rfl (tlt (show (422 : Int32) < (500 : Int32) by decide)).1 (by decide) (by decide) ?_
      show Steps p.tables e below (T114.setTop (mkF m 121 #[.val (.int p0), .val (.ref b1), .val (.int (7 : Int32)), .val (.ref aINVARIANT_VIOLATED), .val (.int (0 : Int32)), .val (.int ((f1_15 (422 : Int32)) &&& 1)), .val (.int (422 : Int32)), .unset] [])) _
      refine XS.iconst X114.here hx rfl (hb hby at_121) ?_
      show Steps p.tables e below (T114.setTop (mkF m 122 #[.val (.int p0), .val (.ref b1), .val (.int (7 : Int32)), .val (.ref aINVARIANT_VIOLATED), .val (.int (0 : Int32)), .val (.int ((f1_15 (422 : Int32)) &&& 1)), .val (.int (422 : Int32)), .unset] [(.int (0 : Int32))])) _
      refine XS.istore X114.here hx rfl (hb hby at_122) rfl (l' := #[.val (.int p0), .val (.ref b1), .val (.int (7 : Int32)), .val (.ref aINVARIANT_VIOLATED), .val (.int (0 : Int32)), .val (.int ((f1_15 (422 : Int32)) &&& 1)), .val (.int (422 : Int32)), .val (.int (0 : Int32))]) rfl ?_
      show Steps p.tables e below (T114.setTop (mkF m 124 #[.val (.int p0), .val (.ref b1), .val (.int (7 : Int32)), .val (.ref aINVARIANT_VIOLATED), .val (.int (0 : Int32)), .val (.int ((f1_15 (422 : Int32)) &&& 1)), .val (.int (422 : Int32)), .val (.int (0 : Int32))] [])) _
      refine XS.iload X114.here hx rfl (hb hby at_124) rfl ?_
      show Steps p.tables e below (T114.setTop (mkF m 126 #[.val (.int p0), .val (.ref b1), .val (.int (7 : Int32)), .val (.ref aINVARIANT_VIOLATED), .val (.int (0 : Int32)), .val (.int ((f1_15 (422 : Int32)) &&& 1)), .val (.int (422 : Int32)), .val (.int (0 : Int32))] [(.int ((f1_15 (422 : Int32)) &&& 1))])) _
      refine XS.iload X114.here hx rfl (hb hby at_126) rfl ?_
      show Steps p.tables e below (T114.setTop (mkF m 128 #[.val (.int p0), .val (.ref b1), .val (.int (7 : Int32)), .val (.ref aINVARIANT_VIOLATED), .val (.int (0 : Int32)), .val (.int ((f1_15 (422 : Int32)) &&& 1)), .val (.int (422 : Int32)), .val (.int (0 : Int32))] [(.int (0 : Int32)), (.int ((f1_15 (422 : Int32)) &&& 1))])) _
      refine XS.icmpNo X114.here hx rfl (hb hby at_128) rfl (teq (show ((f1_15 (422 : Int32)) &&& 1) = (0 : Int32) from by decide)).2 ?_
      show Steps p.tables e below (T114.setTop (mkF m 131 #[.val (.int p0), .val (.ref b1), .val (.int (7 : Int32)), .val (.ref aINVARIANT_VIOLATED), .val (.int (0 : Int32)), .val (.int ((f1_15 (422 : Int32)) &&& 1)), .val (.int (422 : Int32)), .val (.int (0 : Int32))] [])) _
      refine XS.iload X114.here hx rfl (hb hby at_131) rfl ?_
      show Steps p.tables e below (T114.setTop (mkF m 133 #[.val (.int p0), .val (.ref b1), .val (.int (7 : Int32)), .val (.ref aINVARIANT_VIOLATED), .val (.int (0 : Int32)), .val (.int ((f1_15 (422 : Int32)) &&& 1)), .val (.int (422 : Int32)), .val (.int (0 : Int32))] [(.int ((f1_15 (422 : Int32)) &&& 1))])) _
      refine XS.iload X114.here hx rfl (hb hby at_133) rfl ?_
      show Steps p.tables e below (T114.setTop (mkF m 135 #[.val (.int p0), .val (.ref b1), .val (.int (7 : Int32)), .val (.ref aINVARIANT_VIOLATED), .val (.int (0 : Int32)), .val (.int ((f1_15 (422 : Int32)) &&& 1)), .val (.int (422 : Int32)), .val (.int (0 : Int32))] [(.int (0 : Int32)), (.int ((f1_15 (422 : Int32)) &&& 1))])) _
      refine XS.icmpNo X114.here hx rfl (hb hby at_135) rfl (teq (show ((f1_15 (422 : Int32)) &&& 1) = (0 : Int32) from by decide)).2 ?_
      show Steps p.tables e below (T114.setTop (mkF m 138 #[.val (.int p0), .val (.ref b1), .val (.int (7 : Int32)), .val (.ref aINVARIANT_VIOLATED), .val (.int (0 : Int32)), .val (.int ((f1_15 (422 : Int32)) &&& 1)), .val (.int (422 : Int32)), .val (.int (0 : Int32))] [])) _
      refine XS.iconst X114.here hx rfl (hb hby at_138) ?_
      show Steps p.tables e below (T114.setTop (mkF m 139 #[.val (.int p0), .val (.ref b1), .val (.int (7 : Int32)), .val (.ref aINVARIANT_VIOLATED), .val (.int (0 : Int32)), .val (.int ((f1_15 (422 : Int32)) &&& 1)), .val (.int (422 : Int32)), .val (.int (0 : Int32))] [(.int (1 : Int32))])) _
      refine XS.goto X114.here hx rfl (pc0 := 139) (pc' := 143) rfl (hb hby at_139) (by decide) (by decide) ?_
      show Steps p.tables e below (T114.setTop (mkF m 143 #[.val (.int p0), .val (.ref b1), .val (.int (7 : Int32)), .val (.ref aINVARIANT_VIOLATED), .val (.int (0 : Int32)), .val (.int ((f1_15 (422 : Int32)) &&& 1)), .val (.int (422 : Int32)), .val (.int (0 : Int32))] [(.int (1 : Int32))])) _
      exact k)
    obtain ⟨fs, hr, hrun, hended, hW, hsame⟩ := X114.leave (v := some (.int (1 : Int32))) (fun h => by rw [Bd.returns] at h; cases h)
    refine ⟨_, _, pre115 _ ?_, hrun, hended, _, _, rfl, ?_, ⟨_, rfl⟩, hW, hsame.mono (by decide) (by decide)⟩
    · exact retN X114 hx (t := .boolean) Bd.returns (by simp) (hb hby at_143) hr
    · show Q0 Z p0 aOK aNO_CONTENT aBAD_REQUEST aUNAUTHORIZED aFORBIDDEN aNOT_FOUND aCONFLICT aINVARIANT_VIOLATED aINTERNAL_ERROR h0 n0 _ T114.heap _
      rw [hh114]
      exact ⟨rfl, N114⟩
  · have pre116 : ∀ t, Steps p.tables e below (T55.setTop (mkF m 71 #[.val (.int p0), .val (.ref b1), .val (.int (8 : Int32)), .unset, .unset, .unset, .unset, .unset] [])) t → Steps p.tables e below (s₁.setTop (entryFrame m #[(.int p0)] maxLocals)) t := fun t k => pre59 t (by rw [hk]; exact k)
    have qa117 := A_b1_w55
    obtain ⟨c117, Ar117, Sz117, H117⟩ := qa117
    have hi118 : 0 ≤ ((8 : Int32) : Int32).toInt ∧ ((8 : Int32) : Int32).toInt < (9 : Nat) := (by decide)
    have hl118 : c117.slots[((8 : Int32) : Int32).toNatClampNeg]? = some (.ref aINTERNAL_ERROR) := H117 _ (own_ix hi118)
    obtain ⟨T119, X119, e119, st119⟩ := getS2 X55 hx hZ hown (host := "") (Or.inl (hw _ (List.mem_of_getElem? (i := 20) rfl))) Via.refl e55 S_INTERNAL_ERROR_56 (g := (mkF m 76 #[.val (.int p0), .val (.ref b1), .val (.int (8 : Int32)), .val (.ref aINTERNAL_ERROR), .unset, .unset, .unset, .unset] [(.ref aINTERNAL_ERROR)])) rfl (hb hby at_76)
    obtain ⟨cq120, kq120, q120a, q120b, q120c⟩ := isOf hZ e119 (E_aINTERNAL_ERROR_56)
    obtain ⟨_, _, ⟨T120, L120, k120, n120⟩, -, X120, ⟨Lc120, hQ120, l120, y120, z120⟩, st120⟩ := X119.virtualBack hx (y := (⟨"com/example/tenet/tenet/runtime/Status", "isServerError", "()Z"⟩ : MethodName)) (z := (⟨"com/example/tenet/tenet/runtime/Status", "isServerError", "()Z"⟩ : MethodName)) hown (mvT hZ (hw _ (List.mem_of_getElem? (i := 23) rfl))) (mvT hZ (hw _ (List.mem_of_getElem? (i := 24) rfl))) (notFace_of_selects (args := #[]) (mvT hZ (hw _ (List.mem_of_getElem? (i := 26) rfl)))) (mvT hZ (hw _ (List.mem_of_getElem? (i := 26) rfl))) (mvT hZ (hw _ (List.mem_of_getElem? (i := 25) rfl))) (by decide) (backOf (W := 0) (rm1 l Z a0 hw [] aINTERNAL_ERROR (500 : Int32) h55 n0 ZZ57 F_code_aINTERNAL_ERROR_56) hZ (hw _ (List.mem_of_getElem? (i := 27) rfl)) (hw _ (List.mem_of_getElem? (i := 3) rfl)) (by decide) (by decide)) q120a q120c (g := (mkF m 90 #[.val (.int p0), .val (.ref b1), .val (.int (8 : Int32)), .val (.ref aINTERNAL_ERROR), .val (.int (1 : Int32)), .unset, .unset, .unset] [(.ref aINTERNAL_ERROR)])) rfl (by rw [hml]; rfl) (Steps.refl _) (argsL := []) (rest := []) (lenOf pd_0 rfl) rfl (by show 2 * 0 + _ ≤ _; exact Nat.le_of_eq rfl) (hb hby at_90) (fun _ _ => ⟨rfl, e119, (by decide : 1 + 0 ≤ _), (by decide : 9 + 0 ≤ _)⟩)
    dsimp only [Pt.U, Pt.locs, Pt.cells, Pt.slots] at X120 l120 y120 z120 st120 hQ120
    subst l120 y120 z120
    obtain ⟨rfl, N120q, hh120⟩ := hQ120
    have N120 := Fr.app N55 N120q
    obtain ⟨cq121, kq121, q121a, q121b, q121c⟩ := isOf hZ hh120 (E_aINTERNAL_ERROR_56)
    obtain ⟨_, _, ⟨T121, L121, k121, n121⟩, -, X121, ⟨Lc121, hQ121, l121, y121, z121⟩, st121⟩ := X120.virtualBack hx (y := (⟨"com/example/tenet/tenet/runtime/Status", "code", "()I"⟩ : MethodName)) (z := (⟨"com/example/tenet/tenet/runtime/Status", "code", "()I"⟩ : MethodName)) hown (mvT hZ (hw _ (List.mem_of_getElem? (i := 30) rfl))) (mvT hZ (hw _ (List.mem_of_getElem? (i := 31) rfl))) (notFace_of_selects (args := #[]) (mvT hZ (hw _ (List.mem_of_getElem? (i := 33) rfl)))) (mvT hZ (hw _ (List.mem_of_getElem? (i := 33) rfl))) (mvT hZ (hw _ (List.mem_of_getElem? (i := 32) rfl))) (by decide) (backOf (W := 0) (rm2 l Z a0 hw [] aINTERNAL_ERROR (500 : Int32) h55 n0 ZZ57 F_code_aINTERNAL_ERROR_56) hZ (hw _ (List.mem_of_getElem? (i := 34) rfl)) (hw _ (List.mem_of_getElem? (i := 3) rfl)) (by decide) (by decide)) q121a q121c (g := (mkF m 96 #[.val (.int p0), .val (.ref b1), .val (.int (8 : Int32)), .val (.ref aINTERNAL_ERROR), .val (.int (1 : Int32)), .val (.int ((f1_15 (500 : Int32)) &&& 1)), .unset, .unset] [(.ref aINTERNAL_ERROR)])) rfl (by rw [hml]; rfl) (Steps.refl _) (argsL := []) (rest := []) (lenOf pd_1 rfl) rfl (by show 2 * 0 + _ ≤ _; exact Nat.le_of_eq rfl) (hb hby at_96) (fun _ _ => ⟨rfl, hh120, (by decide : 1 + 0 ≤ _), (by decide : 9 + 0 ≤ _)⟩)
    dsimp only [Pt.U, Pt.locs, Pt.cells, Pt.slots] at X121 l121 y121 z121 st121 hQ121
    subst l121 y121 z121
    obtain ⟨rfl, N121q, hh121⟩ := hQ121
    have N121 := Fr.app N120 N121q
    have pre122 : ∀ t, Steps p.tables e below (T121.setTop (mkF m 143 #[.val (.int p0), .val (.ref b1), .val (.int (8 : Int32)), .val (.ref aINTERNAL_ERROR), .val (.int (1 : Int32)), .val (.int ((f1_15 (500 : Int32)) &&& 1)), .val (.int (500 : Int32)), .val (.int (1 : Int32))] [(.int (1 : Int32))])) t → Steps p.tables e below (s₁.setTop (entryFrame m #[(.int p0)] maxLocals)) t := fun t k => pre116 t (by
      show Steps p.tables e below (T55.setTop (mkF m 71 #[.val (.int p0), .val (.ref b1), .val (.int (8 : Int32)), .unset, .unset, .unset, .unset, .unset] [])) _
      refine XS.aloadN X55.here hx rfl (hb hby at_71) rfl rfl ?_
      show Steps p.tables e below (T55.setTop (mkF m 72 #[.val (.int p0), .val (.ref b1), .val (.int (8 : Int32)), .unset, .unset, .unset, .unset, .unset] [(.ref b1)])) _
      refine XS.iloadN X55.here hx rfl (hb hby at_72) rfl ?_
      show Steps p.tables e below (T55.setTop (mkF m 73 #[.val (.int p0), .val (.ref b1), .val (.int (8 : Int32)), .unset, .unset, .unset, .unset, .unset] [(.int (8 : Int32)), (.ref b1)])) _
      refine X55.aaload hx (j := (8 : Int32)) (v := (.ref aINTERNAL_ERROR)) (by rw [e55]; exact Ar117.1) (State.isArrayOf_alike hZ.alike Ar117.2.1) rfl Ar117.2.2 (own_in Sz117 hi118) hl118 (g := (mkF m 73 #[.val (.int p0), .val (.ref b1), .val (.int (8 : Int32)), .unset, .unset, .unset, .unset, .unset] [(.int (8 : Int32)), (.ref b1)])) rfl rfl (hb hby at_73) _ ?_
      show Steps p.tables e below (T55.setTop (mkF m 74 #[.val (.int p0), .val (.ref b1), .val (.int (8 : Int32)), .unset, .unset, .unset, .unset, .unset] [(.ref aINTERNAL_ERROR)])) _
      refine XS.astoreN X55.here hx rfl (hb hby at_74) rfl rfl (l' := #[.val (.int p0), .val (.ref b1), .val (.int (8 : Int32)), .val (.ref aINTERNAL_ERROR), .unset, .unset, .unset, .unset]) rfl ?_
      show Steps p.tables e below (T55.setTop (mkF m 75 #[.val (.int p0), .val (.ref b1), .val (.int (8 : Int32)), .val (.ref aINTERNAL_ERROR), .unset, .unset, .unset, .unset] [])) _
      refine XS.aloadN X55.here hx rfl (hb hby at_75) rfl rfl ?_
      show Steps p.tables e below (T55.setTop (mkF m 76 #[.val (.int p0), .val (.ref b1), .val (.int (8 : Int32)), .val (.ref aINTERNAL_ERROR), .unset, .unset, .unset, .unset] [(.ref aINTERNAL_ERROR)])) _
      refine st119 _ ?_
      show Steps p.tables e below (T119.setTop (mkF m 79 #[.val (.int p0), .val (.ref b1), .val (.int (8 : Int32)), .val (.ref aINTERNAL_ERROR), .unset, .unset, .unset, .unset] [(.ref aINTERNAL_ERROR), (.ref aINTERNAL_ERROR)])) _
      refine Jvm.RoadKit.acmp (g := (mkF m 79 #[.val (.int p0), .val (.ref b1), .val (.int (8 : Int32)), .val (.ref aINTERNAL_ERROR), .unset, .unset, .unset, .unset] [(.ref aINTERNAL_ERROR), (.ref aINTERNAL_ERROR)])) X119 hx rfl rfl rfl (pc0 := 79) (pc' := 82) (same := true) rfl (hb hby at_79) rfl (decide_eq_true (congrArg Value.ref rfl)) (by decide) (by decide) ?_
      show Steps p.tables e below (T119.setTop (mkF m 82 #[.val (.int p0), .val (.ref b1), .val (.int (8 : Int32)), .val (.ref aINTERNAL_ERROR), .unset, .unset, .unset, .unset] [])) _
      refine XS.iconst X119.here hx rfl (hb hby at_82) ?_
      show Steps p.tables e below (T119.setTop (mkF m 83 #[.val (.int p0), .val (.ref b1), .val (.int (8 : Int32)), .val (.ref aINTERNAL_ERROR), .unset, .unset, .unset, .unset] [(.int (1 : Int32))])) _
      refine XS.goto X119.here hx rfl (pc0 := 83) (pc' := 87) rfl (hb hby at_83) (by decide) (by decide) ?_
      show Steps p.tables e below (T119.setTop (mkF m 87 #[.val (.int p0), .val (.ref b1), .val (.int (8 : Int32)), .val (.ref aINTERNAL_ERROR), .unset, .unset, .unset, .unset] [(.int (1 : Int32))])) _
      refine XS.istore X119.here hx rfl (hb hby at_87) rfl (l' := #[.val (.int p0), .val (.ref b1), .val (.int (8 : Int32)), .val (.ref aINTERNAL_ERROR), .val (.int (1 : Int32)), .unset, .unset, .unset]) rfl ?_
      show Steps p.tables e below (T119.setTop (mkF m 89 #[.val (.int p0), .val (.ref b1), .val (.int (8 : Int32)), .val (.ref aINTERNAL_ERROR), .val (.int (1 : Int32)), .unset, .unset, .unset] [])) _
      refine XS.aloadN X119.here hx rfl (hb hby at_89) rfl rfl ?_
      show Steps p.tables e below (T119.setTop (mkF m 90 #[.val (.int p0), .val (.ref b1), .val (.int (8 : Int32)), .val (.ref aINTERNAL_ERROR), .val (.int (1 : Int32)), .unset, .unset, .unset] [(.ref aINTERNAL_ERROR)])) _
      refine st120.trans ?_
      show Steps p.tables e below (T120.setTop (mkF m 93 #[.val (.int p0), .val (.ref b1), .val (.int (8 : Int32)), .val (.ref aINTERNAL_ERROR), .val (.int (1 : Int32)), .unset, .unset, .unset] [(.int ((f1_15 (500 : Int32)) &&& 1))])) _
      refine XS.istore X120.here hx rfl (hb hby at_93) rfl (l' := #[.val (.int p0), .val (.ref b1), .val (.int (8 : Int32)), .val (.ref aINTERNAL_ERROR), .val (.int (1 : Int32)), .val (.int ((f1_15 (500 : Int32)) &&& 1)), .unset, .unset]) rfl ?_
      show Steps p.tables e below (T120.setTop (mkF m 95 #[.val (.int p0), .val (.ref b1), .val (.int (8 : Int32)), .val (.ref aINTERNAL_ERROR), .val (.int (1 : Int32)), .val (.int ((f1_15 (500 : Int32)) &&& 1)), .unset, .unset] [])) _
      refine XS.aloadN X120.here hx rfl (hb hby at_95) rfl rfl ?_
      show Steps p.tables e below (T120.setTop (mkF m 96 #[.val (.int p0), .val (.ref b1), .val (.int (8 : Int32)), .val (.ref aINTERNAL_ERROR), .val (.int (1 : Int32)), .val (.int ((f1_15 (500 : Int32)) &&& 1)), .unset, .unset] [(.ref aINTERNAL_ERROR)])) _
      refine st121.trans ?_
      show Steps p.tables e below (T121.setTop (mkF m 99 #[.val (.int p0), .val (.ref b1), .val (.int (8 : Int32)), .val (.ref aINTERNAL_ERROR), .val (.int (1 : Int32)), .val (.int ((f1_15 (500 : Int32)) &&& 1)), .unset, .unset] [(.int (500 : Int32))])) _
      refine XS.istore X121.here hx rfl (hb hby at_99) rfl (l' := #[.val (.int p0), .val (.ref b1), .val (.int (8 : Int32)), .val (.ref aINTERNAL_ERROR), .val (.int (1 : Int32)), .val (.int ((f1_15 (500 : Int32)) &&& 1)), .val (.int (500 : Int32)), .unset]) rfl ?_
      show Steps p.tables e below (T121.setTop (mkF m 101 #[.val (.int p0), .val (.ref b1), .val (.int (8 : Int32)), .val (.ref aINTERNAL_ERROR), .val (.int (1 : Int32)), .val (.int ((f1_15 (500 : Int32)) &&& 1)), .val (.int (500 : Int32)), .unset] [])) _
      refine XS.iload X121.here hx rfl (hb hby at_101) rfl ?_
      show Steps p.tables e below (T121.setTop (mkF m 103 #[.val (.int p0), .val (.ref b1), .val (.int (8 : Int32)), .val (.ref aINTERNAL_ERROR), .val (.int (1 : Int32)), .val (.int ((f1_15 (500 : Int32)) &&& 1)), .val (.int (500 : Int32)), .unset] [(.int (500 : Int32))])) _
      refine XS.sipush X121.here hx rfl (hb hby at_103) ?_
      show Steps p.tables e below (T121.setTop (mkF m 106 #[.val (.int p0), .val (.ref b1), .val (.int (8 : Int32)), .val (.ref aINTERNAL_ERROR), .val (.int (1 : Int32)), .val (.int ((f1_15 (500 : Int32)) &&& 1)), .val (.int (500 : Int32)), .unset] [(.int (500 : Int32)), (.int (500 : Int32))])) _
      refine XS.icmpNo X121.here hx rfl (hb hby at_106) rfl (flt (show ¬ ((500 : Int32) < (500 : Int32)) by decide)).1 ?_
      show Steps p.tables e below (T121.setTop (mkF m 109 #[.val (.int p0), .val (.ref b1), .val (.int (8 : Int32)), .val (.ref aINTERNAL_ERROR), .val (.int (1 : Int32)), .val (.int ((f1_15 (500 : Int32)) &&& 1)), .val (.int (500 : Int32)), .unset] [])) _
      refine XS.iload X121.here hx rfl (hb hby at_109) rfl ?_
      show Steps p.tables e below (T121.setTop (mkF m 111 #[.val (.int p0), .val (.ref b1), .val (.int (8 : Int32)), .val (.ref aINTERNAL_ERROR), .val (.int (1 : Int32)), .val (.int ((f1_15 (500 : Int32)) &&& 1)), .val (.int (500 : Int32)), .unset] [(.int (500 : Int32))])) _
      refine XS.sipush X121.here hx rfl (hb hby at_111) ?_
      show Steps p.tables e below (T121.setTop (mkF m 114 #[.val (.int p0), .val (.ref b1), .val (.int (8 : Int32)), .val (.ref aINTERNAL_ERROR), .val (.int (1 : Int32)), .val (.int ((f1_15 (500 : Int32)) &&& 1)), .val (.int (500 : Int32)), .unset] [(.int (599 : Int32)), (.int (500 : Int32))])) _
      refine XS.icmpNo X121.here hx rfl (hb hby at_114) rfl (flt (show ¬ ((599 : Int32) < (500 : Int32)) by decide)).2.2.1 ?_
      show Steps p.tables e below (T121.setTop (mkF m 117 #[.val (.int p0), .val (.ref b1), .val (.int (8 : Int32)), .val (.ref aINTERNAL_ERROR), .val (.int (1 : Int32)), .val (.int ((f1_15 (500 : Int32)) &&& 1)), .val (.int (500 : Int32)), .unset] [])) _
      refine XS.iconst X121.here hx rfl (hb hby at_117) ?_
      show Steps p.tables e below (T121.setTop (mkF m 118 #[.val (.int p0), .val (.ref b1), .val (.int (8 : Int32)), .val (.ref aINTERNAL_ERROR), .val (.int (1 : Int32)), .val (.int ((f1_15 (500 : Int32)) &&& 1)), .val (.int (500 : Int32)), .unset] [(.int (1 : Int32))])) _
      refine XS.goto X121.here hx rfl (pc0 := 118) (pc' := 122) rfl (hb hby at_118) (by decide) (by decide) ?_
      show Steps p.tables e below (T121.setTop (mkF m 122 #[.val (.int p0), .val (.ref b1), .val (.int (8 : Int32)), .val (.ref aINTERNAL_ERROR), .val (.int (1 : Int32)), .val (.int ((f1_15 (500 : Int32)) &&& 1)), .val (.int (500 : Int32)), .unset] [(.int (1 : Int32))])) _
      refine XS.istore X121.here hx rfl (hb hby at_122) rfl (l' := #[.val (.int p0), .val (.ref b1), .val (.int (8 : Int32)), .val (.ref aINTERNAL_ERROR), .val (.int (1 : Int32)), .val (.int ((f1_15 (500 : Int32)) &&& 1)), .val (.int (500 : Int32)), .val (.int (1 : Int32))]) rfl ?_
      show Steps p.tables e below (T121.setTop (mkF m 124 #[.val (.int p0), .val (.ref b1), .val (.int (8 : Int32)), .val (.ref aINTERNAL_ERROR), .val (.int (1 : Int32)), .val (.int ((f1_15 (500 : Int32)) &&& 1)), .val (.int (500 : Int32)), .val (.int (1 : Int32))] [])) _
      refine XS.iload X121.here hx rfl (hb hby at_124) rfl ?_
      show Steps p.tables e below (T121.setTop (mkF m 126 #[.val (.int p0), .val (.ref b1), .val (.int (8 : Int32)), .val (.ref aINTERNAL_ERROR), .val (.int (1 : Int32)), .val (.int ((f1_15 (500 : Int32)) &&& 1)), .val (.int (500 : Int32)), .val (.int (1 : Int32))] [(.int ((f1_15 (500 : Int32)) &&& 1))])) _
      refine XS.iload X121.here hx rfl (hb hby at_126) rfl ?_
      show Steps p.tables e below (T121.setTop (mkF m 128 #[.val (.int p0), .val (.ref b1), .val (.int (8 : Int32)), .val (.ref aINTERNAL_ERROR), .val (.int (1 : Int32)), .val (.int ((f1_15 (500 : Int32)) &&& 1)), .val (.int (500 : Int32)), .val (.int (1 : Int32))] [(.int (1 : Int32)), (.int ((f1_15 (500 : Int32)) &&& 1))])) _
      refine XS.icmpNo X121.here hx rfl (hb hby at_128) rfl (teq (show ((f1_15 (500 : Int32)) &&& 1) = (1 : Int32) from by decide)).2 ?_
      show Steps p.tables e below (T121.setTop (mkF m 131 #[.val (.int p0), .val (.ref b1), .val (.int (8 : Int32)), .val (.ref aINTERNAL_ERROR), .val (.int (1 : Int32)), .val (.int ((f1_15 (500 : Int32)) &&& 1)), .val (.int (500 : Int32)), .val (.int (1 : Int32))] [])) _
      refine XS.iload X121.here hx rfl (hb hby at_131) rfl ?_
      show Steps p.tables e below (T121.setTop (mkF m 133 #[.val (.int p0), .val (.ref b1), .val (.int (8 : Int32)), .val (.ref aINTERNAL_ERROR), .val (.int (1 : Int32)), .val (.int ((f1_15 (500 : Int32)) &&& 1)), .val (.int (500 : Int32)), .val (.int (1 : Int32))] [(.int ((f1_15 (500 : Int32)) &&& 1))])) _
      refine XS.iload X121.here hx rfl (hb hby at_133) rfl ?_
      show Steps p.tables e below (T121.setTop (mkF m 135 #[.val (.int p0), .val (.ref b1), .val (.int (8 : Int32)), .val (.ref aINTERNAL_ERROR), .val (.int (1 : Int32)), .val (.int ((f1_15 (500 : Int32)) &&& 1)), .val (.int (500 : Int32)), .val (.int (1 : Int32))] [(.int (1 : Int32)), (.int ((f1_15 (500 : Int32)) &&& 1))])) _
      refine XS.icmpNo X121.here hx rfl (hb hby at_135) rfl (teq (show ((f1_15 (500 : Int32)) &&& 1) = (1 : Int32) from by decide)).2 ?_
      show Steps p.tables e below (T121.setTop (mkF m 138 #[.val (.int p0), .val (.ref b1), .val (.int (8 : Int32)), .val (.ref aINTERNAL_ERROR), .val (.int (1 : Int32)), .val (.int ((f1_15 (500 : Int32)) &&& 1)), .val (.int (500 : Int32)), .val (.int (1 : Int32))] [])) _
      refine XS.iconst X121.here hx rfl (hb hby at_138) ?_
      show Steps p.tables e below (T121.setTop (mkF m 139 #[.val (.int p0), .val (.ref b1), .val (.int (8 : Int32)), .val (.ref aINTERNAL_ERROR), .val (.int (1 : Int32)), .val (.int ((f1_15 (500 : Int32)) &&& 1)), .val (.int (500 : Int32)), .val (.int (1 : Int32))] [(.int (1 : Int32))])) _
      refine XS.goto X121.here hx rfl (pc0 := 139) (pc' := 143) rfl (hb hby at_139) (by decide) (by decide) ?_
      show Steps p.tables e below (T121.setTop (mkF m 143 #[.val (.int p0), .val (.ref b1), .val (.int (8 : Int32)), .val (.ref aINTERNAL_ERROR), .val (.int (1 : Int32)), .val (.int ((f1_15 (500 : Int32)) &&& 1)), .val (.int (500 : Int32)), .val (.int (1 : Int32))] [(.int (1 : Int32))])) _
      exact k)
    obtain ⟨fs, hr, hrun, hended, hW, hsame⟩ := X121.leave (v := some (.int (1 : Int32))) (fun h => by rw [Bd.returns] at h; cases h)
    refine ⟨_, _, pre122 _ ?_, hrun, hended, _, _, rfl, ?_, ⟨_, rfl⟩, hW, hsame.mono (by decide) (by decide)⟩
    · exact retN X121 hx (t := .boolean) Bd.returns (by simp) (hb hby at_143) hr
    · show Q0 Z p0 aOK aNO_CONTENT aBAD_REQUEST aUNAUTHORIZED aFORBIDDEN aNOT_FOUND aCONFLICT aINVARIANT_VIOLATED aINTERNAL_ERROR h0 n0 _ T121.heap _
      rw [hh121]
      exact ⟨rfl, N121⟩
set_option maxRecDepth 65536 in
set_option maxHeartbeats 40000000 in
theorem comes_1 {Post : Tables → Env → Array Value → State → Outcome → State → Prop} (hpost : ∀ tb e args s v u, (limb_1_1.after args s (.returned v) u = true ∧ limb_1_2.after args s (.returned v) u = true ∧ True) → FrameEnd s (.returned v) u (Jvm.fieldLocs frame_1_writes args s ++ Jvm.arrayLocs frame_1_arrays args s ++ Jvm.staticLocs frame_1_statics s) 16 128 → Post tb e args s (.returned v) u) :
    ArmFor flags0 classFile x code maxLocals ret World_1 tables_1 room_1 Calls_1 rest_1 Pre_1 Post := by
  intro l hfl _ _ p e ha hc hk s m args below hf hA hF happ hP
  obtain ⟨hcalls, hrest, hpre⟩ := hP
  obtain ⟨-, -, -, hnamed, -, -, -, hat⟩ := (Spec.applies_iff hf).mp happ
  obtain ⟨hg, hn⟩ := and_e (Cond.before_iff.mp (show (Jvm.Cond.and given_1 narrow_1).before args s = true from hpre))
  obtain ⟨h1, g0⟩ := and_e hg
  obtain ⟨w0, rfl⟩ : ∃ w0 : Value, args = #[w0] := by
    have hs : args.size = 1 := by simpa [Cond.value, given_1] using h1
    obtain ⟨L⟩ := args
    match L, hs with
    | [w0], _ => exact ⟨w0, rfl⟩
  have hw := fun d (hd : d ∈ tables_1) => atoms_spec (ws := Jvm.Cond.code x code maxLocals ret :: tables_1) hat d (List.mem_cons_of_mem _ hd)
  have hfit : Fit s := fun {y c} hc i hi => by
    obtain ⟨ha, rfl⟩ := Array.getElem?_eq_some_iff.mp hc
    have q := List.all_eq_true.mp ((Array.all_eq_true_iff_forall_mem.mp hF) _ (Array.getElem_mem ha)) i (List.mem_range.mpr hi)
    simpa [Array.getElem?_eq_getElem hi] using q
  obtain ⟨i0, e0⟩ := is_v g0
  obtain rfl : w0 = (.int i0) := Option.some.inj e0
  obtain ⟨nc0, nr0⟩ := and_e hn
  obtain ⟨nc1, nr1⟩ := and_e nr0
  obtain ⟨nc2, nr2⟩ := and_e nr1
  obtain ⟨nc3, nr3⟩ := and_e nr2
  obtain ⟨nc4, nr4⟩ := and_e nr3
  obtain ⟨nc5, nr5⟩ := and_e nr4
  obtain ⟨nc6, nr6⟩ := and_e nr5
  obtain ⟨nc7, nr7⟩ := and_e nr6
  obtain ⟨nc8, nr8⟩ := and_e nr7
  obtain ⟨nc9, nr9⟩ := and_e nr8
  obtain ⟨nc10, nr10⟩ := and_e nr9
  obtain ⟨nc11, nr11⟩ := and_e nr10
  obtain ⟨nc12, nr12⟩ := and_e nr11
  obtain ⟨nc13, nr13⟩ := and_e nr12
  obtain ⟨nc14, nr14⟩ := and_e nr13
  obtain ⟨nc15, nr15⟩ := and_e nr14
  obtain ⟨nc16, nr16⟩ := and_e nr15
  obtain ⟨nc17, nr17⟩ := and_e nr16
  obtain ⟨nc18, nr18⟩ := and_e nr17
  obtain ⟨nc19, nr19⟩ := and_e nr18
  obtain ⟨nc20, nr20⟩ := and_e nr19
  obtain ⟨nc21, nr21⟩ := and_e nr20
  obtain ⟨nc22, nr22⟩ := and_e nr21
  obtain ⟨nc23, nr23⟩ := and_e nr22
  obtain ⟨nc24, nr24⟩ := and_e nr23
  obtain ⟨nc25, nr25⟩ := and_e nr24
  obtain ⟨aOK, ev_aOK⟩ := exa_v nc0
  have S_aOK : Sta s s.heap "com/example/tenet/tenet/runtime/Status" "OK" "Lcom/example/tenet/tenet/runtime/Status;" (.ref aOK) := Sta.start ev_aOK (Or.inr ⟨(hw _ (List.mem_of_getElem? (i := 3) rfl)), (hw _ (List.mem_of_getElem? (i := 4) rfl))⟩)
  have E_aOK : Exa s s.heap aOK "com/example/tenet/tenet/runtime/Status" := Exa.start ev_aOK nc0
  obtain ⟨aNO_CONTENT, ev_aNO_CONTENT⟩ := exa_v nc1
  have S_aNO_CONTENT : Sta s s.heap "com/example/tenet/tenet/runtime/Status" "NO_CONTENT" "Lcom/example/tenet/tenet/runtime/Status;" (.ref aNO_CONTENT) := Sta.start ev_aNO_CONTENT (Or.inr ⟨(hw _ (List.mem_of_getElem? (i := 3) rfl)), (hw _ (List.mem_of_getElem? (i := 7) rfl))⟩)
  have E_aNO_CONTENT : Exa s s.heap aNO_CONTENT "com/example/tenet/tenet/runtime/Status" := Exa.start ev_aNO_CONTENT nc1
  obtain ⟨aBAD_REQUEST, ev_aBAD_REQUEST⟩ := exa_v nc2
  have S_aBAD_REQUEST : Sta s s.heap "com/example/tenet/tenet/runtime/Status" "BAD_REQUEST" "Lcom/example/tenet/tenet/runtime/Status;" (.ref aBAD_REQUEST) := Sta.start ev_aBAD_REQUEST (Or.inr ⟨(hw _ (List.mem_of_getElem? (i := 3) rfl)), (hw _ (List.mem_of_getElem? (i := 9) rfl))⟩)
  have E_aBAD_REQUEST : Exa s s.heap aBAD_REQUEST "com/example/tenet/tenet/runtime/Status" := Exa.start ev_aBAD_REQUEST nc2
  obtain ⟨aUNAUTHORIZED, ev_aUNAUTHORIZED⟩ := exa_v nc3
  have S_aUNAUTHORIZED : Sta s s.heap "com/example/tenet/tenet/runtime/Status" "UNAUTHORIZED" "Lcom/example/tenet/tenet/runtime/Status;" (.ref aUNAUTHORIZED) := Sta.start ev_aUNAUTHORIZED (Or.inr ⟨(hw _ (List.mem_of_getElem? (i := 3) rfl)), (hw _ (List.mem_of_getElem? (i := 11) rfl))⟩)
  have E_aUNAUTHORIZED : Exa s s.heap aUNAUTHORIZED "com/example/tenet/tenet/runtime/Status" := Exa.start ev_aUNAUTHORIZED nc3
  obtain ⟨aFORBIDDEN, ev_aFORBIDDEN⟩ := exa_v nc4
  have S_aFORBIDDEN : Sta s s.heap "com/example/tenet/tenet/runtime/Status" "FORBIDDEN" "Lcom/example/tenet/tenet/runtime/Status;" (.ref aFORBIDDEN) := Sta.start ev_aFORBIDDEN (Or.inr ⟨(hw _ (List.mem_of_getElem? (i := 3) rfl)), (hw _ (List.mem_of_getElem? (i := 13) rfl))⟩)
  have E_aFORBIDDEN : Exa s s.heap aFORBIDDEN "com/example/tenet/tenet/runtime/Status" := Exa.start ev_aFORBIDDEN nc4
  obtain ⟨aNOT_FOUND, ev_aNOT_FOUND⟩ := exa_v nc5
  have S_aNOT_FOUND : Sta s s.heap "com/example/tenet/tenet/runtime/Status" "NOT_FOUND" "Lcom/example/tenet/tenet/runtime/Status;" (.ref aNOT_FOUND) := Sta.start ev_aNOT_FOUND (Or.inr ⟨(hw _ (List.mem_of_getElem? (i := 3) rfl)), (hw _ (List.mem_of_getElem? (i := 15) rfl))⟩)
  have E_aNOT_FOUND : Exa s s.heap aNOT_FOUND "com/example/tenet/tenet/runtime/Status" := Exa.start ev_aNOT_FOUND nc5
  obtain ⟨aCONFLICT, ev_aCONFLICT⟩ := exa_v nc6
  have S_aCONFLICT : Sta s s.heap "com/example/tenet/tenet/runtime/Status" "CONFLICT" "Lcom/example/tenet/tenet/runtime/Status;" (.ref aCONFLICT) := Sta.start ev_aCONFLICT (Or.inr ⟨(hw _ (List.mem_of_getElem? (i := 3) rfl)), (hw _ (List.mem_of_getElem? (i := 17) rfl))⟩)
  have E_aCONFLICT : Exa s s.heap aCONFLICT "com/example/tenet/tenet/runtime/Status" := Exa.start ev_aCONFLICT nc6
  obtain ⟨aINVARIANT_VIOLATED, ev_aINVARIANT_VIOLATED⟩ := exa_v nc7
  have S_aINVARIANT_VIOLATED : Sta s s.heap "com/example/tenet/tenet/runtime/Status" "INVARIANT_VIOLATED" "Lcom/example/tenet/tenet/runtime/Status;" (.ref aINVARIANT_VIOLATED) := Sta.start ev_aINVARIANT_VIOLATED (Or.inr ⟨(hw _ (List.mem_of_getElem? (i := 3) rfl)), (hw _ (List.mem_of_getElem? (i := 19) rfl))⟩)
  have E_aINVARIANT_VIOLATED : Exa s s.heap aINVARIANT_VIOLATED "com/example/tenet/tenet/runtime/Status" := Exa.start ev_aINVARIANT_VIOLATED nc7
  obtain ⟨aINTERNAL_ERROR, ev_aINTERNAL_ERROR⟩ := exa_v nc8
  have S_aINTERNAL_ERROR : Sta s s.heap "com/example/tenet/tenet/runtime/Status" "INTERNAL_ERROR" "Lcom/example/tenet/tenet/runtime/Status;" (.ref aINTERNAL_ERROR) := Sta.start ev_aINTERNAL_ERROR (Or.inr ⟨(hw _ (List.mem_of_getElem? (i := 3) rfl)), (hw _ (List.mem_of_getElem? (i := 21) rfl))⟩)
  have E_aINTERNAL_ERROR : Exa s s.heap aINTERNAL_ERROR "com/example/tenet/tenet/runtime/Status" := Exa.start ev_aINTERNAL_ERROR nc8
  have F_ordinal_aOK : Fld s s.heap aOK "java/lang/Enum" "ordinal" "I" (.int (0 : Int32)) := own_fld ev_aOK nc9
  have F_ordinal_aINTERNAL_ERROR : Fld s s.heap aINTERNAL_ERROR "java/lang/Enum" "ordinal" "I" (.int (8 : Int32)) := own_fld ev_aINTERNAL_ERROR nc10
  have F_code_aOK : Fld s s.heap aOK "com/example/tenet/tenet/runtime/Status" "code" "I" (.int (200 : Int32)) := own_fld ev_aOK nc11
  have F_ordinal_aUNAUTHORIZED : Fld s s.heap aUNAUTHORIZED "java/lang/Enum" "ordinal" "I" (.int (3 : Int32)) := own_fld ev_aUNAUTHORIZED nc12
  have F_code_aUNAUTHORIZED : Fld s s.heap aUNAUTHORIZED "com/example/tenet/tenet/runtime/Status" "code" "I" (.int (401 : Int32)) := own_fld ev_aUNAUTHORIZED nc13
  have F_ordinal_aBAD_REQUEST : Fld s s.heap aBAD_REQUEST "java/lang/Enum" "ordinal" "I" (.int (2 : Int32)) := own_fld ev_aBAD_REQUEST nc14
  have F_code_aBAD_REQUEST : Fld s s.heap aBAD_REQUEST "com/example/tenet/tenet/runtime/Status" "code" "I" (.int (400 : Int32)) := own_fld ev_aBAD_REQUEST nc15
  have F_ordinal_aNO_CONTENT : Fld s s.heap aNO_CONTENT "java/lang/Enum" "ordinal" "I" (.int (1 : Int32)) := own_fld ev_aNO_CONTENT nc16
  have F_code_aNO_CONTENT : Fld s s.heap aNO_CONTENT "com/example/tenet/tenet/runtime/Status" "code" "I" (.int (204 : Int32)) := own_fld ev_aNO_CONTENT nc17
  have F_ordinal_aINVARIANT_VIOLATED : Fld s s.heap aINVARIANT_VIOLATED "java/lang/Enum" "ordinal" "I" (.int (7 : Int32)) := own_fld ev_aINVARIANT_VIOLATED nc18
  have F_code_aINVARIANT_VIOLATED : Fld s s.heap aINVARIANT_VIOLATED "com/example/tenet/tenet/runtime/Status" "code" "I" (.int (422 : Int32)) := own_fld ev_aINVARIANT_VIOLATED nc19
  have F_ordinal_aFORBIDDEN : Fld s s.heap aFORBIDDEN "java/lang/Enum" "ordinal" "I" (.int (4 : Int32)) := own_fld ev_aFORBIDDEN nc20
  have F_code_aFORBIDDEN : Fld s s.heap aFORBIDDEN "com/example/tenet/tenet/runtime/Status" "code" "I" (.int (403 : Int32)) := own_fld ev_aFORBIDDEN nc21
  have F_code_aINTERNAL_ERROR : Fld s s.heap aINTERNAL_ERROR "com/example/tenet/tenet/runtime/Status" "code" "I" (.int (500 : Int32)) := own_fld ev_aINTERNAL_ERROR nc22
  have F_ordinal_aCONFLICT : Fld s s.heap aCONFLICT "java/lang/Enum" "ordinal" "I" (.int (6 : Int32)) := own_fld ev_aCONFLICT nc23
  have F_code_aCONFLICT : Fld s s.heap aCONFLICT "com/example/tenet/tenet/runtime/Status" "code" "I" (.int (409 : Int32)) := own_fld ev_aCONFLICT nc24
  have F_ordinal_aNOT_FOUND : Fld s s.heap aNOT_FOUND "java/lang/Enum" "ordinal" "I" (.int (5 : Int32)) := own_fld ev_aNOT_FOUND nc25
  have F_code_aNOT_FOUND : Fld s s.heap aNOT_FOUND "com/example/tenet/tenet/runtime/Status" "code" "I" (.int (404 : Int32)) := own_fld ev_aNOT_FOUND nr25
  obtain ⟨n, o, h1, h2, h3, _, L, rfl, ⟨rfl, N⟩, hq⟩ := rm0 l s _ hw tables_1 i0 aOK aNO_CONTENT aBAD_REQUEST aUNAUTHORIZED aFORBIDDEN aNOT_FOUND aCONFLICT aINVARIANT_VIOLATED aINTERNAL_ERROR s.heap s.heap.size (Nat.le_refl _) S_aOK E_aOK S_aNO_CONTENT E_aNO_CONTENT S_aBAD_REQUEST E_aBAD_REQUEST S_aUNAUTHORIZED E_aUNAUTHORIZED S_aFORBIDDEN E_aFORBIDDEN S_aNOT_FOUND E_aNOT_FOUND S_aCONFLICT E_aCONFLICT S_aINVARIANT_VIOLATED E_aINVARIANT_VIOLATED S_aINTERNAL_ERROR E_aINTERNAL_ERROR F_ordinal_aOK F_ordinal_aINTERNAL_ERROR F_code_aOK F_ordinal_aUNAUTHORIZED F_code_aUNAUTHORIZED F_ordinal_aBAD_REQUEST F_code_aBAD_REQUEST F_ordinal_aNO_CONTENT F_code_aNO_CONTENT F_ordinal_aINVARIANT_VIOLATED F_code_aINVARIANT_VIOLATED F_ordinal_aFORBIDDEN F_code_aFORBIDDEN F_code_aINTERNAL_ERROR F_ordinal_aCONFLICT F_code_aCONFLICT F_ordinal_aNOT_FOUND F_code_aNOT_FOUND p e ha hc hk s m _ below hf ((Spec.applies_iff_loose hf).mp happ).1 ⟨rfl, State.Warmed39.refl s, rfl⟩ trivial
  refine ⟨n, _, h1, h2, h3, hpost _ _ _ _ _ _ ⟨Cond.after_iff.mpr rfl, Cond.after_iff.mpr (eq_i res_at (Term.int_eval (1)) rfl), trivial⟩ ⟨hq.1, hq.2.1, (hq.2.2.sift fun y hy => Or.inr (N y hy)).mono (by decide) (by decide)⟩⟩
theorem main_1_1 : Claimed_1_1 := comes_1 fun _ _ _ _ _ _ h hF => ⟨h.1, hF⟩
theorem main_1_2 : Claimed_1_2 := comes_1 fun _ _ _ _ _ _ h hF => ⟨h.2.1, hF⟩
end Jvm.Pilot.@@N@@
namespace Jvm.Pilot.@@N@@
open Jvm Jvm.ClassFile Sem Op Lib Jvm.Free Jvm.Stand Jvm.Pilot.@@N@@.Jvm.D
/-! MADE BY PROGRAM (witnessworld.py) out of the Statement's table words and the real class files: 13 classes; the members and pool entries that the words name. The judged class is class 1, her method 1. -/
namespace start1
open Jvm.ClassFile
def u (s : String) : CpInfo := .utf8 (stringToUtf16 s)
/-- a pool by its gaps: so many unusable entries, then the entry; so many at the end -/
def gap : Nat → List CpInfo → List CpInfo
  | 0, r => r
  | n + 1, r => .unusable :: gap n r
def poolList (es : List (Nat × CpInfo)) (last : Nat) : List CpInfo := es.foldr (fun e r => gap e.1 (e.2 :: r)) (gap last [])
def pool (es : List (Nat × CpInfo)) (last : Nat) : Array CpInfo := ⟨poolList es last⟩
def fileOf (pool : Array CpInfo) (this : Nat) (attrs : Array Attribute := #[]) (ms : Array MethodInfo := #[]) (fl : Nat := 33) (sup : Nat := 0) (ifs : Array Nat := #[]) (fds : Array FieldInfo := #[]) : ClassFile where
  minorVersion := 0
  majorVersion := 65
  constantPool := pool
  accessFlags := fl
  thisClass := this
  superClass := sup
  interfaces := ifs
  fields := fds
  methods := ms
  attributes := attrs
def plain (name : String) (sup : Option ClassId) : Class where
  name := name
  kind := .ordinary
  loader := none
  accessFlags := 33
  super := sup
  interfaces := #[]
  cf := none
  fields := #[]
  methods := #[]
  instanceTypes := #[]
  staticTypes := #[]
  resolved := #[]
  callSites := []
  init := .initialized
  statics := none
  mirror := none

def pool0 : Array CpInfo := pool [(5, u "<init>"), (0, u "()V"), (1, .class_ 10), (1, u "java/lang/Object")] 113

def k0m0 : Method := { name := "<init>", desc := "()V", sig := { parameters := [], returnType := none }, accessFlags := 1, code := none }
/-- java/lang/Object -/
def k0 : Class := { plain "java/lang/Object" none with
  accessFlags := 33
  interfaces := #[]
  cf := some (fileOf pool0 8 #[] #[{ accessFlags := 1, nameIndex := 5, descriptorIndex := 6, attributes := #[] }] 33 0 #[] #[])
  fields := #[]
  methods := #[k0m0]
  instanceTypes := #[]
  staticTypes := #[]
  resolved := Array.replicate 124 none
  statics := none }

def pool1 : Array CpInfo := pool [(2, .class_ 4), (1, u "java/lang/Object"), (0, u "<init>"), (0, u "()V"), (0, .class_ 8), (0, u "com/example/tenet/tenet/runtime/Status"), (0, .fieldref 7 10), (0, .nameAndType 11 12), (0, u "OK"), (0, u "Lcom/example/tenet/tenet/runtime/Status;"), (0, .fieldref 7 14), (0, .nameAndType 15 12), (0, u "NO_CONTENT"), (0, .fieldref 7 17), (0, .nameAndType 18 12), (0, u "BAD_REQUEST"), (0, .fieldref 7 20), (0, .nameAndType 21 12), (0, u "UNAUTHORIZED"), (0, .fieldref 7 23), (0, .nameAndType 24 12), (0, u "FORBIDDEN"), (0, .fieldref 7 26), (0, .nameAndType 27 12), (0, u "NOT_FOUND"), (0, .fieldref 7 29), (0, .nameAndType 30 12), (0, u "CONFLICT"), (0, .fieldref 7 32), (0, .nameAndType 33 12), (0, u "INVARIANT_VIOLATED"), (0, .fieldref 7 35), (0, .nameAndType 36 12), (0, u "INTERNAL_ERROR"), (0, .integer 2147483647), (0, .methodref 7 39), (0, .nameAndType 40 41), (0, u "isServerError"), (0, u "()Z"), (0, .methodref 7 43), (0, .nameAndType 44 45), (0, u "code"), (0, u "()I"), (0, .class_ 47), (0, u "com/example/tenet/tenet/runtime/StatusIsServerErrorPinLaw"), (2, u "law"), (0, u "(I)Z")] 5

def k1m0 : Method := { name := "<init>", desc := "()V", sig := { parameters := [], returnType := none }, accessFlags := 1, code := none }
def k1c1 : Code := { maxStack := 4, maxLocals := 8, code := code, exceptionTable := #[], attributes := #[] }
def k1m1 : Method := { name := "law", desc := "(I)Z", sig := { parameters := [.int], returnType := some .boolean }, accessFlags := 9, code := some k1c1 }
/-- com/example/tenet/tenet/runtime/StatusIsServerErrorPinLaw -/
def k1 : Class := { plain "com/example/tenet/tenet/runtime/StatusIsServerErrorPinLaw" (some 0) with
  accessFlags := 49
  interfaces := #[]
  cf := some (fileOf pool1 46 #[] #[{ accessFlags := 1, nameIndex := 5, descriptorIndex := 6, attributes := #[] }, { accessFlags := 9, nameIndex := 50, descriptorIndex := 51, attributes := #[] }] 49 2 #[] #[])
  fields := #[]
  methods := #[k1m0, k1m1]
  instanceTypes := #[]
  staticTypes := #[]
  resolved := Array.replicate 57 none
  statics := none }

def pool2 : Array CpInfo := pool [(1, .class_ 2), (0, u "java/lang/constant/Constable"), (0, .class_ 4), (0, u "java/lang/Object")] 6

/-- java/lang/constant/Constable -/
def k2 : Class := { plain "java/lang/constant/Constable" (some 0) with
  accessFlags := 1537
  interfaces := #[]
  cf := some (fileOf pool2 1 #[] #[] 1537 3 #[] #[])
  fields := #[]
  methods := #[]
  instanceTypes := #[]
  staticTypes := #[]
  resolved := Array.replicate 11 none
  statics := none }

def pool3 : Array CpInfo := pool [(1, .class_ 2), (0, u "java/lang/Comparable"), (0, .class_ 4), (0, u "java/lang/Object")] 7

/-- java/lang/Comparable -/
def k3 : Class := { plain "java/lang/Comparable" (some 0) with
  accessFlags := 1537
  interfaces := #[]
  cf := some (fileOf pool3 1 #[] #[] 1537 3 #[] #[])
  fields := #[]
  methods := #[]
  instanceTypes := #[]
  staticTypes := #[]
  resolved := Array.replicate 12 none
  statics := none }

def pool4 : Array CpInfo := pool [(1, .class_ 2), (0, u "java/io/Serializable"), (0, .class_ 4), (0, u "java/lang/Object")] 2

/-- java/io/Serializable -/
def k4 : Class := { plain "java/io/Serializable" (some 0) with
  accessFlags := 1537
  interfaces := #[]
  cf := some (fileOf pool4 1 #[] #[] 1537 3 #[] #[])
  fields := #[]
  methods := #[]
  instanceTypes := #[]
  staticTypes := #[]
  resolved := Array.replicate 7 none
  statics := none }

def pool5 : Array CpInfo := pool [(2, .class_ 4), (1, u "java/lang/Enum"), (0, u "name"), (0, u "Ljava/lang/String;"), (2, u "ordinal"), (0, u "I"), (1, .class_ 14), (1, u "java/lang/Object"), (4, u "hash"), (86, .class_ 108), (1, u "java/lang/Enum$EnumDesc"), (2, .class_ 112), (0, u "java/lang/constant/Constable"), (0, .class_ 114), (0, u "java/lang/Comparable"), (0, .class_ 116), (0, u "java/io/Serializable")] 87

/-- java/lang/Enum -/
def k5 : Class := { plain "java/lang/Enum" (some 0) with
  accessFlags := 1057
  interfaces := #[2, 3, 4]
  cf := some (fileOf pool5 2 #[.nestMembers #[106]] #[] 1057 12 #[111, 113, 115] #[{ accessFlags := 18, nameIndex := 5, descriptorIndex := 6, attributes := #[] }, { accessFlags := 18, nameIndex := 9, descriptorIndex := 10, attributes := #[] }, { accessFlags := 2, nameIndex := 19, descriptorIndex := 10, attributes := #[] }])
  fields := #[{ name := "name", type := (.object "java/lang/String"), accessFlags := 18, slot := 0, constantValue := 0 }, { name := "ordinal", type := .int, accessFlags := 18, slot := 1, constantValue := 0 }, { name := "hash", type := .int, accessFlags := 2, slot := 2, constantValue := 0 }]
  methods := #[]
  instanceTypes := #[(.object "java/lang/String"), .int, .int]
  staticTypes := #[]
  resolved := Array.replicate 204 none
  statics := none }

def pool6 : Array CpInfo := pool [(1, .class_ 2), (0, u "com/example/tenet/tenet/runtime/Status"), (2, u "OK"), (0, u "Lcom/example/tenet/tenet/runtime/Status;"), (2, u "NO_CONTENT"), (2, u "BAD_REQUEST"), (2, u "UNAUTHORIZED"), (2, u "FORBIDDEN"), (2, u "NOT_FOUND"), (2, u "CONFLICT"), (2, u "INVARIANT_VIOLATED"), (2, u "INTERNAL_ERROR"), (2, u "$VALUES"), (0, u "[Lcom/example/tenet/tenet/runtime/Status;"), (6, .class_ 43), (1, u "java/lang/Enum"), (6, .fieldref 1 51), (0, .nameAndType 52 53), (0, u "code"), (0, u "I"), (2, u "error"), (0, u "Ljava/lang/String;"), (37, u "()I"), (0, u "isServerError"), (0, u "()Z")] 7

def k6c0 : Code := { maxStack := 1, maxLocals := 1, code := prog_148_method_4_code, exceptionTable := #[], attributes := #[] }
def k6m0 : Method := { name := "code", desc := "()I", sig := { parameters := [], returnType := some .int }, accessFlags := 1, code := some k6c0 }
def k6c1 : Code := { maxStack := 2, maxLocals := 1, code := prog_148_method_5_code, exceptionTable := #[], attributes := #[] }
def k6m1 : Method := { name := "isServerError", desc := "()Z", sig := { parameters := [], returnType := some .boolean }, accessFlags := 1, code := some k6c1 }
/-- com/example/tenet/tenet/runtime/Status -/
def k6 : Class := { plain "com/example/tenet/tenet/runtime/Status" (some 5) with
  accessFlags := 16433
  interfaces := #[]
  cf := some (fileOf pool6 1 #[] #[{ accessFlags := 1, nameIndex := 52, descriptorIndex := 95, attributes := #[] }, { accessFlags := 1, nameIndex := 96, descriptorIndex := 97, attributes := #[] }] 16433 41 #[] #[{ accessFlags := 16409, nameIndex := 5, descriptorIndex := 6, attributes := #[] }, { accessFlags := 16409, nameIndex := 9, descriptorIndex := 6, attributes := #[] }, { accessFlags := 16409, nameIndex := 12, descriptorIndex := 6, attributes := #[] }, { accessFlags := 16409, nameIndex := 15, descriptorIndex := 6, attributes := #[] }, { accessFlags := 16409, nameIndex := 18, descriptorIndex := 6, attributes := #[] }, { accessFlags := 16409, nameIndex := 21, descriptorIndex := 6, attributes := #[] }, { accessFlags := 16409, nameIndex := 24, descriptorIndex := 6, attributes := #[] }, { accessFlags := 16409, nameIndex := 27, descriptorIndex := 6, attributes := #[] }, { accessFlags := 16409, nameIndex := 30, descriptorIndex := 6, attributes := #[] }, { accessFlags := 18, nameIndex := 52, descriptorIndex := 53, attributes := #[] }, { accessFlags := 18, nameIndex := 56, descriptorIndex := 57, attributes := #[] }, { accessFlags := 4122, nameIndex := 33, descriptorIndex := 34, attributes := #[] }])
  fields := #[{ name := "OK", type := (.object "com/example/tenet/tenet/runtime/Status"), accessFlags := 16409, slot := 0, constantValue := 0 }, { name := "NO_CONTENT", type := (.object "com/example/tenet/tenet/runtime/Status"), accessFlags := 16409, slot := 1, constantValue := 0 }, { name := "BAD_REQUEST", type := (.object "com/example/tenet/tenet/runtime/Status"), accessFlags := 16409, slot := 2, constantValue := 0 }, { name := "UNAUTHORIZED", type := (.object "com/example/tenet/tenet/runtime/Status"), accessFlags := 16409, slot := 3, constantValue := 0 }, { name := "FORBIDDEN", type := (.object "com/example/tenet/tenet/runtime/Status"), accessFlags := 16409, slot := 4, constantValue := 0 }, { name := "NOT_FOUND", type := (.object "com/example/tenet/tenet/runtime/Status"), accessFlags := 16409, slot := 5, constantValue := 0 }, { name := "CONFLICT", type := (.object "com/example/tenet/tenet/runtime/Status"), accessFlags := 16409, slot := 6, constantValue := 0 }, { name := "INVARIANT_VIOLATED", type := (.object "com/example/tenet/tenet/runtime/Status"), accessFlags := 16409, slot := 7, constantValue := 0 }, { name := "INTERNAL_ERROR", type := (.object "com/example/tenet/tenet/runtime/Status"), accessFlags := 16409, slot := 8, constantValue := 0 }, { name := "code", type := .int, accessFlags := 18, slot := 3, constantValue := 0 }, { name := "error", type := (.object "java/lang/String"), accessFlags := 18, slot := 4, constantValue := 0 }, { name := "$VALUES", type := (.array (.object "com/example/tenet/tenet/runtime/Status")), accessFlags := 4122, slot := 9, constantValue := 0 }]
  methods := #[k6m0, k6m1]
  instanceTypes := #[(.object "java/lang/String"), .int, .int, .int, (.object "java/lang/String")]
  staticTypes := #[(.object "com/example/tenet/tenet/runtime/Status"), (.object "com/example/tenet/tenet/runtime/Status"), (.object "com/example/tenet/tenet/runtime/Status"), (.object "com/example/tenet/tenet/runtime/Status"), (.object "com/example/tenet/tenet/runtime/Status"), (.object "com/example/tenet/tenet/runtime/Status"), (.object "com/example/tenet/tenet/runtime/Status"), (.object "com/example/tenet/tenet/runtime/Status"), (.object "com/example/tenet/tenet/runtime/Status"), (.array (.object "com/example/tenet/tenet/runtime/Status"))]
  resolved := Array.replicate 105 none
  statics := some 0 }

def pool7 : Array CpInfo := pool [(1, u "java/lang/Cloneable"), (0, .class_ 1), (0, u "java/lang/Object"), (0, .class_ 3)] 3

/-- java/lang/Cloneable -/
def k7 : Class := { plain "java/lang/Cloneable" (some 0) with
  accessFlags := 1537
  interfaces := #[]
  cf := some (fileOf pool7 2 #[] #[] 1537 4 #[] #[])
  fields := #[]
  methods := #[]
  instanceTypes := #[]
  staticTypes := #[]
  resolved := Array.replicate 8 none
  statics := none }

/-- the primitive byte -/
def k8 : Class := { plain "byte" none with kind := .primitive 'B', accessFlags := 0x411 }
/-- [B -/
def k9 : Class := { plain "[B" (some 0) with kind := .array 8 .byte, interfaces := #[7, 4], accessFlags := 1041 }

/-- the primitive int -/
def k10 : Class := { plain "int" none with kind := .primitive 'I', accessFlags := 0x411 }
/-- [I -/
def k11 : Class := { plain "[I" (some 0) with kind := .array 10 .int, interfaces := #[7, 4], accessFlags := 1041 }

/-- [Lcom/example/tenet/tenet/runtime/Status; -/
def k12 : Class := { plain "[Lcom/example/tenet/tenet/runtime/Status;" (some 0) with kind := .array 6 (.object "com/example/tenet/tenet/runtime/Status"), interfaces := #[7, 4], accessFlags := 1041 }

def heap : Heap := #[{ cls := 6, slots := #[.ref 1, .ref 2, .ref 3, .ref 4, .ref 5, .ref 6, .ref 7, .ref 8, .ref 9, .null], vm := .statics 6 },
  { cls := 6, slots := #[.null, .int 0, .int 0, .int 200, .null], vm := .none },
  { cls := 6, slots := #[.null, .int 1, .int 0, .int 204, .null], vm := .none },
  { cls := 6, slots := #[.null, .int 2, .int 0, .int 400, .null], vm := .none },
  { cls := 6, slots := #[.null, .int 3, .int 0, .int 401, .null], vm := .none },
  { cls := 6, slots := #[.null, .int 4, .int 0, .int 403, .null], vm := .none },
  { cls := 6, slots := #[.null, .int 5, .int 0, .int 404, .null], vm := .none },
  { cls := 6, slots := #[.null, .int 6, .int 0, .int 409, .null], vm := .none },
  { cls := 6, slots := #[.null, .int 7, .int 0, .int 422, .null], vm := .none },
  { cls := 6, slots := #[.null, .int 8, .int 0, .int 500, .null], vm := .none }]
def classes : Array Class := #[k0, k1, k2, k3, k4, k5, k6, k7, k8, k9, k10, k11, k12]
def interned : List (Array UInt16 × Addr) := []
def slotsUsed : Nat := 55
def theMethod : MethodId := ⟨1, 1⟩
def args0 : Array Value := #[.int 5]
def aboutOver (below : List Frame) : State where
  vm := { classes := classes, interned := interned.toArray }
  heap := heap
  slotsUsed := slotsUsed
  threads := #[{ frames := .invoking theMethod args0 :: below }]
def below0 : List Frame := [.native { method := ⟨0, 0⟩, args := #[] }]
def about1 : State := aboutOver below0
def p0 : Program := .bare "" "" ""
def e0 : Env := launch0.env 0 0 0
theorem w_frames : about1.frames = Frame.invoking theMethod args0 :: below0 := rfl
set_option maxRecDepth 65536 in
theorem w_args : argsFit about1.vm theMethod args0 = true := by decide +kernel
set_option maxRecDepth 65536 in
theorem w_heap : heapFits about1 = true := by decide +kernel
set_option maxRecDepth 65536 in
theorem w_runnable : about1.curStatus? = some .runnable := by decide +kernel
set_option maxRecDepth 65536 in
theorem w_alone : about1.alone = true := by decide +kernel
set_option maxRecDepth 65536 in
theorem w_named : about1.methodNamed? x = some theMethod := by decide +kernel
set_option maxRecDepth 65536 in
theorem w_hears : about1.hears theMethod below0 = true := by decide +kernel
set_option maxRecDepth 65536 in
theorem w_ripe : about1.ripe theMethod args0 below0 = true := by decide +kernel
theorem w_running : about1.status = .running := rfl
set_option maxRecDepth 65536 in
theorem w_room : about1.hasRoom e0.platform room_1 = true :=
  launch0.hasRoom_least _ room_1 (by decide +kernel) (by decide +kernel) (by decide +kernel) (by decide +kernel) (by decide +kernel) (by decide +kernel)
theorem allAtoms_all (ts : List Jvm.Cond) (a : Array Jvm.Value) (st : Jvm.State) : (allAtoms ts).before a st = ts.all (fun c => c.before a st) := by
  induction ts with
  | nil => rfl
  | cons c t ih =>
    show (Jvm.Cond.and c (allAtoms t)).before a st = _
    rw [Jvm.Cond.before_and, ih, List.all_cons]
def words1 : List Jvm.Cond := Jvm.Cond.code x code maxLocals ret :: tables_1
/-- a 'code' word, met by the world's own term for the bytes: nothing is compared byte by byte -/
theorem code_word {y : MethodName} {bytes : ByteArray} {mx : Nat} {rt : Option FieldType} {a : Array Value} {s : State} {m : MethodId} {meth : Method} {c : Code} (h1 : s.methodNamed? y = some m) (h2 : s.vm.method? m = some meth) (h3 : meth.code = some c) (h4 : c.code = bytes)
    (h5 : (c.maxLocals == mx && c.exceptionTable.isEmpty && decide (c.maxStack ≤ mostOperands) && decide (meth.sig.returnType = rt) && !meth.locks && decide (parseMethodDescriptor y.desc = some meth.sig)) = true) : (Jvm.Cond.code y bytes mx rt).before a s = true := by
  simp only [Bool.and_eq_true, beq_iff_eq, Bool.not_eq_true', decide_eq_true_eq] at h5
  obtain ⟨⟨⟨⟨⟨g1, g2⟩, g3⟩, g4⟩, g5⟩, g6⟩ := h5
  simp [Cond.before, Cond.holds, Cond.value, h1, h2, h3, h4, g1, g2, g3, g4, g5, g6]
def isCode : Jvm.Cond → Bool
  | .code _ _ _ _ => true
  | _ => false
theorem all_split {L : List Jvm.Cond} {P : Jvm.Cond → Bool} (h1 : L.all (fun c => isCode c || P c) = true) (h2 : ∀ c ∈ L.filter isCode, P c = true) : L.all P = true := by
  refine List.all_eq_true.mpr fun c hc => ?_
  have h := List.all_eq_true.mp h1 c hc
  rcases Bool.eq_false_or_eq_true (isCode c) with hi | hi
  · exact h2 c (List.mem_filter.mpr ⟨hc, hi⟩)
  · simpa [hi] using h
set_option maxRecDepth 65536 in
theorem w_c0 : (Jvm.Cond.code x code maxLocals ret).before args0 about1 = true := code_word (m := ⟨1, 1⟩) (meth := k1m1) (c := k1c1) (by decide +kernel) rfl rfl rfl (by decide +kernel)
set_option maxRecDepth 65536 in
theorem w_c1 : (Jvm.Cond.code ({ cls := "com/example/tenet/tenet/runtime/Status", name := "isServerError", desc := "()Z" } : Jvm.MethodName) prog_148_method_5_code (1 : Nat) (Option.some Jvm.ClassFile.FieldType.boolean)).before args0 about1 = true := code_word (m := ⟨6, 1⟩) (meth := k6m1) (c := k6c1) (by decide +kernel) rfl rfl rfl (by decide +kernel)
set_option maxRecDepth 65536 in
theorem w_c2 : (Jvm.Cond.code ({ cls := "com/example/tenet/tenet/runtime/Status", name := "code", desc := "()I" } : Jvm.MethodName) prog_148_method_4_code (1 : Nat) (Option.some Jvm.ClassFile.FieldType.int)).before args0 about1 = true := code_word (m := ⟨6, 0⟩) (meth := k6m0) (c := k6c0) (by decide +kernel) rfl rfl rfl (by decide +kernel)
def codes1 : List Jvm.Cond := [Jvm.Cond.code x code maxLocals ret, Jvm.Cond.code ({ cls := "com/example/tenet/tenet/runtime/Status", name := "isServerError", desc := "()Z" } : Jvm.MethodName) prog_148_method_5_code (1 : Nat) (Option.some Jvm.ClassFile.FieldType.boolean), Jvm.Cond.code ({ cls := "com/example/tenet/tenet/runtime/Status", name := "code", desc := "()I" } : Jvm.MethodName) prog_148_method_4_code (1 : Nat) (Option.some Jvm.ClassFile.FieldType.int)]
set_option maxRecDepth 65536 in
theorem codes_eq : words1.filter isCode = codes1 := rfl
theorem w_codes : ∀ c ∈ words1.filter isCode, c.before args0 about1 = true := by
  rw [codes_eq]
  intro c hc
  simp only [codes1, List.mem_cons, List.not_mem_nil, or_false] at hc
  rcases hc with rfl | rfl | rfl
  · exact w_c0
  · exact w_c1
  · exact w_c2
set_option maxRecDepth 65536 in
theorem w_t1 : (words1.take 24).all (fun c => isCode c || c.before args0 about1) = true := by decide +kernel
set_option maxRecDepth 65536 in
theorem w_t2 : (words1.drop 24).all (fun c => isCode c || c.before args0 about1) = true := by decide +kernel
theorem w_tables : (allAtoms (Jvm.Cond.code x code maxLocals ret :: tables_1)).before args0 about1 = true := by
  rw [allAtoms_all]
  show words1.all (fun c => c.before args0 about1) = true
  refine all_split ?_ w_codes
  rw [← List.take_append_drop 24 words1, List.all_append, w_t1, w_t2]
  rfl
set_option maxRecDepth 65536 in
theorem w_case : (Jvm.Cond.and given_1 narrow_1).before args0 about1 = true := by decide +kernel
theorem w_applies : (headSpec (Jvm.Cond.code x code maxLocals ret :: tables_1) room_1).applies x e0.platform about1 = true :=
  (Spec.applies_iff w_frames).mpr ⟨w_running, w_runnable, w_alone, w_named, w_hears, w_ripe, w_room, w_tables⟩
theorem atStart : AtStart classFile x code maxLocals ret World_1 tables_1 room_1 Calls_1 rest_1 Pre_1 launch0 p0 e0 about1 theMethod args0 below0 :=
  ⟨lists_1, trivial, launch0.admits_env _ _ _, launch0.least_env, fairChoices_fair.cas, fairChoices_fair.clock, w_frames, w_args, w_heap, w_applies, trivial, trivial, w_case⟩
end start1
theorem witness_1 : WitnessClaimed_1 := ⟨start1.p0, start1.e0, start1.about1, start1.theMethod, start1.args0, start1.below0, start1.atStart⟩
end Jvm.Pilot.@@N@@
