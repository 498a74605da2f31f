import JvmDerived
import JvmDerived.Pilot.@@N@@Statement
import JvmDerived.Pilot.@@N@@Code
set_option linter.unusedVariables false
set_option linter.unusedSimpArgs false
namespace Jvm.RoadKit
open Sem ClassFile Op Lib Jvm.Stand Jvm.Free Jvm.LawKit
section New
variable {p : Program} {l : Launch} {e : Env} {R : Room} {s : State} {m : MethodId} {args : Array Value} {below : List Frame} {meth : Method} {c : Code} {T : State} {locs : List Loc} {cells slots : Nat}
theorem retI (X : Stand p l e R s m args below meth c T locs cells slots) (hx : p.tables.exec = Jvm.exec) {pc : Nat} {Ls : Array Slot} {z : Int32} {rest : List Value} (hret : meth.sig.returnType = some .int) (hd : decode c.code pc = .ok (.ireturn, 1)) {fs : List Frame}
    (hl : ∀ (f : JFrame) (acts : List Action), f.method = m → f.locked = none → f.entered = [] → (doReturn e (T.setTop f) acts (some (.int z))).1 = T.setFrames fs) : Steps p.tables e below (T.setTop (mkF m pc Ls (.int z :: rest))) (T.setFrames fs) := by
  have hm' : T.vm.method? m = some meth := X.method'
  have hn : narrow .int (.int z) = .int z := rfl
  show Steps p.tables e below (T.setTop { method := m, pc := pc, locals := Ls, stack := _ :: rest, locked := none }) _
  jvm_step X.here [X.here.top, hx, hd, hm', hret, hn]
  first | (intro acts; rw [hl _ acts rfl rfl rfl]) | rw [hl _ _ rfl rfl rfl]
  exact Steps.refl _
end New
end Jvm.RoadKit
namespace Jvm.Pilot.@@N@@
open Jvm Jvm.ClassFile Sem Op Lib Jvm.Free Jvm.Stand Jvm.LawKit Jvm.RoadKit Bundle Jvm.Pilot.@@N@@.Jvm.D
theorem own_ltL {x y : Int64} (h : x < y) : ifCond.holds .lt (lcmpW x y) = true ∧ ifCond.holds .ge (lcmpW x y) = false ∧ ifCond.holds .gt (lcmpW y x) = true ∧ ifCond.holds .le (lcmpW y x) = false :=
  ⟨(if0 _ _).trans (tlt ((lw_lt x y).mpr h)).1, (if0 _ _).trans (tlt ((lw_lt x y).mpr h)).2.1, (if0 _ _).trans (tlt ((lw_gt y x).mpr h)).2.2.1, (if0 _ _).trans (tlt ((lw_gt y x).mpr h)).2.2.2⟩
theorem own_fltL {x y : Int64} (h : ¬ x < y) : ifCond.holds .lt (lcmpW x y) = false ∧ ifCond.holds .ge (lcmpW x y) = true ∧ ifCond.holds .gt (lcmpW y x) = false ∧ ifCond.holds .le (lcmpW y x) = true :=
  ⟨(if0 _ _).trans (flt (fun q => h ((lw_lt x y).mp q))).1, (if0 _ _).trans (flt (fun q => h ((lw_lt x y).mp q))).2.1, (if0 _ _).trans (flt (fun q => h ((lw_gt y x).mp q))).2.2.1, (if0 _ _).trans (flt (fun q => h ((lw_gt y x).mp q))).2.2.2⟩
theorem own_eqL {x y : Int64} (h : x = y) : ifCond.holds .eq (lcmpW x y) = true ∧ ifCond.holds .ne (lcmpW x y) = false :=
  ⟨(if0 _ _).trans (teq ((lw_eq x y).mpr h)).1, (if0 _ _).trans (teq ((lw_eq x y).mpr h)).2⟩
theorem own_neL {x y : Int64} (h : ¬ x = y) : ifCond.holds .eq (lcmpW x y) = false ∧ ifCond.holds .ne (lcmpW x y) = true :=
  ⟨(if0 _ _).trans (feq (fun q => h ((lw_eq x y).mp q))).1, (if0 _ _).trans (feq (fun q => h ((lw_eq x y).mp q))).2⟩

theorem own_fin {c : Int32} {N : Nat} (h0 : 0 ≤ c.toInt) (h1 : c.toInt < N) (hN : N ≤ 2147483648) : ∃ n : Fin N, c = n.1.toInt32 := by
  refine ⟨⟨c.toInt.toNat, by omega⟩, ?_⟩
  apply Int32.toInt_inj.mp
  rw [len_toInt (by show c.toInt.toNat < 2 ^ 31; omega)]
  show c.toInt = ((c.toInt.toNat : Nat) : Int)
  omega
theorem own_lt {x y : Int32} (h : x < y) : x.toInt < y.toInt := Int32.lt_iff_toInt_lt.mp h
theorem own_nlt' {x y : Int32} (h : ¬ x < y) : y.toInt ≤ x.toInt := by rw [Int32.lt_iff_toInt_lt] at h; omega
theorem own_nlt {x y : Int32} {k : Int} (h : k ≤ x.toInt) (hk : y.toInt ≤ k) : ¬ x < y := by rw [Int32.lt_iff_toInt_lt]; omega
theorem own_gt {x y : Int32} {k : Int} (h : k ≤ x.toInt) (hk : y.toInt < k) : y < x := by rw [Int32.lt_iff_toInt_lt]; omega
theorem own_ne {x y : Int32} {k : Int} (h : k ≤ x.toInt) (hk : y.toInt < k) : ¬ x = y := by rintro rfl; omega
theorem own_gtn {x y : Int32} {k : Int} (h : x.toInt < k) (hk : k ≤ y.toInt) : x < y := by rw [Int32.lt_iff_toInt_lt]; omega
theorem own_nel {x y : Int32} {k : Int} (h : x.toInt < k) (hk : k ≤ y.toInt) : ¬ x = y := by rintro rfl; omega
theorem own_lt' {x y : Int32} (h : x < y) : x.toInt + 1 ≤ y.toInt := by have := own_lt h; omega
theorem own_le' {x y : Int32} (h : ¬ y < x) : x.toInt < y.toInt + 1 := by have := own_nlt' h; omega

def own_A (Z : State) (h : Heap) (a : Addr) (ty : FieldType) (n : Nat) (f : Nat → Value) : Prop := ∃ c : Cell, Arr Z h a c ty ∧ c.slots.size = n ∧ ∀ j, j < n → c.slots[j]? = some (f j)
section OwnA
variable {Z : State} {h h' : Heap} {a b : Addr} {ty : FieldType} {n sl : Nat} {f : Nat → Value} {v : Value} {ws : List Addr}
theorem own_A.lt (F : own_A Z h a ty n f) : a < h.size := by obtain ⟨c, A, -⟩ := F; exact A.lt
theorem own_A.ext (F : own_A Z h a ty n f) (E : Ext h h') : own_A Z h' a ty n f := by obtain ⟨c, A, r⟩ := F; exact ⟨c, A.ext E, r⟩
theorem own_A.other (F : own_A Z h b ty n f) (W : Wr h h' a sl v) (q : b ≠ a) : own_A Z h' b ty n f := by obtain ⟨c, A, r⟩ := F; exact ⟨c, A.other W q, r⟩
theorem own_A.keep (F : own_A Z h a ty n f) (K : Keep h h' ws) (q : a ∉ ws) : own_A Z h' a ty n f := by obtain ⟨c, A, r⟩ := F; exact ⟨c, ⟨K.2.1 a c A.1 q, A.2⟩, r⟩
theorem own_A.set (F : own_A Z h a ty n f) (W : Wr h h' a sl v) : own_A Z h' a ty n (fun i => if i = sl then v else f i) := by
  obtain ⟨c, A, S, H⟩ := F
  refine ⟨_, A.same W, (sz_set _ _ _).trans S, fun j hj => ?_⟩
  by_cases e : j = sl
  · subst e
    simp only [Cell.setSlot, if_true]
    rw [Array.getElem?_setIfInBounds_self_of_lt (by omega)]
  · simp only [Cell.setSlot, if_neg e]
    rw [Array.getElem?_setIfInBounds_ne (Ne.symm e)]
    exact H j hj
theorem own_A.eqv {g : Nat → Value} (F : own_A Z h a ty n f) (e : ∀ j, j < n → f j = g j) : own_A Z h a ty n g := by
  obtain ⟨c, A, S, H⟩ := F
  exact ⟨c, A, S, fun j hj => (e j hj) ▸ H j hj⟩
theorem own_A.setI {g : Nat → Int32} {x : Int32} (F : own_A Z h a ty n (fun i => .int (g i))) (W : Wr h h' a sl (.int x)) : own_A Z h' a ty n (fun i => .int (if i = sl then x else g i)) :=
  (F.set W).eqv fun j _ => by
    by_cases e : j = sl
    · simp only [if_pos e]
    · simp only [if_neg e]
theorem own_A.setJ {g : Nat → Int64} {x : Int64} (F : own_A Z h a ty n (fun i => .long (g i))) (W : Wr h h' a sl (.long x)) : own_A Z h' a ty n (fun i => .long (if i = sl then x else g i)) :=
  (F.set W).eqv fun j _ => by
    by_cases e : j = sl
    · simp only [if_pos e]
    · simp only [if_neg e]
theorem own_A.new {k : ClassId} {z : Int32} (A : Arr Z h a (newA k ty z) ty) : own_A Z h a ty z.toNatClampNeg (fun _ => defaultValue ty) :=
  ⟨_, A, sz_new _ _ _, fun j hj => by simp [newA, hj]⟩
end OwnA
theorem own_in {c : Cell} {n : Nat} {j : Int32} (S : c.slots.size = n) (h : 0 ≤ j.toInt ∧ j.toInt < n) : ¬ (j < 0 ∨ c.slots.size ≤ j.toNatClampNeg) := by
  rw [S, Int32.lt_iff_toInt_lt, show (0 : Int32).toInt = 0 from rfl]
  have e : j.toNatClampNeg = j.toInt.toNat := rfl
  rw [e]; omega
theorem own_ix {n : Nat} {j : Int32} (h : 0 ≤ j.toInt ∧ j.toInt < n) : j.toNatClampNeg < n := by
  have e : j.toNatClampNeg = j.toInt.toNat := rfl
  rw [e]; omega
theorem own_len {c : Cell} {n : Nat} {z : Int32} (S : c.slots.size = n) (h : n.toInt32 = z) : c.slots.size.toInt32 = z := by rw [S]; exact h
def own_O (Z : State) (h : Heap) (a : Addr) (C : String) : Prop := ∃ c : Cell, h[a]? = some c ∧ Ovr Z c.cls C
theorem own_O.ext {Z : State} {h h' : Heap} {a : Addr} {C : String} (F : own_O Z h a C) (E : Ext h h') : own_O Z h' a C := by obtain ⟨c, h1, o⟩ := F; exact ⟨c, E.2 _ _ h1, o⟩
theorem own_O.wr {Z : State} {h h' : Heap} {a b : Addr} {C : String} {sl : Nat} {v : Value} (F : own_O Z h a C) (W : Wr h h' b sl v) : own_O Z h' a C := by
  obtain ⟨c, h1, o⟩ := F
  obtain ⟨c', e1, e2, -⟩ := wr_at W h1
  exact ⟨c', e1, e2 ▸ o⟩
theorem own_sto {Z : State} {h : Heap} {a y : Addr} {cl : Cell} {ty : FieldType} {C : String} (A : Arr Z h a cl ty) (O : own_O Z h a C) (I : Ins Z h y C true) : Sto Z h a (.ref y) := by
  obtain ⟨c, h1, o⟩ := O
  cases A.1.symm.trans h1
  exact Sto.of A o I


theorem own_b8 (x : Int32) : nar .byte (x.toInt8.toInt32) = x.toInt8.toInt32 := by
  show x.toInt8.toInt32.toInt8.toInt32 = x.toInt8.toInt32
  rw [Int8.toInt8_toInt32]

theorem d2_0 : decode prog_23_method_1_code 0 = .ok (.aload_n 0, 1) := by decide +kernel
theorem d2_1 : decode prog_23_method_1_code 1 = .ok (.invokespecial 1, 3) := by decide +kernel
theorem d2_4 : decode prog_23_method_1_code 4 = .ok (.aload_n 0, 1) := by decide +kernel
theorem d2_5 : decode prog_23_method_1_code 5 = .ok (.aload_n 1, 1) := by decide +kernel
theorem d2_6 : decode prog_23_method_1_code 6 = .ok (.putfield 7, 3) := by decide +kernel
theorem d2_9 : decode prog_23_method_1_code 9 = .ok (.return_, 1) := by decide +kernel
theorem pn_0 : plainName "com/example/keyclasp/keyclasp/methods/MacAddress" = true := by first | (simp [plainName, overriddenIn]; done) | decide +kernel
theorem ef_2 (m : MethodId) (o0 : Addr) (o1 : Addr) : entryFrame m #[(.ref o0), (.ref o1)] 2 = mkF m 0 #[.val (.ref o0), .val (.ref o1)] [] := by first | (simp [entryFrame, mkF, argsToLocals, Value.category]; done) | rfl

def Q2 (Z : State) (o0 : Addr) (o1 : Addr) (h0 : Heap) (n0 : Nat) (v : Option Value) (h : Heap) (L : List Loc) : Prop := v = none ∧ Fr n0 L ∧ Keep h0 h [o0] ∧ (Fld Z h o0 "com/example/keyclasp/keyclasp/methods/MacAddress" "bytes" "[B" (.ref o1))
set_option maxRecDepth 65536 in
set_option maxHeartbeats 40000000 in
theorem rm2 (l : Launch) (Z : State) (a0 : Array Value) (hw : ∀ d ∈ tables_1, d.before a0 Z = true) (ws : List Jvm.Cond) (o0 : Addr) (o1 : Addr) (h0 : Heap) (n0 : Nat) (Z0 : n0 ≤ h0.size) (F_bytes_o0 : Fld Z h0 o0 "com/example/keyclasp/keyclasp/methods/MacAddress" "bytes" "[B" .null) (E_o0 : Exa Z h0 o0 "com/example/keyclasp/keyclasp/methods/MacAddress") (g_o0 : n0 ≤ o0) :
    MetFree l (⟨"com/example/keyclasp/keyclasp/methods/MacAddress", "<init>", "([B)V"⟩ : MethodName) (head1 (Jvm.Cond.code (⟨"com/example/keyclasp/keyclasp/methods/MacAddress", "<init>", "([B)V"⟩ : MethodName) prog_23_method_1_code 2 none :: ws) ({ frames := 1, cells := 0, slots := 0, locals := 12 } : Room)) (fun a U => a = #[(.ref o0), (.ref o1)] ∧ Z.Warmed39 U.vm ∧ U.heap = h0) (fun _ _ _ _ _ => True) (fun _ U o U' => ∃ v L, o = .returned v ∧ Q2 Z o0 o1 h0 n0 v U'.heap L ∧ FrameEnd U o U' L ({ frames := 1, cells := 0, slots := 0, locals := 12 } : Room).cells ({ frames := 1, cells := 0, slots := 0, locals := 12 } : Room).slots) := by
  refine MetFree.of_bodySF (plainFor_of_name pn_0) hisR ?_
  intro p e s m args below meth c s₁ Bd hml0 hP hK
  obtain ⟨rfl, hZ, hh⟩ := hP
  have hx := Bd.exec
  have hby := Bd.bytes
  have hml : c.maxLocals = 2 := hml0
  have hown : s.vm.findClass "com/example/keyclasp/keyclasp/methods/MacAddress" = some m.cls := findClass_of_methodNamed Bd.named
  have hnm := (name_of_methodNamed Bd.named Bd.method).1
  have X0 : Stand p l e ({ frames := 1, cells := 0, slots := 0, locals := 12 } : Room) s m #[(.ref o0), (.ref o1)] below meth c s₁ [] 0 0 := Stand.of_body Bd
  have e0 : s₁.heap = h0 := by rw [← hh, Bd.state]; rfl
  have N0 := Fr.nil n0
  have pre0 : ∀ t, Steps p.tables e below (s₁.setTop (mkF m 0 #[.val (.ref o0), .val (.ref o1)] [])) t → Steps p.tables e below (s₁.setTop (entryFrame m #[(.ref o0), (.ref o1)] 2)) t := fun t k => castTop (ef_2 m o0 o1) k
  obtain ⟨T1, X1, e1, st1⟩ := initO X0 hx hZ hown (hw _ (List.mem_of_getElem? (i := 19) rfl)) (hw _ (List.mem_of_getElem? (i := 20) rfl)) (hw _ (List.mem_of_getElem? (i := 21) rfl)) e0 (g := (mkF m 1 #[.val (.ref o0), .val (.ref o1)] [(.ref o0)])) rfl (by rw [hml]; rfl) rfl (hb hby d2_1) (by decide) (W := 0) (by show 2 * 0 + _ ≤ _; exact Nat.le_of_eq rfl) (by decide)
  obtain ⟨T2, h2, X2, e2, W2, st2⟩ := putF X1 hx hZ hown (host := "") (Or.inl (hw _ (List.mem_of_getElem? (i := 22) rfl))) Via.refl e1 F_bytes_o0 E_o0 (Or.inr ⟨(hw _ (List.mem_of_getElem? (i := 23) rfl)), rfl, hnm⟩) (hw _ (List.mem_of_getElem? (i := 6) rfl)) (ty := (.array .byte)) (by decide) rfl rfl (g := (mkF m 6 #[.val (.ref o0), .val (.ref o1)] [(.ref o1), (.ref o0)])) rfl rfl (hb hby d2_6)
  have N2 := Fr.snoc X2 N0 g_o0
  have F_bytes_o0_w2 : Fld Z h2 o0 "com/example/keyclasp/keyclasp/methods/MacAddress" "bytes" "[B" (.ref o1) := (F_bytes_o0).same W2
  have E_o0_3 : Exa Z h2 o0 "com/example/keyclasp/keyclasp/methods/MacAddress" := (E_o0).wr W2
  have SZ4 : h0.size ≤ h2.size := by rw [W2.size]; exact (Nat.le_refl _)
  have ZZ4 : n0 ≤ h2.size := Nat.le_trans Z0 SZ4
  have K5 : Keep h0 h2 [o0] := ((Keep.refl h0 [o0])).wr W2 (Or.inl (List.mem_of_getElem? (i := 0) rfl))
  have pre6 : ∀ t, Steps p.tables e below (T2.setTop (mkF m 9 #[.val (.ref o0), .val (.ref o1)] [])) t → Steps p.tables e below (s₁.setTop (entryFrame m #[(.ref o0), (.ref o1)] 2)) t := fun t k => pre0 t (by
    show Steps p.tables e below (s₁.setTop (mkF m 0 #[.val (.ref o0), .val (.ref o1)] [])) _
    refine XS.aloadN X0.here hx rfl (hb hby d2_0) rfl rfl ?_
    show Steps p.tables e below (s₁.setTop (mkF m 1 #[.val (.ref o0), .val (.ref o1)] [(.ref o0)])) _
    refine st1 _ ?_
    show Steps p.tables e below (T1.setTop (mkF m 4 #[.val (.ref o0), .val (.ref o1)] [])) _
    refine XS.aloadN X1.here hx rfl (hb hby d2_4) rfl rfl ?_
    show Steps p.tables e below (T1.setTop (mkF m 5 #[.val (.ref o0), .val (.ref o1)] [(.ref o0)])) _
    refine XS.aloadN X1.here hx rfl (hb hby d2_5) rfl rfl ?_
    show Steps p.tables e below (T1.setTop (mkF m 6 #[.val (.ref o0), .val (.ref o1)] [(.ref o1), (.ref o0)])) _
    refine st2 _ ?_
    show Steps p.tables e below (T2.setTop (mkF m 9 #[.val (.ref o0), .val (.ref o1)] [])) _
    exact k)
  obtain ⟨fs, hr, hrun, hended, hW, hsame⟩ := X2.leave (v := none) (fun _ => rfl)
  refine ⟨_, _, pre6 _ ?_, hrun, hended, _, _, rfl, ?_, ⟨_, rfl⟩, hW, hsame.mono (by decide) (by decide)⟩
  · exact X2.returnOut hx Bd.returns (hb hby d2_9) hr
  · show Q2 Z o0 o1 h0 n0 _ T2.heap _
    rw [e2]
    exact ⟨rfl, N2, K5, F_bytes_o0_w2⟩
theorem d1_0 : decode prog_23_method_3_code 0 = .ok (.aload_n 0, 1) := by decide +kernel
theorem d1_1 : decode prog_23_method_3_code 1 = .ok (.arraylength, 1) := by decide +kernel
theorem d1_2 : decode prog_23_method_3_code 2 = .ok (.bipush 6, 2) := by decide +kernel
theorem d1_4 : decode prog_23_method_3_code 4 = .ok (.if_icmp .eq 18, 3) := by decide +kernel
theorem d1_22 : decode prog_23_method_3_code 22 = .ok (.new 8, 3) := by decide +kernel
theorem d1_25 : decode prog_23_method_3_code 25 = .ok (.dup, 1) := by decide +kernel
theorem d1_26 : decode prog_23_method_3_code 26 = .ok (.aload_n 0, 1) := by decide +kernel
theorem d1_27 : decode prog_23_method_3_code 27 = .ok (.invokevirtual 38, 3) := by decide +kernel
theorem d1_30 : decode prog_23_method_3_code 30 = .ok (.checkcast 39, 3) := by decide +kernel
theorem d1_33 : decode prog_23_method_3_code 33 = .ok (.invokespecial 32, 3) := by decide +kernel
theorem d1_36 : decode prog_23_method_3_code 36 = .ok (.areturn, 1) := by decide +kernel
theorem pd_0 : parseMethodDescriptor "([B)V" = some ⟨[(.array .byte)], none⟩ := by decide +kernel
theorem ef_1 (m : MethodId) (o0 : Addr) : entryFrame m #[(.ref o0)] 1 = mkF m 0 #[.val (.ref o0)] [] := by first | (simp [entryFrame, mkF, argsToLocals, Value.category]; done) | rfl

def Q1 (Z : State) (o0 : Addr) (g : Nat → Int32) (h0 : Heap) (n0 : Nat) (v : Option Value) (h : Heap) (L : List Loc) : Prop := ∃ (b : Addr) (t : Addr), v = some (.ref b) ∧ Fr n0 L ∧ Keep h0 h [] ∧ h0.size ≤ b ∧ h0.size ≤ t ∧ b ≠ t ∧ (Exa Z h b "com/example/keyclasp/keyclasp/methods/MacAddress") ∧ (Fld Z h b "com/example/keyclasp/keyclasp/methods/MacAddress" "bytes" "[B" (.ref t)) ∧ (own_A Z h t .byte 6 (fun i => (.int (g i)))) ∧ (Exa Z h t "[B")
set_option maxRecDepth 65536 in
set_option maxHeartbeats 40000000 in
theorem rm1 (l : Launch) (Z : State) (a0 : Array Value) (hw : ∀ d ∈ tables_1, d.before a0 Z = true) (ws : List Jvm.Cond) (o0 : Addr) (g : Nat → Int32) (h0 : Heap) (n0 : Nat) (Z0 : n0 ≤ h0.size) (A_o0 : own_A Z h0 o0 .byte 6 (fun i => (.int (g i)))) (E_o0 : Exa Z h0 o0 "[B") (hfit : ∀ i, i < 6 → fits .byte (.int (g i)) = true) :
    MetFree l (⟨"com/example/keyclasp/keyclasp/methods/MacAddress", "of", "([B)Lcom/example/keyclasp/keyclasp/methods/MacAddress;"⟩ : MethodName) (head1 (Jvm.Cond.code (⟨"com/example/keyclasp/keyclasp/methods/MacAddress", "of", "([B)Lcom/example/keyclasp/keyclasp/methods/MacAddress;"⟩ : MethodName) prog_23_method_3_code 1 (some (.object "com/example/keyclasp/keyclasp/methods/MacAddress")) :: ws) ({ frames := 2, cells := 2, slots := 7, locals := 26 } : Room)) (fun a U => a = #[(.ref o0)] ∧ Z.Warmed39 U.vm ∧ U.heap = h0) (fun _ _ _ _ _ => True) (fun _ U o U' => ∃ v L, o = .returned v ∧ Q1 Z o0 g h0 n0 v U'.heap L ∧ FrameEnd U o U' L ({ frames := 2, cells := 2, slots := 7, locals := 26 } : Room).cells ({ frames := 2, cells := 2, slots := 7, locals := 26 } : Room).slots) := by
  refine MetFree.of_bodySF (plainFor_of_name pn_0) hisR ?_
  intro p e s m args below meth c s₁ Bd hml0 hP hK
  obtain ⟨rfl, hZ, hh⟩ := hP
  have hx := Bd.exec
  have hby := Bd.bytes
  have hml : c.maxLocals = 1 := hml0
  have hown : s.vm.findClass "com/example/keyclasp/keyclasp/methods/MacAddress" = some m.cls := findClass_of_methodNamed Bd.named
  have hnm := (name_of_methodNamed Bd.named Bd.method).1
  have X0 : Stand p l e ({ frames := 2, cells := 2, slots := 7, locals := 26 } : Room) s m #[(.ref o0)] below meth c s₁ [] 0 0 := Stand.of_body Bd
  have e0 : s₁.heap = h0 := by rw [← hh, Bd.state]; rfl
  have N0 := Fr.nil n0
  have pre0 : ∀ t, Steps p.tables e below (s₁.setTop (mkF m 0 #[.val (.ref o0)] [])) t → Steps p.tables e below (s₁.setTop (entryFrame m #[(.ref o0)] 1)) t := fun t k => castTop (ef_1 m o0) k
  have qa1 := A_o0
  obtain ⟨c1, Ar1, Sz1, H1⟩ := qa1
  obtain ⟨T2, h2, X2, e2, Ex2, Ne2, D2, -, st2⟩ := newO X0 hx hZ hown (hw _ (List.mem_of_getElem? (i := 5) rfl)) (hw _ (List.mem_of_getElem? (i := 6) rfl)) (hw _ (List.mem_of_getElem? (i := 3) rfl)) e0 (g := (mkF m 22 #[.val (.ref o0)] [])) rfl (hb hby d1_22) (by decide) (by decide)
  obtain ⟨b2, g2⟩ : ∃ z, z = h0.size := ⟨_, rfl⟩
  rw [← g2] at Ne2 D2 st2
  have ne_o0_b2 : o0 ≠ b2 := by rw [g2]; exact Nat.ne_of_lt (A_o0).lt
  have g_b2 : n0 ≤ b2 := Nat.le_trans (Nat.le_trans Z0 (Nat.le_refl _)) (Nat.le_of_eq g2.symm)
  have sz_b2 : h0.size ≤ b2 := Nat.le_trans (Nat.le_refl _) (Nat.le_of_eq g2.symm)
  have A_o0_3 : own_A Z h2 o0 .byte 6 (fun i => (.int (g i))) := (A_o0).ext Ex2
  have E_o0_3 : Exa Z h2 o0 "[B" := (E_o0).ext Ex2
  have SZ4 : h0.size ≤ h2.size := Nat.le_trans (Nat.le_refl _) Ex2.1
  have ZZ4 : n0 ≤ h2.size := Nat.le_trans Z0 SZ4
  have K5 : Keep h0 h2 [] := ((Keep.refl h0 [])).ext Ex2
  have F_bytes_b2_2 : Fld Z h2 b2 "com/example/keyclasp/keyclasp/methods/MacAddress" "bytes" "[B" .null := D2 (Or.inr (hw _ (List.mem_of_getElem? (i := 23) rfl))) (ty := (.array .byte)) (by decide)
  have qa6 := A_o0_3
  obtain ⟨c6, Ar6, Sz6, H6⟩ := qa6
  obtain ⟨T7, h7, X7, e7, Ex7, Ne7, Nx7, st7⟩ := cloneA X2 hx hZ hown (hw _ (List.mem_of_getElem? (i := 7) rfl)) (hw _ (List.mem_of_getElem? (i := 8) rfl)) (hw _ (List.mem_of_getElem? (i := 12) rfl)) (hw _ (List.mem_of_getElem? (i := 10) rfl)) (hw _ (List.mem_of_getElem? (i := 11) rfl)) (hw _ (List.mem_of_getElem? (i := 13) rfl)) e2 Ar6 E_o0_3 (fitC_of Ar6 (fun i hi v hv => by rw [Sz6] at hi; rw [H6 i hi] at hv; cases hv; exact hfit i hi)) (g := (mkF m 27 #[.val (.ref o0)] [(.ref o0), (.ref b2), (.ref b2)])) rfl (by rw [hml]; rfl) rfl (hb hby d1_27) (by decide) (W := 2) (by show 2 * 0 + _ ≤ _; exact Nat.le_of_eq rfl) (by decide) (cap := 6) (Nat.le_of_eq Sz6) (by decide) (by decide)
  obtain ⟨b7, g7⟩ : ∃ z, z = h2.size := ⟨_, rfl⟩
  rw [← g7] at Ne7 Nx7 st7
  have ne_o0_b7 : o0 ≠ b7 := by rw [g7]; exact Nat.ne_of_lt (A_o0_3).lt
  have ne_b2_b7 : b2 ≠ b7 := by rw [g7]; exact Nat.ne_of_lt (Ne2).lt
  have g_b7 : n0 ≤ b7 := Nat.le_trans (Nat.le_trans Z0 SZ4) (Nat.le_of_eq g7.symm)
  have sz_b7 : h0.size ≤ b7 := Nat.le_trans SZ4 (Nat.le_of_eq g7.symm)
  have A_o0_8 : own_A Z h7 o0 .byte 6 (fun i => (.int (g i))) := (A_o0_3).ext Ex7
  have E_o0_8 : Exa Z h7 o0 "[B" := (E_o0_3).ext Ex7
  have E_b2_8 : Exa Z h7 b2 "com/example/keyclasp/keyclasp/methods/MacAddress" := (Ne2).ext Ex7
  have F_bytes_b2_8 : Fld Z h7 b2 "com/example/keyclasp/keyclasp/methods/MacAddress" "bytes" "[B" .null := (F_bytes_b2_2).ext Ex7
  have SZ9 : h0.size ≤ h7.size := Nat.le_trans SZ4 Ex7.1
  have ZZ9 : n0 ≤ h7.size := Nat.le_trans Z0 SZ9
  have K10 : Keep h0 h7 [] := (K5).ext Ex7
  have A_b7_7 : own_A Z h7 b7 .byte 6 (fun i => (.int (g i))) := ⟨_, Ne7, Sz6, H6⟩
  obtain ⟨T11, X11, e11, st11⟩ := castY X7 hx hZ hown (hw _ (List.mem_of_getElem? (i := 14) rfl)) e7 (Ins.self Nx7) (g := (mkF m 30 #[.val (.ref o0)] [(.ref b7), (.ref b2), (.ref b2)])) rfl rfl (hb hby d1_30)
  obtain ⟨_, _, ⟨T12, L12, k12, n12⟩, -, X12, ⟨Lc12, hQ12, l12, y12, z12⟩, st12⟩ := X11.specialBack hx (y := (⟨"com/example/keyclasp/keyclasp/methods/MacAddress", "<init>", "([B)V"⟩ : MethodName)) rfl hown (mvT hZ (hw _ (List.mem_of_getElem? (i := 16) rfl))) (mvT hZ (hw _ (List.mem_of_getElem? (i := 17) rfl))) (mvT hZ (hw _ (List.mem_of_getElem? (i := 18) rfl))) (by decide) (backOf (W := 1) (rm2 l Z a0 hw [] b2 b7 h7 n0 ZZ9 F_bytes_b2_8 E_b2_8 g_b2) hZ (hw _ (List.mem_of_getElem? (i := 18) rfl)) (hw _ (List.mem_of_getElem? (i := 3) rfl)) (by decide) (by decide)) (g := (mkF m 33 #[.val (.ref o0)] [(.ref b7), (.ref b2), (.ref b2)])) rfl (by rw [hml]; rfl) (Steps.refl _) (a := b2) (argsL := [(.ref b7)]) (rest := [(.ref b2)]) (lenOf pd_0 rfl) rfl (by show 2 * 0 + _ ≤ _; exact Nat.le_of_eq rfl) (hb hby d1_33) (fun _ _ => ⟨rfl, e11, (by decide : 2 + 0 ≤ _), (by decide : 7 + 0 ≤ _)⟩)
  dsimp only [Pt.U, Pt.locs, Pt.cells, Pt.slots] at X12 l12 y12 z12 st12 hQ12
  subst l12 y12 z12
  obtain ⟨rfl, N12q, Kc12, P12_0⟩ := hQ12
  have N12 := Fr.app N0 N12q
  have A_o0_13 : own_A Z T12.heap o0 .byte 6 (fun i => (.int (g i))) := (A_o0_8).keep Kc12 (ninS ne_o0_b2 nin0)
  have E_o0_13 : Exa Z T12.heap o0 "[B" := (E_o0_8).keep Kc12
  have E_b2_13 : Exa Z T12.heap b2 "com/example/keyclasp/keyclasp/methods/MacAddress" := (E_b2_8).keep Kc12
  have A_b7_13 : own_A Z T12.heap b7 .byte 6 (fun i => (.int (g i))) := (A_b7_7).keep Kc12 (ninS (Ne.symm ne_b2_b7) nin0)
  have E_b7_13 : Exa Z T12.heap b7 "[B" := (Nx7).keep Kc12
  have SZ14 : h0.size ≤ T12.heap.size := Nat.le_trans SZ9 Kc12.1
  have ZZ14 : n0 ≤ T12.heap.size := Nat.le_trans Z0 SZ14
  have K15 : Keep h0 T12.heap [] := (K10).trans Kc12 (allS (Or.inr sz_b2) all0)
  have pre16 : ∀ t, Steps p.tables e below (T12.setTop (mkF m 36 #[.val (.ref o0)] [(.ref b2)])) t → Steps p.tables e below (s₁.setTop (entryFrame m #[(.ref o0)] 1)) t := fun t k => pre0 t (by
    show Steps p.tables e below (s₁.setTop (mkF m 0 #[.val (.ref o0)] [])) _
    refine XS.aloadN X0.here hx rfl (hb hby d1_0) rfl rfl ?_
    show Steps p.tables e below (s₁.setTop (mkF m 1 #[.val (.ref o0)] [(.ref o0)])) _
    refine X0.arraylength hx (by rw [e0]; exact Ar1.1) (State.isArrayOf_alike hZ.alike Ar1.2.1) (g := (mkF m 1 #[.val (.ref o0)] [(.ref o0)])) rfl rfl (hb hby d1_1) _ ?_
    rw [own_len Sz1 (z := (6 : Int32)) rfl]
    show Steps p.tables e below (s₁.setTop (mkF m 2 #[.val (.ref o0)] [(.int (6 : Int32))])) _
    refine XS.bipush X0.here hx rfl (hb hby d1_2) ?_
    show Steps p.tables e below (s₁.setTop (mkF m 4 #[.val (.ref o0)] [(.int (6 : Int32)), (.int (6 : Int32))])) _
    refine XS.icmpYes X0.here hx rfl (pc0 := 4) (pc' := 22) rfl (hb hby d1_4) rfl (teq (show (6 : Int32) = (6 : Int32) from rfl)).1 (by decide) (by decide) ?_
    show Steps p.tables e below (s₁.setTop (mkF m 22 #[.val (.ref o0)] [])) _
    refine st2 _ ?_
    show Steps p.tables e below (T2.setTop (mkF m 25 #[.val (.ref o0)] [(.ref b2)])) _
    refine XS.dup X2.here hx rfl (hb hby d1_25) rfl rfl ?_
    show Steps p.tables e below (T2.setTop (mkF m 26 #[.val (.ref o0)] [(.ref b2), (.ref b2)])) _
    refine XS.aloadN X2.here hx rfl (hb hby d1_26) rfl rfl ?_
    show Steps p.tables e below (T2.setTop (mkF m 27 #[.val (.ref o0)] [(.ref o0), (.ref b2), (.ref b2)])) _
    refine st7 _ ?_
    show Steps p.tables e below (T7.setTop (mkF m 30 #[.val (.ref o0)] [(.ref b7), (.ref b2), (.ref b2)])) _
    refine st11 _ ?_
    show Steps p.tables e below (T11.setTop (mkF m 33 #[.val (.ref o0)] [(.ref b7), (.ref b2), (.ref b2)])) _
    refine st12.trans ?_
    show Steps p.tables e below (T12.setTop (mkF m 36 #[.val (.ref o0)] [(.ref b2)])) _
    exact k)
  obtain ⟨fs, hr, hrun, hended, hW, hsame⟩ := X12.leave (v := some (.ref b2)) (fun h => by rw [Bd.returns] at h; cases h)
  refine ⟨_, _, pre16 _ ?_, hrun, hended, _, _, rfl, ?_, ⟨_, rfl⟩, hW, hsame.mono (by decide) (by decide)⟩
  · exact retOut X12 hx Bd.returns rfl (Or.inr (Or.inr (Or.inr (Or.inr ⟨rfl, rfl, rfl⟩)))) (hb hby d1_36) hr
  · show Q1 Z o0 g h0 n0 _ T12.heap _
    skip
    exact ⟨b2, b7, rfl, N12, K15, sz_b2, sz_b7, ne_b2_b7, E_b2_13, P12_0, A_b7_13, E_b7_13⟩
theorem d4_0 : decode method_3_code 0 = .ok (.aload_n 0, 1) := by decide +kernel
theorem d4_1 : decode method_3_code 1 = .ok (.iconst 0, 1) := by decide +kernel
theorem d4_2 : decode method_3_code 2 = .ok (.aload_n 0, 1) := by decide +kernel
theorem d4_3 : decode method_3_code 3 = .ok (.iconst 0, 1) := by decide +kernel
theorem d4_4 : decode method_3_code 4 = .ok (.baload, 1) := by decide +kernel
theorem d4_5 : decode method_3_code 5 = .ok (.iconst (-1), 1) := by decide +kernel
theorem d4_6 : decode method_3_code 6 = .ok (.ixor, 1) := by decide +kernel
theorem d4_7 : decode method_3_code 7 = .ok (.i2b, 1) := by decide +kernel
theorem d4_8 : decode method_3_code 8 = .ok (.bastore, 1) := by decide +kernel
theorem d4_9 : decode method_3_code 9 = .ok (.aload_n 0, 1) := by decide +kernel
theorem d4_10 : decode method_3_code 10 = .ok (.iconst 1, 1) := by decide +kernel
theorem d4_11 : decode method_3_code 11 = .ok (.aload_n 0, 1) := by decide +kernel
theorem d4_12 : decode method_3_code 12 = .ok (.iconst 1, 1) := by decide +kernel
theorem d4_13 : decode method_3_code 13 = .ok (.baload, 1) := by decide +kernel
theorem d4_14 : decode method_3_code 14 = .ok (.iconst (-1), 1) := by decide +kernel
theorem d4_15 : decode method_3_code 15 = .ok (.ixor, 1) := by decide +kernel
theorem d4_16 : decode method_3_code 16 = .ok (.i2b, 1) := by decide +kernel
theorem d4_17 : decode method_3_code 17 = .ok (.bastore, 1) := by decide +kernel
theorem d4_18 : decode method_3_code 18 = .ok (.aload_n 0, 1) := by decide +kernel
theorem d4_19 : decode method_3_code 19 = .ok (.iconst 2, 1) := by decide +kernel
theorem d4_20 : decode method_3_code 20 = .ok (.aload_n 0, 1) := by decide +kernel
theorem d4_21 : decode method_3_code 21 = .ok (.iconst 2, 1) := by decide +kernel
theorem d4_22 : decode method_3_code 22 = .ok (.baload, 1) := by decide +kernel
theorem d4_23 : decode method_3_code 23 = .ok (.iconst (-1), 1) := by decide +kernel
theorem d4_24 : decode method_3_code 24 = .ok (.ixor, 1) := by decide +kernel
theorem d4_25 : decode method_3_code 25 = .ok (.i2b, 1) := by decide +kernel
theorem d4_26 : decode method_3_code 26 = .ok (.bastore, 1) := by decide +kernel
theorem d4_27 : decode method_3_code 27 = .ok (.aload_n 0, 1) := by decide +kernel
theorem d4_28 : decode method_3_code 28 = .ok (.iconst 3, 1) := by decide +kernel
theorem d4_29 : decode method_3_code 29 = .ok (.aload_n 0, 1) := by decide +kernel
theorem d4_30 : decode method_3_code 30 = .ok (.iconst 3, 1) := by decide +kernel
theorem d4_31 : decode method_3_code 31 = .ok (.baload, 1) := by decide +kernel
theorem d4_32 : decode method_3_code 32 = .ok (.iconst (-1), 1) := by decide +kernel
theorem d4_33 : decode method_3_code 33 = .ok (.ixor, 1) := by decide +kernel
theorem d4_34 : decode method_3_code 34 = .ok (.i2b, 1) := by decide +kernel
theorem d4_35 : decode method_3_code 35 = .ok (.bastore, 1) := by decide +kernel
theorem d4_36 : decode method_3_code 36 = .ok (.aload_n 0, 1) := by decide +kernel
theorem d4_37 : decode method_3_code 37 = .ok (.iconst 4, 1) := by decide +kernel
theorem d4_38 : decode method_3_code 38 = .ok (.aload_n 0, 1) := by decide +kernel
theorem d4_39 : decode method_3_code 39 = .ok (.iconst 4, 1) := by decide +kernel
theorem d4_40 : decode method_3_code 40 = .ok (.baload, 1) := by decide +kernel
theorem d4_41 : decode method_3_code 41 = .ok (.iconst (-1), 1) := by decide +kernel
theorem d4_42 : decode method_3_code 42 = .ok (.ixor, 1) := by decide +kernel
theorem d4_43 : decode method_3_code 43 = .ok (.i2b, 1) := by decide +kernel
theorem d4_44 : decode method_3_code 44 = .ok (.bastore, 1) := by decide +kernel
theorem d4_45 : decode method_3_code 45 = .ok (.aload_n 0, 1) := by decide +kernel
theorem d4_46 : decode method_3_code 46 = .ok (.iconst 5, 1) := by decide +kernel
theorem d4_47 : decode method_3_code 47 = .ok (.aload_n 0, 1) := by decide +kernel
theorem d4_48 : decode method_3_code 48 = .ok (.iconst 5, 1) := by decide +kernel
theorem d4_49 : decode method_3_code 49 = .ok (.baload, 1) := by decide +kernel
theorem d4_50 : decode method_3_code 50 = .ok (.iconst (-1), 1) := by decide +kernel
theorem d4_51 : decode method_3_code 51 = .ok (.ixor, 1) := by decide +kernel
theorem d4_52 : decode method_3_code 52 = .ok (.i2b, 1) := by decide +kernel
theorem d4_53 : decode method_3_code 53 = .ok (.bastore, 1) := by decide +kernel
theorem d4_54 : decode method_3_code 54 = .ok (.return_, 1) := by decide +kernel
theorem pn_1 : plainName "com/example/keyclasp/keyclasp/methods/MacAddressOfPinLaw" = true := by first | (simp [plainName, overriddenIn]; done) | decide +kernel
theorem ef_4 (m : MethodId) (o0 : Addr) : entryFrame m #[(.ref o0)] 1 = mkF m 0 #[.val (.ref o0)] [] := by first | (simp [entryFrame, mkF, argsToLocals, Value.category]; done) | rfl

def Q4 (Z : State) (o0 : Addr) (g : Nat → Int32) (h0 : Heap) (n0 : Nat) (v : Option Value) (h : Heap) (L : List Loc) : Prop := v = none ∧ Fr n0 L ∧ Keep h0 h [o0]
set_option maxRecDepth 65536 in
set_option maxHeartbeats 40000000 in
theorem rm4 (l : Launch) (Z : State) (a0 : Array Value) (hw : ∀ d ∈ tables_1, d.before a0 Z = true) (ws : List Jvm.Cond) (o0 : Addr) (g : Nat → Int32) (h0 : Heap) (n0 : Nat) (Z0 : n0 ≤ h0.size) (A_o0 : own_A Z h0 o0 .byte 6 (fun i => (.int (g i)))) (g_o0 : n0 ≤ o0) :
    MetFree l (⟨"com/example/keyclasp/keyclasp/methods/MacAddressOfPinLaw", "flip", "([B)V"⟩ : MethodName) (head1 (Jvm.Cond.code (⟨"com/example/keyclasp/keyclasp/methods/MacAddressOfPinLaw", "flip", "([B)V"⟩ : MethodName) method_3_code 1 none :: ws) ({ frames := 0, cells := 0, slots := 0, locals := 0 } : Room)) (fun a U => a = #[(.ref o0)] ∧ Z.Warmed39 U.vm ∧ U.heap = h0) (fun _ _ _ _ _ => True) (fun _ U o U' => ∃ v L, o = .returned v ∧ Q4 Z o0 g h0 n0 v U'.heap L ∧ FrameEnd U o U' L ({ frames := 0, cells := 0, slots := 0, locals := 0 } : Room).cells ({ frames := 0, cells := 0, slots := 0, locals := 0 } : Room).slots) := by
  refine MetFree.of_bodySF (plainFor_of_name pn_1) hisR ?_
  intro p e s m args below meth c s₁ Bd hml0 hP hK
  obtain ⟨rfl, hZ, hh⟩ := hP
  have hx := Bd.exec
  have hby := Bd.bytes
  have hml : c.maxLocals = 1 := hml0
  have hown : s.vm.findClass "com/example/keyclasp/keyclasp/methods/MacAddressOfPinLaw" = some m.cls := findClass_of_methodNamed Bd.named
  have hnm := (name_of_methodNamed Bd.named Bd.method).1
  have X0 : Stand p l e ({ frames := 0, cells := 0, slots := 0, locals := 0 } : Room) s m #[(.ref o0)] below meth c s₁ [] 0 0 := Stand.of_body Bd
  have e0 : s₁.heap = h0 := by rw [← hh, Bd.state]; rfl
  have N0 := Fr.nil n0
  have pre0 : ∀ t, Steps p.tables e below (s₁.setTop (mkF m 0 #[.val (.ref o0)] [])) t → Steps p.tables e below (s₁.setTop (entryFrame m #[(.ref o0)] 1)) t := fun t k => castTop (ef_4 m o0) k
  have qa1 := A_o0
  obtain ⟨c1, Ar1, Sz1, H1⟩ := qa1
  have hi2 : 0 ≤ ((0 : Int32) : Int32).toInt ∧ ((0 : Int32) : Int32).toInt < (6 : Nat) := (by decide)
  have hl2 : c1.slots[((0 : Int32) : Int32).toNatClampNeg]? = some (.int ((g ((0 : Int32) : Int32).toNatClampNeg))) := H1 _ (own_ix hi2)
  have qa3 := A_o0
  obtain ⟨c3, Ar3, Sz3, H3⟩ := qa3
  have hi4 : 0 ≤ ((0 : Int32) : Int32).toInt ∧ ((0 : Int32) : Int32).toInt < (6 : Nat) := (by decide)
  obtain ⟨T4, h4, X4, e4, W4, st4⟩ := stB X0 hx hZ e0 Ar3 (j := (0 : Int32)) (own_in Sz3 hi4) (g := (mkF m 8 #[.val (.ref o0)] [(.int ((((g ((0 : Int32) : Int32).toNatClampNeg)) ^^^ (-1 : Int32)).toInt8.toInt32)), (.int (0 : Int32)), (.ref o0)])) rfl rfl (hb hby d4_8)
  have N4 := Fr.snoc X4 N0 g_o0
  have A_o0_w4 : own_A Z h4 o0 .byte 6 (fun i => (.int (if i = ((0 : Int32) : Int32).toNatClampNeg then (nar .byte ((((g ((0 : Int32) : Int32).toNatClampNeg)) ^^^ (-1 : Int32)).toInt8.toInt32)) else (g i)))) := own_A.setI A_o0 W4
  have SZ6 : h0.size ≤ h4.size := by rw [W4.size]; exact (Nat.le_refl _)
  have ZZ6 : n0 ≤ h4.size := Nat.le_trans Z0 SZ6
  have K7 : Keep h0 h4 [o0] := ((Keep.refl h0 [o0])).wr W4 (Or.inl (List.mem_of_getElem? (i := 0) rfl))
  have qa8 := A_o0_w4
  obtain ⟨c8, Ar8, Sz8, H8⟩ := qa8
  have hi9 : 0 ≤ ((1 : Int32) : Int32).toInt ∧ ((1 : Int32) : Int32).toInt < (6 : Nat) := (by decide)
  have hl9 : c8.slots[((1 : Int32) : Int32).toNatClampNeg]? = some (.int ((if ((1 : Int32) : Int32).toNatClampNeg = ((0 : Int32) : Int32).toNatClampNeg then (nar .byte ((((g ((0 : Int32) : Int32).toNatClampNeg)) ^^^ (-1 : Int32)).toInt8.toInt32)) else (g ((1 : Int32) : Int32).toNatClampNeg)))) := H8 _ (own_ix hi9)
  have qa10 := A_o0_w4
  obtain ⟨c10, Ar10, Sz10, H10⟩ := qa10
  have hi11 : 0 ≤ ((1 : Int32) : Int32).toInt ∧ ((1 : Int32) : Int32).toInt < (6 : Nat) := (by decide)
  obtain ⟨T11, h11, X11, e11, W11, st11⟩ := stB X4 hx hZ e4 Ar10 (j := (1 : Int32)) (own_in Sz10 hi11) (g := (mkF m 17 #[.val (.ref o0)] [(.int ((((if ((1 : Int32) : Int32).toNatClampNeg = ((0 : Int32) : Int32).toNatClampNeg then (nar .byte ((((g ((0 : Int32) : Int32).toNatClampNeg)) ^^^ (-1 : Int32)).toInt8.toInt32)) else (g ((1 : Int32) : Int32).toNatClampNeg))) ^^^ (-1 : Int32)).toInt8.toInt32)), (.int (1 : Int32)), (.ref o0)])) rfl rfl (hb hby d4_17)
  have N11 := Fr.snoc X11 N4 g_o0
  have A_o0_w11 : own_A Z h11 o0 .byte 6 (fun i => (.int (if i = ((1 : Int32) : Int32).toNatClampNeg then (nar .byte ((((if ((1 : Int32) : Int32).toNatClampNeg = ((0 : Int32) : Int32).toNatClampNeg then (nar .byte ((((g ((0 : Int32) : Int32).toNatClampNeg)) ^^^ (-1 : Int32)).toInt8.toInt32)) else (g ((1 : Int32) : Int32).toNatClampNeg))) ^^^ (-1 : Int32)).toInt8.toInt32)) else (if i = ((0 : Int32) : Int32).toNatClampNeg then (nar .byte ((((g ((0 : Int32) : Int32).toNatClampNeg)) ^^^ (-1 : Int32)).toInt8.toInt32)) else (g i))))) := own_A.setI A_o0_w4 W11
  have SZ13 : h0.size ≤ h11.size := by rw [W11.size]; exact SZ6
  have ZZ13 : n0 ≤ h11.size := Nat.le_trans Z0 SZ13
  have K14 : Keep h0 h11 [o0] := (K7).wr W11 (Or.inl (List.mem_of_getElem? (i := 0) rfl))
  have qa15 := A_o0_w11
  obtain ⟨c15, Ar15, Sz15, H15⟩ := qa15
  have hi16 : 0 ≤ ((2 : Int32) : Int32).toInt ∧ ((2 : Int32) : Int32).toInt < (6 : Nat) := (by decide)
  have hl16 : c15.slots[((2 : Int32) : Int32).toNatClampNeg]? = some (.int ((if ((2 : Int32) : Int32).toNatClampNeg = ((1 : Int32) : Int32).toNatClampNeg then (nar .byte ((((if ((1 : Int32) : Int32).toNatClampNeg = ((0 : Int32) : Int32).toNatClampNeg then (nar .byte ((((g ((0 : Int32) : Int32).toNatClampNeg)) ^^^ (-1 : Int32)).toInt8.toInt32)) else (g ((1 : Int32) : Int32).toNatClampNeg))) ^^^ (-1 : Int32)).toInt8.toInt32)) else (if ((2 : Int32) : Int32).toNatClampNeg = ((0 : Int32) : Int32).toNatClampNeg then (nar .byte ((((g ((0 : Int32) : Int32).toNatClampNeg)) ^^^ (-1 : Int32)).toInt8.toInt32)) else (g ((2 : Int32) : Int32).toNatClampNeg))))) := H15 _ (own_ix hi16)
  have qa17 := A_o0_w11
  obtain ⟨c17, Ar17, Sz17, H17⟩ := qa17
  have hi18 : 0 ≤ ((2 : Int32) : Int32).toInt ∧ ((2 : Int32) : Int32).toInt < (6 : Nat) := (by decide)
  obtain ⟨T18, h18, X18, e18, W18, st18⟩ := stB X11 hx hZ e11 Ar17 (j := (2 : Int32)) (own_in Sz17 hi18) (g := (mkF m 26 #[.val (.ref o0)] [(.int ((((if ((2 : Int32) : Int32).toNatClampNeg = ((1 : Int32) : Int32).toNatClampNeg then (nar .byte ((((if ((1 : Int32) : Int32).toNatClampNeg = ((0 : Int32) : Int32).toNatClampNeg then (nar .byte ((((g ((0 : Int32) : Int32).toNatClampNeg)) ^^^ (-1 : Int32)).toInt8.toInt32)) else (g ((1 : Int32) : Int32).toNatClampNeg))) ^^^ (-1 : Int32)).toInt8.toInt32)) else (if ((2 : Int32) : Int32).toNatClampNeg = ((0 : Int32) : Int32).toNatClampNeg then (nar .byte ((((g ((0 : Int32) : Int32).toNatClampNeg)) ^^^ (-1 : Int32)).toInt8.toInt32)) else (g ((2 : Int32) : Int32).toNatClampNeg)))) ^^^ (-1 : Int32)).toInt8.toInt32)), (.int (2 : Int32)), (.ref o0)])) rfl rfl (hb hby d4_26)
  have N18 := Fr.snoc X18 N11 g_o0
  have A_o0_w18 : own_A Z h18 o0 .byte 6 (fun i => (.int (if i = ((2 : Int32) : Int32).toNatClampNeg then (nar .byte ((((if ((2 : Int32) : Int32).toNatClampNeg = ((1 : Int32) : Int32).toNatClampNeg then (nar .byte ((((if ((1 : Int32) : Int32).toNatClampNeg = ((0 : Int32) : Int32).toNatClampNeg then (nar .byte ((((g ((0 : Int32) : Int32).toNatClampNeg)) ^^^ (-1 : Int32)).toInt8.toInt32)) else (g ((1 : Int32) : Int32).toNatClampNeg))) ^^^ (-1 : Int32)).toInt8.toInt32)) else (if ((2 : Int32) : Int32).toNatClampNeg = ((0 : Int32) : Int32).toNatClampNeg then (nar .byte ((((g ((0 : Int32) : Int32).toNatClampNeg)) ^^^ (-1 : Int32)).toInt8.toInt32)) else (g ((2 : Int32) : Int32).toNatClampNeg)))) ^^^ (-1 : Int32)).toInt8.toInt32)) else (if i = ((1 : Int32) : Int32).toNatClampNeg then (nar .byte ((((if ((1 : Int32) : Int32).toNatClampNeg = ((0 : Int32) : Int32).toNatClampNeg then (nar .byte ((((g ((0 : Int32) : Int32).toNatClampNeg)) ^^^ (-1 : Int32)).toInt8.toInt32)) else (g ((1 : Int32) : Int32).toNatClampNeg))) ^^^ (-1 : Int32)).toInt8.toInt32)) else (if i = ((0 : Int32) : Int32).toNatClampNeg then (nar .byte ((((g ((0 : Int32) : Int32).toNatClampNeg)) ^^^ (-1 : Int32)).toInt8.toInt32)) else (g i)))))) := own_A.setI A_o0_w11 W18
  have SZ20 : h0.size ≤ h18.size := by rw [W18.size]; exact SZ13
  have ZZ20 : n0 ≤ h18.size := Nat.le_trans Z0 SZ20
  have K21 : Keep h0 h18 [o0] := (K14).wr W18 (Or.inl (List.mem_of_getElem? (i := 0) rfl))
  have qa22 := A_o0_w18
  obtain ⟨c22, Ar22, Sz22, H22⟩ := qa22
  have hi23 : 0 ≤ ((3 : Int32) : Int32).toInt ∧ ((3 : Int32) : Int32).toInt < (6 : Nat) := (by decide)
  have hl23 : c22.slots[((3 : Int32) : Int32).toNatClampNeg]? = some (.int ((if ((3 : Int32) : Int32).toNatClampNeg = ((2 : Int32) : Int32).toNatClampNeg then (nar .byte ((((if ((2 : Int32) : Int32).toNatClampNeg = ((1 : Int32) : Int32).toNatClampNeg then (nar .byte ((((if ((1 : Int32) : Int32).toNatClampNeg = ((0 : Int32) : Int32).toNatClampNeg then (nar .byte ((((g ((0 : Int32) : Int32).toNatClampNeg)) ^^^ (-1 : Int32)).toInt8.toInt32)) else (g ((1 : Int32) : Int32).toNatClampNeg))) ^^^ (-1 : Int32)).toInt8.toInt32)) else (if ((2 : Int32) : Int32).toNatClampNeg = ((0 : Int32) : Int32).toNatClampNeg then (nar .byte ((((g ((0 : Int32) : Int32).toNatClampNeg)) ^^^ (-1 : Int32)).toInt8.toInt32)) else (g ((2 : Int32) : Int32).toNatClampNeg)))) ^^^ (-1 : Int32)).toInt8.toInt32)) else (if ((3 : Int32) : Int32).toNatClampNeg = ((1 : Int32) : Int32).toNatClampNeg then (nar .byte ((((if ((1 : Int32) : Int32).toNatClampNeg = ((0 : Int32) : Int32).toNatClampNeg then (nar .byte ((((g ((0 : Int32) : Int32).toNatClampNeg)) ^^^ (-1 : Int32)).toInt8.toInt32)) else (g ((1 : Int32) : Int32).toNatClampNeg))) ^^^ (-1 : Int32)).toInt8.toInt32)) else (if ((3 : Int32) : Int32).toNatClampNeg = ((0 : Int32) : Int32).toNatClampNeg then (nar .byte ((((g ((0 : Int32) : Int32).toNatClampNeg)) ^^^ (-1 : Int32)).toInt8.toInt32)) else (g ((3 : Int32) : Int32).toNatClampNeg)))))) := H22 _ (own_ix hi23)
  have qa24 := A_o0_w18
  obtain ⟨c24, Ar24, Sz24, H24⟩ := qa24
  have hi25 : 0 ≤ ((3 : Int32) : Int32).toInt ∧ ((3 : Int32) : Int32).toInt < (6 : Nat) := (by decide)
  obtain ⟨T25, h25, X25, e25, W25, st25⟩ := stB X18 hx hZ e18 Ar24 (j := (3 : Int32)) (own_in Sz24 hi25) (g := (mkF m 35 #[.val (.ref o0)] [(.int ((((if ((3 : Int32) : Int32).toNatClampNeg = ((2 : Int32) : Int32).toNatClampNeg then (nar .byte ((((if ((2 : Int32) : Int32).toNatClampNeg = ((1 : Int32) : Int32).toNatClampNeg then (nar .byte ((((if ((1 : Int32) : Int32).toNatClampNeg = ((0 : Int32) : Int32).toNatClampNeg then (nar .byte ((((g ((0 : Int32) : Int32).toNatClampNeg)) ^^^ (-1 : Int32)).toInt8.toInt32)) else (g ((1 : Int32) : Int32).toNatClampNeg))) ^^^ (-1 : Int32)).toInt8.toInt32)) else (if ((2 : Int32) : Int32).toNatClampNeg = ((0 : Int32) : Int32).toNatClampNeg then (nar .byte ((((g ((0 : Int32) : Int32).toNatClampNeg)) ^^^ (-1 : Int32)).toInt8.toInt32)) else (g ((2 : Int32) : Int32).toNatClampNeg)))) ^^^ (-1 : Int32)).toInt8.toInt32)) else (if ((3 : Int32) : Int32).toNatClampNeg = ((1 : Int32) : Int32).toNatClampNeg then (nar .byte ((((if ((1 : Int32) : Int32).toNatClampNeg = ((0 : Int32) : Int32).toNatClampNeg then (nar .byte ((((g ((0 : Int32) : Int32).toNatClampNeg)) ^^^ (-1 : Int32)).toInt8.toInt32)) else (g ((1 : Int32) : Int32).toNatClampNeg))) ^^^ (-1 : Int32)).toInt8.toInt32)) else (if ((3 : Int32) : Int32).toNatClampNeg = ((0 : Int32) : Int32).toNatClampNeg then (nar .byte ((((g ((0 : Int32) : Int32).toNatClampNeg)) ^^^ (-1 : Int32)).toInt8.toInt32)) else (g ((3 : Int32) : Int32).toNatClampNeg))))) ^^^ (-1 : Int32)).toInt8.toInt32)), (.int (3 : Int32)), (.ref o0)])) rfl rfl (hb hby d4_35)
  have N25 := Fr.snoc X25 N18 g_o0
  have A_o0_w25 : own_A Z h25 o0 .byte 6 (fun i => (.int (if i = ((3 : Int32) : Int32).toNatClampNeg then (nar .byte ((((if ((3 : Int32) : Int32).toNatClampNeg = ((2 : Int32) : Int32).toNatClampNeg then (nar .byte ((((if ((2 : Int32) : Int32).toNatClampNeg = ((1 : Int32) : Int32).toNatClampNeg then (nar .byte ((((if ((1 : Int32) : Int32).toNatClampNeg = ((0 : Int32) : Int32).toNatClampNeg then (nar .byte ((((g ((0 : Int32) : Int32).toNatClampNeg)) ^^^ (-1 : Int32)).toInt8.toInt32)) else (g ((1 : Int32) : Int32).toNatClampNeg))) ^^^ (-1 : Int32)).toInt8.toInt32)) else (if ((2 : Int32) : Int32).toNatClampNeg = ((0 : Int32) : Int32).toNatClampNeg then (nar .byte ((((g ((0 : Int32) : Int32).toNatClampNeg)) ^^^ (-1 : Int32)).toInt8.toInt32)) else (g ((2 : Int32) : Int32).toNatClampNeg)))) ^^^ (-1 : Int32)).toInt8.toInt32)) else (if ((3 : Int32) : Int32).toNatClampNeg = ((1 : Int32) : Int32).toNatClampNeg then (nar .byte ((((if ((1 : Int32) : Int32).toNatClampNeg = ((0 : Int32) : Int32).toNatClampNeg then (nar .byte ((((g ((0 : Int32) : Int32).toNatClampNeg)) ^^^ (-1 : Int32)).toInt8.toInt32)) else (g ((1 : Int32) : Int32).toNatClampNeg))) ^^^ (-1 : Int32)).toInt8.toInt32)) else (if ((3 : Int32) : Int32).toNatClampNeg = ((0 : Int32) : Int32).toNatClampNeg then (nar .byte ((((g ((0 : Int32) : Int32).toNatClampNeg)) ^^^ (-1 : Int32)).toInt8.toInt32)) else (g ((3 : Int32) : Int32).toNatClampNeg))))) ^^^ (-1 : Int32)).toInt8.toInt32)) else (if i = ((2 : Int32) : Int32).toNatClampNeg then (nar .byte ((((if ((2 : Int32) : Int32).toNatClampNeg = ((1 : Int32) : Int32).toNatClampNeg then (nar .byte ((((if ((1 : Int32) : Int32).toNatClampNeg = ((0 : Int32) : Int32).toNatClampNeg then (nar .byte ((((g ((0 : Int32) : Int32).toNatClampNeg)) ^^^ (-1 : Int32)).toInt8.toInt32)) else (g ((1 : Int32) : Int32).toNatClampNeg))) ^^^ (-1 : Int32)).toInt8.toInt32)) else (if ((2 : Int32) : Int32).toNatClampNeg = ((0 : Int32) : Int32).toNatClampNeg then (nar .byte ((((g ((0 : Int32) : Int32).toNatClampNeg)) ^^^ (-1 : Int32)).toInt8.toInt32)) else (g ((2 : Int32) : Int32).toNatClampNeg)))) ^^^ (-1 : Int32)).toInt8.toInt32)) else (if i = ((1 : Int32) : Int32).toNatClampNeg then (nar .byte ((((if ((1 : Int32) : Int32).toNatClampNeg = ((0 : Int32) : Int32).toNatClampNeg then (nar .byte ((((g ((0 : Int32) : Int32).toNatClampNeg)) ^^^ (-1 : Int32)).toInt8.toInt32)) else (g ((1 : Int32) : Int32).toNatClampNeg))) ^^^ (-1 : Int32)).toInt8.toInt32)) else (if i = ((0 : Int32) : Int32).toNatClampNeg then (nar .byte ((((g ((0 : Int32) : Int32).toNatClampNeg)) ^^^ (-1 : Int32)).toInt8.toInt32)) else (g i))))))) := own_A.setI A_o0_w18 W25
  have SZ27 : h0.size ≤ h25.size := by rw [W25.size]; exact SZ20
  have ZZ27 : n0 ≤ h25.size := Nat.le_trans Z0 SZ27
  have K28 : Keep h0 h25 [o0] := (K21).wr W25 (Or.inl (List.mem_of_getElem? (i := 0) rfl))
  have qa29 := A_o0_w25
  obtain ⟨c29, Ar29, Sz29, H29⟩ := qa29
  have hi30 : 0 ≤ ((4 : Int32) : Int32).toInt ∧ ((4 : Int32) : Int32).toInt < (6 : Nat) := (by decide)
  have hl30 : c29.slots[((4 : Int32) : Int32).toNatClampNeg]? = some (.int ((if ((4 : Int32) : Int32).toNatClampNeg = ((3 : Int32) : Int32).toNatClampNeg then (nar .byte ((((if ((3 : Int32) : Int32).toNatClampNeg = ((2 : Int32) : Int32).toNatClampNeg then (nar .byte ((((if ((2 : Int32) : Int32).toNatClampNeg = ((1 : Int32) : Int32).toNatClampNeg then (nar .byte ((((if ((1 : Int32) : Int32).toNatClampNeg = ((0 : Int32) : Int32).toNatClampNeg then (nar .byte ((((g ((0 : Int32) : Int32).toNatClampNeg)) ^^^ (-1 : Int32)).toInt8.toInt32)) else (g ((1 : Int32) : Int32).toNatClampNeg))) ^^^ (-1 : Int32)).toInt8.toInt32)) else (if ((2 : Int32) : Int32).toNatClampNeg = ((0 : Int32) : Int32).toNatClampNeg then (nar .byte ((((g ((0 : Int32) : Int32).toNatClampNeg)) ^^^ (-1 : Int32)).toInt8.toInt32)) else (g ((2 : Int32) : Int32).toNatClampNeg)))) ^^^ (-1 : Int32)).toInt8.toInt32)) else (if ((3 : Int32) : Int32).toNatClampNeg = ((1 : Int32) : Int32).toNatClampNeg then (nar .byte ((((if ((1 : Int32) : Int32).toNatClampNeg = ((0 : Int32) : Int32).toNatClampNeg then (nar .byte ((((g ((0 : Int32) : Int32).toNatClampNeg)) ^^^ (-1 : Int32)).toInt8.toInt32)) else (g ((1 : Int32) : Int32).toNatClampNeg))) ^^^ (-1 : Int32)).toInt8.toInt32)) else (if ((3 : Int32) : Int32).toNatClampNeg = ((0 : Int32) : Int32).toNatClampNeg then (nar .byte ((((g ((0 : Int32) : Int32).toNatClampNeg)) ^^^ (-1 : Int32)).toInt8.toInt32)) else (g ((3 : Int32) : Int32).toNatClampNeg))))) ^^^ (-1 : Int32)).toInt8.toInt32)) else (if ((4 : Int32) : Int32).toNatClampNeg = ((2 : Int32) : Int32).toNatClampNeg then (nar .byte ((((if ((2 : Int32) : Int32).toNatClampNeg = ((1 : Int32) : Int32).toNatClampNeg then (nar .byte ((((if ((1 : Int32) : Int32).toNatClampNeg = ((0 : Int32) : Int32).toNatClampNeg then (nar .byte ((((g ((0 : Int32) : Int32).toNatClampNeg)) ^^^ (-1 : Int32)).toInt8.toInt32)) else (g ((1 : Int32) : Int32).toNatClampNeg))) ^^^ (-1 : Int32)).toInt8.toInt32)) else (if ((2 : Int32) : Int32).toNatClampNeg = ((0 : Int32) : Int32).toNatClampNeg then (nar .byte ((((g ((0 : Int32) : Int32).toNatClampNeg)) ^^^ (-1 : Int32)).toInt8.toInt32)) else (g ((2 : Int32) : Int32).toNatClampNeg)))) ^^^ (-1 : Int32)).toInt8.toInt32)) else (if ((4 : Int32) : Int32).toNatClampNeg = ((1 : Int32) : Int32).toNatClampNeg then (nar .byte ((((if ((1 : Int32) : Int32).toNatClampNeg = ((0 : Int32) : Int32).toNatClampNeg then (nar .byte ((((g ((0 : Int32) : Int32).toNatClampNeg)) ^^^ (-1 : Int32)).toInt8.toInt32)) else (g ((1 : Int32) : Int32).toNatClampNeg))) ^^^ (-1 : Int32)).toInt8.toInt32)) else (if ((4 : Int32) : Int32).toNatClampNeg = ((0 : Int32) : Int32).toNatClampNeg then (nar .byte ((((g ((0 : Int32) : Int32).toNatClampNeg)) ^^^ (-1 : Int32)).toInt8.toInt32)) else (g ((4 : Int32) : Int32).toNatClampNeg))))))) := H29 _ (own_ix hi30)
  have qa31 := A_o0_w25
  obtain ⟨c31, Ar31, Sz31, H31⟩ := qa31
  have hi32 : 0 ≤ ((4 : Int32) : Int32).toInt ∧ ((4 : Int32) : Int32).toInt < (6 : Nat) := (by decide)
  obtain ⟨T32, h32, X32, e32, W32, st32⟩ := stB X25 hx hZ e25 Ar31 (j := (4 : Int32)) (own_in Sz31 hi32) (g := (mkF m 44 #[.val (.ref o0)] [(.int ((((if ((4 : Int32) : Int32).toNatClampNeg = ((3 : Int32) : Int32).toNatClampNeg then (nar .byte ((((if ((3 : Int32) : Int32).toNatClampNeg = ((2 : Int32) : Int32).toNatClampNeg then (nar .byte ((((if ((2 : Int32) : Int32).toNatClampNeg = ((1 : Int32) : Int32).toNatClampNeg then (nar .byte ((((if ((1 : Int32) : Int32).toNatClampNeg = ((0 : Int32) : Int32).toNatClampNeg then (nar .byte ((((g ((0 : Int32) : Int32).toNatClampNeg)) ^^^ (-1 : Int32)).toInt8.toInt32)) else (g ((1 : Int32) : Int32).toNatClampNeg))) ^^^ (-1 : Int32)).toInt8.toInt32)) else (if ((2 : Int32) : Int32).toNatClampNeg = ((0 : Int32) : Int32).toNatClampNeg then (nar .byte ((((g ((0 : Int32) : Int32).toNatClampNeg)) ^^^ (-1 : Int32)).toInt8.toInt32)) else (g ((2 : Int32) : Int32).toNatClampNeg)))) ^^^ (-1 : Int32)).toInt8.toInt32)) else (if ((3 : Int32) : Int32).toNatClampNeg = ((1 : Int32) : Int32).toNatClampNeg then (nar .byte ((((if ((1 : Int32) : Int32).toNatClampNeg = ((0 : Int32) : Int32).toNatClampNeg then (nar .byte ((((g ((0 : Int32) : Int32).toNatClampNeg)) ^^^ (-1 : Int32)).toInt8.toInt32)) else (g ((1 : Int32) : Int32).toNatClampNeg))) ^^^ (-1 : Int32)).toInt8.toInt32)) else (if ((3 : Int32) : Int32).toNatClampNeg = ((0 : Int32) : Int32).toNatClampNeg then (nar .byte ((((g ((0 : Int32) : Int32).toNatClampNeg)) ^^^ (-1 : Int32)).toInt8.toInt32)) else (g ((3 : Int32) : Int32).toNatClampNeg))))) ^^^ (-1 : Int32)).toInt8.toInt32)) else (if ((4 : Int32) : Int32).toNatClampNeg = ((2 : Int32) : Int32).toNatClampNeg then (nar .byte ((((if ((2 : Int32) : Int32).toNatClampNeg = ((1 : Int32) : Int32).toNatClampNeg then (nar .byte ((((if ((1 : Int32) : Int32).toNatClampNeg = ((0 : Int32) : Int32).toNatClampNeg then (nar .byte ((((g ((0 : Int32) : Int32).toNatClampNeg)) ^^^ (-1 : Int32)).toInt8.toInt32)) else (g ((1 : Int32) : Int32).toNatClampNeg))) ^^^ (-1 : Int32)).toInt8.toInt32)) else (if ((2 : Int32) : Int32).toNatClampNeg = ((0 : Int32) : Int32).toNatClampNeg then (nar .byte ((((g ((0 : Int32) : Int32).toNatClampNeg)) ^^^ (-1 : Int32)).toInt8.toInt32)) else (g ((2 : Int32) : Int32).toNatClampNeg)))) ^^^ (-1 : Int32)).toInt8.toInt32)) else (if ((4 : Int32) : Int32).toNatClampNeg = ((1 : Int32) : Int32).toNatClampNeg then (nar .byte ((((if ((1 : Int32) : Int32).toNatClampNeg = ((0 : Int32) : Int32).toNatClampNeg then (nar .byte ((((g ((0 : Int32) : Int32).toNatClampNeg)) ^^^ (-1 : Int32)).toInt8.toInt32)) else (g ((1 : Int32) : Int32).toNatClampNeg))) ^^^ (-1 : Int32)).toInt8.toInt32)) else (if ((4 : Int32) : Int32).toNatClampNeg = ((0 : Int32) : Int32).toNatClampNeg then (nar .byte ((((g ((0 : Int32) : Int32).toNatClampNeg)) ^^^ (-1 : Int32)).toInt8.toInt32)) else (g ((4 : Int32) : Int32).toNatClampNeg)))))) ^^^ (-1 : Int32)).toInt8.toInt32)), (.int (4 : Int32)), (.ref o0)])) rfl rfl (hb hby d4_44)
  have N32 := Fr.snoc X32 N25 g_o0
  have A_o0_w32 : own_A Z h32 o0 .byte 6 (fun i => (.int (if i = ((4 : Int32) : Int32).toNatClampNeg then (nar .byte ((((if ((4 : Int32) : Int32).toNatClampNeg = ((3 : Int32) : Int32).toNatClampNeg then (nar .byte ((((if ((3 : Int32) : Int32).toNatClampNeg = ((2 : Int32) : Int32).toNatClampNeg then (nar .byte ((((if ((2 : Int32) : Int32).toNatClampNeg = ((1 : Int32) : Int32).toNatClampNeg then (nar .byte ((((if ((1 : Int32) : Int32).toNatClampNeg = ((0 : Int32) : Int32).toNatClampNeg then (nar .byte ((((g ((0 : Int32) : Int32).toNatClampNeg)) ^^^ (-1 : Int32)).toInt8.toInt32)) else (g ((1 : Int32) : Int32).toNatClampNeg))) ^^^ (-1 : Int32)).toInt8.toInt32)) else (if ((2 : Int32) : Int32).toNatClampNeg = ((0 : Int32) : Int32).toNatClampNeg then (nar .byte ((((g ((0 : Int32) : Int32).toNatClampNeg)) ^^^ (-1 : Int32)).toInt8.toInt32)) else (g ((2 : Int32) : Int32).toNatClampNeg)))) ^^^ (-1 : Int32)).toInt8.toInt32)) else (if ((3 : Int32) : Int32).toNatClampNeg = ((1 : Int32) : Int32).toNatClampNeg then (nar .byte ((((if ((1 : Int32) : Int32).toNatClampNeg = ((0 : Int32) : Int32).toNatClampNeg then (nar .byte ((((g ((0 : Int32) : Int32).toNatClampNeg)) ^^^ (-1 : Int32)).toInt8.toInt32)) else (g ((1 : Int32) : Int32).toNatClampNeg))) ^^^ (-1 : Int32)).toInt8.toInt32)) else (if ((3 : Int32) : Int32).toNatClampNeg = ((0 : Int32) : Int32).toNatClampNeg then (nar .byte ((((g ((0 : Int32) : Int32).toNatClampNeg)) ^^^ (-1 : Int32)).toInt8.toInt32)) else (g ((3 : Int32) : Int32).toNatClampNeg))))) ^^^ (-1 : Int32)).toInt8.toInt32)) else (if ((4 : Int32) : Int32).toNatClampNeg = ((2 : Int32) : Int32).toNatClampNeg then (nar .byte ((((if ((2 : Int32) : Int32).toNatClampNeg = ((1 : Int32) : Int32).toNatClampNeg then (nar .byte ((((if ((1 : Int32) : Int32).toNatClampNeg = ((0 : Int32) : Int32).toNatClampNeg then (nar .byte ((((g ((0 : Int32) : Int32).toNatClampNeg)) ^^^ (-1 : Int32)).toInt8.toInt32)) else (g ((1 : Int32) : Int32).toNatClampNeg))) ^^^ (-1 : Int32)).toInt8.toInt32)) else (if ((2 : Int32) : Int32).toNatClampNeg = ((0 : Int32) : Int32).toNatClampNeg then (nar .byte ((((g ((0 : Int32) : Int32).toNatClampNeg)) ^^^ (-1 : Int32)).toInt8.toInt32)) else (g ((2 : Int32) : Int32).toNatClampNeg)))) ^^^ (-1 : Int32)).toInt8.toInt32)) else (if ((4 : Int32) : Int32).toNatClampNeg = ((1 : Int32) : Int32).toNatClampNeg then (nar .byte ((((if ((1 : Int32) : Int32).toNatClampNeg = ((0 : Int32) : Int32).toNatClampNeg then (nar .byte ((((g ((0 : Int32) : Int32).toNatClampNeg)) ^^^ (-1 : Int32)).toInt8.toInt32)) else (g ((1 : Int32) : Int32).toNatClampNeg))) ^^^ (-1 : Int32)).toInt8.toInt32)) else (if ((4 : Int32) : Int32).toNatClampNeg = ((0 : Int32) : Int32).toNatClampNeg then (nar .byte ((((g ((0 : Int32) : Int32).toNatClampNeg)) ^^^ (-1 : Int32)).toInt8.toInt32)) else (g ((4 : Int32) : Int32).toNatClampNeg)))))) ^^^ (-1 : Int32)).toInt8.toInt32)) else (if i = ((3 : Int32) : Int32).toNatClampNeg then (nar .byte ((((if ((3 : Int32) : Int32).toNatClampNeg = ((2 : Int32) : Int32).toNatClampNeg then (nar .byte ((((if ((2 : Int32) : Int32).toNatClampNeg = ((1 : Int32) : Int32).toNatClampNeg then (nar .byte ((((if ((1 : Int32) : Int32).toNatClampNeg = ((0 : Int32) : Int32).toNatClampNeg then (nar .byte ((((g ((0 : Int32) : Int32).toNatClampNeg)) ^^^ (-1 : Int32)).toInt8.toInt32)) else (g ((1 : Int32) : Int32).toNatClampNeg))) ^^^ (-1 : Int32)).toInt8.toInt32)) else (if ((2 : Int32) : Int32).toNatClampNeg = ((0 : Int32) : Int32).toNatClampNeg then (nar .byte ((((g ((0 : Int32) : Int32).toNatClampNeg)) ^^^ (-1 : Int32)).toInt8.toInt32)) else (g ((2 : Int32) : Int32).toNatClampNeg)))) ^^^ (-1 : Int32)).toInt8.toInt32)) else (if ((3 : Int32) : Int32).toNatClampNeg = ((1 : Int32) : Int32).toNatClampNeg then (nar .byte ((((if ((1 : Int32) : Int32).toNatClampNeg = ((0 : Int32) : Int32).toNatClampNeg then (nar .byte ((((g ((0 : Int32) : Int32).toNatClampNeg)) ^^^ (-1 : Int32)).toInt8.toInt32)) else (g ((1 : Int32) : Int32).toNatClampNeg))) ^^^ (-1 : Int32)).toInt8.toInt32)) else (if ((3 : Int32) : Int32).toNatClampNeg = ((0 : Int32) : Int32).toNatClampNeg then (nar .byte ((((g ((0 : Int32) : Int32).toNatClampNeg)) ^^^ (-1 : Int32)).toInt8.toInt32)) else (g ((3 : Int32) : Int32).toNatClampNeg))))) ^^^ (-1 : Int32)).toInt8.toInt32)) else (if i = ((2 : Int32) : Int32).toNatClampNeg then (nar .byte ((((if ((2 : Int32) : Int32).toNatClampNeg = ((1 : Int32) : Int32).toNatClampNeg then (nar .byte ((((if ((1 : Int32) : Int32).toNatClampNeg = ((0 : Int32) : Int32).toNatClampNeg then (nar .byte ((((g ((0 : Int32) : Int32).toNatClampNeg)) ^^^ (-1 : Int32)).toInt8.toInt32)) else (g ((1 : Int32) : Int32).toNatClampNeg))) ^^^ (-1 : Int32)).toInt8.toInt32)) else (if ((2 : Int32) : Int32).toNatClampNeg = ((0 : Int32) : Int32).toNatClampNeg then (nar .byte ((((g ((0 : Int32) : Int32).toNatClampNeg)) ^^^ (-1 : Int32)).toInt8.toInt32)) else (g ((2 : Int32) : Int32).toNatClampNeg)))) ^^^ (-1 : Int32)).toInt8.toInt32)) else (if i = ((1 : Int32) : Int32).toNatClampNeg then (nar .byte ((((if ((1 : Int32) : Int32).toNatClampNeg = ((0 : Int32) : Int32).toNatClampNeg then (nar .byte ((((g ((0 : Int32) : Int32).toNatClampNeg)) ^^^ (-1 : Int32)).toInt8.toInt32)) else (g ((1 : Int32) : Int32).toNatClampNeg))) ^^^ (-1 : Int32)).toInt8.toInt32)) else (if i = ((0 : Int32) : Int32).toNatClampNeg then (nar .byte ((((g ((0 : Int32) : Int32).toNatClampNeg)) ^^^ (-1 : Int32)).toInt8.toInt32)) else (g i)))))))) := own_A.setI A_o0_w25 W32
  have SZ34 : h0.size ≤ h32.size := by rw [W32.size]; exact SZ27
  have ZZ34 : n0 ≤ h32.size := Nat.le_trans Z0 SZ34
  have K35 : Keep h0 h32 [o0] := (K28).wr W32 (Or.inl (List.mem_of_getElem? (i := 0) rfl))
  have qa36 := A_o0_w32
  obtain ⟨c36, Ar36, Sz36, H36⟩ := qa36
  have hi37 : 0 ≤ ((5 : Int32) : Int32).toInt ∧ ((5 : Int32) : Int32).toInt < (6 : Nat) := (by decide)
  have hl37 : c36.slots[((5 : Int32) : Int32).toNatClampNeg]? = some (.int ((if ((5 : Int32) : Int32).toNatClampNeg = ((4 : Int32) : Int32).toNatClampNeg then (nar .byte ((((if ((4 : Int32) : Int32).toNatClampNeg = ((3 : Int32) : Int32).toNatClampNeg then (nar .byte ((((if ((3 : Int32) : Int32).toNatClampNeg = ((2 : Int32) : Int32).toNatClampNeg then (nar .byte ((((if ((2 : Int32) : Int32).toNatClampNeg = ((1 : Int32) : Int32).toNatClampNeg then (nar .byte ((((if ((1 : Int32) : Int32).toNatClampNeg = ((0 : Int32) : Int32).toNatClampNeg then (nar .byte ((((g ((0 : Int32) : Int32).toNatClampNeg)) ^^^ (-1 : Int32)).toInt8.toInt32)) else (g ((1 : Int32) : Int32).toNatClampNeg))) ^^^ (-1 : Int32)).toInt8.toInt32)) else (if ((2 : Int32) : Int32).toNatClampNeg = ((0 : Int32) : Int32).toNatClampNeg then (nar .byte ((((g ((0 : Int32) : Int32).toNatClampNeg)) ^^^ (-1 : Int32)).toInt8.toInt32)) else (g ((2 : Int32) : Int32).toNatClampNeg)))) ^^^ (-1 : Int32)).toInt8.toInt32)) else (if ((3 : Int32) : Int32).toNatClampNeg = ((1 : Int32) : Int32).toNatClampNeg then (nar .byte ((((if ((1 : Int32) : Int32).toNatClampNeg = ((0 : Int32) : Int32).toNatClampNeg then (nar .byte ((((g ((0 : Int32) : Int32).toNatClampNeg)) ^^^ (-1 : Int32)).toInt8.toInt32)) else (g ((1 : Int32) : Int32).toNatClampNeg))) ^^^ (-1 : Int32)).toInt8.toInt32)) else (if ((3 : Int32) : Int32).toNatClampNeg = ((0 : Int32) : Int32).toNatClampNeg then (nar .byte ((((g ((0 : Int32) : Int32).toNatClampNeg)) ^^^ (-1 : Int32)).toInt8.toInt32)) else (g ((3 : Int32) : Int32).toNatClampNeg))))) ^^^ (-1 : Int32)).toInt8.toInt32)) else (if ((4 : Int32) : Int32).toNatClampNeg = ((2 : Int32) : Int32).toNatClampNeg then (nar .byte ((((if ((2 : Int32) : Int32).toNatClampNeg = ((1 : Int32) : Int32).toNatClampNeg then (nar .byte ((((if ((1 : Int32) : Int32).toNatClampNeg = ((0 : Int32) : Int32).toNatClampNeg then (nar .byte ((((g ((0 : Int32) : Int32).toNatClampNeg)) ^^^ (-1 : Int32)).toInt8.toInt32)) else (g ((1 : Int32) : Int32).toNatClampNeg))) ^^^ (-1 : Int32)).toInt8.toInt32)) else (if ((2 : Int32) : Int32).toNatClampNeg = ((0 : Int32) : Int32).toNatClampNeg then (nar .byte ((((g ((0 : Int32) : Int32).toNatClampNeg)) ^^^ (-1 : Int32)).toInt8.toInt32)) else (g ((2 : Int32) : Int32).toNatClampNeg)))) ^^^ (-1 : Int32)).toInt8.toInt32)) else (if ((4 : Int32) : Int32).toNatClampNeg = ((1 : Int32) : Int32).toNatClampNeg then (nar .byte ((((if ((1 : Int32) : Int32).toNatClampNeg = ((0 : Int32) : Int32).toNatClampNeg then (nar .byte ((((g ((0 : Int32) : Int32).toNatClampNeg)) ^^^ (-1 : Int32)).toInt8.toInt32)) else (g ((1 : Int32) : Int32).toNatClampNeg))) ^^^ (-1 : Int32)).toInt8.toInt32)) else (if ((4 : Int32) : Int32).toNatClampNeg = ((0 : Int32) : Int32).toNatClampNeg then (nar .byte ((((g ((0 : Int32) : Int32).toNatClampNeg)) ^^^ (-1 : Int32)).toInt8.toInt32)) else (g ((4 : Int32) : Int32).toNatClampNeg)))))) ^^^ (-1 : Int32)).toInt8.toInt32)) else (if ((5 : Int32) : Int32).toNatClampNeg = ((3 : Int32) : Int32).toNatClampNeg then (nar .byte ((((if ((3 : Int32) : Int32).toNatClampNeg = ((2 : Int32) : Int32).toNatClampNeg then (nar .byte ((((if ((2 : Int32) : Int32).toNatClampNeg = ((1 : Int32) : Int32).toNatClampNeg then (nar .byte ((((if ((1 : Int32) : Int32).toNatClampNeg = ((0 : Int32) : Int32).toNatClampNeg then (nar .byte ((((g ((0 : Int32) : Int32).toNatClampNeg)) ^^^ (-1 : Int32)).toInt8.toInt32)) else (g ((1 : Int32) : Int32).toNatClampNeg))) ^^^ (-1 : Int32)).toInt8.toInt32)) else (if ((2 : Int32) : Int32).toNatClampNeg = ((0 : Int32) : Int32).toNatClampNeg then (nar .byte ((((g ((0 : Int32) : Int32).toNatClampNeg)) ^^^ (-1 : Int32)).toInt8.toInt32)) else (g ((2 : Int32) : Int32).toNatClampNeg)))) ^^^ (-1 : Int32)).toInt8.toInt32)) else (if ((3 : Int32) : Int32).toNatClampNeg = ((1 : Int32) : Int32).toNatClampNeg then (nar .byte ((((if ((1 : Int32) : Int32).toNatClampNeg = ((0 : Int32) : Int32).toNatClampNeg then (nar .byte ((((g ((0 : Int32) : Int32).toNatClampNeg)) ^^^ (-1 : Int32)).toInt8.toInt32)) else (g ((1 : Int32) : Int32).toNatClampNeg))) ^^^ (-1 : Int32)).toInt8.toInt32)) else (if ((3 : Int32) : Int32).toNatClampNeg = ((0 : Int32) : Int32).toNatClampNeg then (nar .byte ((((g ((0 : Int32) : Int32).toNatClampNeg)) ^^^ (-1 : Int32)).toInt8.toInt32)) else (g ((3 : Int32) : Int32).toNatClampNeg))))) ^^^ (-1 : Int32)).toInt8.toInt32)) else (if ((5 : Int32) : Int32).toNatClampNeg = ((2 : Int32) : Int32).toNatClampNeg then (nar .byte ((((if ((2 : Int32) : Int32).toNatClampNeg = ((1 : Int32) : Int32).toNatClampNeg then (nar .byte ((((if ((1 : Int32) : Int32).toNatClampNeg = ((0 : Int32) : Int32).toNatClampNeg then (nar .byte ((((g ((0 : Int32) : Int32).toNatClampNeg)) ^^^ (-1 : Int32)).toInt8.toInt32)) else (g ((1 : Int32) : Int32).toNatClampNeg))) ^^^ (-1 : Int32)).toInt8.toInt32)) else (if ((2 : Int32) : Int32).toNatClampNeg = ((0 : Int32) : Int32).toNatClampNeg then (nar .byte ((((g ((0 : Int32) : Int32).toNatClampNeg)) ^^^ (-1 : Int32)).toInt8.toInt32)) else (g ((2 : Int32) : Int32).toNatClampNeg)))) ^^^ (-1 : Int32)).toInt8.toInt32)) else (if ((5 : Int32) : Int32).toNatClampNeg = ((1 : Int32) : Int32).toNatClampNeg then (nar .byte ((((if ((1 : Int32) : Int32).toNatClampNeg = ((0 : Int32) : Int32).toNatClampNeg then (nar .byte ((((g ((0 : Int32) : Int32).toNatClampNeg)) ^^^ (-1 : Int32)).toInt8.toInt32)) else (g ((1 : Int32) : Int32).toNatClampNeg))) ^^^ (-1 : Int32)).toInt8.toInt32)) else (if ((5 : Int32) : Int32).toNatClampNeg = ((0 : Int32) : Int32).toNatClampNeg then (nar .byte ((((g ((0 : Int32) : Int32).toNatClampNeg)) ^^^ (-1 : Int32)).toInt8.toInt32)) else (g ((5 : Int32) : Int32).toNatClampNeg)))))))) := H36 _ (own_ix hi37)
  have qa38 := A_o0_w32
  obtain ⟨c38, Ar38, Sz38, H38⟩ := qa38
  have hi39 : 0 ≤ ((5 : Int32) : Int32).toInt ∧ ((5 : Int32) : Int32).toInt < (6 : Nat) := (by decide)
  obtain ⟨T39, h39, X39, e39, W39, st39⟩ := stB X32 hx hZ e32 Ar38 (j := (5 : Int32)) (own_in Sz38 hi39) (g := (mkF m 53 #[.val (.ref o0)] [(.int ((((if ((5 : Int32) : Int32).toNatClampNeg = ((4 : Int32) : Int32).toNatClampNeg then (nar .byte ((((if ((4 : Int32) : Int32).toNatClampNeg = ((3 : Int32) : Int32).toNatClampNeg then (nar .byte ((((if ((3 : Int32) : Int32).toNatClampNeg = ((2 : Int32) : Int32).toNatClampNeg then (nar .byte ((((if ((2 : Int32) : Int32).toNatClampNeg = ((1 : Int32) : Int32).toNatClampNeg then (nar .byte ((((if ((1 : Int32) : Int32).toNatClampNeg = ((0 : Int32) : Int32).toNatClampNeg then (nar .byte ((((g ((0 : Int32) : Int32).toNatClampNeg)) ^^^ (-1 : Int32)).toInt8.toInt32)) else (g ((1 : Int32) : Int32).toNatClampNeg))) ^^^ (-1 : Int32)).toInt8.toInt32)) else (if ((2 : Int32) : Int32).toNatClampNeg = ((0 : Int32) : Int32).toNatClampNeg then (nar .byte ((((g ((0 : Int32) : Int32).toNatClampNeg)) ^^^ (-1 : Int32)).toInt8.toInt32)) else (g ((2 : Int32) : Int32).toNatClampNeg)))) ^^^ (-1 : Int32)).toInt8.toInt32)) else (if ((3 : Int32) : Int32).toNatClampNeg = ((1 : Int32) : Int32).toNatClampNeg then (nar .byte ((((if ((1 : Int32) : Int32).toNatClampNeg = ((0 : Int32) : Int32).toNatClampNeg then (nar .byte ((((g ((0 : Int32) : Int32).toNatClampNeg)) ^^^ (-1 : Int32)).toInt8.toInt32)) else (g ((1 : Int32) : Int32).toNatClampNeg))) ^^^ (-1 : Int32)).toInt8.toInt32)) else (if ((3 : Int32) : Int32).toNatClampNeg = ((0 : Int32) : Int32).toNatClampNeg then (nar .byte ((((g ((0 : Int32) : Int32).toNatClampNeg)) ^^^ (-1 : Int32)).toInt8.toInt32)) else (g ((3 : Int32) : Int32).toNatClampNeg))))) ^^^ (-1 : Int32)).toInt8.toInt32)) else (if ((4 : Int32) : Int32).toNatClampNeg = ((2 : Int32) : Int32).toNatClampNeg then (nar .byte ((((if ((2 : Int32) : Int32).toNatClampNeg = ((1 : Int32) : Int32).toNatClampNeg then (nar .byte ((((if ((1 : Int32) : Int32).toNatClampNeg = ((0 : Int32) : Int32).toNatClampNeg then (nar .byte ((((g ((0 : Int32) : Int32).toNatClampNeg)) ^^^ (-1 : Int32)).toInt8.toInt32)) else (g ((1 : Int32) : Int32).toNatClampNeg))) ^^^ (-1 : Int32)).toInt8.toInt32)) else (if ((2 : Int32) : Int32).toNatClampNeg = ((0 : Int32) : Int32).toNatClampNeg then (nar .byte ((((g ((0 : Int32) : Int32).toNatClampNeg)) ^^^ (-1 : Int32)).toInt8.toInt32)) else (g ((2 : Int32) : Int32).toNatClampNeg)))) ^^^ (-1 : Int32)).toInt8.toInt32)) else (if ((4 : Int32) : Int32).toNatClampNeg = ((1 : Int32) : Int32).toNatClampNeg then (nar .byte ((((if ((1 : Int32) : Int32).toNatClampNeg = ((0 : Int32) : Int32).toNatClampNeg then (nar .byte ((((g ((0 : Int32) : Int32).toNatClampNeg)) ^^^ (-1 : Int32)).toInt8.toInt32)) else (g ((1 : Int32) : Int32).toNatClampNeg))) ^^^ (-1 : Int32)).toInt8.toInt32)) else (if ((4 : Int32) : Int32).toNatClampNeg = ((0 : Int32) : Int32).toNatClampNeg then (nar .byte ((((g ((0 : Int32) : Int32).toNatClampNeg)) ^^^ (-1 : Int32)).toInt8.toInt32)) else (g ((4 : Int32) : Int32).toNatClampNeg)))))) ^^^ (-1 : Int32)).toInt8.toInt32)) else (if ((5 : Int32) : Int32).toNatClampNeg = ((3 : Int32) : Int32).toNatClampNeg then (nar .byte ((((if ((3 : Int32) : Int32).toNatClampNeg = ((2 : Int32) : Int32).toNatClampNeg then (nar .byte ((((if ((2 : Int32) : Int32).toNatClampNeg = ((1 : Int32) : Int32).toNatClampNeg then (nar .byte ((((if ((1 : Int32) : Int32).toNatClampNeg = ((0 : Int32) : Int32).toNatClampNeg then (nar .byte ((((g ((0 : Int32) : Int32).toNatClampNeg)) ^^^ (-1 : Int32)).toInt8.toInt32)) else (g ((1 : Int32) : Int32).toNatClampNeg))) ^^^ (-1 : Int32)).toInt8.toInt32)) else (if ((2 : Int32) : Int32).toNatClampNeg = ((0 : Int32) : Int32).toNatClampNeg then (nar .byte ((((g ((0 : Int32) : Int32).toNatClampNeg)) ^^^ (-1 : Int32)).toInt8.toInt32)) else (g ((2 : Int32) : Int32).toNatClampNeg)))) ^^^ (-1 : Int32)).toInt8.toInt32)) else (if ((3 : Int32) : Int32).toNatClampNeg = ((1 : Int32) : Int32).toNatClampNeg then (nar .byte ((((if ((1 : Int32) : Int32).toNatClampNeg = ((0 : Int32) : Int32).toNatClampNeg then (nar .byte ((((g ((0 : Int32) : Int32).toNatClampNeg)) ^^^ (-1 : Int32)).toInt8.toInt32)) else (g ((1 : Int32) : Int32).toNatClampNeg))) ^^^ (-1 : Int32)).toInt8.toInt32)) else (if ((3 : Int32) : Int32).toNatClampNeg = ((0 : Int32) : Int32).toNatClampNeg then (nar .byte ((((g ((0 : Int32) : Int32).toNatClampNeg)) ^^^ (-1 : Int32)).toInt8.toInt32)) else (g ((3 : Int32) : Int32).toNatClampNeg))))) ^^^ (-1 : Int32)).toInt8.toInt32)) else (if ((5 : Int32) : Int32).toNatClampNeg = ((2 : Int32) : Int32).toNatClampNeg then (nar .byte ((((if ((2 : Int32) : Int32).toNatClampNeg = ((1 : Int32) : Int32).toNatClampNeg then (nar .byte ((((if ((1 : Int32) : Int32).toNatClampNeg = ((0 : Int32) : Int32).toNatClampNeg then (nar .byte ((((g ((0 : Int32) : Int32).toNatClampNeg)) ^^^ (-1 : Int32)).toInt8.toInt32)) else (g ((1 : Int32) : Int32).toNatClampNeg))) ^^^ (-1 : Int32)).toInt8.toInt32)) else (if ((2 : Int32) : Int32).toNatClampNeg = ((0 : Int32) : Int32).toNatClampNeg then (nar .byte ((((g ((0 : Int32) : Int32).toNatClampNeg)) ^^^ (-1 : Int32)).toInt8.toInt32)) else (g ((2 : Int32) : Int32).toNatClampNeg)))) ^^^ (-1 : Int32)).toInt8.toInt32)) else (if ((5 : Int32) : Int32).toNatClampNeg = ((1 : Int32) : Int32).toNatClampNeg then (nar .byte ((((if ((1 : Int32) : Int32).toNatClampNeg = ((0 : Int32) : Int32).toNatClampNeg then (nar .byte ((((g ((0 : Int32) : Int32).toNatClampNeg)) ^^^ (-1 : Int32)).toInt8.toInt32)) else (g ((1 : Int32) : Int32).toNatClampNeg))) ^^^ (-1 : Int32)).toInt8.toInt32)) else (if ((5 : Int32) : Int32).toNatClampNeg = ((0 : Int32) : Int32).toNatClampNeg then (nar .byte ((((g ((0 : Int32) : Int32).toNatClampNeg)) ^^^ (-1 : Int32)).toInt8.toInt32)) else (g ((5 : Int32) : Int32).toNatClampNeg))))))) ^^^ (-1 : Int32)).toInt8.toInt32)), (.int (5 : Int32)), (.ref o0)])) rfl rfl (hb hby d4_53)
  have N39 := Fr.snoc X39 N32 g_o0
  have A_o0_w39 : own_A Z h39 o0 .byte 6 (fun i => (.int (if i = ((5 : Int32) : Int32).toNatClampNeg then (nar .byte ((((if ((5 : Int32) : Int32).toNatClampNeg = ((4 : Int32) : Int32).toNatClampNeg then (nar .byte ((((if ((4 : Int32) : Int32).toNatClampNeg = ((3 : Int32) : Int32).toNatClampNeg then (nar .byte ((((if ((3 : Int32) : Int32).toNatClampNeg = ((2 : Int32) : Int32).toNatClampNeg then (nar .byte ((((if ((2 : Int32) : Int32).toNatClampNeg = ((1 : Int32) : Int32).toNatClampNeg then (nar .byte ((((if ((1 : Int32) : Int32).toNatClampNeg = ((0 : Int32) : Int32).toNatClampNeg then (nar .byte ((((g ((0 : Int32) : Int32).toNatClampNeg)) ^^^ (-1 : Int32)).toInt8.toInt32)) else (g ((1 : Int32) : Int32).toNatClampNeg))) ^^^ (-1 : Int32)).toInt8.toInt32)) else (if ((2 : Int32) : Int32).toNatClampNeg = ((0 : Int32) : Int32).toNatClampNeg then (nar .byte ((((g ((0 : Int32) : Int32).toNatClampNeg)) ^^^ (-1 : Int32)).toInt8.toInt32)) else (g ((2 : Int32) : Int32).toNatClampNeg)))) ^^^ (-1 : Int32)).toInt8.toInt32)) else (if ((3 : Int32) : Int32).toNatClampNeg = ((1 : Int32) : Int32).toNatClampNeg then (nar .byte ((((if ((1 : Int32) : Int32).toNatClampNeg = ((0 : Int32) : Int32).toNatClampNeg then (nar .byte ((((g ((0 : Int32) : Int32).toNatClampNeg)) ^^^ (-1 : Int32)).toInt8.toInt32)) else (g ((1 : Int32) : Int32).toNatClampNeg))) ^^^ (-1 : Int32)).toInt8.toInt32)) else (if ((3 : Int32) : Int32).toNatClampNeg = ((0 : Int32) : Int32).toNatClampNeg then (nar .byte ((((g ((0 : Int32) : Int32).toNatClampNeg)) ^^^ (-1 : Int32)).toInt8.toInt32)) else (g ((3 : Int32) : Int32).toNatClampNeg))))) ^^^ (-1 : Int32)).toInt8.toInt32)) else (if ((4 : Int32) : Int32).toNatClampNeg = ((2 : Int32) : Int32).toNatClampNeg then (nar .byte ((((if ((2 : Int32) : Int32).toNatClampNeg = ((1 : Int32) : Int32).toNatClampNeg then (nar .byte ((((if ((1 : Int32) : Int32).toNatClampNeg = ((0 : Int32) : Int32).toNatClampNeg then (nar .byte ((((g ((0 : Int32) : Int32).toNatClampNeg)) ^^^ (-1 : Int32)).toInt8.toInt32)) else (g ((1 : Int32) : Int32).toNatClampNeg))) ^^^ (-1 : Int32)).toInt8.toInt32)) else (if ((2 : Int32) : Int32).toNatClampNeg = ((0 : Int32) : Int32).toNatClampNeg then (nar .byte ((((g ((0 : Int32) : Int32).toNatClampNeg)) ^^^ (-1 : Int32)).toInt8.toInt32)) else (g ((2 : Int32) : Int32).toNatClampNeg)))) ^^^ (-1 : Int32)).toInt8.toInt32)) else (if ((4 : Int32) : Int32).toNatClampNeg = ((1 : Int32) : Int32).toNatClampNeg then (nar .byte ((((if ((1 : Int32) : Int32).toNatClampNeg = ((0 : Int32) : Int32).toNatClampNeg then (nar .byte ((((g ((0 : Int32) : Int32).toNatClampNeg)) ^^^ (-1 : Int32)).toInt8.toInt32)) else (g ((1 : Int32) : Int32).toNatClampNeg))) ^^^ (-1 : Int32)).toInt8.toInt32)) else (if ((4 : Int32) : Int32).toNatClampNeg = ((0 : Int32) : Int32).toNatClampNeg then (nar .byte ((((g ((0 : Int32) : Int32).toNatClampNeg)) ^^^ (-1 : Int32)).toInt8.toInt32)) else (g ((4 : Int32) : Int32).toNatClampNeg)))))) ^^^ (-1 : Int32)).toInt8.toInt32)) else (if ((5 : Int32) : Int32).toNatClampNeg = ((3 : Int32) : Int32).toNatClampNeg then (nar .byte ((((if ((3 : Int32) : Int32).toNatClampNeg = ((2 : Int32) : Int32).toNatClampNeg then (nar .byte ((((if ((2 : Int32) : Int32).toNatClampNeg = ((1 : Int32) : Int32).toNatClampNeg then (nar .byte ((((if ((1 : Int32) : Int32).toNatClampNeg = ((0 : Int32) : Int32).toNatClampNeg then (nar .byte ((((g ((0 : Int32) : Int32).toNatClampNeg)) ^^^ (-1 : Int32)).toInt8.toInt32)) else (g ((1 : Int32) : Int32).toNatClampNeg))) ^^^ (-1 : Int32)).toInt8.toInt32)) else (if ((2 : Int32) : Int32).toNatClampNeg = ((0 : Int32) : Int32).toNatClampNeg then (nar .byte ((((g ((0 : Int32) : Int32).toNatClampNeg)) ^^^ (-1 : Int32)).toInt8.toInt32)) else (g ((2 : Int32) : Int32).toNatClampNeg)))) ^^^ (-1 : Int32)).toInt8.toInt32)) else (if ((3 : Int32) : Int32).toNatClampNeg = ((1 : Int32) : Int32).toNatClampNeg then (nar .byte ((((if ((1 : Int32) : Int32).toNatClampNeg = ((0 : Int32) : Int32).toNatClampNeg then (nar .byte ((((g ((0 : Int32) : Int32).toNatClampNeg)) ^^^ (-1 : Int32)).toInt8.toInt32)) else (g ((1 : Int32) : Int32).toNatClampNeg))) ^^^ (-1 : Int32)).toInt8.toInt32)) else (if ((3 : Int32) : Int32).toNatClampNeg = ((0 : Int32) : Int32).toNatClampNeg then (nar .byte ((((g ((0 : Int32) : Int32).toNatClampNeg)) ^^^ (-1 : Int32)).toInt8.toInt32)) else (g ((3 : Int32) : Int32).toNatClampNeg))))) ^^^ (-1 : Int32)).toInt8.toInt32)) else (if ((5 : Int32) : Int32).toNatClampNeg = ((2 : Int32) : Int32).toNatClampNeg then (nar .byte ((((if ((2 : Int32) : Int32).toNatClampNeg = ((1 : Int32) : Int32).toNatClampNeg then (nar .byte ((((if ((1 : Int32) : Int32).toNatClampNeg = ((0 : Int32) : Int32).toNatClampNeg then (nar .byte ((((g ((0 : Int32) : Int32).toNatClampNeg)) ^^^ (-1 : Int32)).toInt8.toInt32)) else (g ((1 : Int32) : Int32).toNatClampNeg))) ^^^ (-1 : Int32)).toInt8.toInt32)) else (if ((2 : Int32) : Int32).toNatClampNeg = ((0 : Int32) : Int32).toNatClampNeg then (nar .byte ((((g ((0 : Int32) : Int32).toNatClampNeg)) ^^^ (-1 : Int32)).toInt8.toInt32)) else (g ((2 : Int32) : Int32).toNatClampNeg)))) ^^^ (-1 : Int32)).toInt8.toInt32)) else (if ((5 : Int32) : Int32).toNatClampNeg = ((1 : Int32) : Int32).toNatClampNeg then (nar .byte ((((if ((1 : Int32) : Int32).toNatClampNeg = ((0 : Int32) : Int32).toNatClampNeg then (nar .byte ((((g ((0 : Int32) : Int32).toNatClampNeg)) ^^^ (-1 : Int32)).toInt8.toInt32)) else (g ((1 : Int32) : Int32).toNatClampNeg))) ^^^ (-1 : Int32)).toInt8.toInt32)) else (if ((5 : Int32) : Int32).toNatClampNeg = ((0 : Int32) : Int32).toNatClampNeg then (nar .byte ((((g ((0 : Int32) : Int32).toNatClampNeg)) ^^^ (-1 : Int32)).toInt8.toInt32)) else (g ((5 : Int32) : Int32).toNatClampNeg))))))) ^^^ (-1 : Int32)).toInt8.toInt32)) else (if i = ((4 : Int32) : Int32).toNatClampNeg then (nar .byte ((((if ((4 : Int32) : Int32).toNatClampNeg = ((3 : Int32) : Int32).toNatClampNeg then (nar .byte ((((if ((3 : Int32) : Int32).toNatClampNeg = ((2 : Int32) : Int32).toNatClampNeg then (nar .byte ((((if ((2 : Int32) : Int32).toNatClampNeg = ((1 : Int32) : Int32).toNatClampNeg then (nar .byte ((((if ((1 : Int32) : Int32).toNatClampNeg = ((0 : Int32) : Int32).toNatClampNeg then (nar .byte ((((g ((0 : Int32) : Int32).toNatClampNeg)) ^^^ (-1 : Int32)).toInt8.toInt32)) else (g ((1 : Int32) : Int32).toNatClampNeg))) ^^^ (-1 : Int32)).toInt8.toInt32)) else (if ((2 : Int32) : Int32).toNatClampNeg = ((0 : Int32) : Int32).toNatClampNeg then (nar .byte ((((g ((0 : Int32) : Int32).toNatClampNeg)) ^^^ (-1 : Int32)).toInt8.toInt32)) else (g ((2 : Int32) : Int32).toNatClampNeg)))) ^^^ (-1 : Int32)).toInt8.toInt32)) else (if ((3 : Int32) : Int32).toNatClampNeg = ((1 : Int32) : Int32).toNatClampNeg then (nar .byte ((((if ((1 : Int32) : Int32).toNatClampNeg = ((0 : Int32) : Int32).toNatClampNeg then (nar .byte ((((g ((0 : Int32) : Int32).toNatClampNeg)) ^^^ (-1 : Int32)).toInt8.toInt32)) else (g ((1 : Int32) : Int32).toNatClampNeg))) ^^^ (-1 : Int32)).toInt8.toInt32)) else (if ((3 : Int32) : Int32).toNatClampNeg = ((0 : Int32) : Int32).toNatClampNeg then (nar .byte ((((g ((0 : Int32) : Int32).toNatClampNeg)) ^^^ (-1 : Int32)).toInt8.toInt32)) else (g ((3 : Int32) : Int32).toNatClampNeg))))) ^^^ (-1 : Int32)).toInt8.toInt32)) else (if ((4 : Int32) : Int32).toNatClampNeg = ((2 : Int32) : Int32).toNatClampNeg then (nar .byte ((((if ((2 : Int32) : Int32).toNatClampNeg = ((1 : Int32) : Int32).toNatClampNeg then (nar .byte ((((if ((1 : Int32) : Int32).toNatClampNeg = ((0 : Int32) : Int32).toNatClampNeg then (nar .byte ((((g ((0 : Int32) : Int32).toNatClampNeg)) ^^^ (-1 : Int32)).toInt8.toInt32)) else (g ((1 : Int32) : Int32).toNatClampNeg))) ^^^ (-1 : Int32)).toInt8.toInt32)) else (if ((2 : Int32) : Int32).toNatClampNeg = ((0 : Int32) : Int32).toNatClampNeg then (nar .byte ((((g ((0 : Int32) : Int32).toNatClampNeg)) ^^^ (-1 : Int32)).toInt8.toInt32)) else (g ((2 : Int32) : Int32).toNatClampNeg)))) ^^^ (-1 : Int32)).toInt8.toInt32)) else (if ((4 : Int32) : Int32).toNatClampNeg = ((1 : Int32) : Int32).toNatClampNeg then (nar .byte ((((if ((1 : Int32) : Int32).toNatClampNeg = ((0 : Int32) : Int32).toNatClampNeg then (nar .byte ((((g ((0 : Int32) : Int32).toNatClampNeg)) ^^^ (-1 : Int32)).toInt8.toInt32)) else (g ((1 : Int32) : Int32).toNatClampNeg))) ^^^ (-1 : Int32)).toInt8.toInt32)) else (if ((4 : Int32) : Int32).toNatClampNeg = ((0 : Int32) : Int32).toNatClampNeg then (nar .byte ((((g ((0 : Int32) : Int32).toNatClampNeg)) ^^^ (-1 : Int32)).toInt8.toInt32)) else (g ((4 : Int32) : Int32).toNatClampNeg)))))) ^^^ (-1 : Int32)).toInt8.toInt32)) else (if i = ((3 : Int32) : Int32).toNatClampNeg then (nar .byte ((((if ((3 : Int32) : Int32).toNatClampNeg = ((2 : Int32) : Int32).toNatClampNeg then (nar .byte ((((if ((2 : Int32) : Int32).toNatClampNeg = ((1 : Int32) : Int32).toNatClampNeg then (nar .byte ((((if ((1 : Int32) : Int32).toNatClampNeg = ((0 : Int32) : Int32).toNatClampNeg then (nar .byte ((((g ((0 : Int32) : Int32).toNatClampNeg)) ^^^ (-1 : Int32)).toInt8.toInt32)) else (g ((1 : Int32) : Int32).toNatClampNeg))) ^^^ (-1 : Int32)).toInt8.toInt32)) else (if ((2 : Int32) : Int32).toNatClampNeg = ((0 : Int32) : Int32).toNatClampNeg then (nar .byte ((((g ((0 : Int32) : Int32).toNatClampNeg)) ^^^ (-1 : Int32)).toInt8.toInt32)) else (g ((2 : Int32) : Int32).toNatClampNeg)))) ^^^ (-1 : Int32)).toInt8.toInt32)) else (if ((3 : Int32) : Int32).toNatClampNeg = ((1 : Int32) : Int32).toNatClampNeg then (nar .byte ((((if ((1 : Int32) : Int32).toNatClampNeg = ((0 : Int32) : Int32).toNatClampNeg then (nar .byte ((((g ((0 : Int32) : Int32).toNatClampNeg)) ^^^ (-1 : Int32)).toInt8.toInt32)) else (g ((1 : Int32) : Int32).toNatClampNeg))) ^^^ (-1 : Int32)).toInt8.toInt32)) else (if ((3 : Int32) : Int32).toNatClampNeg = ((0 : Int32) : Int32).toNatClampNeg then (nar .byte ((((g ((0 : Int32) : Int32).toNatClampNeg)) ^^^ (-1 : Int32)).toInt8.toInt32)) else (g ((3 : Int32) : Int32).toNatClampNeg))))) ^^^ (-1 : Int32)).toInt8.toInt32)) else (if i = ((2 : Int32) : Int32).toNatClampNeg then (nar .byte ((((if ((2 : Int32) : Int32).toNatClampNeg = ((1 : Int32) : Int32).toNatClampNeg then (nar .byte ((((if ((1 : Int32) : Int32).toNatClampNeg = ((0 : Int32) : Int32).toNatClampNeg then (nar .byte ((((g ((0 : Int32) : Int32).toNatClampNeg)) ^^^ (-1 : Int32)).toInt8.toInt32)) else (g ((1 : Int32) : Int32).toNatClampNeg))) ^^^ (-1 : Int32)).toInt8.toInt32)) else (if ((2 : Int32) : Int32).toNatClampNeg = ((0 : Int32) : Int32).toNatClampNeg then (nar .byte ((((g ((0 : Int32) : Int32).toNatClampNeg)) ^^^ (-1 : Int32)).toInt8.toInt32)) else (g ((2 : Int32) : Int32).toNatClampNeg)))) ^^^ (-1 : Int32)).toInt8.toInt32)) else (if i = ((1 : Int32) : Int32).toNatClampNeg then (nar .byte ((((if ((1 : Int32) : Int32).toNatClampNeg = ((0 : Int32) : Int32).toNatClampNeg then (nar .byte ((((g ((0 : Int32) : Int32).toNatClampNeg)) ^^^ (-1 : Int32)).toInt8.toInt32)) else (g ((1 : Int32) : Int32).toNatClampNeg))) ^^^ (-1 : Int32)).toInt8.toInt32)) else (if i = ((0 : Int32) : Int32).toNatClampNeg then (nar .byte ((((g ((0 : Int32) : Int32).toNatClampNeg)) ^^^ (-1 : Int32)).toInt8.toInt32)) else (g i))))))))) := own_A.setI A_o0_w32 W39
  have SZ41 : h0.size ≤ h39.size := by rw [W39.size]; exact SZ34
  have ZZ41 : n0 ≤ h39.size := Nat.le_trans Z0 SZ41
  have K42 : Keep h0 h39 [o0] := (K35).wr W39 (Or.inl (List.mem_of_getElem? (i := 0) rfl))
  have pre43 : ∀ t, Steps p.tables e below (T39.setTop (mkF m 54 #[.val (.ref o0)] [])) t → Steps p.tables e below (s₁.setTop (entryFrame m #[(.ref o0)] 1)) t := fun t k => pre0 t (by
    show Steps p.tables e below (s₁.setTop (mkF m 0 #[.val (.ref o0)] [])) _
    refine XS.aloadN X0.here hx rfl (hb hby d4_0) rfl rfl ?_
    show Steps p.tables e below (s₁.setTop (mkF m 1 #[.val (.ref o0)] [(.ref o0)])) _
    refine XS.iconst X0.here hx rfl (hb hby d4_1) ?_
    show Steps p.tables e below (s₁.setTop (mkF m 2 #[.val (.ref o0)] [(.int (0 : Int32)), (.ref o0)])) _
    refine XS.aloadN X0.here hx rfl (hb hby d4_2) rfl rfl ?_
    show Steps p.tables e below (s₁.setTop (mkF m 3 #[.val (.ref o0)] [(.ref o0), (.int (0 : Int32)), (.ref o0)])) _
    refine XS.iconst X0.here hx rfl (hb hby d4_3) ?_
    show Steps p.tables e below (s₁.setTop (mkF m 4 #[.val (.ref o0)] [(.int (0 : Int32)), (.ref o0), (.int (0 : Int32)), (.ref o0)])) _
    refine X0.baloadBytes hx (j := (0 : Int32)) (v := (.int ((g ((0 : Int32) : Int32).toNatClampNeg)))) (by rw [e0]; exact Ar1.1) (State.isArrayOf_alike hZ.alike Ar1.2.1) Ar1.2.2 (own_in Sz1 hi2) hl2 (g := (mkF m 4 #[.val (.ref o0)] [(.int (0 : Int32)), (.ref o0), (.int (0 : Int32)), (.ref o0)])) rfl rfl (hb hby d4_4) _ ?_
    show Steps p.tables e below (s₁.setTop (mkF m 5 #[.val (.ref o0)] [(.int ((g ((0 : Int32) : Int32).toNatClampNeg))), (.int (0 : Int32)), (.ref o0)])) _
    refine XS.iconst X0.here hx rfl (hb hby d4_5) ?_
    show Steps p.tables e below (s₁.setTop (mkF m 6 #[.val (.ref o0)] [(.int (-1 : Int32)), (.int ((g ((0 : Int32) : Int32).toNatClampNeg))), (.int (0 : Int32)), (.ref o0)])) _
    refine XS.ixor X0.here hx rfl (hb hby d4_6) rfl ?_
    show Steps p.tables e below (s₁.setTop (mkF m 7 #[.val (.ref o0)] [(.int (((g ((0 : Int32) : Int32).toNatClampNeg)) ^^^ (-1 : Int32))), (.int (0 : Int32)), (.ref o0)])) _
    refine XS.i2b X0.here hx rfl (hb hby d4_7) rfl ?_
    show Steps p.tables e below (s₁.setTop (mkF m 8 #[.val (.ref o0)] [(.int ((((g ((0 : Int32) : Int32).toNatClampNeg)) ^^^ (-1 : Int32)).toInt8.toInt32)), (.int (0 : Int32)), (.ref o0)])) _
    refine st4 _ ?_
    show Steps p.tables e below (T4.setTop (mkF m 9 #[.val (.ref o0)] [])) _
    refine XS.aloadN X4.here hx rfl (hb hby d4_9) rfl rfl ?_
    show Steps p.tables e below (T4.setTop (mkF m 10 #[.val (.ref o0)] [(.ref o0)])) _
    refine XS.iconst X4.here hx rfl (hb hby d4_10) ?_
    show Steps p.tables e below (T4.setTop (mkF m 11 #[.val (.ref o0)] [(.int (1 : Int32)), (.ref o0)])) _
    refine XS.aloadN X4.here hx rfl (hb hby d4_11) rfl rfl ?_
    show Steps p.tables e below (T4.setTop (mkF m 12 #[.val (.ref o0)] [(.ref o0), (.int (1 : Int32)), (.ref o0)])) _
    refine XS.iconst X4.here hx rfl (hb hby d4_12) ?_
    show Steps p.tables e below (T4.setTop (mkF m 13 #[.val (.ref o0)] [(.int (1 : Int32)), (.ref o0), (.int (1 : Int32)), (.ref o0)])) _
    refine X4.baloadBytes hx (j := (1 : Int32)) (v := (.int ((if ((1 : Int32) : Int32).toNatClampNeg = ((0 : Int32) : Int32).toNatClampNeg then (nar .byte ((((g ((0 : Int32) : Int32).toNatClampNeg)) ^^^ (-1 : Int32)).toInt8.toInt32)) else (g ((1 : Int32) : Int32).toNatClampNeg))))) (by rw [e4]; exact Ar8.1) (State.isArrayOf_alike hZ.alike Ar8.2.1) Ar8.2.2 (own_in Sz8 hi9) hl9 (g := (mkF m 13 #[.val (.ref o0)] [(.int (1 : Int32)), (.ref o0), (.int (1 : Int32)), (.ref o0)])) rfl rfl (hb hby d4_13) _ ?_
    show Steps p.tables e below (T4.setTop (mkF m 14 #[.val (.ref o0)] [(.int ((if ((1 : Int32) : Int32).toNatClampNeg = ((0 : Int32) : Int32).toNatClampNeg then (nar .byte ((((g ((0 : Int32) : Int32).toNatClampNeg)) ^^^ (-1 : Int32)).toInt8.toInt32)) else (g ((1 : Int32) : Int32).toNatClampNeg)))), (.int (1 : Int32)), (.ref o0)])) _
    refine XS.iconst X4.here hx rfl (hb hby d4_14) ?_
    show Steps p.tables e below (T4.setTop (mkF m 15 #[.val (.ref o0)] [(.int (-1 : Int32)), (.int ((if ((1 : Int32) : Int32).toNatClampNeg = ((0 : Int32) : Int32).toNatClampNeg then (nar .byte ((((g ((0 : Int32) : Int32).toNatClampNeg)) ^^^ (-1 : Int32)).toInt8.toInt32)) else (g ((1 : Int32) : Int32).toNatClampNeg)))), (.int (1 : Int32)), (.ref o0)])) _
    refine XS.ixor X4.here hx rfl (hb hby d4_15) rfl ?_
    show Steps p.tables e below (T4.setTop (mkF m 16 #[.val (.ref o0)] [(.int (((if ((1 : Int32) : Int32).toNatClampNeg = ((0 : Int32) : Int32).toNatClampNeg then (nar .byte ((((g ((0 : Int32) : Int32).toNatClampNeg)) ^^^ (-1 : Int32)).toInt8.toInt32)) else (g ((1 : Int32) : Int32).toNatClampNeg))) ^^^ (-1 : Int32))), (.int (1 : Int32)), (.ref o0)])) _
    refine XS.i2b X4.here hx rfl (hb hby d4_16) rfl ?_
    show Steps p.tables e below (T4.setTop (mkF m 17 #[.val (.ref o0)] [(.int ((((if ((1 : Int32) : Int32).toNatClampNeg = ((0 : Int32) : Int32).toNatClampNeg then (nar .byte ((((g ((0 : Int32) : Int32).toNatClampNeg)) ^^^ (-1 : Int32)).toInt8.toInt32)) else (g ((1 : Int32) : Int32).toNatClampNeg))) ^^^ (-1 : Int32)).toInt8.toInt32)), (.int (1 : Int32)), (.ref o0)])) _
    refine st11 _ ?_
    show Steps p.tables e below (T11.setTop (mkF m 18 #[.val (.ref o0)] [])) _
    refine XS.aloadN X11.here hx rfl (hb hby d4_18) rfl rfl ?_
    show Steps p.tables e below (T11.setTop (mkF m 19 #[.val (.ref o0)] [(.ref o0)])) _
    refine XS.iconst X11.here hx rfl (hb hby d4_19) ?_
    show Steps p.tables e below (T11.setTop (mkF m 20 #[.val (.ref o0)] [(.int (2 : Int32)), (.ref o0)])) _
    refine XS.aloadN X11.here hx rfl (hb hby d4_20) rfl rfl ?_
    show Steps p.tables e below (T11.setTop (mkF m 21 #[.val (.ref o0)] [(.ref o0), (.int (2 : Int32)), (.ref o0)])) _
    refine XS.iconst X11.here hx rfl (hb hby d4_21) ?_
    show Steps p.tables e below (T11.setTop (mkF m 22 #[.val (.ref o0)] [(.int (2 : Int32)), (.ref o0), (.int (2 : Int32)), (.ref o0)])) _
    refine X11.baloadBytes hx (j := (2 : Int32)) (v := (.int ((if ((2 : Int32) : Int32).toNatClampNeg = ((1 : Int32) : Int32).toNatClampNeg then (nar .byte ((((if ((1 : Int32) : Int32).toNatClampNeg = ((0 : Int32) : Int32).toNatClampNeg then (nar .byte ((((g ((0 : Int32) : Int32).toNatClampNeg)) ^^^ (-1 : Int32)).toInt8.toInt32)) else (g ((1 : Int32) : Int32).toNatClampNeg))) ^^^ (-1 : Int32)).toInt8.toInt32)) else (if ((2 : Int32) : Int32).toNatClampNeg = ((0 : Int32) : Int32).toNatClampNeg then (nar .byte ((((g ((0 : Int32) : Int32).toNatClampNeg)) ^^^ (-1 : Int32)).toInt8.toInt32)) else (g ((2 : Int32) : Int32).toNatClampNeg)))))) (by rw [e11]; exact Ar15.1) (State.isArrayOf_alike hZ.alike Ar15.2.1) Ar15.2.2 (own_in Sz15 hi16) hl16 (g := (mkF m 22 #[.val (.ref o0)] [(.int (2 : Int32)), (.ref o0), (.int (2 : Int32)), (.ref o0)])) rfl rfl (hb hby d4_22) _ ?_
    show Steps p.tables e below (T11.setTop (mkF m 23 #[.val (.ref o0)] [(.int ((if ((2 : Int32) : Int32).toNatClampNeg = ((1 : Int32) : Int32).toNatClampNeg then (nar .byte ((((if ((1 : Int32) : Int32).toNatClampNeg = ((0 : Int32) : Int32).toNatClampNeg then (nar .byte ((((g ((0 : Int32) : Int32).toNatClampNeg)) ^^^ (-1 : Int32)).toInt8.toInt32)) else (g ((1 : Int32) : Int32).toNatClampNeg))) ^^^ (-1 : Int32)).toInt8.toInt32)) else (if ((2 : Int32) : Int32).toNatClampNeg = ((0 : Int32) : Int32).toNatClampNeg then (nar .byte ((((g ((0 : Int32) : Int32).toNatClampNeg)) ^^^ (-1 : Int32)).toInt8.toInt32)) else (g ((2 : Int32) : Int32).toNatClampNeg))))), (.int (2 : Int32)), (.ref o0)])) _
    refine XS.iconst X11.here hx rfl (hb hby d4_23) ?_
    show Steps p.tables e below (T11.setTop (mkF m 24 #[.val (.ref o0)] [(.int (-1 : Int32)), (.int ((if ((2 : Int32) : Int32).toNatClampNeg = ((1 : Int32) : Int32).toNatClampNeg then (nar .byte ((((if ((1 : Int32) : Int32).toNatClampNeg = ((0 : Int32) : Int32).toNatClampNeg then (nar .byte ((((g ((0 : Int32) : Int32).toNatClampNeg)) ^^^ (-1 : Int32)).toInt8.toInt32)) else (g ((1 : Int32) : Int32).toNatClampNeg))) ^^^ (-1 : Int32)).toInt8.toInt32)) else (if ((2 : Int32) : Int32).toNatClampNeg = ((0 : Int32) : Int32).toNatClampNeg then (nar .byte ((((g ((0 : Int32) : Int32).toNatClampNeg)) ^^^ (-1 : Int32)).toInt8.toInt32)) else (g ((2 : Int32) : Int32).toNatClampNeg))))), (.int (2 : Int32)), (.ref o0)])) _
    refine XS.ixor X11.here hx rfl (hb hby d4_24) rfl ?_
    show Steps p.tables e below (T11.setTop (mkF m 25 #[.val (.ref o0)] [(.int (((if ((2 : Int32) : Int32).toNatClampNeg = ((1 : Int32) : Int32).toNatClampNeg then (nar .byte ((((if ((1 : Int32) : Int32).toNatClampNeg = ((0 : Int32) : Int32).toNatClampNeg then (nar .byte ((((g ((0 : Int32) : Int32).toNatClampNeg)) ^^^ (-1 : Int32)).toInt8.toInt32)) else (g ((1 : Int32) : Int32).toNatClampNeg))) ^^^ (-1 : Int32)).toInt8.toInt32)) else (if ((2 : Int32) : Int32).toNatClampNeg = ((0 : Int32) : Int32).toNatClampNeg then (nar .byte ((((g ((0 : Int32) : Int32).toNatClampNeg)) ^^^ (-1 : Int32)).toInt8.toInt32)) else (g ((2 : Int32) : Int32).toNatClampNeg)))) ^^^ (-1 : Int32))), (.int (2 : Int32)), (.ref o0)])) _
    refine XS.i2b X11.here hx rfl (hb hby d4_25) rfl ?_
    show Steps p.tables e below (T11.setTop (mkF m 26 #[.val (.ref o0)] [(.int ((((if ((2 : Int32) : Int32).toNatClampNeg = ((1 : Int32) : Int32).toNatClampNeg then (nar .byte ((((if ((1 : Int32) : Int32).toNatClampNeg = ((0 : Int32) : Int32).toNatClampNeg then (nar .byte ((((g ((0 : Int32) : Int32).toNatClampNeg)) ^^^ (-1 : Int32)).toInt8.toInt32)) else (g ((1 : Int32) : Int32).toNatClampNeg))) ^^^ (-1 : Int32)).toInt8.toInt32)) else (if ((2 : Int32) : Int32).toNatClampNeg = ((0 : Int32) : Int32).toNatClampNeg then (nar .byte ((((g ((0 : Int32) : Int32).toNatClampNeg)) ^^^ (-1 : Int32)).toInt8.toInt32)) else (g ((2 : Int32) : Int32).toNatClampNeg)))) ^^^ (-1 : Int32)).toInt8.toInt32)), (.int (2 : Int32)), (.ref o0)])) _
    refine st18 _ ?_
    show Steps p.tables e below (T18.setTop (mkF m 27 #[.val (.ref o0)] [])) _
    refine XS.aloadN X18.here hx rfl (hb hby d4_27) rfl rfl ?_
    show Steps p.tables e below (T18.setTop (mkF m 28 #[.val (.ref o0)] [(.ref o0)])) _
    refine XS.iconst X18.here hx rfl (hb hby d4_28) ?_
    show Steps p.tables e below (T18.setTop (mkF m 29 #[.val (.ref o0)] [(.int (3 : Int32)), (.ref o0)])) _
    refine XS.aloadN X18.here hx rfl (hb hby d4_29) rfl rfl ?_
    show Steps p.tables e below (T18.setTop (mkF m 30 #[.val (.ref o0)] [(.ref o0), (.int (3 : Int32)), (.ref o0)])) _
    refine XS.iconst X18.here hx rfl (hb hby d4_30) ?_
    show Steps p.tables e below (T18.setTop (mkF m 31 #[.val (.ref o0)] [(.int (3 : Int32)), (.ref o0), (.int (3 : Int32)), (.ref o0)])) _
    refine X18.baloadBytes hx (j := (3 : Int32)) (v := (.int ((if ((3 : Int32) : Int32).toNatClampNeg = ((2 : Int32) : Int32).toNatClampNeg then (nar .byte ((((if ((2 : Int32) : Int32).toNatClampNeg = ((1 : Int32) : Int32).toNatClampNeg then (nar .byte ((((if ((1 : Int32) : Int32).toNatClampNeg = ((0 : Int32) : Int32).toNatClampNeg then (nar .byte ((((g ((0 : Int32) : Int32).toNatClampNeg)) ^^^ (-1 : Int32)).toInt8.toInt32)) else (g ((1 : Int32) : Int32).toNatClampNeg))) ^^^ (-1 : Int32)).toInt8.toInt32)) else (if ((2 : Int32) : Int32).toNatClampNeg = ((0 : Int32) : Int32).toNatClampNeg then (nar .byte ((((g ((0 : Int32) : Int32).toNatClampNeg)) ^^^ (-1 : Int32)).toInt8.toInt32)) else (g ((2 : Int32) : Int32).toNatClampNeg)))) ^^^ (-1 : Int32)).toInt8.toInt32)) else (if ((3 : Int32) : Int32).toNatClampNeg = ((1 : Int32) : Int32).toNatClampNeg then (nar .byte ((((if ((1 : Int32) : Int32).toNatClampNeg = ((0 : Int32) : Int32).toNatClampNeg then (nar .byte ((((g ((0 : Int32) : Int32).toNatClampNeg)) ^^^ (-1 : Int32)).toInt8.toInt32)) else (g ((1 : Int32) : Int32).toNatClampNeg))) ^^^ (-1 : Int32)).toInt8.toInt32)) else (if ((3 : Int32) : Int32).toNatClampNeg = ((0 : Int32) : Int32).toNatClampNeg then (nar .byte ((((g ((0 : Int32) : Int32).toNatClampNeg)) ^^^ (-1 : Int32)).toInt8.toInt32)) else (g ((3 : Int32) : Int32).toNatClampNeg))))))) (by rw [e18]; exact Ar22.1) (State.isArrayOf_alike hZ.alike Ar22.2.1) Ar22.2.2 (own_in Sz22 hi23) hl23 (g := (mkF m 31 #[.val (.ref o0)] [(.int (3 : Int32)), (.ref o0), (.int (3 : Int32)), (.ref o0)])) rfl rfl (hb hby d4_31) _ ?_
    show Steps p.tables e below (T18.setTop (mkF m 32 #[.val (.ref o0)] [(.int ((if ((3 : Int32) : Int32).toNatClampNeg = ((2 : Int32) : Int32).toNatClampNeg then (nar .byte ((((if ((2 : Int32) : Int32).toNatClampNeg = ((1 : Int32) : Int32).toNatClampNeg then (nar .byte ((((if ((1 : Int32) : Int32).toNatClampNeg = ((0 : Int32) : Int32).toNatClampNeg then (nar .byte ((((g ((0 : Int32) : Int32).toNatClampNeg)) ^^^ (-1 : Int32)).toInt8.toInt32)) else (g ((1 : Int32) : Int32).toNatClampNeg))) ^^^ (-1 : Int32)).toInt8.toInt32)) else (if ((2 : Int32) : Int32).toNatClampNeg = ((0 : Int32) : Int32).toNatClampNeg then (nar .byte ((((g ((0 : Int32) : Int32).toNatClampNeg)) ^^^ (-1 : Int32)).toInt8.toInt32)) else (g ((2 : Int32) : Int32).toNatClampNeg)))) ^^^ (-1 : Int32)).toInt8.toInt32)) else (if ((3 : Int32) : Int32).toNatClampNeg = ((1 : Int32) : Int32).toNatClampNeg then (nar .byte ((((if ((1 : Int32) : Int32).toNatClampNeg = ((0 : Int32) : Int32).toNatClampNeg then (nar .byte ((((g ((0 : Int32) : Int32).toNatClampNeg)) ^^^ (-1 : Int32)).toInt8.toInt32)) else (g ((1 : Int32) : Int32).toNatClampNeg))) ^^^ (-1 : Int32)).toInt8.toInt32)) else (if ((3 : Int32) : Int32).toNatClampNeg = ((0 : Int32) : Int32).toNatClampNeg then (nar .byte ((((g ((0 : Int32) : Int32).toNatClampNeg)) ^^^ (-1 : Int32)).toInt8.toInt32)) else (g ((3 : Int32) : Int32).toNatClampNeg)))))), (.int (3 : Int32)), (.ref o0)])) _
    refine XS.iconst X18.here hx rfl (hb hby d4_32) ?_
    show Steps p.tables e below (T18.setTop (mkF m 33 #[.val (.ref o0)] [(.int (-1 : Int32)), (.int ((if ((3 : Int32) : Int32).toNatClampNeg = ((2 : Int32) : Int32).toNatClampNeg then (nar .byte ((((if ((2 : Int32) : Int32).toNatClampNeg = ((1 : Int32) : Int32).toNatClampNeg then (nar .byte ((((if ((1 : Int32) : Int32).toNatClampNeg = ((0 : Int32) : Int32).toNatClampNeg then (nar .byte ((((g ((0 : Int32) : Int32).toNatClampNeg)) ^^^ (-1 : Int32)).toInt8.toInt32)) else (g ((1 : Int32) : Int32).toNatClampNeg))) ^^^ (-1 : Int32)).toInt8.toInt32)) else (if ((2 : Int32) : Int32).toNatClampNeg = ((0 : Int32) : Int32).toNatClampNeg then (nar .byte ((((g ((0 : Int32) : Int32).toNatClampNeg)) ^^^ (-1 : Int32)).toInt8.toInt32)) else (g ((2 : Int32) : Int32).toNatClampNeg)))) ^^^ (-1 : Int32)).toInt8.toInt32)) else (if ((3 : Int32) : Int32).toNatClampNeg = ((1 : Int32) : Int32).toNatClampNeg then (nar .byte ((((if ((1 : Int32) : Int32).toNatClampNeg = ((0 : Int32) : Int32).toNatClampNeg then (nar .byte ((((g ((0 : Int32) : Int32).toNatClampNeg)) ^^^ (-1 : Int32)).toInt8.toInt32)) else (g ((1 : Int32) : Int32).toNatClampNeg))) ^^^ (-1 : Int32)).toInt8.toInt32)) else (if ((3 : Int32) : Int32).toNatClampNeg = ((0 : Int32) : Int32).toNatClampNeg then (nar .byte ((((g ((0 : Int32) : Int32).toNatClampNeg)) ^^^ (-1 : Int32)).toInt8.toInt32)) else (g ((3 : Int32) : Int32).toNatClampNeg)))))), (.int (3 : Int32)), (.ref o0)])) _
    refine XS.ixor X18.here hx rfl (hb hby d4_33) rfl ?_
    show Steps p.tables e below (T18.setTop (mkF m 34 #[.val (.ref o0)] [(.int (((if ((3 : Int32) : Int32).toNatClampNeg = ((2 : Int32) : Int32).toNatClampNeg then (nar .byte ((((if ((2 : Int32) : Int32).toNatClampNeg = ((1 : Int32) : Int32).toNatClampNeg then (nar .byte ((((if ((1 : Int32) : Int32).toNatClampNeg = ((0 : Int32) : Int32).toNatClampNeg then (nar .byte ((((g ((0 : Int32) : Int32).toNatClampNeg)) ^^^ (-1 : Int32)).toInt8.toInt32)) else (g ((1 : Int32) : Int32).toNatClampNeg))) ^^^ (-1 : Int32)).toInt8.toInt32)) else (if ((2 : Int32) : Int32).toNatClampNeg = ((0 : Int32) : Int32).toNatClampNeg then (nar .byte ((((g ((0 : Int32) : Int32).toNatClampNeg)) ^^^ (-1 : Int32)).toInt8.toInt32)) else (g ((2 : Int32) : Int32).toNatClampNeg)))) ^^^ (-1 : Int32)).toInt8.toInt32)) else (if ((3 : Int32) : Int32).toNatClampNeg = ((1 : Int32) : Int32).toNatClampNeg then (nar .byte ((((if ((1 : Int32) : Int32).toNatClampNeg = ((0 : Int32) : Int32).toNatClampNeg then (nar .byte ((((g ((0 : Int32) : Int32).toNatClampNeg)) ^^^ (-1 : Int32)).toInt8.toInt32)) else (g ((1 : Int32) : Int32).toNatClampNeg))) ^^^ (-1 : Int32)).toInt8.toInt32)) else (if ((3 : Int32) : Int32).toNatClampNeg = ((0 : Int32) : Int32).toNatClampNeg then (nar .byte ((((g ((0 : Int32) : Int32).toNatClampNeg)) ^^^ (-1 : Int32)).toInt8.toInt32)) else (g ((3 : Int32) : Int32).toNatClampNeg))))) ^^^ (-1 : Int32))), (.int (3 : Int32)), (.ref o0)])) _
    refine XS.i2b X18.here hx rfl (hb hby d4_34) rfl ?_
    show Steps p.tables e below (T18.setTop (mkF m 35 #[.val (.ref o0)] [(.int ((((if ((3 : Int32) : Int32).toNatClampNeg = ((2 : Int32) : Int32).toNatClampNeg then (nar .byte ((((if ((2 : Int32) : Int32).toNatClampNeg = ((1 : Int32) : Int32).toNatClampNeg then (nar .byte ((((if ((1 : Int32) : Int32).toNatClampNeg = ((0 : Int32) : Int32).toNatClampNeg then (nar .byte ((((g ((0 : Int32) : Int32).toNatClampNeg)) ^^^ (-1 : Int32)).toInt8.toInt32)) else (g ((1 : Int32) : Int32).toNatClampNeg))) ^^^ (-1 : Int32)).toInt8.toInt32)) else (if ((2 : Int32) : Int32).toNatClampNeg = ((0 : Int32) : Int32).toNatClampNeg then (nar .byte ((((g ((0 : Int32) : Int32).toNatClampNeg)) ^^^ (-1 : Int32)).toInt8.toInt32)) else (g ((2 : Int32) : Int32).toNatClampNeg)))) ^^^ (-1 : Int32)).toInt8.toInt32)) else (if ((3 : Int32) : Int32).toNatClampNeg = ((1 : Int32) : Int32).toNatClampNeg then (nar .byte ((((if ((1 : Int32) : Int32).toNatClampNeg = ((0 : Int32) : Int32).toNatClampNeg then (nar .byte ((((g ((0 : Int32) : Int32).toNatClampNeg)) ^^^ (-1 : Int32)).toInt8.toInt32)) else (g ((1 : Int32) : Int32).toNatClampNeg))) ^^^ (-1 : Int32)).toInt8.toInt32)) else (if ((3 : Int32) : Int32).toNatClampNeg = ((0 : Int32) : Int32).toNatClampNeg then (nar .byte ((((g ((0 : Int32) : Int32).toNatClampNeg)) ^^^ (-1 : Int32)).toInt8.toInt32)) else (g ((3 : Int32) : Int32).toNatClampNeg))))) ^^^ (-1 : Int32)).toInt8.toInt32)), (.int (3 : Int32)), (.ref o0)])) _
    refine st25 _ ?_
    show Steps p.tables e below (T25.setTop (mkF m 36 #[.val (.ref o0)] [])) _
    refine XS.aloadN X25.here hx rfl (hb hby d4_36) rfl rfl ?_
    show Steps p.tables e below (T25.setTop (mkF m 37 #[.val (.ref o0)] [(.ref o0)])) _
    refine XS.iconst X25.here hx rfl (hb hby d4_37) ?_
    show Steps p.tables e below (T25.setTop (mkF m 38 #[.val (.ref o0)] [(.int (4 : Int32)), (.ref o0)])) _
    refine XS.aloadN X25.here hx rfl (hb hby d4_38) rfl rfl ?_
    show Steps p.tables e below (T25.setTop (mkF m 39 #[.val (.ref o0)] [(.ref o0), (.int (4 : Int32)), (.ref o0)])) _
    refine XS.iconst X25.here hx rfl (hb hby d4_39) ?_
    show Steps p.tables e below (T25.setTop (mkF m 40 #[.val (.ref o0)] [(.int (4 : Int32)), (.ref o0), (.int (4 : Int32)), (.ref o0)])) _
    refine X25.baloadBytes hx (j := (4 : Int32)) (v := (.int ((if ((4 : Int32) : Int32).toNatClampNeg = ((3 : Int32) : Int32).toNatClampNeg then (nar .byte ((((if ((3 : Int32) : Int32).toNatClampNeg = ((2 : Int32) : Int32).toNatClampNeg then (nar .byte ((((if ((2 : Int32) : Int32).toNatClampNeg = ((1 : Int32) : Int32).toNatClampNeg then (nar .byte ((((if ((1 : Int32) : Int32).toNatClampNeg = ((0 : Int32) : Int32).toNatClampNeg then (nar .byte ((((g ((0 : Int32) : Int32).toNatClampNeg)) ^^^ (-1 : Int32)).toInt8.toInt32)) else (g ((1 : Int32) : Int32).toNatClampNeg))) ^^^ (-1 : Int32)).toInt8.toInt32)) else (if ((2 : Int32) : Int32).toNatClampNeg = ((0 : Int32) : Int32).toNatClampNeg then (nar .byte ((((g ((0 : Int32) : Int32).toNatClampNeg)) ^^^ (-1 : Int32)).toInt8.toInt32)) else (g ((2 : Int32) : Int32).toNatClampNeg)))) ^^^ (-1 : Int32)).toInt8.toInt32)) else (if ((3 : Int32) : Int32).toNatClampNeg = ((1 : Int32) : Int32).toNatClampNeg then (nar .byte ((((if ((1 : Int32) : Int32).toNatClampNeg = ((0 : Int32) : Int32).toNatClampNeg then (nar .byte ((((g ((0 : Int32) : Int32).toNatClampNeg)) ^^^ (-1 : Int32)).toInt8.toInt32)) else (g ((1 : Int32) : Int32).toNatClampNeg))) ^^^ (-1 : Int32)).toInt8.toInt32)) else (if ((3 : Int32) : Int32).toNatClampNeg = ((0 : Int32) : Int32).toNatClampNeg then (nar .byte ((((g ((0 : Int32) : Int32).toNatClampNeg)) ^^^ (-1 : Int32)).toInt8.toInt32)) else (g ((3 : Int32) : Int32).toNatClampNeg))))) ^^^ (-1 : Int32)).toInt8.toInt32)) else (if ((4 : Int32) : Int32).toNatClampNeg = ((2 : Int32) : Int32).toNatClampNeg then (nar .byte ((((if ((2 : Int32) : Int32).toNatClampNeg = ((1 : Int32) : Int32).toNatClampNeg then (nar .byte ((((if ((1 : Int32) : Int32).toNatClampNeg = ((0 : Int32) : Int32).toNatClampNeg then (nar .byte ((((g ((0 : Int32) : Int32).toNatClampNeg)) ^^^ (-1 : Int32)).toInt8.toInt32)) else (g ((1 : Int32) : Int32).toNatClampNeg))) ^^^ (-1 : Int32)).toInt8.toInt32)) else (if ((2 : Int32) : Int32).toNatClampNeg = ((0 : Int32) : Int32).toNatClampNeg then (nar .byte ((((g ((0 : Int32) : Int32).toNatClampNeg)) ^^^ (-1 : Int32)).toInt8.toInt32)) else (g ((2 : Int32) : Int32).toNatClampNeg)))) ^^^ (-1 : Int32)).toInt8.toInt32)) else (if ((4 : Int32) : Int32).toNatClampNeg = ((1 : Int32) : Int32).toNatClampNeg then (nar .byte ((((if ((1 : Int32) : Int32).toNatClampNeg = ((0 : Int32) : Int32).toNatClampNeg then (nar .byte ((((g ((0 : Int32) : Int32).toNatClampNeg)) ^^^ (-1 : Int32)).toInt8.toInt32)) else (g ((1 : Int32) : Int32).toNatClampNeg))) ^^^ (-1 : Int32)).toInt8.toInt32)) else (if ((4 : Int32) : Int32).toNatClampNeg = ((0 : Int32) : Int32).toNatClampNeg then (nar .byte ((((g ((0 : Int32) : Int32).toNatClampNeg)) ^^^ (-1 : Int32)).toInt8.toInt32)) else (g ((4 : Int32) : Int32).toNatClampNeg)))))))) (by rw [e25]; exact Ar29.1) (State.isArrayOf_alike hZ.alike Ar29.2.1) Ar29.2.2 (own_in Sz29 hi30) hl30 (g := (mkF m 40 #[.val (.ref o0)] [(.int (4 : Int32)), (.ref o0), (.int (4 : Int32)), (.ref o0)])) rfl rfl (hb hby d4_40) _ ?_
    show Steps p.tables e below (T25.setTop (mkF m 41 #[.val (.ref o0)] [(.int ((if ((4 : Int32) : Int32).toNatClampNeg = ((3 : Int32) : Int32).toNatClampNeg then (nar .byte ((((if ((3 : Int32) : Int32).toNatClampNeg = ((2 : Int32) : Int32).toNatClampNeg then (nar .byte ((((if ((2 : Int32) : Int32).toNatClampNeg = ((1 : Int32) : Int32).toNatClampNeg then (nar .byte ((((if ((1 : Int32) : Int32).toNatClampNeg = ((0 : Int32) : Int32).toNatClampNeg then (nar .byte ((((g ((0 : Int32) : Int32).toNatClampNeg)) ^^^ (-1 : Int32)).toInt8.toInt32)) else (g ((1 : Int32) : Int32).toNatClampNeg))) ^^^ (-1 : Int32)).toInt8.toInt32)) else (if ((2 : Int32) : Int32).toNatClampNeg = ((0 : Int32) : Int32).toNatClampNeg then (nar .byte ((((g ((0 : Int32) : Int32).toNatClampNeg)) ^^^ (-1 : Int32)).toInt8.toInt32)) else (g ((2 : Int32) : Int32).toNatClampNeg)))) ^^^ (-1 : Int32)).toInt8.toInt32)) else (if ((3 : Int32) : Int32).toNatClampNeg = ((1 : Int32) : Int32).toNatClampNeg then (nar .byte ((((if ((1 : Int32) : Int32).toNatClampNeg = ((0 : Int32) : Int32).toNatClampNeg then (nar .byte ((((g ((0 : Int32) : Int32).toNatClampNeg)) ^^^ (-1 : Int32)).toInt8.toInt32)) else (g ((1 : Int32) : Int32).toNatClampNeg))) ^^^ (-1 : Int32)).toInt8.toInt32)) else (if ((3 : Int32) : Int32).toNatClampNeg = ((0 : Int32) : Int32).toNatClampNeg then (nar .byte ((((g ((0 : Int32) : Int32).toNatClampNeg)) ^^^ (-1 : Int32)).toInt8.toInt32)) else (g ((3 : Int32) : Int32).toNatClampNeg))))) ^^^ (-1 : Int32)).toInt8.toInt32)) else (if ((4 : Int32) : Int32).toNatClampNeg = ((2 : Int32) : Int32).toNatClampNeg then (nar .byte ((((if ((2 : Int32) : Int32).toNatClampNeg = ((1 : Int32) : Int32).toNatClampNeg then (nar .byte ((((if ((1 : Int32) : Int32).toNatClampNeg = ((0 : Int32) : Int32).toNatClampNeg then (nar .byte ((((g ((0 : Int32) : Int32).toNatClampNeg)) ^^^ (-1 : Int32)).toInt8.toInt32)) else (g ((1 : Int32) : Int32).toNatClampNeg))) ^^^ (-1 : Int32)).toInt8.toInt32)) else (if ((2 : Int32) : Int32).toNatClampNeg = ((0 : Int32) : Int32).toNatClampNeg then (nar .byte ((((g ((0 : Int32) : Int32).toNatClampNeg)) ^^^ (-1 : Int32)).toInt8.toInt32)) else (g ((2 : Int32) : Int32).toNatClampNeg)))) ^^^ (-1 : Int32)).toInt8.toInt32)) else (if ((4 : Int32) : Int32).toNatClampNeg = ((1 : Int32) : Int32).toNatClampNeg then (nar .byte ((((if ((1 : Int32) : Int32).toNatClampNeg = ((0 : Int32) : Int32).toNatClampNeg then (nar .byte ((((g ((0 : Int32) : Int32).toNatClampNeg)) ^^^ (-1 : Int32)).toInt8.toInt32)) else (g ((1 : Int32) : Int32).toNatClampNeg))) ^^^ (-1 : Int32)).toInt8.toInt32)) else (if ((4 : Int32) : Int32).toNatClampNeg = ((0 : Int32) : Int32).toNatClampNeg then (nar .byte ((((g ((0 : Int32) : Int32).toNatClampNeg)) ^^^ (-1 : Int32)).toInt8.toInt32)) else (g ((4 : Int32) : Int32).toNatClampNeg))))))), (.int (4 : Int32)), (.ref o0)])) _
    refine XS.iconst X25.here hx rfl (hb hby d4_41) ?_
    show Steps p.tables e below (T25.setTop (mkF m 42 #[.val (.ref o0)] [(.int (-1 : Int32)), (.int ((if ((4 : Int32) : Int32).toNatClampNeg = ((3 : Int32) : Int32).toNatClampNeg then (nar .byte ((((if ((3 : Int32) : Int32).toNatClampNeg = ((2 : Int32) : Int32).toNatClampNeg then (nar .byte ((((if ((2 : Int32) : Int32).toNatClampNeg = ((1 : Int32) : Int32).toNatClampNeg then (nar .byte ((((if ((1 : Int32) : Int32).toNatClampNeg = ((0 : Int32) : Int32).toNatClampNeg then (nar .byte ((((g ((0 : Int32) : Int32).toNatClampNeg)) ^^^ (-1 : Int32)).toInt8.toInt32)) else (g ((1 : Int32) : Int32).toNatClampNeg))) ^^^ (-1 : Int32)).toInt8.toInt32)) else (if ((2 : Int32) : Int32).toNatClampNeg = ((0 : Int32) : Int32).toNatClampNeg then (nar .byte ((((g ((0 : Int32) : Int32).toNatClampNeg)) ^^^ (-1 : Int32)).toInt8.toInt32)) else (g ((2 : Int32) : Int32).toNatClampNeg)))) ^^^ (-1 : Int32)).toInt8.toInt32)) else (if ((3 : Int32) : Int32).toNatClampNeg = ((1 : Int32) : Int32).toNatClampNeg then (nar .byte ((((if ((1 : Int32) : Int32).toNatClampNeg = ((0 : Int32) : Int32).toNatClampNeg then (nar .byte ((((g ((0 : Int32) : Int32).toNatClampNeg)) ^^^ (-1 : Int32)).toInt8.toInt32)) else (g ((1 : Int32) : Int32).toNatClampNeg))) ^^^ (-1 : Int32)).toInt8.toInt32)) else (if ((3 : Int32) : Int32).toNatClampNeg = ((0 : Int32) : Int32).toNatClampNeg then (nar .byte ((((g ((0 : Int32) : Int32).toNatClampNeg)) ^^^ (-1 : Int32)).toInt8.toInt32)) else (g ((3 : Int32) : Int32).toNatClampNeg))))) ^^^ (-1 : Int32)).toInt8.toInt32)) else (if ((4 : Int32) : Int32).toNatClampNeg = ((2 : Int32) : Int32).toNatClampNeg then (nar .byte ((((if ((2 : Int32) : Int32).toNatClampNeg = ((1 : Int32) : Int32).toNatClampNeg then (nar .byte ((((if ((1 : Int32) : Int32).toNatClampNeg = ((0 : Int32) : Int32).toNatClampNeg then (nar .byte ((((g ((0 : Int32) : Int32).toNatClampNeg)) ^^^ (-1 : Int32)).toInt8.toInt32)) else (g ((1 : Int32) : Int32).toNatClampNeg))) ^^^ (-1 : Int32)).toInt8.toInt32)) else (if ((2 : Int32) : Int32).toNatClampNeg = ((0 : Int32) : Int32).toNatClampNeg then (nar .byte ((((g ((0 : Int32) : Int32).toNatClampNeg)) ^^^ (-1 : Int32)).toInt8.toInt32)) else (g ((2 : Int32) : Int32).toNatClampNeg)))) ^^^ (-1 : Int32)).toInt8.toInt32)) else (if ((4 : Int32) : Int32).toNatClampNeg = ((1 : Int32) : Int32).toNatClampNeg then (nar .byte ((((if ((1 : Int32) : Int32).toNatClampNeg = ((0 : Int32) : Int32).toNatClampNeg then (nar .byte ((((g ((0 : Int32) : Int32).toNatClampNeg)) ^^^ (-1 : Int32)).toInt8.toInt32)) else (g ((1 : Int32) : Int32).toNatClampNeg))) ^^^ (-1 : Int32)).toInt8.toInt32)) else (if ((4 : Int32) : Int32).toNatClampNeg = ((0 : Int32) : Int32).toNatClampNeg then (nar .byte ((((g ((0 : Int32) : Int32).toNatClampNeg)) ^^^ (-1 : Int32)).toInt8.toInt32)) else (g ((4 : Int32) : Int32).toNatClampNeg))))))), (.int (4 : Int32)), (.ref o0)])) _
    refine XS.ixor X25.here hx rfl (hb hby d4_42) rfl ?_
    show Steps p.tables e below (T25.setTop (mkF m 43 #[.val (.ref o0)] [(.int (((if ((4 : Int32) : Int32).toNatClampNeg = ((3 : Int32) : Int32).toNatClampNeg then (nar .byte ((((if ((3 : Int32) : Int32).toNatClampNeg = ((2 : Int32) : Int32).toNatClampNeg then (nar .byte ((((if ((2 : Int32) : Int32).toNatClampNeg = ((1 : Int32) : Int32).toNatClampNeg then (nar .byte ((((if ((1 : Int32) : Int32).toNatClampNeg = ((0 : Int32) : Int32).toNatClampNeg then (nar .byte ((((g ((0 : Int32) : Int32).toNatClampNeg)) ^^^ (-1 : Int32)).toInt8.toInt32)) else (g ((1 : Int32) : Int32).toNatClampNeg))) ^^^ (-1 : Int32)).toInt8.toInt32)) else (if ((2 : Int32) : Int32).toNatClampNeg = ((0 : Int32) : Int32).toNatClampNeg then (nar .byte ((((g ((0 : Int32) : Int32).toNatClampNeg)) ^^^ (-1 : Int32)).toInt8.toInt32)) else (g ((2 : Int32) : Int32).toNatClampNeg)))) ^^^ (-1 : Int32)).toInt8.toInt32)) else (if ((3 : Int32) : Int32).toNatClampNeg = ((1 : Int32) : Int32).toNatClampNeg then (nar .byte ((((if ((1 : Int32) : Int32).toNatClampNeg = ((0 : Int32) : Int32).toNatClampNeg then (nar .byte ((((g ((0 : Int32) : Int32).toNatClampNeg)) ^^^ (-1 : Int32)).toInt8.toInt32)) else (g ((1 : Int32) : Int32).toNatClampNeg))) ^^^ (-1 : Int32)).toInt8.toInt32)) else (if ((3 : Int32) : Int32).toNatClampNeg = ((0 : Int32) : Int32).toNatClampNeg then (nar .byte ((((g ((0 : Int32) : Int32).toNatClampNeg)) ^^^ (-1 : Int32)).toInt8.toInt32)) else (g ((3 : Int32) : Int32).toNatClampNeg))))) ^^^ (-1 : Int32)).toInt8.toInt32)) else (if ((4 : Int32) : Int32).toNatClampNeg = ((2 : Int32) : Int32).toNatClampNeg then (nar .byte ((((if ((2 : Int32) : Int32).toNatClampNeg = ((1 : Int32) : Int32).toNatClampNeg then (nar .byte ((((if ((1 : Int32) : Int32).toNatClampNeg = ((0 : Int32) : Int32).toNatClampNeg then (nar .byte ((((g ((0 : Int32) : Int32).toNatClampNeg)) ^^^ (-1 : Int32)).toInt8.toInt32)) else (g ((1 : Int32) : Int32).toNatClampNeg))) ^^^ (-1 : Int32)).toInt8.toInt32)) else (if ((2 : Int32) : Int32).toNatClampNeg = ((0 : Int32) : Int32).toNatClampNeg then (nar .byte ((((g ((0 : Int32) : Int32).toNatClampNeg)) ^^^ (-1 : Int32)).toInt8.toInt32)) else (g ((2 : Int32) : Int32).toNatClampNeg)))) ^^^ (-1 : Int32)).toInt8.toInt32)) else (if ((4 : Int32) : Int32).toNatClampNeg = ((1 : Int32) : Int32).toNatClampNeg then (nar .byte ((((if ((1 : Int32) : Int32).toNatClampNeg = ((0 : Int32) : Int32).toNatClampNeg then (nar .byte ((((g ((0 : Int32) : Int32).toNatClampNeg)) ^^^ (-1 : Int32)).toInt8.toInt32)) else (g ((1 : Int32) : Int32).toNatClampNeg))) ^^^ (-1 : Int32)).toInt8.toInt32)) else (if ((4 : Int32) : Int32).toNatClampNeg = ((0 : Int32) : Int32).toNatClampNeg then (nar .byte ((((g ((0 : Int32) : Int32).toNatClampNeg)) ^^^ (-1 : Int32)).toInt8.toInt32)) else (g ((4 : Int32) : Int32).toNatClampNeg)))))) ^^^ (-1 : Int32))), (.int (4 : Int32)), (.ref o0)])) _
    refine XS.i2b X25.here hx rfl (hb hby d4_43) rfl ?_
    show Steps p.tables e below (T25.setTop (mkF m 44 #[.val (.ref o0)] [(.int ((((if ((4 : Int32) : Int32).toNatClampNeg = ((3 : Int32) : Int32).toNatClampNeg then (nar .byte ((((if ((3 : Int32) : Int32).toNatClampNeg = ((2 : Int32) : Int32).toNatClampNeg then (nar .byte ((((if ((2 : Int32) : Int32).toNatClampNeg = ((1 : Int32) : Int32).toNatClampNeg then (nar .byte ((((if ((1 : Int32) : Int32).toNatClampNeg = ((0 : Int32) : Int32).toNatClampNeg then (nar .byte ((((g ((0 : Int32) : Int32).toNatClampNeg)) ^^^ (-1 : Int32)).toInt8.toInt32)) else (g ((1 : Int32) : Int32).toNatClampNeg))) ^^^ (-1 : Int32)).toInt8.toInt32)) else (if ((2 : Int32) : Int32).toNatClampNeg = ((0 : Int32) : Int32).toNatClampNeg then (nar .byte ((((g ((0 : Int32) : Int32).toNatClampNeg)) ^^^ (-1 : Int32)).toInt8.toInt32)) else (g ((2 : Int32) : Int32).toNatClampNeg)))) ^^^ (-1 : Int32)).toInt8.toInt32)) else (if ((3 : Int32) : Int32).toNatClampNeg = ((1 : Int32) : Int32).toNatClampNeg then (nar .byte ((((if ((1 : Int32) : Int32).toNatClampNeg = ((0 : Int32) : Int32).toNatClampNeg then (nar .byte ((((g ((0 : Int32) : Int32).toNatClampNeg)) ^^^ (-1 : Int32)).toInt8.toInt32)) else (g ((1 : Int32) : Int32).toNatClampNeg))) ^^^ (-1 : Int32)).toInt8.toInt32)) else (if ((3 : Int32) : Int32).toNatClampNeg = ((0 : Int32) : Int32).toNatClampNeg then (nar .byte ((((g ((0 : Int32) : Int32).toNatClampNeg)) ^^^ (-1 : Int32)).toInt8.toInt32)) else (g ((3 : Int32) : Int32).toNatClampNeg))))) ^^^ (-1 : Int32)).toInt8.toInt32)) else (if ((4 : Int32) : Int32).toNatClampNeg = ((2 : Int32) : Int32).toNatClampNeg then (nar .byte ((((if ((2 : Int32) : Int32).toNatClampNeg = ((1 : Int32) : Int32).toNatClampNeg then (nar .byte ((((if ((1 : Int32) : Int32).toNatClampNeg = ((0 : Int32) : Int32).toNatClampNeg then (nar .byte ((((g ((0 : Int32) : Int32).toNatClampNeg)) ^^^ (-1 : Int32)).toInt8.toInt32)) else (g ((1 : Int32) : Int32).toNatClampNeg))) ^^^ (-1 : Int32)).toInt8.toInt32)) else (if ((2 : Int32) : Int32).toNatClampNeg = ((0 : Int32) : Int32).toNatClampNeg then (nar .byte ((((g ((0 : Int32) : Int32).toNatClampNeg)) ^^^ (-1 : Int32)).toInt8.toInt32)) else (g ((2 : Int32) : Int32).toNatClampNeg)))) ^^^ (-1 : Int32)).toInt8.toInt32)) else (if ((4 : Int32) : Int32).toNatClampNeg = ((1 : Int32) : Int32).toNatClampNeg then (nar .byte ((((if ((1 : Int32) : Int32).toNatClampNeg = ((0 : Int32) : Int32).toNatClampNeg then (nar .byte ((((g ((0 : Int32) : Int32).toNatClampNeg)) ^^^ (-1 : Int32)).toInt8.toInt32)) else (g ((1 : Int32) : Int32).toNatClampNeg))) ^^^ (-1 : Int32)).toInt8.toInt32)) else (if ((4 : Int32) : Int32).toNatClampNeg = ((0 : Int32) : Int32).toNatClampNeg then (nar .byte ((((g ((0 : Int32) : Int32).toNatClampNeg)) ^^^ (-1 : Int32)).toInt8.toInt32)) else (g ((4 : Int32) : Int32).toNatClampNeg)))))) ^^^ (-1 : Int32)).toInt8.toInt32)), (.int (4 : Int32)), (.ref o0)])) _
    refine st32 _ ?_
    show Steps p.tables e below (T32.setTop (mkF m 45 #[.val (.ref o0)] [])) _
    refine XS.aloadN X32.here hx rfl (hb hby d4_45) rfl rfl ?_
    show Steps p.tables e below (T32.setTop (mkF m 46 #[.val (.ref o0)] [(.ref o0)])) _
    refine XS.iconst X32.here hx rfl (hb hby d4_46) ?_
    show Steps p.tables e below (T32.setTop (mkF m 47 #[.val (.ref o0)] [(.int (5 : Int32)), (.ref o0)])) _
    refine XS.aloadN X32.here hx rfl (hb hby d4_47) rfl rfl ?_
    show Steps p.tables e below (T32.setTop (mkF m 48 #[.val (.ref o0)] [(.ref o0), (.int (5 : Int32)), (.ref o0)])) _
    refine XS.iconst X32.here hx rfl (hb hby d4_48) ?_
    show Steps p.tables e below (T32.setTop (mkF m 49 #[.val (.ref o0)] [(.int (5 : Int32)), (.ref o0), (.int (5 : Int32)), (.ref o0)])) _
    refine X32.baloadBytes hx (j := (5 : Int32)) (v := (.int ((if ((5 : Int32) : Int32).toNatClampNeg = ((4 : Int32) : Int32).toNatClampNeg then (nar .byte ((((if ((4 : Int32) : Int32).toNatClampNeg = ((3 : Int32) : Int32).toNatClampNeg then (nar .byte ((((if ((3 : Int32) : Int32).toNatClampNeg = ((2 : Int32) : Int32).toNatClampNeg then (nar .byte ((((if ((2 : Int32) : Int32).toNatClampNeg = ((1 : Int32) : Int32).toNatClampNeg then (nar .byte ((((if ((1 : Int32) : Int32).toNatClampNeg = ((0 : Int32) : Int32).toNatClampNeg then (nar .byte ((((g ((0 : Int32) : Int32).toNatClampNeg)) ^^^ (-1 : Int32)).toInt8.toInt32)) else (g ((1 : Int32) : Int32).toNatClampNeg))) ^^^ (-1 : Int32)).toInt8.toInt32)) else (if ((2 : Int32) : Int32).toNatClampNeg = ((0 : Int32) : Int32).toNatClampNeg then (nar .byte ((((g ((0 : Int32) : Int32).toNatClampNeg)) ^^^ (-1 : Int32)).toInt8.toInt32)) else (g ((2 : Int32) : Int32).toNatClampNeg)))) ^^^ (-1 : Int32)).toInt8.toInt32)) else (if ((3 : Int32) : Int32).toNatClampNeg = ((1 : Int32) : Int32).toNatClampNeg then (nar .byte ((((if ((1 : Int32) : Int32).toNatClampNeg = ((0 : Int32) : Int32).toNatClampNeg then (nar .byte ((((g ((0 : Int32) : Int32).toNatClampNeg)) ^^^ (-1 : Int32)).toInt8.toInt32)) else (g ((1 : Int32) : Int32).toNatClampNeg))) ^^^ (-1 : Int32)).toInt8.toInt32)) else (if ((3 : Int32) : Int32).toNatClampNeg = ((0 : Int32) : Int32).toNatClampNeg then (nar .byte ((((g ((0 : Int32) : Int32).toNatClampNeg)) ^^^ (-1 : Int32)).toInt8.toInt32)) else (g ((3 : Int32) : Int32).toNatClampNeg))))) ^^^ (-1 : Int32)).toInt8.toInt32)) else (if ((4 : Int32) : Int32).toNatClampNeg = ((2 : Int32) : Int32).toNatClampNeg then (nar .byte ((((if ((2 : Int32) : Int32).toNatClampNeg = ((1 : Int32) : Int32).toNatClampNeg then (nar .byte ((((if ((1 : Int32) : Int32).toNatClampNeg = ((0 : Int32) : Int32).toNatClampNeg then (nar .byte ((((g ((0 : Int32) : Int32).toNatClampNeg)) ^^^ (-1 : Int32)).toInt8.toInt32)) else (g ((1 : Int32) : Int32).toNatClampNeg))) ^^^ (-1 : Int32)).toInt8.toInt32)) else (if ((2 : Int32) : Int32).toNatClampNeg = ((0 : Int32) : Int32).toNatClampNeg then (nar .byte ((((g ((0 : Int32) : Int32).toNatClampNeg)) ^^^ (-1 : Int32)).toInt8.toInt32)) else (g ((2 : Int32) : Int32).toNatClampNeg)))) ^^^ (-1 : Int32)).toInt8.toInt32)) else (if ((4 : Int32) : Int32).toNatClampNeg = ((1 : Int32) : Int32).toNatClampNeg then (nar .byte ((((if ((1 : Int32) : Int32).toNatClampNeg = ((0 : Int32) : Int32).toNatClampNeg then (nar .byte ((((g ((0 : Int32) : Int32).toNatClampNeg)) ^^^ (-1 : Int32)).toInt8.toInt32)) else (g ((1 : Int32) : Int32).toNatClampNeg))) ^^^ (-1 : Int32)).toInt8.toInt32)) else (if ((4 : Int32) : Int32).toNatClampNeg = ((0 : Int32) : Int32).toNatClampNeg then (nar .byte ((((g ((0 : Int32) : Int32).toNatClampNeg)) ^^^ (-1 : Int32)).toInt8.toInt32)) else (g ((4 : Int32) : Int32).toNatClampNeg)))))) ^^^ (-1 : Int32)).toInt8.toInt32)) else (if ((5 : Int32) : Int32).toNatClampNeg = ((3 : Int32) : Int32).toNatClampNeg then (nar .byte ((((if ((3 : Int32) : Int32).toNatClampNeg = ((2 : Int32) : Int32).toNatClampNeg then (nar .byte ((((if ((2 : Int32) : Int32).toNatClampNeg = ((1 : Int32) : Int32).toNatClampNeg then (nar .byte ((((if ((1 : Int32) : Int32).toNatClampNeg = ((0 : Int32) : Int32).toNatClampNeg then (nar .byte ((((g ((0 : Int32) : Int32).toNatClampNeg)) ^^^ (-1 : Int32)).toInt8.toInt32)) else (g ((1 : Int32) : Int32).toNatClampNeg))) ^^^ (-1 : Int32)).toInt8.toInt32)) else (if ((2 : Int32) : Int32).toNatClampNeg = ((0 : Int32) : Int32).toNatClampNeg then (nar .byte ((((g ((0 : Int32) : Int32).toNatClampNeg)) ^^^ (-1 : Int32)).toInt8.toInt32)) else (g ((2 : Int32) : Int32).toNatClampNeg)))) ^^^ (-1 : Int32)).toInt8.toInt32)) else (if ((3 : Int32) : Int32).toNatClampNeg = ((1 : Int32) : Int32).toNatClampNeg then (nar .byte ((((if ((1 : Int32) : Int32).toNatClampNeg = ((0 : Int32) : Int32).toNatClampNeg then (nar .byte ((((g ((0 : Int32) : Int32).toNatClampNeg)) ^^^ (-1 : Int32)).toInt8.toInt32)) else (g ((1 : Int32) : Int32).toNatClampNeg))) ^^^ (-1 : Int32)).toInt8.toInt32)) else (if ((3 : Int32) : Int32).toNatClampNeg = ((0 : Int32) : Int32).toNatClampNeg then (nar .byte ((((g ((0 : Int32) : Int32).toNatClampNeg)) ^^^ (-1 : Int32)).toInt8.toInt32)) else (g ((3 : Int32) : Int32).toNatClampNeg))))) ^^^ (-1 : Int32)).toInt8.toInt32)) else (if ((5 : Int32) : Int32).toNatClampNeg = ((2 : Int32) : Int32).toNatClampNeg then (nar .byte ((((if ((2 : Int32) : Int32).toNatClampNeg = ((1 : Int32) : Int32).toNatClampNeg then (nar .byte ((((if ((1 : Int32) : Int32).toNatClampNeg = ((0 : Int32) : Int32).toNatClampNeg then (nar .byte ((((g ((0 : Int32) : Int32).toNatClampNeg)) ^^^ (-1 : Int32)).toInt8.toInt32)) else (g ((1 : Int32) : Int32).toNatClampNeg))) ^^^ (-1 : Int32)).toInt8.toInt32)) else (if ((2 : Int32) : Int32).toNatClampNeg = ((0 : Int32) : Int32).toNatClampNeg then (nar .byte ((((g ((0 : Int32) : Int32).toNatClampNeg)) ^^^ (-1 : Int32)).toInt8.toInt32)) else (g ((2 : Int32) : Int32).toNatClampNeg)))) ^^^ (-1 : Int32)).toInt8.toInt32)) else (if ((5 : Int32) : Int32).toNatClampNeg = ((1 : Int32) : Int32).toNatClampNeg then (nar .byte ((((if ((1 : Int32) : Int32).toNatClampNeg = ((0 : Int32) : Int32).toNatClampNeg then (nar .byte ((((g ((0 : Int32) : Int32).toNatClampNeg)) ^^^ (-1 : Int32)).toInt8.toInt32)) else (g ((1 : Int32) : Int32).toNatClampNeg))) ^^^ (-1 : Int32)).toInt8.toInt32)) else (if ((5 : Int32) : Int32).toNatClampNeg = ((0 : Int32) : Int32).toNatClampNeg then (nar .byte ((((g ((0 : Int32) : Int32).toNatClampNeg)) ^^^ (-1 : Int32)).toInt8.toInt32)) else (g ((5 : Int32) : Int32).toNatClampNeg))))))))) (by rw [e32]; exact Ar36.1) (State.isArrayOf_alike hZ.alike Ar36.2.1) Ar36.2.2 (own_in Sz36 hi37) hl37 (g := (mkF m 49 #[.val (.ref o0)] [(.int (5 : Int32)), (.ref o0), (.int (5 : Int32)), (.ref o0)])) rfl rfl (hb hby d4_49) _ ?_
    show Steps p.tables e below (T32.setTop (mkF m 50 #[.val (.ref o0)] [(.int ((if ((5 : Int32) : Int32).toNatClampNeg = ((4 : Int32) : Int32).toNatClampNeg then (nar .byte ((((if ((4 : Int32) : Int32).toNatClampNeg = ((3 : Int32) : Int32).toNatClampNeg then (nar .byte ((((if ((3 : Int32) : Int32).toNatClampNeg = ((2 : Int32) : Int32).toNatClampNeg then (nar .byte ((((if ((2 : Int32) : Int32).toNatClampNeg = ((1 : Int32) : Int32).toNatClampNeg then (nar .byte ((((if ((1 : Int32) : Int32).toNatClampNeg = ((0 : Int32) : Int32).toNatClampNeg then (nar .byte ((((g ((0 : Int32) : Int32).toNatClampNeg)) ^^^ (-1 : Int32)).toInt8.toInt32)) else (g ((1 : Int32) : Int32).toNatClampNeg))) ^^^ (-1 : Int32)).toInt8.toInt32)) else (if ((2 : Int32) : Int32).toNatClampNeg = ((0 : Int32) : Int32).toNatClampNeg then (nar .byte ((((g ((0 : Int32) : Int32).toNatClampNeg)) ^^^ (-1 : Int32)).toInt8.toInt32)) else (g ((2 : Int32) : Int32).toNatClampNeg)))) ^^^ (-1 : Int32)).toInt8.toInt32)) else (if ((3 : Int32) : Int32).toNatClampNeg = ((1 : Int32) : Int32).toNatClampNeg then (nar .byte ((((if ((1 : Int32) : Int32).toNatClampNeg = ((0 : Int32) : Int32).toNatClampNeg then (nar .byte ((((g ((0 : Int32) : Int32).toNatClampNeg)) ^^^ (-1 : Int32)).toInt8.toInt32)) else (g ((1 : Int32) : Int32).toNatClampNeg))) ^^^ (-1 : Int32)).toInt8.toInt32)) else (if ((3 : Int32) : Int32).toNatClampNeg = ((0 : Int32) : Int32).toNatClampNeg then (nar .byte ((((g ((0 : Int32) : Int32).toNatClampNeg)) ^^^ (-1 : Int32)).toInt8.toInt32)) else (g ((3 : Int32) : Int32).toNatClampNeg))))) ^^^ (-1 : Int32)).toInt8.toInt32)) else (if ((4 : Int32) : Int32).toNatClampNeg = ((2 : Int32) : Int32).toNatClampNeg then (nar .byte ((((if ((2 : Int32) : Int32).toNatClampNeg = ((1 : Int32) : Int32).toNatClampNeg then (nar .byte ((((if ((1 : Int32) : Int32).toNatClampNeg = ((0 : Int32) : Int32).toNatClampNeg then (nar .byte ((((g ((0 : Int32) : Int32).toNatClampNeg)) ^^^ (-1 : Int32)).toInt8.toInt32)) else (g ((1 : Int32) : Int32).toNatClampNeg))) ^^^ (-1 : Int32)).toInt8.toInt32)) else (if ((2 : Int32) : Int32).toNatClampNeg = ((0 : Int32) : Int32).toNatClampNeg then (nar .byte ((((g ((0 : Int32) : Int32).toNatClampNeg)) ^^^ (-1 : Int32)).toInt8.toInt32)) else (g ((2 : Int32) : Int32).toNatClampNeg)))) ^^^ (-1 : Int32)).toInt8.toInt32)) else (if ((4 : Int32) : Int32).toNatClampNeg = ((1 : Int32) : Int32).toNatClampNeg then (nar .byte ((((if ((1 : Int32) : Int32).toNatClampNeg = ((0 : Int32) : Int32).toNatClampNeg then (nar .byte ((((g ((0 : Int32) : Int32).toNatClampNeg)) ^^^ (-1 : Int32)).toInt8.toInt32)) else (g ((1 : Int32) : Int32).toNatClampNeg))) ^^^ (-1 : Int32)).toInt8.toInt32)) else (if ((4 : Int32) : Int32).toNatClampNeg = ((0 : Int32) : Int32).toNatClampNeg then (nar .byte ((((g ((0 : Int32) : Int32).toNatClampNeg)) ^^^ (-1 : Int32)).toInt8.toInt32)) else (g ((4 : Int32) : Int32).toNatClampNeg)))))) ^^^ (-1 : Int32)).toInt8.toInt32)) else (if ((5 : Int32) : Int32).toNatClampNeg = ((3 : Int32) : Int32).toNatClampNeg then (nar .byte ((((if ((3 : Int32) : Int32).toNatClampNeg = ((2 : Int32) : Int32).toNatClampNeg then (nar .byte ((((if ((2 : Int32) : Int32).toNatClampNeg = ((1 : Int32) : Int32).toNatClampNeg then (nar .byte ((((if ((1 : Int32) : Int32).toNatClampNeg = ((0 : Int32) : Int32).toNatClampNeg then (nar .byte ((((g ((0 : Int32) : Int32).toNatClampNeg)) ^^^ (-1 : Int32)).toInt8.toInt32)) else (g ((1 : Int32) : Int32).toNatClampNeg))) ^^^ (-1 : Int32)).toInt8.toInt32)) else (if ((2 : Int32) : Int32).toNatClampNeg = ((0 : Int32) : Int32).toNatClampNeg then (nar .byte ((((g ((0 : Int32) : Int32).toNatClampNeg)) ^^^ (-1 : Int32)).toInt8.toInt32)) else (g ((2 : Int32) : Int32).toNatClampNeg)))) ^^^ (-1 : Int32)).toInt8.toInt32)) else (if ((3 : Int32) : Int32).toNatClampNeg = ((1 : Int32) : Int32).toNatClampNeg then (nar .byte ((((if ((1 : Int32) : Int32).toNatClampNeg = ((0 : Int32) : Int32).toNatClampNeg then (nar .byte ((((g ((0 : Int32) : Int32).toNatClampNeg)) ^^^ (-1 : Int32)).toInt8.toInt32)) else (g ((1 : Int32) : Int32).toNatClampNeg))) ^^^ (-1 : Int32)).toInt8.toInt32)) else (if ((3 : Int32) : Int32).toNatClampNeg = ((0 : Int32) : Int32).toNatClampNeg then (nar .byte ((((g ((0 : Int32) : Int32).toNatClampNeg)) ^^^ (-1 : Int32)).toInt8.toInt32)) else (g ((3 : Int32) : Int32).toNatClampNeg))))) ^^^ (-1 : Int32)).toInt8.toInt32)) else (if ((5 : Int32) : Int32).toNatClampNeg = ((2 : Int32) : Int32).toNatClampNeg then (nar .byte ((((if ((2 : Int32) : Int32).toNatClampNeg = ((1 : Int32) : Int32).toNatClampNeg then (nar .byte ((((if ((1 : Int32) : Int32).toNatClampNeg = ((0 : Int32) : Int32).toNatClampNeg then (nar .byte ((((g ((0 : Int32) : Int32).toNatClampNeg)) ^^^ (-1 : Int32)).toInt8.toInt32)) else (g ((1 : Int32) : Int32).toNatClampNeg))) ^^^ (-1 : Int32)).toInt8.toInt32)) else (if ((2 : Int32) : Int32).toNatClampNeg = ((0 : Int32) : Int32).toNatClampNeg then (nar .byte ((((g ((0 : Int32) : Int32).toNatClampNeg)) ^^^ (-1 : Int32)).toInt8.toInt32)) else (g ((2 : Int32) : Int32).toNatClampNeg)))) ^^^ (-1 : Int32)).toInt8.toInt32)) else (if ((5 : Int32) : Int32).toNatClampNeg = ((1 : Int32) : Int32).toNatClampNeg then (nar .byte ((((if ((1 : Int32) : Int32).toNatClampNeg = ((0 : Int32) : Int32).toNatClampNeg then (nar .byte ((((g ((0 : Int32) : Int32).toNatClampNeg)) ^^^ (-1 : Int32)).toInt8.toInt32)) else (g ((1 : Int32) : Int32).toNatClampNeg))) ^^^ (-1 : Int32)).toInt8.toInt32)) else (if ((5 : Int32) : Int32).toNatClampNeg = ((0 : Int32) : Int32).toNatClampNeg then (nar .byte ((((g ((0 : Int32) : Int32).toNatClampNeg)) ^^^ (-1 : Int32)).toInt8.toInt32)) else (g ((5 : Int32) : Int32).toNatClampNeg)))))))), (.int (5 : Int32)), (.ref o0)])) _
    refine XS.iconst X32.here hx rfl (hb hby d4_50) ?_
    show Steps p.tables e below (T32.setTop (mkF m 51 #[.val (.ref o0)] [(.int (-1 : Int32)), (.int ((if ((5 : Int32) : Int32).toNatClampNeg = ((4 : Int32) : Int32).toNatClampNeg then (nar .byte ((((if ((4 : Int32) : Int32).toNatClampNeg = ((3 : Int32) : Int32).toNatClampNeg then (nar .byte ((((if ((3 : Int32) : Int32).toNatClampNeg = ((2 : Int32) : Int32).toNatClampNeg then (nar .byte ((((if ((2 : Int32) : Int32).toNatClampNeg = ((1 : Int32) : Int32).toNatClampNeg then (nar .byte ((((if ((1 : Int32) : Int32).toNatClampNeg = ((0 : Int32) : Int32).toNatClampNeg then (nar .byte ((((g ((0 : Int32) : Int32).toNatClampNeg)) ^^^ (-1 : Int32)).toInt8.toInt32)) else (g ((1 : Int32) : Int32).toNatClampNeg))) ^^^ (-1 : Int32)).toInt8.toInt32)) else (if ((2 : Int32) : Int32).toNatClampNeg = ((0 : Int32) : Int32).toNatClampNeg then (nar .byte ((((g ((0 : Int32) : Int32).toNatClampNeg)) ^^^ (-1 : Int32)).toInt8.toInt32)) else (g ((2 : Int32) : Int32).toNatClampNeg)))) ^^^ (-1 : Int32)).toInt8.toInt32)) else (if ((3 : Int32) : Int32).toNatClampNeg = ((1 : Int32) : Int32).toNatClampNeg then (nar .byte ((((if ((1 : Int32) : Int32).toNatClampNeg = ((0 : Int32) : Int32).toNatClampNeg then (nar .byte ((((g ((0 : Int32) : Int32).toNatClampNeg)) ^^^ (-1 : Int32)).toInt8.toInt32)) else (g ((1 : Int32) : Int32).toNatClampNeg))) ^^^ (-1 : Int32)).toInt8.toInt32)) else (if ((3 : Int32) : Int32).toNatClampNeg = ((0 : Int32) : Int32).toNatClampNeg then (nar .byte ((((g ((0 : Int32) : Int32).toNatClampNeg)) ^^^ (-1 : Int32)).toInt8.toInt32)) else (g ((3 : Int32) : Int32).toNatClampNeg))))) ^^^ (-1 : Int32)).toInt8.toInt32)) else (if ((4 : Int32) : Int32).toNatClampNeg = ((2 : Int32) : Int32).toNatClampNeg then (nar .byte ((((if ((2 : Int32) : Int32).toNatClampNeg = ((1 : Int32) : Int32).toNatClampNeg then (nar .byte ((((if ((1 : Int32) : Int32).toNatClampNeg = ((0 : Int32) : Int32).toNatClampNeg then (nar .byte ((((g ((0 : Int32) : Int32).toNatClampNeg)) ^^^ (-1 : Int32)).toInt8.toInt32)) else (g ((1 : Int32) : Int32).toNatClampNeg))) ^^^ (-1 : Int32)).toInt8.toInt32)) else (if ((2 : Int32) : Int32).toNatClampNeg = ((0 : Int32) : Int32).toNatClampNeg then (nar .byte ((((g ((0 : Int32) : Int32).toNatClampNeg)) ^^^ (-1 : Int32)).toInt8.toInt32)) else (g ((2 : Int32) : Int32).toNatClampNeg)))) ^^^ (-1 : Int32)).toInt8.toInt32)) else (if ((4 : Int32) : Int32).toNatClampNeg = ((1 : Int32) : Int32).toNatClampNeg then (nar .byte ((((if ((1 : Int32) : Int32).toNatClampNeg = ((0 : Int32) : Int32).toNatClampNeg then (nar .byte ((((g ((0 : Int32) : Int32).toNatClampNeg)) ^^^ (-1 : Int32)).toInt8.toInt32)) else (g ((1 : Int32) : Int32).toNatClampNeg))) ^^^ (-1 : Int32)).toInt8.toInt32)) else (if ((4 : Int32) : Int32).toNatClampNeg = ((0 : Int32) : Int32).toNatClampNeg then (nar .byte ((((g ((0 : Int32) : Int32).toNatClampNeg)) ^^^ (-1 : Int32)).toInt8.toInt32)) else (g ((4 : Int32) : Int32).toNatClampNeg)))))) ^^^ (-1 : Int32)).toInt8.toInt32)) else (if ((5 : Int32) : Int32).toNatClampNeg = ((3 : Int32) : Int32).toNatClampNeg then (nar .byte ((((if ((3 : Int32) : Int32).toNatClampNeg = ((2 : Int32) : Int32).toNatClampNeg then (nar .byte ((((if ((2 : Int32) : Int32).toNatClampNeg = ((1 : Int32) : Int32).toNatClampNeg then (nar .byte ((((if ((1 : Int32) : Int32).toNatClampNeg = ((0 : Int32) : Int32).toNatClampNeg then (nar .byte ((((g ((0 : Int32) : Int32).toNatClampNeg)) ^^^ (-1 : Int32)).toInt8.toInt32)) else (g ((1 : Int32) : Int32).toNatClampNeg))) ^^^ (-1 : Int32)).toInt8.toInt32)) else (if ((2 : Int32) : Int32).toNatClampNeg = ((0 : Int32) : Int32).toNatClampNeg then (nar .byte ((((g ((0 : Int32) : Int32).toNatClampNeg)) ^^^ (-1 : Int32)).toInt8.toInt32)) else (g ((2 : Int32) : Int32).toNatClampNeg)))) ^^^ (-1 : Int32)).toInt8.toInt32)) else (if ((3 : Int32) : Int32).toNatClampNeg = ((1 : Int32) : Int32).toNatClampNeg then (nar .byte ((((if ((1 : Int32) : Int32).toNatClampNeg = ((0 : Int32) : Int32).toNatClampNeg then (nar .byte ((((g ((0 : Int32) : Int32).toNatClampNeg)) ^^^ (-1 : Int32)).toInt8.toInt32)) else (g ((1 : Int32) : Int32).toNatClampNeg))) ^^^ (-1 : Int32)).toInt8.toInt32)) else (if ((3 : Int32) : Int32).toNatClampNeg = ((0 : Int32) : Int32).toNatClampNeg then (nar .byte ((((g ((0 : Int32) : Int32).toNatClampNeg)) ^^^ (-1 : Int32)).toInt8.toInt32)) else (g ((3 : Int32) : Int32).toNatClampNeg))))) ^^^ (-1 : Int32)).toInt8.toInt32)) else (if ((5 : Int32) : Int32).toNatClampNeg = ((2 : Int32) : Int32).toNatClampNeg then (nar .byte ((((if ((2 : Int32) : Int32).toNatClampNeg = ((1 : Int32) : Int32).toNatClampNeg then (nar .byte ((((if ((1 : Int32) : Int32).toNatClampNeg = ((0 : Int32) : Int32).toNatClampNeg then (nar .byte ((((g ((0 : Int32) : Int32).toNatClampNeg)) ^^^ (-1 : Int32)).toInt8.toInt32)) else (g ((1 : Int32) : Int32).toNatClampNeg))) ^^^ (-1 : Int32)).toInt8.toInt32)) else (if ((2 : Int32) : Int32).toNatClampNeg = ((0 : Int32) : Int32).toNatClampNeg then (nar .byte ((((g ((0 : Int32) : Int32).toNatClampNeg)) ^^^ (-1 : Int32)).toInt8.toInt32)) else (g ((2 : Int32) : Int32).toNatClampNeg)))) ^^^ (-1 : Int32)).toInt8.toInt32)) else (if ((5 : Int32) : Int32).toNatClampNeg = ((1 : Int32) : Int32).toNatClampNeg then (nar .byte ((((if ((1 : Int32) : Int32).toNatClampNeg = ((0 : Int32) : Int32).toNatClampNeg then (nar .byte ((((g ((0 : Int32) : Int32).toNatClampNeg)) ^^^ (-1 : Int32)).toInt8.toInt32)) else (g ((1 : Int32) : Int32).toNatClampNeg))) ^^^ (-1 : Int32)).toInt8.toInt32)) else (if ((5 : Int32) : Int32).toNatClampNeg = ((0 : Int32) : Int32).toNatClampNeg then (nar .byte ((((g ((0 : Int32) : Int32).toNatClampNeg)) ^^^ (-1 : Int32)).toInt8.toInt32)) else (g ((5 : Int32) : Int32).toNatClampNeg)))))))), (.int (5 : Int32)), (.ref o0)])) _
    refine XS.ixor X32.here hx rfl (hb hby d4_51) rfl ?_
    show Steps p.tables e below (T32.setTop (mkF m 52 #[.val (.ref o0)] [(.int (((if ((5 : Int32) : Int32).toNatClampNeg = ((4 : Int32) : Int32).toNatClampNeg then (nar .byte ((((if ((4 : Int32) : Int32).toNatClampNeg = ((3 : Int32) : Int32).toNatClampNeg then (nar .byte ((((if ((3 : Int32) : Int32).toNatClampNeg = ((2 : Int32) : Int32).toNatClampNeg then (nar .byte ((((if ((2 : Int32) : Int32).toNatClampNeg = ((1 : Int32) : Int32).toNatClampNeg then (nar .byte ((((if ((1 : Int32) : Int32).toNatClampNeg = ((0 : Int32) : Int32).toNatClampNeg then (nar .byte ((((g ((0 : Int32) : Int32).toNatClampNeg)) ^^^ (-1 : Int32)).toInt8.toInt32)) else (g ((1 : Int32) : Int32).toNatClampNeg))) ^^^ (-1 : Int32)).toInt8.toInt32)) else (if ((2 : Int32) : Int32).toNatClampNeg = ((0 : Int32) : Int32).toNatClampNeg then (nar .byte ((((g ((0 : Int32) : Int32).toNatClampNeg)) ^^^ (-1 : Int32)).toInt8.toInt32)) else (g ((2 : Int32) : Int32).toNatClampNeg)))) ^^^ (-1 : Int32)).toInt8.toInt32)) else (if ((3 : Int32) : Int32).toNatClampNeg = ((1 : Int32) : Int32).toNatClampNeg then (nar .byte ((((if ((1 : Int32) : Int32).toNatClampNeg = ((0 : Int32) : Int32).toNatClampNeg then (nar .byte ((((g ((0 : Int32) : Int32).toNatClampNeg)) ^^^ (-1 : Int32)).toInt8.toInt32)) else (g ((1 : Int32) : Int32).toNatClampNeg))) ^^^ (-1 : Int32)).toInt8.toInt32)) else (if ((3 : Int32) : Int32).toNatClampNeg = ((0 : Int32) : Int32).toNatClampNeg then (nar .byte ((((g ((0 : Int32) : Int32).toNatClampNeg)) ^^^ (-1 : Int32)).toInt8.toInt32)) else (g ((3 : Int32) : Int32).toNatClampNeg))))) ^^^ (-1 : Int32)).toInt8.toInt32)) else (if ((4 : Int32) : Int32).toNatClampNeg = ((2 : Int32) : Int32).toNatClampNeg then (nar .byte ((((if ((2 : Int32) : Int32).toNatClampNeg = ((1 : Int32) : Int32).toNatClampNeg then (nar .byte ((((if ((1 : Int32) : Int32).toNatClampNeg = ((0 : Int32) : Int32).toNatClampNeg then (nar .byte ((((g ((0 : Int32) : Int32).toNatClampNeg)) ^^^ (-1 : Int32)).toInt8.toInt32)) else (g ((1 : Int32) : Int32).toNatClampNeg))) ^^^ (-1 : Int32)).toInt8.toInt32)) else (if ((2 : Int32) : Int32).toNatClampNeg = ((0 : Int32) : Int32).toNatClampNeg then (nar .byte ((((g ((0 : Int32) : Int32).toNatClampNeg)) ^^^ (-1 : Int32)).toInt8.toInt32)) else (g ((2 : Int32) : Int32).toNatClampNeg)))) ^^^ (-1 : Int32)).toInt8.toInt32)) else (if ((4 : Int32) : Int32).toNatClampNeg = ((1 : Int32) : Int32).toNatClampNeg then (nar .byte ((((if ((1 : Int32) : Int32).toNatClampNeg = ((0 : Int32) : Int32).toNatClampNeg then (nar .byte ((((g ((0 : Int32) : Int32).toNatClampNeg)) ^^^ (-1 : Int32)).toInt8.toInt32)) else (g ((1 : Int32) : Int32).toNatClampNeg))) ^^^ (-1 : Int32)).toInt8.toInt32)) else (if ((4 : Int32) : Int32).toNatClampNeg = ((0 : Int32) : Int32).toNatClampNeg then (nar .byte ((((g ((0 : Int32) : Int32).toNatClampNeg)) ^^^ (-1 : Int32)).toInt8.toInt32)) else (g ((4 : Int32) : Int32).toNatClampNeg)))))) ^^^ (-1 : Int32)).toInt8.toInt32)) else (if ((5 : Int32) : Int32).toNatClampNeg = ((3 : Int32) : Int32).toNatClampNeg then (nar .byte ((((if ((3 : Int32) : Int32).toNatClampNeg = ((2 : Int32) : Int32).toNatClampNeg then (nar .byte ((((if ((2 : Int32) : Int32).toNatClampNeg = ((1 : Int32) : Int32).toNatClampNeg then (nar .byte ((((if ((1 : Int32) : Int32).toNatClampNeg = ((0 : Int32) : Int32).toNatClampNeg then (nar .byte ((((g ((0 : Int32) : Int32).toNatClampNeg)) ^^^ (-1 : Int32)).toInt8.toInt32)) else (g ((1 : Int32) : Int32).toNatClampNeg))) ^^^ (-1 : Int32)).toInt8.toInt32)) else (if ((2 : Int32) : Int32).toNatClampNeg = ((0 : Int32) : Int32).toNatClampNeg then (nar .byte ((((g ((0 : Int32) : Int32).toNatClampNeg)) ^^^ (-1 : Int32)).toInt8.toInt32)) else (g ((2 : Int32) : Int32).toNatClampNeg)))) ^^^ (-1 : Int32)).toInt8.toInt32)) else (if ((3 : Int32) : Int32).toNatClampNeg = ((1 : Int32) : Int32).toNatClampNeg then (nar .byte ((((if ((1 : Int32) : Int32).toNatClampNeg = ((0 : Int32) : Int32).toNatClampNeg then (nar .byte ((((g ((0 : Int32) : Int32).toNatClampNeg)) ^^^ (-1 : Int32)).toInt8.toInt32)) else (g ((1 : Int32) : Int32).toNatClampNeg))) ^^^ (-1 : Int32)).toInt8.toInt32)) else (if ((3 : Int32) : Int32).toNatClampNeg = ((0 : Int32) : Int32).toNatClampNeg then (nar .byte ((((g ((0 : Int32) : Int32).toNatClampNeg)) ^^^ (-1 : Int32)).toInt8.toInt32)) else (g ((3 : Int32) : Int32).toNatClampNeg))))) ^^^ (-1 : Int32)).toInt8.toInt32)) else (if ((5 : Int32) : Int32).toNatClampNeg = ((2 : Int32) : Int32).toNatClampNeg then (nar .byte ((((if ((2 : Int32) : Int32).toNatClampNeg = ((1 : Int32) : Int32).toNatClampNeg then (nar .byte ((((if ((1 : Int32) : Int32).toNatClampNeg = ((0 : Int32) : Int32).toNatClampNeg then (nar .byte ((((g ((0 : Int32) : Int32).toNatClampNeg)) ^^^ (-1 : Int32)).toInt8.toInt32)) else (g ((1 : Int32) : Int32).toNatClampNeg))) ^^^ (-1 : Int32)).toInt8.toInt32)) else (if ((2 : Int32) : Int32).toNatClampNeg = ((0 : Int32) : Int32).toNatClampNeg then (nar .byte ((((g ((0 : Int32) : Int32).toNatClampNeg)) ^^^ (-1 : Int32)).toInt8.toInt32)) else (g ((2 : Int32) : Int32).toNatClampNeg)))) ^^^ (-1 : Int32)).toInt8.toInt32)) else (if ((5 : Int32) : Int32).toNatClampNeg = ((1 : Int32) : Int32).toNatClampNeg then (nar .byte ((((if ((1 : Int32) : Int32).toNatClampNeg = ((0 : Int32) : Int32).toNatClampNeg then (nar .byte ((((g ((0 : Int32) : Int32).toNatClampNeg)) ^^^ (-1 : Int32)).toInt8.toInt32)) else (g ((1 : Int32) : Int32).toNatClampNeg))) ^^^ (-1 : Int32)).toInt8.toInt32)) else (if ((5 : Int32) : Int32).toNatClampNeg = ((0 : Int32) : Int32).toNatClampNeg then (nar .byte ((((g ((0 : Int32) : Int32).toNatClampNeg)) ^^^ (-1 : Int32)).toInt8.toInt32)) else (g ((5 : Int32) : Int32).toNatClampNeg))))))) ^^^ (-1 : Int32))), (.int (5 : Int32)), (.ref o0)])) _
    refine XS.i2b X32.here hx rfl (hb hby d4_52) rfl ?_
    show Steps p.tables e below (T32.setTop (mkF m 53 #[.val (.ref o0)] [(.int ((((if ((5 : Int32) : Int32).toNatClampNeg = ((4 : Int32) : Int32).toNatClampNeg then (nar .byte ((((if ((4 : Int32) : Int32).toNatClampNeg = ((3 : Int32) : Int32).toNatClampNeg then (nar .byte ((((if ((3 : Int32) : Int32).toNatClampNeg = ((2 : Int32) : Int32).toNatClampNeg then (nar .byte ((((if ((2 : Int32) : Int32).toNatClampNeg = ((1 : Int32) : Int32).toNatClampNeg then (nar .byte ((((if ((1 : Int32) : Int32).toNatClampNeg = ((0 : Int32) : Int32).toNatClampNeg then (nar .byte ((((g ((0 : Int32) : Int32).toNatClampNeg)) ^^^ (-1 : Int32)).toInt8.toInt32)) else (g ((1 : Int32) : Int32).toNatClampNeg))) ^^^ (-1 : Int32)).toInt8.toInt32)) else (if ((2 : Int32) : Int32).toNatClampNeg = ((0 : Int32) : Int32).toNatClampNeg then (nar .byte ((((g ((0 : Int32) : Int32).toNatClampNeg)) ^^^ (-1 : Int32)).toInt8.toInt32)) else (g ((2 : Int32) : Int32).toNatClampNeg)))) ^^^ (-1 : Int32)).toInt8.toInt32)) else (if ((3 : Int32) : Int32).toNatClampNeg = ((1 : Int32) : Int32).toNatClampNeg then (nar .byte ((((if ((1 : Int32) : Int32).toNatClampNeg = ((0 : Int32) : Int32).toNatClampNeg then (nar .byte ((((g ((0 : Int32) : Int32).toNatClampNeg)) ^^^ (-1 : Int32)).toInt8.toInt32)) else (g ((1 : Int32) : Int32).toNatClampNeg))) ^^^ (-1 : Int32)).toInt8.toInt32)) else (if ((3 : Int32) : Int32).toNatClampNeg = ((0 : Int32) : Int32).toNatClampNeg then (nar .byte ((((g ((0 : Int32) : Int32).toNatClampNeg)) ^^^ (-1 : Int32)).toInt8.toInt32)) else (g ((3 : Int32) : Int32).toNatClampNeg))))) ^^^ (-1 : Int32)).toInt8.toInt32)) else (if ((4 : Int32) : Int32).toNatClampNeg = ((2 : Int32) : Int32).toNatClampNeg then (nar .byte ((((if ((2 : Int32) : Int32).toNatClampNeg = ((1 : Int32) : Int32).toNatClampNeg then (nar .byte ((((if ((1 : Int32) : Int32).toNatClampNeg = ((0 : Int32) : Int32).toNatClampNeg then (nar .byte ((((g ((0 : Int32) : Int32).toNatClampNeg)) ^^^ (-1 : Int32)).toInt8.toInt32)) else (g ((1 : Int32) : Int32).toNatClampNeg))) ^^^ (-1 : Int32)).toInt8.toInt32)) else (if ((2 : Int32) : Int32).toNatClampNeg = ((0 : Int32) : Int32).toNatClampNeg then (nar .byte ((((g ((0 : Int32) : Int32).toNatClampNeg)) ^^^ (-1 : Int32)).toInt8.toInt32)) else (g ((2 : Int32) : Int32).toNatClampNeg)))) ^^^ (-1 : Int32)).toInt8.toInt32)) else (if ((4 : Int32) : Int32).toNatClampNeg = ((1 : Int32) : Int32).toNatClampNeg then (nar .byte ((((if ((1 : Int32) : Int32).toNatClampNeg = ((0 : Int32) : Int32).toNatClampNeg then (nar .byte ((((g ((0 : Int32) : Int32).toNatClampNeg)) ^^^ (-1 : Int32)).toInt8.toInt32)) else (g ((1 : Int32) : Int32).toNatClampNeg))) ^^^ (-1 : Int32)).toInt8.toInt32)) else (if ((4 : Int32) : Int32).toNatClampNeg = ((0 : Int32) : Int32).toNatClampNeg then (nar .byte ((((g ((0 : Int32) : Int32).toNatClampNeg)) ^^^ (-1 : Int32)).toInt8.toInt32)) else (g ((4 : Int32) : Int32).toNatClampNeg)))))) ^^^ (-1 : Int32)).toInt8.toInt32)) else (if ((5 : Int32) : Int32).toNatClampNeg = ((3 : Int32) : Int32).toNatClampNeg then (nar .byte ((((if ((3 : Int32) : Int32).toNatClampNeg = ((2 : Int32) : Int32).toNatClampNeg then (nar .byte ((((if ((2 : Int32) : Int32).toNatClampNeg = ((1 : Int32) : Int32).toNatClampNeg then (nar .byte ((((if ((1 : Int32) : Int32).toNatClampNeg = ((0 : Int32) : Int32).toNatClampNeg then (nar .byte ((((g ((0 : Int32) : Int32).toNatClampNeg)) ^^^ (-1 : Int32)).toInt8.toInt32)) else (g ((1 : Int32) : Int32).toNatClampNeg))) ^^^ (-1 : Int32)).toInt8.toInt32)) else (if ((2 : Int32) : Int32).toNatClampNeg = ((0 : Int32) : Int32).toNatClampNeg then (nar .byte ((((g ((0 : Int32) : Int32).toNatClampNeg)) ^^^ (-1 : Int32)).toInt8.toInt32)) else (g ((2 : Int32) : Int32).toNatClampNeg)))) ^^^ (-1 : Int32)).toInt8.toInt32)) else (if ((3 : Int32) : Int32).toNatClampNeg = ((1 : Int32) : Int32).toNatClampNeg then (nar .byte ((((if ((1 : Int32) : Int32).toNatClampNeg = ((0 : Int32) : Int32).toNatClampNeg then (nar .byte ((((g ((0 : Int32) : Int32).toNatClampNeg)) ^^^ (-1 : Int32)).toInt8.toInt32)) else (g ((1 : Int32) : Int32).toNatClampNeg))) ^^^ (-1 : Int32)).toInt8.toInt32)) else (if ((3 : Int32) : Int32).toNatClampNeg = ((0 : Int32) : Int32).toNatClampNeg then (nar .byte ((((g ((0 : Int32) : Int32).toNatClampNeg)) ^^^ (-1 : Int32)).toInt8.toInt32)) else (g ((3 : Int32) : Int32).toNatClampNeg))))) ^^^ (-1 : Int32)).toInt8.toInt32)) else (if ((5 : Int32) : Int32).toNatClampNeg = ((2 : Int32) : Int32).toNatClampNeg then (nar .byte ((((if ((2 : Int32) : Int32).toNatClampNeg = ((1 : Int32) : Int32).toNatClampNeg then (nar .byte ((((if ((1 : Int32) : Int32).toNatClampNeg = ((0 : Int32) : Int32).toNatClampNeg then (nar .byte ((((g ((0 : Int32) : Int32).toNatClampNeg)) ^^^ (-1 : Int32)).toInt8.toInt32)) else (g ((1 : Int32) : Int32).toNatClampNeg))) ^^^ (-1 : Int32)).toInt8.toInt32)) else (if ((2 : Int32) : Int32).toNatClampNeg = ((0 : Int32) : Int32).toNatClampNeg then (nar .byte ((((g ((0 : Int32) : Int32).toNatClampNeg)) ^^^ (-1 : Int32)).toInt8.toInt32)) else (g ((2 : Int32) : Int32).toNatClampNeg)))) ^^^ (-1 : Int32)).toInt8.toInt32)) else (if ((5 : Int32) : Int32).toNatClampNeg = ((1 : Int32) : Int32).toNatClampNeg then (nar .byte ((((if ((1 : Int32) : Int32).toNatClampNeg = ((0 : Int32) : Int32).toNatClampNeg then (nar .byte ((((g ((0 : Int32) : Int32).toNatClampNeg)) ^^^ (-1 : Int32)).toInt8.toInt32)) else (g ((1 : Int32) : Int32).toNatClampNeg))) ^^^ (-1 : Int32)).toInt8.toInt32)) else (if ((5 : Int32) : Int32).toNatClampNeg = ((0 : Int32) : Int32).toNatClampNeg then (nar .byte ((((g ((0 : Int32) : Int32).toNatClampNeg)) ^^^ (-1 : Int32)).toInt8.toInt32)) else (g ((5 : Int32) : Int32).toNatClampNeg))))))) ^^^ (-1 : Int32)).toInt8.toInt32)), (.int (5 : Int32)), (.ref o0)])) _
    refine st39 _ ?_
    show Steps p.tables e below (T39.setTop (mkF m 54 #[.val (.ref o0)] [])) _
    exact k)
  obtain ⟨fs, hr, hrun, hended, hW, hsame⟩ := X39.leave (v := none) (fun _ => rfl)
  refine ⟨_, _, pre43 _ ?_, hrun, hended, _, _, rfl, ?_, ⟨_, rfl⟩, hW, hsame.mono (by decide) (by decide)⟩
  · exact X39.returnOut hx Bd.returns (hb hby d4_54) hr
  · show Q4 Z o0 g h0 n0 _ T39.heap _
    rw [e39]
    exact ⟨rfl, N39, K42⟩
theorem d5_0 : decode prog_23_method_4_code 0 = .ok (.aload_n 0, 1) := by decide +kernel
theorem d5_1 : decode prog_23_method_4_code 1 = .ok (.getfield 7, 3) := by decide +kernel
theorem d5_4 : decode prog_23_method_4_code 4 = .ok (.invokevirtual 38, 3) := by decide +kernel
theorem d5_7 : decode prog_23_method_4_code 7 = .ok (.checkcast 39, 3) := by decide +kernel
theorem d5_10 : decode prog_23_method_4_code 10 = .ok (.areturn, 1) := by decide +kernel
theorem ef_5 (m : MethodId) (o0 : Addr) : entryFrame m #[(.ref o0)] 1 = mkF m 0 #[.val (.ref o0)] [] := by first | (simp [entryFrame, mkF, argsToLocals, Value.category]; done) | rfl

def Q5 (Z : State) (o0 : Addr) (t0 : Addr) (g : Nat → Int32) (h0 : Heap) (n0 : Nat) (v : Option Value) (h : Heap) (L : List Loc) : Prop := ∃ (b : Addr), v = some (.ref b) ∧ Fr n0 L ∧ Keep h0 h [] ∧ h0.size ≤ b ∧ (own_A Z h b .byte 6 (fun i => (.int (g i))))
set_option maxRecDepth 65536 in
set_option maxHeartbeats 40000000 in
theorem rm5 (l : Launch) (Z : State) (a0 : Array Value) (hw : ∀ d ∈ tables_1, d.before a0 Z = true) (ws : List Jvm.Cond) (o0 : Addr) (t0 : Addr) (g : Nat → Int32) (h0 : Heap) (n0 : Nat) (Z0 : n0 ≤ h0.size) (F_bytes_o0 : Fld Z h0 o0 "com/example/keyclasp/keyclasp/methods/MacAddress" "bytes" "[B" (.ref t0)) (A_t0 : own_A Z h0 t0 .byte 6 (fun i => (.int (g i)))) (E_t0 : Exa Z h0 t0 "[B") (hfit : ∀ i, i < 6 → fits .byte (.int (g i)) = true) :
    MetFree l (⟨"com/example/keyclasp/keyclasp/methods/MacAddress", "bytes", "()[B"⟩ : MethodName) (head1 (Jvm.Cond.code (⟨"com/example/keyclasp/keyclasp/methods/MacAddress", "bytes", "()[B"⟩ : MethodName) prog_23_method_4_code 1 (some (.array .byte)) :: ws) ({ frames := 1, cells := 1, slots := 6, locals := 14 } : Room)) (fun a U => a = #[(.ref o0)] ∧ Z.Warmed39 U.vm ∧ U.heap = h0) (fun _ _ _ _ _ => True) (fun _ U o U' => ∃ v L, o = .returned v ∧ Q5 Z o0 t0 g h0 n0 v U'.heap L ∧ FrameEnd U o U' L ({ frames := 1, cells := 1, slots := 6, locals := 14 } : Room).cells ({ frames := 1, cells := 1, slots := 6, locals := 14 } : Room).slots) := by
  refine MetFree.of_bodySF (plainFor_of_name pn_0) hisR ?_
  intro p e s m args below meth c s₁ Bd hml0 hP hK
  obtain ⟨rfl, hZ, hh⟩ := hP
  have hx := Bd.exec
  have hby := Bd.bytes
  have hml : c.maxLocals = 1 := hml0
  have hown : s.vm.findClass "com/example/keyclasp/keyclasp/methods/MacAddress" = some m.cls := findClass_of_methodNamed Bd.named
  have hnm := (name_of_methodNamed Bd.named Bd.method).1
  have X0 : Stand p l e ({ frames := 1, cells := 1, slots := 6, locals := 14 } : Room) s m #[(.ref o0)] below meth c s₁ [] 0 0 := Stand.of_body Bd
  have e0 : s₁.heap = h0 := by rw [← hh, Bd.state]; rfl
  have N0 := Fr.nil n0
  have pre0 : ∀ t, Steps p.tables e below (s₁.setTop (mkF m 0 #[.val (.ref o0)] [])) t → Steps p.tables e below (s₁.setTop (entryFrame m #[(.ref o0)] 1)) t := fun t k => castTop (ef_5 m o0) k
  obtain ⟨T1, X1, e1, st1⟩ := getF X0 hx hZ hown (host := "") (Or.inl (hw _ (List.mem_of_getElem? (i := 22) rfl))) Via.refl e0 F_bytes_o0 (g := (mkF m 1 #[.val (.ref o0)] [(.ref o0)])) rfl rfl (hb hby d5_1)
  have qa2 := A_t0
  obtain ⟨c2, Ar2, Sz2, H2⟩ := qa2
  obtain ⟨T3, h3, X3, e3, Ex3, Ne3, Nx3, st3⟩ := cloneA X1 hx hZ hown (hw _ (List.mem_of_getElem? (i := 7) rfl)) (hw _ (List.mem_of_getElem? (i := 8) rfl)) (hw _ (List.mem_of_getElem? (i := 12) rfl)) (hw _ (List.mem_of_getElem? (i := 10) rfl)) (hw _ (List.mem_of_getElem? (i := 11) rfl)) (hw _ (List.mem_of_getElem? (i := 13) rfl)) e1 Ar2 E_t0 (fitC_of Ar2 (fun i hi v hv => by rw [Sz2] at hi; rw [H2 i hi] at hv; cases hv; exact hfit i hi)) (g := (mkF m 4 #[.val (.ref o0)] [(.ref t0)])) rfl (by rw [hml]; rfl) rfl (hb hby d5_4) (by decide) (W := 0) (by show 2 * 0 + _ ≤ _; exact Nat.le_of_eq rfl) (by decide) (cap := 6) (Nat.le_of_eq Sz2) (by decide) (by decide)
  obtain ⟨b3, g3⟩ : ∃ z, z = h0.size := ⟨_, rfl⟩
  rw [← g3] at Ne3 Nx3 st3
  have ne_o0_b3 : o0 ≠ b3 := by rw [g3]; exact Nat.ne_of_lt (F_bytes_o0).lt
  have ne_t0_b3 : t0 ≠ b3 := by rw [g3]; exact Nat.ne_of_lt (A_t0).lt
  have g_b3 : n0 ≤ b3 := Nat.le_trans (Nat.le_trans Z0 (Nat.le_refl _)) (Nat.le_of_eq g3.symm)
  have sz_b3 : h0.size ≤ b3 := Nat.le_trans (Nat.le_refl _) (Nat.le_of_eq g3.symm)
  have F_bytes_o0_4 : Fld Z h3 o0 "com/example/keyclasp/keyclasp/methods/MacAddress" "bytes" "[B" (.ref t0) := (F_bytes_o0).ext Ex3
  have A_t0_4 : own_A Z h3 t0 .byte 6 (fun i => (.int (g i))) := (A_t0).ext Ex3
  have E_t0_4 : Exa Z h3 t0 "[B" := (E_t0).ext Ex3
  have SZ5 : h0.size ≤ h3.size := Nat.le_trans (Nat.le_refl _) Ex3.1
  have ZZ5 : n0 ≤ h3.size := Nat.le_trans Z0 SZ5
  have K6 : Keep h0 h3 [] := ((Keep.refl h0 [])).ext Ex3
  have A_b3_3 : own_A Z h3 b3 .byte 6 (fun i => (.int (g i))) := ⟨_, Ne3, Sz2, H2⟩
  obtain ⟨T7, X7, e7, st7⟩ := castY X3 hx hZ hown (hw _ (List.mem_of_getElem? (i := 14) rfl)) e3 (Ins.self Nx3) (g := (mkF m 7 #[.val (.ref o0)] [(.ref b3)])) rfl rfl (hb hby d5_7)
  have pre8 : ∀ t, Steps p.tables e below (T7.setTop (mkF m 10 #[.val (.ref o0)] [(.ref b3)])) t → Steps p.tables e below (s₁.setTop (entryFrame m #[(.ref o0)] 1)) t := fun t k => pre0 t (by
    show Steps p.tables e below (s₁.setTop (mkF m 0 #[.val (.ref o0)] [])) _
    refine XS.aloadN X0.here hx rfl (hb hby d5_0) rfl rfl ?_
    show Steps p.tables e below (s₁.setTop (mkF m 1 #[.val (.ref o0)] [(.ref o0)])) _
    refine st1 _ ?_
    show Steps p.tables e below (T1.setTop (mkF m 4 #[.val (.ref o0)] [(.ref t0)])) _
    refine st3 _ ?_
    show Steps p.tables e below (T3.setTop (mkF m 7 #[.val (.ref o0)] [(.ref b3)])) _
    refine st7 _ ?_
    show Steps p.tables e below (T7.setTop (mkF m 10 #[.val (.ref o0)] [(.ref b3)])) _
    exact k)
  obtain ⟨fs, hr, hrun, hended, hW, hsame⟩ := X7.leave (v := some (.ref b3)) (fun h => by rw [Bd.returns] at h; cases h)
  refine ⟨_, _, pre8 _ ?_, hrun, hended, _, _, rfl, ?_, ⟨_, rfl⟩, hW, hsame.mono (by decide) (by decide)⟩
  · exact retOut X7 hx Bd.returns rfl (Or.inr (Or.inr (Or.inr (Or.inr ⟨rfl, rfl, rfl⟩)))) (hb hby d5_10) hr
  · show Q5 Z o0 t0 g h0 n0 _ T7.heap _
    rw [e7]
    exact ⟨b3, rfl, N0, K6, sz_b3, A_b3_3⟩
theorem d6_0 : decode method_2_code 0 = .ok (.aload_n 0, 1) := by decide +kernel
theorem d6_1 : decode method_2_code 1 = .ok (.arraylength, 1) := by decide +kernel
theorem d6_2 : decode method_2_code 2 = .ok (.bipush 6, 2) := by decide +kernel
theorem d6_4 : decode method_2_code 4 = .ok (.if_icmp .ne 76, 3) := by decide +kernel
theorem d6_7 : decode method_2_code 7 = .ok (.aload_n 0, 1) := by decide +kernel
theorem d6_8 : decode method_2_code 8 = .ok (.iconst 0, 1) := by decide +kernel
theorem d6_9 : decode method_2_code 9 = .ok (.baload, 1) := by decide +kernel
theorem d6_10 : decode method_2_code 10 = .ok (.lload_n 1, 1) := by decide +kernel
theorem d6_11 : decode method_2_code 11 = .ok (.l2i, 1) := by decide +kernel
theorem d6_12 : decode method_2_code 12 = .ok (.i2b, 1) := by decide +kernel
theorem d6_13 : decode method_2_code 13 = .ok (.if_icmp .ne 67, 3) := by decide +kernel
theorem d6_16 : decode method_2_code 16 = .ok (.aload_n 0, 1) := by decide +kernel
theorem d6_17 : decode method_2_code 17 = .ok (.iconst 1, 1) := by decide +kernel
theorem d6_18 : decode method_2_code 18 = .ok (.baload, 1) := by decide +kernel
theorem d6_19 : decode method_2_code 19 = .ok (.lload_n 1, 1) := by decide +kernel
theorem d6_20 : decode method_2_code 20 = .ok (.bipush 8, 2) := by decide +kernel
theorem d6_22 : decode method_2_code 22 = .ok (.lushr, 1) := by decide +kernel
theorem d6_23 : decode method_2_code 23 = .ok (.l2i, 1) := by decide +kernel
theorem d6_24 : decode method_2_code 24 = .ok (.i2b, 1) := by decide +kernel
theorem d6_25 : decode method_2_code 25 = .ok (.if_icmp .ne 55, 3) := by decide +kernel
theorem d6_28 : decode method_2_code 28 = .ok (.aload_n 0, 1) := by decide +kernel
theorem d6_29 : decode method_2_code 29 = .ok (.iconst 2, 1) := by decide +kernel
theorem d6_30 : decode method_2_code 30 = .ok (.baload, 1) := by decide +kernel
theorem d6_31 : decode method_2_code 31 = .ok (.lload_n 1, 1) := by decide +kernel
theorem d6_32 : decode method_2_code 32 = .ok (.bipush 16, 2) := by decide +kernel
theorem d6_34 : decode method_2_code 34 = .ok (.lushr, 1) := by decide +kernel
theorem d6_35 : decode method_2_code 35 = .ok (.l2i, 1) := by decide +kernel
theorem d6_36 : decode method_2_code 36 = .ok (.i2b, 1) := by decide +kernel
theorem d6_37 : decode method_2_code 37 = .ok (.if_icmp .ne 43, 3) := by decide +kernel
theorem d6_40 : decode method_2_code 40 = .ok (.aload_n 0, 1) := by decide +kernel
theorem d6_41 : decode method_2_code 41 = .ok (.iconst 3, 1) := by decide +kernel
theorem d6_42 : decode method_2_code 42 = .ok (.baload, 1) := by decide +kernel
theorem d6_43 : decode method_2_code 43 = .ok (.lload_n 1, 1) := by decide +kernel
theorem d6_44 : decode method_2_code 44 = .ok (.bipush 24, 2) := by decide +kernel
theorem d6_46 : decode method_2_code 46 = .ok (.lushr, 1) := by decide +kernel
theorem d6_47 : decode method_2_code 47 = .ok (.l2i, 1) := by decide +kernel
theorem d6_48 : decode method_2_code 48 = .ok (.i2b, 1) := by decide +kernel
theorem d6_49 : decode method_2_code 49 = .ok (.if_icmp .ne 31, 3) := by decide +kernel
theorem d6_52 : decode method_2_code 52 = .ok (.aload_n 0, 1) := by decide +kernel
theorem d6_53 : decode method_2_code 53 = .ok (.iconst 4, 1) := by decide +kernel
theorem d6_54 : decode method_2_code 54 = .ok (.baload, 1) := by decide +kernel
theorem d6_55 : decode method_2_code 55 = .ok (.lload_n 1, 1) := by decide +kernel
theorem d6_56 : decode method_2_code 56 = .ok (.bipush 32, 2) := by decide +kernel
theorem d6_58 : decode method_2_code 58 = .ok (.lushr, 1) := by decide +kernel
theorem d6_59 : decode method_2_code 59 = .ok (.l2i, 1) := by decide +kernel
theorem d6_60 : decode method_2_code 60 = .ok (.i2b, 1) := by decide +kernel
theorem d6_61 : decode method_2_code 61 = .ok (.if_icmp .ne 19, 3) := by decide +kernel
theorem d6_64 : decode method_2_code 64 = .ok (.aload_n 0, 1) := by decide +kernel
theorem d6_65 : decode method_2_code 65 = .ok (.iconst 5, 1) := by decide +kernel
theorem d6_66 : decode method_2_code 66 = .ok (.baload, 1) := by decide +kernel
theorem d6_67 : decode method_2_code 67 = .ok (.lload_n 1, 1) := by decide +kernel
theorem d6_68 : decode method_2_code 68 = .ok (.bipush 40, 2) := by decide +kernel
theorem d6_70 : decode method_2_code 70 = .ok (.lushr, 1) := by decide +kernel
theorem d6_71 : decode method_2_code 71 = .ok (.l2i, 1) := by decide +kernel
theorem d6_72 : decode method_2_code 72 = .ok (.i2b, 1) := by decide +kernel
theorem d6_73 : decode method_2_code 73 = .ok (.if_icmp .ne 7, 3) := by decide +kernel
theorem d6_76 : decode method_2_code 76 = .ok (.iconst 1, 1) := by decide +kernel
theorem d6_77 : decode method_2_code 77 = .ok (.goto 4, 3) := by decide +kernel
theorem d6_81 : decode method_2_code 81 = .ok (.ireturn, 1) := by decide +kernel
theorem ef_6 (m : MethodId) (o0 : Addr) (q1 : Int64) : entryFrame m #[(.ref o0), (.long q1)] 3 = mkF m 0 #[.val (.ref o0), .val (.long q1), .second] [] := by first | (simp [entryFrame, mkF, argsToLocals, Value.category]; done) | rfl

def Q6 (Z : State) (o0 : Addr) (q1 : Int64) (g : Nat → Int32) (h0 : Heap) (n0 : Nat) (v : Option Value) (h : Heap) (L : List Loc) : Prop := v = some (.int (1 : Int32)) ∧ Fr n0 L ∧ h = h0
set_option maxRecDepth 65536 in
set_option maxHeartbeats 40000000 in
theorem rm6 (l : Launch) (Z : State) (a0 : Array Value) (hw : ∀ d ∈ tables_1, d.before a0 Z = true) (ws : List Jvm.Cond) (o0 : Addr) (q1 : Int64) (g : Nat → Int32) (h0 : Heap) (n0 : Nat) (Z0 : n0 ≤ h0.size) (A_o0 : own_A Z h0 o0 .byte 6 (fun i => (.int (g i)))) (k0 : (g (0 : Int32).toNatClampNeg) = ((q1.toInt32).toInt8.toInt32)) (k1 : (g (1 : Int32).toNatClampNeg) = ((((q1.toUInt64 >>> ((8 : Int32) &&& 0x3f).toInt64.toUInt64).toInt64).toInt32).toInt8.toInt32)) (k2 : (g (2 : Int32).toNatClampNeg) = ((((q1.toUInt64 >>> ((16 : Int32) &&& 0x3f).toInt64.toUInt64).toInt64).toInt32).toInt8.toInt32)) (k3 : (g (3 : Int32).toNatClampNeg) = ((((q1.toUInt64 >>> ((24 : Int32) &&& 0x3f).toInt64.toUInt64).toInt64).toInt32).toInt8.toInt32)) (k4 : (g (4 : Int32).toNatClampNeg) = ((((q1.toUInt64 >>> ((32 : Int32) &&& 0x3f).toInt64.toUInt64).toInt64).toInt32).toInt8.toInt32)) (k5 : (g (5 : Int32).toNatClampNeg) = ((((q1.toUInt64 >>> ((40 : Int32) &&& 0x3f).toInt64.toUInt64).toInt64).toInt32).toInt8.toInt32)) :
    MetFree l (⟨"com/example/keyclasp/keyclasp/methods/MacAddressOfPinLaw", "holds", "([BJ)Z"⟩ : MethodName) (head1 (Jvm.Cond.code (⟨"com/example/keyclasp/keyclasp/methods/MacAddressOfPinLaw", "holds", "([BJ)Z"⟩ : MethodName) method_2_code 3 (some .boolean) :: ws) ({ frames := 0, cells := 0, slots := 0, locals := 0 } : Room)) (fun a U => a = #[(.ref o0), (.long q1)] ∧ Z.Warmed39 U.vm ∧ U.heap = h0) (fun _ _ _ _ _ => True) (fun _ U o U' => ∃ v L, o = .returned v ∧ Q6 Z o0 q1 g h0 n0 v U'.heap L ∧ FrameEnd U o U' L ({ frames := 0, cells := 0, slots := 0, locals := 0 } : Room).cells ({ frames := 0, cells := 0, slots := 0, locals := 0 } : Room).slots) := by
  refine MetFree.of_bodySF (plainFor_of_name pn_1) hisR ?_
  intro p e s m args below meth c s₁ Bd hml0 hP hK
  obtain ⟨rfl, hZ, hh⟩ := hP
  have hx := Bd.exec
  have hby := Bd.bytes
  have hml : c.maxLocals = 3 := hml0
  have hown : s.vm.findClass "com/example/keyclasp/keyclasp/methods/MacAddressOfPinLaw" = some m.cls := findClass_of_methodNamed Bd.named
  have hnm := (name_of_methodNamed Bd.named Bd.method).1
  have X0 : Stand p l e ({ frames := 0, cells := 0, slots := 0, locals := 0 } : Room) s m #[(.ref o0), (.long q1)] below meth c s₁ [] 0 0 := Stand.of_body Bd
  have e0 : s₁.heap = h0 := by rw [← hh, Bd.state]; rfl
  have N0 := Fr.nil n0
  have pre0 : ∀ t, Steps p.tables e below (s₁.setTop (mkF m 0 #[.val (.ref o0), .val (.long q1), .second] [])) t → Steps p.tables e below (s₁.setTop (entryFrame m #[(.ref o0), (.long q1)] 3)) t := fun t k => castTop (ef_6 m o0 q1) k
  have qa1 := A_o0
  obtain ⟨c1, Ar1, Sz1, H1⟩ := qa1
  have qa2 := A_o0
  obtain ⟨c2, Ar2, Sz2, H2⟩ := qa2
  have hi3 : 0 ≤ ((0 : Int32) : Int32).toInt ∧ ((0 : Int32) : Int32).toInt < (6 : Nat) := (by decide)
  have hl3 : c2.slots[((0 : Int32) : Int32).toNatClampNeg]? = some (.int ((g ((0 : Int32) : Int32).toNatClampNeg))) := H2 _ (own_ix hi3)
  have qa4 := A_o0
  obtain ⟨c4, Ar4, Sz4, H4⟩ := qa4
  have hi5 : 0 ≤ ((1 : Int32) : Int32).toInt ∧ ((1 : Int32) : Int32).toInt < (6 : Nat) := (by decide)
  have hl5 : c4.slots[((1 : Int32) : Int32).toNatClampNeg]? = some (.int ((g ((1 : Int32) : Int32).toNatClampNeg))) := H4 _ (own_ix hi5)
  have qa6 := A_o0
  obtain ⟨c6, Ar6, Sz6, H6⟩ := qa6
  have hi7 : 0 ≤ ((2 : Int32) : Int32).toInt ∧ ((2 : Int32) : Int32).toInt < (6 : Nat) := (by decide)
  have hl7 : c6.slots[((2 : Int32) : Int32).toNatClampNeg]? = some (.int ((g ((2 : Int32) : Int32).toNatClampNeg))) := H6 _ (own_ix hi7)
  have qa8 := A_o0
  obtain ⟨c8, Ar8, Sz8, H8⟩ := qa8
  have hi9 : 0 ≤ ((3 : Int32) : Int32).toInt ∧ ((3 : Int32) : Int32).toInt < (6 : Nat) := (by decide)
  have hl9 : c8.slots[((3 : Int32) : Int32).toNatClampNeg]? = some (.int ((g ((3 : Int32) : Int32).toNatClampNeg))) := H8 _ (own_ix hi9)
  have qa10 := A_o0
  obtain ⟨c10, Ar10, Sz10, H10⟩ := qa10
  have hi11 : 0 ≤ ((4 : Int32) : Int32).toInt ∧ ((4 : Int32) : Int32).toInt < (6 : Nat) := (by decide)
  have hl11 : c10.slots[((4 : Int32) : Int32).toNatClampNeg]? = some (.int ((g ((4 : Int32) : Int32).toNatClampNeg))) := H10 _ (own_ix hi11)
  have qa12 := A_o0
  obtain ⟨c12, Ar12, Sz12, H12⟩ := qa12
  have hi13 : 0 ≤ ((5 : Int32) : Int32).toInt ∧ ((5 : Int32) : Int32).toInt < (6 : Nat) := (by decide)
  have hl13 : c12.slots[((5 : Int32) : Int32).toNatClampNeg]? = some (.int ((g ((5 : Int32) : Int32).toNatClampNeg))) := H12 _ (own_ix hi13)
  have pre14 : ∀ t, Steps p.tables e below (s₁.setTop (mkF m 81 #[.val (.ref o0), .val (.long q1), .second] [(.int (1 : Int32))])) t → Steps p.tables e below (s₁.setTop (entryFrame m #[(.ref o0), (.long q1)] 3)) t := fun t k => pre0 t (by
    show Steps p.tables e below (s₁.setTop (mkF m 0 #[.val (.ref o0), .val (.long q1), .second] [])) _
    refine XS.aloadN X0.here hx rfl (hb hby d6_0) rfl rfl ?_
    show Steps p.tables e below (s₁.setTop (mkF m 1 #[.val (.ref o0), .val (.long q1), .second] [(.ref o0)])) _
    refine X0.arraylength hx (by rw [e0]; exact Ar1.1) (State.isArrayOf_alike hZ.alike Ar1.2.1) (g := (mkF m 1 #[.val (.ref o0), .val (.long q1), .second] [(.ref o0)])) rfl rfl (hb hby d6_1) _ ?_
    rw [own_len Sz1 (z := (6 : Int32)) rfl]
    show Steps p.tables e below (s₁.setTop (mkF m 2 #[.val (.ref o0), .val (.long q1), .second] [(.int (6 : Int32))])) _
    refine XS.bipush X0.here hx rfl (hb hby d6_2) ?_
    show Steps p.tables e below (s₁.setTop (mkF m 4 #[.val (.ref o0), .val (.long q1), .second] [(.int (6 : Int32)), (.int (6 : Int32))])) _
    refine XS.icmpNo X0.here hx rfl (hb hby d6_4) rfl (teq (show (6 : Int32) = (6 : Int32) from rfl)).2 ?_
    show Steps p.tables e below (s₁.setTop (mkF m 7 #[.val (.ref o0), .val (.long q1), .second] [])) _
    refine XS.aloadN X0.here hx rfl (hb hby d6_7) rfl rfl ?_
    show Steps p.tables e below (s₁.setTop (mkF m 8 #[.val (.ref o0), .val (.long q1), .second] [(.ref o0)])) _
    refine XS.iconst X0.here hx rfl (hb hby d6_8) ?_
    show Steps p.tables e below (s₁.setTop (mkF m 9 #[.val (.ref o0), .val (.long q1), .second] [(.int (0 : Int32)), (.ref o0)])) _
    refine X0.baloadBytes hx (j := (0 : Int32)) (v := (.int ((g ((0 : Int32) : Int32).toNatClampNeg)))) (by rw [e0]; exact Ar2.1) (State.isArrayOf_alike hZ.alike Ar2.2.1) Ar2.2.2 (own_in Sz2 hi3) hl3 (g := (mkF m 9 #[.val (.ref o0), .val (.long q1), .second] [(.int (0 : Int32)), (.ref o0)])) rfl rfl (hb hby d6_9) _ ?_
    show Steps p.tables e below (s₁.setTop (mkF m 10 #[.val (.ref o0), .val (.long q1), .second] [(.int ((g ((0 : Int32) : Int32).toNatClampNeg)))])) _
    refine XS.lloadN X0.here hx rfl (hb hby d6_10) rfl ?_
    show Steps p.tables e below (s₁.setTop (mkF m 11 #[.val (.ref o0), .val (.long q1), .second] [(.long q1), (.int ((g ((0 : Int32) : Int32).toNatClampNeg)))])) _
    refine XS.l2i X0.here hx rfl (hb hby d6_11) rfl ?_
    show Steps p.tables e below (s₁.setTop (mkF m 12 #[.val (.ref o0), .val (.long q1), .second] [(.int (q1.toInt32)), (.int ((g ((0 : Int32) : Int32).toNatClampNeg)))])) _
    refine XS.i2b X0.here hx rfl (hb hby d6_12) rfl ?_
    show Steps p.tables e below (s₁.setTop (mkF m 13 #[.val (.ref o0), .val (.long q1), .second] [(.int ((q1.toInt32).toInt8.toInt32)), (.int ((g ((0 : Int32) : Int32).toNatClampNeg)))])) _
    refine XS.icmpNo X0.here hx rfl (hb hby d6_13) rfl (teq (show ((g ((0 : Int32) : Int32).toNatClampNeg)) = ((q1.toInt32).toInt8.toInt32) from k0)).2 ?_
    show Steps p.tables e below (s₁.setTop (mkF m 16 #[.val (.ref o0), .val (.long q1), .second] [])) _
    refine XS.aloadN X0.here hx rfl (hb hby d6_16) rfl rfl ?_
    show Steps p.tables e below (s₁.setTop (mkF m 17 #[.val (.ref o0), .val (.long q1), .second] [(.ref o0)])) _
    refine XS.iconst X0.here hx rfl (hb hby d6_17) ?_
    show Steps p.tables e below (s₁.setTop (mkF m 18 #[.val (.ref o0), .val (.long q1), .second] [(.int (1 : Int32)), (.ref o0)])) _
    refine X0.baloadBytes hx (j := (1 : Int32)) (v := (.int ((g ((1 : Int32) : Int32).toNatClampNeg)))) (by rw [e0]; exact Ar4.1) (State.isArrayOf_alike hZ.alike Ar4.2.1) Ar4.2.2 (own_in Sz4 hi5) hl5 (g := (mkF m 18 #[.val (.ref o0), .val (.long q1), .second] [(.int (1 : Int32)), (.ref o0)])) rfl rfl (hb hby d6_18) _ ?_
    show Steps p.tables e below (s₁.setTop (mkF m 19 #[.val (.ref o0), .val (.long q1), .second] [(.int ((g ((1 : Int32) : Int32).toNatClampNeg)))])) _
    refine XS.lloadN X0.here hx rfl (hb hby d6_19) rfl ?_
    show Steps p.tables e below (s₁.setTop (mkF m 20 #[.val (.ref o0), .val (.long q1), .second] [(.long q1), (.int ((g ((1 : Int32) : Int32).toNatClampNeg)))])) _
    refine XS.bipush X0.here hx rfl (hb hby d6_20) ?_
    show Steps p.tables e below (s₁.setTop (mkF m 22 #[.val (.ref o0), .val (.long q1), .second] [(.int (8 : Int32)), (.long q1), (.int ((g ((1 : Int32) : Int32).toNatClampNeg)))])) _
    refine XS.lushr X0.here hx rfl (hb hby d6_22) rfl ?_
    show Steps p.tables e below (s₁.setTop (mkF m 23 #[.val (.ref o0), .val (.long q1), .second] [(.long ((q1.toUInt64 >>> ((8 : Int32) &&& 0x3f).toInt64.toUInt64).toInt64)), (.int ((g ((1 : Int32) : Int32).toNatClampNeg)))])) _
    refine XS.l2i X0.here hx rfl (hb hby d6_23) rfl ?_
    show Steps p.tables e below (s₁.setTop (mkF m 24 #[.val (.ref o0), .val (.long q1), .second] [(.int (((q1.toUInt64 >>> ((8 : Int32) &&& 0x3f).toInt64.toUInt64).toInt64).toInt32)), (.int ((g ((1 : Int32) : Int32).toNatClampNeg)))])) _
    refine XS.i2b X0.here hx rfl (hb hby d6_24) rfl ?_
    show Steps p.tables e below (s₁.setTop (mkF m 25 #[.val (.ref o0), .val (.long q1), .second] [(.int ((((q1.toUInt64 >>> ((8 : Int32) &&& 0x3f).toInt64.toUInt64).toInt64).toInt32).toInt8.toInt32)), (.int ((g ((1 : Int32) : Int32).toNatClampNeg)))])) _
    refine XS.icmpNo X0.here hx rfl (hb hby d6_25) rfl (teq (show ((g ((1 : Int32) : Int32).toNatClampNeg)) = ((((q1.toUInt64 >>> ((8 : Int32) &&& 0x3f).toInt64.toUInt64).toInt64).toInt32).toInt8.toInt32) from k1)).2 ?_
    show Steps p.tables e below (s₁.setTop (mkF m 28 #[.val (.ref o0), .val (.long q1), .second] [])) _
    refine XS.aloadN X0.here hx rfl (hb hby d6_28) rfl rfl ?_
    show Steps p.tables e below (s₁.setTop (mkF m 29 #[.val (.ref o0), .val (.long q1), .second] [(.ref o0)])) _
    refine XS.iconst X0.here hx rfl (hb hby d6_29) ?_
    show Steps p.tables e below (s₁.setTop (mkF m 30 #[.val (.ref o0), .val (.long q1), .second] [(.int (2 : Int32)), (.ref o0)])) _
    refine X0.baloadBytes hx (j := (2 : Int32)) (v := (.int ((g ((2 : Int32) : Int32).toNatClampNeg)))) (by rw [e0]; exact Ar6.1) (State.isArrayOf_alike hZ.alike Ar6.2.1) Ar6.2.2 (own_in Sz6 hi7) hl7 (g := (mkF m 30 #[.val (.ref o0), .val (.long q1), .second] [(.int (2 : Int32)), (.ref o0)])) rfl rfl (hb hby d6_30) _ ?_
    show Steps p.tables e below (s₁.setTop (mkF m 31 #[.val (.ref o0), .val (.long q1), .second] [(.int ((g ((2 : Int32) : Int32).toNatClampNeg)))])) _
    refine XS.lloadN X0.here hx rfl (hb hby d6_31) rfl ?_
    show Steps p.tables e below (s₁.setTop (mkF m 32 #[.val (.ref o0), .val (.long q1), .second] [(.long q1), (.int ((g ((2 : Int32) : Int32).toNatClampNeg)))])) _
    refine XS.bipush X0.here hx rfl (hb hby d6_32) ?_
    show Steps p.tables e below (s₁.setTop (mkF m 34 #[.val (.ref o0), .val (.long q1), .second] [(.int (16 : Int32)), (.long q1), (.int ((g ((2 : Int32) : Int32).toNatClampNeg)))])) _
    refine XS.lushr X0.here hx rfl (hb hby d6_34) rfl ?_
    show Steps p.tables e below (s₁.setTop (mkF m 35 #[.val (.ref o0), .val (.long q1), .second] [(.long ((q1.toUInt64 >>> ((16 : Int32) &&& 0x3f).toInt64.toUInt64).toInt64)), (.int ((g ((2 : Int32) : Int32).toNatClampNeg)))])) _
    refine XS.l2i X0.here hx rfl (hb hby d6_35) rfl ?_
    show Steps p.tables e below (s₁.setTop (mkF m 36 #[.val (.ref o0), .val (.long q1), .second] [(.int (((q1.toUInt64 >>> ((16 : Int32) &&& 0x3f).toInt64.toUInt64).toInt64).toInt32)), (.int ((g ((2 : Int32) : Int32).toNatClampNeg)))])) _
    refine XS.i2b X0.here hx rfl (hb hby d6_36) rfl ?_
    show Steps p.tables e below (s₁.setTop (mkF m 37 #[.val (.ref o0), .val (.long q1), .second] [(.int ((((q1.toUInt64 >>> ((16 : Int32) &&& 0x3f).toInt64.toUInt64).toInt64).toInt32).toInt8.toInt32)), (.int ((g ((2 : Int32) : Int32).toNatClampNeg)))])) _
    refine XS.icmpNo X0.here hx rfl (hb hby d6_37) rfl (teq (show ((g ((2 : Int32) : Int32).toNatClampNeg)) = ((((q1.toUInt64 >>> ((16 : Int32) &&& 0x3f).toInt64.toUInt64).toInt64).toInt32).toInt8.toInt32) from k2)).2 ?_
    show Steps p.tables e below (s₁.setTop (mkF m 40 #[.val (.ref o0), .val (.long q1), .second] [])) _
    refine XS.aloadN X0.here hx rfl (hb hby d6_40) rfl rfl ?_
    show Steps p.tables e below (s₁.setTop (mkF m 41 #[.val (.ref o0), .val (.long q1), .second] [(.ref o0)])) _
    refine XS.iconst X0.here hx rfl (hb hby d6_41) ?_
    show Steps p.tables e below (s₁.setTop (mkF m 42 #[.val (.ref o0), .val (.long q1), .second] [(.int (3 : Int32)), (.ref o0)])) _
    refine X0.baloadBytes hx (j := (3 : Int32)) (v := (.int ((g ((3 : Int32) : Int32).toNatClampNeg)))) (by rw [e0]; exact Ar8.1) (State.isArrayOf_alike hZ.alike Ar8.2.1) Ar8.2.2 (own_in Sz8 hi9) hl9 (g := (mkF m 42 #[.val (.ref o0), .val (.long q1), .second] [(.int (3 : Int32)), (.ref o0)])) rfl rfl (hb hby d6_42) _ ?_
    show Steps p.tables e below (s₁.setTop (mkF m 43 #[.val (.ref o0), .val (.long q1), .second] [(.int ((g ((3 : Int32) : Int32).toNatClampNeg)))])) _
    refine XS.lloadN X0.here hx rfl (hb hby d6_43) rfl ?_
    show Steps p.tables e below (s₁.setTop (mkF m 44 #[.val (.ref o0), .val (.long q1), .second] [(.long q1), (.int ((g ((3 : Int32) : Int32).toNatClampNeg)))])) _
    refine XS.bipush X0.here hx rfl (hb hby d6_44) ?_
    show Steps p.tables e below (s₁.setTop (mkF m 46 #[.val (.ref o0), .val (.long q1), .second] [(.int (24 : Int32)), (.long q1), (.int ((g ((3 : Int32) : Int32).toNatClampNeg)))])) _
    refine XS.lushr X0.here hx rfl (hb hby d6_46) rfl ?_
    show Steps p.tables e below (s₁.setTop (mkF m 47 #[.val (.ref o0), .val (.long q1), .second] [(.long ((q1.toUInt64 >>> ((24 : Int32) &&& 0x3f).toInt64.toUInt64).toInt64)), (.int ((g ((3 : Int32) : Int32).toNatClampNeg)))])) _
    refine XS.l2i X0.here hx rfl (hb hby d6_47) rfl ?_
    show Steps p.tables e below (s₁.setTop (mkF m 48 #[.val (.ref o0), .val (.long q1), .second] [(.int (((q1.toUInt64 >>> ((24 : Int32) &&& 0x3f).toInt64.toUInt64).toInt64).toInt32)), (.int ((g ((3 : Int32) : Int32).toNatClampNeg)))])) _
    refine XS.i2b X0.here hx rfl (hb hby d6_48) rfl ?_
    show Steps p.tables e below (s₁.setTop (mkF m 49 #[.val (.ref o0), .val (.long q1), .second] [(.int ((((q1.toUInt64 >>> ((24 : Int32) &&& 0x3f).toInt64.toUInt64).toInt64).toInt32).toInt8.toInt32)), (.int ((g ((3 : Int32) : Int32).toNatClampNeg)))])) _
    refine XS.icmpNo X0.here hx rfl (hb hby d6_49) rfl (teq (show ((g ((3 : Int32) : Int32).toNatClampNeg)) = ((((q1.toUInt64 >>> ((24 : Int32) &&& 0x3f).toInt64.toUInt64).toInt64).toInt32).toInt8.toInt32) from k3)).2 ?_
    show Steps p.tables e below (s₁.setTop (mkF m 52 #[.val (.ref o0), .val (.long q1), .second] [])) _
    refine XS.aloadN X0.here hx rfl (hb hby d6_52) rfl rfl ?_
    show Steps p.tables e below (s₁.setTop (mkF m 53 #[.val (.ref o0), .val (.long q1), .second] [(.ref o0)])) _
    refine XS.iconst X0.here hx rfl (hb hby d6_53) ?_
    show Steps p.tables e below (s₁.setTop (mkF m 54 #[.val (.ref o0), .val (.long q1), .second] [(.int (4 : Int32)), (.ref o0)])) _
    refine X0.baloadBytes hx (j := (4 : Int32)) (v := (.int ((g ((4 : Int32) : Int32).toNatClampNeg)))) (by rw [e0]; exact Ar10.1) (State.isArrayOf_alike hZ.alike Ar10.2.1) Ar10.2.2 (own_in Sz10 hi11) hl11 (g := (mkF m 54 #[.val (.ref o0), .val (.long q1), .second] [(.int (4 : Int32)), (.ref o0)])) rfl rfl (hb hby d6_54) _ ?_
    show Steps p.tables e below (s₁.setTop (mkF m 55 #[.val (.ref o0), .val (.long q1), .second] [(.int ((g ((4 : Int32) : Int32).toNatClampNeg)))])) _
    refine XS.lloadN X0.here hx rfl (hb hby d6_55) rfl ?_
    show Steps p.tables e below (s₁.setTop (mkF m 56 #[.val (.ref o0), .val (.long q1), .second] [(.long q1), (.int ((g ((4 : Int32) : Int32).toNatClampNeg)))])) _
    refine XS.bipush X0.here hx rfl (hb hby d6_56) ?_
    show Steps p.tables e below (s₁.setTop (mkF m 58 #[.val (.ref o0), .val (.long q1), .second] [(.int (32 : Int32)), (.long q1), (.int ((g ((4 : Int32) : Int32).toNatClampNeg)))])) _
    refine XS.lushr X0.here hx rfl (hb hby d6_58) rfl ?_
    show Steps p.tables e below (s₁.setTop (mkF m 59 #[.val (.ref o0), .val (.long q1), .second] [(.long ((q1.toUInt64 >>> ((32 : Int32) &&& 0x3f).toInt64.toUInt64).toInt64)), (.int ((g ((4 : Int32) : Int32).toNatClampNeg)))])) _
    refine XS.l2i X0.here hx rfl (hb hby d6_59) rfl ?_
    show Steps p.tables e below (s₁.setTop (mkF m 60 #[.val (.ref o0), .val (.long q1), .second] [(.int (((q1.toUInt64 >>> ((32 : Int32) &&& 0x3f).toInt64.toUInt64).toInt64).toInt32)), (.int ((g ((4 : Int32) : Int32).toNatClampNeg)))])) _
    refine XS.i2b X0.here hx rfl (hb hby d6_60) rfl ?_
    show Steps p.tables e below (s₁.setTop (mkF m 61 #[.val (.ref o0), .val (.long q1), .second] [(.int ((((q1.toUInt64 >>> ((32 : Int32) &&& 0x3f).toInt64.toUInt64).toInt64).toInt32).toInt8.toInt32)), (.int ((g ((4 : Int32) : Int32).toNatClampNeg)))])) _
    refine XS.icmpNo X0.here hx rfl (hb hby d6_61) rfl (teq (show ((g ((4 : Int32) : Int32).toNatClampNeg)) = ((((q1.toUInt64 >>> ((32 : Int32) &&& 0x3f).toInt64.toUInt64).toInt64).toInt32).toInt8.toInt32) from k4)).2 ?_
    show Steps p.tables e below (s₁.setTop (mkF m 64 #[.val (.ref o0), .val (.long q1), .second] [])) _
    refine XS.aloadN X0.here hx rfl (hb hby d6_64) rfl rfl ?_
    show Steps p.tables e below (s₁.setTop (mkF m 65 #[.val (.ref o0), .val (.long q1), .second] [(.ref o0)])) _
    refine XS.iconst X0.here hx rfl (hb hby d6_65) ?_
    show Steps p.tables e below (s₁.setTop (mkF m 66 #[.val (.ref o0), .val (.long q1), .second] [(.int (5 : Int32)), (.ref o0)])) _
    refine X0.baloadBytes hx (j := (5 : Int32)) (v := (.int ((g ((5 : Int32) : Int32).toNatClampNeg)))) (by rw [e0]; exact Ar12.1) (State.isArrayOf_alike hZ.alike Ar12.2.1) Ar12.2.2 (own_in Sz12 hi13) hl13 (g := (mkF m 66 #[.val (.ref o0), .val (.long q1), .second] [(.int (5 : Int32)), (.ref o0)])) rfl rfl (hb hby d6_66) _ ?_
    show Steps p.tables e below (s₁.setTop (mkF m 67 #[.val (.ref o0), .val (.long q1), .second] [(.int ((g ((5 : Int32) : Int32).toNatClampNeg)))])) _
    refine XS.lloadN X0.here hx rfl (hb hby d6_67) rfl ?_
    show Steps p.tables e below (s₁.setTop (mkF m 68 #[.val (.ref o0), .val (.long q1), .second] [(.long q1), (.int ((g ((5 : Int32) : Int32).toNatClampNeg)))])) _
    refine XS.bipush X0.here hx rfl (hb hby d6_68) ?_
    show Steps p.tables e below (s₁.setTop (mkF m 70 #[.val (.ref o0), .val (.long q1), .second] [(.int (40 : Int32)), (.long q1), (.int ((g ((5 : Int32) : Int32).toNatClampNeg)))])) _
    refine XS.lushr X0.here hx rfl (hb hby d6_70) rfl ?_
    show Steps p.tables e below (s₁.setTop (mkF m 71 #[.val (.ref o0), .val (.long q1), .second] [(.long ((q1.toUInt64 >>> ((40 : Int32) &&& 0x3f).toInt64.toUInt64).toInt64)), (.int ((g ((5 : Int32) : Int32).toNatClampNeg)))])) _
    refine XS.l2i X0.here hx rfl (hb hby d6_71) rfl ?_
    show Steps p.tables e below (s₁.setTop (mkF m 72 #[.val (.ref o0), .val (.long q1), .second] [(.int (((q1.toUInt64 >>> ((40 : Int32) &&& 0x3f).toInt64.toUInt64).toInt64).toInt32)), (.int ((g ((5 : Int32) : Int32).toNatClampNeg)))])) _
    refine XS.i2b X0.here hx rfl (hb hby d6_72) rfl ?_
    show Steps p.tables e below (s₁.setTop (mkF m 73 #[.val (.ref o0), .val (.long q1), .second] [(.int ((((q1.toUInt64 >>> ((40 : Int32) &&& 0x3f).toInt64.toUInt64).toInt64).toInt32).toInt8.toInt32)), (.int ((g ((5 : Int32) : Int32).toNatClampNeg)))])) _
    refine XS.icmpNo X0.here hx rfl (hb hby d6_73) rfl (teq (show ((g ((5 : Int32) : Int32).toNatClampNeg)) = ((((q1.toUInt64 >>> ((40 : Int32) &&& 0x3f).toInt64.toUInt64).toInt64).toInt32).toInt8.toInt32) from k5)).2 ?_
    show Steps p.tables e below (s₁.setTop (mkF m 76 #[.val (.ref o0), .val (.long q1), .second] [])) _
    refine XS.iconst X0.here hx rfl (hb hby d6_76) ?_
    show Steps p.tables e below (s₁.setTop (mkF m 77 #[.val (.ref o0), .val (.long q1), .second] [(.int (1 : Int32))])) _
    refine XS.goto X0.here hx rfl (pc0 := 77) (pc' := 81) rfl (hb hby d6_77) (by decide) (by decide) ?_
    show Steps p.tables e below (s₁.setTop (mkF m 81 #[.val (.ref o0), .val (.long q1), .second] [(.int (1 : Int32))])) _
    exact k)
  obtain ⟨fs, hr, hrun, hended, hW, hsame⟩ := X0.leave (v := some (.int (1 : Int32))) (fun h => by rw [Bd.returns] at h; cases h)
  refine ⟨_, _, pre14 _ ?_, hrun, hended, _, _, rfl, ?_, ⟨_, rfl⟩, hW, hsame.mono (by decide) (by decide)⟩
  · exact retN X0 hx (t := .boolean) Bd.returns (by simp) (hb hby d6_81) hr
  · show Q6 Z o0 q1 g h0 n0 _ s₁.heap _
    rw [e0]
    exact ⟨rfl, N0, rfl⟩
theorem pd_1 : parseMethodDescriptor "([B)Lcom/example/keyclasp/keyclasp/methods/MacAddress;" = some ⟨[(.array .byte)], some (.object "com/example/keyclasp/keyclasp/methods/MacAddress")⟩ := by decide +kernel
theorem pd_2 : parseMethodDescriptor "()[B" = some ⟨[], some (.array .byte)⟩ := by decide +kernel
theorem pd_3 : parseMethodDescriptor "([BJ)Z" = some ⟨[(.array .byte), .long], some .boolean⟩ := by decide +kernel
theorem ef_0 (m : MethodId) (q0 : Int64) : entryFrame m #[(.long q0)] maxLocals = mkF m 0 #[.val (.long q0), .second, .unset, .unset, .unset, .unset, .unset, .unset] [] := by first | (simp [entryFrame, mkF, argsToLocals, Value.category, maxLocals]; done) | rfl

def Q0 (Z : State) (q0 : Int64) (h0 : Heap) (n0 : Nat) (v : Option Value) (h : Heap) (L : List Loc) : Prop := v = some (.int 1) ∧ Fr n0 L
set_option maxRecDepth 65536 in
set_option maxHeartbeats 40000000 in
theorem rm0 (l : Launch) (Z : State) (a0 : Array Value) (hw : ∀ d ∈ tables_1, d.before a0 Z = true) (ws : List Jvm.Cond) (q0 : Int64) (h0 : Heap) (n0 : Nat) (Z0 : n0 ≤ h0.size)  :
    MetFree l x (head1 (Jvm.Cond.code x code maxLocals ret :: ws) room_1) (fun a U => a = #[(.long q0)] ∧ Z.Warmed39 U.vm ∧ U.heap = h0) (fun _ _ _ _ _ => True) (fun _ U o U' => ∃ v L, o = .returned v ∧ Q0 Z q0 h0 n0 v U'.heap L ∧ FrameEnd U o U' L room_1.cells room_1.slots) := by
  refine MetFree.of_bodySF (plainFor_of_name pn_1) hisR ?_
  intro p e s m args below meth c s₁ Bd hml0 hP hK
  obtain ⟨rfl, hZ, hh⟩ := hP
  have hx := Bd.exec
  have hby := Bd.bytes
  have hml : c.maxLocals = 8 := hml0
  have hown : s.vm.findClass "com/example/keyclasp/keyclasp/methods/MacAddressOfPinLaw" = some m.cls := findClass_of_methodNamed Bd.named
  have hnm := (name_of_methodNamed Bd.named Bd.method).1
  have X0 : Stand p l e room_1 s m #[(.long q0)] below meth c s₁ [] 0 0 := Stand.of_body Bd
  have e0 : s₁.heap = h0 := by rw [← hh, Bd.state]; rfl
  have N0 := Fr.nil n0
  have pre0 : ∀ t, Steps p.tables e below (s₁.setTop (mkF m 0 #[.val (.long q0), .second, .unset, .unset, .unset, .unset, .unset, .unset] [])) t → Steps p.tables e below (s₁.setTop (entryFrame m #[(.long q0)] maxLocals)) t := fun t k => castTop (ef_0 m q0) k
  obtain ⟨T1, h1, k1, X1, e1, Ex1, Ne1, Nx1, st1⟩ := newPE X0 hx hZ (hw _ (List.mem_of_getElem? (i := 0) rfl)) e0 (g := (mkF m 2 #[.val (.long q0), .second, .unset, .unset, .unset, .unset, .unset, .unset] [(.int (6 : Int32))])) rfl (hb hby at_2) rfl (by decide) (cap := 6) (by decide) (by decide) (by decide) (by decide) (ad := "[B") (by decide)
  obtain ⟨b1, g1⟩ : ∃ z, z = h0.size := ⟨_, rfl⟩
  rw [← g1] at Ne1 Nx1 st1
  have g_b1 : n0 ≤ b1 := Nat.le_trans (Nat.le_trans Z0 (Nat.le_refl _)) (Nat.le_of_eq g1.symm)
  have sz_b1 : h0.size ≤ b1 := Nat.le_trans (Nat.le_refl _) (Nat.le_of_eq g1.symm)
  have SZ3 : h0.size ≤ h1.size := Nat.le_trans (Nat.le_refl _) Ex1.1
  have ZZ3 : n0 ≤ h1.size := Nat.le_trans Z0 SZ3
  have K4 : Keep h0 h1 [] := ((Keep.refl h0 [])).ext Ex1
  have A_b1_1 : own_A Z h1 b1 .byte 6 (fun _ => (.int (0 : Int32))) := own_A.new Ne1
  have qa5 := A_b1_1
  obtain ⟨c5, Ar5, Sz5, H5⟩ := qa5
  have hi6 : 0 ≤ ((0 : Int32) : Int32).toInt ∧ ((0 : Int32) : Int32).toInt < (6 : Nat) := (by decide)
  obtain ⟨T6, h6, X6, e6, W6, st6⟩ := stB X1 hx hZ e1 Ar5 (j := (0 : Int32)) (own_in Sz5 hi6) (g := (mkF m 10 #[.val (.long q0), .second, .val (.ref b1), .unset, .unset, .unset, .unset, .unset] [(.int ((q0.toInt32).toInt8.toInt32)), (.int (0 : Int32)), (.ref b1)])) rfl rfl (hb hby at_10)
  have N6 := Fr.snoc X6 N0 g_b1
  have A_b1_w6 : own_A Z h6 b1 .byte 6 (fun _ => (.int (if _ = ((0 : Int32) : Int32).toNatClampNeg then (nar .byte ((q0.toInt32).toInt8.toInt32)) else (0 : Int32)))) := own_A.setI A_b1_1 W6
  have E_b1_7 : Exa Z h6 b1 "[B" := (Nx1).wr W6
  have SZ8 : h0.size ≤ h6.size := by rw [W6.size]; exact SZ3
  have ZZ8 : n0 ≤ h6.size := Nat.le_trans Z0 SZ8
  have K9 : Keep h0 h6 [] := (K4).wr W6 (Or.inr sz_b1)
  have qa10 := A_b1_w6
  obtain ⟨c10, Ar10, Sz10, H10⟩ := qa10
  have hi11 : 0 ≤ ((1 : Int32) : Int32).toInt ∧ ((1 : Int32) : Int32).toInt < (6 : Nat) := (by decide)
  obtain ⟨T11, h11, X11, e11, W11, st11⟩ := stB X6 hx hZ e6 Ar10 (j := (1 : Int32)) (own_in Sz10 hi11) (g := (mkF m 19 #[.val (.long q0), .second, .val (.ref b1), .unset, .unset, .unset, .unset, .unset] [(.int ((((q0.toUInt64 >>> ((8 : Int32) &&& 0x3f).toInt64.toUInt64).toInt64).toInt32).toInt8.toInt32)), (.int (1 : Int32)), (.ref b1)])) rfl rfl (hb hby at_19)
  have N11 := Fr.snoc X11 N6 g_b1
  have A_b1_w11 : own_A Z h11 b1 .byte 6 (fun _ => (.int (if _ = ((1 : Int32) : Int32).toNatClampNeg then (nar .byte ((((q0.toUInt64 >>> ((8 : Int32) &&& 0x3f).toInt64.toUInt64).toInt64).toInt32).toInt8.toInt32)) else (if _ = ((0 : Int32) : Int32).toNatClampNeg then (nar .byte ((q0.toInt32).toInt8.toInt32)) else (0 : Int32))))) := own_A.setI A_b1_w6 W11
  have E_b1_12 : Exa Z h11 b1 "[B" := (E_b1_7).wr W11
  have SZ13 : h0.size ≤ h11.size := by rw [W11.size]; exact SZ8
  have ZZ13 : n0 ≤ h11.size := Nat.le_trans Z0 SZ13
  have K14 : Keep h0 h11 [] := (K9).wr W11 (Or.inr sz_b1)
  have qa15 := A_b1_w11
  obtain ⟨c15, Ar15, Sz15, H15⟩ := qa15
  have hi16 : 0 ≤ ((2 : Int32) : Int32).toInt ∧ ((2 : Int32) : Int32).toInt < (6 : Nat) := (by decide)
  obtain ⟨T16, h16, X16, e16, W16, st16⟩ := stB X11 hx hZ e11 Ar15 (j := (2 : Int32)) (own_in Sz15 hi16) (g := (mkF m 28 #[.val (.long q0), .second, .val (.ref b1), .unset, .unset, .unset, .unset, .unset] [(.int ((((q0.toUInt64 >>> ((16 : Int32) &&& 0x3f).toInt64.toUInt64).toInt64).toInt32).toInt8.toInt32)), (.int (2 : Int32)), (.ref b1)])) rfl rfl (hb hby at_28)
  have N16 := Fr.snoc X16 N11 g_b1
  have A_b1_w16 : own_A Z h16 b1 .byte 6 (fun _ => (.int (if _ = ((2 : Int32) : Int32).toNatClampNeg then (nar .byte ((((q0.toUInt64 >>> ((16 : Int32) &&& 0x3f).toInt64.toUInt64).toInt64).toInt32).toInt8.toInt32)) else (if _ = ((1 : Int32) : Int32).toNatClampNeg then (nar .byte ((((q0.toUInt64 >>> ((8 : Int32) &&& 0x3f).toInt64.toUInt64).toInt64).toInt32).toInt8.toInt32)) else (if _ = ((0 : Int32) : Int32).toNatClampNeg then (nar .byte ((q0.toInt32).toInt8.toInt32)) else (0 : Int32)))))) := own_A.setI A_b1_w11 W16
  have E_b1_17 : Exa Z h16 b1 "[B" := (E_b1_12).wr W16
  have SZ18 : h0.size ≤ h16.size := by rw [W16.size]; exact SZ13
  have ZZ18 : n0 ≤ h16.size := Nat.le_trans Z0 SZ18
  have K19 : Keep h0 h16 [] := (K14).wr W16 (Or.inr sz_b1)
  have qa20 := A_b1_w16
  obtain ⟨c20, Ar20, Sz20, H20⟩ := qa20
  have hi21 : 0 ≤ ((3 : Int32) : Int32).toInt ∧ ((3 : Int32) : Int32).toInt < (6 : Nat) := (by decide)
  obtain ⟨T21, h21, X21, e21, W21, st21⟩ := stB X16 hx hZ e16 Ar20 (j := (3 : Int32)) (own_in Sz20 hi21) (g := (mkF m 37 #[.val (.long q0), .second, .val (.ref b1), .unset, .unset, .unset, .unset, .unset] [(.int ((((q0.toUInt64 >>> ((24 : Int32) &&& 0x3f).toInt64.toUInt64).toInt64).toInt32).toInt8.toInt32)), (.int (3 : Int32)), (.ref b1)])) rfl rfl (hb hby at_37)
  have N21 := Fr.snoc X21 N16 g_b1
  have A_b1_w21 : own_A Z h21 b1 .byte 6 (fun _ => (.int (if _ = ((3 : Int32) : Int32).toNatClampNeg then (nar .byte ((((q0.toUInt64 >>> ((24 : Int32) &&& 0x3f).toInt64.toUInt64).toInt64).toInt32).toInt8.toInt32)) else (if _ = ((2 : Int32) : Int32).toNatClampNeg then (nar .byte ((((q0.toUInt64 >>> ((16 : Int32) &&& 0x3f).toInt64.toUInt64).toInt64).toInt32).toInt8.toInt32)) else (if _ = ((1 : Int32) : Int32).toNatClampNeg then (nar .byte ((((q0.toUInt64 >>> ((8 : Int32) &&& 0x3f).toInt64.toUInt64).toInt64).toInt32).toInt8.toInt32)) else (if _ = ((0 : Int32) : Int32).toNatClampNeg then (nar .byte ((q0.toInt32).toInt8.toInt32)) else (0 : Int32))))))) := own_A.setI A_b1_w16 W21
  have E_b1_22 : Exa Z h21 b1 "[B" := (E_b1_17).wr W21
  have SZ23 : h0.size ≤ h21.size := by rw [W21.size]; exact SZ18
  have ZZ23 : n0 ≤ h21.size := Nat.le_trans Z0 SZ23
  have K24 : Keep h0 h21 [] := (K19).wr W21 (Or.inr sz_b1)
  have qa25 := A_b1_w21
  obtain ⟨c25, Ar25, Sz25, H25⟩ := qa25
  have hi26 : 0 ≤ ((4 : Int32) : Int32).toInt ∧ ((4 : Int32) : Int32).toInt < (6 : Nat) := (by decide)
  obtain ⟨T26, h26, X26, e26, W26, st26⟩ := stB X21 hx hZ e21 Ar25 (j := (4 : Int32)) (own_in Sz25 hi26) (g := (mkF m 46 #[.val (.long q0), .second, .val (.ref b1), .unset, .unset, .unset, .unset, .unset] [(.int ((((q0.toUInt64 >>> ((32 : Int32) &&& 0x3f).toInt64.toUInt64).toInt64).toInt32).toInt8.toInt32)), (.int (4 : Int32)), (.ref b1)])) rfl rfl (hb hby at_46)
  have N26 := Fr.snoc X26 N21 g_b1
  have A_b1_w26 : own_A Z h26 b1 .byte 6 (fun _ => (.int (if _ = ((4 : Int32) : Int32).toNatClampNeg then (nar .byte ((((q0.toUInt64 >>> ((32 : Int32) &&& 0x3f).toInt64.toUInt64).toInt64).toInt32).toInt8.toInt32)) else (if _ = ((3 : Int32) : Int32).toNatClampNeg then (nar .byte ((((q0.toUInt64 >>> ((24 : Int32) &&& 0x3f).toInt64.toUInt64).toInt64).toInt32).toInt8.toInt32)) else (if _ = ((2 : Int32) : Int32).toNatClampNeg then (nar .byte ((((q0.toUInt64 >>> ((16 : Int32) &&& 0x3f).toInt64.toUInt64).toInt64).toInt32).toInt8.toInt32)) else (if _ = ((1 : Int32) : Int32).toNatClampNeg then (nar .byte ((((q0.toUInt64 >>> ((8 : Int32) &&& 0x3f).toInt64.toUInt64).toInt64).toInt32).toInt8.toInt32)) else (if _ = ((0 : Int32) : Int32).toNatClampNeg then (nar .byte ((q0.toInt32).toInt8.toInt32)) else (0 : Int32)))))))) := own_A.setI A_b1_w21 W26
  have E_b1_27 : Exa Z h26 b1 "[B" := (E_b1_22).wr W26
  have SZ28 : h0.size ≤ h26.size := by rw [W26.size]; exact SZ23
  have ZZ28 : n0 ≤ h26.size := Nat.le_trans Z0 SZ28
  have K29 : Keep h0 h26 [] := (K24).wr W26 (Or.inr sz_b1)
  have qa30 := A_b1_w26
  obtain ⟨c30, Ar30, Sz30, H30⟩ := qa30
  have hi31 : 0 ≤ ((5 : Int32) : Int32).toInt ∧ ((5 : Int32) : Int32).toInt < (6 : Nat) := (by decide)
  obtain ⟨T31, h31, X31, e31, W31, st31⟩ := stB X26 hx hZ e26 Ar30 (j := (5 : Int32)) (own_in Sz30 hi31) (g := (mkF m 55 #[.val (.long q0), .second, .val (.ref b1), .unset, .unset, .unset, .unset, .unset] [(.int ((((q0.toUInt64 >>> ((40 : Int32) &&& 0x3f).toInt64.toUInt64).toInt64).toInt32).toInt8.toInt32)), (.int (5 : Int32)), (.ref b1)])) rfl rfl (hb hby at_55)
  have N31 := Fr.snoc X31 N26 g_b1
  have A_b1_w31 : own_A Z h31 b1 .byte 6 (fun _ => (.int (if _ = ((5 : Int32) : Int32).toNatClampNeg then (nar .byte ((((q0.toUInt64 >>> ((40 : Int32) &&& 0x3f).toInt64.toUInt64).toInt64).toInt32).toInt8.toInt32)) else (if _ = ((4 : Int32) : Int32).toNatClampNeg then (nar .byte ((((q0.toUInt64 >>> ((32 : Int32) &&& 0x3f).toInt64.toUInt64).toInt64).toInt32).toInt8.toInt32)) else (if _ = ((3 : Int32) : Int32).toNatClampNeg then (nar .byte ((((q0.toUInt64 >>> ((24 : Int32) &&& 0x3f).toInt64.toUInt64).toInt64).toInt32).toInt8.toInt32)) else (if _ = ((2 : Int32) : Int32).toNatClampNeg then (nar .byte ((((q0.toUInt64 >>> ((16 : Int32) &&& 0x3f).toInt64.toUInt64).toInt64).toInt32).toInt8.toInt32)) else (if _ = ((1 : Int32) : Int32).toNatClampNeg then (nar .byte ((((q0.toUInt64 >>> ((8 : Int32) &&& 0x3f).toInt64.toUInt64).toInt64).toInt32).toInt8.toInt32)) else (if _ = ((0 : Int32) : Int32).toNatClampNeg then (nar .byte ((q0.toInt32).toInt8.toInt32)) else (0 : Int32))))))))) := own_A.setI A_b1_w26 W31
  have E_b1_32 : Exa Z h31 b1 "[B" := (E_b1_27).wr W31
  have SZ33 : h0.size ≤ h31.size := by rw [W31.size]; exact SZ28
  have ZZ33 : n0 ≤ h31.size := Nat.le_trans Z0 SZ33
  have K34 : Keep h0 h31 [] := (K29).wr W31 (Or.inr sz_b1)
  obtain ⟨_, _, ⟨T35, L35, k35, n35⟩, -, X35, ⟨Lc35, hQ35, l35, y35, z35⟩, st35⟩ := Jvm.LawKit.callS X31 hx (y := (⟨"com/example/keyclasp/keyclasp/methods/MacAddress", "of", "([B)Lcom/example/keyclasp/keyclasp/methods/MacAddress;"⟩ : MethodName)) hown (mvT hZ (hw _ (List.mem_of_getElem? (i := 1) rfl))) (mvT hZ (hw _ (List.mem_of_getElem? (i := 2) rfl))) (mvT hZ (hw _ (List.mem_of_getElem? (i := 3) rfl))) (mvT hZ (hw _ (List.mem_of_getElem? (i := 4) rfl))) (by decide) (backOf (W := 0) (rm1 l Z a0 hw [] b1 (fun _ => (if _ = ((5 : Int32) : Int32).toNatClampNeg then (nar .byte ((((q0.toUInt64 >>> ((40 : Int32) &&& 0x3f).toInt64.toUInt64).toInt64).toInt32).toInt8.toInt32)) else (if _ = ((4 : Int32) : Int32).toNatClampNeg then (nar .byte ((((q0.toUInt64 >>> ((32 : Int32) &&& 0x3f).toInt64.toUInt64).toInt64).toInt32).toInt8.toInt32)) else (if _ = ((3 : Int32) : Int32).toNatClampNeg then (nar .byte ((((q0.toUInt64 >>> ((24 : Int32) &&& 0x3f).toInt64.toUInt64).toInt64).toInt32).toInt8.toInt32)) else (if _ = ((2 : Int32) : Int32).toNatClampNeg then (nar .byte ((((q0.toUInt64 >>> ((16 : Int32) &&& 0x3f).toInt64.toUInt64).toInt64).toInt32).toInt8.toInt32)) else (if _ = ((1 : Int32) : Int32).toNatClampNeg then (nar .byte ((((q0.toUInt64 >>> ((8 : Int32) &&& 0x3f).toInt64.toUInt64).toInt64).toInt32).toInt8.toInt32)) else (if _ = ((0 : Int32) : Int32).toNatClampNeg then (nar .byte ((q0.toInt32).toInt8.toInt32)) else (0 : Int32)))))))) h31 n0 ZZ33 A_b1_w31 E_b1_32 (fun i hi => by rcases (show i = 0 ∨ i = 1 ∨ i = 2 ∨ i = 3 ∨ i = 4 ∨ i = 5 by omega) with rfl | rfl | rfl | rfl | rfl | rfl <;> exact fits_nar_byte _)) hZ (hw _ (List.mem_of_getElem? (i := 4) rfl)) (hw _ (List.mem_of_getElem? (i := 3) rfl)) (by decide) (by decide)) (g := (mkF m 57 #[.val (.long q0), .second, .val (.ref b1), .unset, .unset, .unset, .unset, .unset] [(.ref b1)])) rfl (by rw [hml]; rfl) (argsL := [(.ref b1)]) (rest := []) (lenOf pd_1 rfl) rfl (by show 2 * 0 + _ ≤ _; exact Nat.le_of_eq rfl) (hb hby at_57) (fun _ _ => ⟨rfl, e31, (by decide : 1 + 2 ≤ _), (by decide : 6 + 7 ≤ _)⟩)
  dsimp only [Pt.U, Pt.locs, Pt.cells, Pt.slots] at X35 l35 y35 z35 st35 hQ35
  subst l35 y35 z35
  obtain ⟨b_35, t_35, rfl, N35q, Kc35, sz_b_35, sz_t_35, ne_b_t_35, P35_0, P35_1, P35_2, P35_3⟩ := hQ35
  have N35 := Fr.app N31 N35q
  have E_b1_36 : Exa Z T35.heap b1 "[B" := (E_b1_32).keep Kc35
  have A_b1_36 : own_A Z T35.heap b1 .byte 6 (fun _ => (.int (if _ = ((5 : Int32) : Int32).toNatClampNeg then (nar .byte ((((q0.toUInt64 >>> ((40 : Int32) &&& 0x3f).toInt64.toUInt64).toInt64).toInt32).toInt8.toInt32)) else (if _ = ((4 : Int32) : Int32).toNatClampNeg then (nar .byte ((((q0.toUInt64 >>> ((32 : Int32) &&& 0x3f).toInt64.toUInt64).toInt64).toInt32).toInt8.toInt32)) else (if _ = ((3 : Int32) : Int32).toNatClampNeg then (nar .byte ((((q0.toUInt64 >>> ((24 : Int32) &&& 0x3f).toInt64.toUInt64).toInt64).toInt32).toInt8.toInt32)) else (if _ = ((2 : Int32) : Int32).toNatClampNeg then (nar .byte ((((q0.toUInt64 >>> ((16 : Int32) &&& 0x3f).toInt64.toUInt64).toInt64).toInt32).toInt8.toInt32)) else (if _ = ((1 : Int32) : Int32).toNatClampNeg then (nar .byte ((((q0.toUInt64 >>> ((8 : Int32) &&& 0x3f).toInt64.toUInt64).toInt64).toInt32).toInt8.toInt32)) else (if _ = ((0 : Int32) : Int32).toNatClampNeg then (nar .byte ((q0.toInt32).toInt8.toInt32)) else (0 : Int32))))))))) := (A_b1_w31).keep Kc35 nin0
  have SZ37 : h0.size ≤ T35.heap.size := Nat.le_trans SZ33 Kc35.1
  have ZZ37 : n0 ≤ T35.heap.size := Nat.le_trans Z0 SZ37
  have K38 : Keep h0 T35.heap [] := (K34).trans Kc35 all0
  have ne_b1_b_35 : b1 ≠ b_35 := Nat.ne_of_lt (Nat.lt_of_lt_of_le (E_b1_32).lt sz_b_35)
  have g_b_35 : n0 ≤ b_35 := Nat.le_trans (Nat.le_trans Z0 SZ33) sz_b_35
  have szz_b_35 : h0.size ≤ b_35 := Nat.le_trans SZ33 sz_b_35
  have ne_b1_t_35 : b1 ≠ t_35 := Nat.ne_of_lt (Nat.lt_of_lt_of_le (E_b1_32).lt sz_t_35)
  have g_t_35 : n0 ≤ t_35 := Nat.le_trans (Nat.le_trans Z0 SZ33) sz_t_35
  have szz_t_35 : h0.size ≤ t_35 := Nat.le_trans SZ33 sz_t_35
  obtain ⟨_, _, ⟨T39, L39, k39, n39⟩, -, X39, ⟨Lc39, hQ39, l39, y39, z39⟩, st39⟩ := Jvm.LawKit.callS X35 hx (y := (⟨"com/example/keyclasp/keyclasp/methods/MacAddressOfPinLaw", "flip", "([B)V"⟩ : MethodName)) hown (mvT hZ (hw _ (List.mem_of_getElem? (i := 24) rfl))) (mvT hZ (hw _ (List.mem_of_getElem? (i := 25) rfl))) (mvT hZ (hw _ (List.mem_of_getElem? (i := 26) rfl))) (mvT hZ (hw _ (List.mem_of_getElem? (i := 27) rfl))) (by decide) (backOf (W := 0) (rm4 l Z a0 hw [] b1 (fun _ => (if _ = ((5 : Int32) : Int32).toNatClampNeg then (nar .byte ((((q0.toUInt64 >>> ((40 : Int32) &&& 0x3f).toInt64.toUInt64).toInt64).toInt32).toInt8.toInt32)) else (if _ = ((4 : Int32) : Int32).toNatClampNeg then (nar .byte ((((q0.toUInt64 >>> ((32 : Int32) &&& 0x3f).toInt64.toUInt64).toInt64).toInt32).toInt8.toInt32)) else (if _ = ((3 : Int32) : Int32).toNatClampNeg then (nar .byte ((((q0.toUInt64 >>> ((24 : Int32) &&& 0x3f).toInt64.toUInt64).toInt64).toInt32).toInt8.toInt32)) else (if _ = ((2 : Int32) : Int32).toNatClampNeg then (nar .byte ((((q0.toUInt64 >>> ((16 : Int32) &&& 0x3f).toInt64.toUInt64).toInt64).toInt32).toInt8.toInt32)) else (if _ = ((1 : Int32) : Int32).toNatClampNeg then (nar .byte ((((q0.toUInt64 >>> ((8 : Int32) &&& 0x3f).toInt64.toUInt64).toInt64).toInt32).toInt8.toInt32)) else (if _ = ((0 : Int32) : Int32).toNatClampNeg then (nar .byte ((q0.toInt32).toInt8.toInt32)) else (0 : Int32)))))))) T35.heap n0 ZZ37 A_b1_36 g_b1) hZ (hw _ (List.mem_of_getElem? (i := 27) rfl)) (hw _ (List.mem_of_getElem? (i := 26) rfl)) (by decide) (by decide)) (g := (mkF m 62 #[.val (.long q0), .second, .val (.ref b1), .val (.ref b_35), .unset, .unset, .unset, .unset] [(.ref b1)])) rfl (by rw [hml]; rfl) (argsL := [(.ref b1)]) (rest := []) (lenOf pd_0 rfl) rfl (by show 2 * 0 + _ ≤ _; exact Nat.le_of_eq rfl) (hb hby at_62) (fun _ _ => ⟨rfl, rfl, (by decide : 3 + 0 ≤ _), (by decide : 13 + 0 ≤ _)⟩)
  dsimp only [Pt.U, Pt.locs, Pt.cells, Pt.slots] at X39 l39 y39 z39 st39 hQ39
  subst l39 y39 z39
  obtain ⟨rfl, N39q, Kc39⟩ := hQ39
  have N39 := Fr.app N35 N39q
  have E_b1_40 : Exa Z T39.heap b1 "[B" := (E_b1_36).keep Kc39
  have E_b_35_40 : Exa Z T39.heap b_35 "com/example/keyclasp/keyclasp/methods/MacAddress" := (P35_0).keep Kc39
  have F_bytes_b_35_40 : Fld Z T39.heap b_35 "com/example/keyclasp/keyclasp/methods/MacAddress" "bytes" "[B" (.ref t_35) := (P35_1).keep Kc39 (ninS (Ne.symm ne_b1_b_35) nin0)
  have A_t_35_40 : own_A Z T39.heap t_35 .byte 6 (fun i => (.int ((fun _ => (if _ = ((5 : Int32) : Int32).toNatClampNeg then (nar .byte ((((q0.toUInt64 >>> ((40 : Int32) &&& 0x3f).toInt64.toUInt64).toInt64).toInt32).toInt8.toInt32)) else (if _ = ((4 : Int32) : Int32).toNatClampNeg then (nar .byte ((((q0.toUInt64 >>> ((32 : Int32) &&& 0x3f).toInt64.toUInt64).toInt64).toInt32).toInt8.toInt32)) else (if _ = ((3 : Int32) : Int32).toNatClampNeg then (nar .byte ((((q0.toUInt64 >>> ((24 : Int32) &&& 0x3f).toInt64.toUInt64).toInt64).toInt32).toInt8.toInt32)) else (if _ = ((2 : Int32) : Int32).toNatClampNeg then (nar .byte ((((q0.toUInt64 >>> ((16 : Int32) &&& 0x3f).toInt64.toUInt64).toInt64).toInt32).toInt8.toInt32)) else (if _ = ((1 : Int32) : Int32).toNatClampNeg then (nar .byte ((((q0.toUInt64 >>> ((8 : Int32) &&& 0x3f).toInt64.toUInt64).toInt64).toInt32).toInt8.toInt32)) else (if _ = ((0 : Int32) : Int32).toNatClampNeg then (nar .byte ((q0.toInt32).toInt8.toInt32)) else (0 : Int32)))))))) i))) := (P35_2).keep Kc39 (ninS (Ne.symm ne_b1_t_35) nin0)
  have E_t_35_40 : Exa Z T39.heap t_35 "[B" := (P35_3).keep Kc39
  have SZ41 : h0.size ≤ T39.heap.size := Nat.le_trans SZ37 Kc39.1
  have ZZ41 : n0 ≤ T39.heap.size := Nat.le_trans Z0 SZ41
  have K42 : Keep h0 T39.heap [] := (K38).trans Kc39 (allS (Or.inr sz_b1) all0)
  obtain ⟨cq43, kq43, q43a, q43b, q43c⟩ := isOf hZ rfl (E_b_35_40)
  obtain ⟨_, _, ⟨T43, L43, k43, n43⟩, -, X43, ⟨Lc43, hQ43, l43, y43, z43⟩, st43⟩ := X39.virtualBack hx (y := (⟨"com/example/keyclasp/keyclasp/methods/MacAddress", "bytes", "()[B"⟩ : MethodName)) (z := (⟨"com/example/keyclasp/keyclasp/methods/MacAddress", "bytes", "()[B"⟩ : MethodName)) hown (mvT hZ (hw _ (List.mem_of_getElem? (i := 28) rfl))) (mvT hZ (hw _ (List.mem_of_getElem? (i := 29) rfl))) (notFace_of_selects (args := #[]) (mvT hZ (hw _ (List.mem_of_getElem? (i := 31) rfl)))) (mvT hZ (hw _ (List.mem_of_getElem? (i := 31) rfl))) (mvT hZ (hw _ (List.mem_of_getElem? (i := 30) rfl))) (by decide) (backOf (W := 0) (rm5 l Z a0 hw [] b_35 t_35 (fun i => ((fun _ => (if _ = ((5 : Int32) : Int32).toNatClampNeg then (nar .byte ((((q0.toUInt64 >>> ((40 : Int32) &&& 0x3f).toInt64.toUInt64).toInt64).toInt32).toInt8.toInt32)) else (if _ = ((4 : Int32) : Int32).toNatClampNeg then (nar .byte ((((q0.toUInt64 >>> ((32 : Int32) &&& 0x3f).toInt64.toUInt64).toInt64).toInt32).toInt8.toInt32)) else (if _ = ((3 : Int32) : Int32).toNatClampNeg then (nar .byte ((((q0.toUInt64 >>> ((24 : Int32) &&& 0x3f).toInt64.toUInt64).toInt64).toInt32).toInt8.toInt32)) else (if _ = ((2 : Int32) : Int32).toNatClampNeg then (nar .byte ((((q0.toUInt64 >>> ((16 : Int32) &&& 0x3f).toInt64.toUInt64).toInt64).toInt32).toInt8.toInt32)) else (if _ = ((1 : Int32) : Int32).toNatClampNeg then (nar .byte ((((q0.toUInt64 >>> ((8 : Int32) &&& 0x3f).toInt64.toUInt64).toInt64).toInt32).toInt8.toInt32)) else (if _ = ((0 : Int32) : Int32).toNatClampNeg then (nar .byte ((q0.toInt32).toInt8.toInt32)) else (0 : Int32)))))))) i)) T39.heap n0 ZZ41 F_bytes_b_35_40 A_t_35_40 E_t_35_40 (fun i hi => by rcases (show i = 0 ∨ i = 1 ∨ i = 2 ∨ i = 3 ∨ i = 4 ∨ i = 5 by omega) with rfl | rfl | rfl | rfl | rfl | rfl <;> exact fits_nar_byte _)) hZ (hw _ (List.mem_of_getElem? (i := 32) rfl)) (hw _ (List.mem_of_getElem? (i := 3) rfl)) (by decide) (by decide)) q43a q43c (g := (mkF m 66 #[.val (.long q0), .second, .val (.ref b1), .val (.ref b_35), .unset, .unset, .unset, .unset] [(.ref b_35)])) rfl (by rw [hml]; rfl) (Steps.refl _) (argsL := []) (rest := []) (lenOf pd_2 rfl) rfl (by show 2 * 0 + _ ≤ _; exact Nat.le_of_eq rfl) (hb hby at_66) (fun _ _ => ⟨rfl, rfl, (by decide : 3 + 1 ≤ _), (by decide : 13 + 6 ≤ _)⟩)
  dsimp only [Pt.U, Pt.locs, Pt.cells, Pt.slots] at X43 l43 y43 z43 st43 hQ43
  subst l43 y43 z43
  obtain ⟨b_43, rfl, N43q, Kc43, sz_b_43, P43_0⟩ := hQ43
  have N43 := Fr.app N39 N43q
  have E_b1_44 : Exa Z T43.heap b1 "[B" := (E_b1_40).keep Kc43
  have E_b_35_44 : Exa Z T43.heap b_35 "com/example/keyclasp/keyclasp/methods/MacAddress" := (E_b_35_40).keep Kc43
  have F_bytes_b_35_44 : Fld Z T43.heap b_35 "com/example/keyclasp/keyclasp/methods/MacAddress" "bytes" "[B" (.ref t_35) := (F_bytes_b_35_40).keep Kc43 nin0
  have A_t_35_44 : own_A Z T43.heap t_35 .byte 6 (fun i => (.int ((fun _ => (if _ = ((5 : Int32) : Int32).toNatClampNeg then (nar .byte ((((q0.toUInt64 >>> ((40 : Int32) &&& 0x3f).toInt64.toUInt64).toInt64).toInt32).toInt8.toInt32)) else (if _ = ((4 : Int32) : Int32).toNatClampNeg then (nar .byte ((((q0.toUInt64 >>> ((32 : Int32) &&& 0x3f).toInt64.toUInt64).toInt64).toInt32).toInt8.toInt32)) else (if _ = ((3 : Int32) : Int32).toNatClampNeg then (nar .byte ((((q0.toUInt64 >>> ((24 : Int32) &&& 0x3f).toInt64.toUInt64).toInt64).toInt32).toInt8.toInt32)) else (if _ = ((2 : Int32) : Int32).toNatClampNeg then (nar .byte ((((q0.toUInt64 >>> ((16 : Int32) &&& 0x3f).toInt64.toUInt64).toInt64).toInt32).toInt8.toInt32)) else (if _ = ((1 : Int32) : Int32).toNatClampNeg then (nar .byte ((((q0.toUInt64 >>> ((8 : Int32) &&& 0x3f).toInt64.toUInt64).toInt64).toInt32).toInt8.toInt32)) else (if _ = ((0 : Int32) : Int32).toNatClampNeg then (nar .byte ((q0.toInt32).toInt8.toInt32)) else (0 : Int32)))))))) i))) := (A_t_35_40).keep Kc43 nin0
  have E_t_35_44 : Exa Z T43.heap t_35 "[B" := (E_t_35_40).keep Kc43
  have SZ45 : h0.size ≤ T43.heap.size := Nat.le_trans SZ41 Kc43.1
  have ZZ45 : n0 ≤ T43.heap.size := Nat.le_trans Z0 SZ45
  have K46 : Keep h0 T43.heap [] := (K42).trans Kc43 all0
  have ne_b1_b_43 : b1 ≠ b_43 := Nat.ne_of_lt (Nat.lt_of_lt_of_le (E_b1_40).lt sz_b_43)
  have ne_b_35_b_43 : b_35 ≠ b_43 := Nat.ne_of_lt (Nat.lt_of_lt_of_le (E_b_35_40).lt sz_b_43)
  have ne_t_35_b_43 : t_35 ≠ b_43 := Nat.ne_of_lt (Nat.lt_of_lt_of_le (A_t_35_40).lt sz_b_43)
  have g_b_43 : n0 ≤ b_43 := Nat.le_trans (Nat.le_trans Z0 SZ41) sz_b_43
  have szz_b_43 : h0.size ≤ b_43 := Nat.le_trans SZ41 sz_b_43
  obtain ⟨_, _, ⟨T47, L47, k47, n47⟩, -, X47, ⟨Lc47, hQ47, l47, y47, z47⟩, st47⟩ := Jvm.LawKit.callS X43 hx (y := (⟨"com/example/keyclasp/keyclasp/methods/MacAddressOfPinLaw", "holds", "([BJ)Z"⟩ : MethodName)) hown (mvT hZ (hw _ (List.mem_of_getElem? (i := 33) rfl))) (mvT hZ (hw _ (List.mem_of_getElem? (i := 34) rfl))) (mvT hZ (hw _ (List.mem_of_getElem? (i := 26) rfl))) (mvT hZ (hw _ (List.mem_of_getElem? (i := 35) rfl))) (by decide) (backOf (W := 0) (rm6 l Z a0 hw [] b_43 q0 (fun i => ((fun i => ((fun _ => (if _ = ((5 : Int32) : Int32).toNatClampNeg then (nar .byte ((((q0.toUInt64 >>> ((40 : Int32) &&& 0x3f).toInt64.toUInt64).toInt64).toInt32).toInt8.toInt32)) else (if _ = ((4 : Int32) : Int32).toNatClampNeg then (nar .byte ((((q0.toUInt64 >>> ((32 : Int32) &&& 0x3f).toInt64.toUInt64).toInt64).toInt32).toInt8.toInt32)) else (if _ = ((3 : Int32) : Int32).toNatClampNeg then (nar .byte ((((q0.toUInt64 >>> ((24 : Int32) &&& 0x3f).toInt64.toUInt64).toInt64).toInt32).toInt8.toInt32)) else (if _ = ((2 : Int32) : Int32).toNatClampNeg then (nar .byte ((((q0.toUInt64 >>> ((16 : Int32) &&& 0x3f).toInt64.toUInt64).toInt64).toInt32).toInt8.toInt32)) else (if _ = ((1 : Int32) : Int32).toNatClampNeg then (nar .byte ((((q0.toUInt64 >>> ((8 : Int32) &&& 0x3f).toInt64.toUInt64).toInt64).toInt32).toInt8.toInt32)) else (if _ = ((0 : Int32) : Int32).toNatClampNeg then (nar .byte ((q0.toInt32).toInt8.toInt32)) else (0 : Int32)))))))) i)) i)) T43.heap n0 ZZ45 P43_0 (own_b8 _) (own_b8 _) (own_b8 _) (own_b8 _) (own_b8 _) (own_b8 _)) hZ (hw _ (List.mem_of_getElem? (i := 35) rfl)) (hw _ (List.mem_of_getElem? (i := 26) rfl)) (by decide) (by decide)) (g := (mkF m 74 #[.val (.long q0), .second, .val (.ref b1), .val (.ref b_35), .val (.ref b_43), .unset, .unset, .unset] [(.long q0), (.ref b_43)])) rfl (by rw [hml]; rfl) (argsL := [(.ref b_43), (.long q0)]) (rest := []) (lenOf pd_3 rfl) rfl (by show 2 * 0 + _ ≤ _; exact Nat.le_of_eq rfl) (hb hby at_74) (fun _ _ => ⟨rfl, rfl, (by decide : 4 + 0 ≤ _), (by decide : 19 + 0 ≤ _)⟩)
  dsimp only [Pt.U, Pt.locs, Pt.cells, Pt.slots] at X47 l47 y47 z47 st47 hQ47
  subst l47 y47 z47
  obtain ⟨rfl, N47q, hh47⟩ := hQ47
  have N47 := Fr.app N43 N47q
  obtain ⟨_, _, ⟨T48, L48, k48, n48⟩, -, X48, ⟨Lc48, hQ48, l48, y48, z48⟩, st48⟩ := Jvm.LawKit.callS X47 hx (y := (⟨"com/example/keyclasp/keyclasp/methods/MacAddressOfPinLaw", "flip", "([B)V"⟩ : MethodName)) hown (mvT hZ (hw _ (List.mem_of_getElem? (i := 24) rfl))) (mvT hZ (hw _ (List.mem_of_getElem? (i := 25) rfl))) (mvT hZ (hw _ (List.mem_of_getElem? (i := 26) rfl))) (mvT hZ (hw _ (List.mem_of_getElem? (i := 27) rfl))) (by decide) (backOf (W := 0) (rm4 l Z a0 hw [] b_43 (fun i => ((fun i => ((fun _ => (if _ = ((5 : Int32) : Int32).toNatClampNeg then (nar .byte ((((q0.toUInt64 >>> ((40 : Int32) &&& 0x3f).toInt64.toUInt64).toInt64).toInt32).toInt8.toInt32)) else (if _ = ((4 : Int32) : Int32).toNatClampNeg then (nar .byte ((((q0.toUInt64 >>> ((32 : Int32) &&& 0x3f).toInt64.toUInt64).toInt64).toInt32).toInt8.toInt32)) else (if _ = ((3 : Int32) : Int32).toNatClampNeg then (nar .byte ((((q0.toUInt64 >>> ((24 : Int32) &&& 0x3f).toInt64.toUInt64).toInt64).toInt32).toInt8.toInt32)) else (if _ = ((2 : Int32) : Int32).toNatClampNeg then (nar .byte ((((q0.toUInt64 >>> ((16 : Int32) &&& 0x3f).toInt64.toUInt64).toInt64).toInt32).toInt8.toInt32)) else (if _ = ((1 : Int32) : Int32).toNatClampNeg then (nar .byte ((((q0.toUInt64 >>> ((8 : Int32) &&& 0x3f).toInt64.toUInt64).toInt64).toInt32).toInt8.toInt32)) else (if _ = ((0 : Int32) : Int32).toNatClampNeg then (nar .byte ((q0.toInt32).toInt8.toInt32)) else (0 : Int32)))))))) i)) i)) T43.heap n0 ZZ45 P43_0 g_b_43) hZ (hw _ (List.mem_of_getElem? (i := 27) rfl)) (hw _ (List.mem_of_getElem? (i := 26) rfl)) (by decide) (by decide)) (g := (mkF m 81 #[.val (.long q0), .second, .val (.ref b1), .val (.ref b_35), .val (.ref b_43), .val (.int (1 : Int32)), .unset, .unset] [(.ref b_43)])) rfl (by rw [hml]; rfl) (argsL := [(.ref b_43)]) (rest := []) (lenOf pd_0 rfl) rfl (by show 2 * 0 + _ ≤ _; exact Nat.le_of_eq rfl) (hb hby at_81) (fun _ _ => ⟨rfl, hh47, (by decide : 4 + 0 ≤ _), (by decide : 19 + 0 ≤ _)⟩)
  dsimp only [Pt.U, Pt.locs, Pt.cells, Pt.slots] at X48 l48 y48 z48 st48 hQ48
  subst l48 y48 z48
  obtain ⟨rfl, N48q, Kc48⟩ := hQ48
  have N48 := Fr.app N47 N48q
  have E_b1_49 : Exa Z T48.heap b1 "[B" := (E_b1_44).keep Kc48
  have E_b_35_49 : Exa Z T48.heap b_35 "com/example/keyclasp/keyclasp/methods/MacAddress" := (E_b_35_44).keep Kc48
  have F_bytes_b_35_49 : Fld Z T48.heap b_35 "com/example/keyclasp/keyclasp/methods/MacAddress" "bytes" "[B" (.ref t_35) := (F_bytes_b_35_44).keep Kc48 (ninS ne_b_35_b_43 nin0)
  have A_t_35_49 : own_A Z T48.heap t_35 .byte 6 (fun i => (.int ((fun _ => (if _ = ((5 : Int32) : Int32).toNatClampNeg then (nar .byte ((((q0.toUInt64 >>> ((40 : Int32) &&& 0x3f).toInt64.toUInt64).toInt64).toInt32).toInt8.toInt32)) else (if _ = ((4 : Int32) : Int32).toNatClampNeg then (nar .byte ((((q0.toUInt64 >>> ((32 : Int32) &&& 0x3f).toInt64.toUInt64).toInt64).toInt32).toInt8.toInt32)) else (if _ = ((3 : Int32) : Int32).toNatClampNeg then (nar .byte ((((q0.toUInt64 >>> ((24 : Int32) &&& 0x3f).toInt64.toUInt64).toInt64).toInt32).toInt8.toInt32)) else (if _ = ((2 : Int32) : Int32).toNatClampNeg then (nar .byte ((((q0.toUInt64 >>> ((16 : Int32) &&& 0x3f).toInt64.toUInt64).toInt64).toInt32).toInt8.toInt32)) else (if _ = ((1 : Int32) : Int32).toNatClampNeg then (nar .byte ((((q0.toUInt64 >>> ((8 : Int32) &&& 0x3f).toInt64.toUInt64).toInt64).toInt32).toInt8.toInt32)) else (if _ = ((0 : Int32) : Int32).toNatClampNeg then (nar .byte ((q0.toInt32).toInt8.toInt32)) else (0 : Int32)))))))) i))) := (A_t_35_44).keep Kc48 (ninS ne_t_35_b_43 nin0)
  have E_t_35_49 : Exa Z T48.heap t_35 "[B" := (E_t_35_44).keep Kc48
  have SZ50 : h0.size ≤ T48.heap.size := Nat.le_trans SZ45 Kc48.1
  have ZZ50 : n0 ≤ T48.heap.size := Nat.le_trans Z0 SZ50
  have K51 : Keep h0 T48.heap [] := (K46).trans Kc48 (allS (Or.inr szz_b_43) all0)
  obtain ⟨cq52, kq52, q52a, q52b, q52c⟩ := isOf hZ rfl (E_b_35_49)
  obtain ⟨_, _, ⟨T52, L52, k52, n52⟩, -, X52, ⟨Lc52, hQ52, l52, y52, z52⟩, st52⟩ := X48.virtualBack hx (y := (⟨"com/example/keyclasp/keyclasp/methods/MacAddress", "bytes", "()[B"⟩ : MethodName)) (z := (⟨"com/example/keyclasp/keyclasp/methods/MacAddress", "bytes", "()[B"⟩ : MethodName)) hown (mvT hZ (hw _ (List.mem_of_getElem? (i := 28) rfl))) (mvT hZ (hw _ (List.mem_of_getElem? (i := 29) rfl))) (notFace_of_selects (args := #[]) (mvT hZ (hw _ (List.mem_of_getElem? (i := 31) rfl)))) (mvT hZ (hw _ (List.mem_of_getElem? (i := 31) rfl))) (mvT hZ (hw _ (List.mem_of_getElem? (i := 30) rfl))) (by decide) (backOf (W := 0) (rm5 l Z a0 hw [] b_35 t_35 (fun i => ((fun _ => (if _ = ((5 : Int32) : Int32).toNatClampNeg then (nar .byte ((((q0.toUInt64 >>> ((40 : Int32) &&& 0x3f).toInt64.toUInt64).toInt64).toInt32).toInt8.toInt32)) else (if _ = ((4 : Int32) : Int32).toNatClampNeg then (nar .byte ((((q0.toUInt64 >>> ((32 : Int32) &&& 0x3f).toInt64.toUInt64).toInt64).toInt32).toInt8.toInt32)) else (if _ = ((3 : Int32) : Int32).toNatClampNeg then (nar .byte ((((q0.toUInt64 >>> ((24 : Int32) &&& 0x3f).toInt64.toUInt64).toInt64).toInt32).toInt8.toInt32)) else (if _ = ((2 : Int32) : Int32).toNatClampNeg then (nar .byte ((((q0.toUInt64 >>> ((16 : Int32) &&& 0x3f).toInt64.toUInt64).toInt64).toInt32).toInt8.toInt32)) else (if _ = ((1 : Int32) : Int32).toNatClampNeg then (nar .byte ((((q0.toUInt64 >>> ((8 : Int32) &&& 0x3f).toInt64.toUInt64).toInt64).toInt32).toInt8.toInt32)) else (if _ = ((0 : Int32) : Int32).toNatClampNeg then (nar .byte ((q0.toInt32).toInt8.toInt32)) else (0 : Int32)))))))) i)) T48.heap n0 ZZ50 F_bytes_b_35_49 A_t_35_49 E_t_35_49 (fun i hi => by rcases (show i = 0 ∨ i = 1 ∨ i = 2 ∨ i = 3 ∨ i = 4 ∨ i = 5 by omega) with rfl | rfl | rfl | rfl | rfl | rfl <;> exact fits_nar_byte _)) hZ (hw _ (List.mem_of_getElem? (i := 32) rfl)) (hw _ (List.mem_of_getElem? (i := 3) rfl)) (by decide) (by decide)) q52a q52c (g := (mkF m 85 #[.val (.long q0), .second, .val (.ref b1), .val (.ref b_35), .val (.ref b_43), .val (.int (1 : Int32)), .unset, .unset] [(.ref b_35)])) rfl (by rw [hml]; rfl) (Steps.refl _) (argsL := []) (rest := []) (lenOf pd_2 rfl) rfl (by show 2 * 0 + _ ≤ _; exact Nat.le_of_eq rfl) (hb hby at_85) (fun _ _ => ⟨rfl, rfl, (by decide : 4 + 1 ≤ _), (by decide : 19 + 6 ≤ _)⟩)
  dsimp only [Pt.U, Pt.locs, Pt.cells, Pt.slots] at X52 l52 y52 z52 st52 hQ52
  subst l52 y52 z52
  obtain ⟨b_52, rfl, N52q, Kc52, sz_b_52, P52_0⟩ := hQ52
  have N52 := Fr.app N48 N52q
  have E_b1_53 : Exa Z T52.heap b1 "[B" := (E_b1_49).keep Kc52
  have E_b_35_53 : Exa Z T52.heap b_35 "com/example/keyclasp/keyclasp/methods/MacAddress" := (E_b_35_49).keep Kc52
  have F_bytes_b_35_53 : Fld Z T52.heap b_35 "com/example/keyclasp/keyclasp/methods/MacAddress" "bytes" "[B" (.ref t_35) := (F_bytes_b_35_49).keep Kc52 nin0
  have A_t_35_53 : own_A Z T52.heap t_35 .byte 6 (fun i => (.int ((fun _ => (if _ = ((5 : Int32) : Int32).toNatClampNeg then (nar .byte ((((q0.toUInt64 >>> ((40 : Int32) &&& 0x3f).toInt64.toUInt64).toInt64).toInt32).toInt8.toInt32)) else (if _ = ((4 : Int32) : Int32).toNatClampNeg then (nar .byte ((((q0.toUInt64 >>> ((32 : Int32) &&& 0x3f).toInt64.toUInt64).toInt64).toInt32).toInt8.toInt32)) else (if _ = ((3 : Int32) : Int32).toNatClampNeg then (nar .byte ((((q0.toUInt64 >>> ((24 : Int32) &&& 0x3f).toInt64.toUInt64).toInt64).toInt32).toInt8.toInt32)) else (if _ = ((2 : Int32) : Int32).toNatClampNeg then (nar .byte ((((q0.toUInt64 >>> ((16 : Int32) &&& 0x3f).toInt64.toUInt64).toInt64).toInt32).toInt8.toInt32)) else (if _ = ((1 : Int32) : Int32).toNatClampNeg then (nar .byte ((((q0.toUInt64 >>> ((8 : Int32) &&& 0x3f).toInt64.toUInt64).toInt64).toInt32).toInt8.toInt32)) else (if _ = ((0 : Int32) : Int32).toNatClampNeg then (nar .byte ((q0.toInt32).toInt8.toInt32)) else (0 : Int32)))))))) i))) := (A_t_35_49).keep Kc52 nin0
  have E_t_35_53 : Exa Z T52.heap t_35 "[B" := (E_t_35_49).keep Kc52
  have SZ54 : h0.size ≤ T52.heap.size := Nat.le_trans SZ50 Kc52.1
  have ZZ54 : n0 ≤ T52.heap.size := Nat.le_trans Z0 SZ54
  have K55 : Keep h0 T52.heap [] := (K51).trans Kc52 all0
  have ne_b1_b_52 : b1 ≠ b_52 := Nat.ne_of_lt (Nat.lt_of_lt_of_le (E_b1_49).lt sz_b_52)
  have ne_b_35_b_52 : b_35 ≠ b_52 := Nat.ne_of_lt (Nat.lt_of_lt_of_le (E_b_35_49).lt sz_b_52)
  have ne_t_35_b_52 : t_35 ≠ b_52 := Nat.ne_of_lt (Nat.lt_of_lt_of_le (A_t_35_49).lt sz_b_52)
  have g_b_52 : n0 ≤ b_52 := Nat.le_trans (Nat.le_trans Z0 SZ50) sz_b_52
  have szz_b_52 : h0.size ≤ b_52 := Nat.le_trans SZ50 sz_b_52
  obtain ⟨_, _, ⟨T56, L56, k56, n56⟩, -, X56, ⟨Lc56, hQ56, l56, y56, z56⟩, st56⟩ := Jvm.LawKit.callS X52 hx (y := (⟨"com/example/keyclasp/keyclasp/methods/MacAddressOfPinLaw", "holds", "([BJ)Z"⟩ : MethodName)) hown (mvT hZ (hw _ (List.mem_of_getElem? (i := 33) rfl))) (mvT hZ (hw _ (List.mem_of_getElem? (i := 34) rfl))) (mvT hZ (hw _ (List.mem_of_getElem? (i := 26) rfl))) (mvT hZ (hw _ (List.mem_of_getElem? (i := 35) rfl))) (by decide) (backOf (W := 0) (rm6 l Z a0 hw [] b_52 q0 (fun i => ((fun i => ((fun _ => (if _ = ((5 : Int32) : Int32).toNatClampNeg then (nar .byte ((((q0.toUInt64 >>> ((40 : Int32) &&& 0x3f).toInt64.toUInt64).toInt64).toInt32).toInt8.toInt32)) else (if _ = ((4 : Int32) : Int32).toNatClampNeg then (nar .byte ((((q0.toUInt64 >>> ((32 : Int32) &&& 0x3f).toInt64.toUInt64).toInt64).toInt32).toInt8.toInt32)) else (if _ = ((3 : Int32) : Int32).toNatClampNeg then (nar .byte ((((q0.toUInt64 >>> ((24 : Int32) &&& 0x3f).toInt64.toUInt64).toInt64).toInt32).toInt8.toInt32)) else (if _ = ((2 : Int32) : Int32).toNatClampNeg then (nar .byte ((((q0.toUInt64 >>> ((16 : Int32) &&& 0x3f).toInt64.toUInt64).toInt64).toInt32).toInt8.toInt32)) else (if _ = ((1 : Int32) : Int32).toNatClampNeg then (nar .byte ((((q0.toUInt64 >>> ((8 : Int32) &&& 0x3f).toInt64.toUInt64).toInt64).toInt32).toInt8.toInt32)) else (if _ = ((0 : Int32) : Int32).toNatClampNeg then (nar .byte ((q0.toInt32).toInt8.toInt32)) else (0 : Int32)))))))) i)) i)) T52.heap n0 ZZ54 P52_0 (own_b8 _) (own_b8 _) (own_b8 _) (own_b8 _) (own_b8 _) (own_b8 _)) hZ (hw _ (List.mem_of_getElem? (i := 35) rfl)) (hw _ (List.mem_of_getElem? (i := 26) rfl)) (by decide) (by decide)) (g := (mkF m 93 #[.val (.long q0), .second, .val (.ref b1), .val (.ref b_35), .val (.ref b_43), .val (.int (1 : Int32)), .val (.ref b_52), .unset] [(.long q0), (.ref b_52)])) rfl (by rw [hml]; rfl) (argsL := [(.ref b_52), (.long q0)]) (rest := []) (lenOf pd_3 rfl) rfl (by show 2 * 0 + _ ≤ _; exact Nat.le_of_eq rfl) (hb hby at_93) (fun _ _ => ⟨rfl, rfl, (by decide : 5 + 0 ≤ _), (by decide : 25 + 0 ≤ _)⟩)
  dsimp only [Pt.U, Pt.locs, Pt.cells, Pt.slots] at X56 l56 y56 z56 st56 hQ56
  subst l56 y56 z56
  obtain ⟨rfl, N56q, hh56⟩ := hQ56
  have N56 := Fr.app N52 N56q
  have pre57 : ∀ t, Steps p.tables e below (T56.setTop (mkF m 113 #[.val (.long q0), .second, .val (.ref b1), .val (.ref b_35), .val (.ref b_43), .val (.int (1 : Int32)), .val (.ref b_52), .val (.int (1 : Int32))] [(.int (1 : Int32))])) t → Steps p.tables e below (s₁.setTop (entryFrame m #[(.long q0)] maxLocals)) t := fun t k => pre0 t (by
    show Steps p.tables e below (s₁.setTop (mkF m 0 #[.val (.long q0), .second, .unset, .unset, .unset, .unset, .unset, .unset] [])) _
    refine XS.bipush X0.here hx rfl (hb hby at_0) ?_
    show Steps p.tables e below (s₁.setTop (mkF m 2 #[.val (.long q0), .second, .unset, .unset, .unset, .unset, .unset, .unset] [(.int (6 : Int32))])) _
    refine st1 _ ?_
    show Steps p.tables e below (T1.setTop (mkF m 4 #[.val (.long q0), .second, .unset, .unset, .unset, .unset, .unset, .unset] [(.ref b1)])) _
    refine XS.astoreN X1.here hx rfl (hb hby at_4) rfl rfl (l' := #[.val (.long q0), .second, .val (.ref b1), .unset, .unset, .unset, .unset, .unset]) rfl ?_
    show Steps p.tables e below (T1.setTop (mkF m 5 #[.val (.long q0), .second, .val (.ref b1), .unset, .unset, .unset, .unset, .unset] [])) _
    refine XS.aloadN X1.here hx rfl (hb hby at_5) rfl rfl ?_
    show Steps p.tables e below (T1.setTop (mkF m 6 #[.val (.long q0), .second, .val (.ref b1), .unset, .unset, .unset, .unset, .unset] [(.ref b1)])) _
    refine XS.iconst X1.here hx rfl (hb hby at_6) ?_
    show Steps p.tables e below (T1.setTop (mkF m 7 #[.val (.long q0), .second, .val (.ref b1), .unset, .unset, .unset, .unset, .unset] [(.int (0 : Int32)), (.ref b1)])) _
    refine XS.lloadN X1.here hx rfl (hb hby at_7) rfl ?_
    show Steps p.tables e below (T1.setTop (mkF m 8 #[.val (.long q0), .second, .val (.ref b1), .unset, .unset, .unset, .unset, .unset] [(.long q0), (.int (0 : Int32)), (.ref b1)])) _
    refine XS.l2i X1.here hx rfl (hb hby at_8) rfl ?_
    show Steps p.tables e below (T1.setTop (mkF m 9 #[.val (.long q0), .second, .val (.ref b1), .unset, .unset, .unset, .unset, .unset] [(.int (q0.toInt32)), (.int (0 : Int32)), (.ref b1)])) _
    refine XS.i2b X1.here hx rfl (hb hby at_9) rfl ?_
    show Steps p.tables e below (T1.setTop (mkF m 10 #[.val (.long q0), .second, .val (.ref b1), .unset, .unset, .unset, .unset, .unset] [(.int ((q0.toInt32).toInt8.toInt32)), (.int (0 : Int32)), (.ref b1)])) _
    refine st6 _ ?_
    show Steps p.tables e below (T6.setTop (mkF m 11 #[.val (.long q0), .second, .val (.ref b1), .unset, .unset, .unset, .unset, .unset] [])) _
    refine XS.aloadN X6.here hx rfl (hb hby at_11) rfl rfl ?_
    show Steps p.tables e below (T6.setTop (mkF m 12 #[.val (.long q0), .second, .val (.ref b1), .unset, .unset, .unset, .unset, .unset] [(.ref b1)])) _
    refine XS.iconst X6.here hx rfl (hb hby at_12) ?_
    show Steps p.tables e below (T6.setTop (mkF m 13 #[.val (.long q0), .second, .val (.ref b1), .unset, .unset, .unset, .unset, .unset] [(.int (1 : Int32)), (.ref b1)])) _
    refine XS.lloadN X6.here hx rfl (hb hby at_13) rfl ?_
    show Steps p.tables e below (T6.setTop (mkF m 14 #[.val (.long q0), .second, .val (.ref b1), .unset, .unset, .unset, .unset, .unset] [(.long q0), (.int (1 : Int32)), (.ref b1)])) _
    refine XS.bipush X6.here hx rfl (hb hby at_14) ?_
    show Steps p.tables e below (T6.setTop (mkF m 16 #[.val (.long q0), .second, .val (.ref b1), .unset, .unset, .unset, .unset, .unset] [(.int (8 : Int32)), (.long q0), (.int (1 : Int32)), (.ref b1)])) _
    refine XS.lushr X6.here hx rfl (hb hby at_16) rfl ?_
    show Steps p.tables e below (T6.setTop (mkF m 17 #[.val (.long q0), .second, .val (.ref b1), .unset, .unset, .unset, .unset, .unset] [(.long ((q0.toUInt64 >>> ((8 : Int32) &&& 0x3f).toInt64.toUInt64).toInt64)), (.int (1 : Int32)), (.ref b1)])) _
    refine XS.l2i X6.here hx rfl (hb hby at_17) rfl ?_
    show Steps p.tables e below (T6.setTop (mkF m 18 #[.val (.long q0), .second, .val (.ref b1), .unset, .unset, .unset, .unset, .unset] [(.int (((q0.toUInt64 >>> ((8 : Int32) &&& 0x3f).toInt64.toUInt64).toInt64).toInt32)), (.int (1 : Int32)), (.ref b1)])) _
    refine XS.i2b X6.here hx rfl (hb hby at_18) rfl ?_
    show Steps p.tables e below (T6.setTop (mkF m 19 #[.val (.long q0), .second, .val (.ref b1), .unset, .unset, .unset, .unset, .unset] [(.int ((((q0.toUInt64 >>> ((8 : Int32) &&& 0x3f).toInt64.toUInt64).toInt64).toInt32).toInt8.toInt32)), (.int (1 : Int32)), (.ref b1)])) _
    refine st11 _ ?_
    show Steps p.tables e below (T11.setTop (mkF m 20 #[.val (.long q0), .second, .val (.ref b1), .unset, .unset, .unset, .unset, .unset] [])) _
    refine XS.aloadN X11.here hx rfl (hb hby at_20) rfl rfl ?_
    show Steps p.tables e below (T11.setTop (mkF m 21 #[.val (.long q0), .second, .val (.ref b1), .unset, .unset, .unset, .unset, .unset] [(.ref b1)])) _
    refine XS.iconst X11.here hx rfl (hb hby at_21) ?_
    show Steps p.tables e below (T11.setTop (mkF m 22 #[.val (.long q0), .second, .val (.ref b1), .unset, .unset, .unset, .unset, .unset] [(.int (2 : Int32)), (.ref b1)])) _
    refine XS.lloadN X11.here hx rfl (hb hby at_22) rfl ?_
    show Steps p.tables e below (T11.setTop (mkF m 23 #[.val (.long q0), .second, .val (.ref b1), .unset, .unset, .unset, .unset, .unset] [(.long q0), (.int (2 : Int32)), (.ref b1)])) _
    refine XS.bipush X11.here hx rfl (hb hby at_23) ?_
    show Steps p.tables e below (T11.setTop (mkF m 25 #[.val (.long q0), .second, .val (.ref b1), .unset, .unset, .unset, .unset, .unset] [(.int (16 : Int32)), (.long q0), (.int (2 : Int32)), (.ref b1)])) _
    refine XS.lushr X11.here hx rfl (hb hby at_25) rfl ?_
    show Steps p.tables e below (T11.setTop (mkF m 26 #[.val (.long q0), .second, .val (.ref b1), .unset, .unset, .unset, .unset, .unset] [(.long ((q0.toUInt64 >>> ((16 : Int32) &&& 0x3f).toInt64.toUInt64).toInt64)), (.int (2 : Int32)), (.ref b1)])) _
    refine XS.l2i X11.here hx rfl (hb hby at_26) rfl ?_
    show Steps p.tables e below (T11.setTop (mkF m 27 #[.val (.long q0), .second, .val (.ref b1), .unset, .unset, .unset, .unset, .unset] [(.int (((q0.toUInt64 >>> ((16 : Int32) &&& 0x3f).toInt64.toUInt64).toInt64).toInt32)), (.int (2 : Int32)), (.ref b1)])) _
    refine XS.i2b X11.here hx rfl (hb hby at_27) rfl ?_
    show Steps p.tables e below (T11.setTop (mkF m 28 #[.val (.long q0), .second, .val (.ref b1), .unset, .unset, .unset, .unset, .unset] [(.int ((((q0.toUInt64 >>> ((16 : Int32) &&& 0x3f).toInt64.toUInt64).toInt64).toInt32).toInt8.toInt32)), (.int (2 : Int32)), (.ref b1)])) _
    refine st16 _ ?_
    show Steps p.tables e below (T16.setTop (mkF m 29 #[.val (.long q0), .second, .val (.ref b1), .unset, .unset, .unset, .unset, .unset] [])) _
    refine XS.aloadN X16.here hx rfl (hb hby at_29) rfl rfl ?_
    show Steps p.tables e below (T16.setTop (mkF m 30 #[.val (.long q0), .second, .val (.ref b1), .unset, .unset, .unset, .unset, .unset] [(.ref b1)])) _
    refine XS.iconst X16.here hx rfl (hb hby at_30) ?_
    show Steps p.tables e below (T16.setTop (mkF m 31 #[.val (.long q0), .second, .val (.ref b1), .unset, .unset, .unset, .unset, .unset] [(.int (3 : Int32)), (.ref b1)])) _
    refine XS.lloadN X16.here hx rfl (hb hby at_31) rfl ?_
    show Steps p.tables e below (T16.setTop (mkF m 32 #[.val (.long q0), .second, .val (.ref b1), .unset, .unset, .unset, .unset, .unset] [(.long q0), (.int (3 : Int32)), (.ref b1)])) _
    refine XS.bipush X16.here hx rfl (hb hby at_32) ?_
    show Steps p.tables e below (T16.setTop (mkF m 34 #[.val (.long q0), .second, .val (.ref b1), .unset, .unset, .unset, .unset, .unset] [(.int (24 : Int32)), (.long q0), (.int (3 : Int32)), (.ref b1)])) _
    refine XS.lushr X16.here hx rfl (hb hby at_34) rfl ?_
    show Steps p.tables e below (T16.setTop (mkF m 35 #[.val (.long q0), .second, .val (.ref b1), .unset, .unset, .unset, .unset, .unset] [(.long ((q0.toUInt64 >>> ((24 : Int32) &&& 0x3f).toInt64.toUInt64).toInt64)), (.int (3 : Int32)), (.ref b1)])) _
    refine XS.l2i X16.here hx rfl (hb hby at_35) rfl ?_
    show Steps p.tables e below (T16.setTop (mkF m 36 #[.val (.long q0), .second, .val (.ref b1), .unset, .unset, .unset, .unset, .unset] [(.int (((q0.toUInt64 >>> ((24 : Int32) &&& 0x3f).toInt64.toUInt64).toInt64).toInt32)), (.int (3 : Int32)), (.ref b1)])) _
    refine XS.i2b X16.here hx rfl (hb hby at_36) rfl ?_
    show Steps p.tables e below (T16.setTop (mkF m 37 #[.val (.long q0), .second, .val (.ref b1), .unset, .unset, .unset, .unset, .unset] [(.int ((((q0.toUInt64 >>> ((24 : Int32) &&& 0x3f).toInt64.toUInt64).toInt64).toInt32).toInt8.toInt32)), (.int (3 : Int32)), (.ref b1)])) _
    refine st21 _ ?_
    show Steps p.tables e below (T21.setTop (mkF m 38 #[.val (.long q0), .second, .val (.ref b1), .unset, .unset, .unset, .unset, .unset] [])) _
    refine XS.aloadN X21.here hx rfl (hb hby at_38) rfl rfl ?_
    show Steps p.tables e below (T21.setTop (mkF m 39 #[.val (.long q0), .second, .val (.ref b1), .unset, .unset, .unset, .unset, .unset] [(.ref b1)])) _
    refine XS.iconst X21.here hx rfl (hb hby at_39) ?_
    show Steps p.tables e below (T21.setTop (mkF m 40 #[.val (.long q0), .second, .val (.ref b1), .unset, .unset, .unset, .unset, .unset] [(.int (4 : Int32)), (.ref b1)])) _
    refine XS.lloadN X21.here hx rfl (hb hby at_40) rfl ?_
    show Steps p.tables e below (T21.setTop (mkF m 41 #[.val (.long q0), .second, .val (.ref b1), .unset, .unset, .unset, .unset, .unset] [(.long q0), (.int (4 : Int32)), (.ref b1)])) _
    refine XS.bipush X21.here hx rfl (hb hby at_41) ?_
    show Steps p.tables e below (T21.setTop (mkF m 43 #[.val (.long q0), .second, .val (.ref b1), .unset, .unset, .unset, .unset, .unset] [(.int (32 : Int32)), (.long q0), (.int (4 : Int32)), (.ref b1)])) _
    refine XS.lushr X21.here hx rfl (hb hby at_43) rfl ?_
    show Steps p.tables e below (T21.setTop (mkF m 44 #[.val (.long q0), .second, .val (.ref b1), .unset, .unset, .unset, .unset, .unset] [(.long ((q0.toUInt64 >>> ((32 : Int32) &&& 0x3f).toInt64.toUInt64).toInt64)), (.int (4 : Int32)), (.ref b1)])) _
    refine XS.l2i X21.here hx rfl (hb hby at_44) rfl ?_
    show Steps p.tables e below (T21.setTop (mkF m 45 #[.val (.long q0), .second, .val (.ref b1), .unset, .unset, .unset, .unset, .unset] [(.int (((q0.toUInt64 >>> ((32 : Int32) &&& 0x3f).toInt64.toUInt64).toInt64).toInt32)), (.int (4 : Int32)), (.ref b1)])) _
    refine XS.i2b X21.here hx rfl (hb hby at_45) rfl ?_
    show Steps p.tables e below (T21.setTop (mkF m 46 #[.val (.long q0), .second, .val (.ref b1), .unset, .unset, .unset, .unset, .unset] [(.int ((((q0.toUInt64 >>> ((32 : Int32) &&& 0x3f).toInt64.toUInt64).toInt64).toInt32).toInt8.toInt32)), (.int (4 : Int32)), (.ref b1)])) _
    refine st26 _ ?_
    show Steps p.tables e below (T26.setTop (mkF m 47 #[.val (.long q0), .second, .val (.ref b1), .unset, .unset, .unset, .unset, .unset] [])) _
    refine XS.aloadN X26.here hx rfl (hb hby at_47) rfl rfl ?_
    show Steps p.tables e below (T26.setTop (mkF m 48 #[.val (.long q0), .second, .val (.ref b1), .unset, .unset, .unset, .unset, .unset] [(.ref b1)])) _
    refine XS.iconst X26.here hx rfl (hb hby at_48) ?_
    show Steps p.tables e below (T26.setTop (mkF m 49 #[.val (.long q0), .second, .val (.ref b1), .unset, .unset, .unset, .unset, .unset] [(.int (5 : Int32)), (.ref b1)])) _
    refine XS.lloadN X26.here hx rfl (hb hby at_49) rfl ?_
    show Steps p.tables e below (T26.setTop (mkF m 50 #[.val (.long q0), .second, .val (.ref b1), .unset, .unset, .unset, .unset, .unset] [(.long q0), (.int (5 : Int32)), (.ref b1)])) _
    refine XS.bipush X26.here hx rfl (hb hby at_50) ?_
    show Steps p.tables e below (T26.setTop (mkF m 52 #[.val (.long q0), .second, .val (.ref b1), .unset, .unset, .unset, .unset, .unset] [(.int (40 : Int32)), (.long q0), (.int (5 : Int32)), (.ref b1)])) _
    refine XS.lushr X26.here hx rfl (hb hby at_52) rfl ?_
    show Steps p.tables e below (T26.setTop (mkF m 53 #[.val (.long q0), .second, .val (.ref b1), .unset, .unset, .unset, .unset, .unset] [(.long ((q0.toUInt64 >>> ((40 : Int32) &&& 0x3f).toInt64.toUInt64).toInt64)), (.int (5 : Int32)), (.ref b1)])) _
    refine XS.l2i X26.here hx rfl (hb hby at_53) rfl ?_
    show Steps p.tables e below (T26.setTop (mkF m 54 #[.val (.long q0), .second, .val (.ref b1), .unset, .unset, .unset, .unset, .unset] [(.int (((q0.toUInt64 >>> ((40 : Int32) &&& 0x3f).toInt64.toUInt64).toInt64).toInt32)), (.int (5 : Int32)), (.ref b1)])) _
    refine XS.i2b X26.here hx rfl (hb hby at_54) rfl ?_
    show Steps p.tables e below (T26.setTop (mkF m 55 #[.val (.long q0), .second, .val (.ref b1), .unset, .unset, .unset, .unset, .unset] [(.int ((((q0.toUInt64 >>> ((40 : Int32) &&& 0x3f).toInt64.toUInt64).toInt64).toInt32).toInt8.toInt32)), (.int (5 : Int32)), (.ref b1)])) _
    refine st31 _ ?_
    show Steps p.tables e below (T31.setTop (mkF m 56 #[.val (.long q0), .second, .val (.ref b1), .unset, .unset, .unset, .unset, .unset] [])) _
    refine XS.aloadN X31.here hx rfl (hb hby at_56) rfl rfl ?_
    show Steps p.tables e below (T31.setTop (mkF m 57 #[.val (.long q0), .second, .val (.ref b1), .unset, .unset, .unset, .unset, .unset] [(.ref b1)])) _
    refine st35 _ ?_
    show Steps p.tables e below (T35.setTop (mkF m 60 #[.val (.long q0), .second, .val (.ref b1), .unset, .unset, .unset, .unset, .unset] [(.ref b_35)])) _
    refine XS.astoreN X35.here hx rfl (hb hby at_60) rfl rfl (l' := #[.val (.long q0), .second, .val (.ref b1), .val (.ref b_35), .unset, .unset, .unset, .unset]) rfl ?_
    show Steps p.tables e below (T35.setTop (mkF m 61 #[.val (.long q0), .second, .val (.ref b1), .val (.ref b_35), .unset, .unset, .unset, .unset] [])) _
    refine XS.aloadN X35.here hx rfl (hb hby at_61) rfl rfl ?_
    show Steps p.tables e below (T35.setTop (mkF m 62 #[.val (.long q0), .second, .val (.ref b1), .val (.ref b_35), .unset, .unset, .unset, .unset] [(.ref b1)])) _
    refine st39 _ ?_
    show Steps p.tables e below (T39.setTop (mkF m 65 #[.val (.long q0), .second, .val (.ref b1), .val (.ref b_35), .unset, .unset, .unset, .unset] [])) _
    refine XS.aloadN X39.here hx rfl (hb hby at_65) rfl rfl ?_
    show Steps p.tables e below (T39.setTop (mkF m 66 #[.val (.long q0), .second, .val (.ref b1), .val (.ref b_35), .unset, .unset, .unset, .unset] [(.ref b_35)])) _
    refine st43.trans ?_
    show Steps p.tables e below (T43.setTop (mkF m 69 #[.val (.long q0), .second, .val (.ref b1), .val (.ref b_35), .unset, .unset, .unset, .unset] [(.ref b_43)])) _
    refine XS.astore X43.here hx rfl (hb hby at_69) rfl rfl (l' := #[.val (.long q0), .second, .val (.ref b1), .val (.ref b_35), .val (.ref b_43), .unset, .unset, .unset]) rfl ?_
    show Steps p.tables e below (T43.setTop (mkF m 71 #[.val (.long q0), .second, .val (.ref b1), .val (.ref b_35), .val (.ref b_43), .unset, .unset, .unset] [])) _
    refine XS.aload X43.here hx rfl (hb hby at_71) rfl rfl ?_
    show Steps p.tables e below (T43.setTop (mkF m 73 #[.val (.long q0), .second, .val (.ref b1), .val (.ref b_35), .val (.ref b_43), .unset, .unset, .unset] [(.ref b_43)])) _
    refine XS.lloadN X43.here hx rfl (hb hby at_73) rfl ?_
    show Steps p.tables e below (T43.setTop (mkF m 74 #[.val (.long q0), .second, .val (.ref b1), .val (.ref b_35), .val (.ref b_43), .unset, .unset, .unset] [(.long q0), (.ref b_43)])) _
    refine st47 _ ?_
    show Steps p.tables e below (T47.setTop (mkF m 77 #[.val (.long q0), .second, .val (.ref b1), .val (.ref b_35), .val (.ref b_43), .unset, .unset, .unset] [(.int (1 : Int32))])) _
    refine XS.istore X47.here hx rfl (hb hby at_77) rfl (l' := #[.val (.long q0), .second, .val (.ref b1), .val (.ref b_35), .val (.ref b_43), .val (.int (1 : Int32)), .unset, .unset]) rfl ?_
    show Steps p.tables e below (T47.setTop (mkF m 79 #[.val (.long q0), .second, .val (.ref b1), .val (.ref b_35), .val (.ref b_43), .val (.int (1 : Int32)), .unset, .unset] [])) _
    refine XS.aload X47.here hx rfl (hb hby at_79) rfl rfl ?_
    show Steps p.tables e below (T47.setTop (mkF m 81 #[.val (.long q0), .second, .val (.ref b1), .val (.ref b_35), .val (.ref b_43), .val (.int (1 : Int32)), .unset, .unset] [(.ref b_43)])) _
    refine st48 _ ?_
    show Steps p.tables e below (T48.setTop (mkF m 84 #[.val (.long q0), .second, .val (.ref b1), .val (.ref b_35), .val (.ref b_43), .val (.int (1 : Int32)), .unset, .unset] [])) _
    refine XS.aloadN X48.here hx rfl (hb hby at_84) rfl rfl ?_
    show Steps p.tables e below (T48.setTop (mkF m 85 #[.val (.long q0), .second, .val (.ref b1), .val (.ref b_35), .val (.ref b_43), .val (.int (1 : Int32)), .unset, .unset] [(.ref b_35)])) _
    refine st52.trans ?_
    show Steps p.tables e below (T52.setTop (mkF m 88 #[.val (.long q0), .second, .val (.ref b1), .val (.ref b_35), .val (.ref b_43), .val (.int (1 : Int32)), .unset, .unset] [(.ref b_52)])) _
    refine XS.astore X52.here hx rfl (hb hby at_88) rfl rfl (l' := #[.val (.long q0), .second, .val (.ref b1), .val (.ref b_35), .val (.ref b_43), .val (.int (1 : Int32)), .val (.ref b_52), .unset]) rfl ?_
    show Steps p.tables e below (T52.setTop (mkF m 90 #[.val (.long q0), .second, .val (.ref b1), .val (.ref b_35), .val (.ref b_43), .val (.int (1 : Int32)), .val (.ref b_52), .unset] [])) _
    refine XS.aload X52.here hx rfl (hb hby at_90) rfl rfl ?_
    show Steps p.tables e below (T52.setTop (mkF m 92 #[.val (.long q0), .second, .val (.ref b1), .val (.ref b_35), .val (.ref b_43), .val (.int (1 : Int32)), .val (.ref b_52), .unset] [(.ref b_52)])) _
    refine XS.lloadN X52.here hx rfl (hb hby at_92) rfl ?_
    show Steps p.tables e below (T52.setTop (mkF m 93 #[.val (.long q0), .second, .val (.ref b1), .val (.ref b_35), .val (.ref b_43), .val (.int (1 : Int32)), .val (.ref b_52), .unset] [(.long q0), (.ref b_52)])) _
    refine st56 _ ?_
    show Steps p.tables e below (T56.setTop (mkF m 96 #[.val (.long q0), .second, .val (.ref b1), .val (.ref b_35), .val (.ref b_43), .val (.int (1 : Int32)), .val (.ref b_52), .unset] [(.int (1 : Int32))])) _
    refine XS.istore X56.here hx rfl (hb hby at_96) rfl (l' := #[.val (.long q0), .second, .val (.ref b1), .val (.ref b_35), .val (.ref b_43), .val (.int (1 : Int32)), .val (.ref b_52), .val (.int (1 : Int32))]) rfl ?_
    show Steps p.tables e below (T56.setTop (mkF m 98 #[.val (.long q0), .second, .val (.ref b1), .val (.ref b_35), .val (.ref b_43), .val (.int (1 : Int32)), .val (.ref b_52), .val (.int (1 : Int32))] [])) _
    refine XS.iload X56.here hx rfl (hb hby at_98) rfl ?_
    show Steps p.tables e below (T56.setTop (mkF m 100 #[.val (.long q0), .second, .val (.ref b1), .val (.ref b_35), .val (.ref b_43), .val (.int (1 : Int32)), .val (.ref b_52), .val (.int (1 : Int32))] [(.int (1 : Int32))])) _
    refine XS.ifNo X56.here hx rfl (hb hby at_100) rfl ((if0 _ _).trans (feq (show ¬ ((1 : Int32) = (0 : Int32)) from by decide)).1) ?_
    show Steps p.tables e below (T56.setTop (mkF m 103 #[.val (.long q0), .second, .val (.ref b1), .val (.ref b_35), .val (.ref b_43), .val (.int (1 : Int32)), .val (.ref b_52), .val (.int (1 : Int32))] [])) _
    refine XS.iload X56.here hx rfl (hb hby at_103) rfl ?_
    show Steps p.tables e below (T56.setTop (mkF m 105 #[.val (.long q0), .second, .val (.ref b1), .val (.ref b_35), .val (.ref b_43), .val (.int (1 : Int32)), .val (.ref b_52), .val (.int (1 : Int32))] [(.int (1 : Int32))])) _
    refine XS.ifNo X56.here hx rfl (hb hby at_105) rfl ((if0 _ _).trans (feq (show ¬ ((1 : Int32) = (0 : Int32)) from by decide)).1) ?_
    show Steps p.tables e below (T56.setTop (mkF m 108 #[.val (.long q0), .second, .val (.ref b1), .val (.ref b_35), .val (.ref b_43), .val (.int (1 : Int32)), .val (.ref b_52), .val (.int (1 : Int32))] [])) _
    refine XS.iconst X56.here hx rfl (hb hby at_108) ?_
    show Steps p.tables e below (T56.setTop (mkF m 109 #[.val (.long q0), .second, .val (.ref b1), .val (.ref b_35), .val (.ref b_43), .val (.int (1 : Int32)), .val (.ref b_52), .val (.int (1 : Int32))] [(.int (1 : Int32))])) _
    refine XS.goto X56.here hx rfl (pc0 := 109) (pc' := 113) rfl (hb hby at_109) (by decide) (by decide) ?_
    show Steps p.tables e below (T56.setTop (mkF m 113 #[.val (.long q0), .second, .val (.ref b1), .val (.ref b_35), .val (.ref b_43), .val (.int (1 : Int32)), .val (.ref b_52), .val (.int (1 : Int32))] [(.int (1 : Int32))])) _
    exact k)
  obtain ⟨fs, hr, hrun, hended, hW, hsame⟩ := X56.leave (v := some (.int (1 : Int32))) (fun h => by rw [Bd.returns] at h; cases h)
  refine ⟨_, _, pre57 _ ?_, hrun, hended, _, _, rfl, ?_, ⟨_, rfl⟩, hW, hsame.mono (by decide) (by decide)⟩
  · exact retN X56 hx (t := .boolean) Bd.returns (by simp) (hb hby at_113) hr
  · show Q0 Z q0 h0 n0 _ T56.heap _
    rw [hh56]
    exact ⟨rfl, N56⟩
set_option maxRecDepth 65536 in
set_option maxHeartbeats 40000000 in
theorem comes_1 {Post : Tables → Env → Array Value → State → Outcome → State → Prop} (hpost : ∀ tb e args s v u, (limb_1_1.after args s (.returned v) u = true ∧ limb_1_2.after args s (.returned v) u = true ∧ True) → FrameEnd s (.returned v) u (Jvm.fieldLocs frame_1_writes args s ++ Jvm.arrayLocs frame_1_arrays args s ++ Jvm.staticLocs frame_1_statics s) 24 128 → Post tb e args s (.returned v) u) :
    ArmFor flags0 classFile x code maxLocals ret World_1 tables_1 room_1 Calls_1 rest_1 Pre_1 Post := by
  intro l hfl _ _ p e ha hc hk s m args below hf hA hF happ hP
  obtain ⟨hcalls, hrest, hpre⟩ := hP
  obtain ⟨-, -, -, hnamed, -, -, -, hat⟩ := (Spec.applies_iff hf).mp happ
  obtain ⟨hg, hn⟩ := and_e (Cond.before_iff.mp (show (Jvm.Cond.and given_1 narrow_1).before args s = true from hpre))
  obtain ⟨h1, g0⟩ := and_e hg
  obtain ⟨w0, rfl⟩ : ∃ w0 : Value, args = #[w0] := by
    have hs : args.size = 1 := by simpa [Cond.value, given_1] using h1
    obtain ⟨L⟩ := args
    match L, hs with
    | [w0], _ => exact ⟨w0, rfl⟩
  have hw := fun d (hd : d ∈ tables_1) => atoms_spec (ws := Jvm.Cond.code x code maxLocals ret :: tables_1) hat d (List.mem_cons_of_mem _ hd)
  have hfit : Fit s := fun {y c} hc i hi => by
    obtain ⟨ha, rfl⟩ := Array.getElem?_eq_some_iff.mp hc
    have q := List.all_eq_true.mp ((Array.all_eq_true_iff_forall_mem.mp hF) _ (Array.getElem_mem ha)) i (List.mem_range.mpr hi)
    simpa [Array.getElem?_eq_getElem hi] using q
  obtain ⟨i0, e0⟩ := isL_v g0
  obtain rfl : w0 = (.long i0) := Option.some.inj e0
  obtain ⟨n, o, h1, h2, h3, _, L, rfl, ⟨rfl, N⟩, hq⟩ := rm0 l s _ hw tables_1 i0  s.heap s.heap.size (Nat.le_refl _)  p e ha hc hk s m _ below hf ((Spec.applies_iff_loose hf).mp happ).1 ⟨rfl, State.Warmed39.refl s, rfl⟩ trivial
  refine ⟨n, _, h1, h2, h3, hpost _ _ _ _ _ _ ⟨Cond.after_iff.mpr rfl, Cond.after_iff.mpr (eq_i res_at (Term.int_eval (1)) rfl), trivial⟩ ⟨hq.1, hq.2.1, (hq.2.2.sift fun y hy => Or.inr (N y hy)).mono (by decide) (by decide)⟩⟩
theorem main_1_1 : Claimed_1_1 := comes_1 fun _ _ _ _ _ _ h hF => ⟨h.1, hF⟩
theorem main_1_2 : Claimed_1_2 := comes_1 fun _ _ _ _ _ _ h hF => ⟨h.2.1, hF⟩
end Jvm.Pilot.@@N@@
namespace Jvm.Pilot.@@N@@
open Jvm Jvm.ClassFile Sem Op Lib Jvm.Free Jvm.Stand Jvm.Pilot.@@N@@.Jvm.D
/-! MADE BY PROGRAM (witnessworld.py) out of the Statement's table words and the real class files: 9 classes; the members and pool entries that the words name. The judged class is class 1, her method 3. -/
namespace start1
open Jvm.ClassFile
def u (s : String) : CpInfo := .utf8 (stringToUtf16 s)
/-- a pool by its gaps: so many unusable entries, then the entry; so many at the end -/
def gap : Nat → List CpInfo → List CpInfo
  | 0, r => r
  | n + 1, r => .unusable :: gap n r
def poolList (es : List (Nat × CpInfo)) (last : Nat) : List CpInfo := es.foldr (fun e r => gap e.1 (e.2 :: r)) (gap last [])
def pool (es : List (Nat × CpInfo)) (last : Nat) : Array CpInfo := ⟨poolList es last⟩
def fileOf (pool : Array CpInfo) (this : Nat) (attrs : Array Attribute := #[]) (ms : Array MethodInfo := #[]) (fl : Nat := 33) (sup : Nat := 0) (ifs : Array Nat := #[]) (fds : Array FieldInfo := #[]) : ClassFile where
  minorVersion := 0
  majorVersion := 65
  constantPool := pool
  accessFlags := fl
  thisClass := this
  superClass := sup
  interfaces := ifs
  fields := fds
  methods := ms
  attributes := attrs
def plain (name : String) (sup : Option ClassId) : Class where
  name := name
  kind := .ordinary
  loader := none
  accessFlags := 33
  super := sup
  interfaces := #[]
  cf := none
  fields := #[]
  methods := #[]
  instanceTypes := #[]
  staticTypes := #[]
  resolved := #[]
  callSites := []
  init := .initialized
  statics := none
  mirror := none

def pool0 : Array CpInfo := pool [(5, u "<init>"), (0, u "()V"), (1, .class_ 10), (1, u "java/lang/Object"), (85, u "clone"), (0, u "()Ljava/lang/Object;")] 26

def k0c0 : Code := { maxStack := 0, maxLocals := 1, code := object_method_1_code, exceptionTable := #[], attributes := #[] }
def k0m0 : Method := { name := "<init>", desc := "()V", sig := { parameters := [], returnType := none }, accessFlags := 1, code := some k0c0 }
def k0m1 : Method := { name := "clone", desc := "()Ljava/lang/Object;", sig := { parameters := [], returnType := some (.object "java/lang/Object") }, accessFlags := 260, code := none }
/-- java/lang/Object -/
def k0 : Class := { plain "java/lang/Object" none with
  accessFlags := 33
  interfaces := #[]
  cf := some (fileOf pool0 8 #[] #[{ accessFlags := 1, nameIndex := 5, descriptorIndex := 6, attributes := #[] }, { accessFlags := 260, nameIndex := 96, descriptorIndex := 97, attributes := #[] }] 33 0 #[] #[])
  fields := #[]
  methods := #[k0m0, k0m1]
  instanceTypes := #[]
  staticTypes := #[]
  resolved := Array.replicate 124 none
  statics := none }

def pool1 : Array CpInfo := pool [(2, .class_ 4), (1, u "java/lang/Object"), (0, u "<init>"), (0, u "()V"), (0, .methodref 8 9), (0, .class_ 10), (0, .nameAndType 11 12), (0, u "com/example/keyclasp/keyclasp/methods/MacAddress"), (0, u "of"), (0, u "([B)Lcom/example/keyclasp/keyclasp/methods/MacAddress;"), (0, .methodref 14 15), (0, .class_ 16), (0, .nameAndType 17 18), (0, u "com/example/keyclasp/keyclasp/methods/MacAddressOfPinLaw"), (0, u "flip"), (0, u "([B)V"), (0, .methodref 8 20), (0, .nameAndType 21 22), (0, u "bytes"), (0, u "()[B"), (0, .methodref 14 24), (0, .nameAndType 25 26), (0, u "holds"), (0, u "([BJ)Z"), (3, u "law"), (0, u "(J)Z")] 4

def k1m0 : Method := { name := "<init>", desc := "()V", sig := { parameters := [], returnType := none }, accessFlags := 1, code := none }
def k1c1 : Code := { maxStack := 4, maxLocals := 3, code := method_2_code, exceptionTable := #[], attributes := #[] }
def k1m1 : Method := { name := "holds", desc := "([BJ)Z", sig := { parameters := [(.array .byte), .long], returnType := some .boolean }, accessFlags := 10, code := some k1c1 }
def k1c2 : Code := { maxStack := 4, maxLocals := 1, code := method_3_code, exceptionTable := #[], attributes := #[] }
def k1m2 : Method := { name := "flip", desc := "([B)V", sig := { parameters := [(.array .byte)], returnType := none }, accessFlags := 10, code := some k1c2 }
def k1c3 : Code := { maxStack := 5, maxLocals := 8, code := code, exceptionTable := #[], attributes := #[] }
def k1m3 : Method := { name := "law", desc := "(J)Z", sig := { parameters := [.long], returnType := some .boolean }, accessFlags := 9, code := some k1c3 }
/-- com/example/keyclasp/keyclasp/methods/MacAddressOfPinLaw -/
def k1 : Class := { plain "com/example/keyclasp/keyclasp/methods/MacAddressOfPinLaw" (some 0) with
  accessFlags := 49
  interfaces := #[]
  cf := some (fileOf pool1 14 #[] #[{ accessFlags := 1, nameIndex := 5, descriptorIndex := 6, attributes := #[] }, { accessFlags := 10, nameIndex := 25, descriptorIndex := 26, attributes := #[] }, { accessFlags := 10, nameIndex := 17, descriptorIndex := 18, attributes := #[] }, { accessFlags := 9, nameIndex := 30, descriptorIndex := 31, attributes := #[] }] 49 2 #[] #[])
  fields := #[]
  methods := #[k1m0, k1m1, k1m2, k1m3]
  instanceTypes := #[]
  staticTypes := #[]
  resolved := Array.replicate 36 none
  statics := none }

def pool2 : Array CpInfo := pool [(1, .methodref 2 3), (0, .class_ 4), (0, .nameAndType 5 6), (0, u "java/lang/Object"), (0, u "<init>"), (0, u "()V"), (0, .fieldref 8 9), (0, .class_ 10), (0, .nameAndType 11 12), (0, u "com/example/keyclasp/keyclasp/methods/MacAddress"), (0, u "bytes"), (0, u "[B"), (2, u "FORMAT"), (0, u "Ljava/util/HexFormat;"), (15, .methodref 8 33), (0, .nameAndType 5 34), (0, u "([B)V"), (3, .methodref 39 40), (0, .class_ 12), (0, .nameAndType 41 42), (0, u "clone"), (0, u "()Ljava/lang/Object;"), (10, u "BYTES"), (0, u "I"), (7, u "of"), (0, u "([B)Lcom/example/keyclasp/keyclasp/methods/MacAddress;"), (0, u "()[B")] 22

def k2c0 : Code := { maxStack := 2, maxLocals := 2, code := prog_23_method_1_code, exceptionTable := #[], attributes := #[] }
def k2m0 : Method := { name := "<init>", desc := "([B)V", sig := { parameters := [(.array .byte)], returnType := none }, accessFlags := 2, code := some k2c0 }
def k2c1 : Code := { maxStack := 3, maxLocals := 1, code := prog_23_method_3_code, exceptionTable := #[], attributes := #[] }
def k2m1 : Method := { name := "of", desc := "([B)Lcom/example/keyclasp/keyclasp/methods/MacAddress;", sig := { parameters := [(.array .byte)], returnType := some (.object "com/example/keyclasp/keyclasp/methods/MacAddress") }, accessFlags := 8, code := some k2c1 }
def k2c2 : Code := { maxStack := 1, maxLocals := 1, code := prog_23_method_4_code, exceptionTable := #[], attributes := #[] }
def k2m2 : Method := { name := "bytes", desc := "()[B", sig := { parameters := [], returnType := some (.array .byte) }, accessFlags := 1, code := some k2c2 }
/-- com/example/keyclasp/keyclasp/methods/MacAddress -/
def k2 : Class := { plain "com/example/keyclasp/keyclasp/methods/MacAddress" (some 0) with
  accessFlags := 49
  interfaces := #[]
  cf := some (fileOf pool2 8 #[] #[{ accessFlags := 2, nameIndex := 5, descriptorIndex := 34, attributes := #[] }, { accessFlags := 8, nameIndex := 62, descriptorIndex := 63, attributes := #[] }, { accessFlags := 1, nameIndex := 11, descriptorIndex := 64, attributes := #[] }] 49 2 #[] #[{ accessFlags := 25, nameIndex := 53, descriptorIndex := 54, attributes := #[] }, { accessFlags := 26, nameIndex := 15, descriptorIndex := 16, attributes := #[] }, { accessFlags := 18, nameIndex := 11, descriptorIndex := 12, attributes := #[] }])
  fields := #[{ name := "BYTES", type := .int, accessFlags := 25, slot := 0, constantValue := 0 }, { name := "FORMAT", type := (.object "java/util/HexFormat"), accessFlags := 26, slot := 1, constantValue := 0 }, { name := "bytes", type := (.array .byte), accessFlags := 18, slot := 0, constantValue := 0 }]
  methods := #[k2m0, k2m1, k2m2]
  instanceTypes := #[(.array .byte)]
  staticTypes := #[.int, (.object "java/util/HexFormat")]
  resolved := Array.replicate 87 none
  statics := none }

def pool3 : Array CpInfo := pool [(1, .class_ 2), (0, u "java/lang/Cloneable"), (0, .class_ 4), (0, u "java/lang/Object")] 2

/-- java/lang/Cloneable -/
def k3 : Class := { plain "java/lang/Cloneable" (some 0) with
  accessFlags := 1537
  interfaces := #[]
  cf := some (fileOf pool3 1 #[] #[] 1537 3 #[] #[])
  fields := #[]
  methods := #[]
  instanceTypes := #[]
  staticTypes := #[]
  resolved := Array.replicate 7 none
  statics := none }

def pool4 : Array CpInfo := pool [(1, u "java/io/Serializable"), (0, .class_ 1), (0, u "java/lang/Object"), (0, .class_ 3)] 3

/-- java/io/Serializable -/
def k4 : Class := { plain "java/io/Serializable" (some 0) with
  accessFlags := 1537
  interfaces := #[]
  cf := some (fileOf pool4 2 #[] #[] 1537 4 #[] #[])
  fields := #[]
  methods := #[]
  instanceTypes := #[]
  staticTypes := #[]
  resolved := Array.replicate 8 none
  statics := none }

/-- the primitive byte -/
def k5 : Class := { plain "byte" none with kind := .primitive 'B', accessFlags := 0x411 }
/-- [B -/
def k6 : Class := { plain "[B" (some 0) with kind := .array 5 .byte, interfaces := #[3, 4], accessFlags := 1041 }

/-- the primitive int -/
def k7 : Class := { plain "int" none with kind := .primitive 'I', accessFlags := 0x411 }
/-- [I -/
def k8 : Class := { plain "[I" (some 0) with kind := .array 7 .int, interfaces := #[3, 4], accessFlags := 1041 }

def heap : Heap := #[]
def classes : Array Class := #[k0, k1, k2, k3, k4, k5, k6, k7, k8]
def interned : List (Array UInt16 × Addr) := []
def slotsUsed : Nat := 0
def theMethod : MethodId := ⟨1, 3⟩
def args0 : Array Value := #[.long 5]
def aboutOver (below : List Frame) : State where
  vm := { classes := classes, interned := interned.toArray }
  heap := heap
  slotsUsed := slotsUsed
  threads := #[{ frames := .invoking theMethod args0 :: below }]
def below0 : List Frame := [.native { method := ⟨0, 0⟩, args := #[] }]
def about1 : State := aboutOver below0
def p0 : Program := .bare "" "" ""
def e0 : Env := launch0.env 0 0 0
theorem w_frames : about1.frames = Frame.invoking theMethod args0 :: below0 := rfl
set_option maxRecDepth 65536 in
theorem w_args : argsFit about1.vm theMethod args0 = true := by decide +kernel
set_option maxRecDepth 65536 in
theorem w_heap : heapFits about1 = true := by decide +kernel
set_option maxRecDepth 65536 in
theorem w_runnable : about1.curStatus? = some .runnable := by decide +kernel
set_option maxRecDepth 65536 in
theorem w_alone : about1.alone = true := by decide +kernel
set_option maxRecDepth 65536 in
theorem w_named : about1.methodNamed? x = some theMethod := by decide +kernel
set_option maxRecDepth 65536 in
theorem w_hears : about1.hears theMethod below0 = true := by decide +kernel
set_option maxRecDepth 65536 in
theorem w_ripe : about1.ripe theMethod args0 below0 = true := by decide +kernel
theorem w_running : about1.status = .running := rfl
set_option maxRecDepth 65536 in
theorem w_room : about1.hasRoom e0.platform room_1 = true :=
  launch0.hasRoom_least _ room_1 (by decide +kernel) (by decide +kernel) (by decide +kernel) (by decide +kernel) (by decide +kernel) (by decide +kernel)
theorem allAtoms_all (ts : List Jvm.Cond) (a : Array Jvm.Value) (st : Jvm.State) : (allAtoms ts).before a st = ts.all (fun c => c.before a st) := by
  induction ts with
  | nil => rfl
  | cons c t ih =>
    show (Jvm.Cond.and c (allAtoms t)).before a st = _
    rw [Jvm.Cond.before_and, ih, List.all_cons]
def words1 : List Jvm.Cond := Jvm.Cond.code x code maxLocals ret :: tables_1
/-- a 'code' word, met by the world's own term for the bytes: nothing is compared byte by byte -/
theorem code_word {y : MethodName} {bytes : ByteArray} {mx : Nat} {rt : Option FieldType} {a : Array Value} {s : State} {m : MethodId} {meth : Method} {c : Code} (h1 : s.methodNamed? y = some m) (h2 : s.vm.method? m = some meth) (h3 : meth.code = some c) (h4 : c.code = bytes)
    (h5 : (c.maxLocals == mx && c.exceptionTable.isEmpty && decide (c.maxStack ≤ mostOperands) && decide (meth.sig.returnType = rt) && !meth.locks && decide (parseMethodDescriptor y.desc = some meth.sig)) = true) : (Jvm.Cond.code y bytes mx rt).before a s = true := by
  simp only [Bool.and_eq_true, beq_iff_eq, Bool.not_eq_true', decide_eq_true_eq] at h5
  obtain ⟨⟨⟨⟨⟨g1, g2⟩, g3⟩, g4⟩, g5⟩, g6⟩ := h5
  simp [Cond.before, Cond.holds, Cond.value, h1, h2, h3, h4, g1, g2, g3, g4, g5, g6]
def isCode : Jvm.Cond → Bool
  | .code _ _ _ _ => true
  | _ => false
theorem all_split {L : List Jvm.Cond} {P : Jvm.Cond → Bool} (h1 : L.all (fun c => isCode c || P c) = true) (h2 : ∀ c ∈ L.filter isCode, P c = true) : L.all P = true := by
  refine List.all_eq_true.mpr fun c hc => ?_
  have h := List.all_eq_true.mp h1 c hc
  rcases Bool.eq_false_or_eq_true (isCode c) with hi | hi
  · exact h2 c (List.mem_filter.mpr ⟨hc, hi⟩)
  · simpa [hi] using h
set_option maxRecDepth 65536 in
theorem w_c0 : (Jvm.Cond.code x code maxLocals ret).before args0 about1 = true := code_word (m := ⟨1, 3⟩) (meth := k1m3) (c := k1c3) (by decide +kernel) rfl rfl rfl (by decide +kernel)
set_option maxRecDepth 65536 in
theorem w_c1 : (Jvm.Cond.code ({ cls := "com/example/keyclasp/keyclasp/methods/MacAddress", name := "of", desc := "([B)Lcom/example/keyclasp/keyclasp/methods/MacAddress;" } : Jvm.MethodName) prog_23_method_3_code (1 : Nat) (Option.some (Jvm.ClassFile.FieldType.object "com/example/keyclasp/keyclasp/methods/MacAddress"))).before args0 about1 = true := code_word (m := ⟨2, 1⟩) (meth := k2m1) (c := k2c1) (by decide +kernel) rfl rfl rfl (by decide +kernel)
set_option maxRecDepth 65536 in
theorem w_c2 : (Jvm.Cond.code ({ cls := "com/example/keyclasp/keyclasp/methods/MacAddress", name := "<init>", desc := "([B)V" } : Jvm.MethodName) prog_23_method_1_code (2 : Nat) (Option.none : Option Jvm.ClassFile.FieldType)).before args0 about1 = true := code_word (m := ⟨2, 0⟩) (meth := k2m0) (c := k2c0) (by decide +kernel) rfl rfl rfl (by decide +kernel)
set_option maxRecDepth 65536 in
theorem w_c3 : (Jvm.Cond.code ({ cls := "java/lang/Object", name := "<init>", desc := "()V" } : Jvm.MethodName) object_method_1_code (1 : Nat) (Option.none : Option Jvm.ClassFile.FieldType)).before args0 about1 = true := code_word (m := ⟨0, 0⟩) (meth := k0m0) (c := k0c0) (by decide +kernel) rfl rfl rfl (by decide +kernel)
set_option maxRecDepth 65536 in
theorem w_c4 : (Jvm.Cond.code ({ cls := "com/example/keyclasp/keyclasp/methods/MacAddressOfPinLaw", name := "flip", desc := "([B)V" } : Jvm.MethodName) method_3_code (1 : Nat) (Option.none : Option Jvm.ClassFile.FieldType)).before args0 about1 = true := code_word (m := ⟨1, 2⟩) (meth := k1m2) (c := k1c2) (by decide +kernel) rfl rfl rfl (by decide +kernel)
set_option maxRecDepth 65536 in
theorem w_c5 : (Jvm.Cond.code ({ cls := "com/example/keyclasp/keyclasp/methods/MacAddress", name := "bytes", desc := "()[B" } : Jvm.MethodName) prog_23_method_4_code (1 : Nat) (Option.some (Jvm.ClassFile.FieldType.array Jvm.ClassFile.FieldType.byte))).before args0 about1 = true := code_word (m := ⟨2, 2⟩) (meth := k2m2) (c := k2c2) (by decide +kernel) rfl rfl rfl (by decide +kernel)
set_option maxRecDepth 65536 in
theorem w_c6 : (Jvm.Cond.code ({ cls := "com/example/keyclasp/keyclasp/methods/MacAddressOfPinLaw", name := "holds", desc := "([BJ)Z" } : Jvm.MethodName) method_2_code (3 : Nat) (Option.some Jvm.ClassFile.FieldType.boolean)).before args0 about1 = true := code_word (m := ⟨1, 1⟩) (meth := k1m1) (c := k1c1) (by decide +kernel) rfl rfl rfl (by decide +kernel)
def codes1 : List Jvm.Cond := [Jvm.Cond.code x code maxLocals ret, Jvm.Cond.code ({ cls := "com/example/keyclasp/keyclasp/methods/MacAddress", name := "of", desc := "([B)Lcom/example/keyclasp/keyclasp/methods/MacAddress;" } : Jvm.MethodName) prog_23_method_3_code (1 : Nat) (Option.some (Jvm.ClassFile.FieldType.object "com/example/keyclasp/keyclasp/methods/MacAddress")), Jvm.Cond.code ({ cls := "com/example/keyclasp/keyclasp/methods/MacAddress", name := "<init>", desc := "([B)V" } : Jvm.MethodName) prog_23_method_1_code (2 : Nat) (Option.none : Option Jvm.ClassFile.FieldType), Jvm.Cond.code ({ cls := "java/lang/Object", name := "<init>", desc := "()V" } : Jvm.MethodName) object_method_1_code (1 : Nat) (Option.none : Option Jvm.ClassFile.FieldType), Jvm.Cond.code ({ cls := "com/example/keyclasp/keyclasp/methods/MacAddressOfPinLaw", name := "flip", desc := "([B)V" } : Jvm.MethodName) method_3_code (1 : Nat) (Option.none : Option Jvm.ClassFile.FieldType), Jvm.Cond.code ({ cls := "com/example/keyclasp/keyclasp/methods/MacAddress", name := "bytes", desc := "()[B" } : Jvm.MethodName) prog_23_method_4_code (1 : Nat) (Option.some (Jvm.ClassFile.FieldType.array Jvm.ClassFile.FieldType.byte)), Jvm.Cond.code ({ cls := "com/example/keyclasp/keyclasp/methods/MacAddressOfPinLaw", name := "holds", desc := "([BJ)Z" } : Jvm.MethodName) method_2_code (3 : Nat) (Option.some Jvm.ClassFile.FieldType.boolean)]
set_option maxRecDepth 65536 in
theorem codes_eq : words1.filter isCode = codes1 := rfl
theorem w_codes : ∀ c ∈ words1.filter isCode, c.before args0 about1 = true := by
  rw [codes_eq]
  intro c hc
  simp only [codes1, List.mem_cons, List.not_mem_nil, or_false] at hc
  rcases hc with rfl | rfl | rfl | rfl | rfl | rfl | rfl
  · exact w_c0
  · exact w_c1
  · exact w_c2
  · exact w_c3
  · exact w_c4
  · exact w_c5
  · exact w_c6
set_option maxRecDepth 65536 in
theorem w_t1 : (words1.take 24).all (fun c => isCode c || c.before args0 about1) = true := by decide +kernel
set_option maxRecDepth 65536 in
theorem w_t2 : (words1.drop 24).all (fun c => isCode c || c.before args0 about1) = true := by decide +kernel
theorem w_tables : (allAtoms (Jvm.Cond.code x code maxLocals ret :: tables_1)).before args0 about1 = true := by
  rw [allAtoms_all]
  show words1.all (fun c => c.before args0 about1) = true
  refine all_split ?_ w_codes
  rw [← List.take_append_drop 24 words1, List.all_append, w_t1, w_t2]
  rfl
set_option maxRecDepth 65536 in
theorem w_case : (Jvm.Cond.and given_1 narrow_1).before args0 about1 = true := by decide +kernel
theorem w_applies : (headSpec (Jvm.Cond.code x code maxLocals ret :: tables_1) room_1).applies x e0.platform about1 = true :=
  (Spec.applies_iff w_frames).mpr ⟨w_running, w_runnable, w_alone, w_named, w_hears, w_ripe, w_room, w_tables⟩
theorem atStart : AtStart classFile x code maxLocals ret World_1 tables_1 room_1 Calls_1 rest_1 Pre_1 launch0 p0 e0 about1 theMethod args0 below0 :=
  ⟨lists_1, trivial, launch0.admits_env _ _ _, launch0.least_env, fairChoices_fair.cas, fairChoices_fair.clock, w_frames, w_args, w_heap, w_applies, trivial, trivial, w_case⟩
end start1
theorem witness_1 : WitnessClaimed_1 := ⟨start1.p0, start1.e0, start1.about1, start1.theMethod, start1.args0, start1.below0, start1.atStart⟩
end Jvm.Pilot.@@N@@
