import JvmDerived
import JvmDerived.Pilot.@@N@@Statement
import JvmDerived.Pilot.@@N@@Code
set_option linter.unusedVariables false
set_option linter.unusedSimpArgs false
namespace Jvm.RoadKit
open Sem ClassFile Op Lib Jvm.Stand Jvm.Free Jvm.LawKit
section New
variable {p : Program} {l : Launch} {e : Env} {R : Room} {s : State} {m : MethodId} {args : Array Value} {below : List Frame} {meth : Method} {c : Code} {T : State} {locs : List Loc} {cells slots : Nat}
theorem retI (X : Stand p l e R s m args below meth c T locs cells slots) (hx : p.tables.exec = Jvm.exec) {pc : Nat} {Ls : Array Slot} {z : Int32} {rest : List Value} (hret : meth.sig.returnType = some .int) (hd : decode c.code pc = .ok (.ireturn, 1)) {fs : List Frame}
    (hl : ∀ (f : JFrame) (acts : List Action), f.method = m → f.locked = none → f.entered = [] → (doReturn e (T.setTop f) acts (some (.int z))).1 = T.setFrames fs) : Steps p.tables e below (T.setTop (mkF m pc Ls (.int z :: rest))) (T.setFrames fs) := by
  have hm' : T.vm.method? m = some meth := X.method'
  have hn : narrow .int (.int z) = .int z := rfl
  show Steps p.tables e below (T.setTop { method := m, pc := pc, locals := Ls, stack := _ :: rest, locked := none }) _
  jvm_step X.here [X.here.top, hx, hd, hm', hret, hn]
  first | (intro acts; rw [hl _ acts rfl rfl rfl]) | rw [hl _ _ rfl rfl rfl]
  exact Steps.refl _
end New
end Jvm.RoadKit
namespace Jvm.Pilot.@@N@@
open Jvm Jvm.ClassFile Sem Op Lib Jvm.Free Jvm.Stand Jvm.LawKit Jvm.RoadKit Bundle Jvm.Pilot.@@N@@.Jvm.D
theorem own_cat {v : Value} (h : v.isRef = true) : v.category = 1 := by rcases ref_cases h with rfl | ⟨_, rfl⟩ <;> rfl
theorem own_ltL {x y : Int64} (h : x < y) : ifCond.holds .lt (lcmpW x y) = true ∧ ifCond.holds .ge (lcmpW x y) = false ∧ ifCond.holds .gt (lcmpW y x) = true ∧ ifCond.holds .le (lcmpW y x) = false :=
  ⟨(if0 _ _).trans (tlt ((lw_lt x y).mpr h)).1, (if0 _ _).trans (tlt ((lw_lt x y).mpr h)).2.1, (if0 _ _).trans (tlt ((lw_gt y x).mpr h)).2.2.1, (if0 _ _).trans (tlt ((lw_gt y x).mpr h)).2.2.2⟩
theorem own_fltL {x y : Int64} (h : ¬ x < y) : ifCond.holds .lt (lcmpW x y) = false ∧ ifCond.holds .ge (lcmpW x y) = true ∧ ifCond.holds .gt (lcmpW y x) = false ∧ ifCond.holds .le (lcmpW y x) = true :=
  ⟨(if0 _ _).trans (flt (fun q => h ((lw_lt x y).mp q))).1, (if0 _ _).trans (flt (fun q => h ((lw_lt x y).mp q))).2.1, (if0 _ _).trans (flt (fun q => h ((lw_gt y x).mp q))).2.2.1, (if0 _ _).trans (flt (fun q => h ((lw_gt y x).mp q))).2.2.2⟩
theorem own_eqL {x y : Int64} (h : x = y) : ifCond.holds .eq (lcmpW x y) = true ∧ ifCond.holds .ne (lcmpW x y) = false :=
  ⟨(if0 _ _).trans (teq ((lw_eq x y).mpr h)).1, (if0 _ _).trans (teq ((lw_eq x y).mpr h)).2⟩
theorem own_neL {x y : Int64} (h : ¬ x = y) : ifCond.holds .eq (lcmpW x y) = false ∧ ifCond.holds .ne (lcmpW x y) = true :=
  ⟨(if0 _ _).trans (feq (fun q => h ((lw_eq x y).mp q))).1, (if0 _ _).trans (feq (fun q => h ((lw_eq x y).mp q))).2⟩

theorem own_fin {c : Int32} {N : Nat} (h0 : 0 ≤ c.toInt) (h1 : c.toInt < N) (hN : N ≤ 2147483648) : ∃ n : Fin N, c = n.1.toInt32 := by
  refine ⟨⟨c.toInt.toNat, by omega⟩, ?_⟩
  apply Int32.toInt_inj.mp
  rw [len_toInt (by show c.toInt.toNat < 2 ^ 31; omega)]
  show c.toInt = ((c.toInt.toNat : Nat) : Int)
  omega
theorem own_lt {x y : Int32} (h : x < y) : x.toInt < y.toInt := Int32.lt_iff_toInt_lt.mp h
theorem own_nlt' {x y : Int32} (h : ¬ x < y) : y.toInt ≤ x.toInt := by rw [Int32.lt_iff_toInt_lt] at h; omega
theorem own_nlt {x y : Int32} {k : Int} (h : k ≤ x.toInt) (hk : y.toInt ≤ k) : ¬ x < y := by rw [Int32.lt_iff_toInt_lt]; omega
theorem own_gt {x y : Int32} {k : Int} (h : k ≤ x.toInt) (hk : y.toInt < k) : y < x := by rw [Int32.lt_iff_toInt_lt]; omega
theorem own_ne {x y : Int32} {k : Int} (h : k ≤ x.toInt) (hk : y.toInt < k) : ¬ x = y := by rintro rfl; omega
theorem own_gtn {x y : Int32} {k : Int} (h : x.toInt < k) (hk : k ≤ y.toInt) : x < y := by rw [Int32.lt_iff_toInt_lt]; omega
theorem own_nel {x y : Int32} {k : Int} (h : x.toInt < k) (hk : k ≤ y.toInt) : ¬ x = y := by rintro rfl; omega
theorem own_lt' {x y : Int32} (h : x < y) : x.toInt + 1 ≤ y.toInt := by have := own_lt h; omega
theorem own_le' {x y : Int32} (h : ¬ y < x) : x.toInt < y.toInt + 1 := by have := own_nlt' h; omega

def own_A (Z : State) (h : Heap) (a : Addr) (ty : FieldType) (n : Nat) (f : Nat → Value) : Prop := ∃ c : Cell, Arr Z h a c ty ∧ c.slots.size = n ∧ ∀ j, j < n → c.slots[j]? = some (f j)
section OwnA
variable {Z : State} {h h' : Heap} {a b : Addr} {ty : FieldType} {n sl : Nat} {f : Nat → Value} {v : Value} {ws : List Addr}
theorem own_A.lt (F : own_A Z h a ty n f) : a < h.size := by obtain ⟨c, A, -⟩ := F; exact A.lt
theorem own_A.ext (F : own_A Z h a ty n f) (E : Ext h h') : own_A Z h' a ty n f := by obtain ⟨c, A, r⟩ := F; exact ⟨c, A.ext E, r⟩
theorem own_A.other (F : own_A Z h b ty n f) (W : Wr h h' a sl v) (q : b ≠ a) : own_A Z h' b ty n f := by obtain ⟨c, A, r⟩ := F; exact ⟨c, A.other W q, r⟩
theorem own_A.keep (F : own_A Z h a ty n f) (K : Keep h h' ws) (q : a ∉ ws) : own_A Z h' a ty n f := by obtain ⟨c, A, r⟩ := F; exact ⟨c, ⟨K.2.1 a c A.1 q, A.2⟩, r⟩
theorem own_A.set (F : own_A Z h a ty n f) (W : Wr h h' a sl v) : own_A Z h' a ty n (fun i => if i = sl then v else f i) := by
  obtain ⟨c, A, S, H⟩ := F
  refine ⟨_, A.same W, (sz_set _ _ _).trans S, fun j hj => ?_⟩
  by_cases e : j = sl
  · subst e
    simp only [Cell.setSlot, if_true]
    rw [Array.getElem?_setIfInBounds_self_of_lt (by omega)]
  · simp only [Cell.setSlot, if_neg e]
    rw [Array.getElem?_setIfInBounds_ne (Ne.symm e)]
    exact H j hj
theorem own_A.eqv {g : Nat → Value} (F : own_A Z h a ty n f) (e : ∀ j, j < n → f j = g j) : own_A Z h a ty n g := by
  obtain ⟨c, A, S, H⟩ := F
  exact ⟨c, A, S, fun j hj => (e j hj) ▸ H j hj⟩
theorem own_A.setI {g : Nat → Int32} {x : Int32} (F : own_A Z h a ty n (fun i => .int (g i))) (W : Wr h h' a sl (.int x)) : own_A Z h' a ty n (fun i => .int (if i = sl then x else g i)) :=
  (F.set W).eqv fun j _ => by
    by_cases e : j = sl
    · simp only [if_pos e]
    · simp only [if_neg e]
theorem own_A.setJ {g : Nat → Int64} {x : Int64} (F : own_A Z h a ty n (fun i => .long (g i))) (W : Wr h h' a sl (.long x)) : own_A Z h' a ty n (fun i => .long (if i = sl then x else g i)) :=
  (F.set W).eqv fun j _ => by
    by_cases e : j = sl
    · simp only [if_pos e]
    · simp only [if_neg e]
theorem own_A.new {k : ClassId} {z : Int32} (A : Arr Z h a (newA k ty z) ty) : own_A Z h a ty z.toNatClampNeg (fun _ => defaultValue ty) :=
  ⟨_, A, sz_new _ _ _, fun j hj => by simp [newA, hj]⟩
end OwnA
theorem own_in {c : Cell} {n : Nat} {j : Int32} (S : c.slots.size = n) (h : 0 ≤ j.toInt ∧ j.toInt < n) : ¬ (j < 0 ∨ c.slots.size ≤ j.toNatClampNeg) := by
  rw [S, Int32.lt_iff_toInt_lt, show (0 : Int32).toInt = 0 from rfl]
  have e : j.toNatClampNeg = j.toInt.toNat := rfl
  rw [e]; omega
theorem own_ix {n : Nat} {j : Int32} (h : 0 ≤ j.toInt ∧ j.toInt < n) : j.toNatClampNeg < n := by
  have e : j.toNatClampNeg = j.toInt.toNat := rfl
  rw [e]; omega
theorem own_len {c : Cell} {n : Nat} {z : Int32} (S : c.slots.size = n) (h : n.toInt32 = z) : c.slots.size.toInt32 = z := by rw [S]; exact h
def own_O (Z : State) (h : Heap) (a : Addr) (C : String) : Prop := ∃ c : Cell, h[a]? = some c ∧ Ovr Z c.cls C
theorem own_O.ext {Z : State} {h h' : Heap} {a : Addr} {C : String} (F : own_O Z h a C) (E : Ext h h') : own_O Z h' a C := by obtain ⟨c, h1, o⟩ := F; exact ⟨c, E.2 _ _ h1, o⟩
theorem own_O.wr {Z : State} {h h' : Heap} {a b : Addr} {C : String} {sl : Nat} {v : Value} (F : own_O Z h a C) (W : Wr h h' b sl v) : own_O Z h' a C := by
  obtain ⟨c, h1, o⟩ := F
  obtain ⟨c', e1, e2, -⟩ := wr_at W h1
  exact ⟨c', e1, e2 ▸ o⟩
theorem own_sto {Z : State} {h : Heap} {a y : Addr} {cl : Cell} {ty : FieldType} {C : String} (A : Arr Z h a cl ty) (O : own_O Z h a C) (I : Ins Z h y C true) : Sto Z h a (.ref y) := by
  obtain ⟨c, h1, o⟩ := O
  cases A.1.symm.trans h1
  exact Sto.of A o I

theorem own_fld {args : Array Value} {s : State} {t : Term} {C n d : String} {k : Int32} {x : Addr} (ht : t.eval args s none [] s = some (.ref x)) (h : (Jvm.Cond.eq (.field t C n d) (.int k)).value args s none s [] = some true) : Fld s s.heap x C n d (.int k) := by
  obtain ⟨u, v, e1, e2, k1, k2⟩ := cmp_v (Or.inl h)
  cases (Term.int_eval k).symm.trans e2
  obtain ⟨z, rfl⟩ := k2
  have q := gotT (Cond.eq_ints e1 (Term.int_eval k)) h
  subst q
  exact Fld.start ((fld_at ht).symm.trans e1)

theorem own_sta_keep0 {Z : State} {h h' : Heap} {C n d : String} {v : Value} (F : Sta Z h C n d v) (K : Keep h h' []) : Sta Z h' C n d v := by
  obtain ⟨cf, i, k, f, st, cell, h1, h2, h3, h4, h5, r⟩ := F
  exact ⟨cf, i, k, f, st, cell, h1, h2, h3, h4, K.2.1 _ _ h5 nin0, r⟩
theorem own_size {args : Array Value} {s : State} {t : Term} {ty : FieldType} {n : Int32} {a : Addr} {c : Cell} (ht : t.eval args s none [] s = some (.ref a)) (A : Arr s s.heap a c ty) (h : (Jvm.Cond.eq (.length t) (.int n)).value args s none s [] = some true) : c.slots.size.toInt32 = n ∧ c.slots.size < 2 ^ 31 := by
  obtain ⟨u, v, e1, e2, k1, k2⟩ := cmp_v (Or.inl h)
  have ha := A.fin (Vm.Alike.refl _)
  by_cases hl : c.slots.size < 2 ^ 31
  · exact ⟨gotT (Cond.eq_ints (len_f ht ha hl) (Term.int_eval n)) h, hl⟩
  · simp [Term.eval, ht, ha, hl] at e1
theorem own_elem {args : Array Value} {s : State} {t u : Term} {ty : FieldType} {j : Int32} {a y : Addr} {c : Cell} (ht : t.eval args s none [] s = some (.ref a)) (A : Arr s s.heap a c ty) (hu : u.eval args s none [] s = some (.ref y)) (h : (Jvm.Cond.eq (.elem t (.int j)) u).value args s none s [] = some true) : c.slots[j.toNatClampNeg]? = some (.ref y) := by
  obtain ⟨x, z, e1, e2, k1, k2⟩ := cmp_v (Or.inl h)
  cases hu.symm.trans e2
  have q := (elem_in e1 ht (Term.int_eval j) A.1).2
  have w := gotT (eq_R e1 hu k2.2 rfl) h
  rw [← w]; exact q


theorem own_elemI {args : Array Value} {s : State} {t : Term} {ty : FieldType} {j k : Int32} {a : Addr} {c : Cell} (ht : t.eval args s none [] s = some (.ref a)) (A : Arr s s.heap a c ty) (h : (Jvm.Cond.eq (.elem t (.int j)) (.int k)).value args s none s [] = some true) : c.slots[j.toNatClampNeg]? = some (.int k) := by
  obtain ⟨x, z, e1, e2, k1, k2⟩ := cmp_v (Or.inl h)
  cases (Term.int_eval k).symm.trans e2
  obtain ⟨y, rfl⟩ := k2
  have q := (elem_in e1 ht (Term.int_eval j) A.1).2
  have w := gotT (Cond.eq_ints e1 (Term.int_eval k)) h
  rw [← w]; exact q
theorem own_of_arv {Z : State} {h : Heap} {a : Addr} {k : ClassId} {ty : FieldType} {z : Int32} {vs : List Value} {d : Value} {n : Nat} {f : Nat → Value} (F : Arv Z h a k ty z vs d) (hn : z.toNatClampNeg = n) (hf : ∀ i, i < n → vs.getD i d = f i) : own_A Z h a ty n f := by
  obtain ⟨c, A, -, S, -, H, -⟩ := F
  exact ⟨c, A, S.trans hn, fun j hj => by rw [H j (by rw [S, hn]; exact hj), hf j hj]⟩
theorem own_lens {Z : State} {h : Heap} {x t t' : Addr} {C n d : String} {ty : FieldType} {a b : Nat} {f g : Nat → Value} (F : Fld Z h x C n d (.ref t)) (G : Fld Z h x C n d (.ref t')) (A : own_A Z h t ty a f) (B : own_A Z h t' ty b g) (ne : a ≠ b) : False := by
  obtain ⟨c1, cf, k, i, fd, h1, h2, -, -, -, -, h7⟩ := F
  obtain ⟨c2, cf', k', i', fd', g1, g2, -, -, -, -, g7⟩ := G
  cases h1.symm.trans g1
  cases h2.symm.trans g2
  cases h7.symm.trans g7
  obtain ⟨c3, A1, S1, -⟩ := A
  obtain ⟨c4, B1, S2, -⟩ := B
  cases A1.1.symm.trans B1.1
  exact ne (S1.symm.trans S2)
def own_g (k : Nat) : Int32 := [(119 : Int32), 116, 105, 110, 121, 108, 102, 117].getD k 0

theorem d1_0 : decode prog_38_method_6_code 0 = .ok (.aload_n 0, 1) := by decide +kernel
theorem d1_1 : decode prog_38_method_6_code 1 = .ok (.getstatic 7, 3) := by decide +kernel
theorem d1_4 : decode prog_38_method_6_code 4 = .ok (.if_acmp .ne 7, 3) := by decide +kernel
theorem d1_7 : decode prog_38_method_6_code 7 = .ok (.iconst 1, 1) := by decide +kernel
theorem d1_8 : decode prog_38_method_6_code 8 = .ok (.goto 4, 3) := by decide +kernel
theorem d1_11 : decode prog_38_method_6_code 11 = .ok (.iconst 0, 1) := by decide +kernel
theorem d1_12 : decode prog_38_method_6_code 12 = .ok (.ireturn, 1) := by decide +kernel
theorem pn_0 : plainName "com/example/sketchgate/sketchgate/service/PolicyType" = true := by first | (simp [plainName, overriddenIn]; done) | decide +kernel
theorem ef_1 (m : MethodId) (o0 : Addr) : entryFrame m #[(.ref o0)] 1 = mkF m 0 #[.val (.ref o0)] [] := by first | (simp [entryFrame, mkF, argsToLocals, Value.category]; done) | rfl
def f1_12 (aWTINYLFU : Addr) (o0 : Addr) : Int32 := (if o0 = aWTINYLFU then (1 : Int32) else (0 : Int32))

def Q1 (Z : State) (o0 : Addr) (aWTINYLFU : Addr) (h0 : Heap) (n0 : Nat) (v : Option Value) (h : Heap) (L : List Loc) : Prop := v = some (.int ((f1_12 aWTINYLFU o0) &&& 1)) ∧ Fr n0 L ∧ h = h0 ∧ L = []
set_option maxRecDepth 65536 in
set_option maxHeartbeats 40000000 in
theorem rm1 (l : Launch) (Z : State) (a0 : Array Value) (hw : ∀ d ∈ tables_1, d.before a0 Z = true) (ws : List Jvm.Cond) (o0 : Addr) (aWTINYLFU : Addr) (h0 : Heap) (n0 : Nat) (Z0 : n0 ≤ h0.size) (S_WTINYLFU : Sta Z h0 "com/example/sketchgate/sketchgate/service/PolicyType" "WTINYLFU" "Lcom/example/sketchgate/sketchgate/service/PolicyType;" (.ref aWTINYLFU)) :
    MetFree l (⟨"com/example/sketchgate/sketchgate/service/PolicyType", "hasWindow", "()Z"⟩ : MethodName) (head1 (Jvm.Cond.code (⟨"com/example/sketchgate/sketchgate/service/PolicyType", "hasWindow", "()Z"⟩ : MethodName) prog_38_method_6_code 1 (some .boolean) :: ws) ({ frames := 0, cells := 0, slots := 0, locals := 0 } : Room)) (fun a U => a = #[(.ref o0)] ∧ Z.Warmed39 U.vm ∧ U.heap = h0) (fun _ _ _ _ _ => True) (fun _ U o U' => ∃ v L, o = .returned v ∧ Q1 Z o0 aWTINYLFU h0 n0 v U'.heap L ∧ FrameEnd U o U' L ({ frames := 0, cells := 0, slots := 0, locals := 0 } : Room).cells ({ frames := 0, cells := 0, slots := 0, locals := 0 } : Room).slots) := by
  refine MetFree.of_bodySF (plainFor_of_name pn_0) hisR ?_
  intro p e s m args below meth c s₁ Bd hml0 hP hK
  obtain ⟨rfl, hZ, hh⟩ := hP
  have hx := Bd.exec
  have hby := Bd.bytes
  have hml : c.maxLocals = 1 := hml0
  have hown : s.vm.findClass "com/example/sketchgate/sketchgate/service/PolicyType" = some m.cls := findClass_of_methodNamed Bd.named
  have hnm := (name_of_methodNamed Bd.named Bd.method).1
  have X0 : Stand p l e ({ frames := 0, cells := 0, slots := 0, locals := 0 } : Room) s m #[(.ref o0)] below meth c s₁ [] 0 0 := Stand.of_body Bd
  have e0 : s₁.heap = h0 := by rw [← hh, Bd.state]; rfl
  have N0 := Fr.nil n0
  have pre0 : ∀ t, Steps p.tables e below (s₁.setTop (mkF m 0 #[.val (.ref o0)] [])) t → Steps p.tables e below (s₁.setTop (entryFrame m #[(.ref o0)] 1)) t := fun t k => castTop (ef_1 m o0) k
  obtain ⟨T1, X1, e1, st1⟩ := getS2 X0 hx hZ hown (host := "") (Or.inl (hw _ (List.mem_of_getElem? (i := 9) rfl))) Via.refl e0 S_WTINYLFU (g := (mkF m 1 #[.val (.ref o0)] [(.ref o0)])) rfl (hb hby d1_1)
  have pre2 : ∀ t, Steps p.tables e below (T1.setTop (mkF m 4 #[.val (.ref o0)] [(.ref aWTINYLFU), (.ref o0)])) t → Steps p.tables e below (s₁.setTop (entryFrame m #[(.ref o0)] 1)) t := fun t k => pre0 t (by
    show Steps p.tables e below (s₁.setTop (mkF m 0 #[.val (.ref o0)] [])) _
    refine XS.aloadN X0.here hx rfl (hb hby d1_0) rfl rfl ?_
    show Steps p.tables e below (s₁.setTop (mkF m 1 #[.val (.ref o0)] [(.ref o0)])) _
    refine st1 _ ?_
    show Steps p.tables e below (T1.setTop (mkF m 4 #[.val (.ref o0)] [(.ref aWTINYLFU), (.ref o0)])) _
    exact k)
  have pre4 : ∀ t, Steps p.tables e below (T1.setTop (mkF m 12 #[.val (.ref o0)] [(.int (f1_12 aWTINYLFU o0))])) t → Steps p.tables e below (s₁.setTop (entryFrame m #[(.ref o0)] 1)) t := fun t k => pre2 t (by
    by_cases hf3 : o0 = aWTINYLFU
    · refine Jvm.RoadKit.acmp (g := (mkF m 4 #[.val (.ref o0)] [(.ref aWTINYLFU), (.ref o0)])) X1 hx rfl rfl rfl (pc0 := 4) (pc' := 7) (same := true) rfl (hb hby d1_4) rfl (decide_eq_true (congrArg Value.ref hf3)) (by decide) (by decide) ?_
      show Steps p.tables e below (T1.setTop (mkF m 7 #[.val (.ref o0)] [])) _
      refine XS.iconst X1.here hx rfl (hb hby d1_7) ?_
      show Steps p.tables e below (T1.setTop (mkF m 8 #[.val (.ref o0)] [(.int (1 : Int32))])) _
      refine XS.goto X1.here hx rfl (pc0 := 8) (pc' := 12) rfl (hb hby d1_8) (by decide) (by decide) ?_
      show Steps p.tables e below (T1.setTop (mkF m 12 #[.val (.ref o0)] [(.int (1 : Int32))])) _
      rw [show (f1_12 aWTINYLFU o0) = ((1 : Int32) : Int32) from by simp only [f1_12, if_pos hf3]] at k
      exact k
    · refine Jvm.RoadKit.acmp (g := (mkF m 4 #[.val (.ref o0)] [(.ref aWTINYLFU), (.ref o0)])) X1 hx rfl rfl rfl (pc0 := 4) (pc' := 11) (same := false) rfl (hb hby d1_4) rfl (decide_eq_false fun q => hf3 (Value.ref.inj q)) (by decide) (by decide) ?_
      show Steps p.tables e below (T1.setTop (mkF m 11 #[.val (.ref o0)] [])) _
      refine XS.iconst X1.here hx rfl (hb hby d1_11) ?_
      show Steps p.tables e below (T1.setTop (mkF m 12 #[.val (.ref o0)] [(.int (0 : Int32))])) _
      rw [show (f1_12 aWTINYLFU o0) = ((0 : Int32) : Int32) from by simp only [f1_12, if_neg hf3]] at k
      exact k)
  obtain ⟨fs, hr, hrun, hended, hW, hsame⟩ := X1.leave (v := some (.int ((f1_12 aWTINYLFU o0) &&& 1))) (fun h => by rw [Bd.returns] at h; cases h)
  refine ⟨_, _, pre4 _ ?_, hrun, hended, _, _, rfl, ?_, ⟨_, rfl⟩, hW, hsame.mono (by decide) (by decide)⟩
  · exact retN X1 hx (t := .boolean) Bd.returns (by simp) (hb hby d1_12) hr
  · show Q1 Z o0 aWTINYLFU h0 n0 _ T1.heap _
    rw [e1]
    exact ⟨rfl, N0, rfl, rfl⟩
theorem d2_0 : decode prog_38_method_4_code 0 = .ok (.aload_n 0, 1) := by decide +kernel
theorem d2_1 : decode prog_38_method_4_code 1 = .ok (.getfield 32, 3) := by decide +kernel
theorem d2_4 : decode prog_38_method_4_code 4 = .ok (.areturn, 1) := by decide +kernel
theorem ef_2 (m : MethodId) (o0 : Addr) : entryFrame m #[(.ref o0)] 1 = mkF m 0 #[.val (.ref o0)] [] := by first | (simp [entryFrame, mkF, argsToLocals, Value.category]; done) | rfl

def Q2 (Z : State) (o0 : Addr) (l0 : Addr) (h0 : Heap) (n0 : Nat) (v : Option Value) (h : Heap) (L : List Loc) : Prop := v = some (.ref l0) ∧ Fr n0 L ∧ h = h0 ∧ L = []
set_option maxRecDepth 65536 in
set_option maxHeartbeats 40000000 in
theorem rm2 (l : Launch) (Z : State) (a0 : Array Value) (hw : ∀ d ∈ tables_1, d.before a0 Z = true) (ws : List Jvm.Cond) (o0 : Addr) (l0 : Addr) (h0 : Heap) (n0 : Nat) (Z0 : n0 ≤ h0.size) (F_label_o0 : Fld Z h0 o0 "com/example/sketchgate/sketchgate/service/PolicyType" "label" "Ljava/lang/String;" (.ref l0)) :
    MetFree l (⟨"com/example/sketchgate/sketchgate/service/PolicyType", "label", "()Ljava/lang/String;"⟩ : MethodName) (head1 (Jvm.Cond.code (⟨"com/example/sketchgate/sketchgate/service/PolicyType", "label", "()Ljava/lang/String;"⟩ : MethodName) prog_38_method_4_code 1 (some (.object "java/lang/String")) :: ws) ({ frames := 0, cells := 0, slots := 0, locals := 0 } : Room)) (fun a U => a = #[(.ref o0)] ∧ Z.Warmed39 U.vm ∧ U.heap = h0) (fun _ _ _ _ _ => True) (fun _ U o U' => ∃ v L, o = .returned v ∧ Q2 Z o0 l0 h0 n0 v U'.heap L ∧ FrameEnd U o U' L ({ frames := 0, cells := 0, slots := 0, locals := 0 } : Room).cells ({ frames := 0, cells := 0, slots := 0, locals := 0 } : Room).slots) := by
  refine MetFree.of_bodySF (plainFor_of_name pn_0) hisR ?_
  intro p e s m args below meth c s₁ Bd hml0 hP hK
  obtain ⟨rfl, hZ, hh⟩ := hP
  have hx := Bd.exec
  have hby := Bd.bytes
  have hml : c.maxLocals = 1 := hml0
  have hown : s.vm.findClass "com/example/sketchgate/sketchgate/service/PolicyType" = some m.cls := findClass_of_methodNamed Bd.named
  have hnm := (name_of_methodNamed Bd.named Bd.method).1
  have X0 : Stand p l e ({ frames := 0, cells := 0, slots := 0, locals := 0 } : Room) s m #[(.ref o0)] below meth c s₁ [] 0 0 := Stand.of_body Bd
  have e0 : s₁.heap = h0 := by rw [← hh, Bd.state]; rfl
  have N0 := Fr.nil n0
  have pre0 : ∀ t, Steps p.tables e below (s₁.setTop (mkF m 0 #[.val (.ref o0)] [])) t → Steps p.tables e below (s₁.setTop (entryFrame m #[(.ref o0)] 1)) t := fun t k => castTop (ef_2 m o0) k
  obtain ⟨T1, X1, e1, st1⟩ := getF X0 hx hZ hown (host := "") (Or.inl (hw _ (List.mem_of_getElem? (i := 16) rfl))) Via.refl e0 F_label_o0 (g := (mkF m 1 #[.val (.ref o0)] [(.ref o0)])) rfl rfl (hb hby d2_1)
  have pre2 : ∀ t, Steps p.tables e below (T1.setTop (mkF m 4 #[.val (.ref o0)] [(.ref l0)])) t → Steps p.tables e below (s₁.setTop (entryFrame m #[(.ref o0)] 1)) t := fun t k => pre0 t (by
    show Steps p.tables e below (s₁.setTop (mkF m 0 #[.val (.ref o0)] [])) _
    refine XS.aloadN X0.here hx rfl (hb hby d2_0) rfl rfl ?_
    show Steps p.tables e below (s₁.setTop (mkF m 1 #[.val (.ref o0)] [(.ref o0)])) _
    refine st1 _ ?_
    show Steps p.tables e below (T1.setTop (mkF m 4 #[.val (.ref o0)] [(.ref l0)])) _
    exact k)
  obtain ⟨fs, hr, hrun, hended, hW, hsame⟩ := X1.leave (v := some (.ref l0)) (fun h => by rw [Bd.returns] at h; cases h)
  refine ⟨_, _, pre2 _ ?_, hrun, hended, _, _, rfl, ?_, ⟨_, rfl⟩, hW, hsame.mono (by decide) (by decide)⟩
  · exact retOut X1 hx Bd.returns rfl (Or.inr (Or.inr (Or.inr (Or.inr ⟨rfl, rfl, rfl⟩)))) (hb hby d2_4) hr
  · show Q2 Z o0 l0 h0 n0 _ T1.heap _
    rw [e1]
    exact ⟨rfl, N0, rfl, rfl⟩
theorem d4_0 : decode jdk_43_method_13_code 0 = .ok (.aload_n 0, 1) := by decide +kernel
theorem d4_1 : decode jdk_43_method_13_code 1 = .ok (.arraylength, 1) := by decide +kernel
theorem d4_2 : decode jdk_43_method_13_code 2 = .ok (.aload_n 1, 1) := by decide +kernel
theorem d4_3 : decode jdk_43_method_13_code 3 = .ok (.arraylength, 1) := by decide +kernel
theorem d4_4 : decode jdk_43_method_13_code 4 = .ok (.if_icmp .ne 30, 3) := by decide +kernel
theorem d4_7 : decode jdk_43_method_13_code 7 = .ok (.iconst 0, 1) := by decide +kernel
theorem d4_8 : decode jdk_43_method_13_code 8 = .ok (.istore_n 2, 1) := by decide +kernel
theorem d4_9 : decode jdk_43_method_13_code 9 = .ok (.iload_n 2, 1) := by decide +kernel
theorem d4_10 : decode jdk_43_method_13_code 10 = .ok (.aload_n 0, 1) := by decide +kernel
theorem d4_11 : decode jdk_43_method_13_code 11 = .ok (.arraylength, 1) := by decide +kernel
theorem d4_12 : decode jdk_43_method_13_code 12 = .ok (.if_icmp .ge 20, 3) := by decide +kernel
theorem d4_15 : decode jdk_43_method_13_code 15 = .ok (.aload_n 0, 1) := by decide +kernel
theorem d4_16 : decode jdk_43_method_13_code 16 = .ok (.iload_n 2, 1) := by decide +kernel
theorem d4_17 : decode jdk_43_method_13_code 17 = .ok (.baload, 1) := by decide +kernel
theorem d4_18 : decode jdk_43_method_13_code 18 = .ok (.aload_n 1, 1) := by decide +kernel
theorem d4_19 : decode jdk_43_method_13_code 19 = .ok (.iload_n 2, 1) := by decide +kernel
theorem d4_20 : decode jdk_43_method_13_code 20 = .ok (.baload, 1) := by decide +kernel
theorem d4_21 : decode jdk_43_method_13_code 21 = .ok (.if_icmp .eq 5, 3) := by decide +kernel
theorem d4_26 : decode jdk_43_method_13_code 26 = .ok (.iinc 2 1, 3) := by decide +kernel
theorem d4_29 : decode jdk_43_method_13_code 29 = .ok (.goto (-20), 3) := by decide +kernel
theorem d4_32 : decode jdk_43_method_13_code 32 = .ok (.iconst 1, 1) := by decide +kernel
theorem d4_33 : decode jdk_43_method_13_code 33 = .ok (.ireturn, 1) := by decide +kernel
theorem pn_1 : plainName "java/lang/StringLatin1" = true := by first | (simp [plainName, overriddenIn]; done) | decide +kernel
theorem ef_4 (m : MethodId) (o0 : Addr) (o1 : Addr) : entryFrame m #[(.ref o0), (.ref o1)] 3 = mkF m 0 #[.val (.ref o0), .val (.ref o1), .unset] [] := by first | (simp [entryFrame, mkF, argsToLocals, Value.category]; done) | rfl

def Q4 (Z : State) (o0 : Addr) (o1 : Addr) (h0 : Heap) (n0 : Nat) (v : Option Value) (h : Heap) (L : List Loc) : Prop := v = some (.int (1 : Int32)) ∧ Fr n0 L ∧ h = h0 ∧ L = []
set_option maxRecDepth 65536 in
set_option maxHeartbeats 40000000 in
theorem rm4 (l : Launch) (Z : State) (a0 : Array Value) (hw : ∀ d ∈ tables_1, d.before a0 Z = true) (ws : List Jvm.Cond) (o0 : Addr) (o1 : Addr) (h0 : Heap) (n0 : Nat) (Z0 : n0 ≤ h0.size) (A_o0 : own_A Z h0 o0 .byte 8 (fun i => (.int (own_g i)))) (A_o1 : own_A Z h0 o1 .byte 8 (fun i => (.int (own_g i)))) :
    MetFree l (⟨"java/lang/StringLatin1", "equals", "([B[B)Z"⟩ : MethodName) (head1 (Jvm.Cond.code (⟨"java/lang/StringLatin1", "equals", "([B[B)Z"⟩ : MethodName) jdk_43_method_13_code 3 (some .boolean) :: ws) ({ frames := 0, cells := 0, slots := 0, locals := 0 } : Room)) (fun a U => a = #[(.ref o0), (.ref o1)] ∧ Z.Warmed39 U.vm ∧ U.heap = h0) (fun _ _ _ _ _ => True) (fun _ U o U' => ∃ v L, o = .returned v ∧ Q4 Z o0 o1 h0 n0 v U'.heap L ∧ FrameEnd U o U' L ({ frames := 0, cells := 0, slots := 0, locals := 0 } : Room).cells ({ frames := 0, cells := 0, slots := 0, locals := 0 } : Room).slots) := by
  refine MetFree.of_bodySF (plainFor_of_name pn_1) hisR ?_
  intro p e s m args below meth c s₁ Bd hml0 hP hK
  obtain ⟨rfl, hZ, hh⟩ := hP
  have hx := Bd.exec
  have hby := Bd.bytes
  have hml : c.maxLocals = 3 := hml0
  have hown : s.vm.findClass "java/lang/StringLatin1" = some m.cls := findClass_of_methodNamed Bd.named
  have hnm := (name_of_methodNamed Bd.named Bd.method).1
  have X0 : Stand p l e ({ frames := 0, cells := 0, slots := 0, locals := 0 } : Room) s m #[(.ref o0), (.ref o1)] below meth c s₁ [] 0 0 := Stand.of_body Bd
  have e0 : s₁.heap = h0 := by rw [← hh, Bd.state]; rfl
  have N0 := Fr.nil n0
  have pre0 : ∀ t, Steps p.tables e below (s₁.setTop (mkF m 0 #[.val (.ref o0), .val (.ref o1), .unset] [])) t → Steps p.tables e below (s₁.setTop (entryFrame m #[(.ref o0), (.ref o1)] 3)) t := fun t k => castTop (ef_4 m o0 o1) k
  have qa1 := A_o0
  obtain ⟨c1, Ar1, Sz1, H1⟩ := qa1
  have qa2 := A_o1
  obtain ⟨c2, Ar2, Sz2, H2⟩ := qa2
  have qa3 := A_o0
  obtain ⟨c3, Ar3, Sz3, H3⟩ := qa3
  have qa4 := A_o0
  obtain ⟨c4, Ar4, Sz4, H4⟩ := qa4
  have hi5 : 0 ≤ ((0 : Int32) : Int32).toInt ∧ ((0 : Int32) : Int32).toInt < (8 : Nat) := (by decide)
  have hl5 : c4.slots[((0 : Int32) : Int32).toNatClampNeg]? = some (.int ((own_g ((0 : Int32) : Int32).toNatClampNeg))) := H4 _ (own_ix hi5)
  have qa6 := A_o1
  obtain ⟨c6, Ar6, Sz6, H6⟩ := qa6
  have hi7 : 0 ≤ ((0 : Int32) : Int32).toInt ∧ ((0 : Int32) : Int32).toInt < (8 : Nat) := (by decide)
  have hl7 : c6.slots[((0 : Int32) : Int32).toNatClampNeg]? = some (.int ((own_g ((0 : Int32) : Int32).toNatClampNeg))) := H6 _ (own_ix hi7)
  have qa8 := A_o0
  obtain ⟨c8, Ar8, Sz8, H8⟩ := qa8
  have qa9 := A_o0
  obtain ⟨c9, Ar9, Sz9, H9⟩ := qa9
  have hi10 : 0 ≤ ((1 : Int32) : Int32).toInt ∧ ((1 : Int32) : Int32).toInt < (8 : Nat) := (by decide)
  have hl10 : c9.slots[((1 : Int32) : Int32).toNatClampNeg]? = some (.int ((own_g ((1 : Int32) : Int32).toNatClampNeg))) := H9 _ (own_ix hi10)
  have qa11 := A_o1
  obtain ⟨c11, Ar11, Sz11, H11⟩ := qa11
  have hi12 : 0 ≤ ((1 : Int32) : Int32).toInt ∧ ((1 : Int32) : Int32).toInt < (8 : Nat) := (by decide)
  have hl12 : c11.slots[((1 : Int32) : Int32).toNatClampNeg]? = some (.int ((own_g ((1 : Int32) : Int32).toNatClampNeg))) := H11 _ (own_ix hi12)
  have qa13 := A_o0
  obtain ⟨c13, Ar13, Sz13, H13⟩ := qa13
  have qa14 := A_o0
  obtain ⟨c14, Ar14, Sz14, H14⟩ := qa14
  have hi15 : 0 ≤ ((2 : Int32) : Int32).toInt ∧ ((2 : Int32) : Int32).toInt < (8 : Nat) := (by decide)
  have hl15 : c14.slots[((2 : Int32) : Int32).toNatClampNeg]? = some (.int ((own_g ((2 : Int32) : Int32).toNatClampNeg))) := H14 _ (own_ix hi15)
  have qa16 := A_o1
  obtain ⟨c16, Ar16, Sz16, H16⟩ := qa16
  have hi17 : 0 ≤ ((2 : Int32) : Int32).toInt ∧ ((2 : Int32) : Int32).toInt < (8 : Nat) := (by decide)
  have hl17 : c16.slots[((2 : Int32) : Int32).toNatClampNeg]? = some (.int ((own_g ((2 : Int32) : Int32).toNatClampNeg))) := H16 _ (own_ix hi17)
  have qa18 := A_o0
  obtain ⟨c18, Ar18, Sz18, H18⟩ := qa18
  have qa19 := A_o0
  obtain ⟨c19, Ar19, Sz19, H19⟩ := qa19
  have hi20 : 0 ≤ ((3 : Int32) : Int32).toInt ∧ ((3 : Int32) : Int32).toInt < (8 : Nat) := (by decide)
  have hl20 : c19.slots[((3 : Int32) : Int32).toNatClampNeg]? = some (.int ((own_g ((3 : Int32) : Int32).toNatClampNeg))) := H19 _ (own_ix hi20)
  have qa21 := A_o1
  obtain ⟨c21, Ar21, Sz21, H21⟩ := qa21
  have hi22 : 0 ≤ ((3 : Int32) : Int32).toInt ∧ ((3 : Int32) : Int32).toInt < (8 : Nat) := (by decide)
  have hl22 : c21.slots[((3 : Int32) : Int32).toNatClampNeg]? = some (.int ((own_g ((3 : Int32) : Int32).toNatClampNeg))) := H21 _ (own_ix hi22)
  have qa23 := A_o0
  obtain ⟨c23, Ar23, Sz23, H23⟩ := qa23
  have qa24 := A_o0
  obtain ⟨c24, Ar24, Sz24, H24⟩ := qa24
  have hi25 : 0 ≤ ((4 : Int32) : Int32).toInt ∧ ((4 : Int32) : Int32).toInt < (8 : Nat) := (by decide)
  have hl25 : c24.slots[((4 : Int32) : Int32).toNatClampNeg]? = some (.int ((own_g ((4 : Int32) : Int32).toNatClampNeg))) := H24 _ (own_ix hi25)
  have qa26 := A_o1
  obtain ⟨c26, Ar26, Sz26, H26⟩ := qa26
  have hi27 : 0 ≤ ((4 : Int32) : Int32).toInt ∧ ((4 : Int32) : Int32).toInt < (8 : Nat) := (by decide)
  have hl27 : c26.slots[((4 : Int32) : Int32).toNatClampNeg]? = some (.int ((own_g ((4 : Int32) : Int32).toNatClampNeg))) := H26 _ (own_ix hi27)
  have qa28 := A_o0
  obtain ⟨c28, Ar28, Sz28, H28⟩ := qa28
  have qa29 := A_o0
  obtain ⟨c29, Ar29, Sz29, H29⟩ := qa29
  have hi30 : 0 ≤ ((5 : Int32) : Int32).toInt ∧ ((5 : Int32) : Int32).toInt < (8 : Nat) := (by decide)
  have hl30 : c29.slots[((5 : Int32) : Int32).toNatClampNeg]? = some (.int ((own_g ((5 : Int32) : Int32).toNatClampNeg))) := H29 _ (own_ix hi30)
  have qa31 := A_o1
  obtain ⟨c31, Ar31, Sz31, H31⟩ := qa31
  have hi32 : 0 ≤ ((5 : Int32) : Int32).toInt ∧ ((5 : Int32) : Int32).toInt < (8 : Nat) := (by decide)
  have hl32 : c31.slots[((5 : Int32) : Int32).toNatClampNeg]? = some (.int ((own_g ((5 : Int32) : Int32).toNatClampNeg))) := H31 _ (own_ix hi32)
  have qa33 := A_o0
  obtain ⟨c33, Ar33, Sz33, H33⟩ := qa33
  have qa34 := A_o0
  obtain ⟨c34, Ar34, Sz34, H34⟩ := qa34
  have hi35 : 0 ≤ ((6 : Int32) : Int32).toInt ∧ ((6 : Int32) : Int32).toInt < (8 : Nat) := (by decide)
  have hl35 : c34.slots[((6 : Int32) : Int32).toNatClampNeg]? = some (.int ((own_g ((6 : Int32) : Int32).toNatClampNeg))) := H34 _ (own_ix hi35)
  have qa36 := A_o1
  obtain ⟨c36, Ar36, Sz36, H36⟩ := qa36
  have hi37 : 0 ≤ ((6 : Int32) : Int32).toInt ∧ ((6 : Int32) : Int32).toInt < (8 : Nat) := (by decide)
  have hl37 : c36.slots[((6 : Int32) : Int32).toNatClampNeg]? = some (.int ((own_g ((6 : Int32) : Int32).toNatClampNeg))) := H36 _ (own_ix hi37)
  have qa38 := A_o0
  obtain ⟨c38, Ar38, Sz38, H38⟩ := qa38
  have qa39 := A_o0
  obtain ⟨c39, Ar39, Sz39, H39⟩ := qa39
  have hi40 : 0 ≤ ((7 : Int32) : Int32).toInt ∧ ((7 : Int32) : Int32).toInt < (8 : Nat) := (by decide)
  have hl40 : c39.slots[((7 : Int32) : Int32).toNatClampNeg]? = some (.int ((own_g ((7 : Int32) : Int32).toNatClampNeg))) := H39 _ (own_ix hi40)
  have qa41 := A_o1
  obtain ⟨c41, Ar41, Sz41, H41⟩ := qa41
  have hi42 : 0 ≤ ((7 : Int32) : Int32).toInt ∧ ((7 : Int32) : Int32).toInt < (8 : Nat) := (by decide)
  have hl42 : c41.slots[((7 : Int32) : Int32).toNatClampNeg]? = some (.int ((own_g ((7 : Int32) : Int32).toNatClampNeg))) := H41 _ (own_ix hi42)
  have qa43 := A_o0
  obtain ⟨c43, Ar43, Sz43, H43⟩ := qa43
  have pre44 : ∀ t, Steps p.tables e below (s₁.setTop (mkF m 33 #[.val (.ref o0), .val (.ref o1), .val (.int (8 : Int32))] [(.int (1 : Int32))])) t → Steps p.tables e below (s₁.setTop (entryFrame m #[(.ref o0), (.ref o1)] 3)) t := fun t k => pre0 t (by
    show Steps p.tables e below (s₁.setTop (mkF m 0 #[.val (.ref o0), .val (.ref o1), .unset] [])) _
    refine XS.aloadN X0.here hx rfl (hb hby d4_0) rfl rfl ?_
    show Steps p.tables e below (s₁.setTop (mkF m 1 #[.val (.ref o0), .val (.ref o1), .unset] [(.ref o0)])) _
    refine X0.arraylength hx (by rw [e0]; exact Ar1.1) (State.isArrayOf_alike hZ.alike Ar1.2.1) (g := (mkF m 1 #[.val (.ref o0), .val (.ref o1), .unset] [(.ref o0)])) rfl rfl (hb hby d4_1) _ ?_
    rw [own_len Sz1 (z := (8 : Int32)) rfl]
    show Steps p.tables e below (s₁.setTop (mkF m 2 #[.val (.ref o0), .val (.ref o1), .unset] [(.int (8 : Int32))])) _
    refine XS.aloadN X0.here hx rfl (hb hby d4_2) rfl rfl ?_
    show Steps p.tables e below (s₁.setTop (mkF m 3 #[.val (.ref o0), .val (.ref o1), .unset] [(.ref o1), (.int (8 : Int32))])) _
    refine X0.arraylength hx (by rw [e0]; exact Ar2.1) (State.isArrayOf_alike hZ.alike Ar2.2.1) (g := (mkF m 3 #[.val (.ref o0), .val (.ref o1), .unset] [(.ref o1), (.int (8 : Int32))])) rfl rfl (hb hby d4_3) _ ?_
    rw [own_len Sz2 (z := (8 : Int32)) rfl]
    show Steps p.tables e below (s₁.setTop (mkF m 4 #[.val (.ref o0), .val (.ref o1), .unset] [(.int (8 : Int32)), (.int (8 : Int32))])) _
    refine XS.icmpNo X0.here hx rfl (hb hby d4_4) rfl (teq (show (8 : Int32) = (8 : Int32) by decide)).2 ?_
    show Steps p.tables e below (s₁.setTop (mkF m 7 #[.val (.ref o0), .val (.ref o1), .unset] [])) _
    refine XS.iconst X0.here hx rfl (hb hby d4_7) ?_
    show Steps p.tables e below (s₁.setTop (mkF m 8 #[.val (.ref o0), .val (.ref o1), .unset] [(.int (0 : Int32))])) _
    refine XS.istoreN X0.here hx rfl (hb hby d4_8) rfl (l' := #[.val (.ref o0), .val (.ref o1), .val (.int (0 : Int32))]) rfl ?_
    show Steps p.tables e below (s₁.setTop (mkF m 9 #[.val (.ref o0), .val (.ref o1), .val (.int (0 : Int32))] [])) _
    refine XS.iloadN X0.here hx rfl (hb hby d4_9) rfl ?_
    show Steps p.tables e below (s₁.setTop (mkF m 10 #[.val (.ref o0), .val (.ref o1), .val (.int (0 : Int32))] [(.int (0 : Int32))])) _
    refine XS.aloadN X0.here hx rfl (hb hby d4_10) rfl rfl ?_
    show Steps p.tables e below (s₁.setTop (mkF m 11 #[.val (.ref o0), .val (.ref o1), .val (.int (0 : Int32))] [(.ref o0), (.int (0 : Int32))])) _
    refine X0.arraylength hx (by rw [e0]; exact Ar3.1) (State.isArrayOf_alike hZ.alike Ar3.2.1) (g := (mkF m 11 #[.val (.ref o0), .val (.ref o1), .val (.int (0 : Int32))] [(.ref o0), (.int (0 : Int32))])) rfl rfl (hb hby d4_11) _ ?_
    rw [own_len Sz3 (z := (8 : Int32)) rfl]
    show Steps p.tables e below (s₁.setTop (mkF m 12 #[.val (.ref o0), .val (.ref o1), .val (.int (0 : Int32))] [(.int (8 : Int32)), (.int (0 : Int32))])) _
    refine XS.icmpNo X0.here hx rfl (hb hby d4_12) rfl (tlt (show (0 : Int32) < (8 : Int32) by decide)).2.1 ?_
    show Steps p.tables e below (s₁.setTop (mkF m 15 #[.val (.ref o0), .val (.ref o1), .val (.int (0 : Int32))] [])) _
    refine XS.aloadN X0.here hx rfl (hb hby d4_15) rfl rfl ?_
    show Steps p.tables e below (s₁.setTop (mkF m 16 #[.val (.ref o0), .val (.ref o1), .val (.int (0 : Int32))] [(.ref o0)])) _
    refine XS.iloadN X0.here hx rfl (hb hby d4_16) rfl ?_
    show Steps p.tables e below (s₁.setTop (mkF m 17 #[.val (.ref o0), .val (.ref o1), .val (.int (0 : Int32))] [(.int (0 : Int32)), (.ref o0)])) _
    refine X0.baloadBytes hx (j := (0 : Int32)) (v := (.int ((own_g ((0 : Int32) : Int32).toNatClampNeg)))) (by rw [e0]; exact Ar4.1) (State.isArrayOf_alike hZ.alike Ar4.2.1) Ar4.2.2 (own_in Sz4 hi5) hl5 (g := (mkF m 17 #[.val (.ref o0), .val (.ref o1), .val (.int (0 : Int32))] [(.int (0 : Int32)), (.ref o0)])) rfl rfl (hb hby d4_17) _ ?_
    show Steps p.tables e below (s₁.setTop (mkF m 18 #[.val (.ref o0), .val (.ref o1), .val (.int (0 : Int32))] [(.int ((own_g ((0 : Int32) : Int32).toNatClampNeg)))])) _
    refine XS.aloadN X0.here hx rfl (hb hby d4_18) rfl rfl ?_
    show Steps p.tables e below (s₁.setTop (mkF m 19 #[.val (.ref o0), .val (.ref o1), .val (.int (0 : Int32))] [(.ref o1), (.int ((own_g ((0 : Int32) : Int32).toNatClampNeg)))])) _
    refine XS.iloadN X0.here hx rfl (hb hby d4_19) rfl ?_
    show Steps p.tables e below (s₁.setTop (mkF m 20 #[.val (.ref o0), .val (.ref o1), .val (.int (0 : Int32))] [(.int (0 : Int32)), (.ref o1), (.int ((own_g ((0 : Int32) : Int32).toNatClampNeg)))])) _
    refine X0.baloadBytes hx (j := (0 : Int32)) (v := (.int ((own_g ((0 : Int32) : Int32).toNatClampNeg)))) (by rw [e0]; exact Ar6.1) (State.isArrayOf_alike hZ.alike Ar6.2.1) Ar6.2.2 (own_in Sz6 hi7) hl7 (g := (mkF m 20 #[.val (.ref o0), .val (.ref o1), .val (.int (0 : Int32))] [(.int (0 : Int32)), (.ref o1), (.int ((own_g ((0 : Int32) : Int32).toNatClampNeg)))])) rfl rfl (hb hby d4_20) _ ?_
    show Steps p.tables e below (s₁.setTop (mkF m 21 #[.val (.ref o0), .val (.ref o1), .val (.int (0 : Int32))] [(.int ((own_g ((0 : Int32) : Int32).toNatClampNeg))), (.int ((own_g ((0 : Int32) : Int32).toNatClampNeg)))])) _
    refine XS.icmpYes X0.here hx rfl (pc0 := 21) (pc' := 26) rfl (hb hby d4_21) rfl (teq rfl).1 (by decide) (by decide) ?_
    show Steps p.tables e below (s₁.setTop (mkF m 26 #[.val (.ref o0), .val (.ref o1), .val (.int (0 : Int32))] [])) _
    refine XS.iinc X0.here hx rfl (hb hby d4_26) rfl (l' := #[.val (.ref o0), .val (.ref o1), .val (.int (1 : Int32))]) rfl ?_
    show Steps p.tables e below (s₁.setTop (mkF m 29 #[.val (.ref o0), .val (.ref o1), .val (.int (1 : Int32))] [])) _
    refine XS.goto X0.here hx rfl (pc0 := 29) (pc' := 9) rfl (hb hby d4_29) (by decide) (by decide) ?_
    show Steps p.tables e below (s₁.setTop (mkF m 9 #[.val (.ref o0), .val (.ref o1), .val (.int (1 : Int32))] [])) _
    refine XS.iloadN X0.here hx rfl (hb hby d4_9) rfl ?_
    show Steps p.tables e below (s₁.setTop (mkF m 10 #[.val (.ref o0), .val (.ref o1), .val (.int (1 : Int32))] [(.int (1 : Int32))])) _
    refine XS.aloadN X0.here hx rfl (hb hby d4_10) rfl rfl ?_
    show Steps p.tables e below (s₁.setTop (mkF m 11 #[.val (.ref o0), .val (.ref o1), .val (.int (1 : Int32))] [(.ref o0), (.int (1 : Int32))])) _
    refine X0.arraylength hx (by rw [e0]; exact Ar8.1) (State.isArrayOf_alike hZ.alike Ar8.2.1) (g := (mkF m 11 #[.val (.ref o0), .val (.ref o1), .val (.int (1 : Int32))] [(.ref o0), (.int (1 : Int32))])) rfl rfl (hb hby d4_11) _ ?_
    rw [own_len Sz8 (z := (8 : Int32)) rfl]
    show Steps p.tables e below (s₁.setTop (mkF m 12 #[.val (.ref o0), .val (.ref o1), .val (.int (1 : Int32))] [(.int (8 : Int32)), (.int (1 : Int32))])) _
    refine XS.icmpNo X0.here hx rfl (hb hby d4_12) rfl (tlt (show (1 : Int32) < (8 : Int32) by decide)).2.1 ?_
    show Steps p.tables e below (s₁.setTop (mkF m 15 #[.val (.ref o0), .val (.ref o1), .val (.int (1 : Int32))] [])) _
    refine XS.aloadN X0.here hx rfl (hb hby d4_15) rfl rfl ?_
    show Steps p.tables e below (s₁.setTop (mkF m 16 #[.val (.ref o0), .val (.ref o1), .val (.int (1 : Int32))] [(.ref o0)])) _
    refine XS.iloadN X0.here hx rfl (hb hby d4_16) rfl ?_
    show Steps p.tables e below (s₁.setTop (mkF m 17 #[.val (.ref o0), .val (.ref o1), .val (.int (1 : Int32))] [(.int (1 : Int32)), (.ref o0)])) _
    refine X0.baloadBytes hx (j := (1 : Int32)) (v := (.int ((own_g ((1 : Int32) : Int32).toNatClampNeg)))) (by rw [e0]; exact Ar9.1) (State.isArrayOf_alike hZ.alike Ar9.2.1) Ar9.2.2 (own_in Sz9 hi10) hl10 (g := (mkF m 17 #[.val (.ref o0), .val (.ref o1), .val (.int (1 : Int32))] [(.int (1 : Int32)), (.ref o0)])) rfl rfl (hb hby d4_17) _ ?_
    show Steps p.tables e below (s₁.setTop (mkF m 18 #[.val (.ref o0), .val (.ref o1), .val (.int (1 : Int32))] [(.int ((own_g ((1 : Int32) : Int32).toNatClampNeg)))])) _
    refine XS.aloadN X0.here hx rfl (hb hby d4_18) rfl rfl ?_
    show Steps p.tables e below (s₁.setTop (mkF m 19 #[.val (.ref o0), .val (.ref o1), .val (.int (1 : Int32))] [(.ref o1), (.int ((own_g ((1 : Int32) : Int32).toNatClampNeg)))])) _
    refine XS.iloadN X0.here hx rfl (hb hby d4_19) rfl ?_
    show Steps p.tables e below (s₁.setTop (mkF m 20 #[.val (.ref o0), .val (.ref o1), .val (.int (1 : Int32))] [(.int (1 : Int32)), (.ref o1), (.int ((own_g ((1 : Int32) : Int32).toNatClampNeg)))])) _
    refine X0.baloadBytes hx (j := (1 : Int32)) (v := (.int ((own_g ((1 : Int32) : Int32).toNatClampNeg)))) (by rw [e0]; exact Ar11.1) (State.isArrayOf_alike hZ.alike Ar11.2.1) Ar11.2.2 (own_in Sz11 hi12) hl12 (g := (mkF m 20 #[.val (.ref o0), .val (.ref o1), .val (.int (1 : Int32))] [(.int (1 : Int32)), (.ref o1), (.int ((own_g ((1 : Int32) : Int32).toNatClampNeg)))])) rfl rfl (hb hby d4_20) _ ?_
    show Steps p.tables e below (s₁.setTop (mkF m 21 #[.val (.ref o0), .val (.ref o1), .val (.int (1 : Int32))] [(.int ((own_g ((1 : Int32) : Int32).toNatClampNeg))), (.int ((own_g ((1 : Int32) : Int32).toNatClampNeg)))])) _
    refine XS.icmpYes X0.here hx rfl (pc0 := 21) (pc' := 26) rfl (hb hby d4_21) rfl (teq rfl).1 (by decide) (by decide) ?_
    show Steps p.tables e below (s₁.setTop (mkF m 26 #[.val (.ref o0), .val (.ref o1), .val (.int (1 : Int32))] [])) _
    refine XS.iinc X0.here hx rfl (hb hby d4_26) rfl (l' := #[.val (.ref o0), .val (.ref o1), .val (.int (2 : Int32))]) rfl ?_
    show Steps p.tables e below (s₁.setTop (mkF m 29 #[.val (.ref o0), .val (.ref o1), .val (.int (2 : Int32))] [])) _
    refine XS.goto X0.here hx rfl (pc0 := 29) (pc' := 9) rfl (hb hby d4_29) (by decide) (by decide) ?_
    show Steps p.tables e below (s₁.setTop (mkF m 9 #[.val (.ref o0), .val (.ref o1), .val (.int (2 : Int32))] [])) _
    refine XS.iloadN X0.here hx rfl (hb hby d4_9) rfl ?_
    show Steps p.tables e below (s₁.setTop (mkF m 10 #[.val (.ref o0), .val (.ref o1), .val (.int (2 : Int32))] [(.int (2 : Int32))])) _
    refine XS.aloadN X0.here hx rfl (hb hby d4_10) rfl rfl ?_
    show Steps p.tables e below (s₁.setTop (mkF m 11 #[.val (.ref o0), .val (.ref o1), .val (.int (2 : Int32))] [(.ref o0), (.int (2 : Int32))])) _
    refine X0.arraylength hx (by rw [e0]; exact Ar13.1) (State.isArrayOf_alike hZ.alike Ar13.2.1) (g := (mkF m 11 #[.val (.ref o0), .val (.ref o1), .val (.int (2 : Int32))] [(.ref o0), (.int (2 : Int32))])) rfl rfl (hb hby d4_11) _ ?_
    rw [own_len Sz13 (z := (8 : Int32)) rfl]
    show Steps p.tables e below (s₁.setTop (mkF m 12 #[.val (.ref o0), .val (.ref o1), .val (.int (2 : Int32))] [(.int (8 : Int32)), (.int (2 : Int32))])) _
    refine XS.icmpNo X0.here hx rfl (hb hby d4_12) rfl (tlt (show (2 : Int32) < (8 : Int32) by decide)).2.1 ?_
    show Steps p.tables e below (s₁.setTop (mkF m 15 #[.val (.ref o0), .val (.ref o1), .val (.int (2 : Int32))] [])) _
    refine XS.aloadN X0.here hx rfl (hb hby d4_15) rfl rfl ?_
    show Steps p.tables e below (s₁.setTop (mkF m 16 #[.val (.ref o0), .val (.ref o1), .val (.int (2 : Int32))] [(.ref o0)])) _
    refine XS.iloadN X0.here hx rfl (hb hby d4_16) rfl ?_
    show Steps p.tables e below (s₁.setTop (mkF m 17 #[.val (.ref o0), .val (.ref o1), .val (.int (2 : Int32))] [(.int (2 : Int32)), (.ref o0)])) _
    refine X0.baloadBytes hx (j := (2 : Int32)) (v := (.int ((own_g ((2 : Int32) : Int32).toNatClampNeg)))) (by rw [e0]; exact Ar14.1) (State.isArrayOf_alike hZ.alike Ar14.2.1) Ar14.2.2 (own_in Sz14 hi15) hl15 (g := (mkF m 17 #[.val (.ref o0), .val (.ref o1), .val (.int (2 : Int32))] [(.int (2 : Int32)), (.ref o0)])) rfl rfl (hb hby d4_17) _ ?_
    show Steps p.tables e below (s₁.setTop (mkF m 18 #[.val (.ref o0), .val (.ref o1), .val (.int (2 : Int32))] [(.int ((own_g ((2 : Int32) : Int32).toNatClampNeg)))])) _
    refine XS.aloadN X0.here hx rfl (hb hby d4_18) rfl rfl ?_
    show Steps p.tables e below (s₁.setTop (mkF m 19 #[.val (.ref o0), .val (.ref o1), .val (.int (2 : Int32))] [(.ref o1), (.int ((own_g ((2 : Int32) : Int32).toNatClampNeg)))])) _
    refine XS.iloadN X0.here hx rfl (hb hby d4_19) rfl ?_
    show Steps p.tables e below (s₁.setTop (mkF m 20 #[.val (.ref o0), .val (.ref o1), .val (.int (2 : Int32))] [(.int (2 : Int32)), (.ref o1), (.int ((own_g ((2 : Int32) : Int32).toNatClampNeg)))])) _
    refine X0.baloadBytes hx (j := (2 : Int32)) (v := (.int ((own_g ((2 : Int32) : Int32).toNatClampNeg)))) (by rw [e0]; exact Ar16.1) (State.isArrayOf_alike hZ.alike Ar16.2.1) Ar16.2.2 (own_in Sz16 hi17) hl17 (g := (mkF m 20 #[.val (.ref o0), .val (.ref o1), .val (.int (2 : Int32))] [(.int (2 : Int32)), (.ref o1), (.int ((own_g ((2 : Int32) : Int32).toNatClampNeg)))])) rfl rfl (hb hby d4_20) _ ?_
    show Steps p.tables e below (s₁.setTop (mkF m 21 #[.val (.ref o0), .val (.ref o1), .val (.int (2 : Int32))] [(.int ((own_g ((2 : Int32) : Int32).toNatClampNeg))), (.int ((own_g ((2 : Int32) : Int32).toNatClampNeg)))])) _
    refine XS.icmpYes X0.here hx rfl (pc0 := 21) (pc' := 26) rfl (hb hby d4_21) rfl (teq rfl).1 (by decide) (by decide) ?_
    show Steps p.tables e below (s₁.setTop (mkF m 26 #[.val (.ref o0), .val (.ref o1), .val (.int (2 : Int32))] [])) _
    refine XS.iinc X0.here hx rfl (hb hby d4_26) rfl (l' := #[.val (.ref o0), .val (.ref o1), .val (.int (3 : Int32))]) rfl ?_
    show Steps p.tables e below (s₁.setTop (mkF m 29 #[.val (.ref o0), .val (.ref o1), .val (.int (3 : Int32))] [])) _
    refine XS.goto X0.here hx rfl (pc0 := 29) (pc' := 9) rfl (hb hby d4_29) (by decide) (by decide) ?_
    show Steps p.tables e below (s₁.setTop (mkF m 9 #[.val (.ref o0), .val (.ref o1), .val (.int (3 : Int32))] [])) _
    refine XS.iloadN X0.here hx rfl (hb hby d4_9) rfl ?_
    show Steps p.tables e below (s₁.setTop (mkF m 10 #[.val (.ref o0), .val (.ref o1), .val (.int (3 : Int32))] [(.int (3 : Int32))])) _
    refine XS.aloadN X0.here hx rfl (hb hby d4_10) rfl rfl ?_
    show Steps p.tables e below (s₁.setTop (mkF m 11 #[.val (.ref o0), .val (.ref o1), .val (.int (3 : Int32))] [(.ref o0), (.int (3 : Int32))])) _
    refine X0.arraylength hx (by rw [e0]; exact Ar18.1) (State.isArrayOf_alike hZ.alike Ar18.2.1) (g := (mkF m 11 #[.val (.ref o0), .val (.ref o1), .val (.int (3 : Int32))] [(.ref o0), (.int (3 : Int32))])) rfl rfl (hb hby d4_11) _ ?_
    rw [own_len Sz18 (z := (8 : Int32)) rfl]
    show Steps p.tables e below (s₁.setTop (mkF m 12 #[.val (.ref o0), .val (.ref o1), .val (.int (3 : Int32))] [(.int (8 : Int32)), (.int (3 : Int32))])) _
    refine XS.icmpNo X0.here hx rfl (hb hby d4_12) rfl (tlt (show (3 : Int32) < (8 : Int32) by decide)).2.1 ?_
    show Steps p.tables e below (s₁.setTop (mkF m 15 #[.val (.ref o0), .val (.ref o1), .val (.int (3 : Int32))] [])) _
    refine XS.aloadN X0.here hx rfl (hb hby d4_15) rfl rfl ?_
    show Steps p.tables e below (s₁.setTop (mkF m 16 #[.val (.ref o0), .val (.ref o1), .val (.int (3 : Int32))] [(.ref o0)])) _
    refine XS.iloadN X0.here hx rfl (hb hby d4_16) rfl ?_
    show Steps p.tables e below (s₁.setTop (mkF m 17 #[.val (.ref o0), .val (.ref o1), .val (.int (3 : Int32))] [(.int (3 : Int32)), (.ref o0)])) _
    refine X0.baloadBytes hx (j := (3 : Int32)) (v := (.int ((own_g ((3 : Int32) : Int32).toNatClampNeg)))) (by rw [e0]; exact Ar19.1) (State.isArrayOf_alike hZ.alike Ar19.2.1) Ar19.2.2 (own_in Sz19 hi20) hl20 (g := (mkF m 17 #[.val (.ref o0), .val (.ref o1), .val (.int (3 : Int32))] [(.int (3 : Int32)), (.ref o0)])) rfl rfl (hb hby d4_17) _ ?_
    show Steps p.tables e below (s₁.setTop (mkF m 18 #[.val (.ref o0), .val (.ref o1), .val (.int (3 : Int32))] [(.int ((own_g ((3 : Int32) : Int32).toNatClampNeg)))])) _
    refine XS.aloadN X0.here hx rfl (hb hby d4_18) rfl rfl ?_
    show Steps p.tables e below (s₁.setTop (mkF m 19 #[.val (.ref o0), .val (.ref o1), .val (.int (3 : Int32))] [(.ref o1), (.int ((own_g ((3 : Int32) : Int32).toNatClampNeg)))])) _
    refine XS.iloadN X0.here hx rfl (hb hby d4_19) rfl ?_
    show Steps p.tables e below (s₁.setTop (mkF m 20 #[.val (.ref o0), .val (.ref o1), .val (.int (3 : Int32))] [(.int (3 : Int32)), (.ref o1), (.int ((own_g ((3 : Int32) : Int32).toNatClampNeg)))])) _
    refine X0.baloadBytes hx (j := (3 : Int32)) (v := (.int ((own_g ((3 : Int32) : Int32).toNatClampNeg)))) (by rw [e0]; exact Ar21.1) (State.isArrayOf_alike hZ.alike Ar21.2.1) Ar21.2.2 (own_in Sz21 hi22) hl22 (g := (mkF m 20 #[.val (.ref o0), .val (.ref o1), .val (.int (3 : Int32))] [(.int (3 : Int32)), (.ref o1), (.int ((own_g ((3 : Int32) : Int32).toNatClampNeg)))])) rfl rfl (hb hby d4_20) _ ?_
    show Steps p.tables e below (s₁.setTop (mkF m 21 #[.val (.ref o0), .val (.ref o1), .val (.int (3 : Int32))] [(.int ((own_g ((3 : Int32) : Int32).toNatClampNeg))), (.int ((own_g ((3 : Int32) : Int32).toNatClampNeg)))])) _
    refine XS.icmpYes X0.here hx rfl (pc0 := 21) (pc' := 26) rfl (hb hby d4_21) rfl (teq rfl).1 (by decide) (by decide) ?_
    show Steps p.tables e below (s₁.setTop (mkF m 26 #[.val (.ref o0), .val (.ref o1), .val (.int (3 : Int32))] [])) _
    refine XS.iinc X0.here hx rfl (hb hby d4_26) rfl (l' := #[.val (.ref o0), .val (.ref o1), .val (.int (4 : Int32))]) rfl ?_
    show Steps p.tables e below (s₁.setTop (mkF m 29 #[.val (.ref o0), .val (.ref o1), .val (.int (4 : Int32))] [])) _
    refine XS.goto X0.here hx rfl (pc0 := 29) (pc' := 9) rfl (hb hby d4_29) (by decide) (by decide) ?_
    show Steps p.tables e below (s₁.setTop (mkF m 9 #[.val (.ref o0), .val (.ref o1), .val (.int (4 : Int32))] [])) _
    refine XS.iloadN X0.here hx rfl (hb hby d4_9) rfl ?_
    show Steps p.tables e below (s₁.setTop (mkF m 10 #[.val (.ref o0), .val (.ref o1), .val (.int (4 : Int32))] [(.int (4 : Int32))])) _
    refine XS.aloadN X0.here hx rfl (hb hby d4_10) rfl rfl ?_
    show Steps p.tables e below (s₁.setTop (mkF m 11 #[.val (.ref o0), .val (.ref o1), .val (.int (4 : Int32))] [(.ref o0), (.int (4 : Int32))])) _
    refine X0.arraylength hx (by rw [e0]; exact Ar23.1) (State.isArrayOf_alike hZ.alike Ar23.2.1) (g := (mkF m 11 #[.val (.ref o0), .val (.ref o1), .val (.int (4 : Int32))] [(.ref o0), (.int (4 : Int32))])) rfl rfl (hb hby d4_11) _ ?_
    rw [own_len Sz23 (z := (8 : Int32)) rfl]
    show Steps p.tables e below (s₁.setTop (mkF m 12 #[.val (.ref o0), .val (.ref o1), .val (.int (4 : Int32))] [(.int (8 : Int32)), (.int (4 : Int32))])) _
    refine XS.icmpNo X0.here hx rfl (hb hby d4_12) rfl (tlt (show (4 : Int32) < (8 : Int32) by decide)).2.1 ?_
    show Steps p.tables e below (s₁.setTop (mkF m 15 #[.val (.ref o0), .val (.ref o1), .val (.int (4 : Int32))] [])) _
    refine XS.aloadN X0.here hx rfl (hb hby d4_15) rfl rfl ?_
    show Steps p.tables e below (s₁.setTop (mkF m 16 #[.val (.ref o0), .val (.ref o1), .val (.int (4 : Int32))] [(.ref o0)])) _
    refine XS.iloadN X0.here hx rfl (hb hby d4_16) rfl ?_
    show Steps p.tables e below (s₁.setTop (mkF m 17 #[.val (.ref o0), .val (.ref o1), .val (.int (4 : Int32))] [(.int (4 : Int32)), (.ref o0)])) _
    refine X0.baloadBytes hx (j := (4 : Int32)) (v := (.int ((own_g ((4 : Int32) : Int32).toNatClampNeg)))) (by rw [e0]; exact Ar24.1) (State.isArrayOf_alike hZ.alike Ar24.2.1) Ar24.2.2 (own_in Sz24 hi25) hl25 (g := (mkF m 17 #[.val (.ref o0), .val (.ref o1), .val (.int (4 : Int32))] [(.int (4 : Int32)), (.ref o0)])) rfl rfl (hb hby d4_17) _ ?_
    show Steps p.tables e below (s₁.setTop (mkF m 18 #[.val (.ref o0), .val (.ref o1), .val (.int (4 : Int32))] [(.int ((own_g ((4 : Int32) : Int32).toNatClampNeg)))])) _
    refine XS.aloadN X0.here hx rfl (hb hby d4_18) rfl rfl ?_
    show Steps p.tables e below (s₁.setTop (mkF m 19 #[.val (.ref o0), .val (.ref o1), .val (.int (4 : Int32))] [(.ref o1), (.int ((own_g ((4 : Int32) : Int32).toNatClampNeg)))])) _
    refine XS.iloadN X0.here hx rfl (hb hby d4_19) rfl ?_
    show Steps p.tables e below (s₁.setTop (mkF m 20 #[.val (.ref o0), .val (.ref o1), .val (.int (4 : Int32))] [(.int (4 : Int32)), (.ref o1), (.int ((own_g ((4 : Int32) : Int32).toNatClampNeg)))])) _
    refine X0.baloadBytes hx (j := (4 : Int32)) (v := (.int ((own_g ((4 : Int32) : Int32).toNatClampNeg)))) (by rw [e0]; exact Ar26.1) (State.isArrayOf_alike hZ.alike Ar26.2.1) Ar26.2.2 (own_in Sz26 hi27) hl27 (g := (mkF m 20 #[.val (.ref o0), .val (.ref o1), .val (.int (4 : Int32))] [(.int (4 : Int32)), (.ref o1), (.int ((own_g ((4 : Int32) : Int32).toNatClampNeg)))])) rfl rfl (hb hby d4_20) _ ?_
    show Steps p.tables e below (s₁.setTop (mkF m 21 #[.val (.ref o0), .val (.ref o1), .val (.int (4 : Int32))] [(.int ((own_g ((4 : Int32) : Int32).toNatClampNeg))), (.int ((own_g ((4 : Int32) : Int32).toNatClampNeg)))])) _
    refine XS.icmpYes X0.here hx rfl (pc0 := 21) (pc' := 26) rfl (hb hby d4_21) rfl (teq rfl).1 (by decide) (by decide) ?_
    show Steps p.tables e below (s₁.setTop (mkF m 26 #[.val (.ref o0), .val (.ref o1), .val (.int (4 : Int32))] [])) _
    refine XS.iinc X0.here hx rfl (hb hby d4_26) rfl (l' := #[.val (.ref o0), .val (.ref o1), .val (.int (5 : Int32))]) rfl ?_
    show Steps p.tables e below (s₁.setTop (mkF m 29 #[.val (.ref o0), .val (.ref o1), .val (.int (5 : Int32))] [])) _
    refine XS.goto X0.here hx rfl (pc0 := 29) (pc' := 9) rfl (hb hby d4_29) (by decide) (by decide) ?_
    show Steps p.tables e below (s₁.setTop (mkF m 9 #[.val (.ref o0), .val (.ref o1), .val (.int (5 : Int32))] [])) _
    refine XS.iloadN X0.here hx rfl (hb hby d4_9) rfl ?_
    show Steps p.tables e below (s₁.setTop (mkF m 10 #[.val (.ref o0), .val (.ref o1), .val (.int (5 : Int32))] [(.int (5 : Int32))])) _
    refine XS.aloadN X0.here hx rfl (hb hby d4_10) rfl rfl ?_
    show Steps p.tables e below (s₁.setTop (mkF m 11 #[.val (.ref o0), .val (.ref o1), .val (.int (5 : Int32))] [(.ref o0), (.int (5 : Int32))])) _
    refine X0.arraylength hx (by rw [e0]; exact Ar28.1) (State.isArrayOf_alike hZ.alike Ar28.2.1) (g := (mkF m 11 #[.val (.ref o0), .val (.ref o1), .val (.int (5 : Int32))] [(.ref o0), (.int (5 : Int32))])) rfl rfl (hb hby d4_11) _ ?_
    rw [own_len Sz28 (z := (8 : Int32)) rfl]
    show Steps p.tables e below (s₁.setTop (mkF m 12 #[.val (.ref o0), .val (.ref o1), .val (.int (5 : Int32))] [(.int (8 : Int32)), (.int (5 : Int32))])) _
    refine XS.icmpNo X0.here hx rfl (hb hby d4_12) rfl (tlt (show (5 : Int32) < (8 : Int32) by decide)).2.1 ?_
    show Steps p.tables e below (s₁.setTop (mkF m 15 #[.val (.ref o0), .val (.ref o1), .val (.int (5 : Int32))] [])) _
    refine XS.aloadN X0.here hx rfl (hb hby d4_15) rfl rfl ?_
    show Steps p.tables e below (s₁.setTop (mkF m 16 #[.val (.ref o0), .val (.ref o1), .val (.int (5 : Int32))] [(.ref o0)])) _
    refine XS.iloadN X0.here hx rfl (hb hby d4_16) rfl ?_
    show Steps p.tables e below (s₁.setTop (mkF m 17 #[.val (.ref o0), .val (.ref o1), .val (.int (5 : Int32))] [(.int (5 : Int32)), (.ref o0)])) _
    refine X0.baloadBytes hx (j := (5 : Int32)) (v := (.int ((own_g ((5 : Int32) : Int32).toNatClampNeg)))) (by rw [e0]; exact Ar29.1) (State.isArrayOf_alike hZ.alike Ar29.2.1) Ar29.2.2 (own_in Sz29 hi30) hl30 (g := (mkF m 17 #[.val (.ref o0), .val (.ref o1), .val (.int (5 : Int32))] [(.int (5 : Int32)), (.ref o0)])) rfl rfl (hb hby d4_17) _ ?_
    show Steps p.tables e below (s₁.setTop (mkF m 18 #[.val (.ref o0), .val (.ref o1), .val (.int (5 : Int32))] [(.int ((own_g ((5 : Int32) : Int32).toNatClampNeg)))])) _
    refine XS.aloadN X0.here hx rfl (hb hby d4_18) rfl rfl ?_
    show Steps p.tables e below (s₁.setTop (mkF m 19 #[.val (.ref o0), .val (.ref o1), .val (.int (5 : Int32))] [(.ref o1), (.int ((own_g ((5 : Int32) : Int32).toNatClampNeg)))])) _
    refine XS.iloadN X0.here hx rfl (hb hby d4_19) rfl ?_
    show Steps p.tables e below (s₁.setTop (mkF m 20 #[.val (.ref o0), .val (.ref o1), .val (.int (5 : Int32))] [(.int (5 : Int32)), (.ref o1), (.int ((own_g ((5 : Int32) : Int32).toNatClampNeg)))])) _
    refine X0.baloadBytes hx (j := (5 : Int32)) (v := (.int ((own_g ((5 : Int32) : Int32).toNatClampNeg)))) (by rw [e0]; exact Ar31.1) (State.isArrayOf_alike hZ.alike Ar31.2.1) Ar31.2.2 (own_in Sz31 hi32) hl32 (g := (mkF m 20 #[.val (.ref o0), .val (.ref o1), .val (.int (5 : Int32))] [(.int (5 : Int32)), (.ref o1), (.int ((own_g ((5 : Int32) : Int32).toNatClampNeg)))])) rfl rfl (hb hby d4_20) _ ?_
    show Steps p.tables e below (s₁.setTop (mkF m 21 #[.val (.ref o0), .val (.ref o1), .val (.int (5 : Int32))] [(.int ((own_g ((5 : Int32) : Int32).toNatClampNeg))), (.int ((own_g ((5 : Int32) : Int32).toNatClampNeg)))])) _
    refine XS.icmpYes X0.here hx rfl (pc0 := 21) (pc' := 26) rfl (hb hby d4_21) rfl (teq rfl).1 (by decide) (by decide) ?_
    show Steps p.tables e below (s₁.setTop (mkF m 26 #[.val (.ref o0), .val (.ref o1), .val (.int (5 : Int32))] [])) _
    refine XS.iinc X0.here hx rfl (hb hby d4_26) rfl (l' := #[.val (.ref o0), .val (.ref o1), .val (.int (6 : Int32))]) rfl ?_
    show Steps p.tables e below (s₁.setTop (mkF m 29 #[.val (.ref o0), .val (.ref o1), .val (.int (6 : Int32))] [])) _
    refine XS.goto X0.here hx rfl (pc0 := 29) (pc' := 9) rfl (hb hby d4_29) (by decide) (by decide) ?_
    show Steps p.tables e below (s₁.setTop (mkF m 9 #[.val (.ref o0), .val (.ref o1), .val (.int (6 : Int32))] [])) _
    refine XS.iloadN X0.here hx rfl (hb hby d4_9) rfl ?_
    show Steps p.tables e below (s₁.setTop (mkF m 10 #[.val (.ref o0), .val (.ref o1), .val (.int (6 : Int32))] [(.int (6 : Int32))])) _
    refine XS.aloadN X0.here hx rfl (hb hby d4_10) rfl rfl ?_
    show Steps p.tables e below (s₁.setTop (mkF m 11 #[.val (.ref o0), .val (.ref o1), .val (.int (6 : Int32))] [(.ref o0), (.int (6 : Int32))])) _
    refine X0.arraylength hx (by rw [e0]; exact Ar33.1) (State.isArrayOf_alike hZ.alike Ar33.2.1) (g := (mkF m 11 #[.val (.ref o0), .val (.ref o1), .val (.int (6 : Int32))] [(.ref o0), (.int (6 : Int32))])) rfl rfl (hb hby d4_11) _ ?_
    rw [own_len Sz33 (z := (8 : Int32)) rfl]
    show Steps p.tables e below (s₁.setTop (mkF m 12 #[.val (.ref o0), .val (.ref o1), .val (.int (6 : Int32))] [(.int (8 : Int32)), (.int (6 : Int32))])) _
    refine XS.icmpNo X0.here hx rfl (hb hby d4_12) rfl (tlt (show (6 : Int32) < (8 : Int32) by decide)).2.1 ?_
    show Steps p.tables e below (s₁.setTop (mkF m 15 #[.val (.ref o0), .val (.ref o1), .val (.int (6 : Int32))] [])) _
    refine XS.aloadN X0.here hx rfl (hb hby d4_15) rfl rfl ?_
    show Steps p.tables e below (s₁.setTop (mkF m 16 #[.val (.ref o0), .val (.ref o1), .val (.int (6 : Int32))] [(.ref o0)])) _
    refine XS.iloadN X0.here hx rfl (hb hby d4_16) rfl ?_
    show Steps p.tables e below (s₁.setTop (mkF m 17 #[.val (.ref o0), .val (.ref o1), .val (.int (6 : Int32))] [(.int (6 : Int32)), (.ref o0)])) _
    refine X0.baloadBytes hx (j := (6 : Int32)) (v := (.int ((own_g ((6 : Int32) : Int32).toNatClampNeg)))) (by rw [e0]; exact Ar34.1) (State.isArrayOf_alike hZ.alike Ar34.2.1) Ar34.2.2 (own_in Sz34 hi35) hl35 (g := (mkF m 17 #[.val (.ref o0), .val (.ref o1), .val (.int (6 : Int32))] [(.int (6 : Int32)), (.ref o0)])) rfl rfl (hb hby d4_17) _ ?_
    show Steps p.tables e below (s₁.setTop (mkF m 18 #[.val (.ref o0), .val (.ref o1), .val (.int (6 : Int32))] [(.int ((own_g ((6 : Int32) : Int32).toNatClampNeg)))])) _
    refine XS.aloadN X0.here hx rfl (hb hby d4_18) rfl rfl ?_
    show Steps p.tables e below (s₁.setTop (mkF m 19 #[.val (.ref o0), .val (.ref o1), .val (.int (6 : Int32))] [(.ref o1), (.int ((own_g ((6 : Int32) : Int32).toNatClampNeg)))])) _
    refine XS.iloadN X0.here hx rfl (hb hby d4_19) rfl ?_
    show Steps p.tables e below (s₁.setTop (mkF m 20 #[.val (.ref o0), .val (.ref o1), .val (.int (6 : Int32))] [(.int (6 : Int32)), (.ref o1), (.int ((own_g ((6 : Int32) : Int32).toNatClampNeg)))])) _
    refine X0.baloadBytes hx (j := (6 : Int32)) (v := (.int ((own_g ((6 : Int32) : Int32).toNatClampNeg)))) (by rw [e0]; exact Ar36.1) (State.isArrayOf_alike hZ.alike Ar36.2.1) Ar36.2.2 (own_in Sz36 hi37) hl37 (g := (mkF m 20 #[.val (.ref o0), .val (.ref o1), .val (.int (6 : Int32))] [(.int (6 : Int32)), (.ref o1), (.int ((own_g ((6 : Int32) : Int32).toNatClampNeg)))])) rfl rfl (hb hby d4_20) _ ?_
    show Steps p.tables e below (s₁.setTop (mkF m 21 #[.val (.ref o0), .val (.ref o1), .val (.int (6 : Int32))] [(.int ((own_g ((6 : Int32) : Int32).toNatClampNeg))), (.int ((own_g ((6 : Int32) : Int32).toNatClampNeg)))])) _
    refine XS.icmpYes X0.here hx rfl (pc0 := 21) (pc' := 26) rfl (hb hby d4_21) rfl (teq rfl).1 (by decide) (by decide) ?_
    show Steps p.tables e below (s₁.setTop (mkF m 26 #[.val (.ref o0), .val (.ref o1), .val (.int (6 : Int32))] [])) _
    refine XS.iinc X0.here hx rfl (hb hby d4_26) rfl (l' := #[.val (.ref o0), .val (.ref o1), .val (.int (7 : Int32))]) rfl ?_
    show Steps p.tables e below (s₁.setTop (mkF m 29 #[.val (.ref o0), .val (.ref o1), .val (.int (7 : Int32))] [])) _
    refine XS.goto X0.here hx rfl (pc0 := 29) (pc' := 9) rfl (hb hby d4_29) (by decide) (by decide) ?_
    show Steps p.tables e below (s₁.setTop (mkF m 9 #[.val (.ref o0), .val (.ref o1), .val (.int (7 : Int32))] [])) _
    refine XS.iloadN X0.here hx rfl (hb hby d4_9) rfl ?_
    show Steps p.tables e below (s₁.setTop (mkF m 10 #[.val (.ref o0), .val (.ref o1), .val (.int (7 : Int32))] [(.int (7 : Int32))])) _
    refine XS.aloadN X0.here hx rfl (hb hby d4_10) rfl rfl ?_
    show Steps p.tables e below (s₁.setTop (mkF m 11 #[.val (.ref o0), .val (.ref o1), .val (.int (7 : Int32))] [(.ref o0), (.int (7 : Int32))])) _
    refine X0.arraylength hx (by rw [e0]; exact Ar38.1) (State.isArrayOf_alike hZ.alike Ar38.2.1) (g := (mkF m 11 #[.val (.ref o0), .val (.ref o1), .val (.int (7 : Int32))] [(.ref o0), (.int (7 : Int32))])) rfl rfl (hb hby d4_11) _ ?_
    rw [own_len Sz38 (z := (8 : Int32)) rfl]
    show Steps p.tables e below (s₁.setTop (mkF m 12 #[.val (.ref o0), .val (.ref o1), .val (.int (7 : Int32))] [(.int (8 : Int32)), (.int (7 : Int32))])) _
    refine XS.icmpNo X0.here hx rfl (hb hby d4_12) rfl (tlt (show (7 : Int32) < (8 : Int32) by decide)).2.1 ?_
    show Steps p.tables e below (s₁.setTop (mkF m 15 #[.val (.ref o0), .val (.ref o1), .val (.int (7 : Int32))] [])) _
    refine XS.aloadN X0.here hx rfl (hb hby d4_15) rfl rfl ?_
    show Steps p.tables e below (s₁.setTop (mkF m 16 #[.val (.ref o0), .val (.ref o1), .val (.int (7 : Int32))] [(.ref o0)])) _
    refine XS.iloadN X0.here hx rfl (hb hby d4_16) rfl ?_
    show Steps p.tables e below (s₁.setTop (mkF m 17 #[.val (.ref o0), .val (.ref o1), .val (.int (7 : Int32))] [(.int (7 : Int32)), (.ref o0)])) _
    refine X0.baloadBytes hx (j := (7 : Int32)) (v := (.int ((own_g ((7 : Int32) : Int32).toNatClampNeg)))) (by rw [e0]; exact Ar39.1) (State.isArrayOf_alike hZ.alike Ar39.2.1) Ar39.2.2 (own_in Sz39 hi40) hl40 (g := (mkF m 17 #[.val (.ref o0), .val (.ref o1), .val (.int (7 : Int32))] [(.int (7 : Int32)), (.ref o0)])) rfl rfl (hb hby d4_17) _ ?_
    show Steps p.tables e below (s₁.setTop (mkF m 18 #[.val (.ref o0), .val (.ref o1), .val (.int (7 : Int32))] [(.int ((own_g ((7 : Int32) : Int32).toNatClampNeg)))])) _
    refine XS.aloadN X0.here hx rfl (hb hby d4_18) rfl rfl ?_
    show Steps p.tables e below (s₁.setTop (mkF m 19 #[.val (.ref o0), .val (.ref o1), .val (.int (7 : Int32))] [(.ref o1), (.int ((own_g ((7 : Int32) : Int32).toNatClampNeg)))])) _
    refine XS.iloadN X0.here hx rfl (hb hby d4_19) rfl ?_
    show Steps p.tables e below (s₁.setTop (mkF m 20 #[.val (.ref o0), .val (.ref o1), .val (.int (7 : Int32))] [(.int (7 : Int32)), (.ref o1), (.int ((own_g ((7 : Int32) : Int32).toNatClampNeg)))])) _
    refine X0.baloadBytes hx (j := (7 : Int32)) (v := (.int ((own_g ((7 : Int32) : Int32).toNatClampNeg)))) (by rw [e0]; exact Ar41.1) (State.isArrayOf_alike hZ.alike Ar41.2.1) Ar41.2.2 (own_in Sz41 hi42) hl42 (g := (mkF m 20 #[.val (.ref o0), .val (.ref o1), .val (.int (7 : Int32))] [(.int (7 : Int32)), (.ref o1), (.int ((own_g ((7 : Int32) : Int32).toNatClampNeg)))])) rfl rfl (hb hby d4_20) _ ?_
    show Steps p.tables e below (s₁.setTop (mkF m 21 #[.val (.ref o0), .val (.ref o1), .val (.int (7 : Int32))] [(.int ((own_g ((7 : Int32) : Int32).toNatClampNeg))), (.int ((own_g ((7 : Int32) : Int32).toNatClampNeg)))])) _
    refine XS.icmpYes X0.here hx rfl (pc0 := 21) (pc' := 26) rfl (hb hby d4_21) rfl (teq rfl).1 (by decide) (by decide) ?_
    show Steps p.tables e below (s₁.setTop (mkF m 26 #[.val (.ref o0), .val (.ref o1), .val (.int (7 : Int32))] [])) _
    refine XS.iinc X0.here hx rfl (hb hby d4_26) rfl (l' := #[.val (.ref o0), .val (.ref o1), .val (.int (8 : Int32))]) rfl ?_
    show Steps p.tables e below (s₁.setTop (mkF m 29 #[.val (.ref o0), .val (.ref o1), .val (.int (8 : Int32))] [])) _
    refine XS.goto X0.here hx rfl (pc0 := 29) (pc' := 9) rfl (hb hby d4_29) (by decide) (by decide) ?_
    show Steps p.tables e below (s₁.setTop (mkF m 9 #[.val (.ref o0), .val (.ref o1), .val (.int (8 : Int32))] [])) _
    refine XS.iloadN X0.here hx rfl (hb hby d4_9) rfl ?_
    show Steps p.tables e below (s₁.setTop (mkF m 10 #[.val (.ref o0), .val (.ref o1), .val (.int (8 : Int32))] [(.int (8 : Int32))])) _
    refine XS.aloadN X0.here hx rfl (hb hby d4_10) rfl rfl ?_
    show Steps p.tables e below (s₁.setTop (mkF m 11 #[.val (.ref o0), .val (.ref o1), .val (.int (8 : Int32))] [(.ref o0), (.int (8 : Int32))])) _
    refine X0.arraylength hx (by rw [e0]; exact Ar43.1) (State.isArrayOf_alike hZ.alike Ar43.2.1) (g := (mkF m 11 #[.val (.ref o0), .val (.ref o1), .val (.int (8 : Int32))] [(.ref o0), (.int (8 : Int32))])) rfl rfl (hb hby d4_11) _ ?_
    rw [own_len Sz43 (z := (8 : Int32)) rfl]
    show Steps p.tables e below (s₁.setTop (mkF m 12 #[.val (.ref o0), .val (.ref o1), .val (.int (8 : Int32))] [(.int (8 : Int32)), (.int (8 : Int32))])) _
    refine XS.icmpYes X0.here hx rfl (pc0 := 12) (pc' := 32) rfl (hb hby d4_12) rfl (flt (show ¬ ((8 : Int32) < (8 : Int32)) by decide)).2.1 (by decide) (by decide) ?_
    show Steps p.tables e below (s₁.setTop (mkF m 32 #[.val (.ref o0), .val (.ref o1), .val (.int (8 : Int32))] [])) _
    refine XS.iconst X0.here hx rfl (hb hby d4_32) ?_
    show Steps p.tables e below (s₁.setTop (mkF m 33 #[.val (.ref o0), .val (.ref o1), .val (.int (8 : Int32))] [(.int (1 : Int32))])) _
    exact k)
  obtain ⟨fs, hr, hrun, hended, hW, hsame⟩ := X0.leave (v := some (.int (1 : Int32))) (fun h => by rw [Bd.returns] at h; cases h)
  refine ⟨_, _, pre44 _ ?_, hrun, hended, _, _, rfl, ?_, ⟨_, rfl⟩, hW, hsame.mono (by decide) (by decide)⟩
  · exact retN X0 hx (t := .boolean) Bd.returns (by simp) (hb hby d4_33) hr
  · show Q4 Z o0 o1 h0 n0 _ s₁.heap _
    rw [e0]
    exact ⟨rfl, N0, rfl, rfl⟩
theorem d3_0 : decode jdk_42_method_66_code 0 = .ok (.aload_n 0, 1) := by decide +kernel
theorem d3_1 : decode jdk_42_method_66_code 1 = .ok (.aload_n 1, 1) := by decide +kernel
theorem d3_2 : decode jdk_42_method_66_code 2 = .ok (.if_acmp .ne 5, 3) := by decide +kernel
theorem d3_5 : decode jdk_42_method_66_code 5 = .ok (.iconst 1, 1) := by decide +kernel
theorem d3_6 : decode jdk_42_method_66_code 6 = .ok (.ireturn, 1) := by decide +kernel
theorem d3_7 : decode jdk_42_method_66_code 7 = .ok (.aload_n 1, 1) := by decide +kernel
theorem d3_8 : decode jdk_42_method_66_code 8 = .ok (.instanceof 10, 3) := by decide +kernel
theorem d3_11 : decode jdk_42_method_66_code 11 = .ok (.ifCond .eq 43, 3) := by decide +kernel
theorem d3_14 : decode jdk_42_method_66_code 14 = .ok (.aload_n 1, 1) := by decide +kernel
theorem d3_15 : decode jdk_42_method_66_code 15 = .ok (.checkcast 10, 3) := by decide +kernel
theorem d3_18 : decode jdk_42_method_66_code 18 = .ok (.astore_n 2, 1) := by decide +kernel
theorem d3_19 : decode jdk_42_method_66_code 19 = .ok (.getstatic 38, 3) := by decide +kernel
theorem d3_22 : decode jdk_42_method_66_code 22 = .ok (.ifCond .eq 14, 3) := by decide +kernel
theorem d3_25 : decode jdk_42_method_66_code 25 = .ok (.aload_n 0, 1) := by decide +kernel
theorem d3_26 : decode jdk_42_method_66_code 26 = .ok (.getfield 15, 3) := by decide +kernel
theorem d3_29 : decode jdk_42_method_66_code 29 = .ok (.aload_n 2, 1) := by decide +kernel
theorem d3_30 : decode jdk_42_method_66_code 30 = .ok (.getfield 15, 3) := by decide +kernel
theorem d3_33 : decode jdk_42_method_66_code 33 = .ok (.if_icmp .ne 21, 3) := by decide +kernel
theorem d3_36 : decode jdk_42_method_66_code 36 = .ok (.aload_n 0, 1) := by decide +kernel
theorem d3_37 : decode jdk_42_method_66_code 37 = .ok (.getfield 9, 3) := by decide +kernel
theorem d3_40 : decode jdk_42_method_66_code 40 = .ok (.aload_n 2, 1) := by decide +kernel
theorem d3_41 : decode jdk_42_method_66_code 41 = .ok (.getfield 9, 3) := by decide +kernel
theorem d3_44 : decode jdk_42_method_66_code 44 = .ok (.invokestatic 541, 3) := by decide +kernel
theorem d3_47 : decode jdk_42_method_66_code 47 = .ok (.ifCond .eq 7, 3) := by decide +kernel
theorem d3_50 : decode jdk_42_method_66_code 50 = .ok (.iconst 1, 1) := by decide +kernel
theorem d3_51 : decode jdk_42_method_66_code 51 = .ok (.goto 4, 3) := by decide +kernel
theorem d3_55 : decode jdk_42_method_66_code 55 = .ok (.ireturn, 1) := by decide +kernel
theorem pn_2 : plainName "java/lang/String" = true := by first | (simp [plainName, overriddenIn]; done) | decide +kernel
theorem pd_0 : parseMethodDescriptor "([B[B)Z" = some ⟨[(.array .byte), (.array .byte)], some .boolean⟩ := by decide +kernel
theorem ef_3 (m : MethodId) (o0 : Addr) (o1 : Addr) : entryFrame m #[(.ref o0), (.ref o1)] 3 = mkF m 0 #[.val (.ref o0), .val (.ref o1), .unset] [] := by first | (simp [entryFrame, mkF, argsToLocals, Value.category]; done) | rfl

def Q3 (Z : State) (o0 : Addr) (o1 : Addr) (G1 : Int32) (t0 t1 : Addr)  (h0 : Heap) (n0 : Nat) (v : Option Value) (h : Heap) (L : List Loc) : Prop := v = some (.int (1 : Int32)) ∧ Fr n0 L ∧ h = h0 ∧ L = []
set_option maxRecDepth 65536 in
set_option maxHeartbeats 40000000 in
theorem rm3 (l : Launch) (Z : State) (a0 : Array Value) (hw : ∀ d ∈ tables_1, d.before a0 Z = true) (ws : List Jvm.Cond) (o0 : Addr) (o1 : Addr) (G1 : Int32) (t0 t1 : Addr)  (h0 : Heap) (n0 : Nat) (Z0 : n0 ≤ h0.size) (S_COMPACT_STRINGS : Sta Z h0 "java/lang/String" "COMPACT_STRINGS" "Z" (.int G1)) (E_o1 : Exa Z h0 o1 "java/lang/String") (F_coder_o0 : Fld Z h0 o0 "java/lang/String" "coder" "B" (.int (0 : Int32))) (F_coder_o1 : Fld Z h0 o1 "java/lang/String" "coder" "B" (.int (0 : Int32))) (F_value_o0 : Fld Z h0 o0 "java/lang/String" "value" "[B" (.ref t0)) (F_value_o1 : Fld Z h0 o1 "java/lang/String" "value" "[B" (.ref t1)) (A_t0 : own_A Z h0 t0 .byte 8 (fun i => (.int (own_g i)))) (A_t1 : own_A Z h0 t1 .byte 8 (fun i => (.int (own_g i)))) (P5 : ¬ (G1 = (0 : Int32))) :
    MetFree l (⟨"java/lang/String", "equals", "(Ljava/lang/Object;)Z"⟩ : MethodName) (head1 (Jvm.Cond.code (⟨"java/lang/String", "equals", "(Ljava/lang/Object;)Z"⟩ : MethodName) jdk_42_method_66_code 3 (some .boolean) :: ws) ({ frames := 1, cells := 0, slots := 0, locals := 14 } : Room)) (fun a U => a = #[(.ref o0), (.ref o1)] ∧ Z.Warmed39 U.vm ∧ U.heap = h0) (fun _ _ _ _ _ => True) (fun _ U o U' => ∃ v L, o = .returned v ∧ Q3 Z o0 o1 G1 t0 t1 h0 n0 v U'.heap L ∧ FrameEnd U o U' L ({ frames := 1, cells := 0, slots := 0, locals := 14 } : Room).cells ({ frames := 1, cells := 0, slots := 0, locals := 14 } : Room).slots) := by
  refine MetFree.of_bodySF (plainFor_of_name pn_2) hisR ?_
  intro p e s m args below meth c s₁ Bd hml0 hP hK
  obtain ⟨rfl, hZ, hh⟩ := hP
  have hx := Bd.exec
  have hby := Bd.bytes
  have hml : c.maxLocals = 3 := hml0
  have hown : s.vm.findClass "java/lang/String" = some m.cls := findClass_of_methodNamed Bd.named
  have hnm := (name_of_methodNamed Bd.named Bd.method).1
  have X0 : Stand p l e ({ frames := 1, cells := 0, slots := 0, locals := 14 } : Room) s m #[(.ref o0), (.ref o1)] below meth c s₁ [] 0 0 := Stand.of_body Bd
  have e0 : s₁.heap = h0 := by rw [← hh, Bd.state]; rfl
  have N0 := Fr.nil n0
  have pre0 : ∀ t, Steps p.tables e below (s₁.setTop (mkF m 0 #[.val (.ref o0), .val (.ref o1), .unset] [])) t → Steps p.tables e below (s₁.setTop (entryFrame m #[(.ref o0), (.ref o1)] 3)) t := fun t k => castTop (ef_3 m o0 o1) k
  have pre1 : ∀ t, Steps p.tables e below (s₁.setTop (mkF m 2 #[.val (.ref o0), .val (.ref o1), .unset] [(.ref o1), (.ref o0)])) t → Steps p.tables e below (s₁.setTop (entryFrame m #[(.ref o0), (.ref o1)] 3)) t := fun t k => pre0 t (by
    show Steps p.tables e below (s₁.setTop (mkF m 0 #[.val (.ref o0), .val (.ref o1), .unset] [])) _
    refine XS.aloadN X0.here hx rfl (hb hby d3_0) rfl rfl ?_
    show Steps p.tables e below (s₁.setTop (mkF m 1 #[.val (.ref o0), .val (.ref o1), .unset] [(.ref o0)])) _
    refine XS.aloadN X0.here hx rfl (hb hby d3_1) rfl rfl ?_
    show Steps p.tables e below (s₁.setTop (mkF m 2 #[.val (.ref o0), .val (.ref o1), .unset] [(.ref o1), (.ref o0)])) _
    exact k)
  by_cases hs2 : o0 = o1
  · have pre3 : ∀ t, Steps p.tables e below (s₁.setTop (mkF m 6 #[.val (.ref o0), .val (.ref o1), .unset] [(.int (1 : Int32))])) t → Steps p.tables e below (s₁.setTop (entryFrame m #[(.ref o0), (.ref o1)] 3)) t := fun t k => pre1 t (by
      refine Jvm.RoadKit.acmp (g := (mkF m 2 #[.val (.ref o0), .val (.ref o1), .unset] [(.ref o1), (.ref o0)])) X0 hx rfl rfl rfl (pc0 := 2) (pc' := 5) (same := true) rfl (hb hby d3_2) rfl (decide_eq_true (congrArg Value.ref hs2)) (by decide) (by decide) ?_
      show Steps p.tables e below (s₁.setTop (mkF m 5 #[.val (.ref o0), .val (.ref o1), .unset] [])) _
      refine XS.iconst X0.here hx rfl (hb hby d3_5) ?_
      show Steps p.tables e below (s₁.setTop (mkF m 6 #[.val (.ref o0), .val (.ref o1), .unset] [(.int (1 : Int32))])) _
      exact k)
    obtain ⟨fs, hr, hrun, hended, hW, hsame⟩ := X0.leave (v := some (.int (1 : Int32))) (fun h => by rw [Bd.returns] at h; cases h)
    refine ⟨_, _, pre3 _ ?_, hrun, hended, _, _, rfl, ?_, ⟨_, rfl⟩, hW, hsame.mono (by decide) (by decide)⟩
    · exact retN X0 hx (t := .boolean) Bd.returns (by simp) (hb hby d3_6) hr
    · show Q3 Z o0 o1 G1 t0 t1 h0 n0 _ s₁.heap _
      rw [e0]
      exact ⟨rfl, N0, rfl, rfl⟩
  · obtain ⟨T4, X4, e4, st4⟩ := instY X0 hx hZ hown (hw _ (List.mem_of_getElem? (i := 31) rfl)) e0 (Ins.self E_o1) (g := (mkF m 8 #[.val (.ref o0), .val (.ref o1), .unset] [(.ref o1)])) rfl rfl (hb hby d3_8)
    obtain ⟨T5, X5, e5, st5⟩ := castY X4 hx hZ hown (hw _ (List.mem_of_getElem? (i := 31) rfl)) e4 (Ins.self E_o1) (g := (mkF m 15 #[.val (.ref o0), .val (.ref o1), .unset] [(.ref o1)])) rfl rfl (hb hby d3_15)
    obtain ⟨T6, X6, e6, st6⟩ := getS2 X5 hx hZ hown (host := "") (Or.inl (hw _ (List.mem_of_getElem? (i := 33) rfl))) Via.refl e5 S_COMPACT_STRINGS (g := (mkF m 19 #[.val (.ref o0), .val (.ref o1), .val (.ref o1)] [])) rfl (hb hby d3_19)
    obtain ⟨T7, X7, e7, st7⟩ := getF X6 hx hZ hown (host := "") (Or.inl (hw _ (List.mem_of_getElem? (i := 34) rfl))) Via.refl e6 F_coder_o0 (g := (mkF m 26 #[.val (.ref o0), .val (.ref o1), .val (.ref o1)] [(.ref o0)])) rfl rfl (hb hby d3_26)
    obtain ⟨T8, X8, e8, st8⟩ := getF X7 hx hZ hown (host := "") (Or.inl (hw _ (List.mem_of_getElem? (i := 34) rfl))) Via.refl e7 F_coder_o1 (g := (mkF m 30 #[.val (.ref o0), .val (.ref o1), .val (.ref o1)] [(.ref o1), (.int (0 : Int32))])) rfl rfl (hb hby d3_30)
    obtain ⟨T9, X9, e9, st9⟩ := getF X8 hx hZ hown (host := "") (Or.inl (hw _ (List.mem_of_getElem? (i := 35) rfl))) Via.refl e8 F_value_o0 (g := (mkF m 37 #[.val (.ref o0), .val (.ref o1), .val (.ref o1)] [(.ref o0)])) rfl rfl (hb hby d3_37)
    obtain ⟨T10, X10, e10, st10⟩ := getF X9 hx hZ hown (host := "") (Or.inl (hw _ (List.mem_of_getElem? (i := 35) rfl))) Via.refl e9 F_value_o1 (g := (mkF m 41 #[.val (.ref o0), .val (.ref o1), .val (.ref o1)] [(.ref o1), (.ref t0)])) rfl rfl (hb hby d3_41)
    obtain ⟨_, _, ⟨T11, L11, k11, n11⟩, -, X11, ⟨Lc11, hQ11, l11, y11, z11⟩, st11⟩ := Jvm.LawKit.callS X10 hx (y := (⟨"java/lang/StringLatin1", "equals", "([B[B)Z"⟩ : MethodName)) hown (mvT hZ (hw _ (List.mem_of_getElem? (i := 36) rfl))) (mvT hZ (hw _ (List.mem_of_getElem? (i := 37) rfl))) (mvT hZ (hw _ (List.mem_of_getElem? (i := 38) rfl))) (mvT hZ (hw _ (List.mem_of_getElem? (i := 39) rfl))) (by decide) (backOf (W := 0) (rm4 l Z a0 hw [] t0 t1 h0 n0 Z0 A_t0 A_t1) hZ (hw _ (List.mem_of_getElem? (i := 39) rfl)) (hw _ (List.mem_of_getElem? (i := 38) rfl)) (by decide) (by decide)) (g := (mkF m 44 #[.val (.ref o0), .val (.ref o1), .val (.ref o1)] [(.ref t1), (.ref t0)])) rfl (by rw [hml]; rfl) (argsL := [(.ref t0), (.ref t1)]) (rest := []) (lenOf pd_0 rfl) rfl (by show 2 * 0 + _ ≤ _; exact Nat.le_of_eq rfl) (hb hby d3_44) (fun _ _ => ⟨rfl, e10, (by decide : 0 + 0 ≤ _), (by decide : 0 + 0 ≤ _)⟩)
    dsimp only [Pt.U, Pt.locs, Pt.cells, Pt.slots] at X11 l11 y11 z11 st11 hQ11
    subst l11 y11 z11
    obtain ⟨rfl, N11q, hh11, rfl⟩ := hQ11
    have N11 := Fr.app N0 N11q
    have pre12 : ∀ t, Steps p.tables e below (T11.setTop (mkF m 55 #[.val (.ref o0), .val (.ref o1), .val (.ref o1)] [(.int (1 : Int32))])) t → Steps p.tables e below (s₁.setTop (entryFrame m #[(.ref o0), (.ref o1)] 3)) t := fun t k => pre1 t (by
      refine Jvm.RoadKit.acmp (g := (mkF m 2 #[.val (.ref o0), .val (.ref o1), .unset] [(.ref o1), (.ref o0)])) X0 hx rfl rfl rfl (pc0 := 2) (pc' := 7) (same := false) rfl (hb hby d3_2) rfl (decide_eq_false fun q => hs2 (Value.ref.inj q)) (by decide) (by decide) ?_
      show Steps p.tables e below (s₁.setTop (mkF m 7 #[.val (.ref o0), .val (.ref o1), .unset] [])) _
      refine XS.aloadN X0.here hx rfl (hb hby d3_7) rfl rfl ?_
      show Steps p.tables e below (s₁.setTop (mkF m 8 #[.val (.ref o0), .val (.ref o1), .unset] [(.ref o1)])) _
      refine st4 _ ?_
      show Steps p.tables e below (T4.setTop (mkF m 11 #[.val (.ref o0), .val (.ref o1), .unset] [(.int (1 : Int32))])) _
      refine XS.ifNo X4.here hx rfl (hb hby d3_11) rfl ((if0 _ _).trans (feq (show ¬ ((1 : Int32) = (0 : Int32)) by decide)).1) ?_
      show Steps p.tables e below (T4.setTop (mkF m 14 #[.val (.ref o0), .val (.ref o1), .unset] [])) _
      refine XS.aloadN X4.here hx rfl (hb hby d3_14) rfl rfl ?_
      show Steps p.tables e below (T4.setTop (mkF m 15 #[.val (.ref o0), .val (.ref o1), .unset] [(.ref o1)])) _
      refine st5 _ ?_
      show Steps p.tables e below (T5.setTop (mkF m 18 #[.val (.ref o0), .val (.ref o1), .unset] [(.ref o1)])) _
      refine XS.astoreN X5.here hx rfl (hb hby d3_18) rfl rfl (l' := #[.val (.ref o0), .val (.ref o1), .val (.ref o1)]) rfl ?_
      show Steps p.tables e below (T5.setTop (mkF m 19 #[.val (.ref o0), .val (.ref o1), .val (.ref o1)] [])) _
      refine st6 _ ?_
      show Steps p.tables e below (T6.setTop (mkF m 22 #[.val (.ref o0), .val (.ref o1), .val (.ref o1)] [(.int G1)])) _
      refine XS.ifNo X6.here hx rfl (hb hby d3_22) rfl ((if0 _ _).trans (feq (show ¬ (G1 = (0 : Int32)) from P5)).1) ?_
      show Steps p.tables e below (T6.setTop (mkF m 25 #[.val (.ref o0), .val (.ref o1), .val (.ref o1)] [])) _
      refine XS.aloadN X6.here hx rfl (hb hby d3_25) rfl rfl ?_
      show Steps p.tables e below (T6.setTop (mkF m 26 #[.val (.ref o0), .val (.ref o1), .val (.ref o1)] [(.ref o0)])) _
      refine st7 _ ?_
      show Steps p.tables e below (T7.setTop (mkF m 29 #[.val (.ref o0), .val (.ref o1), .val (.ref o1)] [(.int (0 : Int32))])) _
      refine XS.aloadN X7.here hx rfl (hb hby d3_29) rfl rfl ?_
      show Steps p.tables e below (T7.setTop (mkF m 30 #[.val (.ref o0), .val (.ref o1), .val (.ref o1)] [(.ref o1), (.int (0 : Int32))])) _
      refine st8 _ ?_
      show Steps p.tables e below (T8.setTop (mkF m 33 #[.val (.ref o0), .val (.ref o1), .val (.ref o1)] [(.int (0 : Int32)), (.int (0 : Int32))])) _
      refine XS.icmpNo X8.here hx rfl (hb hby d3_33) rfl (teq (show (0 : Int32) = (0 : Int32) by decide)).2 ?_
      show Steps p.tables e below (T8.setTop (mkF m 36 #[.val (.ref o0), .val (.ref o1), .val (.ref o1)] [])) _
      refine XS.aloadN X8.here hx rfl (hb hby d3_36) rfl rfl ?_
      show Steps p.tables e below (T8.setTop (mkF m 37 #[.val (.ref o0), .val (.ref o1), .val (.ref o1)] [(.ref o0)])) _
      refine st9 _ ?_
      show Steps p.tables e below (T9.setTop (mkF m 40 #[.val (.ref o0), .val (.ref o1), .val (.ref o1)] [(.ref t0)])) _
      refine XS.aloadN X9.here hx rfl (hb hby d3_40) rfl rfl ?_
      show Steps p.tables e below (T9.setTop (mkF m 41 #[.val (.ref o0), .val (.ref o1), .val (.ref o1)] [(.ref o1), (.ref t0)])) _
      refine st10 _ ?_
      show Steps p.tables e below (T10.setTop (mkF m 44 #[.val (.ref o0), .val (.ref o1), .val (.ref o1)] [(.ref t1), (.ref t0)])) _
      refine st11 _ ?_
      show Steps p.tables e below (T11.setTop (mkF m 47 #[.val (.ref o0), .val (.ref o1), .val (.ref o1)] [(.int (1 : Int32))])) _
      refine XS.ifNo X11.here hx rfl (hb hby d3_47) rfl ((if0 _ _).trans (feq (show ¬ ((1 : Int32) = (0 : Int32)) by decide)).1) ?_
      show Steps p.tables e below (T11.setTop (mkF m 50 #[.val (.ref o0), .val (.ref o1), .val (.ref o1)] [])) _
      refine XS.iconst X11.here hx rfl (hb hby d3_50) ?_
      show Steps p.tables e below (T11.setTop (mkF m 51 #[.val (.ref o0), .val (.ref o1), .val (.ref o1)] [(.int (1 : Int32))])) _
      refine XS.goto X11.here hx rfl (pc0 := 51) (pc' := 55) rfl (hb hby d3_51) (by decide) (by decide) ?_
      show Steps p.tables e below (T11.setTop (mkF m 55 #[.val (.ref o0), .val (.ref o1), .val (.ref o1)] [(.int (1 : Int32))])) _
      exact k)
    obtain ⟨fs, hr, hrun, hended, hW, hsame⟩ := X11.leave (v := some (.int (1 : Int32))) (fun h => by rw [Bd.returns] at h; cases h)
    refine ⟨_, _, pre12 _ ?_, hrun, hended, _, _, rfl, ?_, ⟨_, rfl⟩, hW, hsame.mono (by decide) (by decide)⟩
    · exact retN X11 hx (t := .boolean) Bd.returns (by simp) (hb hby d3_55) hr
    · show Q3 Z o0 o1 G1 t0 t1 h0 n0 _ T11.heap _
      rw [hh11]
      exact ⟨rfl, N11, rfl, rfl⟩
theorem d104_0 : decode jdk_43_method_13_code 0 = .ok (.aload_n 0, 1) := by decide +kernel
theorem d104_1 : decode jdk_43_method_13_code 1 = .ok (.arraylength, 1) := by decide +kernel
theorem d104_2 : decode jdk_43_method_13_code 2 = .ok (.aload_n 1, 1) := by decide +kernel
theorem d104_3 : decode jdk_43_method_13_code 3 = .ok (.arraylength, 1) := by decide +kernel
theorem d104_4 : decode jdk_43_method_13_code 4 = .ok (.if_icmp .ne 30, 3) := by decide +kernel
theorem d104_34 : decode jdk_43_method_13_code 34 = .ok (.iconst 0, 1) := by decide +kernel
theorem d104_35 : decode jdk_43_method_13_code 35 = .ok (.ireturn, 1) := by decide +kernel
theorem ef_104 (m : MethodId) (o0 : Addr) (o1 : Addr) : entryFrame m #[(.ref o0), (.ref o1)] 3 = mkF m 0 #[.val (.ref o0), .val (.ref o1), .unset] [] := by first | (simp [entryFrame, mkF, argsToLocals, Value.category]; done) | rfl

def Q104 (Z : State) (o0 : Addr) (o1 : Addr) (g : Nat → Int32) (h0 : Heap) (n0 : Nat) (v : Option Value) (h : Heap) (L : List Loc) : Prop := v = some (.int (0 : Int32)) ∧ Fr n0 L ∧ h = h0 ∧ L = []
set_option maxRecDepth 65536 in
set_option maxHeartbeats 40000000 in
theorem rm104 (l : Launch) (Z : State) (a0 : Array Value) (hw : ∀ d ∈ tables_1, d.before a0 Z = true) (ws : List Jvm.Cond) (o0 : Addr) (o1 : Addr) (g : Nat → Int32) (h0 : Heap) (n0 : Nat) (Z0 : n0 ≤ h0.size) (A_o0 : own_A Z h0 o0 .byte 3 (fun i => (.int (g i)))) (A_o1 : own_A Z h0 o1 .byte 8 (fun i => (.int (own_g i)))) :
    MetFree l (⟨"java/lang/StringLatin1", "equals", "([B[B)Z"⟩ : MethodName) (head1 (Jvm.Cond.code (⟨"java/lang/StringLatin1", "equals", "([B[B)Z"⟩ : MethodName) jdk_43_method_13_code 3 (some .boolean) :: ws) ({ frames := 0, cells := 0, slots := 0, locals := 0 } : Room)) (fun a U => a = #[(.ref o0), (.ref o1)] ∧ Z.Warmed39 U.vm ∧ U.heap = h0) (fun _ _ _ _ _ => True) (fun _ U o U' => ∃ v L, o = .returned v ∧ Q104 Z o0 o1 g h0 n0 v U'.heap L ∧ FrameEnd U o U' L ({ frames := 0, cells := 0, slots := 0, locals := 0 } : Room).cells ({ frames := 0, cells := 0, slots := 0, locals := 0 } : Room).slots) := by
  refine MetFree.of_bodySF (plainFor_of_name pn_1) hisR ?_
  intro p e s m args below meth c s₁ Bd hml0 hP hK
  obtain ⟨rfl, hZ, hh⟩ := hP
  have hx := Bd.exec
  have hby := Bd.bytes
  have hml : c.maxLocals = 3 := hml0
  have hown : s.vm.findClass "java/lang/StringLatin1" = some m.cls := findClass_of_methodNamed Bd.named
  have hnm := (name_of_methodNamed Bd.named Bd.method).1
  have X0 : Stand p l e ({ frames := 0, cells := 0, slots := 0, locals := 0 } : Room) s m #[(.ref o0), (.ref o1)] below meth c s₁ [] 0 0 := Stand.of_body Bd
  have e0 : s₁.heap = h0 := by rw [← hh, Bd.state]; rfl
  have N0 := Fr.nil n0
  have pre0 : ∀ t, Steps p.tables e below (s₁.setTop (mkF m 0 #[.val (.ref o0), .val (.ref o1), .unset] [])) t → Steps p.tables e below (s₁.setTop (entryFrame m #[(.ref o0), (.ref o1)] 3)) t := fun t k => castTop (ef_104 m o0 o1) k
  have qa1 := A_o0
  obtain ⟨c1, Ar1, Sz1, H1⟩ := qa1
  have qa2 := A_o1
  obtain ⟨c2, Ar2, Sz2, H2⟩ := qa2
  have pre3 : ∀ t, Steps p.tables e below (s₁.setTop (mkF m 35 #[.val (.ref o0), .val (.ref o1), .unset] [(.int (0 : Int32))])) t → Steps p.tables e below (s₁.setTop (entryFrame m #[(.ref o0), (.ref o1)] 3)) t := fun t k => pre0 t (by
    show Steps p.tables e below (s₁.setTop (mkF m 0 #[.val (.ref o0), .val (.ref o1), .unset] [])) _
    refine XS.aloadN X0.here hx rfl (hb hby d104_0) rfl rfl ?_
    show Steps p.tables e below (s₁.setTop (mkF m 1 #[.val (.ref o0), .val (.ref o1), .unset] [(.ref o0)])) _
    refine X0.arraylength hx (by rw [e0]; exact Ar1.1) (State.isArrayOf_alike hZ.alike Ar1.2.1) (g := (mkF m 1 #[.val (.ref o0), .val (.ref o1), .unset] [(.ref o0)])) rfl rfl (hb hby d104_1) _ ?_
    rw [own_len Sz1 (z := (3 : Int32)) rfl]
    show Steps p.tables e below (s₁.setTop (mkF m 2 #[.val (.ref o0), .val (.ref o1), .unset] [(.int (3 : Int32))])) _
    refine XS.aloadN X0.here hx rfl (hb hby d104_2) rfl rfl ?_
    show Steps p.tables e below (s₁.setTop (mkF m 3 #[.val (.ref o0), .val (.ref o1), .unset] [(.ref o1), (.int (3 : Int32))])) _
    refine X0.arraylength hx (by rw [e0]; exact Ar2.1) (State.isArrayOf_alike hZ.alike Ar2.2.1) (g := (mkF m 3 #[.val (.ref o0), .val (.ref o1), .unset] [(.ref o1), (.int (3 : Int32))])) rfl rfl (hb hby d104_3) _ ?_
    rw [own_len Sz2 (z := (8 : Int32)) rfl]
    show Steps p.tables e below (s₁.setTop (mkF m 4 #[.val (.ref o0), .val (.ref o1), .unset] [(.int (8 : Int32)), (.int (3 : Int32))])) _
    refine XS.icmpYes X0.here hx rfl (pc0 := 4) (pc' := 34) rfl (hb hby d104_4) rfl (feq (show ¬ ((3 : Int32) = (8 : Int32)) by decide)).2 (by decide) (by decide) ?_
    show Steps p.tables e below (s₁.setTop (mkF m 34 #[.val (.ref o0), .val (.ref o1), .unset] [])) _
    refine XS.iconst X0.here hx rfl (hb hby d104_34) ?_
    show Steps p.tables e below (s₁.setTop (mkF m 35 #[.val (.ref o0), .val (.ref o1), .unset] [(.int (0 : Int32))])) _
    exact k)
  obtain ⟨fs, hr, hrun, hended, hW, hsame⟩ := X0.leave (v := some (.int (0 : Int32))) (fun h => by rw [Bd.returns] at h; cases h)
  refine ⟨_, _, pre3 _ ?_, hrun, hended, _, _, rfl, ?_, ⟨_, rfl⟩, hW, hsame.mono (by decide) (by decide)⟩
  · exact retN X0 hx (t := .boolean) Bd.returns (by simp) (hb hby d104_35) hr
  · show Q104 Z o0 o1 g h0 n0 _ s₁.heap _
    rw [e0]
    exact ⟨rfl, N0, rfl, rfl⟩
theorem d103_0 : decode jdk_42_method_66_code 0 = .ok (.aload_n 0, 1) := by decide +kernel
theorem d103_1 : decode jdk_42_method_66_code 1 = .ok (.aload_n 1, 1) := by decide +kernel
theorem d103_2 : decode jdk_42_method_66_code 2 = .ok (.if_acmp .ne 5, 3) := by decide +kernel
theorem d103_7 : decode jdk_42_method_66_code 7 = .ok (.aload_n 1, 1) := by decide +kernel
theorem d103_8 : decode jdk_42_method_66_code 8 = .ok (.instanceof 10, 3) := by decide +kernel
theorem d103_11 : decode jdk_42_method_66_code 11 = .ok (.ifCond .eq 43, 3) := by decide +kernel
theorem d103_14 : decode jdk_42_method_66_code 14 = .ok (.aload_n 1, 1) := by decide +kernel
theorem d103_15 : decode jdk_42_method_66_code 15 = .ok (.checkcast 10, 3) := by decide +kernel
theorem d103_18 : decode jdk_42_method_66_code 18 = .ok (.astore_n 2, 1) := by decide +kernel
theorem d103_19 : decode jdk_42_method_66_code 19 = .ok (.getstatic 38, 3) := by decide +kernel
theorem d103_22 : decode jdk_42_method_66_code 22 = .ok (.ifCond .eq 14, 3) := by decide +kernel
theorem d103_25 : decode jdk_42_method_66_code 25 = .ok (.aload_n 0, 1) := by decide +kernel
theorem d103_26 : decode jdk_42_method_66_code 26 = .ok (.getfield 15, 3) := by decide +kernel
theorem d103_29 : decode jdk_42_method_66_code 29 = .ok (.aload_n 2, 1) := by decide +kernel
theorem d103_30 : decode jdk_42_method_66_code 30 = .ok (.getfield 15, 3) := by decide +kernel
theorem d103_33 : decode jdk_42_method_66_code 33 = .ok (.if_icmp .ne 21, 3) := by decide +kernel
theorem d103_36 : decode jdk_42_method_66_code 36 = .ok (.aload_n 0, 1) := by decide +kernel
theorem d103_37 : decode jdk_42_method_66_code 37 = .ok (.getfield 9, 3) := by decide +kernel
theorem d103_40 : decode jdk_42_method_66_code 40 = .ok (.aload_n 2, 1) := by decide +kernel
theorem d103_41 : decode jdk_42_method_66_code 41 = .ok (.getfield 9, 3) := by decide +kernel
theorem d103_44 : decode jdk_42_method_66_code 44 = .ok (.invokestatic 541, 3) := by decide +kernel
theorem d103_47 : decode jdk_42_method_66_code 47 = .ok (.ifCond .eq 7, 3) := by decide +kernel
theorem d103_54 : decode jdk_42_method_66_code 54 = .ok (.iconst 0, 1) := by decide +kernel
theorem d103_55 : decode jdk_42_method_66_code 55 = .ok (.ireturn, 1) := by decide +kernel
theorem ef_103 (m : MethodId) (o0 : Addr) (o1 : Addr) : entryFrame m #[(.ref o0), (.ref o1)] 3 = mkF m 0 #[.val (.ref o0), .val (.ref o1), .unset] [] := by first | (simp [entryFrame, mkF, argsToLocals, Value.category]; done) | rfl

def Q103 (Z : State) (o0 : Addr) (o1 : Addr) (G1 : Int32) (t0 t1 : Addr) (g : Nat → Int32) (h0 : Heap) (n0 : Nat) (v : Option Value) (h : Heap) (L : List Loc) : Prop := v = some (.int (0 : Int32)) ∧ Fr n0 L ∧ h = h0 ∧ L = []
set_option maxRecDepth 65536 in
set_option maxHeartbeats 40000000 in
theorem rm103 (l : Launch) (Z : State) (a0 : Array Value) (hw : ∀ d ∈ tables_1, d.before a0 Z = true) (ws : List Jvm.Cond) (o0 : Addr) (o1 : Addr) (G1 : Int32) (t0 t1 : Addr) (g : Nat → Int32) (h0 : Heap) (n0 : Nat) (Z0 : n0 ≤ h0.size) (S_COMPACT_STRINGS : Sta Z h0 "java/lang/String" "COMPACT_STRINGS" "Z" (.int G1)) (E_o1 : Exa Z h0 o1 "java/lang/String") (F_coder_o0 : Fld Z h0 o0 "java/lang/String" "coder" "B" (.int (0 : Int32))) (F_coder_o1 : Fld Z h0 o1 "java/lang/String" "coder" "B" (.int (0 : Int32))) (F_value_o0 : Fld Z h0 o0 "java/lang/String" "value" "[B" (.ref t0)) (F_value_o1 : Fld Z h0 o1 "java/lang/String" "value" "[B" (.ref t1)) (A_t0 : own_A Z h0 t0 .byte 3 (fun i => (.int (g i)))) (A_t1 : own_A Z h0 t1 .byte 8 (fun i => (.int (own_g i)))) (P5 : ¬ (G1 = (0 : Int32))) (hne : ¬ o0 = o1) :
    MetFree l (⟨"java/lang/String", "equals", "(Ljava/lang/Object;)Z"⟩ : MethodName) (head1 (Jvm.Cond.code (⟨"java/lang/String", "equals", "(Ljava/lang/Object;)Z"⟩ : MethodName) jdk_42_method_66_code 3 (some .boolean) :: ws) ({ frames := 1, cells := 0, slots := 0, locals := 14 } : Room)) (fun a U => a = #[(.ref o0), (.ref o1)] ∧ Z.Warmed39 U.vm ∧ U.heap = h0) (fun _ _ _ _ _ => True) (fun _ U o U' => ∃ v L, o = .returned v ∧ Q103 Z o0 o1 G1 t0 t1 g h0 n0 v U'.heap L ∧ FrameEnd U o U' L ({ frames := 1, cells := 0, slots := 0, locals := 14 } : Room).cells ({ frames := 1, cells := 0, slots := 0, locals := 14 } : Room).slots) := by
  refine MetFree.of_bodySF (plainFor_of_name pn_2) hisR ?_
  intro p e s m args below meth c s₁ Bd hml0 hP hK
  obtain ⟨rfl, hZ, hh⟩ := hP
  have hx := Bd.exec
  have hby := Bd.bytes
  have hml : c.maxLocals = 3 := hml0
  have hown : s.vm.findClass "java/lang/String" = some m.cls := findClass_of_methodNamed Bd.named
  have hnm := (name_of_methodNamed Bd.named Bd.method).1
  have X0 : Stand p l e ({ frames := 1, cells := 0, slots := 0, locals := 14 } : Room) s m #[(.ref o0), (.ref o1)] below meth c s₁ [] 0 0 := Stand.of_body Bd
  have e0 : s₁.heap = h0 := by rw [← hh, Bd.state]; rfl
  have N0 := Fr.nil n0
  have pre0 : ∀ t, Steps p.tables e below (s₁.setTop (mkF m 0 #[.val (.ref o0), .val (.ref o1), .unset] [])) t → Steps p.tables e below (s₁.setTop (entryFrame m #[(.ref o0), (.ref o1)] 3)) t := fun t k => castTop (ef_103 m o0 o1) k
  obtain ⟨T1, X1, e1, st1⟩ := instY X0 hx hZ hown (hw _ (List.mem_of_getElem? (i := 31) rfl)) e0 (Ins.self E_o1) (g := (mkF m 8 #[.val (.ref o0), .val (.ref o1), .unset] [(.ref o1)])) rfl rfl (hb hby d103_8)
  obtain ⟨T2, X2, e2, st2⟩ := castY X1 hx hZ hown (hw _ (List.mem_of_getElem? (i := 31) rfl)) e1 (Ins.self E_o1) (g := (mkF m 15 #[.val (.ref o0), .val (.ref o1), .unset] [(.ref o1)])) rfl rfl (hb hby d103_15)
  obtain ⟨T3, X3, e3, st3⟩ := getS2 X2 hx hZ hown (host := "") (Or.inl (hw _ (List.mem_of_getElem? (i := 33) rfl))) Via.refl e2 S_COMPACT_STRINGS (g := (mkF m 19 #[.val (.ref o0), .val (.ref o1), .val (.ref o1)] [])) rfl (hb hby d103_19)
  obtain ⟨T4, X4, e4, st4⟩ := getF X3 hx hZ hown (host := "") (Or.inl (hw _ (List.mem_of_getElem? (i := 34) rfl))) Via.refl e3 F_coder_o0 (g := (mkF m 26 #[.val (.ref o0), .val (.ref o1), .val (.ref o1)] [(.ref o0)])) rfl rfl (hb hby d103_26)
  obtain ⟨T5, X5, e5, st5⟩ := getF X4 hx hZ hown (host := "") (Or.inl (hw _ (List.mem_of_getElem? (i := 34) rfl))) Via.refl e4 F_coder_o1 (g := (mkF m 30 #[.val (.ref o0), .val (.ref o1), .val (.ref o1)] [(.ref o1), (.int (0 : Int32))])) rfl rfl (hb hby d103_30)
  obtain ⟨T6, X6, e6, st6⟩ := getF X5 hx hZ hown (host := "") (Or.inl (hw _ (List.mem_of_getElem? (i := 35) rfl))) Via.refl e5 F_value_o0 (g := (mkF m 37 #[.val (.ref o0), .val (.ref o1), .val (.ref o1)] [(.ref o0)])) rfl rfl (hb hby d103_37)
  obtain ⟨T7, X7, e7, st7⟩ := getF X6 hx hZ hown (host := "") (Or.inl (hw _ (List.mem_of_getElem? (i := 35) rfl))) Via.refl e6 F_value_o1 (g := (mkF m 41 #[.val (.ref o0), .val (.ref o1), .val (.ref o1)] [(.ref o1), (.ref t0)])) rfl rfl (hb hby d103_41)
  obtain ⟨_, _, ⟨T8, L8, k8, n8⟩, -, X8, ⟨Lc8, hQ8, l8, y8, z8⟩, st8⟩ := Jvm.LawKit.callS X7 hx (y := (⟨"java/lang/StringLatin1", "equals", "([B[B)Z"⟩ : MethodName)) hown (mvT hZ (hw _ (List.mem_of_getElem? (i := 36) rfl))) (mvT hZ (hw _ (List.mem_of_getElem? (i := 37) rfl))) (mvT hZ (hw _ (List.mem_of_getElem? (i := 38) rfl))) (mvT hZ (hw _ (List.mem_of_getElem? (i := 39) rfl))) (by decide) (backOf (W := 0) (rm104 l Z a0 hw [] t0 t1 (fun i => (g i)) h0 n0 Z0 A_t0 A_t1) hZ (hw _ (List.mem_of_getElem? (i := 39) rfl)) (hw _ (List.mem_of_getElem? (i := 38) rfl)) (by decide) (by decide)) (g := (mkF m 44 #[.val (.ref o0), .val (.ref o1), .val (.ref o1)] [(.ref t1), (.ref t0)])) rfl (by rw [hml]; rfl) (argsL := [(.ref t0), (.ref t1)]) (rest := []) (lenOf pd_0 rfl) rfl (by show 2 * 0 + _ ≤ _; exact Nat.le_of_eq rfl) (hb hby d103_44) (fun _ _ => ⟨rfl, e7, (by decide : 0 + 0 ≤ _), (by decide : 0 + 0 ≤ _)⟩)
  dsimp only [Pt.U, Pt.locs, Pt.cells, Pt.slots] at X8 l8 y8 z8 st8 hQ8
  subst l8 y8 z8
  obtain ⟨rfl, N8q, hh8, rfl⟩ := hQ8
  have N8 := Fr.app N0 N8q
  have pre9 : ∀ t, Steps p.tables e below (T8.setTop (mkF m 55 #[.val (.ref o0), .val (.ref o1), .val (.ref o1)] [(.int (0 : Int32))])) t → Steps p.tables e below (s₁.setTop (entryFrame m #[(.ref o0), (.ref o1)] 3)) t := fun t k => pre0 t (by
    show Steps p.tables e below (s₁.setTop (mkF m 0 #[.val (.ref o0), .val (.ref o1), .unset] [])) _
    refine XS.aloadN X0.here hx rfl (hb hby d103_0) rfl rfl ?_
    show Steps p.tables e below (s₁.setTop (mkF m 1 #[.val (.ref o0), .val (.ref o1), .unset] [(.ref o0)])) _
    refine XS.aloadN X0.here hx rfl (hb hby d103_1) rfl rfl ?_
    show Steps p.tables e below (s₁.setTop (mkF m 2 #[.val (.ref o0), .val (.ref o1), .unset] [(.ref o1), (.ref o0)])) _
    refine Jvm.RoadKit.acmp (g := (mkF m 2 #[.val (.ref o0), .val (.ref o1), .unset] [(.ref o1), (.ref o0)])) X0 hx rfl rfl rfl (pc0 := 2) (pc' := 7) (same := false) rfl (hb hby d103_2) rfl (decide_eq_false fun q => (show ¬ (o0 = o1) from hne) (Value.ref.inj q)) (by decide) (by decide) ?_
    show Steps p.tables e below (s₁.setTop (mkF m 7 #[.val (.ref o0), .val (.ref o1), .unset] [])) _
    refine XS.aloadN X0.here hx rfl (hb hby d103_7) rfl rfl ?_
    show Steps p.tables e below (s₁.setTop (mkF m 8 #[.val (.ref o0), .val (.ref o1), .unset] [(.ref o1)])) _
    refine st1 _ ?_
    show Steps p.tables e below (T1.setTop (mkF m 11 #[.val (.ref o0), .val (.ref o1), .unset] [(.int (1 : Int32))])) _
    refine XS.ifNo X1.here hx rfl (hb hby d103_11) rfl ((if0 _ _).trans (feq (show ¬ ((1 : Int32) = (0 : Int32)) by decide)).1) ?_
    show Steps p.tables e below (T1.setTop (mkF m 14 #[.val (.ref o0), .val (.ref o1), .unset] [])) _
    refine XS.aloadN X1.here hx rfl (hb hby d103_14) rfl rfl ?_
    show Steps p.tables e below (T1.setTop (mkF m 15 #[.val (.ref o0), .val (.ref o1), .unset] [(.ref o1)])) _
    refine st2 _ ?_
    show Steps p.tables e below (T2.setTop (mkF m 18 #[.val (.ref o0), .val (.ref o1), .unset] [(.ref o1)])) _
    refine XS.astoreN X2.here hx rfl (hb hby d103_18) rfl rfl (l' := #[.val (.ref o0), .val (.ref o1), .val (.ref o1)]) rfl ?_
    show Steps p.tables e below (T2.setTop (mkF m 19 #[.val (.ref o0), .val (.ref o1), .val (.ref o1)] [])) _
    refine st3 _ ?_
    show Steps p.tables e below (T3.setTop (mkF m 22 #[.val (.ref o0), .val (.ref o1), .val (.ref o1)] [(.int G1)])) _
    refine XS.ifNo X3.here hx rfl (hb hby d103_22) rfl ((if0 _ _).trans (feq (show ¬ (G1 = (0 : Int32)) from P5)).1) ?_
    show Steps p.tables e below (T3.setTop (mkF m 25 #[.val (.ref o0), .val (.ref o1), .val (.ref o1)] [])) _
    refine XS.aloadN X3.here hx rfl (hb hby d103_25) rfl rfl ?_
    show Steps p.tables e below (T3.setTop (mkF m 26 #[.val (.ref o0), .val (.ref o1), .val (.ref o1)] [(.ref o0)])) _
    refine st4 _ ?_
    show Steps p.tables e below (T4.setTop (mkF m 29 #[.val (.ref o0), .val (.ref o1), .val (.ref o1)] [(.int (0 : Int32))])) _
    refine XS.aloadN X4.here hx rfl (hb hby d103_29) rfl rfl ?_
    show Steps p.tables e below (T4.setTop (mkF m 30 #[.val (.ref o0), .val (.ref o1), .val (.ref o1)] [(.ref o1), (.int (0 : Int32))])) _
    refine st5 _ ?_
    show Steps p.tables e below (T5.setTop (mkF m 33 #[.val (.ref o0), .val (.ref o1), .val (.ref o1)] [(.int (0 : Int32)), (.int (0 : Int32))])) _
    refine XS.icmpNo X5.here hx rfl (hb hby d103_33) rfl (teq (show (0 : Int32) = (0 : Int32) by decide)).2 ?_
    show Steps p.tables e below (T5.setTop (mkF m 36 #[.val (.ref o0), .val (.ref o1), .val (.ref o1)] [])) _
    refine XS.aloadN X5.here hx rfl (hb hby d103_36) rfl rfl ?_
    show Steps p.tables e below (T5.setTop (mkF m 37 #[.val (.ref o0), .val (.ref o1), .val (.ref o1)] [(.ref o0)])) _
    refine st6 _ ?_
    show Steps p.tables e below (T6.setTop (mkF m 40 #[.val (.ref o0), .val (.ref o1), .val (.ref o1)] [(.ref t0)])) _
    refine XS.aloadN X6.here hx rfl (hb hby d103_40) rfl rfl ?_
    show Steps p.tables e below (T6.setTop (mkF m 41 #[.val (.ref o0), .val (.ref o1), .val (.ref o1)] [(.ref o1), (.ref t0)])) _
    refine st7 _ ?_
    show Steps p.tables e below (T7.setTop (mkF m 44 #[.val (.ref o0), .val (.ref o1), .val (.ref o1)] [(.ref t1), (.ref t0)])) _
    refine st8 _ ?_
    show Steps p.tables e below (T8.setTop (mkF m 47 #[.val (.ref o0), .val (.ref o1), .val (.ref o1)] [(.int (0 : Int32))])) _
    refine XS.ifYes X8.here hx rfl (pc0 := 47) (pc' := 54) rfl (hb hby d103_47) rfl ((if0 _ _).trans (teq (show (0 : Int32) = (0 : Int32) by decide)).1) (by decide) (by decide) ?_
    show Steps p.tables e below (T8.setTop (mkF m 54 #[.val (.ref o0), .val (.ref o1), .val (.ref o1)] [])) _
    refine XS.iconst X8.here hx rfl (hb hby d103_54) ?_
    show Steps p.tables e below (T8.setTop (mkF m 55 #[.val (.ref o0), .val (.ref o1), .val (.ref o1)] [(.int (0 : Int32))])) _
    exact k)
  obtain ⟨fs, hr, hrun, hended, hW, hsame⟩ := X8.leave (v := some (.int (0 : Int32))) (fun h => by rw [Bd.returns] at h; cases h)
  refine ⟨_, _, pre9 _ ?_, hrun, hended, _, _, rfl, ?_, ⟨_, rfl⟩, hW, hsame.mono (by decide) (by decide)⟩
  · exact retN X8 hx (t := .boolean) Bd.returns (by simp) (hb hby d103_55) hr
  · show Q103 Z o0 o1 G1 t0 t1 g h0 n0 _ T8.heap _
    rw [hh8]
    exact ⟨rfl, N8, rfl, rfl⟩
theorem d204_0 : decode jdk_43_method_13_code 0 = .ok (.aload_n 0, 1) := by decide +kernel
theorem d204_1 : decode jdk_43_method_13_code 1 = .ok (.arraylength, 1) := by decide +kernel
theorem d204_2 : decode jdk_43_method_13_code 2 = .ok (.aload_n 1, 1) := by decide +kernel
theorem d204_3 : decode jdk_43_method_13_code 3 = .ok (.arraylength, 1) := by decide +kernel
theorem d204_4 : decode jdk_43_method_13_code 4 = .ok (.if_icmp .ne 30, 3) := by decide +kernel
theorem d204_34 : decode jdk_43_method_13_code 34 = .ok (.iconst 0, 1) := by decide +kernel
theorem d204_35 : decode jdk_43_method_13_code 35 = .ok (.ireturn, 1) := by decide +kernel
theorem ef_204 (m : MethodId) (o0 : Addr) (o1 : Addr) : entryFrame m #[(.ref o0), (.ref o1)] 3 = mkF m 0 #[.val (.ref o0), .val (.ref o1), .unset] [] := by first | (simp [entryFrame, mkF, argsToLocals, Value.category]; done) | rfl

def Q204 (Z : State) (o0 : Addr) (o1 : Addr) (g : Nat → Int32) (h0 : Heap) (n0 : Nat) (v : Option Value) (h : Heap) (L : List Loc) : Prop := v = some (.int (0 : Int32)) ∧ Fr n0 L ∧ h = h0 ∧ L = []
set_option maxRecDepth 65536 in
set_option maxHeartbeats 40000000 in
theorem rm204 (l : Launch) (Z : State) (a0 : Array Value) (hw : ∀ d ∈ tables_1, d.before a0 Z = true) (ws : List Jvm.Cond) (o0 : Addr) (o1 : Addr) (g : Nat → Int32) (h0 : Heap) (n0 : Nat) (Z0 : n0 ≤ h0.size) (A_o0 : own_A Z h0 o0 .byte 5 (fun i => (.int (g i)))) (A_o1 : own_A Z h0 o1 .byte 8 (fun i => (.int (own_g i)))) :
    MetFree l (⟨"java/lang/StringLatin1", "equals", "([B[B)Z"⟩ : MethodName) (head1 (Jvm.Cond.code (⟨"java/lang/StringLatin1", "equals", "([B[B)Z"⟩ : MethodName) jdk_43_method_13_code 3 (some .boolean) :: ws) ({ frames := 0, cells := 0, slots := 0, locals := 0 } : Room)) (fun a U => a = #[(.ref o0), (.ref o1)] ∧ Z.Warmed39 U.vm ∧ U.heap = h0) (fun _ _ _ _ _ => True) (fun _ U o U' => ∃ v L, o = .returned v ∧ Q204 Z o0 o1 g h0 n0 v U'.heap L ∧ FrameEnd U o U' L ({ frames := 0, cells := 0, slots := 0, locals := 0 } : Room).cells ({ frames := 0, cells := 0, slots := 0, locals := 0 } : Room).slots) := by
  refine MetFree.of_bodySF (plainFor_of_name pn_1) hisR ?_
  intro p e s m args below meth c s₁ Bd hml0 hP hK
  obtain ⟨rfl, hZ, hh⟩ := hP
  have hx := Bd.exec
  have hby := Bd.bytes
  have hml : c.maxLocals = 3 := hml0
  have hown : s.vm.findClass "java/lang/StringLatin1" = some m.cls := findClass_of_methodNamed Bd.named
  have hnm := (name_of_methodNamed Bd.named Bd.method).1
  have X0 : Stand p l e ({ frames := 0, cells := 0, slots := 0, locals := 0 } : Room) s m #[(.ref o0), (.ref o1)] below meth c s₁ [] 0 0 := Stand.of_body Bd
  have e0 : s₁.heap = h0 := by rw [← hh, Bd.state]; rfl
  have N0 := Fr.nil n0
  have pre0 : ∀ t, Steps p.tables e below (s₁.setTop (mkF m 0 #[.val (.ref o0), .val (.ref o1), .unset] [])) t → Steps p.tables e below (s₁.setTop (entryFrame m #[(.ref o0), (.ref o1)] 3)) t := fun t k => castTop (ef_204 m o0 o1) k
  have qa1 := A_o0
  obtain ⟨c1, Ar1, Sz1, H1⟩ := qa1
  have qa2 := A_o1
  obtain ⟨c2, Ar2, Sz2, H2⟩ := qa2
  have pre3 : ∀ t, Steps p.tables e below (s₁.setTop (mkF m 35 #[.val (.ref o0), .val (.ref o1), .unset] [(.int (0 : Int32))])) t → Steps p.tables e below (s₁.setTop (entryFrame m #[(.ref o0), (.ref o1)] 3)) t := fun t k => pre0 t (by
    show Steps p.tables e below (s₁.setTop (mkF m 0 #[.val (.ref o0), .val (.ref o1), .unset] [])) _
    refine XS.aloadN X0.here hx rfl (hb hby d204_0) rfl rfl ?_
    show Steps p.tables e below (s₁.setTop (mkF m 1 #[.val (.ref o0), .val (.ref o1), .unset] [(.ref o0)])) _
    refine X0.arraylength hx (by rw [e0]; exact Ar1.1) (State.isArrayOf_alike hZ.alike Ar1.2.1) (g := (mkF m 1 #[.val (.ref o0), .val (.ref o1), .unset] [(.ref o0)])) rfl rfl (hb hby d204_1) _ ?_
    rw [own_len Sz1 (z := (5 : Int32)) rfl]
    show Steps p.tables e below (s₁.setTop (mkF m 2 #[.val (.ref o0), .val (.ref o1), .unset] [(.int (5 : Int32))])) _
    refine XS.aloadN X0.here hx rfl (hb hby d204_2) rfl rfl ?_
    show Steps p.tables e below (s₁.setTop (mkF m 3 #[.val (.ref o0), .val (.ref o1), .unset] [(.ref o1), (.int (5 : Int32))])) _
    refine X0.arraylength hx (by rw [e0]; exact Ar2.1) (State.isArrayOf_alike hZ.alike Ar2.2.1) (g := (mkF m 3 #[.val (.ref o0), .val (.ref o1), .unset] [(.ref o1), (.int (5 : Int32))])) rfl rfl (hb hby d204_3) _ ?_
    rw [own_len Sz2 (z := (8 : Int32)) rfl]
    show Steps p.tables e below (s₁.setTop (mkF m 4 #[.val (.ref o0), .val (.ref o1), .unset] [(.int (8 : Int32)), (.int (5 : Int32))])) _
    refine XS.icmpYes X0.here hx rfl (pc0 := 4) (pc' := 34) rfl (hb hby d204_4) rfl (feq (show ¬ ((5 : Int32) = (8 : Int32)) by decide)).2 (by decide) (by decide) ?_
    show Steps p.tables e below (s₁.setTop (mkF m 34 #[.val (.ref o0), .val (.ref o1), .unset] [])) _
    refine XS.iconst X0.here hx rfl (hb hby d204_34) ?_
    show Steps p.tables e below (s₁.setTop (mkF m 35 #[.val (.ref o0), .val (.ref o1), .unset] [(.int (0 : Int32))])) _
    exact k)
  obtain ⟨fs, hr, hrun, hended, hW, hsame⟩ := X0.leave (v := some (.int (0 : Int32))) (fun h => by rw [Bd.returns] at h; cases h)
  refine ⟨_, _, pre3 _ ?_, hrun, hended, _, _, rfl, ?_, ⟨_, rfl⟩, hW, hsame.mono (by decide) (by decide)⟩
  · exact retN X0 hx (t := .boolean) Bd.returns (by simp) (hb hby d204_35) hr
  · show Q204 Z o0 o1 g h0 n0 _ s₁.heap _
    rw [e0]
    exact ⟨rfl, N0, rfl, rfl⟩
theorem d203_0 : decode jdk_42_method_66_code 0 = .ok (.aload_n 0, 1) := by decide +kernel
theorem d203_1 : decode jdk_42_method_66_code 1 = .ok (.aload_n 1, 1) := by decide +kernel
theorem d203_2 : decode jdk_42_method_66_code 2 = .ok (.if_acmp .ne 5, 3) := by decide +kernel
theorem d203_7 : decode jdk_42_method_66_code 7 = .ok (.aload_n 1, 1) := by decide +kernel
theorem d203_8 : decode jdk_42_method_66_code 8 = .ok (.instanceof 10, 3) := by decide +kernel
theorem d203_11 : decode jdk_42_method_66_code 11 = .ok (.ifCond .eq 43, 3) := by decide +kernel
theorem d203_14 : decode jdk_42_method_66_code 14 = .ok (.aload_n 1, 1) := by decide +kernel
theorem d203_15 : decode jdk_42_method_66_code 15 = .ok (.checkcast 10, 3) := by decide +kernel
theorem d203_18 : decode jdk_42_method_66_code 18 = .ok (.astore_n 2, 1) := by decide +kernel
theorem d203_19 : decode jdk_42_method_66_code 19 = .ok (.getstatic 38, 3) := by decide +kernel
theorem d203_22 : decode jdk_42_method_66_code 22 = .ok (.ifCond .eq 14, 3) := by decide +kernel
theorem d203_25 : decode jdk_42_method_66_code 25 = .ok (.aload_n 0, 1) := by decide +kernel
theorem d203_26 : decode jdk_42_method_66_code 26 = .ok (.getfield 15, 3) := by decide +kernel
theorem d203_29 : decode jdk_42_method_66_code 29 = .ok (.aload_n 2, 1) := by decide +kernel
theorem d203_30 : decode jdk_42_method_66_code 30 = .ok (.getfield 15, 3) := by decide +kernel
theorem d203_33 : decode jdk_42_method_66_code 33 = .ok (.if_icmp .ne 21, 3) := by decide +kernel
theorem d203_36 : decode jdk_42_method_66_code 36 = .ok (.aload_n 0, 1) := by decide +kernel
theorem d203_37 : decode jdk_42_method_66_code 37 = .ok (.getfield 9, 3) := by decide +kernel
theorem d203_40 : decode jdk_42_method_66_code 40 = .ok (.aload_n 2, 1) := by decide +kernel
theorem d203_41 : decode jdk_42_method_66_code 41 = .ok (.getfield 9, 3) := by decide +kernel
theorem d203_44 : decode jdk_42_method_66_code 44 = .ok (.invokestatic 541, 3) := by decide +kernel
theorem d203_47 : decode jdk_42_method_66_code 47 = .ok (.ifCond .eq 7, 3) := by decide +kernel
theorem d203_54 : decode jdk_42_method_66_code 54 = .ok (.iconst 0, 1) := by decide +kernel
theorem d203_55 : decode jdk_42_method_66_code 55 = .ok (.ireturn, 1) := by decide +kernel
theorem ef_203 (m : MethodId) (o0 : Addr) (o1 : Addr) : entryFrame m #[(.ref o0), (.ref o1)] 3 = mkF m 0 #[.val (.ref o0), .val (.ref o1), .unset] [] := by first | (simp [entryFrame, mkF, argsToLocals, Value.category]; done) | rfl

def Q203 (Z : State) (o0 : Addr) (o1 : Addr) (G1 : Int32) (t0 t1 : Addr) (g : Nat → Int32) (h0 : Heap) (n0 : Nat) (v : Option Value) (h : Heap) (L : List Loc) : Prop := v = some (.int (0 : Int32)) ∧ Fr n0 L ∧ h = h0 ∧ L = []
set_option maxRecDepth 65536 in
set_option maxHeartbeats 40000000 in
theorem rm203 (l : Launch) (Z : State) (a0 : Array Value) (hw : ∀ d ∈ tables_1, d.before a0 Z = true) (ws : List Jvm.Cond) (o0 : Addr) (o1 : Addr) (G1 : Int32) (t0 t1 : Addr) (g : Nat → Int32) (h0 : Heap) (n0 : Nat) (Z0 : n0 ≤ h0.size) (S_COMPACT_STRINGS : Sta Z h0 "java/lang/String" "COMPACT_STRINGS" "Z" (.int G1)) (E_o1 : Exa Z h0 o1 "java/lang/String") (F_coder_o0 : Fld Z h0 o0 "java/lang/String" "coder" "B" (.int (0 : Int32))) (F_coder_o1 : Fld Z h0 o1 "java/lang/String" "coder" "B" (.int (0 : Int32))) (F_value_o0 : Fld Z h0 o0 "java/lang/String" "value" "[B" (.ref t0)) (F_value_o1 : Fld Z h0 o1 "java/lang/String" "value" "[B" (.ref t1)) (A_t0 : own_A Z h0 t0 .byte 5 (fun i => (.int (g i)))) (A_t1 : own_A Z h0 t1 .byte 8 (fun i => (.int (own_g i)))) (P5 : ¬ (G1 = (0 : Int32))) (hne : ¬ o0 = o1) :
    MetFree l (⟨"java/lang/String", "equals", "(Ljava/lang/Object;)Z"⟩ : MethodName) (head1 (Jvm.Cond.code (⟨"java/lang/String", "equals", "(Ljava/lang/Object;)Z"⟩ : MethodName) jdk_42_method_66_code 3 (some .boolean) :: ws) ({ frames := 1, cells := 0, slots := 0, locals := 14 } : Room)) (fun a U => a = #[(.ref o0), (.ref o1)] ∧ Z.Warmed39 U.vm ∧ U.heap = h0) (fun _ _ _ _ _ => True) (fun _ U o U' => ∃ v L, o = .returned v ∧ Q203 Z o0 o1 G1 t0 t1 g h0 n0 v U'.heap L ∧ FrameEnd U o U' L ({ frames := 1, cells := 0, slots := 0, locals := 14 } : Room).cells ({ frames := 1, cells := 0, slots := 0, locals := 14 } : Room).slots) := by
  refine MetFree.of_bodySF (plainFor_of_name pn_2) hisR ?_
  intro p e s m args below meth c s₁ Bd hml0 hP hK
  obtain ⟨rfl, hZ, hh⟩ := hP
  have hx := Bd.exec
  have hby := Bd.bytes
  have hml : c.maxLocals = 3 := hml0
  have hown : s.vm.findClass "java/lang/String" = some m.cls := findClass_of_methodNamed Bd.named
  have hnm := (name_of_methodNamed Bd.named Bd.method).1
  have X0 : Stand p l e ({ frames := 1, cells := 0, slots := 0, locals := 14 } : Room) s m #[(.ref o0), (.ref o1)] below meth c s₁ [] 0 0 := Stand.of_body Bd
  have e0 : s₁.heap = h0 := by rw [← hh, Bd.state]; rfl
  have N0 := Fr.nil n0
  have pre0 : ∀ t, Steps p.tables e below (s₁.setTop (mkF m 0 #[.val (.ref o0), .val (.ref o1), .unset] [])) t → Steps p.tables e below (s₁.setTop (entryFrame m #[(.ref o0), (.ref o1)] 3)) t := fun t k => castTop (ef_203 m o0 o1) k
  obtain ⟨T1, X1, e1, st1⟩ := instY X0 hx hZ hown (hw _ (List.mem_of_getElem? (i := 31) rfl)) e0 (Ins.self E_o1) (g := (mkF m 8 #[.val (.ref o0), .val (.ref o1), .unset] [(.ref o1)])) rfl rfl (hb hby d203_8)
  obtain ⟨T2, X2, e2, st2⟩ := castY X1 hx hZ hown (hw _ (List.mem_of_getElem? (i := 31) rfl)) e1 (Ins.self E_o1) (g := (mkF m 15 #[.val (.ref o0), .val (.ref o1), .unset] [(.ref o1)])) rfl rfl (hb hby d203_15)
  obtain ⟨T3, X3, e3, st3⟩ := getS2 X2 hx hZ hown (host := "") (Or.inl (hw _ (List.mem_of_getElem? (i := 33) rfl))) Via.refl e2 S_COMPACT_STRINGS (g := (mkF m 19 #[.val (.ref o0), .val (.ref o1), .val (.ref o1)] [])) rfl (hb hby d203_19)
  obtain ⟨T4, X4, e4, st4⟩ := getF X3 hx hZ hown (host := "") (Or.inl (hw _ (List.mem_of_getElem? (i := 34) rfl))) Via.refl e3 F_coder_o0 (g := (mkF m 26 #[.val (.ref o0), .val (.ref o1), .val (.ref o1)] [(.ref o0)])) rfl rfl (hb hby d203_26)
  obtain ⟨T5, X5, e5, st5⟩ := getF X4 hx hZ hown (host := "") (Or.inl (hw _ (List.mem_of_getElem? (i := 34) rfl))) Via.refl e4 F_coder_o1 (g := (mkF m 30 #[.val (.ref o0), .val (.ref o1), .val (.ref o1)] [(.ref o1), (.int (0 : Int32))])) rfl rfl (hb hby d203_30)
  obtain ⟨T6, X6, e6, st6⟩ := getF X5 hx hZ hown (host := "") (Or.inl (hw _ (List.mem_of_getElem? (i := 35) rfl))) Via.refl e5 F_value_o0 (g := (mkF m 37 #[.val (.ref o0), .val (.ref o1), .val (.ref o1)] [(.ref o0)])) rfl rfl (hb hby d203_37)
  obtain ⟨T7, X7, e7, st7⟩ := getF X6 hx hZ hown (host := "") (Or.inl (hw _ (List.mem_of_getElem? (i := 35) rfl))) Via.refl e6 F_value_o1 (g := (mkF m 41 #[.val (.ref o0), .val (.ref o1), .val (.ref o1)] [(.ref o1), (.ref t0)])) rfl rfl (hb hby d203_41)
  obtain ⟨_, _, ⟨T8, L8, k8, n8⟩, -, X8, ⟨Lc8, hQ8, l8, y8, z8⟩, st8⟩ := Jvm.LawKit.callS X7 hx (y := (⟨"java/lang/StringLatin1", "equals", "([B[B)Z"⟩ : MethodName)) hown (mvT hZ (hw _ (List.mem_of_getElem? (i := 36) rfl))) (mvT hZ (hw _ (List.mem_of_getElem? (i := 37) rfl))) (mvT hZ (hw _ (List.mem_of_getElem? (i := 38) rfl))) (mvT hZ (hw _ (List.mem_of_getElem? (i := 39) rfl))) (by decide) (backOf (W := 0) (rm204 l Z a0 hw [] t0 t1 (fun i => (g i)) h0 n0 Z0 A_t0 A_t1) hZ (hw _ (List.mem_of_getElem? (i := 39) rfl)) (hw _ (List.mem_of_getElem? (i := 38) rfl)) (by decide) (by decide)) (g := (mkF m 44 #[.val (.ref o0), .val (.ref o1), .val (.ref o1)] [(.ref t1), (.ref t0)])) rfl (by rw [hml]; rfl) (argsL := [(.ref t0), (.ref t1)]) (rest := []) (lenOf pd_0 rfl) rfl (by show 2 * 0 + _ ≤ _; exact Nat.le_of_eq rfl) (hb hby d203_44) (fun _ _ => ⟨rfl, e7, (by decide : 0 + 0 ≤ _), (by decide : 0 + 0 ≤ _)⟩)
  dsimp only [Pt.U, Pt.locs, Pt.cells, Pt.slots] at X8 l8 y8 z8 st8 hQ8
  subst l8 y8 z8
  obtain ⟨rfl, N8q, hh8, rfl⟩ := hQ8
  have N8 := Fr.app N0 N8q
  have pre9 : ∀ t, Steps p.tables e below (T8.setTop (mkF m 55 #[.val (.ref o0), .val (.ref o1), .val (.ref o1)] [(.int (0 : Int32))])) t → Steps p.tables e below (s₁.setTop (entryFrame m #[(.ref o0), (.ref o1)] 3)) t := fun t k => pre0 t (by
    show Steps p.tables e below (s₁.setTop (mkF m 0 #[.val (.ref o0), .val (.ref o1), .unset] [])) _
    refine XS.aloadN X0.here hx rfl (hb hby d203_0) rfl rfl ?_
    show Steps p.tables e below (s₁.setTop (mkF m 1 #[.val (.ref o0), .val (.ref o1), .unset] [(.ref o0)])) _
    refine XS.aloadN X0.here hx rfl (hb hby d203_1) rfl rfl ?_
    show Steps p.tables e below (s₁.setTop (mkF m 2 #[.val (.ref o0), .val (.ref o1), .unset] [(.ref o1), (.ref o0)])) _
    refine Jvm.RoadKit.acmp (g := (mkF m 2 #[.val (.ref o0), .val (.ref o1), .unset] [(.ref o1), (.ref o0)])) X0 hx rfl rfl rfl (pc0 := 2) (pc' := 7) (same := false) rfl (hb hby d203_2) rfl (decide_eq_false fun q => (show ¬ (o0 = o1) from hne) (Value.ref.inj q)) (by decide) (by decide) ?_
    show Steps p.tables e below (s₁.setTop (mkF m 7 #[.val (.ref o0), .val (.ref o1), .unset] [])) _
    refine XS.aloadN X0.here hx rfl (hb hby d203_7) rfl rfl ?_
    show Steps p.tables e below (s₁.setTop (mkF m 8 #[.val (.ref o0), .val (.ref o1), .unset] [(.ref o1)])) _
    refine st1 _ ?_
    show Steps p.tables e below (T1.setTop (mkF m 11 #[.val (.ref o0), .val (.ref o1), .unset] [(.int (1 : Int32))])) _
    refine XS.ifNo X1.here hx rfl (hb hby d203_11) rfl ((if0 _ _).trans (feq (show ¬ ((1 : Int32) = (0 : Int32)) by decide)).1) ?_
    show Steps p.tables e below (T1.setTop (mkF m 14 #[.val (.ref o0), .val (.ref o1), .unset] [])) _
    refine XS.aloadN X1.here hx rfl (hb hby d203_14) rfl rfl ?_
    show Steps p.tables e below (T1.setTop (mkF m 15 #[.val (.ref o0), .val (.ref o1), .unset] [(.ref o1)])) _
    refine st2 _ ?_
    show Steps p.tables e below (T2.setTop (mkF m 18 #[.val (.ref o0), .val (.ref o1), .unset] [(.ref o1)])) _
    refine XS.astoreN X2.here hx rfl (hb hby d203_18) rfl rfl (l' := #[.val (.ref o0), .val (.ref o1), .val (.ref o1)]) rfl ?_
    show Steps p.tables e below (T2.setTop (mkF m 19 #[.val (.ref o0), .val (.ref o1), .val (.ref o1)] [])) _
    refine st3 _ ?_
    show Steps p.tables e below (T3.setTop (mkF m 22 #[.val (.ref o0), .val (.ref o1), .val (.ref o1)] [(.int G1)])) _
    refine XS.ifNo X3.here hx rfl (hb hby d203_22) rfl ((if0 _ _).trans (feq (show ¬ (G1 = (0 : Int32)) from P5)).1) ?_
    show Steps p.tables e below (T3.setTop (mkF m 25 #[.val (.ref o0), .val (.ref o1), .val (.ref o1)] [])) _
    refine XS.aloadN X3.here hx rfl (hb hby d203_25) rfl rfl ?_
    show Steps p.tables e below (T3.setTop (mkF m 26 #[.val (.ref o0), .val (.ref o1), .val (.ref o1)] [(.ref o0)])) _
    refine st4 _ ?_
    show Steps p.tables e below (T4.setTop (mkF m 29 #[.val (.ref o0), .val (.ref o1), .val (.ref o1)] [(.int (0 : Int32))])) _
    refine XS.aloadN X4.here hx rfl (hb hby d203_29) rfl rfl ?_
    show Steps p.tables e below (T4.setTop (mkF m 30 #[.val (.ref o0), .val (.ref o1), .val (.ref o1)] [(.ref o1), (.int (0 : Int32))])) _
    refine st5 _ ?_
    show Steps p.tables e below (T5.setTop (mkF m 33 #[.val (.ref o0), .val (.ref o1), .val (.ref o1)] [(.int (0 : Int32)), (.int (0 : Int32))])) _
    refine XS.icmpNo X5.here hx rfl (hb hby d203_33) rfl (teq (show (0 : Int32) = (0 : Int32) by decide)).2 ?_
    show Steps p.tables e below (T5.setTop (mkF m 36 #[.val (.ref o0), .val (.ref o1), .val (.ref o1)] [])) _
    refine XS.aloadN X5.here hx rfl (hb hby d203_36) rfl rfl ?_
    show Steps p.tables e below (T5.setTop (mkF m 37 #[.val (.ref o0), .val (.ref o1), .val (.ref o1)] [(.ref o0)])) _
    refine st6 _ ?_
    show Steps p.tables e below (T6.setTop (mkF m 40 #[.val (.ref o0), .val (.ref o1), .val (.ref o1)] [(.ref t0)])) _
    refine XS.aloadN X6.here hx rfl (hb hby d203_40) rfl rfl ?_
    show Steps p.tables e below (T6.setTop (mkF m 41 #[.val (.ref o0), .val (.ref o1), .val (.ref o1)] [(.ref o1), (.ref t0)])) _
    refine st7 _ ?_
    show Steps p.tables e below (T7.setTop (mkF m 44 #[.val (.ref o0), .val (.ref o1), .val (.ref o1)] [(.ref t1), (.ref t0)])) _
    refine st8 _ ?_
    show Steps p.tables e below (T8.setTop (mkF m 47 #[.val (.ref o0), .val (.ref o1), .val (.ref o1)] [(.int (0 : Int32))])) _
    refine XS.ifYes X8.here hx rfl (pc0 := 47) (pc' := 54) rfl (hb hby d203_47) rfl ((if0 _ _).trans (teq (show (0 : Int32) = (0 : Int32) by decide)).1) (by decide) (by decide) ?_
    show Steps p.tables e below (T8.setTop (mkF m 54 #[.val (.ref o0), .val (.ref o1), .val (.ref o1)] [])) _
    refine XS.iconst X8.here hx rfl (hb hby d203_54) ?_
    show Steps p.tables e below (T8.setTop (mkF m 55 #[.val (.ref o0), .val (.ref o1), .val (.ref o1)] [(.int (0 : Int32))])) _
    exact k)
  obtain ⟨fs, hr, hrun, hended, hW, hsame⟩ := X8.leave (v := some (.int (0 : Int32))) (fun h => by rw [Bd.returns] at h; cases h)
  refine ⟨_, _, pre9 _ ?_, hrun, hended, _, _, rfl, ?_, ⟨_, rfl⟩, hW, hsame.mono (by decide) (by decide)⟩
  · exact retN X8 hx (t := .boolean) Bd.returns (by simp) (hb hby d203_55) hr
  · show Q203 Z o0 o1 G1 t0 t1 g h0 n0 _ T8.heap _
    rw [hh8]
    exact ⟨rfl, N8, rfl, rfl⟩
theorem pn_3 : plainName "com/example/sketchgate/sketchgate/service/PolicyTypeHasWindowPinLaw" = true := by first | (simp [plainName, overriddenIn]; done) | decide +kernel
theorem pd_1 : parseMethodDescriptor "()Z" = some ⟨[], some .boolean⟩ := by decide +kernel
theorem pd_2 : parseMethodDescriptor "()Ljava/lang/String;" = some ⟨[], some (.object "java/lang/String")⟩ := by decide +kernel
theorem pd_3 : parseMethodDescriptor "(Ljava/lang/Object;)Z" = some ⟨[(.object "java/lang/Object")], some .boolean⟩ := by decide +kernel
theorem ef_0 (m : MethodId) (p0 : Int32) : entryFrame m #[(.int p0)] maxLocals = mkF m 0 #[.val (.int p0), .unset, .unset, .unset, .unset, .unset] [] := by first | (simp [entryFrame, mkF, argsToLocals, Value.category, maxLocals]; done) | rfl

def Q0 (Z : State) (p0 : Int32) (aLRU : Addr) (aWTINYLFU : Addr) (aCACHE : Addr) (lLRU vLRU : Addr) (kLRU : ClassId) (lCACHE vCACHE : Addr) (kCACHE : ClassId) (lWTINYLFU vWTINYLFU : Addr) (kWTINYLFU : ClassId) (G1 : Int32) (h0 : Heap) (n0 : Nat) (v : Option Value) (h : Heap) (L : List Loc) : Prop := v = some (.int 1) ∧ Fr n0 L
set_option maxRecDepth 65536 in
set_option maxHeartbeats 40000000 in
theorem rm0 (l : Launch) (Z : State) (a0 : Array Value) (hw : ∀ d ∈ tables_1, d.before a0 Z = true) (ws : List Jvm.Cond) (p0 : Int32) (aLRU : Addr) (aWTINYLFU : Addr) (aCACHE : Addr) (lLRU vLRU : Addr) (kLRU : ClassId) (lCACHE vCACHE : Addr) (kCACHE : ClassId) (lWTINYLFU vWTINYLFU : Addr) (kWTINYLFU : ClassId) (G1 : Int32) (h0 : Heap) (n0 : Nat) (Z0 : n0 ≤ h0.size) (S_LRU : Sta Z h0 "com/example/sketchgate/sketchgate/service/PolicyType" "LRU" "Lcom/example/sketchgate/sketchgate/service/PolicyType;" (.ref aLRU)) (E_aLRU : Exa Z h0 aLRU "com/example/sketchgate/sketchgate/service/PolicyType") (S_WTINYLFU : Sta Z h0 "com/example/sketchgate/sketchgate/service/PolicyType" "WTINYLFU" "Lcom/example/sketchgate/sketchgate/service/PolicyType;" (.ref aWTINYLFU)) (E_aWTINYLFU : Exa Z h0 aWTINYLFU "com/example/sketchgate/sketchgate/service/PolicyType") (S_CACHE : Sta Z h0 "com/example/sketchgate/sketchgate/service/PolicyType" "CACHE" "Lcom/example/sketchgate/sketchgate/service/PolicyType;" (.ref aCACHE)) (E_aCACHE : Exa Z h0 aCACHE "com/example/sketchgate/sketchgate/service/PolicyType") (F_ordinal_aLRU : Fld Z h0 aLRU "java/lang/Enum" "ordinal" "I" (.int (0 : Int32))) (F_ordinal_aWTINYLFU : Fld Z h0 aWTINYLFU "java/lang/Enum" "ordinal" "I" (.int (1 : Int32))) (F_ordinal_aCACHE : Fld Z h0 aCACHE "java/lang/Enum" "ordinal" "I" (.int (2 : Int32))) (F_label_aLRU : Fld Z h0 aLRU "com/example/sketchgate/sketchgate/service/PolicyType" "label" "Ljava/lang/String;" (.ref lLRU)) (E_lLRU : Exa Z h0 lLRU "java/lang/String") (F_coder_lLRU : Fld Z h0 lLRU "java/lang/String" "coder" "B" (.int (0 : Int32))) (F_value_lLRU : Fld Z h0 lLRU "java/lang/String" "value" "[B" (.ref vLRU)) (P_VLRU : Arv Z h0 vLRU kLRU .byte (3 : Int32) [(.int (108 : Int32)), (.int (114 : Int32)), (.int (117 : Int32))] (.int 0)) (F_label_aCACHE : Fld Z h0 aCACHE "com/example/sketchgate/sketchgate/service/PolicyType" "label" "Ljava/lang/String;" (.ref lCACHE)) (E_lCACHE : Exa Z h0 lCACHE "java/lang/String") (F_coder_lCACHE : Fld Z h0 lCACHE "java/lang/String" "coder" "B" (.int (0 : Int32))) (F_value_lCACHE : Fld Z h0 lCACHE "java/lang/String" "value" "[B" (.ref vCACHE)) (P_VCACHE : Arv Z h0 vCACHE kCACHE .byte (5 : Int32) [(.int (99 : Int32)), (.int (97 : Int32)), (.int (99 : Int32)), (.int (104 : Int32)), (.int (101 : Int32))] (.int 0)) (F_label_aWTINYLFU : Fld Z h0 aWTINYLFU "com/example/sketchgate/sketchgate/service/PolicyType" "label" "Ljava/lang/String;" (.ref lWTINYLFU)) (E_lWTINYLFU : Exa Z h0 lWTINYLFU "java/lang/String") (F_coder_lWTINYLFU : Fld Z h0 lWTINYLFU "java/lang/String" "coder" "B" (.int (0 : Int32))) (F_value_lWTINYLFU : Fld Z h0 lWTINYLFU "java/lang/String" "value" "[B" (.ref vWTINYLFU)) (P_VWTINYLFU : Arv Z h0 vWTINYLFU kWTINYLFU .byte (8 : Int32) [(.int (119 : Int32)), (.int (116 : Int32)), (.int (105 : Int32)), (.int (110 : Int32)), (.int (121 : Int32)), (.int (108 : Int32)), (.int (102 : Int32)), (.int (117 : Int32))] (.int 0)) (S_COMPACT_STRINGS : Sta Z h0 "java/lang/String" "COMPACT_STRINGS" "Z" (.int G1)) (P5 : ¬ (G1 = (0 : Int32))) (hheld : Jvm.Lit.constHeld Z "com/example/sketchgate/sketchgate/service/PolicyTypeHasWindowPinLaw" 28) (hcw : Jvm.Lit.compactW.before a0 Z = true) :
    MetFree l x (head1 (Jvm.Cond.code x code maxLocals ret :: ws) room_1) (fun a U => a = #[(.int p0)] ∧ Z.Warmed39 U.vm ∧ U.heap = h0 ∧ U = Z) (fun _ _ _ _ _ => True) (fun _ U o U' => ∃ v L, o = .returned v ∧ Q0 Z p0 aLRU aWTINYLFU aCACHE lLRU vLRU kLRU lCACHE vCACHE kCACHE lWTINYLFU vWTINYLFU kWTINYLFU G1 h0 n0 v U'.heap L ∧ ReturnedEndW U o U' L room_1.cells room_1.slots) := by
  refine MetFree.of_bodySF (plainFor_of_name pn_3) hisR ?_
  intro p e s m args below meth c s₁ Bd hml0 hP hK
  obtain ⟨rfl, hZ, hh, hUZ⟩ := hP
  have hx := Bd.exec
  have hby := Bd.bytes
  have hml : c.maxLocals = 6 := hml0
  have hown : s.vm.findClass "com/example/sketchgate/sketchgate/service/PolicyTypeHasWindowPinLaw" = some m.cls := findClass_of_methodNamed Bd.named
  have hnm := (name_of_methodNamed Bd.named Bd.method).1
  have X0 : Stand p l e room_1 s m #[(.int p0)] below meth c s₁ [] 0 0 := Stand.of_body Bd
  have e0 : s₁.heap = h0 := by rw [← hh, Bd.state]; rfl
  have N0 := Fr.nil n0
  have pre0 : ∀ t, Steps p.tables e below (s₁.setTop (mkF m 0 #[.val (.int p0), .unset, .unset, .unset, .unset, .unset] [])) t → Steps p.tables e below (s₁.setTop (entryFrame m #[(.int p0)] maxLocals)) t := fun t k => castTop (ef_0 m p0) k
  have pre1 : ∀ t, Steps p.tables e below (s₁.setTop (mkF m 8 #[.val (.int p0), .val (.int ((p0 &&& (2147483647 : Int32)) % (3 : Int32))), .unset, .unset, .unset, .unset] [(.int ((p0 &&& (2147483647 : Int32)) % (3 : Int32)))])) t → Steps p.tables e below (s₁.setTop (entryFrame m #[(.int p0)] maxLocals)) t := fun t k => pre0 t (by
    show Steps p.tables e below (s₁.setTop (mkF m 0 #[.val (.int p0), .unset, .unset, .unset, .unset, .unset] [])) _
    refine XS.iloadN X0.here hx rfl (hb hby at_0) rfl ?_
    show Steps p.tables e below (s₁.setTop (mkF m 1 #[.val (.int p0), .unset, .unset, .unset, .unset, .unset] [(.int p0)])) _
    refine X0.ldcInt hx hown (mvT hZ (hw _ (List.mem_of_getElem? (i := 0) rfl))) (g := (mkF m 1 #[.val (.int p0), .unset, .unset, .unset, .unset, .unset] [(.int p0)])) rfl (hb hby at_1) _ ?_
    show Steps p.tables e below (s₁.setTop (mkF m 3 #[.val (.int p0), .unset, .unset, .unset, .unset, .unset] [(.int (2147483647 : Int32)), (.int p0)])) _
    refine XS.iand X0.here hx rfl (hb hby at_3) rfl ?_
    show Steps p.tables e below (s₁.setTop (mkF m 4 #[.val (.int p0), .unset, .unset, .unset, .unset, .unset] [(.int (p0 &&& (2147483647 : Int32)))])) _
    refine XS.iconst X0.here hx rfl (hb hby at_4) ?_
    show Steps p.tables e below (s₁.setTop (mkF m 5 #[.val (.int p0), .unset, .unset, .unset, .unset, .unset] [(.int (3 : Int32)), (.int (p0 &&& (2147483647 : Int32)))])) _
    refine iremM (g := (mkF m 5 #[.val (.int p0), .unset, .unset, .unset, .unset, .unset] [(.int (3 : Int32)), (.int (p0 &&& (2147483647 : Int32)))])) X0 hx rfl (hb hby at_5) rfl (by decide) ?_
    show Steps p.tables e below (s₁.setTop (mkF m 6 #[.val (.int p0), .unset, .unset, .unset, .unset, .unset] [(.int ((p0 &&& (2147483647 : Int32)) % (3 : Int32)))])) _
    refine XS.istoreN X0.here hx rfl (hb hby at_6) rfl (l' := #[.val (.int p0), .val (.int ((p0 &&& (2147483647 : Int32)) % (3 : Int32))), .unset, .unset, .unset, .unset]) rfl ?_
    show Steps p.tables e below (s₁.setTop (mkF m 7 #[.val (.int p0), .val (.int ((p0 &&& (2147483647 : Int32)) % (3 : Int32))), .unset, .unset, .unset, .unset] [])) _
    refine XS.iloadN X0.here hx rfl (hb hby at_7) rfl ?_
    show Steps p.tables e below (s₁.setTop (mkF m 8 #[.val (.int p0), .val (.int ((p0 &&& (2147483647 : Int32)) % (3 : Int32))), .unset, .unset, .unset, .unset] [(.int ((p0 &&& (2147483647 : Int32)) % (3 : Int32)))])) _
    exact k)
  by_cases hs2 : ((p0 &&& (2147483647 : Int32)) % (3 : Int32)) = (0 : Int32)
  · obtain ⟨T3, X3, e3, st3⟩ := getS2 X0 hx hZ hown (host := "") (Or.inl (hw _ (List.mem_of_getElem? (i := 1) rfl))) Via.refl e0 S_LRU (g := (mkF m 11 #[.val (.int p0), .val (.int ((p0 &&& (2147483647 : Int32)) % (3 : Int32))), .unset, .unset, .unset, .unset] [])) rfl (hb hby at_11)
    have pre4 : ∀ t, Steps p.tables e below (T3.setTop (mkF m 34 #[.val (.int p0), .val (.int ((p0 &&& (2147483647 : Int32)) % (3 : Int32))), .val (.ref aLRU), .unset, .unset, .unset] [(.int (1 : Int32)), (.int ((p0 &&& (2147483647 : Int32)) % (3 : Int32)))])) t → Steps p.tables e below (s₁.setTop (entryFrame m #[(.int p0)] maxLocals)) t := fun t k => pre1 t (by
      refine XS.ifNo X0.here hx rfl (hb hby at_8) rfl ((if0 _ _).trans (teq hs2).2) ?_
      show Steps p.tables e below (s₁.setTop (mkF m 11 #[.val (.int p0), .val (.int ((p0 &&& (2147483647 : Int32)) % (3 : Int32))), .unset, .unset, .unset, .unset] [])) _
      refine st3 _ ?_
      show Steps p.tables e below (T3.setTop (mkF m 14 #[.val (.int p0), .val (.int ((p0 &&& (2147483647 : Int32)) % (3 : Int32))), .unset, .unset, .unset, .unset] [(.ref aLRU)])) _
      refine XS.goto X3.here hx rfl (pc0 := 14) (pc' := 31) rfl (hb hby at_14) (by decide) (by decide) ?_
      show Steps p.tables e below (T3.setTop (mkF m 31 #[.val (.int p0), .val (.int ((p0 &&& (2147483647 : Int32)) % (3 : Int32))), .unset, .unset, .unset, .unset] [(.ref aLRU)])) _
      refine XS.astoreN X3.here hx rfl (hb hby at_31) rfl rfl (l' := #[.val (.int p0), .val (.int ((p0 &&& (2147483647 : Int32)) % (3 : Int32))), .val (.ref aLRU), .unset, .unset, .unset]) rfl ?_
      show Steps p.tables e below (T3.setTop (mkF m 32 #[.val (.int p0), .val (.int ((p0 &&& (2147483647 : Int32)) % (3 : Int32))), .val (.ref aLRU), .unset, .unset, .unset] [])) _
      refine XS.iloadN X3.here hx rfl (hb hby at_32) rfl ?_
      show Steps p.tables e below (T3.setTop (mkF m 33 #[.val (.int p0), .val (.int ((p0 &&& (2147483647 : Int32)) % (3 : Int32))), .val (.ref aLRU), .unset, .unset, .unset] [(.int ((p0 &&& (2147483647 : Int32)) % (3 : Int32)))])) _
      refine XS.iconst X3.here hx rfl (hb hby at_33) ?_
      show Steps p.tables e below (T3.setTop (mkF m 34 #[.val (.int p0), .val (.int ((p0 &&& (2147483647 : Int32)) % (3 : Int32))), .val (.ref aLRU), .unset, .unset, .unset] [(.int (1 : Int32)), (.int ((p0 &&& (2147483647 : Int32)) % (3 : Int32)))])) _
      exact k)
    by_cases hs5 : ((p0 &&& (2147483647 : Int32)) % (3 : Int32)) = (1 : Int32)
    · exact absurd (hs2.symm.trans hs5) (by decide)
    · have ne_W : ¬ aLRU = aWTINYLFU := Fld.ne F_ordinal_aLRU F_ordinal_aWTINYLFU (fun q => absurd (Value.int.inj q) (by decide))
      obtain ⟨cq6, kq6, q6a, q6b, q6c⟩ := isOf hZ e3 (E_aLRU)
      obtain ⟨_, _, ⟨T6, L6, k6, n6⟩, -, X6, ⟨Lc6, hQ6, l6, y6, z6⟩, st6⟩ := X3.virtualBack hx (y := (⟨"com/example/sketchgate/sketchgate/service/PolicyType", "hasWindow", "()Z"⟩ : MethodName)) (z := (⟨"com/example/sketchgate/sketchgate/service/PolicyType", "hasWindow", "()Z"⟩ : MethodName)) hown (mvT hZ (hw _ (List.mem_of_getElem? (i := 4) rfl))) (mvT hZ (hw _ (List.mem_of_getElem? (i := 5) rfl))) (notFace_of_selects (args := #[]) (mvT hZ (hw _ (List.mem_of_getElem? (i := 7) rfl)))) (mvT hZ (hw _ (List.mem_of_getElem? (i := 7) rfl))) (mvT hZ (hw _ (List.mem_of_getElem? (i := 6) rfl))) (by decide) (backOf (W := 0) (rm1 l Z a0 hw [] aLRU aWTINYLFU h0 n0 Z0 S_WTINYLFU) hZ (hw _ (List.mem_of_getElem? (i := 8) rfl)) (hw _ (List.mem_of_getElem? (i := 2) rfl)) (by decide) (by decide)) q6a q6c (g := (mkF m 44 #[.val (.int p0), .val (.int ((p0 &&& (2147483647 : Int32)) % (3 : Int32))), .val (.ref aLRU), .val (.int (0 : Int32)), .unset, .unset] [(.ref aLRU)])) rfl (by rw [hml]; rfl) (Steps.refl _) (argsL := []) (rest := []) (lenOf pd_1 rfl) rfl (by show 2 * 0 + _ ≤ _; exact Nat.le_of_eq rfl) (hb hby at_44) (fun _ _ => ⟨rfl, e3, (by decide : 0 + 0 ≤ _), (by decide : 0 + 0 ≤ _)⟩)
      dsimp only [Pt.U, Pt.locs, Pt.cells, Pt.slots] at X6 l6 y6 z6 st6 hQ6
      subst l6 y6 z6
      obtain ⟨rfl, N6q, hh6, rfl⟩ := hQ6
      have N6 := Fr.app N0 N6q
      obtain ⟨cq7, kq7, q7a, q7b, q7c⟩ := isOf hZ hh6 (E_aLRU)
      obtain ⟨_, _, ⟨T7, L7, k7, n7⟩, -, X7, ⟨Lc7, hQ7, l7, y7, z7⟩, st7⟩ := X6.virtualBack hx (y := (⟨"com/example/sketchgate/sketchgate/service/PolicyType", "label", "()Ljava/lang/String;"⟩ : MethodName)) (z := (⟨"com/example/sketchgate/sketchgate/service/PolicyType", "label", "()Ljava/lang/String;"⟩ : MethodName)) hown (mvT hZ (hw _ (List.mem_of_getElem? (i := 11) rfl))) (mvT hZ (hw _ (List.mem_of_getElem? (i := 12) rfl))) (notFace_of_selects (args := #[]) (mvT hZ (hw _ (List.mem_of_getElem? (i := 14) rfl)))) (mvT hZ (hw _ (List.mem_of_getElem? (i := 14) rfl))) (mvT hZ (hw _ (List.mem_of_getElem? (i := 13) rfl))) (by decide) (backOf (W := 0) (rm2 l Z a0 hw [] aLRU lLRU h0 n0 Z0 F_label_aLRU) hZ (hw _ (List.mem_of_getElem? (i := 15) rfl)) (hw _ (List.mem_of_getElem? (i := 2) rfl)) (by decide) (by decide)) q7a q7c (g := (mkF m 50 #[.val (.int p0), .val (.int ((p0 &&& (2147483647 : Int32)) % (3 : Int32))), .val (.ref aLRU), .val (.int (0 : Int32)), .val (.int ((f1_12 aWTINYLFU aLRU) &&& 1)), .unset] [(.ref aLRU)])) rfl (by rw [hml]; rfl) (Steps.refl _) (argsL := []) (rest := []) (lenOf pd_2 rfl) rfl (by show 2 * 0 + _ ≤ _; exact Nat.le_of_eq rfl) (hb hby at_50) (fun _ _ => ⟨rfl, hh6, (by decide : 0 + 0 ≤ _), (by decide : 0 + 0 ≤ _)⟩)
      dsimp only [Pt.U, Pt.locs, Pt.cells, Pt.slots] at X7 l7 y7 z7 st7 hQ7
      subst l7 y7 z7
      obtain ⟨rfl, N7q, hh7, rfl⟩ := hQ7
      have N7 := Fr.app N6 N7q
      have wS8 : ∀ a ∈ Bundle.stringAtoms, a.before a0 Z = true := fun d hd => hw d ((by decide +kernel : ∀ d ∈ Bundle.stringAtoms, d ∈ tables_1) d hd)
      obtain ⟨b8, T8, h8, kk8, d8, kc8, X8, e8, Ex8, hS8, hk8, hZ, hown, Es8, Fc8, Fv8, Va8, lta8, ltb8, IB8, st8⟩ := ldcSV (s := s) (vm0 := s.vm) X7 hx hZ hown (hw _ (List.mem_of_getElem? (i := 18) rfl)) wS8 hh7 ((State.WarmedH.refl s).since 0) (Nat.zero_le _) (Fr.nil _) (fun b cl q => by rw [hUZ]; exact q) (by rw [hUZ]; exact IB.start) (Ts := []) (by simp) hheld hcw (vs := [(.int (119 : Int32)), (.int (116 : Int32)), (.int (105 : Int32)), (.int (110 : Int32)), (.int (121 : Int32)), (.int (108 : Int32)), (.int (102 : Int32)), (.int (117 : Int32))]) (z := (8 : Int32)) ⟨by decide, by decide⟩ (by decide) rfl (g := (mkF m 53 #[.val (.int p0), .val (.int ((p0 &&& (2147483647 : Int32)) % (3 : Int32))), .val (.ref aLRU), .val (.int (0 : Int32)), .val (.int ((f1_12 aWTINYLFU aLRU) &&& 1)), .unset] [(.ref lLRU)])) rfl (hb hby at_53) (n := 32) (by decide) (by decide) (by decide) (by decide)
      have S_LRU_9 : Sta Z h8 "com/example/sketchgate/sketchgate/service/PolicyType" "LRU" "Lcom/example/sketchgate/sketchgate/service/PolicyType;" (.ref aLRU) := (S_LRU).ext Ex8
      have E_aLRU_9 : Exa Z h8 aLRU "com/example/sketchgate/sketchgate/service/PolicyType" := (E_aLRU).ext Ex8
      have S_WTINYLFU_9 : Sta Z h8 "com/example/sketchgate/sketchgate/service/PolicyType" "WTINYLFU" "Lcom/example/sketchgate/sketchgate/service/PolicyType;" (.ref aWTINYLFU) := (S_WTINYLFU).ext Ex8
      have E_aWTINYLFU_9 : Exa Z h8 aWTINYLFU "com/example/sketchgate/sketchgate/service/PolicyType" := (E_aWTINYLFU).ext Ex8
      have S_CACHE_9 : Sta Z h8 "com/example/sketchgate/sketchgate/service/PolicyType" "CACHE" "Lcom/example/sketchgate/sketchgate/service/PolicyType;" (.ref aCACHE) := (S_CACHE).ext Ex8
      have E_aCACHE_9 : Exa Z h8 aCACHE "com/example/sketchgate/sketchgate/service/PolicyType" := (E_aCACHE).ext Ex8
      have F_ordinal_aLRU_9 : Fld Z h8 aLRU "java/lang/Enum" "ordinal" "I" (.int (0 : Int32)) := (F_ordinal_aLRU).ext Ex8
      have F_ordinal_aWTINYLFU_9 : Fld Z h8 aWTINYLFU "java/lang/Enum" "ordinal" "I" (.int (1 : Int32)) := (F_ordinal_aWTINYLFU).ext Ex8
      have F_ordinal_aCACHE_9 : Fld Z h8 aCACHE "java/lang/Enum" "ordinal" "I" (.int (2 : Int32)) := (F_ordinal_aCACHE).ext Ex8
      have F_label_aLRU_9 : Fld Z h8 aLRU "com/example/sketchgate/sketchgate/service/PolicyType" "label" "Ljava/lang/String;" (.ref lLRU) := (F_label_aLRU).ext Ex8
      have E_lLRU_9 : Exa Z h8 lLRU "java/lang/String" := (E_lLRU).ext Ex8
      have F_coder_lLRU_9 : Fld Z h8 lLRU "java/lang/String" "coder" "B" (.int (0 : Int32)) := (F_coder_lLRU).ext Ex8
      have F_value_lLRU_9 : Fld Z h8 lLRU "java/lang/String" "value" "[B" (.ref vLRU) := (F_value_lLRU).ext Ex8
      have P_VLRU_9 : Arv Z h8 vLRU kLRU .byte (3 : Int32) [(.int (108 : Int32)), (.int (114 : Int32)), (.int (117 : Int32))] (.int 0) := (P_VLRU).ext Ex8
      have F_label_aCACHE_9 : Fld Z h8 aCACHE "com/example/sketchgate/sketchgate/service/PolicyType" "label" "Ljava/lang/String;" (.ref lCACHE) := (F_label_aCACHE).ext Ex8
      have E_lCACHE_9 : Exa Z h8 lCACHE "java/lang/String" := (E_lCACHE).ext Ex8
      have F_coder_lCACHE_9 : Fld Z h8 lCACHE "java/lang/String" "coder" "B" (.int (0 : Int32)) := (F_coder_lCACHE).ext Ex8
      have F_value_lCACHE_9 : Fld Z h8 lCACHE "java/lang/String" "value" "[B" (.ref vCACHE) := (F_value_lCACHE).ext Ex8
      have P_VCACHE_9 : Arv Z h8 vCACHE kCACHE .byte (5 : Int32) [(.int (99 : Int32)), (.int (97 : Int32)), (.int (99 : Int32)), (.int (104 : Int32)), (.int (101 : Int32))] (.int 0) := (P_VCACHE).ext Ex8
      have F_label_aWTINYLFU_9 : Fld Z h8 aWTINYLFU "com/example/sketchgate/sketchgate/service/PolicyType" "label" "Ljava/lang/String;" (.ref lWTINYLFU) := (F_label_aWTINYLFU).ext Ex8
      have E_lWTINYLFU_9 : Exa Z h8 lWTINYLFU "java/lang/String" := (E_lWTINYLFU).ext Ex8
      have F_coder_lWTINYLFU_9 : Fld Z h8 lWTINYLFU "java/lang/String" "coder" "B" (.int (0 : Int32)) := (F_coder_lWTINYLFU).ext Ex8
      have F_value_lWTINYLFU_9 : Fld Z h8 lWTINYLFU "java/lang/String" "value" "[B" (.ref vWTINYLFU) := (F_value_lWTINYLFU).ext Ex8
      have P_VWTINYLFU_9 : Arv Z h8 vWTINYLFU kWTINYLFU .byte (8 : Int32) [(.int (119 : Int32)), (.int (116 : Int32)), (.int (105 : Int32)), (.int (110 : Int32)), (.int (121 : Int32)), (.int (108 : Int32)), (.int (102 : Int32)), (.int (117 : Int32))] (.int 0) := (P_VWTINYLFU).ext Ex8
      have S_COMPACT_STRINGS_9 : Sta Z h8 "java/lang/String" "COMPACT_STRINGS" "Z" (.int G1) := (S_COMPACT_STRINGS).ext Ex8
      have SZ10 : h0.size ≤ h8.size := Nat.le_trans (Nat.le_refl _) Ex8.1
      have ZZ10 : n0 ≤ h8.size := Nat.le_trans Z0 SZ10
      have Ad11 : own_A Z h8 d8 .byte 8 (fun i => (.int (own_g i))) := own_of_arv Va8 rfl (fun i hi => by rcases (show i = 0 ∨ i = 1 ∨ i = 2 ∨ i = 3 ∨ i = 4 ∨ i = 5 ∨ i = 6 ∨ i = 7 by omega) with rfl | rfl | rfl | rfl | rfl | rfl | rfl | rfl <;> rfl)
      have Al11 : own_A Z h8 vLRU .byte 3 (fun i => (.int ([(108 : Int32), (114 : Int32), (117 : Int32)].getD i 0))) := own_of_arv P_VLRU_9 rfl (fun i hi => by rcases (show i = 0 ∨ i = 1 ∨ i = 2 by omega) with rfl | rfl | rfl <;> rfl)
      have hne11 : ¬ lLRU = b8 := fun q => own_lens (q ▸ F_value_lLRU_9) Fv8 Al11 Ad11 (by decide)
      obtain ⟨cq12, kq12, q12a, q12b, q12c⟩ := isOf hZ e8 (E_lLRU_9)
      obtain ⟨_, _, ⟨T12, L12, k12, n12⟩, -, X12, ⟨Lc12, hQ12, l12, y12, z12⟩, st12⟩ := X8.virtualBack hx (y := (⟨"java/lang/String", "equals", "(Ljava/lang/Object;)Z"⟩ : MethodName)) (z := (⟨"java/lang/String", "equals", "(Ljava/lang/Object;)Z"⟩ : MethodName)) hown (mvT hZ (hw _ (List.mem_of_getElem? (i := 26) rfl))) (mvT hZ (hw _ (List.mem_of_getElem? (i := 27) rfl))) (notFace_of_selects (args := #[]) (mvT hZ (hw _ (List.mem_of_getElem? (i := 29) rfl)))) (mvT hZ (hw _ (List.mem_of_getElem? (i := 29) rfl))) (mvT hZ (hw _ (List.mem_of_getElem? (i := 28) rfl))) (by decide) (backOf (W := 0) (rm103 l Z a0 hw [] lLRU b8 G1 vLRU d8 (fun i => ([(108 : Int32), (114 : Int32), (117 : Int32)].getD i 0)) h8 n0 ZZ10 S_COMPACT_STRINGS_9 Es8 F_coder_lLRU_9 Fc8 F_value_lLRU_9 Fv8 Al11 Ad11 P5 hne11) hZ (hw _ (List.mem_of_getElem? (i := 30) rfl)) (hw _ (List.mem_of_getElem? (i := 19) rfl)) (by decide) (by decide)) q12a q12c (g := (mkF m 55 #[.val (.int p0), .val (.int ((p0 &&& (2147483647 : Int32)) % (3 : Int32))), .val (.ref aLRU), .val (.int (0 : Int32)), .val (.int ((f1_12 aWTINYLFU aLRU) &&& 1)), .unset] [(.ref b8), (.ref lLRU)])) rfl (by rw [hml]; rfl) (Steps.refl _) (argsL := [(.ref b8)]) (rest := []) (lenOf pd_3 rfl) rfl (by show 2 * 0 + _ ≤ _; exact Nat.le_of_eq rfl) (hb hby at_55) (fun _ _ => ⟨rfl, e8, (by decide : 2 + 0 ≤ _), (by decide : 36 + 0 ≤ _)⟩)
      dsimp only [Pt.U, Pt.locs, Pt.cells, Pt.slots] at X12 l12 y12 z12 st12 hQ12
      subst l12 y12 z12
      obtain ⟨rfl, N12q, hh12, rfl⟩ := hQ12
      have N12 := Fr.app N7 N12q
      have pre13 : ∀ t, Steps p.tables e below (T12.setTop (mkF m 78 #[.val (.int p0), .val (.int ((p0 &&& (2147483647 : Int32)) % (3 : Int32))), .val (.ref aLRU), .val (.int (0 : Int32)), .val (.int ((f1_12 aWTINYLFU aLRU) &&& 1)), .val (.int (0 : Int32))] [(.int (1 : Int32))])) t → Steps p.tables e below (s₁.setTop (entryFrame m #[(.int p0)] maxLocals)) t := fun t k => pre4 t (by
        refine XS.icmpYes X3.here hx rfl (pc0 := 34) (pc' := 41) rfl (hb hby at_34) rfl (feq hs5).2 (by decide) (by decide) ?_
        show Steps p.tables e below (T3.setTop (mkF m 41 #[.val (.int p0), .val (.int ((p0 &&& (2147483647 : Int32)) % (3 : Int32))), .val (.ref aLRU), .unset, .unset, .unset] [])) _
        refine XS.iconst X3.here hx rfl (hb hby at_41) ?_
        show Steps p.tables e below (T3.setTop (mkF m 42 #[.val (.int p0), .val (.int ((p0 &&& (2147483647 : Int32)) % (3 : Int32))), .val (.ref aLRU), .unset, .unset, .unset] [(.int (0 : Int32))])) _
        refine XS.istoreN X3.here hx rfl (hb hby at_42) rfl (l' := #[.val (.int p0), .val (.int ((p0 &&& (2147483647 : Int32)) % (3 : Int32))), .val (.ref aLRU), .val (.int (0 : Int32)), .unset, .unset]) rfl ?_
        show Steps p.tables e below (T3.setTop (mkF m 43 #[.val (.int p0), .val (.int ((p0 &&& (2147483647 : Int32)) % (3 : Int32))), .val (.ref aLRU), .val (.int (0 : Int32)), .unset, .unset] [])) _
        refine XS.aloadN X3.here hx rfl (hb hby at_43) rfl rfl ?_
        show Steps p.tables e below (T3.setTop (mkF m 44 #[.val (.int p0), .val (.int ((p0 &&& (2147483647 : Int32)) % (3 : Int32))), .val (.ref aLRU), .val (.int (0 : Int32)), .unset, .unset] [(.ref aLRU)])) _
        refine st6.trans ?_
        show Steps p.tables e below (T6.setTop (mkF m 47 #[.val (.int p0), .val (.int ((p0 &&& (2147483647 : Int32)) % (3 : Int32))), .val (.ref aLRU), .val (.int (0 : Int32)), .unset, .unset] [(.int ((f1_12 aWTINYLFU aLRU) &&& 1))])) _
        refine XS.istore X6.here hx rfl (hb hby at_47) rfl (l' := #[.val (.int p0), .val (.int ((p0 &&& (2147483647 : Int32)) % (3 : Int32))), .val (.ref aLRU), .val (.int (0 : Int32)), .val (.int ((f1_12 aWTINYLFU aLRU) &&& 1)), .unset]) rfl ?_
        show Steps p.tables e below (T6.setTop (mkF m 49 #[.val (.int p0), .val (.int ((p0 &&& (2147483647 : Int32)) % (3 : Int32))), .val (.ref aLRU), .val (.int (0 : Int32)), .val (.int ((f1_12 aWTINYLFU aLRU) &&& 1)), .unset] [])) _
        refine XS.aloadN X6.here hx rfl (hb hby at_49) rfl rfl ?_
        show Steps p.tables e below (T6.setTop (mkF m 50 #[.val (.int p0), .val (.int ((p0 &&& (2147483647 : Int32)) % (3 : Int32))), .val (.ref aLRU), .val (.int (0 : Int32)), .val (.int ((f1_12 aWTINYLFU aLRU) &&& 1)), .unset] [(.ref aLRU)])) _
        refine st7.trans ?_
        show Steps p.tables e below (T7.setTop (mkF m 53 #[.val (.int p0), .val (.int ((p0 &&& (2147483647 : Int32)) % (3 : Int32))), .val (.ref aLRU), .val (.int (0 : Int32)), .val (.int ((f1_12 aWTINYLFU aLRU) &&& 1)), .unset] [(.ref lLRU)])) _
        refine st8 _ ?_
        show Steps p.tables e below (T8.setTop (mkF m 55 #[.val (.int p0), .val (.int ((p0 &&& (2147483647 : Int32)) % (3 : Int32))), .val (.ref aLRU), .val (.int (0 : Int32)), .val (.int ((f1_12 aWTINYLFU aLRU) &&& 1)), .unset] [(.ref b8), (.ref lLRU)])) _
        refine st12.trans ?_
        show Steps p.tables e below (T12.setTop (mkF m 58 #[.val (.int p0), .val (.int ((p0 &&& (2147483647 : Int32)) % (3 : Int32))), .val (.ref aLRU), .val (.int (0 : Int32)), .val (.int ((f1_12 aWTINYLFU aLRU) &&& 1)), .unset] [(.int (0 : Int32))])) _
        refine XS.istore X12.here hx rfl (hb hby at_58) rfl (l' := #[.val (.int p0), .val (.int ((p0 &&& (2147483647 : Int32)) % (3 : Int32))), .val (.ref aLRU), .val (.int (0 : Int32)), .val (.int ((f1_12 aWTINYLFU aLRU) &&& 1)), .val (.int (0 : Int32))]) rfl ?_
        show Steps p.tables e below (T12.setTop (mkF m 60 #[.val (.int p0), .val (.int ((p0 &&& (2147483647 : Int32)) % (3 : Int32))), .val (.ref aLRU), .val (.int (0 : Int32)), .val (.int ((f1_12 aWTINYLFU aLRU) &&& 1)), .val (.int (0 : Int32))] [])) _
        refine XS.iload X12.here hx rfl (hb hby at_60) rfl ?_
        show Steps p.tables e below (T12.setTop (mkF m 62 #[.val (.int p0), .val (.int ((p0 &&& (2147483647 : Int32)) % (3 : Int32))), .val (.ref aLRU), .val (.int (0 : Int32)), .val (.int ((f1_12 aWTINYLFU aLRU) &&& 1)), .val (.int (0 : Int32))] [(.int ((f1_12 aWTINYLFU aLRU) &&& 1))])) _
        refine XS.iloadN X12.here hx rfl (hb hby at_62) rfl ?_
        show Steps p.tables e below (T12.setTop (mkF m 63 #[.val (.int p0), .val (.int ((p0 &&& (2147483647 : Int32)) % (3 : Int32))), .val (.ref aLRU), .val (.int (0 : Int32)), .val (.int ((f1_12 aWTINYLFU aLRU) &&& 1)), .val (.int (0 : Int32))] [(.int (0 : Int32)), (.int ((f1_12 aWTINYLFU aLRU) &&& 1))])) _
        refine XS.icmpNo X12.here hx rfl (hb hby at_63) rfl (teq (show ((f1_12 aWTINYLFU aLRU) &&& 1) = (0 : Int32) from by rw [f1_12, if_neg ne_W]; rfl)).2 ?_
        show Steps p.tables e below (T12.setTop (mkF m 66 #[.val (.int p0), .val (.int ((p0 &&& (2147483647 : Int32)) % (3 : Int32))), .val (.ref aLRU), .val (.int (0 : Int32)), .val (.int ((f1_12 aWTINYLFU aLRU) &&& 1)), .val (.int (0 : Int32))] [])) _
        refine XS.iload X12.here hx rfl (hb hby at_66) rfl ?_
        show Steps p.tables e below (T12.setTop (mkF m 68 #[.val (.int p0), .val (.int ((p0 &&& (2147483647 : Int32)) % (3 : Int32))), .val (.ref aLRU), .val (.int (0 : Int32)), .val (.int ((f1_12 aWTINYLFU aLRU) &&& 1)), .val (.int (0 : Int32))] [(.int ((f1_12 aWTINYLFU aLRU) &&& 1))])) _
        refine XS.iload X12.here hx rfl (hb hby at_68) rfl ?_
        show Steps p.tables e below (T12.setTop (mkF m 70 #[.val (.int p0), .val (.int ((p0 &&& (2147483647 : Int32)) % (3 : Int32))), .val (.ref aLRU), .val (.int (0 : Int32)), .val (.int ((f1_12 aWTINYLFU aLRU) &&& 1)), .val (.int (0 : Int32))] [(.int (0 : Int32)), (.int ((f1_12 aWTINYLFU aLRU) &&& 1))])) _
        refine XS.icmpNo X12.here hx rfl (hb hby at_70) rfl (teq (show ((f1_12 aWTINYLFU aLRU) &&& 1) = (0 : Int32) from by rw [f1_12, if_neg ne_W]; rfl)).2 ?_
        show Steps p.tables e below (T12.setTop (mkF m 73 #[.val (.int p0), .val (.int ((p0 &&& (2147483647 : Int32)) % (3 : Int32))), .val (.ref aLRU), .val (.int (0 : Int32)), .val (.int ((f1_12 aWTINYLFU aLRU) &&& 1)), .val (.int (0 : Int32))] [])) _
        refine XS.iconst X12.here hx rfl (hb hby at_73) ?_
        show Steps p.tables e below (T12.setTop (mkF m 74 #[.val (.int p0), .val (.int ((p0 &&& (2147483647 : Int32)) % (3 : Int32))), .val (.ref aLRU), .val (.int (0 : Int32)), .val (.int ((f1_12 aWTINYLFU aLRU) &&& 1)), .val (.int (0 : Int32))] [(.int (1 : Int32))])) _
        refine XS.goto X12.here hx rfl (pc0 := 74) (pc' := 78) rfl (hb hby at_74) (by decide) (by decide) ?_
        show Steps p.tables e below (T12.setTop (mkF m 78 #[.val (.int p0), .val (.int ((p0 &&& (2147483647 : Int32)) % (3 : Int32))), .val (.ref aLRU), .val (.int (0 : Int32)), .val (.int ((f1_12 aWTINYLFU aLRU) &&& 1)), .val (.int (0 : Int32))] [(.int (1 : Int32))])) _
        exact k)
      obtain ⟨fs, hr, hrun, hended, hRW⟩ := X12.leaveW hS8 (by rw [hh12]; exact hk8) (v := some (.int (1 : Int32))) (fun h => by rw [Bd.returns] at h; cases h)
      refine ⟨_, _, pre13 _ ?_, hrun, hended, _, _, rfl, ?_, hRW.1, hRW.2.1, hRW.2.2.1, hRW.2.2.2.mono (by decide) (by decide)⟩
      · exact retN X12 hx (t := .boolean) Bd.returns (by simp) (hb hby at_78) hr
      · show Q0 Z p0 aLRU aWTINYLFU aCACHE lLRU vLRU kLRU lCACHE vCACHE kCACHE lWTINYLFU vWTINYLFU kWTINYLFU G1 h0 n0 _ T12.heap _
        rw [hh12]
        exact ⟨rfl, N12⟩
  · have pre14 : ∀ t, Steps p.tables e below (s₁.setTop (mkF m 19 #[.val (.int p0), .val (.int ((p0 &&& (2147483647 : Int32)) % (3 : Int32))), .unset, .unset, .unset, .unset] [(.int (1 : Int32)), (.int ((p0 &&& (2147483647 : Int32)) % (3 : Int32)))])) t → Steps p.tables e below (s₁.setTop (entryFrame m #[(.int p0)] maxLocals)) t := fun t k => pre1 t (by
      refine XS.ifYes X0.here hx rfl (pc0 := 8) (pc' := 17) rfl (hb hby at_8) rfl ((if0 _ _).trans (feq hs2).2) (by decide) (by decide) ?_
      show Steps p.tables e below (s₁.setTop (mkF m 17 #[.val (.int p0), .val (.int ((p0 &&& (2147483647 : Int32)) % (3 : Int32))), .unset, .unset, .unset, .unset] [])) _
      refine XS.iloadN X0.here hx rfl (hb hby at_17) rfl ?_
      show Steps p.tables e below (s₁.setTop (mkF m 18 #[.val (.int p0), .val (.int ((p0 &&& (2147483647 : Int32)) % (3 : Int32))), .unset, .unset, .unset, .unset] [(.int ((p0 &&& (2147483647 : Int32)) % (3 : Int32)))])) _
      refine XS.iconst X0.here hx rfl (hb hby at_18) ?_
      show Steps p.tables e below (s₁.setTop (mkF m 19 #[.val (.int p0), .val (.int ((p0 &&& (2147483647 : Int32)) % (3 : Int32))), .unset, .unset, .unset, .unset] [(.int (1 : Int32)), (.int ((p0 &&& (2147483647 : Int32)) % (3 : Int32)))])) _
      exact k)
    by_cases hs15 : ((p0 &&& (2147483647 : Int32)) % (3 : Int32)) = (1 : Int32)
    · obtain ⟨T16, X16, e16, st16⟩ := getS2 X0 hx hZ hown (host := "") (Or.inl (hw _ (List.mem_of_getElem? (i := 42) rfl))) Via.refl e0 S_WTINYLFU (g := (mkF m 22 #[.val (.int p0), .val (.int ((p0 &&& (2147483647 : Int32)) % (3 : Int32))), .unset, .unset, .unset, .unset] [])) rfl (hb hby at_22)
      obtain ⟨cq17, kq17, q17a, q17b, q17c⟩ := isOf hZ e16 (E_aWTINYLFU)
      obtain ⟨_, _, ⟨T17, L17, k17, n17⟩, -, X17, ⟨Lc17, hQ17, l17, y17, z17⟩, st17⟩ := X16.virtualBack hx (y := (⟨"com/example/sketchgate/sketchgate/service/PolicyType", "hasWindow", "()Z"⟩ : MethodName)) (z := (⟨"com/example/sketchgate/sketchgate/service/PolicyType", "hasWindow", "()Z"⟩ : MethodName)) hown (mvT hZ (hw _ (List.mem_of_getElem? (i := 4) rfl))) (mvT hZ (hw _ (List.mem_of_getElem? (i := 5) rfl))) (notFace_of_selects (args := #[]) (mvT hZ (hw _ (List.mem_of_getElem? (i := 7) rfl)))) (mvT hZ (hw _ (List.mem_of_getElem? (i := 7) rfl))) (mvT hZ (hw _ (List.mem_of_getElem? (i := 6) rfl))) (by decide) (backOf (W := 0) (rm1 l Z a0 hw [] aWTINYLFU aWTINYLFU h0 n0 Z0 S_WTINYLFU) hZ (hw _ (List.mem_of_getElem? (i := 8) rfl)) (hw _ (List.mem_of_getElem? (i := 2) rfl)) (by decide) (by decide)) q17a q17c (g := (mkF m 44 #[.val (.int p0), .val (.int ((p0 &&& (2147483647 : Int32)) % (3 : Int32))), .val (.ref aWTINYLFU), .val (.int (1 : Int32)), .unset, .unset] [(.ref aWTINYLFU)])) rfl (by rw [hml]; rfl) (Steps.refl _) (argsL := []) (rest := []) (lenOf pd_1 rfl) rfl (by show 2 * 0 + _ ≤ _; exact Nat.le_of_eq rfl) (hb hby at_44) (fun _ _ => ⟨rfl, e16, (by decide : 0 + 0 ≤ _), (by decide : 0 + 0 ≤ _)⟩)
      dsimp only [Pt.U, Pt.locs, Pt.cells, Pt.slots] at X17 l17 y17 z17 st17 hQ17
      subst l17 y17 z17
      obtain ⟨rfl, N17q, hh17, rfl⟩ := hQ17
      have N17 := Fr.app N0 N17q
      obtain ⟨cq18, kq18, q18a, q18b, q18c⟩ := isOf hZ hh17 (E_aWTINYLFU)
      obtain ⟨_, _, ⟨T18, L18, k18, n18⟩, -, X18, ⟨Lc18, hQ18, l18, y18, z18⟩, st18⟩ := X17.virtualBack hx (y := (⟨"com/example/sketchgate/sketchgate/service/PolicyType", "label", "()Ljava/lang/String;"⟩ : MethodName)) (z := (⟨"com/example/sketchgate/sketchgate/service/PolicyType", "label", "()Ljava/lang/String;"⟩ : MethodName)) hown (mvT hZ (hw _ (List.mem_of_getElem? (i := 11) rfl))) (mvT hZ (hw _ (List.mem_of_getElem? (i := 12) rfl))) (notFace_of_selects (args := #[]) (mvT hZ (hw _ (List.mem_of_getElem? (i := 14) rfl)))) (mvT hZ (hw _ (List.mem_of_getElem? (i := 14) rfl))) (mvT hZ (hw _ (List.mem_of_getElem? (i := 13) rfl))) (by decide) (backOf (W := 0) (rm2 l Z a0 hw [] aWTINYLFU lWTINYLFU h0 n0 Z0 F_label_aWTINYLFU) hZ (hw _ (List.mem_of_getElem? (i := 15) rfl)) (hw _ (List.mem_of_getElem? (i := 2) rfl)) (by decide) (by decide)) q18a q18c (g := (mkF m 50 #[.val (.int p0), .val (.int ((p0 &&& (2147483647 : Int32)) % (3 : Int32))), .val (.ref aWTINYLFU), .val (.int (1 : Int32)), .val (.int ((f1_12 aWTINYLFU aWTINYLFU) &&& 1)), .unset] [(.ref aWTINYLFU)])) rfl (by rw [hml]; rfl) (Steps.refl _) (argsL := []) (rest := []) (lenOf pd_2 rfl) rfl (by show 2 * 0 + _ ≤ _; exact Nat.le_of_eq rfl) (hb hby at_50) (fun _ _ => ⟨rfl, hh17, (by decide : 0 + 0 ≤ _), (by decide : 0 + 0 ≤ _)⟩)
      dsimp only [Pt.U, Pt.locs, Pt.cells, Pt.slots] at X18 l18 y18 z18 st18 hQ18
      subst l18 y18 z18
      obtain ⟨rfl, N18q, hh18, rfl⟩ := hQ18
      have N18 := Fr.app N17 N18q
      have wS19 : ∀ a ∈ Bundle.stringAtoms, a.before a0 Z = true := fun d hd => hw d ((by decide +kernel : ∀ d ∈ Bundle.stringAtoms, d ∈ tables_1) d hd)
      obtain ⟨b19, T19, h19, kk19, d19, kc19, X19, e19, Ex19, hS19, hk19, hZ, hown, Es19, Fc19, Fv19, Va19, lta19, ltb19, IB19, st19⟩ := ldcSV (s := s) (vm0 := s.vm) X18 hx hZ hown (hw _ (List.mem_of_getElem? (i := 18) rfl)) wS19 hh18 ((State.WarmedH.refl s).since 0) (Nat.zero_le _) (Fr.nil _) (fun b cl q => by rw [hUZ]; exact q) (by rw [hUZ]; exact IB.start) (Ts := []) (by simp) hheld hcw (vs := [(.int (119 : Int32)), (.int (116 : Int32)), (.int (105 : Int32)), (.int (110 : Int32)), (.int (121 : Int32)), (.int (108 : Int32)), (.int (102 : Int32)), (.int (117 : Int32))]) (z := (8 : Int32)) ⟨by decide, by decide⟩ (by decide) rfl (g := (mkF m 53 #[.val (.int p0), .val (.int ((p0 &&& (2147483647 : Int32)) % (3 : Int32))), .val (.ref aWTINYLFU), .val (.int (1 : Int32)), .val (.int ((f1_12 aWTINYLFU aWTINYLFU) &&& 1)), .unset] [(.ref lWTINYLFU)])) rfl (hb hby at_53) (n := 32) (by decide) (by decide) (by decide) (by decide)
      have S_LRU_20 : Sta Z h19 "com/example/sketchgate/sketchgate/service/PolicyType" "LRU" "Lcom/example/sketchgate/sketchgate/service/PolicyType;" (.ref aLRU) := (S_LRU).ext Ex19
      have E_aLRU_20 : Exa Z h19 aLRU "com/example/sketchgate/sketchgate/service/PolicyType" := (E_aLRU).ext Ex19
      have S_WTINYLFU_20 : Sta Z h19 "com/example/sketchgate/sketchgate/service/PolicyType" "WTINYLFU" "Lcom/example/sketchgate/sketchgate/service/PolicyType;" (.ref aWTINYLFU) := (S_WTINYLFU).ext Ex19
      have E_aWTINYLFU_20 : Exa Z h19 aWTINYLFU "com/example/sketchgate/sketchgate/service/PolicyType" := (E_aWTINYLFU).ext Ex19
      have S_CACHE_20 : Sta Z h19 "com/example/sketchgate/sketchgate/service/PolicyType" "CACHE" "Lcom/example/sketchgate/sketchgate/service/PolicyType;" (.ref aCACHE) := (S_CACHE).ext Ex19
      have E_aCACHE_20 : Exa Z h19 aCACHE "com/example/sketchgate/sketchgate/service/PolicyType" := (E_aCACHE).ext Ex19
      have F_ordinal_aLRU_20 : Fld Z h19 aLRU "java/lang/Enum" "ordinal" "I" (.int (0 : Int32)) := (F_ordinal_aLRU).ext Ex19
      have F_ordinal_aWTINYLFU_20 : Fld Z h19 aWTINYLFU "java/lang/Enum" "ordinal" "I" (.int (1 : Int32)) := (F_ordinal_aWTINYLFU).ext Ex19
      have F_ordinal_aCACHE_20 : Fld Z h19 aCACHE "java/lang/Enum" "ordinal" "I" (.int (2 : Int32)) := (F_ordinal_aCACHE).ext Ex19
      have F_label_aLRU_20 : Fld Z h19 aLRU "com/example/sketchgate/sketchgate/service/PolicyType" "label" "Ljava/lang/String;" (.ref lLRU) := (F_label_aLRU).ext Ex19
      have E_lLRU_20 : Exa Z h19 lLRU "java/lang/String" := (E_lLRU).ext Ex19
      have F_coder_lLRU_20 : Fld Z h19 lLRU "java/lang/String" "coder" "B" (.int (0 : Int32)) := (F_coder_lLRU).ext Ex19
      have F_value_lLRU_20 : Fld Z h19 lLRU "java/lang/String" "value" "[B" (.ref vLRU) := (F_value_lLRU).ext Ex19
      have P_VLRU_20 : Arv Z h19 vLRU kLRU .byte (3 : Int32) [(.int (108 : Int32)), (.int (114 : Int32)), (.int (117 : Int32))] (.int 0) := (P_VLRU).ext Ex19
      have F_label_aCACHE_20 : Fld Z h19 aCACHE "com/example/sketchgate/sketchgate/service/PolicyType" "label" "Ljava/lang/String;" (.ref lCACHE) := (F_label_aCACHE).ext Ex19
      have E_lCACHE_20 : Exa Z h19 lCACHE "java/lang/String" := (E_lCACHE).ext Ex19
      have F_coder_lCACHE_20 : Fld Z h19 lCACHE "java/lang/String" "coder" "B" (.int (0 : Int32)) := (F_coder_lCACHE).ext Ex19
      have F_value_lCACHE_20 : Fld Z h19 lCACHE "java/lang/String" "value" "[B" (.ref vCACHE) := (F_value_lCACHE).ext Ex19
      have P_VCACHE_20 : Arv Z h19 vCACHE kCACHE .byte (5 : Int32) [(.int (99 : Int32)), (.int (97 : Int32)), (.int (99 : Int32)), (.int (104 : Int32)), (.int (101 : Int32))] (.int 0) := (P_VCACHE).ext Ex19
      have F_label_aWTINYLFU_20 : Fld Z h19 aWTINYLFU "com/example/sketchgate/sketchgate/service/PolicyType" "label" "Ljava/lang/String;" (.ref lWTINYLFU) := (F_label_aWTINYLFU).ext Ex19
      have E_lWTINYLFU_20 : Exa Z h19 lWTINYLFU "java/lang/String" := (E_lWTINYLFU).ext Ex19
      have F_coder_lWTINYLFU_20 : Fld Z h19 lWTINYLFU "java/lang/String" "coder" "B" (.int (0 : Int32)) := (F_coder_lWTINYLFU).ext Ex19
      have F_value_lWTINYLFU_20 : Fld Z h19 lWTINYLFU "java/lang/String" "value" "[B" (.ref vWTINYLFU) := (F_value_lWTINYLFU).ext Ex19
      have P_VWTINYLFU_20 : Arv Z h19 vWTINYLFU kWTINYLFU .byte (8 : Int32) [(.int (119 : Int32)), (.int (116 : Int32)), (.int (105 : Int32)), (.int (110 : Int32)), (.int (121 : Int32)), (.int (108 : Int32)), (.int (102 : Int32)), (.int (117 : Int32))] (.int 0) := (P_VWTINYLFU).ext Ex19
      have S_COMPACT_STRINGS_20 : Sta Z h19 "java/lang/String" "COMPACT_STRINGS" "Z" (.int G1) := (S_COMPACT_STRINGS).ext Ex19
      have SZ21 : h0.size ≤ h19.size := Nat.le_trans (Nat.le_refl _) Ex19.1
      have ZZ21 : n0 ≤ h19.size := Nat.le_trans Z0 SZ21
      have Ad22 : own_A Z h19 d19 .byte 8 (fun i => (.int (own_g i))) := own_of_arv Va19 rfl (fun i hi => by rcases (show i = 0 ∨ i = 1 ∨ i = 2 ∨ i = 3 ∨ i = 4 ∨ i = 5 ∨ i = 6 ∨ i = 7 by omega) with rfl | rfl | rfl | rfl | rfl | rfl | rfl | rfl <;> rfl)
      have Al22 : own_A Z h19 vWTINYLFU .byte 8 (fun i => (.int (own_g i))) := own_of_arv P_VWTINYLFU_20 rfl (fun i hi => by rcases (show i = 0 ∨ i = 1 ∨ i = 2 ∨ i = 3 ∨ i = 4 ∨ i = 5 ∨ i = 6 ∨ i = 7 by omega) with rfl | rfl | rfl | rfl | rfl | rfl | rfl | rfl <;> rfl)
      obtain ⟨cq23, kq23, q23a, q23b, q23c⟩ := isOf hZ e19 (E_lWTINYLFU_20)
      obtain ⟨_, _, ⟨T23, L23, k23, n23⟩, -, X23, ⟨Lc23, hQ23, l23, y23, z23⟩, st23⟩ := X19.virtualBack hx (y := (⟨"java/lang/String", "equals", "(Ljava/lang/Object;)Z"⟩ : MethodName)) (z := (⟨"java/lang/String", "equals", "(Ljava/lang/Object;)Z"⟩ : MethodName)) hown (mvT hZ (hw _ (List.mem_of_getElem? (i := 26) rfl))) (mvT hZ (hw _ (List.mem_of_getElem? (i := 27) rfl))) (notFace_of_selects (args := #[]) (mvT hZ (hw _ (List.mem_of_getElem? (i := 29) rfl)))) (mvT hZ (hw _ (List.mem_of_getElem? (i := 29) rfl))) (mvT hZ (hw _ (List.mem_of_getElem? (i := 28) rfl))) (by decide) (backOf (W := 0) (rm3 l Z a0 hw [] lWTINYLFU b19 G1 vWTINYLFU d19 h19 n0 ZZ21 S_COMPACT_STRINGS_20 Es19 F_coder_lWTINYLFU_20 Fc19 F_value_lWTINYLFU_20 Fv19 Al22 Ad22 P5) hZ (hw _ (List.mem_of_getElem? (i := 30) rfl)) (hw _ (List.mem_of_getElem? (i := 19) rfl)) (by decide) (by decide)) q23a q23c (g := (mkF m 55 #[.val (.int p0), .val (.int ((p0 &&& (2147483647 : Int32)) % (3 : Int32))), .val (.ref aWTINYLFU), .val (.int (1 : Int32)), .val (.int ((f1_12 aWTINYLFU aWTINYLFU) &&& 1)), .unset] [(.ref b19), (.ref lWTINYLFU)])) rfl (by rw [hml]; rfl) (Steps.refl _) (argsL := [(.ref b19)]) (rest := []) (lenOf pd_3 rfl) rfl (by show 2 * 0 + _ ≤ _; exact Nat.le_of_eq rfl) (hb hby at_55) (fun _ _ => ⟨rfl, e19, (by decide : 2 + 0 ≤ _), (by decide : 36 + 0 ≤ _)⟩)
      dsimp only [Pt.U, Pt.locs, Pt.cells, Pt.slots] at X23 l23 y23 z23 st23 hQ23
      subst l23 y23 z23
      obtain ⟨rfl, N23q, hh23, rfl⟩ := hQ23
      have N23 := Fr.app N18 N23q
      have pre24 : ∀ t, Steps p.tables e below (T23.setTop (mkF m 78 #[.val (.int p0), .val (.int ((p0 &&& (2147483647 : Int32)) % (3 : Int32))), .val (.ref aWTINYLFU), .val (.int (1 : Int32)), .val (.int ((f1_12 aWTINYLFU aWTINYLFU) &&& 1)), .val (.int (1 : Int32))] [(.int (1 : Int32))])) t → Steps p.tables e below (s₁.setTop (entryFrame m #[(.int p0)] maxLocals)) t := fun t k => pre14 t (by
        refine XS.icmpNo X0.here hx rfl (hb hby at_19) rfl (teq hs15).2 ?_
        show Steps p.tables e below (s₁.setTop (mkF m 22 #[.val (.int p0), .val (.int ((p0 &&& (2147483647 : Int32)) % (3 : Int32))), .unset, .unset, .unset, .unset] [])) _
        refine st16 _ ?_
        show Steps p.tables e below (T16.setTop (mkF m 25 #[.val (.int p0), .val (.int ((p0 &&& (2147483647 : Int32)) % (3 : Int32))), .unset, .unset, .unset, .unset] [(.ref aWTINYLFU)])) _
        refine XS.goto X16.here hx rfl (pc0 := 25) (pc' := 31) rfl (hb hby at_25) (by decide) (by decide) ?_
        show Steps p.tables e below (T16.setTop (mkF m 31 #[.val (.int p0), .val (.int ((p0 &&& (2147483647 : Int32)) % (3 : Int32))), .unset, .unset, .unset, .unset] [(.ref aWTINYLFU)])) _
        refine XS.astoreN X16.here hx rfl (hb hby at_31) rfl rfl (l' := #[.val (.int p0), .val (.int ((p0 &&& (2147483647 : Int32)) % (3 : Int32))), .val (.ref aWTINYLFU), .unset, .unset, .unset]) rfl ?_
        show Steps p.tables e below (T16.setTop (mkF m 32 #[.val (.int p0), .val (.int ((p0 &&& (2147483647 : Int32)) % (3 : Int32))), .val (.ref aWTINYLFU), .unset, .unset, .unset] [])) _
        refine XS.iloadN X16.here hx rfl (hb hby at_32) rfl ?_
        show Steps p.tables e below (T16.setTop (mkF m 33 #[.val (.int p0), .val (.int ((p0 &&& (2147483647 : Int32)) % (3 : Int32))), .val (.ref aWTINYLFU), .unset, .unset, .unset] [(.int ((p0 &&& (2147483647 : Int32)) % (3 : Int32)))])) _
        refine XS.iconst X16.here hx rfl (hb hby at_33) ?_
        show Steps p.tables e below (T16.setTop (mkF m 34 #[.val (.int p0), .val (.int ((p0 &&& (2147483647 : Int32)) % (3 : Int32))), .val (.ref aWTINYLFU), .unset, .unset, .unset] [(.int (1 : Int32)), (.int ((p0 &&& (2147483647 : Int32)) % (3 : Int32)))])) _
        refine XS.icmpNo X16.here hx rfl (hb hby at_34) rfl (teq hs15).2 ?_
        show Steps p.tables e below (T16.setTop (mkF m 37 #[.val (.int p0), .val (.int ((p0 &&& (2147483647 : Int32)) % (3 : Int32))), .val (.ref aWTINYLFU), .unset, .unset, .unset] [])) _
        refine XS.iconst X16.here hx rfl (hb hby at_37) ?_
        show Steps p.tables e below (T16.setTop (mkF m 38 #[.val (.int p0), .val (.int ((p0 &&& (2147483647 : Int32)) % (3 : Int32))), .val (.ref aWTINYLFU), .unset, .unset, .unset] [(.int (1 : Int32))])) _
        refine XS.goto X16.here hx rfl (pc0 := 38) (pc' := 42) rfl (hb hby at_38) (by decide) (by decide) ?_
        show Steps p.tables e below (T16.setTop (mkF m 42 #[.val (.int p0), .val (.int ((p0 &&& (2147483647 : Int32)) % (3 : Int32))), .val (.ref aWTINYLFU), .unset, .unset, .unset] [(.int (1 : Int32))])) _
        refine XS.istoreN X16.here hx rfl (hb hby at_42) rfl (l' := #[.val (.int p0), .val (.int ((p0 &&& (2147483647 : Int32)) % (3 : Int32))), .val (.ref aWTINYLFU), .val (.int (1 : Int32)), .unset, .unset]) rfl ?_
        show Steps p.tables e below (T16.setTop (mkF m 43 #[.val (.int p0), .val (.int ((p0 &&& (2147483647 : Int32)) % (3 : Int32))), .val (.ref aWTINYLFU), .val (.int (1 : Int32)), .unset, .unset] [])) _
        refine XS.aloadN X16.here hx rfl (hb hby at_43) rfl rfl ?_
        show Steps p.tables e below (T16.setTop (mkF m 44 #[.val (.int p0), .val (.int ((p0 &&& (2147483647 : Int32)) % (3 : Int32))), .val (.ref aWTINYLFU), .val (.int (1 : Int32)), .unset, .unset] [(.ref aWTINYLFU)])) _
        refine st17.trans ?_
        show Steps p.tables e below (T17.setTop (mkF m 47 #[.val (.int p0), .val (.int ((p0 &&& (2147483647 : Int32)) % (3 : Int32))), .val (.ref aWTINYLFU), .val (.int (1 : Int32)), .unset, .unset] [(.int ((f1_12 aWTINYLFU aWTINYLFU) &&& 1))])) _
        refine XS.istore X17.here hx rfl (hb hby at_47) rfl (l' := #[.val (.int p0), .val (.int ((p0 &&& (2147483647 : Int32)) % (3 : Int32))), .val (.ref aWTINYLFU), .val (.int (1 : Int32)), .val (.int ((f1_12 aWTINYLFU aWTINYLFU) &&& 1)), .unset]) rfl ?_
        show Steps p.tables e below (T17.setTop (mkF m 49 #[.val (.int p0), .val (.int ((p0 &&& (2147483647 : Int32)) % (3 : Int32))), .val (.ref aWTINYLFU), .val (.int (1 : Int32)), .val (.int ((f1_12 aWTINYLFU aWTINYLFU) &&& 1)), .unset] [])) _
        refine XS.aloadN X17.here hx rfl (hb hby at_49) rfl rfl ?_
        show Steps p.tables e below (T17.setTop (mkF m 50 #[.val (.int p0), .val (.int ((p0 &&& (2147483647 : Int32)) % (3 : Int32))), .val (.ref aWTINYLFU), .val (.int (1 : Int32)), .val (.int ((f1_12 aWTINYLFU aWTINYLFU) &&& 1)), .unset] [(.ref aWTINYLFU)])) _
        refine st18.trans ?_
        show Steps p.tables e below (T18.setTop (mkF m 53 #[.val (.int p0), .val (.int ((p0 &&& (2147483647 : Int32)) % (3 : Int32))), .val (.ref aWTINYLFU), .val (.int (1 : Int32)), .val (.int ((f1_12 aWTINYLFU aWTINYLFU) &&& 1)), .unset] [(.ref lWTINYLFU)])) _
        refine st19 _ ?_
        show Steps p.tables e below (T19.setTop (mkF m 55 #[.val (.int p0), .val (.int ((p0 &&& (2147483647 : Int32)) % (3 : Int32))), .val (.ref aWTINYLFU), .val (.int (1 : Int32)), .val (.int ((f1_12 aWTINYLFU aWTINYLFU) &&& 1)), .unset] [(.ref b19), (.ref lWTINYLFU)])) _
        refine st23.trans ?_
        show Steps p.tables e below (T23.setTop (mkF m 58 #[.val (.int p0), .val (.int ((p0 &&& (2147483647 : Int32)) % (3 : Int32))), .val (.ref aWTINYLFU), .val (.int (1 : Int32)), .val (.int ((f1_12 aWTINYLFU aWTINYLFU) &&& 1)), .unset] [(.int (1 : Int32))])) _
        refine XS.istore X23.here hx rfl (hb hby at_58) rfl (l' := #[.val (.int p0), .val (.int ((p0 &&& (2147483647 : Int32)) % (3 : Int32))), .val (.ref aWTINYLFU), .val (.int (1 : Int32)), .val (.int ((f1_12 aWTINYLFU aWTINYLFU) &&& 1)), .val (.int (1 : Int32))]) rfl ?_
        show Steps p.tables e below (T23.setTop (mkF m 60 #[.val (.int p0), .val (.int ((p0 &&& (2147483647 : Int32)) % (3 : Int32))), .val (.ref aWTINYLFU), .val (.int (1 : Int32)), .val (.int ((f1_12 aWTINYLFU aWTINYLFU) &&& 1)), .val (.int (1 : Int32))] [])) _
        refine XS.iload X23.here hx rfl (hb hby at_60) rfl ?_
        show Steps p.tables e below (T23.setTop (mkF m 62 #[.val (.int p0), .val (.int ((p0 &&& (2147483647 : Int32)) % (3 : Int32))), .val (.ref aWTINYLFU), .val (.int (1 : Int32)), .val (.int ((f1_12 aWTINYLFU aWTINYLFU) &&& 1)), .val (.int (1 : Int32))] [(.int ((f1_12 aWTINYLFU aWTINYLFU) &&& 1))])) _
        refine XS.iloadN X23.here hx rfl (hb hby at_62) rfl ?_
        show Steps p.tables e below (T23.setTop (mkF m 63 #[.val (.int p0), .val (.int ((p0 &&& (2147483647 : Int32)) % (3 : Int32))), .val (.ref aWTINYLFU), .val (.int (1 : Int32)), .val (.int ((f1_12 aWTINYLFU aWTINYLFU) &&& 1)), .val (.int (1 : Int32))] [(.int (1 : Int32)), (.int ((f1_12 aWTINYLFU aWTINYLFU) &&& 1))])) _
        refine XS.icmpNo X23.here hx rfl (hb hby at_63) rfl (teq (show ((f1_12 aWTINYLFU aWTINYLFU) &&& 1) = (1 : Int32) from by rw [f1_12, if_pos rfl]; rfl)).2 ?_
        show Steps p.tables e below (T23.setTop (mkF m 66 #[.val (.int p0), .val (.int ((p0 &&& (2147483647 : Int32)) % (3 : Int32))), .val (.ref aWTINYLFU), .val (.int (1 : Int32)), .val (.int ((f1_12 aWTINYLFU aWTINYLFU) &&& 1)), .val (.int (1 : Int32))] [])) _
        refine XS.iload X23.here hx rfl (hb hby at_66) rfl ?_
        show Steps p.tables e below (T23.setTop (mkF m 68 #[.val (.int p0), .val (.int ((p0 &&& (2147483647 : Int32)) % (3 : Int32))), .val (.ref aWTINYLFU), .val (.int (1 : Int32)), .val (.int ((f1_12 aWTINYLFU aWTINYLFU) &&& 1)), .val (.int (1 : Int32))] [(.int ((f1_12 aWTINYLFU aWTINYLFU) &&& 1))])) _
        refine XS.iload X23.here hx rfl (hb hby at_68) rfl ?_
        show Steps p.tables e below (T23.setTop (mkF m 70 #[.val (.int p0), .val (.int ((p0 &&& (2147483647 : Int32)) % (3 : Int32))), .val (.ref aWTINYLFU), .val (.int (1 : Int32)), .val (.int ((f1_12 aWTINYLFU aWTINYLFU) &&& 1)), .val (.int (1 : Int32))] [(.int (1 : Int32)), (.int ((f1_12 aWTINYLFU aWTINYLFU) &&& 1))])) _
        refine XS.icmpNo X23.here hx rfl (hb hby at_70) rfl (teq (show ((f1_12 aWTINYLFU aWTINYLFU) &&& 1) = (1 : Int32) from by rw [f1_12, if_pos rfl]; rfl)).2 ?_
        show Steps p.tables e below (T23.setTop (mkF m 73 #[.val (.int p0), .val (.int ((p0 &&& (2147483647 : Int32)) % (3 : Int32))), .val (.ref aWTINYLFU), .val (.int (1 : Int32)), .val (.int ((f1_12 aWTINYLFU aWTINYLFU) &&& 1)), .val (.int (1 : Int32))] [])) _
        refine XS.iconst X23.here hx rfl (hb hby at_73) ?_
        show Steps p.tables e below (T23.setTop (mkF m 74 #[.val (.int p0), .val (.int ((p0 &&& (2147483647 : Int32)) % (3 : Int32))), .val (.ref aWTINYLFU), .val (.int (1 : Int32)), .val (.int ((f1_12 aWTINYLFU aWTINYLFU) &&& 1)), .val (.int (1 : Int32))] [(.int (1 : Int32))])) _
        refine XS.goto X23.here hx rfl (pc0 := 74) (pc' := 78) rfl (hb hby at_74) (by decide) (by decide) ?_
        show Steps p.tables e below (T23.setTop (mkF m 78 #[.val (.int p0), .val (.int ((p0 &&& (2147483647 : Int32)) % (3 : Int32))), .val (.ref aWTINYLFU), .val (.int (1 : Int32)), .val (.int ((f1_12 aWTINYLFU aWTINYLFU) &&& 1)), .val (.int (1 : Int32))] [(.int (1 : Int32))])) _
        exact k)
      obtain ⟨fs, hr, hrun, hended, hRW⟩ := X23.leaveW hS19 (by rw [hh23]; exact hk19) (v := some (.int (1 : Int32))) (fun h => by rw [Bd.returns] at h; cases h)
      refine ⟨_, _, pre24 _ ?_, hrun, hended, _, _, rfl, ?_, hRW.1, hRW.2.1, hRW.2.2.1, hRW.2.2.2.mono (by decide) (by decide)⟩
      · exact retN X23 hx (t := .boolean) Bd.returns (by simp) (hb hby at_78) hr
      · show Q0 Z p0 aLRU aWTINYLFU aCACHE lLRU vLRU kLRU lCACHE vCACHE kCACHE lWTINYLFU vWTINYLFU kWTINYLFU G1 h0 n0 _ T23.heap _
        rw [hh23]
        exact ⟨rfl, N23⟩
    · obtain ⟨T25, X25, e25, st25⟩ := getS2 X0 hx hZ hown (host := "") (Or.inl (hw _ (List.mem_of_getElem? (i := 40) rfl))) Via.refl e0 S_CACHE (g := (mkF m 28 #[.val (.int p0), .val (.int ((p0 &&& (2147483647 : Int32)) % (3 : Int32))), .unset, .unset, .unset, .unset] [])) rfl (hb hby at_28)
      have ne_W : ¬ aCACHE = aWTINYLFU := Fld.ne F_ordinal_aCACHE F_ordinal_aWTINYLFU (fun q => absurd (Value.int.inj q) (by decide))
      obtain ⟨cq26, kq26, q26a, q26b, q26c⟩ := isOf hZ e25 (E_aCACHE)
      obtain ⟨_, _, ⟨T26, L26, k26, n26⟩, -, X26, ⟨Lc26, hQ26, l26, y26, z26⟩, st26⟩ := X25.virtualBack hx (y := (⟨"com/example/sketchgate/sketchgate/service/PolicyType", "hasWindow", "()Z"⟩ : MethodName)) (z := (⟨"com/example/sketchgate/sketchgate/service/PolicyType", "hasWindow", "()Z"⟩ : MethodName)) hown (mvT hZ (hw _ (List.mem_of_getElem? (i := 4) rfl))) (mvT hZ (hw _ (List.mem_of_getElem? (i := 5) rfl))) (notFace_of_selects (args := #[]) (mvT hZ (hw _ (List.mem_of_getElem? (i := 7) rfl)))) (mvT hZ (hw _ (List.mem_of_getElem? (i := 7) rfl))) (mvT hZ (hw _ (List.mem_of_getElem? (i := 6) rfl))) (by decide) (backOf (W := 0) (rm1 l Z a0 hw [] aCACHE aWTINYLFU h0 n0 Z0 S_WTINYLFU) hZ (hw _ (List.mem_of_getElem? (i := 8) rfl)) (hw _ (List.mem_of_getElem? (i := 2) rfl)) (by decide) (by decide)) q26a q26c (g := (mkF m 44 #[.val (.int p0), .val (.int ((p0 &&& (2147483647 : Int32)) % (3 : Int32))), .val (.ref aCACHE), .val (.int (0 : Int32)), .unset, .unset] [(.ref aCACHE)])) rfl (by rw [hml]; rfl) (Steps.refl _) (argsL := []) (rest := []) (lenOf pd_1 rfl) rfl (by show 2 * 0 + _ ≤ _; exact Nat.le_of_eq rfl) (hb hby at_44) (fun _ _ => ⟨rfl, e25, (by decide : 0 + 0 ≤ _), (by decide : 0 + 0 ≤ _)⟩)
      dsimp only [Pt.U, Pt.locs, Pt.cells, Pt.slots] at X26 l26 y26 z26 st26 hQ26
      subst l26 y26 z26
      obtain ⟨rfl, N26q, hh26, rfl⟩ := hQ26
      have N26 := Fr.app N0 N26q
      obtain ⟨cq27, kq27, q27a, q27b, q27c⟩ := isOf hZ hh26 (E_aCACHE)
      obtain ⟨_, _, ⟨T27, L27, k27, n27⟩, -, X27, ⟨Lc27, hQ27, l27, y27, z27⟩, st27⟩ := X26.virtualBack hx (y := (⟨"com/example/sketchgate/sketchgate/service/PolicyType", "label", "()Ljava/lang/String;"⟩ : MethodName)) (z := (⟨"com/example/sketchgate/sketchgate/service/PolicyType", "label", "()Ljava/lang/String;"⟩ : MethodName)) hown (mvT hZ (hw _ (List.mem_of_getElem? (i := 11) rfl))) (mvT hZ (hw _ (List.mem_of_getElem? (i := 12) rfl))) (notFace_of_selects (args := #[]) (mvT hZ (hw _ (List.mem_of_getElem? (i := 14) rfl)))) (mvT hZ (hw _ (List.mem_of_getElem? (i := 14) rfl))) (mvT hZ (hw _ (List.mem_of_getElem? (i := 13) rfl))) (by decide) (backOf (W := 0) (rm2 l Z a0 hw [] aCACHE lCACHE h0 n0 Z0 F_label_aCACHE) hZ (hw _ (List.mem_of_getElem? (i := 15) rfl)) (hw _ (List.mem_of_getElem? (i := 2) rfl)) (by decide) (by decide)) q27a q27c (g := (mkF m 50 #[.val (.int p0), .val (.int ((p0 &&& (2147483647 : Int32)) % (3 : Int32))), .val (.ref aCACHE), .val (.int (0 : Int32)), .val (.int ((f1_12 aWTINYLFU aCACHE) &&& 1)), .unset] [(.ref aCACHE)])) rfl (by rw [hml]; rfl) (Steps.refl _) (argsL := []) (rest := []) (lenOf pd_2 rfl) rfl (by show 2 * 0 + _ ≤ _; exact Nat.le_of_eq rfl) (hb hby at_50) (fun _ _ => ⟨rfl, hh26, (by decide : 0 + 0 ≤ _), (by decide : 0 + 0 ≤ _)⟩)
      dsimp only [Pt.U, Pt.locs, Pt.cells, Pt.slots] at X27 l27 y27 z27 st27 hQ27
      subst l27 y27 z27
      obtain ⟨rfl, N27q, hh27, rfl⟩ := hQ27
      have N27 := Fr.app N26 N27q
      have wS28 : ∀ a ∈ Bundle.stringAtoms, a.before a0 Z = true := fun d hd => hw d ((by decide +kernel : ∀ d ∈ Bundle.stringAtoms, d ∈ tables_1) d hd)
      obtain ⟨b28, T28, h28, kk28, d28, kc28, X28, e28, Ex28, hS28, hk28, hZ, hown, Es28, Fc28, Fv28, Va28, lta28, ltb28, IB28, st28⟩ := ldcSV (s := s) (vm0 := s.vm) X27 hx hZ hown (hw _ (List.mem_of_getElem? (i := 18) rfl)) wS28 hh27 ((State.WarmedH.refl s).since 0) (Nat.zero_le _) (Fr.nil _) (fun b cl q => by rw [hUZ]; exact q) (by rw [hUZ]; exact IB.start) (Ts := []) (by simp) hheld hcw (vs := [(.int (119 : Int32)), (.int (116 : Int32)), (.int (105 : Int32)), (.int (110 : Int32)), (.int (121 : Int32)), (.int (108 : Int32)), (.int (102 : Int32)), (.int (117 : Int32))]) (z := (8 : Int32)) ⟨by decide, by decide⟩ (by decide) rfl (g := (mkF m 53 #[.val (.int p0), .val (.int ((p0 &&& (2147483647 : Int32)) % (3 : Int32))), .val (.ref aCACHE), .val (.int (0 : Int32)), .val (.int ((f1_12 aWTINYLFU aCACHE) &&& 1)), .unset] [(.ref lCACHE)])) rfl (hb hby at_53) (n := 32) (by decide) (by decide) (by decide) (by decide)
      have S_LRU_29 : Sta Z h28 "com/example/sketchgate/sketchgate/service/PolicyType" "LRU" "Lcom/example/sketchgate/sketchgate/service/PolicyType;" (.ref aLRU) := (S_LRU).ext Ex28
      have E_aLRU_29 : Exa Z h28 aLRU "com/example/sketchgate/sketchgate/service/PolicyType" := (E_aLRU).ext Ex28
      have S_WTINYLFU_29 : Sta Z h28 "com/example/sketchgate/sketchgate/service/PolicyType" "WTINYLFU" "Lcom/example/sketchgate/sketchgate/service/PolicyType;" (.ref aWTINYLFU) := (S_WTINYLFU).ext Ex28
      have E_aWTINYLFU_29 : Exa Z h28 aWTINYLFU "com/example/sketchgate/sketchgate/service/PolicyType" := (E_aWTINYLFU).ext Ex28
      have S_CACHE_29 : Sta Z h28 "com/example/sketchgate/sketchgate/service/PolicyType" "CACHE" "Lcom/example/sketchgate/sketchgate/service/PolicyType;" (.ref aCACHE) := (S_CACHE).ext Ex28
      have E_aCACHE_29 : Exa Z h28 aCACHE "com/example/sketchgate/sketchgate/service/PolicyType" := (E_aCACHE).ext Ex28
      have F_ordinal_aLRU_29 : Fld Z h28 aLRU "java/lang/Enum" "ordinal" "I" (.int (0 : Int32)) := (F_ordinal_aLRU).ext Ex28
      have F_ordinal_aWTINYLFU_29 : Fld Z h28 aWTINYLFU "java/lang/Enum" "ordinal" "I" (.int (1 : Int32)) := (F_ordinal_aWTINYLFU).ext Ex28
      have F_ordinal_aCACHE_29 : Fld Z h28 aCACHE "java/lang/Enum" "ordinal" "I" (.int (2 : Int32)) := (F_ordinal_aCACHE).ext Ex28
      have F_label_aLRU_29 : Fld Z h28 aLRU "com/example/sketchgate/sketchgate/service/PolicyType" "label" "Ljava/lang/String;" (.ref lLRU) := (F_label_aLRU).ext Ex28
      have E_lLRU_29 : Exa Z h28 lLRU "java/lang/String" := (E_lLRU).ext Ex28
      have F_coder_lLRU_29 : Fld Z h28 lLRU "java/lang/String" "coder" "B" (.int (0 : Int32)) := (F_coder_lLRU).ext Ex28
      have F_value_lLRU_29 : Fld Z h28 lLRU "java/lang/String" "value" "[B" (.ref vLRU) := (F_value_lLRU).ext Ex28
      have P_VLRU_29 : Arv Z h28 vLRU kLRU .byte (3 : Int32) [(.int (108 : Int32)), (.int (114 : Int32)), (.int (117 : Int32))] (.int 0) := (P_VLRU).ext Ex28
      have F_label_aCACHE_29 : Fld Z h28 aCACHE "com/example/sketchgate/sketchgate/service/PolicyType" "label" "Ljava/lang/String;" (.ref lCACHE) := (F_label_aCACHE).ext Ex28
      have E_lCACHE_29 : Exa Z h28 lCACHE "java/lang/String" := (E_lCACHE).ext Ex28
      have F_coder_lCACHE_29 : Fld Z h28 lCACHE "java/lang/String" "coder" "B" (.int (0 : Int32)) := (F_coder_lCACHE).ext Ex28
      have F_value_lCACHE_29 : Fld Z h28 lCACHE "java/lang/String" "value" "[B" (.ref vCACHE) := (F_value_lCACHE).ext Ex28
      have P_VCACHE_29 : Arv Z h28 vCACHE kCACHE .byte (5 : Int32) [(.int (99 : Int32)), (.int (97 : Int32)), (.int (99 : Int32)), (.int (104 : Int32)), (.int (101 : Int32))] (.int 0) := (P_VCACHE).ext Ex28
      have F_label_aWTINYLFU_29 : Fld Z h28 aWTINYLFU "com/example/sketchgate/sketchgate/service/PolicyType" "label" "Ljava/lang/String;" (.ref lWTINYLFU) := (F_label_aWTINYLFU).ext Ex28
      have E_lWTINYLFU_29 : Exa Z h28 lWTINYLFU "java/lang/String" := (E_lWTINYLFU).ext Ex28
      have F_coder_lWTINYLFU_29 : Fld Z h28 lWTINYLFU "java/lang/String" "coder" "B" (.int (0 : Int32)) := (F_coder_lWTINYLFU).ext Ex28
      have F_value_lWTINYLFU_29 : Fld Z h28 lWTINYLFU "java/lang/String" "value" "[B" (.ref vWTINYLFU) := (F_value_lWTINYLFU).ext Ex28
      have P_VWTINYLFU_29 : Arv Z h28 vWTINYLFU kWTINYLFU .byte (8 : Int32) [(.int (119 : Int32)), (.int (116 : Int32)), (.int (105 : Int32)), (.int (110 : Int32)), (.int (121 : Int32)), (.int (108 : Int32)), (.int (102 : Int32)), (.int (117 : Int32))] (.int 0) := (P_VWTINYLFU).ext Ex28
      have S_COMPACT_STRINGS_29 : Sta Z h28 "java/lang/String" "COMPACT_STRINGS" "Z" (.int G1) := (S_COMPACT_STRINGS).ext Ex28
      have SZ30 : h0.size ≤ h28.size := Nat.le_trans (Nat.le_refl _) Ex28.1
      have ZZ30 : n0 ≤ h28.size := Nat.le_trans Z0 SZ30
      have Ad31 : own_A Z h28 d28 .byte 8 (fun i => (.int (own_g i))) := own_of_arv Va28 rfl (fun i hi => by rcases (show i = 0 ∨ i = 1 ∨ i = 2 ∨ i = 3 ∨ i = 4 ∨ i = 5 ∨ i = 6 ∨ i = 7 by omega) with rfl | rfl | rfl | rfl | rfl | rfl | rfl | rfl <;> rfl)
      have Al31 : own_A Z h28 vCACHE .byte 5 (fun i => (.int ([(99 : Int32), (97 : Int32), (99 : Int32), (104 : Int32), (101 : Int32)].getD i 0))) := own_of_arv P_VCACHE_29 rfl (fun i hi => by rcases (show i = 0 ∨ i = 1 ∨ i = 2 ∨ i = 3 ∨ i = 4 by omega) with rfl | rfl | rfl | rfl | rfl <;> rfl)
      have hne31 : ¬ lCACHE = b28 := fun q => own_lens (q ▸ F_value_lCACHE_29) Fv28 Al31 Ad31 (by decide)
      obtain ⟨cq32, kq32, q32a, q32b, q32c⟩ := isOf hZ e28 (E_lCACHE_29)
      obtain ⟨_, _, ⟨T32, L32, k32, n32⟩, -, X32, ⟨Lc32, hQ32, l32, y32, z32⟩, st32⟩ := X28.virtualBack hx (y := (⟨"java/lang/String", "equals", "(Ljava/lang/Object;)Z"⟩ : MethodName)) (z := (⟨"java/lang/String", "equals", "(Ljava/lang/Object;)Z"⟩ : MethodName)) hown (mvT hZ (hw _ (List.mem_of_getElem? (i := 26) rfl))) (mvT hZ (hw _ (List.mem_of_getElem? (i := 27) rfl))) (notFace_of_selects (args := #[]) (mvT hZ (hw _ (List.mem_of_getElem? (i := 29) rfl)))) (mvT hZ (hw _ (List.mem_of_getElem? (i := 29) rfl))) (mvT hZ (hw _ (List.mem_of_getElem? (i := 28) rfl))) (by decide) (backOf (W := 0) (rm203 l Z a0 hw [] lCACHE b28 G1 vCACHE d28 (fun i => ([(99 : Int32), (97 : Int32), (99 : Int32), (104 : Int32), (101 : Int32)].getD i 0)) h28 n0 ZZ30 S_COMPACT_STRINGS_29 Es28 F_coder_lCACHE_29 Fc28 F_value_lCACHE_29 Fv28 Al31 Ad31 P5 hne31) hZ (hw _ (List.mem_of_getElem? (i := 30) rfl)) (hw _ (List.mem_of_getElem? (i := 19) rfl)) (by decide) (by decide)) q32a q32c (g := (mkF m 55 #[.val (.int p0), .val (.int ((p0 &&& (2147483647 : Int32)) % (3 : Int32))), .val (.ref aCACHE), .val (.int (0 : Int32)), .val (.int ((f1_12 aWTINYLFU aCACHE) &&& 1)), .unset] [(.ref b28), (.ref lCACHE)])) rfl (by rw [hml]; rfl) (Steps.refl _) (argsL := [(.ref b28)]) (rest := []) (lenOf pd_3 rfl) rfl (by show 2 * 0 + _ ≤ _; exact Nat.le_of_eq rfl) (hb hby at_55) (fun _ _ => ⟨rfl, e28, (by decide : 2 + 0 ≤ _), (by decide : 36 + 0 ≤ _)⟩)
      dsimp only [Pt.U, Pt.locs, Pt.cells, Pt.slots] at X32 l32 y32 z32 st32 hQ32
      subst l32 y32 z32
      obtain ⟨rfl, N32q, hh32, rfl⟩ := hQ32
      have N32 := Fr.app N27 N32q
      have pre33 : ∀ t, Steps p.tables e below (T32.setTop (mkF m 78 #[.val (.int p0), .val (.int ((p0 &&& (2147483647 : Int32)) % (3 : Int32))), .val (.ref aCACHE), .val (.int (0 : Int32)), .val (.int ((f1_12 aWTINYLFU aCACHE) &&& 1)), .val (.int (0 : Int32))] [(.int (1 : Int32))])) t → Steps p.tables e below (s₁.setTop (entryFrame m #[(.int p0)] maxLocals)) t := fun t k => pre14 t (by
        refine XS.icmpYes X0.here hx rfl (pc0 := 19) (pc' := 28) rfl (hb hby at_19) rfl (feq hs15).2 (by decide) (by decide) ?_
        show Steps p.tables e below (s₁.setTop (mkF m 28 #[.val (.int p0), .val (.int ((p0 &&& (2147483647 : Int32)) % (3 : Int32))), .unset, .unset, .unset, .unset] [])) _
        refine st25 _ ?_
        show Steps p.tables e below (T25.setTop (mkF m 31 #[.val (.int p0), .val (.int ((p0 &&& (2147483647 : Int32)) % (3 : Int32))), .unset, .unset, .unset, .unset] [(.ref aCACHE)])) _
        refine XS.astoreN X25.here hx rfl (hb hby at_31) rfl rfl (l' := #[.val (.int p0), .val (.int ((p0 &&& (2147483647 : Int32)) % (3 : Int32))), .val (.ref aCACHE), .unset, .unset, .unset]) rfl ?_
        show Steps p.tables e below (T25.setTop (mkF m 32 #[.val (.int p0), .val (.int ((p0 &&& (2147483647 : Int32)) % (3 : Int32))), .val (.ref aCACHE), .unset, .unset, .unset] [])) _
        refine XS.iloadN X25.here hx rfl (hb hby at_32) rfl ?_
        show Steps p.tables e below (T25.setTop (mkF m 33 #[.val (.int p0), .val (.int ((p0 &&& (2147483647 : Int32)) % (3 : Int32))), .val (.ref aCACHE), .unset, .unset, .unset] [(.int ((p0 &&& (2147483647 : Int32)) % (3 : Int32)))])) _
        refine XS.iconst X25.here hx rfl (hb hby at_33) ?_
        show Steps p.tables e below (T25.setTop (mkF m 34 #[.val (.int p0), .val (.int ((p0 &&& (2147483647 : Int32)) % (3 : Int32))), .val (.ref aCACHE), .unset, .unset, .unset] [(.int (1 : Int32)), (.int ((p0 &&& (2147483647 : Int32)) % (3 : Int32)))])) _
        refine XS.icmpYes X25.here hx rfl (pc0 := 34) (pc' := 41) rfl (hb hby at_34) rfl (feq hs15).2 (by decide) (by decide) ?_
        show Steps p.tables e below (T25.setTop (mkF m 41 #[.val (.int p0), .val (.int ((p0 &&& (2147483647 : Int32)) % (3 : Int32))), .val (.ref aCACHE), .unset, .unset, .unset] [])) _
        refine XS.iconst X25.here hx rfl (hb hby at_41) ?_
        show Steps p.tables e below (T25.setTop (mkF m 42 #[.val (.int p0), .val (.int ((p0 &&& (2147483647 : Int32)) % (3 : Int32))), .val (.ref aCACHE), .unset, .unset, .unset] [(.int (0 : Int32))])) _
        refine XS.istoreN X25.here hx rfl (hb hby at_42) rfl (l' := #[.val (.int p0), .val (.int ((p0 &&& (2147483647 : Int32)) % (3 : Int32))), .val (.ref aCACHE), .val (.int (0 : Int32)), .unset, .unset]) rfl ?_
        show Steps p.tables e below (T25.setTop (mkF m 43 #[.val (.int p0), .val (.int ((p0 &&& (2147483647 : Int32)) % (3 : Int32))), .val (.ref aCACHE), .val (.int (0 : Int32)), .unset, .unset] [])) _
        refine XS.aloadN X25.here hx rfl (hb hby at_43) rfl rfl ?_
        show Steps p.tables e below (T25.setTop (mkF m 44 #[.val (.int p0), .val (.int ((p0 &&& (2147483647 : Int32)) % (3 : Int32))), .val (.ref aCACHE), .val (.int (0 : Int32)), .unset, .unset] [(.ref aCACHE)])) _
        refine st26.trans ?_
        show Steps p.tables e below (T26.setTop (mkF m 47 #[.val (.int p0), .val (.int ((p0 &&& (2147483647 : Int32)) % (3 : Int32))), .val (.ref aCACHE), .val (.int (0 : Int32)), .unset, .unset] [(.int ((f1_12 aWTINYLFU aCACHE) &&& 1))])) _
        refine XS.istore X26.here hx rfl (hb hby at_47) rfl (l' := #[.val (.int p0), .val (.int ((p0 &&& (2147483647 : Int32)) % (3 : Int32))), .val (.ref aCACHE), .val (.int (0 : Int32)), .val (.int ((f1_12 aWTINYLFU aCACHE) &&& 1)), .unset]) rfl ?_
        show Steps p.tables e below (T26.setTop (mkF m 49 #[.val (.int p0), .val (.int ((p0 &&& (2147483647 : Int32)) % (3 : Int32))), .val (.ref aCACHE), .val (.int (0 : Int32)), .val (.int ((f1_12 aWTINYLFU aCACHE) &&& 1)), .unset] [])) _
        refine XS.aloadN X26.here hx rfl (hb hby at_49) rfl rfl ?_
        show Steps p.tables e below (T26.setTop (mkF m 50 #[.val (.int p0), .val (.int ((p0 &&& (2147483647 : Int32)) % (3 : Int32))), .val (.ref aCACHE), .val (.int (0 : Int32)), .val (.int ((f1_12 aWTINYLFU aCACHE) &&& 1)), .unset] [(.ref aCACHE)])) _
        refine st27.trans ?_
        show Steps p.tables e below (T27.setTop (mkF m 53 #[.val (.int p0), .val (.int ((p0 &&& (2147483647 : Int32)) % (3 : Int32))), .val (.ref aCACHE), .val (.int (0 : Int32)), .val (.int ((f1_12 aWTINYLFU aCACHE) &&& 1)), .unset] [(.ref lCACHE)])) _
        refine st28 _ ?_
        show Steps p.tables e below (T28.setTop (mkF m 55 #[.val (.int p0), .val (.int ((p0 &&& (2147483647 : Int32)) % (3 : Int32))), .val (.ref aCACHE), .val (.int (0 : Int32)), .val (.int ((f1_12 aWTINYLFU aCACHE) &&& 1)), .unset] [(.ref b28), (.ref lCACHE)])) _
        refine st32.trans ?_
        show Steps p.tables e below (T32.setTop (mkF m 58 #[.val (.int p0), .val (.int ((p0 &&& (2147483647 : Int32)) % (3 : Int32))), .val (.ref aCACHE), .val (.int (0 : Int32)), .val (.int ((f1_12 aWTINYLFU aCACHE) &&& 1)), .unset] [(.int (0 : Int32))])) _
        refine XS.istore X32.here hx rfl (hb hby at_58) rfl (l' := #[.val (.int p0), .val (.int ((p0 &&& (2147483647 : Int32)) % (3 : Int32))), .val (.ref aCACHE), .val (.int (0 : Int32)), .val (.int ((f1_12 aWTINYLFU aCACHE) &&& 1)), .val (.int (0 : Int32))]) rfl ?_
        show Steps p.tables e below (T32.setTop (mkF m 60 #[.val (.int p0), .val (.int ((p0 &&& (2147483647 : Int32)) % (3 : Int32))), .val (.ref aCACHE), .val (.int (0 : Int32)), .val (.int ((f1_12 aWTINYLFU aCACHE) &&& 1)), .val (.int (0 : Int32))] [])) _
        refine XS.iload X32.here hx rfl (hb hby at_60) rfl ?_
        show Steps p.tables e below (T32.setTop (mkF m 62 #[.val (.int p0), .val (.int ((p0 &&& (2147483647 : Int32)) % (3 : Int32))), .val (.ref aCACHE), .val (.int (0 : Int32)), .val (.int ((f1_12 aWTINYLFU aCACHE) &&& 1)), .val (.int (0 : Int32))] [(.int ((f1_12 aWTINYLFU aCACHE) &&& 1))])) _
        refine XS.iloadN X32.here hx rfl (hb hby at_62) rfl ?_
        show Steps p.tables e below (T32.setTop (mkF m 63 #[.val (.int p0), .val (.int ((p0 &&& (2147483647 : Int32)) % (3 : Int32))), .val (.ref aCACHE), .val (.int (0 : Int32)), .val (.int ((f1_12 aWTINYLFU aCACHE) &&& 1)), .val (.int (0 : Int32))] [(.int (0 : Int32)), (.int ((f1_12 aWTINYLFU aCACHE) &&& 1))])) _
        refine XS.icmpNo X32.here hx rfl (hb hby at_63) rfl (teq (show ((f1_12 aWTINYLFU aCACHE) &&& 1) = (0 : Int32) from by rw [f1_12, if_neg ne_W]; rfl)).2 ?_
        show Steps p.tables e below (T32.setTop (mkF m 66 #[.val (.int p0), .val (.int ((p0 &&& (2147483647 : Int32)) % (3 : Int32))), .val (.ref aCACHE), .val (.int (0 : Int32)), .val (.int ((f1_12 aWTINYLFU aCACHE) &&& 1)), .val (.int (0 : Int32))] [])) _
        refine XS.iload X32.here hx rfl (hb hby at_66) rfl ?_
        show Steps p.tables e below (T32.setTop (mkF m 68 #[.val (.int p0), .val (.int ((p0 &&& (2147483647 : Int32)) % (3 : Int32))), .val (.ref aCACHE), .val (.int (0 : Int32)), .val (.int ((f1_12 aWTINYLFU aCACHE) &&& 1)), .val (.int (0 : Int32))] [(.int ((f1_12 aWTINYLFU aCACHE) &&& 1))])) _
        refine XS.iload X32.here hx rfl (hb hby at_68) rfl ?_
        show Steps p.tables e below (T32.setTop (mkF m 70 #[.val (.int p0), .val (.int ((p0 &&& (2147483647 : Int32)) % (3 : Int32))), .val (.ref aCACHE), .val (.int (0 : Int32)), .val (.int ((f1_12 aWTINYLFU aCACHE) &&& 1)), .val (.int (0 : Int32))] [(.int (0 : Int32)), (.int ((f1_12 aWTINYLFU aCACHE) &&& 1))])) _
        refine XS.icmpNo X32.here hx rfl (hb hby at_70) rfl (teq (show ((f1_12 aWTINYLFU aCACHE) &&& 1) = (0 : Int32) from by rw [f1_12, if_neg ne_W]; rfl)).2 ?_
        show Steps p.tables e below (T32.setTop (mkF m 73 #[.val (.int p0), .val (.int ((p0 &&& (2147483647 : Int32)) % (3 : Int32))), .val (.ref aCACHE), .val (.int (0 : Int32)), .val (.int ((f1_12 aWTINYLFU aCACHE) &&& 1)), .val (.int (0 : Int32))] [])) _
        refine XS.iconst X32.here hx rfl (hb hby at_73) ?_
        show Steps p.tables e below (T32.setTop (mkF m 74 #[.val (.int p0), .val (.int ((p0 &&& (2147483647 : Int32)) % (3 : Int32))), .val (.ref aCACHE), .val (.int (0 : Int32)), .val (.int ((f1_12 aWTINYLFU aCACHE) &&& 1)), .val (.int (0 : Int32))] [(.int (1 : Int32))])) _
        refine XS.goto X32.here hx rfl (pc0 := 74) (pc' := 78) rfl (hb hby at_74) (by decide) (by decide) ?_
        show Steps p.tables e below (T32.setTop (mkF m 78 #[.val (.int p0), .val (.int ((p0 &&& (2147483647 : Int32)) % (3 : Int32))), .val (.ref aCACHE), .val (.int (0 : Int32)), .val (.int ((f1_12 aWTINYLFU aCACHE) &&& 1)), .val (.int (0 : Int32))] [(.int (1 : Int32))])) _
        exact k)
      obtain ⟨fs, hr, hrun, hended, hRW⟩ := X32.leaveW hS28 (by rw [hh32]; exact hk28) (v := some (.int (1 : Int32))) (fun h => by rw [Bd.returns] at h; cases h)
      refine ⟨_, _, pre33 _ ?_, hrun, hended, _, _, rfl, ?_, hRW.1, hRW.2.1, hRW.2.2.1, hRW.2.2.2.mono (by decide) (by decide)⟩
      · exact retN X32 hx (t := .boolean) Bd.returns (by simp) (hb hby at_78) hr
      · show Q0 Z p0 aLRU aWTINYLFU aCACHE lLRU vLRU kLRU lCACHE vCACHE kCACHE lWTINYLFU vWTINYLFU kWTINYLFU G1 h0 n0 _ T32.heap _
        rw [hh32]
        exact ⟨rfl, N32⟩
set_option maxRecDepth 65536 in
set_option maxHeartbeats 40000000 in
theorem comes_1 {Post : Tables → Env → Array Value → State → Outcome → State → Prop} (hpost : ∀ tb e args s v u, (limb_1_1.after args s (.returned v) u = true ∧ limb_1_2.after args s (.returned v) u = true ∧ True) → FramedW s (.returned v) u (Jvm.fieldLocs frame_1_writes args s ++ Jvm.arrayLocs frame_1_arrays args s ++ Jvm.staticLocs frame_1_statics s) 8 1088 → Post tb e args s (.returned v) u) :
    ArmFor flags0 classFile x code maxLocals ret World_1 tables_1 room_1 Calls_1 rest_1 Pre_1 Post := by
  intro l hfl _ _ p e ha hc hk s m args below hf hA hF happ hP
  obtain ⟨hcalls, hrest, hpre⟩ := hP
  obtain ⟨-, -, -, hnamed, -, -, -, hat⟩ := (Spec.applies_iff hf).mp happ
  obtain ⟨hg, hn⟩ := and_e (Cond.before_iff.mp (show (Jvm.Cond.and given_1 narrow_1).before args s = true from hpre))
  obtain ⟨h1, g0⟩ := and_e hg
  obtain ⟨w0, rfl⟩ : ∃ w0 : Value, args = #[w0] := by
    have hs : args.size = 1 := by simpa [Cond.value, given_1] using h1
    obtain ⟨L⟩ := args
    match L, hs with
    | [w0], _ => exact ⟨w0, rfl⟩
  have hw := fun d (hd : d ∈ tables_1) => atoms_spec (ws := Jvm.Cond.code x code maxLocals ret :: tables_1) hat d (List.mem_cons_of_mem _ hd)
  have hfit : Fit s := fun {y c} hc i hi => by
    obtain ⟨ha, rfl⟩ := Array.getElem?_eq_some_iff.mp hc
    have q := List.all_eq_true.mp ((Array.all_eq_true_iff_forall_mem.mp hF) _ (Array.getElem_mem ha)) i (List.mem_range.mpr hi)
    simpa [Array.getElem?_eq_getElem hi] using q
  obtain ⟨i0, e0⟩ := is_v g0
  obtain rfl : w0 = (.int i0) := Option.some.inj e0
  obtain ⟨hsets, hown0⟩ := atoms_of _ (rest_1_c_eq ▸ (show rest_1_c.before _ s = true from hrest))
  have nC := not_v (Cond.before_iff.mp (hsets _ (List.mem_of_getElem? (i := 2) rfl)))
  obtain ⟨gC, eC⟩ := is_v (Cond.before_iff.mp (hsets _ (List.mem_of_getElem? (i := 1) rfl)))
  have S_COMPACT_STRINGS : Sta s s.heap "java/lang/String" "COMPACT_STRINGS" "Z" (.int gC) := Sta.start eC (Or.inl (hsets _ (List.mem_of_getElem? (i := 0) rfl)))
  have cC : ¬ (gC = (0 : Int32)) := gotF (Cond.eq_ints eC (Term.int_eval (0))) nC
  obtain ⟨nc0, nr0⟩ := and_e hn
  obtain ⟨nc1, nr1⟩ := and_e nr0
  obtain ⟨nc2, nr2⟩ := and_e nr1
  obtain ⟨nc3, nr3⟩ := and_e nr2
  obtain ⟨nc4, nr4⟩ := and_e nr3
  obtain ⟨nc5, nr5⟩ := and_e nr4
  obtain ⟨nc6, nr6⟩ := and_e nr5
  obtain ⟨nc7, nr7⟩ := and_e nr6
  obtain ⟨nc8, nr8⟩ := and_e nr7
  obtain ⟨nc9, nr9⟩ := and_e nr8
  obtain ⟨nc10, nr10⟩ := and_e nr9
  obtain ⟨nc11, nr11⟩ := and_e nr10
  obtain ⟨nc12, nr12⟩ := and_e nr11
  obtain ⟨nc13, nr13⟩ := and_e nr12
  obtain ⟨nc14, nr14⟩ := and_e nr13
  obtain ⟨nc15, nr15⟩ := and_e nr14
  obtain ⟨nc16, nr16⟩ := and_e nr15
  obtain ⟨nc17, nr17⟩ := and_e nr16
  obtain ⟨nc18, nr18⟩ := and_e nr17
  obtain ⟨nc19, nr19⟩ := and_e nr18
  obtain ⟨nc20, nr20⟩ := and_e nr19
  obtain ⟨nc21, nr21⟩ := and_e nr20
  obtain ⟨nc22, nr22⟩ := and_e nr21
  obtain ⟨nc23, nr23⟩ := and_e nr22
  obtain ⟨nc24, nr24⟩ := and_e nr23
  obtain ⟨nc25, nr25⟩ := and_e nr24
  obtain ⟨nc26, nr26⟩ := and_e nr25
  obtain ⟨nc27, nr27⟩ := and_e nr26
  obtain ⟨nc28, nr28⟩ := and_e nr27
  obtain ⟨nc29, nr29⟩ := and_e nr28
  obtain ⟨nc30, nr30⟩ := and_e nr29
  obtain ⟨nc31, nr31⟩ := and_e nr30
  obtain ⟨nc32, nr32⟩ := and_e nr31
  obtain ⟨aLRU, ev_aLRU⟩ := exa_v nc0
  have S_aLRU : Sta s s.heap "com/example/sketchgate/sketchgate/service/PolicyType" "LRU" "Lcom/example/sketchgate/sketchgate/service/PolicyType;" (.ref aLRU) := Sta.start ev_aLRU (Or.inr ⟨(hw _ (List.mem_of_getElem? (i := 2) rfl)), (hw _ (List.mem_of_getElem? (i := 3) rfl))⟩)
  have E_aLRU : Exa s s.heap aLRU "com/example/sketchgate/sketchgate/service/PolicyType" := Exa.start ev_aLRU nc0
  obtain ⟨aWTINYLFU, ev_aWTINYLFU⟩ := exa_v nc1
  have S_aWTINYLFU : Sta s s.heap "com/example/sketchgate/sketchgate/service/PolicyType" "WTINYLFU" "Lcom/example/sketchgate/sketchgate/service/PolicyType;" (.ref aWTINYLFU) := Sta.start ev_aWTINYLFU (Or.inr ⟨(hw _ (List.mem_of_getElem? (i := 2) rfl)), (hw _ (List.mem_of_getElem? (i := 10) rfl))⟩)
  have E_aWTINYLFU : Exa s s.heap aWTINYLFU "com/example/sketchgate/sketchgate/service/PolicyType" := Exa.start ev_aWTINYLFU nc1
  obtain ⟨aCACHE, ev_aCACHE⟩ := exa_v nc8
  have S_aCACHE : Sta s s.heap "com/example/sketchgate/sketchgate/service/PolicyType" "CACHE" "Lcom/example/sketchgate/sketchgate/service/PolicyType;" (.ref aCACHE) := Sta.start ev_aCACHE (Or.inr ⟨(hw _ (List.mem_of_getElem? (i := 2) rfl)), (hw _ (List.mem_of_getElem? (i := 41) rfl))⟩)
  have E_aCACHE : Exa s s.heap aCACHE "com/example/sketchgate/sketchgate/service/PolicyType" := Exa.start ev_aCACHE nc8
  have F_ordinal_aLRU : Fld s s.heap aLRU "java/lang/Enum" "ordinal" "I" (.int (0 : Int32)) := own_fld ev_aLRU nc2
  have F_ordinal_aWTINYLFU : Fld s s.heap aWTINYLFU "java/lang/Enum" "ordinal" "I" (.int (1 : Int32)) := own_fld ev_aWTINYLFU nc3
  have F_ordinal_aCACHE : Fld s s.heap aCACHE "java/lang/Enum" "ordinal" "I" (.int (2 : Int32)) := own_fld ev_aCACHE nc9
  obtain ⟨lLRU, ev_lLRU⟩ := exa_v nc4
  have F_label_aLRU : Fld s s.heap aLRU "com/example/sketchgate/sketchgate/service/PolicyType" "label" "Ljava/lang/String;" (.ref lLRU) := Fld.start ((fld_at ev_aLRU).symm.trans ev_lLRU)
  have E_lLRU : Exa s s.heap lLRU "java/lang/String" := Exa.start ev_lLRU nc4
  have F_coder_lLRU : Fld s s.heap lLRU "java/lang/String" "coder" "B" (.int (0 : Int32)) := own_fld ev_lLRU nc5
  obtain ⟨vLRU, ev_vLRU⟩ := arr_v nc6
  have F_value_lLRU : Fld s s.heap lLRU "java/lang/String" "value" "[B" (.ref vLRU) := Fld.start ((fld_at ev_lLRU).symm.trans ev_vLRU)
  obtain ⟨cvLRU, ArvLRU⟩ := Arr.start ev_vLRU nc6
  obtain ⟨szvLRU, ltvLRU⟩ := own_size ev_vLRU ArvLRU nc7
  have P_VLRU : Arv s s.heap vLRU cvLRU.cls .byte (3 : Int32) [(.int (108 : Int32)), (.int (114 : Int32)), (.int (117 : Int32))] (.int 0) := Arv.start hfit ArvLRU ltvLRU szvLRU (by decide) rfl ⟨own_elemI ev_vLRU ArvLRU nc18, own_elemI ev_vLRU ArvLRU nc19, own_elemI ev_vLRU ArvLRU nc20, trivial⟩
  obtain ⟨lCACHE, ev_lCACHE⟩ := exa_v nc10
  have F_label_aCACHE : Fld s s.heap aCACHE "com/example/sketchgate/sketchgate/service/PolicyType" "label" "Ljava/lang/String;" (.ref lCACHE) := Fld.start ((fld_at ev_aCACHE).symm.trans ev_lCACHE)
  have E_lCACHE : Exa s s.heap lCACHE "java/lang/String" := Exa.start ev_lCACHE nc10
  have F_coder_lCACHE : Fld s s.heap lCACHE "java/lang/String" "coder" "B" (.int (0 : Int32)) := own_fld ev_lCACHE nc11
  obtain ⟨vCACHE, ev_vCACHE⟩ := arr_v nc12
  have F_value_lCACHE : Fld s s.heap lCACHE "java/lang/String" "value" "[B" (.ref vCACHE) := Fld.start ((fld_at ev_lCACHE).symm.trans ev_vCACHE)
  obtain ⟨cvCACHE, ArvCACHE⟩ := Arr.start ev_vCACHE nc12
  obtain ⟨szvCACHE, ltvCACHE⟩ := own_size ev_vCACHE ArvCACHE nc13
  have P_VCACHE : Arv s s.heap vCACHE cvCACHE.cls .byte (5 : Int32) [(.int (99 : Int32)), (.int (97 : Int32)), (.int (99 : Int32)), (.int (104 : Int32)), (.int (101 : Int32))] (.int 0) := Arv.start hfit ArvCACHE ltvCACHE szvCACHE (by decide) rfl ⟨own_elemI ev_vCACHE ArvCACHE nc21, own_elemI ev_vCACHE ArvCACHE nc22, own_elemI ev_vCACHE ArvCACHE nc23, own_elemI ev_vCACHE ArvCACHE nc24, own_elemI ev_vCACHE ArvCACHE nc25, trivial⟩
  obtain ⟨lWTINYLFU, ev_lWTINYLFU⟩ := exa_v nc14
  have F_label_aWTINYLFU : Fld s s.heap aWTINYLFU "com/example/sketchgate/sketchgate/service/PolicyType" "label" "Ljava/lang/String;" (.ref lWTINYLFU) := Fld.start ((fld_at ev_aWTINYLFU).symm.trans ev_lWTINYLFU)
  have E_lWTINYLFU : Exa s s.heap lWTINYLFU "java/lang/String" := Exa.start ev_lWTINYLFU nc14
  have F_coder_lWTINYLFU : Fld s s.heap lWTINYLFU "java/lang/String" "coder" "B" (.int (0 : Int32)) := own_fld ev_lWTINYLFU nc15
  obtain ⟨vWTINYLFU, ev_vWTINYLFU⟩ := arr_v nc16
  have F_value_lWTINYLFU : Fld s s.heap lWTINYLFU "java/lang/String" "value" "[B" (.ref vWTINYLFU) := Fld.start ((fld_at ev_lWTINYLFU).symm.trans ev_vWTINYLFU)
  obtain ⟨cvWTINYLFU, ArvWTINYLFU⟩ := Arr.start ev_vWTINYLFU nc16
  obtain ⟨szvWTINYLFU, ltvWTINYLFU⟩ := own_size ev_vWTINYLFU ArvWTINYLFU nc17
  have P_VWTINYLFU : Arv s s.heap vWTINYLFU cvWTINYLFU.cls .byte (8 : Int32) [(.int (119 : Int32)), (.int (116 : Int32)), (.int (105 : Int32)), (.int (110 : Int32)), (.int (121 : Int32)), (.int (108 : Int32)), (.int (102 : Int32)), (.int (117 : Int32))] (.int 0) := Arv.start hfit ArvWTINYLFU ltvWTINYLFU szvWTINYLFU (by decide) rfl ⟨own_elemI ev_vWTINYLFU ArvWTINYLFU nc26, own_elemI ev_vWTINYLFU ArvWTINYLFU nc27, own_elemI ev_vWTINYLFU ArvWTINYLFU nc28, own_elemI ev_vWTINYLFU ArvWTINYLFU nc29, own_elemI ev_vWTINYLFU ArvWTINYLFU nc30, own_elemI ev_vWTINYLFU ArvWTINYLFU nc31, own_elemI ev_vWTINYLFU ArvWTINYLFU nc32, own_elemI ev_vWTINYLFU ArvWTINYLFU nr32, trivial⟩
  obtain ⟨n, o, h1, h2, h3, _, L, rfl, ⟨rfl, N⟩, hq⟩ := rm0 l s _ hw tables_1 i0 aLRU aWTINYLFU aCACHE lLRU vLRU cvLRU.cls lCACHE vCACHE cvCACHE.cls lWTINYLFU vWTINYLFU cvWTINYLFU.cls gC s.heap s.heap.size (Nat.le_refl _) S_aLRU E_aLRU S_aWTINYLFU E_aWTINYLFU S_aCACHE E_aCACHE F_ordinal_aLRU F_ordinal_aWTINYLFU F_ordinal_aCACHE F_label_aLRU E_lLRU F_coder_lLRU F_value_lLRU P_VLRU F_label_aCACHE E_lCACHE F_coder_lCACHE F_value_lCACHE P_VCACHE F_label_aWTINYLFU E_lWTINYLFU F_coder_lWTINYLFU F_value_lWTINYLFU P_VWTINYLFU S_COMPACT_STRINGS cC (hcalls.1 _ (List.mem_cons_self ..)) (hsets _ (List.mem_of_getElem? (i := 2) rfl)) p e ha hc hk s m _ below hf ((Spec.applies_iff_loose hf).mp happ).1 ⟨rfl, State.Warmed39.refl s, rfl, rfl⟩ trivial
  refine ⟨n, _, h1, h2, h3, hpost _ _ _ _ _ _ ⟨Cond.after_iff.mpr rfl, Cond.after_iff.mpr (eq_i res_at (Term.int_eval (1)) rfl), trivial⟩ ⟨hq.1, hq.2.1, hq.2.2.1, (hq.2.2.2.sift fun y hy => Or.inr (N y hy)).mono (by decide) (by decide)⟩⟩
theorem main_1_1 : Claimed_1_1 := comes_1 fun _ _ _ _ _ _ h hF => ⟨h.1, hF⟩
theorem main_1_2 : Claimed_1_2 := comes_1 fun _ _ _ _ _ _ h hF => ⟨h.2.1, hF⟩
end Jvm.Pilot.@@N@@
namespace Jvm.Pilot.@@N@@
open Jvm Jvm.ClassFile Sem Op Lib Jvm.Free Jvm.Stand Jvm.Pilot.@@N@@.Jvm.D
/-! MADE BY PROGRAM (witnessworld.py) out of the Statement's table words and the real class files: 18 classes; the members and pool entries that the words name. The judged class is class 1, her method 1. -/
namespace start1
open Jvm.ClassFile
def u (s : String) : CpInfo := .utf8 (stringToUtf16 s)
/-- a pool by its gaps: so many unusable entries, then the entry; so many at the end -/
def gap : Nat → List CpInfo → List CpInfo
  | 0, r => r
  | n + 1, r => .unusable :: gap n r
def poolList (es : List (Nat × CpInfo)) (last : Nat) : List CpInfo := es.foldr (fun e r => gap e.1 (e.2 :: r)) (gap last [])
def pool (es : List (Nat × CpInfo)) (last : Nat) : Array CpInfo := ⟨poolList es last⟩
def fileOf (pool : Array CpInfo) (this : Nat) (attrs : Array Attribute := #[]) (ms : Array MethodInfo := #[]) (fl : Nat := 33) (sup : Nat := 0) (ifs : Array Nat := #[]) (fds : Array FieldInfo := #[]) : ClassFile where
  minorVersion := 0
  majorVersion := 65
  constantPool := pool
  accessFlags := fl
  thisClass := this
  superClass := sup
  interfaces := ifs
  fields := fds
  methods := ms
  attributes := attrs
def plain (name : String) (sup : Option ClassId) : Class where
  name := name
  kind := .ordinary
  loader := none
  accessFlags := 33
  super := sup
  interfaces := #[]
  cf := none
  fields := #[]
  methods := #[]
  instanceTypes := #[]
  staticTypes := #[]
  resolved := #[]
  callSites := []
  init := .initialized
  statics := none
  mirror := none

def pool0 : Array CpInfo := pool [(5, u "<init>"), (0, u "()V"), (1, .class_ 10), (1, u "java/lang/Object")] 113

def k0m0 : Method := { name := "<init>", desc := "()V", sig := { parameters := [], returnType := none }, accessFlags := 1, code := none }
/-- java/lang/Object -/
def k0 : Class := { plain "java/lang/Object" none with
  accessFlags := 33
  interfaces := #[]
  cf := some (fileOf pool0 8 #[] #[{ accessFlags := 1, nameIndex := 5, descriptorIndex := 6, attributes := #[] }] 33 0 #[] #[])
  fields := #[]
  methods := #[k0m0]
  instanceTypes := #[]
  staticTypes := #[]
  resolved := Array.replicate 124 none
  statics := none }

def pool1 : Array CpInfo := pool [(2, .class_ 4), (1, u "java/lang/Object"), (0, u "<init>"), (0, u "()V"), (0, .integer 2147483647), (0, .fieldref 9 10), (0, .class_ 11), (0, .nameAndType 12 13), (0, u "com/example/sketchgate/sketchgate/service/PolicyType"), (0, u "LRU"), (0, u "Lcom/example/sketchgate/sketchgate/service/PolicyType;"), (0, .fieldref 9 15), (0, .nameAndType 16 13), (0, u "WTINYLFU"), (0, .fieldref 9 18), (0, .nameAndType 19 13), (0, u "CACHE"), (0, .methodref 9 21), (0, .nameAndType 22 23), (0, u "hasWindow"), (0, u "()Z"), (0, .methodref 9 25), (0, .nameAndType 26 27), (0, u "label"), (0, u "()Ljava/lang/String;"), (0, .string 29), (0, u "wtinylfu"), (0, .methodref 31 32), (0, .class_ 33), (0, .nameAndType 34 35), (0, u "java/lang/String"), (0, u "equals"), (0, u "(Ljava/lang/Object;)Z"), (0, .class_ 37), (0, u "com/example/sketchgate/sketchgate/service/PolicyTypeHasWindowPinLaw"), (2, u "law"), (0, u "(I)Z")] 3

def k1m0 : Method := { name := "<init>", desc := "()V", sig := { parameters := [], returnType := none }, accessFlags := 1, code := none }
def k1c1 : Code := { maxStack := 2, maxLocals := 6, code := code, exceptionTable := #[], attributes := #[] }
def k1m1 : Method := { name := "law", desc := "(I)Z", sig := { parameters := [.int], returnType := some .boolean }, accessFlags := 9, code := some k1c1 }
/-- com/example/sketchgate/sketchgate/service/PolicyTypeHasWindowPinLaw -/
def k1 : Class := { plain "com/example/sketchgate/sketchgate/service/PolicyTypeHasWindowPinLaw" (some 0) with
  accessFlags := 49
  interfaces := #[]
  cf := some (fileOf pool1 36 #[] #[{ accessFlags := 1, nameIndex := 5, descriptorIndex := 6, attributes := #[] }, { accessFlags := 9, nameIndex := 40, descriptorIndex := 41, attributes := #[] }] 49 2 #[] #[])
  fields := #[]
  methods := #[k1m0, k1m1]
  instanceTypes := #[]
  staticTypes := #[]
  resolved := Array.replicate 45 none
  statics := none }

def pool2 : Array CpInfo := pool [(1, .class_ 2), (0, u "java/lang/constant/Constable"), (0, .class_ 4), (0, u "java/lang/Object")] 6

/-- java/lang/constant/Constable -/
def k2 : Class := { plain "java/lang/constant/Constable" (some 0) with
  accessFlags := 1537
  interfaces := #[]
  cf := some (fileOf pool2 1 #[] #[] 1537 3 #[] #[])
  fields := #[]
  methods := #[]
  instanceTypes := #[]
  staticTypes := #[]
  resolved := Array.replicate 11 none
  statics := none }

def pool3 : Array CpInfo := pool [(1, .class_ 2), (0, u "java/lang/Comparable"), (0, .class_ 4), (0, u "java/lang/Object")] 7

/-- java/lang/Comparable -/
def k3 : Class := { plain "java/lang/Comparable" (some 0) with
  accessFlags := 1537
  interfaces := #[]
  cf := some (fileOf pool3 1 #[] #[] 1537 3 #[] #[])
  fields := #[]
  methods := #[]
  instanceTypes := #[]
  staticTypes := #[]
  resolved := Array.replicate 12 none
  statics := none }

def pool4 : Array CpInfo := pool [(1, .class_ 2), (0, u "java/io/Serializable"), (0, .class_ 4), (0, u "java/lang/Object")] 2

/-- java/io/Serializable -/
def k4 : Class := { plain "java/io/Serializable" (some 0) with
  accessFlags := 1537
  interfaces := #[]
  cf := some (fileOf pool4 1 #[] #[] 1537 3 #[] #[])
  fields := #[]
  methods := #[]
  instanceTypes := #[]
  staticTypes := #[]
  resolved := Array.replicate 7 none
  statics := none }

def pool5 : Array CpInfo := pool [(2, .class_ 4), (1, u "java/lang/Enum"), (0, u "name"), (0, u "Ljava/lang/String;"), (2, u "ordinal"), (0, u "I"), (1, .class_ 14), (1, u "java/lang/Object"), (4, u "hash"), (86, .class_ 108), (1, u "java/lang/Enum$EnumDesc"), (2, .class_ 112), (0, u "java/lang/constant/Constable"), (0, .class_ 114), (0, u "java/lang/Comparable"), (0, .class_ 116), (0, u "java/io/Serializable")] 87

/-- java/lang/Enum -/
def k5 : Class := { plain "java/lang/Enum" (some 0) with
  accessFlags := 1057
  interfaces := #[2, 3, 4]
  cf := some (fileOf pool5 2 #[.nestMembers #[106]] #[] 1057 12 #[111, 113, 115] #[{ accessFlags := 18, nameIndex := 5, descriptorIndex := 6, attributes := #[] }, { accessFlags := 18, nameIndex := 9, descriptorIndex := 10, attributes := #[] }, { accessFlags := 2, nameIndex := 19, descriptorIndex := 10, attributes := #[] }])
  fields := #[{ name := "name", type := (.object "java/lang/String"), accessFlags := 18, slot := 0, constantValue := 0 }, { name := "ordinal", type := .int, accessFlags := 18, slot := 1, constantValue := 0 }, { name := "hash", type := .int, accessFlags := 2, slot := 2, constantValue := 0 }]
  methods := #[]
  instanceTypes := #[(.object "java/lang/String"), .int, .int]
  staticTypes := #[]
  resolved := Array.replicate 204 none
  statics := none }

def pool6 : Array CpInfo := pool [(1, .class_ 2), (0, u "com/example/sketchgate/sketchgate/service/PolicyType"), (2, u "LRU"), (0, u "Lcom/example/sketchgate/sketchgate/service/PolicyType;"), (0, .fieldref 1 8), (0, .nameAndType 9 6), (0, u "WTINYLFU"), (2, u "CACHE"), (2, u "$VALUES"), (0, u "[Lcom/example/sketchgate/sketchgate/service/PolicyType;"), (6, .class_ 25), (1, u "java/lang/Enum"), (6, .fieldref 1 33), (0, .nameAndType 34 35), (0, u "label"), (0, u "Ljava/lang/String;"), (2, u "factory"), (0, u "Ljava/util/function/LongFunction;"), (10, u "hasWindow"), (0, u "()Z"), (100, u "REPLAY_SEED"), (0, u "J"), (10, u "()Ljava/lang/String;")] 57

def k6c0 : Code := { maxStack := 1, maxLocals := 1, code := prog_38_method_4_code, exceptionTable := #[], attributes := #[] }
def k6m0 : Method := { name := "label", desc := "()Ljava/lang/String;", sig := { parameters := [], returnType := some (.object "java/lang/String") }, accessFlags := 1, code := some k6c0 }
def k6c1 : Code := { maxStack := 2, maxLocals := 1, code := prog_38_method_6_code, exceptionTable := #[], attributes := #[] }
def k6m1 : Method := { name := "hasWindow", desc := "()Z", sig := { parameters := [], returnType := some .boolean }, accessFlags := 1, code := some k6c1 }
/-- com/example/sketchgate/sketchgate/service/PolicyType -/
def k6 : Class := { plain "com/example/sketchgate/sketchgate/service/PolicyType" (some 5) with
  accessFlags := 16433
  interfaces := #[]
  cf := some (fileOf pool6 1 #[] #[{ accessFlags := 1, nameIndex := 34, descriptorIndex := 164, attributes := #[] }, { accessFlags := 1, nameIndex := 50, descriptorIndex := 51, attributes := #[] }] 16433 23 #[] #[{ accessFlags := 16409, nameIndex := 5, descriptorIndex := 6, attributes := #[] }, { accessFlags := 16409, nameIndex := 9, descriptorIndex := 6, attributes := #[] }, { accessFlags := 16409, nameIndex := 12, descriptorIndex := 6, attributes := #[] }, { accessFlags := 25, nameIndex := 152, descriptorIndex := 153, attributes := #[] }, { accessFlags := 18, nameIndex := 34, descriptorIndex := 35, attributes := #[] }, { accessFlags := 18, nameIndex := 38, descriptorIndex := 39, attributes := #[] }, { accessFlags := 4122, nameIndex := 15, descriptorIndex := 16, attributes := #[] }])
  fields := #[{ name := "LRU", type := (.object "com/example/sketchgate/sketchgate/service/PolicyType"), accessFlags := 16409, slot := 0, constantValue := 0 }, { name := "WTINYLFU", type := (.object "com/example/sketchgate/sketchgate/service/PolicyType"), accessFlags := 16409, slot := 1, constantValue := 0 }, { name := "CACHE", type := (.object "com/example/sketchgate/sketchgate/service/PolicyType"), accessFlags := 16409, slot := 2, constantValue := 0 }, { name := "REPLAY_SEED", type := .long, accessFlags := 25, slot := 3, constantValue := 0 }, { name := "label", type := (.object "java/lang/String"), accessFlags := 18, slot := 3, constantValue := 0 }, { name := "factory", type := (.object "java/util/function/LongFunction"), accessFlags := 18, slot := 4, constantValue := 0 }, { name := "$VALUES", type := (.array (.object "com/example/sketchgate/sketchgate/service/PolicyType")), accessFlags := 4122, slot := 4, constantValue := 0 }]
  methods := #[k6m0, k6m1]
  instanceTypes := #[(.object "java/lang/String"), .int, .int, (.object "java/lang/String"), (.object "java/util/function/LongFunction")]
  staticTypes := #[(.object "com/example/sketchgate/sketchgate/service/PolicyType"), (.object "com/example/sketchgate/sketchgate/service/PolicyType"), (.object "com/example/sketchgate/sketchgate/service/PolicyType"), .long, (.array (.object "com/example/sketchgate/sketchgate/service/PolicyType"))]
  resolved := Array.replicate 222 none
  statics := some 0 }

def pool7 : Array CpInfo := pool [(2, .class_ 4), (1, u "java/lang/CharSequence"), (42, .class_ 48), (0, u "java/lang/CharSequence$1CodePointIterator"), (10, .class_ 60), (0, u "java/lang/CharSequence$1CharIterator"), (5, .class_ 67), (0, u "java/lang/Object")] 63

/-- java/lang/CharSequence -/
def k7 : Class := { plain "java/lang/CharSequence" (some 0) with
  accessFlags := 1537
  interfaces := #[]
  cf := some (fileOf pool7 2 #[.nestMembers #[47, 59]] #[] 1537 66 #[] #[])
  fields := #[]
  methods := #[]
  instanceTypes := #[]
  staticTypes := #[]
  resolved := Array.replicate 131 none
  statics := none }

def pool8 : Array CpInfo := pool [(1, .class_ 2), (0, u "java/lang/constant/ConstantDesc"), (0, .class_ 4), (0, u "java/lang/Object")] 32

/-- java/lang/constant/ConstantDesc -/
def k8 : Class := { plain "java/lang/constant/ConstantDesc" (some 0) with
  accessFlags := 1537
  interfaces := #[]
  cf := some (fileOf pool8 1 #[] #[] 1537 3 #[] #[])
  fields := #[]
  methods := #[]
  instanceTypes := #[]
  staticTypes := #[]
  resolved := Array.replicate 37 none
  statics := none }

def pool9 : Array CpInfo := pool [(2, .class_ 4), (1, u "java/lang/Object"), (0, u "<init>"), (0, u "()V"), (2, .fieldref 10 11), (0, .class_ 12), (0, .nameAndType 13 14), (0, u "java/lang/String"), (0, u "value"), (0, u "[B"), (0, .fieldref 10 16), (0, .nameAndType 17 18), (0, u "coder"), (0, u "B"), (2, u "hash"), (0, u "I"), (2, u "hashIsZero"), (0, u "Z"), (11, .fieldref 10 39), (0, .nameAndType 40 26), (0, u "COMPACT_STRINGS"), (66, .class_ 109), (1, u "java/lang/StringLatin1"), (431, .methodref 107 542), (0, .nameAndType 543 544), (0, u "equals"), (0, u "([B[B)Z"), (28, u "(Ljava/lang/Object;)Z"), (1, .class_ 576), (0, u "java/lang/CharSequence"), (22, u "CASE_INSENSITIVE_ORDER"), (0, u "Ljava/util/Comparator;"), (500, u "serialPersistentFields"), (0, u "[Ljava/io/ObjectStreamField;"), (0, .class_ 1104), (0, u "java/lang/String$CaseInsensitiveComparator"), (1, .class_ 1107), (0, u "java/io/Serializable"), (0, .class_ 1109), (0, u "java/lang/Comparable"), (0, .class_ 1111), (0, u "java/lang/constant/Constable"), (0, .class_ 1113), (0, u "java/lang/constant/ConstantDesc"), (2, u "serialVersionUID"), (0, u "J"), (3, u "REPL"), (0, u "C"), (2, u "LATIN1"), (1, u "UTF16")] 323

def k9m0 : Method := { name := "<init>", desc := "()V", sig := { parameters := [], returnType := none }, accessFlags := 1, code := none }
def k9c1 : Code := { maxStack := 2, maxLocals := 3, code := jdk_42_method_66_code, exceptionTable := #[], attributes := #[] }
def k9m1 : Method := { name := "equals", desc := "(Ljava/lang/Object;)Z", sig := { parameters := [(.object "java/lang/Object")], returnType := some .boolean }, accessFlags := 1, code := some k9c1 }
/-- java/lang/String -/
def k9 : Class := { plain "java/lang/String" (some 0) with
  accessFlags := 49
  interfaces := #[4, 3, 7, 2, 8]
  cf := some (fileOf pool9 10 #[.nestMembers #[1103]] #[{ accessFlags := 1, nameIndex := 5, descriptorIndex := 6, attributes := #[] }, { accessFlags := 1, nameIndex := 543, descriptorIndex := 573, attributes := #[] }] 49 2 #[1106, 1108, 575, 1110, 1112] #[{ accessFlags := 18, nameIndex := 13, descriptorIndex := 14, attributes := #[] }, { accessFlags := 18, nameIndex := 17, descriptorIndex := 18, attributes := #[] }, { accessFlags := 2, nameIndex := 21, descriptorIndex := 22, attributes := #[] }, { accessFlags := 2, nameIndex := 25, descriptorIndex := 26, attributes := #[] }, { accessFlags := 26, nameIndex := 1116, descriptorIndex := 1117, attributes := #[] }, { accessFlags := 24, nameIndex := 40, descriptorIndex := 26, attributes := #[] }, { accessFlags := 26, nameIndex := 1101, descriptorIndex := 1102, attributes := #[] }, { accessFlags := 26, nameIndex := 1121, descriptorIndex := 1122, attributes := #[] }, { accessFlags := 25, nameIndex := 599, descriptorIndex := 600, attributes := #[] }, { accessFlags := 24, nameIndex := 1125, descriptorIndex := 18, attributes := #[] }, { accessFlags := 24, nameIndex := 1127, descriptorIndex := 18, attributes := #[] }])
  fields := #[{ name := "value", type := (.array .byte), accessFlags := 18, slot := 0, constantValue := 0 }, { name := "coder", type := .byte, accessFlags := 18, slot := 1, constantValue := 0 }, { name := "hash", type := .int, accessFlags := 2, slot := 2, constantValue := 0 }, { name := "hashIsZero", type := .boolean, accessFlags := 2, slot := 3, constantValue := 0 }, { name := "serialVersionUID", type := .long, accessFlags := 26, slot := 0, constantValue := 0 }, { name := "COMPACT_STRINGS", type := .boolean, accessFlags := 24, slot := 1, constantValue := 0 }, { name := "serialPersistentFields", type := (.array (.object "java/io/ObjectStreamField")), accessFlags := 26, slot := 2, constantValue := 0 }, { name := "REPL", type := .char, accessFlags := 26, slot := 3, constantValue := 0 }, { name := "CASE_INSENSITIVE_ORDER", type := (.object "java/util/Comparator"), accessFlags := 25, slot := 4, constantValue := 0 }, { name := "LATIN1", type := .byte, accessFlags := 24, slot := 5, constantValue := 0 }, { name := "UTF16", type := .byte, accessFlags := 24, slot := 6, constantValue := 0 }]
  methods := #[k9m0, k9m1]
  instanceTypes := #[(.array .byte), .byte, .int, .boolean]
  staticTypes := #[.long, .boolean, (.array (.object "java/io/ObjectStreamField")), .char, (.object "java/util/Comparator"), .byte, .byte]
  resolved := Array.replicate 1451 none
  statics := some 1 }

def pool10 : Array CpInfo := pool [(4, .class_ 6), (1, u "java/lang/Object"), (0, u "<init>"), (0, u "()V"), (5, .class_ 16), (1, u "java/lang/StringLatin1"), (104, u "$assertionsDisabled"), (0, u "Z"), (98, .class_ 223), (1, u "java/lang/StringLatin1$LinesSpliterator"), (57, u "equals"), (0, u "([B[B)Z"), (107, .class_ 391), (0, u "java/lang/StringLatin1$CharsSpliterator")] 3

def k10m0 : Method := { name := "<init>", desc := "()V", sig := { parameters := [], returnType := none }, accessFlags := 0, code := none }
def k10c1 : Code := { maxStack := 3, maxLocals := 3, code := jdk_43_method_13_code, exceptionTable := #[], attributes := #[] }
def k10m1 : Method := { name := "equals", desc := "([B[B)Z", sig := { parameters := [(.array .byte), (.array .byte)], returnType := some .boolean }, accessFlags := 9, code := some k10c1 }
/-- java/lang/StringLatin1 -/
def k10 : Class := { plain "java/lang/StringLatin1" (some 0) with
  accessFlags := 48
  interfaces := #[]
  cf := some (fileOf pool10 14 #[.nestMembers #[390, 221]] #[{ accessFlags := 0, nameIndex := 7, descriptorIndex := 8, attributes := #[] }, { accessFlags := 9, nameIndex := 281, descriptorIndex := 282, attributes := #[] }] 48 4 #[] #[{ accessFlags := 4120, nameIndex := 121, descriptorIndex := 122, attributes := #[] }])
  fields := #[{ name := "$assertionsDisabled", type := .boolean, accessFlags := 4120, slot := 0, constantValue := 0 }]
  methods := #[k10m0, k10m1]
  instanceTypes := #[]
  staticTypes := #[.boolean]
  resolved := Array.replicate 395 none
  statics := none }

def pool11 : Array CpInfo := pool [(2, .class_ 4), (1, u "java/lang/Object"), (0, u "<init>"), (0, u "()V"), (17, .class_ 26), (1, u "jdk/internal/util/Preconditions"), (28, .class_ 56), (0, u "jdk/internal/util/Preconditions$4"), (57, .class_ 115), (0, u "jdk/internal/util/Preconditions$1"), (7, u "SIOOBE_FORMATTER"), (0, u "Ljava/util/function/BiFunction;"), (0, .class_ 126), (0, u "jdk/internal/util/Preconditions$2"), (3, u "AIOOBE_FORMATTER"), (0, .class_ 132), (0, u "jdk/internal/util/Preconditions$3"), (3, u "IOOBE_FORMATTER")] 57

def k11m0 : Method := { name := "<init>", desc := "()V", sig := { parameters := [], returnType := none }, accessFlags := 1, code := none }
/-- jdk/internal/util/Preconditions -/
def k11 : Class := { plain "jdk/internal/util/Preconditions" (some 0) with
  accessFlags := 33
  interfaces := #[]
  cf := some (fileOf pool11 24 #[.nestMembers #[55, 131, 125, 114]] #[{ accessFlags := 1, nameIndex := 5, descriptorIndex := 6, attributes := #[] }] 33 2 #[] #[{ accessFlags := 25, nameIndex := 123, descriptorIndex := 124, attributes := #[] }, { accessFlags := 25, nameIndex := 130, descriptorIndex := 124, attributes := #[] }, { accessFlags := 25, nameIndex := 136, descriptorIndex := 124, attributes := #[] }])
  fields := #[{ name := "SIOOBE_FORMATTER", type := (.object "java/util/function/BiFunction"), accessFlags := 25, slot := 0, constantValue := 0 }, { name := "AIOOBE_FORMATTER", type := (.object "java/util/function/BiFunction"), accessFlags := 25, slot := 1, constantValue := 0 }, { name := "IOOBE_FORMATTER", type := (.object "java/util/function/BiFunction"), accessFlags := 25, slot := 2, constantValue := 0 }]
  methods := #[k11m0]
  instanceTypes := #[]
  staticTypes := #[(.object "java/util/function/BiFunction"), (.object "java/util/function/BiFunction"), (.object "java/util/function/BiFunction")]
  resolved := Array.replicate 194 none
  statics := some 2 }

def pool12 : Array CpInfo := pool [(9, u "<init>"), (6, .class_ 18), (1, u "java/lang/Object"), (0, u "()V"), (1, .class_ 23), (1, u "jdk/internal/util/ArraysSupport"), (0, u "LOG2_ARRAY_LONG_INDEX_SCALE"), (0, u "I"), (2, u "U"), (0, u "Ljdk/internal/misc/Unsafe;"), (8, u "BIG_ENDIAN"), (0, u "Z"), (8, u "LOG2_BYTE_BIT_SIZE"), (4, u "LOG2_ARRAY_INT_INDEX_SCALE"), (54, u "JLA"), (0, u "Ljdk/internal/access/JavaLangAccess;"), (11, u "LOG2_ARRAY_BOOLEAN_INDEX_SCALE"), (9, u "LOG2_ARRAY_BYTE_INDEX_SCALE"), (5, u "LOG2_ARRAY_CHAR_INDEX_SCALE"), (5, u "LOG2_ARRAY_SHORT_INDEX_SCALE"), (18, u "LOG2_ARRAY_FLOAT_INDEX_SCALE"), (24, u "LOG2_ARRAY_DOUBLE_INDEX_SCALE"), (89, u "T_BOOLEAN"), (2, u "T_CHAR"), (1, u "T_FLOAT"), (1, u "T_DOUBLE"), (1, u "T_BYTE"), (1, u "T_SHORT"), (1, u "T_INT"), (1, u "T_LONG"), (1, u "SOFT_MAX_ARRAY_LENGTH")] 83

def k12m0 : Method := { name := "<init>", desc := "()V", sig := { parameters := [], returnType := none }, accessFlags := 2, code := none }
/-- jdk/internal/util/ArraysSupport -/
def k12 : Class := { plain "jdk/internal/util/ArraysSupport" (some 0) with
  accessFlags := 33
  interfaces := #[]
  cf := some (fileOf pool12 21 #[] #[{ accessFlags := 2, nameIndex := 9, descriptorIndex := 19, attributes := #[] }] 33 16 #[] #[{ accessFlags := 24, nameIndex := 28, descriptorIndex := 29, attributes := #[] }, { accessFlags := 26, nameIndex := 38, descriptorIndex := 39, attributes := #[] }, { accessFlags := 25, nameIndex := 121, descriptorIndex := 25, attributes := #[] }, { accessFlags := 25, nameIndex := 131, descriptorIndex := 25, attributes := #[] }, { accessFlags := 25, nameIndex := 137, descriptorIndex := 25, attributes := #[] }, { accessFlags := 25, nameIndex := 143, descriptorIndex := 25, attributes := #[] }, { accessFlags := 25, nameIndex := 53, descriptorIndex := 25, attributes := #[] }, { accessFlags := 25, nameIndex := 24, descriptorIndex := 25, attributes := #[] }, { accessFlags := 25, nameIndex := 162, descriptorIndex := 25, attributes := #[] }, { accessFlags := 25, nameIndex := 187, descriptorIndex := 25, attributes := #[] }, { accessFlags := 26, nameIndex := 48, descriptorIndex := 25, attributes := #[] }, { accessFlags := 25, nameIndex := 277, descriptorIndex := 25, attributes := #[] }, { accessFlags := 25, nameIndex := 280, descriptorIndex := 25, attributes := #[] }, { accessFlags := 25, nameIndex := 282, descriptorIndex := 25, attributes := #[] }, { accessFlags := 25, nameIndex := 284, descriptorIndex := 25, attributes := #[] }, { accessFlags := 25, nameIndex := 286, descriptorIndex := 25, attributes := #[] }, { accessFlags := 25, nameIndex := 288, descriptorIndex := 25, attributes := #[] }, { accessFlags := 25, nameIndex := 290, descriptorIndex := 25, attributes := #[] }, { accessFlags := 25, nameIndex := 292, descriptorIndex := 25, attributes := #[] }, { accessFlags := 26, nameIndex := 108, descriptorIndex := 109, attributes := #[] }, { accessFlags := 25, nameIndex := 294, descriptorIndex := 25, attributes := #[] }])
  fields := #[{ name := "U", type := (.object "jdk/internal/misc/Unsafe"), accessFlags := 24, slot := 0, constantValue := 0 }, { name := "BIG_ENDIAN", type := .boolean, accessFlags := 26, slot := 1, constantValue := 0 }, { name := "LOG2_ARRAY_BOOLEAN_INDEX_SCALE", type := .int, accessFlags := 25, slot := 2, constantValue := 0 }, { name := "LOG2_ARRAY_BYTE_INDEX_SCALE", type := .int, accessFlags := 25, slot := 3, constantValue := 0 }, { name := "LOG2_ARRAY_CHAR_INDEX_SCALE", type := .int, accessFlags := 25, slot := 4, constantValue := 0 }, { name := "LOG2_ARRAY_SHORT_INDEX_SCALE", type := .int, accessFlags := 25, slot := 5, constantValue := 0 }, { name := "LOG2_ARRAY_INT_INDEX_SCALE", type := .int, accessFlags := 25, slot := 6, constantValue := 0 }, { name := "LOG2_ARRAY_LONG_INDEX_SCALE", type := .int, accessFlags := 25, slot := 7, constantValue := 0 }, { name := "LOG2_ARRAY_FLOAT_INDEX_SCALE", type := .int, accessFlags := 25, slot := 8, constantValue := 0 }, { name := "LOG2_ARRAY_DOUBLE_INDEX_SCALE", type := .int, accessFlags := 25, slot := 9, constantValue := 0 }, { name := "LOG2_BYTE_BIT_SIZE", type := .int, accessFlags := 26, slot := 10, constantValue := 0 }, { name := "T_BOOLEAN", type := .int, accessFlags := 25, slot := 11, constantValue := 0 }, { name := "T_CHAR", type := .int, accessFlags := 25, slot := 12, constantValue := 0 }, { name := "T_FLOAT", type := .int, accessFlags := 25, slot := 13, constantValue := 0 }, { name := "T_DOUBLE", type := .int, accessFlags := 25, slot := 14, constantValue := 0 }, { name := "T_BYTE", type := .int, accessFlags := 25, slot := 15, constantValue := 0 }, { name := "T_SHORT", type := .int, accessFlags := 25, slot := 16, constantValue := 0 }, { name := "T_INT", type := .int, accessFlags := 25, slot := 17, constantValue := 0 }, { name := "T_LONG", type := .int, accessFlags := 25, slot := 18, constantValue := 0 }, { name := "JLA", type := (.object "jdk/internal/access/JavaLangAccess"), accessFlags := 26, slot := 19, constantValue := 0 }, { name := "SOFT_MAX_ARRAY_LENGTH", type := .int, accessFlags := 25, slot := 20, constantValue := 0 }]
  methods := #[k12m0]
  instanceTypes := #[]
  staticTypes := #[(.object "jdk/internal/misc/Unsafe"), .boolean, .int, .int, .int, .int, .int, .int, .int, .int, .int, .int, .int, .int, .int, .int, .int, .int, .int, (.object "jdk/internal/access/JavaLangAccess"), .int]
  resolved := Array.replicate 378 none
  statics := none }

def pool13 : Array CpInfo := pool [(1, u "java/lang/Cloneable"), (0, .class_ 1), (0, u "java/lang/Object"), (0, .class_ 3)] 3

/-- java/lang/Cloneable -/
def k13 : Class := { plain "java/lang/Cloneable" (some 0) with
  accessFlags := 1537
  interfaces := #[]
  cf := some (fileOf pool13 2 #[] #[] 1537 4 #[] #[])
  fields := #[]
  methods := #[]
  instanceTypes := #[]
  staticTypes := #[]
  resolved := Array.replicate 8 none
  statics := none }

/-- the primitive byte -/
def k14 : Class := { plain "byte" none with kind := .primitive 'B', accessFlags := 0x411 }
/-- [B -/
def k15 : Class := { plain "[B" (some 0) with kind := .array 14 .byte, interfaces := #[13, 4], accessFlags := 1041 }

/-- the primitive int -/
def k16 : Class := { plain "int" none with kind := .primitive 'I', accessFlags := 0x411 }
/-- [I -/
def k17 : Class := { plain "[I" (some 0) with kind := .array 16 .int, interfaces := #[13, 4], accessFlags := 1041 }

def heap : Heap := #[{ cls := 6, slots := #[.ref 5, .ref 8, .ref 11, .long 0, .null], vm := .statics 6 },
  { cls := 9, slots := #[.long 0, .int 1, .null, .int 0, .null, .int 0, .int 0], vm := .statics 9 },
  { cls := 11, slots := #[.null, .null, .null], vm := .statics 11 },
  { cls := 15, slots := #[.int 108, .int 114, .int 117], vm := .none },
  { cls := 9, slots := #[.ref 3, .int 0, .int 0, .int 0], vm := .none },
  { cls := 6, slots := #[.null, .int 0, .int 0, .ref 4, .null], vm := .none },
  { cls := 15, slots := #[.int 119, .int 116, .int 105, .int 110, .int 121, .int 108, .int 102, .int 117], vm := .none },
  { cls := 9, slots := #[.ref 6, .int 0, .int 0, .int 0], vm := .none },
  { cls := 6, slots := #[.null, .int 1, .int 0, .ref 7, .null], vm := .none },
  { cls := 15, slots := #[.int 99, .int 97, .int 99, .int 104, .int 101], vm := .none },
  { cls := 9, slots := #[.ref 9, .int 0, .int 0, .int 0], vm := .none },
  { cls := 6, slots := #[.null, .int 2, .int 0, .ref 10, .null], vm := .none }]
def classes : Array Class := #[k0, k1, k2, k3, k4, k5, k6, k7, k8, k9, k10, k11, k12, k13, k14, k15, k16, k17]
def interned : List (Array UInt16 × Addr) := []
def slotsUsed : Nat := 58
def theMethod : MethodId := ⟨1, 1⟩
def args0 : Array Value := #[.int 5]
def aboutOver (below : List Frame) : State where
  vm := { classes := classes, interned := interned.toArray }
  heap := heap
  slotsUsed := slotsUsed
  threads := #[{ frames := .invoking theMethod args0 :: below }]
def below0 : List Frame := [.native { method := ⟨0, 0⟩, args := #[] }]
def about1 : State := aboutOver below0
def p0 : Program := .bare "" "" ""
def e0 : Env := launch0.env 0 0 0
theorem w_frames : about1.frames = Frame.invoking theMethod args0 :: below0 := rfl
set_option maxRecDepth 65536 in
theorem w_args : argsFit about1.vm theMethod args0 = true := by decide +kernel
set_option maxRecDepth 65536 in
theorem w_heap : heapFits about1 = true := by decide +kernel
set_option maxRecDepth 65536 in
theorem w_runnable : about1.curStatus? = some .runnable := by decide +kernel
set_option maxRecDepth 65536 in
theorem w_alone : about1.alone = true := by decide +kernel
set_option maxRecDepth 65536 in
theorem w_named : about1.methodNamed? x = some theMethod := by decide +kernel
set_option maxRecDepth 65536 in
theorem w_hears : about1.hears theMethod below0 = true := by decide +kernel
set_option maxRecDepth 65536 in
theorem w_ripe : about1.ripe theMethod args0 below0 = true := by decide +kernel
theorem w_running : about1.status = .running := rfl
set_option maxRecDepth 65536 in
theorem w_room : about1.hasRoom e0.platform room_1 = true :=
  launch0.hasRoom_least _ room_1 (by decide +kernel) (by decide +kernel) (by decide +kernel) (by decide +kernel) (by decide +kernel) (by decide +kernel)
theorem allAtoms_all (ts : List Jvm.Cond) (a : Array Jvm.Value) (st : Jvm.State) : (allAtoms ts).before a st = ts.all (fun c => c.before a st) := by
  induction ts with
  | nil => rfl
  | cons c t ih =>
    show (Jvm.Cond.and c (allAtoms t)).before a st = _
    rw [Jvm.Cond.before_and, ih, List.all_cons]
def words1 : List Jvm.Cond := Jvm.Cond.code x code maxLocals ret :: tables_1
/-- a 'code' word, met by the world's own term for the bytes: nothing is compared byte by byte -/
theorem code_word {y : MethodName} {bytes : ByteArray} {mx : Nat} {rt : Option FieldType} {a : Array Value} {s : State} {m : MethodId} {meth : Method} {c : Code} (h1 : s.methodNamed? y = some m) (h2 : s.vm.method? m = some meth) (h3 : meth.code = some c) (h4 : c.code = bytes)
    (h5 : (c.maxLocals == mx && c.exceptionTable.isEmpty && decide (c.maxStack ≤ mostOperands) && decide (meth.sig.returnType = rt) && !meth.locks && decide (parseMethodDescriptor y.desc = some meth.sig)) = true) : (Jvm.Cond.code y bytes mx rt).before a s = true := by
  simp only [Bool.and_eq_true, beq_iff_eq, Bool.not_eq_true', decide_eq_true_eq] at h5
  obtain ⟨⟨⟨⟨⟨g1, g2⟩, g3⟩, g4⟩, g5⟩, g6⟩ := h5
  simp [Cond.before, Cond.holds, Cond.value, h1, h2, h3, h4, g1, g2, g3, g4, g5, g6]
def isCode : Jvm.Cond → Bool
  | .code _ _ _ _ => true
  | _ => false
theorem all_split {L : List Jvm.Cond} {P : Jvm.Cond → Bool} (h1 : L.all (fun c => isCode c || P c) = true) (h2 : ∀ c ∈ L.filter isCode, P c = true) : L.all P = true := by
  refine List.all_eq_true.mpr fun c hc => ?_
  have h := List.all_eq_true.mp h1 c hc
  rcases Bool.eq_false_or_eq_true (isCode c) with hi | hi
  · exact h2 c (List.mem_filter.mpr ⟨hc, hi⟩)
  · simpa [hi] using h
set_option maxRecDepth 65536 in
theorem w_c0 : (Jvm.Cond.code x code maxLocals ret).before args0 about1 = true := code_word (m := ⟨1, 1⟩) (meth := k1m1) (c := k1c1) (by decide +kernel) rfl rfl rfl (by decide +kernel)
set_option maxRecDepth 65536 in
theorem w_c1 : (Jvm.Cond.code ({ cls := "com/example/sketchgate/sketchgate/service/PolicyType", name := "hasWindow", desc := "()Z" } : Jvm.MethodName) prog_38_method_6_code (1 : Nat) (Option.some Jvm.ClassFile.FieldType.boolean)).before args0 about1 = true := code_word (m := ⟨6, 1⟩) (meth := k6m1) (c := k6c1) (by decide +kernel) rfl rfl rfl (by decide +kernel)
set_option maxRecDepth 65536 in
theorem w_c2 : (Jvm.Cond.code ({ cls := "com/example/sketchgate/sketchgate/service/PolicyType", name := "label", desc := "()Ljava/lang/String;" } : Jvm.MethodName) prog_38_method_4_code (1 : Nat) (Option.some (Jvm.ClassFile.FieldType.object "java/lang/String"))).before args0 about1 = true := code_word (m := ⟨6, 0⟩) (meth := k6m0) (c := k6c0) (by decide +kernel) rfl rfl rfl (by decide +kernel)
set_option maxRecDepth 65536 in
theorem w_c3 : (Jvm.Cond.code ({ cls := "java/lang/String", name := "equals", desc := "(Ljava/lang/Object;)Z" } : Jvm.MethodName) jdk_42_method_66_code (3 : Nat) (Option.some Jvm.ClassFile.FieldType.boolean)).before args0 about1 = true := code_word (m := ⟨9, 1⟩) (meth := k9m1) (c := k9c1) (by decide +kernel) rfl rfl rfl (by decide +kernel)
set_option maxRecDepth 65536 in
theorem w_c4 : (Jvm.Cond.code ({ cls := "java/lang/StringLatin1", name := "equals", desc := "([B[B)Z" } : Jvm.MethodName) jdk_43_method_13_code (3 : Nat) (Option.some Jvm.ClassFile.FieldType.boolean)).before args0 about1 = true := code_word (m := ⟨10, 1⟩) (meth := k10m1) (c := k10c1) (by decide +kernel) rfl rfl rfl (by decide +kernel)
def codes1 : List Jvm.Cond := [Jvm.Cond.code x code maxLocals ret, Jvm.Cond.code ({ cls := "com/example/sketchgate/sketchgate/service/PolicyType", name := "hasWindow", desc := "()Z" } : Jvm.MethodName) prog_38_method_6_code (1 : Nat) (Option.some Jvm.ClassFile.FieldType.boolean), Jvm.Cond.code ({ cls := "com/example/sketchgate/sketchgate/service/PolicyType", name := "label", desc := "()Ljava/lang/String;" } : Jvm.MethodName) prog_38_method_4_code (1 : Nat) (Option.some (Jvm.ClassFile.FieldType.object "java/lang/String")), Jvm.Cond.code ({ cls := "java/lang/String", name := "equals", desc := "(Ljava/lang/Object;)Z" } : Jvm.MethodName) jdk_42_method_66_code (3 : Nat) (Option.some Jvm.ClassFile.FieldType.boolean), Jvm.Cond.code ({ cls := "java/lang/StringLatin1", name := "equals", desc := "([B[B)Z" } : Jvm.MethodName) jdk_43_method_13_code (3 : Nat) (Option.some Jvm.ClassFile.FieldType.boolean)]
set_option maxRecDepth 65536 in
theorem codes_eq : words1.filter isCode = codes1 := rfl
theorem w_codes : ∀ c ∈ words1.filter isCode, c.before args0 about1 = true := by
  rw [codes_eq]
  intro c hc
  simp only [codes1, List.mem_cons, List.not_mem_nil, or_false] at hc
  rcases hc with rfl | rfl | rfl | rfl | rfl
  · exact w_c0
  · exact w_c1
  · exact w_c2
  · exact w_c3
  · exact w_c4
set_option maxRecDepth 65536 in
theorem w_t1 : (words1.take 24).all (fun c => isCode c || c.before args0 about1) = true := by decide +kernel
set_option maxRecDepth 65536 in
theorem w_t2 : (words1.drop 24).all (fun c => isCode c || c.before args0 about1) = true := by decide +kernel
theorem w_tables : (allAtoms (Jvm.Cond.code x code maxLocals ret :: tables_1)).before args0 about1 = true := by
  rw [allAtoms_all]
  show words1.all (fun c => c.before args0 about1) = true
  refine all_split ?_ w_codes
  rw [← List.take_append_drop 24 words1, List.all_append, w_t1, w_t2]
  rfl
set_option maxRecDepth 65536 in
theorem w_rest : rest_1_c.before args0 about1 = true := by decide +kernel
set_option maxRecDepth 65536 in
theorem w_case : (Jvm.Cond.and given_1 narrow_1).before args0 about1 = true := by decide +kernel
set_option maxRecDepth 65536 in
theorem w_consts : constsHeld consts_1 about1 := Jvm.Lit.constsHeldB_iff.mp (by decide +kernel)
theorem w_applies : (headSpec (Jvm.Cond.code x code maxLocals ret :: tables_1) room_1).applies x e0.platform about1 = true :=
  (Spec.applies_iff w_frames).mpr ⟨w_running, w_runnable, w_alone, w_named, w_hears, w_ripe, w_room, w_tables⟩
theorem atStart : AtStart classFile x code maxLocals ret World_1 tables_1 room_1 Calls_1 rest_1 Pre_1 launch0 p0 e0 about1 theMethod args0 below0 :=
  ⟨lists_1, trivial, launch0.admits_env _ _ _, launch0.least_env, fairChoices_fair.cas, fairChoices_fair.clock, w_frames, w_args, w_heap, w_applies, ⟨w_consts, trivial⟩, w_rest, w_case⟩
end start1
theorem witness_1 : WitnessClaimed_1 := ⟨start1.p0, start1.e0, start1.about1, start1.theMethod, start1.args0, start1.below0, start1.atStart⟩
end Jvm.Pilot.@@N@@
