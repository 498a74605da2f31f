import JvmDerived
import JvmDerived.Pilot.@@N@@Statement
import JvmDerived.Pilot.@@N@@Code
set_option linter.unusedVariables false
set_option linter.unusedSimpArgs false
namespace Jvm.RoadKit
open Sem ClassFile Op Lib Jvm.Stand Jvm.Free Jvm.LawKit
section New
variable {p : Program} {l : Launch} {e : Env} {R : Room} {s : State} {m : MethodId} {args : Array Value} {below : List Frame} {meth : Method} {c : Code} {T : State} {locs : List Loc} {cells slots : Nat}
theorem retI (X : Stand p l e R s m args below meth c T locs cells slots) (hx : p.tables.exec = Jvm.exec) {pc : Nat} {Ls : Array Slot} {z : Int32} {rest : List Value} (hret : meth.sig.returnType = some .int) (hd : decode c.code pc = .ok (.ireturn, 1)) {fs : List Frame}
    (hl : ∀ (f : JFrame) (acts : List Action), f.method = m → f.locked = none → f.entered = [] → (doReturn e (T.setTop f) acts (some (.int z))).1 = T.setFrames fs) : Steps p.tables e below (T.setTop (mkF m pc Ls (.int z :: rest))) (T.setFrames fs) := by
  have hm' : T.vm.method? m = some meth := X.method'
  have hn : narrow .int (.int z) = .int z := rfl
  show Steps p.tables e below (T.setTop { method := m, pc := pc, locals := Ls, stack := _ :: rest, locked := none }) _
  jvm_step X.here [X.here.top, hx, hd, hm', hret, hn]
  first | (intro acts; rw [hl _ acts rfl rfl rfl]) | rw [hl _ _ rfl rfl rfl]
  exact Steps.refl _
end New
end Jvm.RoadKit

/- laws to paste: Road.backV (cut by pick.py; bodies as the Statement names them) -/
namespace Jvm.Pilot.@@N@@
namespace StrChars
open Jvm Sem ClassFile Op Lib Jvm.Stand Jvm.Free.XT Jvm.Free.ALB Jvm.Free.JM Jvm.Free
open Jvm.Lib.Cold (StaticIs)
/-- a char array whose places are chars -/
def Ch (a : Addr) (A : Cell) (U : State) : Prop := Arr .char a A U ∧ Typed .char A
theorem Ch.mv {a : Addr} {A : Cell} {U U' : State} (h : Ch a A U) (hal : U.vm.Alike U'.vm) (hh : U'.heap = U.heap) : Ch a A U' := ⟨h.1.mv hal hh, h.2⟩
theorem Ch.keep {a : Addr} {A : Cell} {U U' : State} (h : Ch a A U) (hal : U.vm.Alike U'.vm) (hk : U'.heap[a]? = some A) : Ch a A U' := ⟨h.1.keep hal hk, h.2⟩
/-- what place i of a char[]'s cell holds -/
def cv (A : Cell) (i : Nat) : Int32 := match A.slots[i]? with | some (.int x) => x | _ => 0
theorem Ch.get {a : Addr} {A : Cell} {U : State} (h : Ch a A U) {i : Nat} (hi : i < A.slots.size) : A.slots[i]? = some (.int (cv A i)) := by
  have e := Array.getElem?_eq_getElem hi
  have f := h.2 i _ e
  unfold cv; rw [e]
  generalize A.slots[i] = v at f
  cases v <;> simp [fits] at f ⊢
/-- the byte that i2b leaves of a char -/
def lo8 (x : Int32) : Int32 := x.toInt8.toInt32
theorem fits_lo8 (y : Int32) : fits .byte (.int (lo8 y)) = true := by
  have h1 := y.toInt8.le_toInt
  have h2 := y.toInt8.toInt_lt
  simp only [lo8, fits, Bool.and_eq_true, decide_eq_true_eq, Int32.le_iff_toInt_le, Int8.toInt_toInt32, show (-128 : Int32).toInt = -128 from by decide, show (127 : Int32).toInt = 127 from by decide]
  omega
/-- A' is A but that each place j of lo .. hi - 1 holds f j -/
def Laid (A A' : Cell) (lo hi : Nat) (f : Nat → Value) : Prop := A'.cls = A.cls ∧ A'.vm = A.vm ∧ A'.slots.size = A.slots.size ∧ ∀ i, A'.slots[i]? = if lo ≤ i ∧ i < hi then some (f i) else A.slots[i]?
theorem Laid.zero (A : Cell) (lo : Nat) (f : Nat → Value) : Laid A A lo (lo + 0) f := ⟨rfl, rfl, rfl, fun i => by rw [if_neg (by omega)]⟩
theorem Laid.step {A Ak : Cell} {lo k : Nat} {f : Nat → Value} {v : Value} (h : Laid A Ak lo k f) (hlo : lo ≤ k) (hk : k < Ak.slots.size) (hv : v = f k) : Laid A (Ak.setSlot k v) lo (k + 1) f := by
  refine ⟨h.1, h.2.1, by simpa [Cell.setSlot] using h.2.2.1, fun i => ?_⟩
  by_cases e : k = i
  · subst e; rw [Cell.slots_setSlot_self v hk, if_pos (by omega), hv]
  · rw [Cell.slots_setSlot_ne v e, h.2.2.2 i]
    by_cases q : lo ≤ i ∧ i < k
    · rw [if_pos q, if_pos (by omega)]
    · rw [if_neg q, if_neg (by omega)]
def U16 : String := "java/lang/StringUTF16"
namespace Cmp5
def yN : MethodName := ⟨"java/lang/StringUTF16", "compress", "([CI[BII)I"⟩
abbrev yB : ByteArray := jdk_52_method_21_code
theorem d0 : decode yB 0 = .ok (.iconst 0, 1) := by decide +kernel
theorem d1 : decode yB 1 = .ok (.istore 5, 2) := by decide +kernel
theorem d3 : decode yB 3 = .ok (.iload 5, 2) := by decide +kernel
theorem d5 : decode yB 5 = .ok (.iload 4, 2) := by decide +kernel
theorem d7 : decode yB 7 = .ok (.if_icmp (.ge) 37, 3) := by decide +kernel
theorem d10 : decode yB 10 = .ok (.aload_n 0, 1) := by decide +kernel
theorem d11 : decode yB 11 = .ok (.iload_n 1, 1) := by decide +kernel
theorem d12 : decode yB 12 = .ok (.caload, 1) := by decide +kernel
theorem d13 : decode yB 13 = .ok (.istore 6, 2) := by decide +kernel
theorem d15 : decode yB 15 = .ok (.iload 6, 2) := by decide +kernel
theorem d17 : decode yB 17 = .ok (.sipush 255, 3) := by decide +kernel
theorem d20 : decode yB 20 = .ok (.if_icmp (.le) 6, 3) := by decide +kernel
theorem d26 : decode yB 26 = .ok (.aload_n 2, 1) := by decide +kernel
theorem d27 : decode yB 27 = .ok (.iload_n 3, 1) := by decide +kernel
theorem d28 : decode yB 28 = .ok (.iload 6, 2) := by decide +kernel
theorem d30 : decode yB 30 = .ok (.i2b, 1) := by decide +kernel
theorem d31 : decode yB 31 = .ok (.bastore, 1) := by decide +kernel
theorem d32 : decode yB 32 = .ok (.iinc 1 1, 3) := by decide +kernel
theorem d35 : decode yB 35 = .ok (.iinc 3 1, 3) := by decide +kernel
theorem d38 : decode yB 38 = .ok (.iinc 5 1, 3) := by decide +kernel
theorem d41 : decode yB 41 = .ok (.goto (-38), 3) := by decide +kernel
theorem d44 : decode yB 44 = .ok (.iload 4, 2) := by decide +kernel
theorem d46 : decode yB 46 = .ok (.ireturn, 1) := by decide +kernel
def site : List Cond := []
def tab : Cond := tabOf yN yB 7 (some .int) site
def P (b : Addr) (A : Cell) (d : Addr) (B : Cell) (o q len : Nat) (args : Array Value) (s : State) : Prop := args = #[.ref b, .int (Int32.ofNat o), .ref d, .int (Int32.ofNat q), .int (Int32.ofNat len)] ∧ Ch b A s ∧ Arr .byte d B s ∧ b ≠ d ∧ o + len ≤ A.slots.size ∧ q + len ≤ B.slots.size ∧ ∀ i, i < len → ¬ 255 < cv A (o + i)
def E (b : Addr) (A : Cell) (d : Addr) (B : Cell) (o q len : Nat) (r : Option Value) (s u : State) : Prop := r = some (.int (Int32.ofNat len)) ∧ ∃ B', Put d B' s u ∧ Laid B B' q (q + len) (fun j => Value.int (lo8 (cv A (o + (j - q)))))
/-- no char of the range above 255: len; the places written hold each char's low byte -/
theorem law (l : Launch) (b : Addr) (A : Cell) (d : Addr) (B : Cell) (o q len : Nat) : Law l yN 5 5 0 0 yB 7 (some .int) site (P b A d B o q len) (E b A d B o q len) (copyLocs d q len) 0 0 := by
  refine Law.of_walk (plainFor_of_name (by decide +kernel)) (by decide +kernel) (by decide +kernel) (by decide) (fun _ _ h => by rw [h.1]; rfl) (fun _ U U' hal hh h => ⟨h.1, h.2.1.mv hal hh, h.2.2.1.mv hal hh, h.2.2.2⟩) (fun r U U' V V' h1 hal h2 h => ⟨h.1, h.2.elim fun B' q => ⟨B', q.1.mv h1 h2, q.2⟩⟩) ?_
  intro p e s m args below meth c s₁ X0 hexec hbytes hml hret hlk hnm hown hh0 W hP
  obtain ⟨rfl, hA, hB, hne, l1, l2, hp⟩ := hP
  have c1 : Steps p.tables e below (s₁.setTop (entryFrame m #[.ref b, .int (Int32.ofNat o), .ref d, .int (Int32.ofNat q), .int (Int32.ofNat len)] 7)) (s₁.setTop (mkF m 0 #[.val (.ref b), .val (.int (Int32.ofNat o)), .val (.ref d), .val (.int (Int32.ofNat q)), .val (.int (Int32.ofNat len)), .unset, .unset] [])) := entry rfl
  have hA0 := hA.1.mv X0.warmed.alike hh0
  have hB0 := hB.mv X0.warmed.alike hh0
  have a31 := hA.1.2.2.2
  have c2 : Steps p.tables e below (s₁.setTop (entryFrame m #[.ref b, .int (Int32.ofNat o), .ref d, .int (Int32.ofNat q), .int (Int32.ofNat len)] 7)) (s₁.setTop (mkF m 3 #[.val (.ref b), .val (.int (Int32.ofNat o)), .val (.ref d), .val (.int (Int32.ofNat q)), .val (.int (Int32.ofNat len)), .val (.int 0), .unset] [])) := c1.trans (by
    refine iconstV X0.here hexec rfl 0 (hb hbytes d0) (by decide) ?_
    refine XS.istore X0.here hexec rfl (hb hbytes d1) rfl rfl ?_
    exact Steps.refl _)
  have loop : ∀ (r i : Nat), i + r = len → ∀ (z : Slot), (z = .unset ∨ ∃ w, z = .val w ∧ w.category = 1) → ∀ (Tl : State) (Bk : Cell), Stand p l e { frames := 0, locals := 0, cells := 0, slots := 0 } s m #[.ref b, .int (Int32.ofNat o), .ref d, .int (Int32.ofNat q), .int (Int32.ofNat len)] below meth c Tl ([] ++ copyLocs d q i) 0 0 → Put d Bk s₁ Tl → Laid B Bk q (q + i) (fun j => Value.int (lo8 (cv A (o + (j - q))))) →
      Steps p.tables e below (s₁.setTop (entryFrame m #[.ref b, .int (Int32.ofNat o), .ref d, .int (Int32.ofNat q), .int (Int32.ofNat len)] 7)) (Tl.setTop (mkF m 3 #[.val (.ref b), .val (.int (Int32.ofNat (o + i))), .val (.ref d), .val (.int (Int32.ofNat (q + i))), .val (.int (Int32.ofNat len)), .val (.int (Int32.ofNat i)), z] [])) → ∃ (T' : State) (B' : Cell) (z' : Slot), Stand p l e { frames := 0, locals := 0, cells := 0, slots := 0 } s m #[.ref b, .int (Int32.ofNat o), .ref d, .int (Int32.ofNat q), .int (Int32.ofNat len)] below meth c T' ([] ++ copyLocs d q len) 0 0 ∧ Put d B' s₁ T' ∧ Laid B B' q (q + len) (fun j => Value.int (lo8 (cv A (o + (j - q))))) ∧
      Steps p.tables e below (s₁.setTop (entryFrame m #[.ref b, .int (Int32.ofNat o), .ref d, .int (Int32.ofNat q), .int (Int32.ofNat len)] 7)) (T'.setTop (mkF m 3 #[.val (.ref b), .val (.int (Int32.ofNat (o + len))), .val (.ref d), .val (.int (Int32.ofNat (q + len))), .val (.int (Int32.ofNat len)), .val (.int (Int32.ofNat len)), z'] [])) := by
    intro r
    induction r with
    | zero =>
      intro i hi z hz Tl Bk Xl pl fl cl
      have hil : i = len := by omega
      rw [hil] at Xl fl cl
      exact ⟨Tl, Bk, z, Xl, pl, fl, cl⟩
    | succ r ih =>
      intro i hi z hz Tl Bk Xl pl fl cl
      have all := X0.warmed.alike.symm.trans Xl.warmed.alike
      have hAl := hA0.keep all (pl.other hne hA0.1)
      have hBk := hB0.like all pl.1 fl.1 fl.2.1 fl.2.2.1
      have hlt : q + i < Bk.slots.size := by rw [fl.2.2.1]; omega
      have c3 : Steps p.tables e below (s₁.setTop (entryFrame m #[.ref b, .int (Int32.ofNat o), .ref d, .int (Int32.ofNat q), .int (Int32.ofNat len)] 7)) (Tl.setTop (mkF m 12 #[.val (.ref b), .val (.int (Int32.ofNat (o + i))), .val (.ref d), .val (.int (Int32.ofNat (q + i))), .val (.int (Int32.ofNat len)), .val (.int (Int32.ofNat i)), z] [.int (Int32.ofNat (o + i)), .ref b])) := cl.trans (by
        refine XS.iload Xl.here hexec rfl (hb hbytes d3) rfl ?_
        refine XS.iload Xl.here hexec rfl (hb hbytes d5) rfl ?_
        refine XS.icmpNo Xl.here hexec rfl (hb hbytes d7) rfl (ii_ge_f (lt32 (by omega) (by omega))) ?_
        refine XS.aloadN Xl.here hexec rfl (hb hbytes d10) rfl rfl ?_
        refine XS.iloadN Xl.here hexec rfl (hb hbytes d11) rfl ?_
        exact Steps.refl _)
      have c4 : Steps p.tables e below (s₁.setTop (entryFrame m #[.ref b, .int (Int32.ofNat o), .ref d, .int (Int32.ofNat q), .int (Int32.ofNat len)] 7)) (Tl.setTop (mkF m 13 #[.val (.ref b), .val (.int (Int32.ofNat (o + i))), .val (.ref d), .val (.int (Int32.ofNat (q + i))), .val (.int (Int32.ofNat len)), .val (.int (Int32.ofNat i)), z] [.int (cv A (o + i))])) := c3.trans (by
        refine Xl.aget hexec hAl rfl (hA.get (i := o + i) (by omega)) rfl rfl (hb hbytes d12) ?_
        exact Steps.refl _)
      have c5 : Steps p.tables e below (s₁.setTop (entryFrame m #[.ref b, .int (Int32.ofNat o), .ref d, .int (Int32.ofNat q), .int (Int32.ofNat len)] 7)) (Tl.setTop (mkF m 15 #[.val (.ref b), .val (.int (Int32.ofNat (o + i))), .val (.ref d), .val (.int (Int32.ofNat (q + i))), .val (.int (Int32.ofNat len)), .val (.int (Int32.ofNat i)), .val (.int (cv A (o + i)))] [])) := c4.trans (by
        refine XS.istoreS Xl.here hexec rfl (hb hbytes d13) rfl rfl hz ?_
        exact Steps.refl _)
      have c6 : Steps p.tables e below (s₁.setTop (entryFrame m #[.ref b, .int (Int32.ofNat o), .ref d, .int (Int32.ofNat q), .int (Int32.ofNat len)] 7)) (Tl.setTop (mkF m 31 #[.val (.ref b), .val (.int (Int32.ofNat (o + i))), .val (.ref d), .val (.int (Int32.ofNat (q + i))), .val (.int (Int32.ofNat len)), .val (.int (Int32.ofNat i)), .val (.int (cv A (o + i)))] [.int (lo8 (cv A (o + i))), .int (Int32.ofNat (q + i)), .ref d])) := c5.trans (by
        refine XS.iload Xl.here hexec rfl (hb hbytes d15) rfl ?_
        refine sipushV Xl.here hexec rfl 255 (hb hbytes d17) (by decide) ?_
        refine XS.icmpYes Xl.here hexec rfl (pc0 := 20) rfl (hb hbytes d20) rfl (ii_le_t (hp i (by omega))) (by decide) rfl ?_
        refine XS.aloadN Xl.here hexec rfl (hb hbytes d26) rfl rfl ?_
        refine XS.iloadN Xl.here hexec rfl (hb hbytes d27) rfl ?_
        refine XS.iload Xl.here hexec rfl (hb hbytes d28) rfl ?_
        refine i2b Xl.here hexec rfl (hb hbytes d30) rfl ?_
        exact Steps.refl _)
      obtain ⟨T7, X7, p7, st7⟩ := Xl.aput hexec hBk rfl hlt rfl (fits_lo8 (cv A (o + i))) (g := (mkF m 31 #[.val (.ref b), .val (.int (Int32.ofNat (o + i))), .val (.ref d), .val (.int (Int32.ofNat (q + i))), .val (.int (Int32.ofNat len)), .val (.int (Int32.ofNat i)), .val (.int (cv A (o + i)))] [.int (lo8 (cv A (o + i))), .int (Int32.ofNat (q + i)), .ref d])) rfl (rest := []) rfl (hb hbytes d31)
      have c8 : Steps p.tables e below (s₁.setTop (entryFrame m #[.ref b, .int (Int32.ofNat o), .ref d, .int (Int32.ofNat q), .int (Int32.ofNat len)] 7)) (T7.setTop (mkF m 32 #[.val (.ref b), .val (.int (Int32.ofNat (o + i))), .val (.ref d), .val (.int (Int32.ofNat (q + i))), .val (.int (Int32.ofNat len)), .val (.int (Int32.ofNat i)), .val (.int (cv A (o + i)))] [])) := c6.trans (st7 _ (Steps.refl _))
      have c9 : Steps p.tables e below (s₁.setTop (entryFrame m #[.ref b, .int (Int32.ofNat o), .ref d, .int (Int32.ofNat q), .int (Int32.ofNat len)] 7)) (T7.setTop (mkF m 3 #[.val (.ref b), .val (.int (Int32.ofNat (o + i) + 1)), .val (.ref d), .val (.int (Int32.ofNat (q + i) + 1)), .val (.int (Int32.ofNat len)), .val (.int (Int32.ofNat i + 1)), .val (.int (cv A (o + i)))] [])) := c8.trans (by
        refine iincV X7.here hexec rfl 1 (hb hbytes d32) (by decide) rfl rfl ?_
        refine iincV X7.here hexec rfl 1 (hb hbytes d35) (by decide) rfl rfl ?_
        refine iincV X7.here hexec rfl 1 (hb hbytes d38) (by decide) rfl rfl ?_
        refine XS.goto X7.here hexec rfl (pc0 := 41) rfl (hb hbytes d41) (by decide) rfl ?_
        exact Steps.refl _)
      have c10 : Steps p.tables e below (s₁.setTop (entryFrame m #[.ref b, .int (Int32.ofNat o), .ref d, .int (Int32.ofNat q), .int (Int32.ofNat len)] 7)) (T7.setTop (mkF m 3 #[.val (.ref b), .val (.int (Int32.ofNat (o + (i + 1)))), .val (.ref d), .val (.int (Int32.ofNat (q + (i + 1)))), .val (.int (Int32.ofNat len)), .val (.int (Int32.ofNat (i + 1))), .val (.int (cv A (o + i)))] [])) := by
        have := c9
        rw [succ32, succ32, succ32] at this
        exact this
      exact ih (i + 1) (by omega) _ (Or.inr ⟨_, rfl, rfl⟩) T7 _ (by rw [copyLocs_step, ← List.append_assoc]; exact X7) (pl.trans p7) (fl.step (by omega) hlt (by simp)) c10
  obtain ⟨T9, B9, z9, X9, p9, f9, g9⟩ := loop len 0 (by omega) .unset (Or.inl rfl) s₁ B (by simpa [copyLocs] using X0) ⟨hB0.1, fun _ _ => rfl, rfl⟩ (Laid.zero _ _ _) c2
  have c11 : Steps p.tables e below (s₁.setTop (entryFrame m #[.ref b, .int (Int32.ofNat o), .ref d, .int (Int32.ofNat q), .int (Int32.ofNat len)] 7)) (T9.setTop (mkF m 46 #[.val (.ref b), .val (.int (Int32.ofNat (o + len))), .val (.ref d), .val (.int (Int32.ofNat (q + len))), .val (.int (Int32.ofNat len)), .val (.int (Int32.ofNat len)), z9] [.int (Int32.ofNat len)])) := g9.trans (by
    refine XS.iload X9.here hexec rfl (hb hbytes d3) rfl ?_
    refine XS.iload X9.here hexec rfl (hb hbytes d5) rfl ?_
    refine XS.icmpYes X9.here hexec rfl (pc0 := 7) rfl (hb hbytes d7) rfl (ii_ge_t (nlt32 (by omega) (Nat.le_refl _))) (by decide) rfl ?_
    refine XS.iload X9.here hexec rfl (hb hbytes d44) rfl ?_
    exact Steps.refl _)
  exact ⟨T9, some (.int (Int32.ofNat len)), _, _, _, X9, by simp, rfl, rfl, (fun h => by cases h), ⟨rfl, B9, p9.from hh0, f9⟩, fun fs hl => c11.trans (X9.ireturnOut hexec hret rfl (Or.inl rfl) (hb hbytes d46) hl)⟩
end Cmp5
namespace Cmp3
def yN : MethodName := ⟨"java/lang/StringUTF16", "compress", "([CII)[B"⟩
abbrev yB : ByteArray := jdk_52_method_16_code
theorem d0 : decode yB 0 = .ok (.iload_n 2, 1) := by decide +kernel
theorem d1 : decode yB 1 = .ok (.newarray .byte, 2) := by decide +kernel
theorem d3 : decode yB 3 = .ok (.astore_n 3, 1) := by decide +kernel
theorem d4 : decode yB 4 = .ok (.aload_n 0, 1) := by decide +kernel
theorem d5 : decode yB 5 = .ok (.iload_n 1, 1) := by decide +kernel
theorem d6 : decode yB 6 = .ok (.aload_n 3, 1) := by decide +kernel
theorem d7 : decode yB 7 = .ok (.iconst 0, 1) := by decide +kernel
theorem d8 : decode yB 8 = .ok (.iload_n 2, 1) := by decide +kernel
theorem d9 : decode yB 9 = .ok (.invokestatic 115, 3) := by decide +kernel
theorem d12 : decode yB 12 = .ok (.istore 4, 2) := by decide +kernel
theorem d14 : decode yB 14 = .ok (.iload 4, 2) := by decide +kernel
theorem d16 : decode yB 16 = .ok (.iload_n 2, 1) := by decide +kernel
theorem d17 : decode yB 17 = .ok (.if_icmp (.eq) 40, 3) := by decide +kernel
theorem d57 : decode yB 57 = .ok (.aload_n 3, 1) := by decide +kernel
theorem d58 : decode yB 58 = .ok (.areturn, 1) := by decide +kernel
def site : List Cond := [.arrayClass .byte, Cmp5.tab] ++ staticW U16 115 Cmp5.yN
def tab : Cond := tabOf yN yB 6 (some (.array .byte)) site
def P (b : Addr) (A : Cell) (o len : Nat) (args : Array Value) (s : State) : Prop := args = #[.ref b, .int (Int32.ofNat o), .int (Int32.ofNat len)] ∧ Ch b A s ∧ o + len ≤ A.slots.size ∧ len ≤ 536870912 ∧ ∀ i, i < len → ¬ 255 < cv A (o + i)
def E (b : Addr) (A : Cell) (o len : Nat) (r : Option Value) (s u : State) : Prop := NewArr .byte "[B" len (fun j => .int (lo8 (cv A (o + j)))) r s u ∧ u.heap.size = s.heap.size + 1
/-- no char of the range above 255: a new byte[] of their low bytes -/
theorem law (l : Launch) (b : Addr) (A : Cell) (o len : Nat) : Law l yN 3 3 1 18 yB 6 (some (.array .byte)) site (P b A o len) (E b A o len) [] 1 len := by
  refine Law.of_walk (plainFor_of_name (by decide +kernel)) (by decide +kernel) (by decide +kernel) (by decide) (fun _ _ h => by rw [h.1]; rfl) (fun _ U U' hal hh h => ⟨h.1, h.2.1.mv hal hh, h.2.2⟩) (fun r U U' V V' h1 hal h2 h => ⟨NewArr.mv r U U' V V' h1 hal h2 h.1, by rw [h1, h2]; exact h.2⟩) ?_
  intro p e s m args below meth c s₁ X0 hexec hbytes hml hret hlk hnm hown hh0 W hP
  obtain ⟨rfl, hA, l1, l2, hp⟩ := hP
  have a31 := hA.1.2.2.2
  have c1 : Steps p.tables e below (s₁.setTop (entryFrame m #[.ref b, .int (Int32.ofNat o), .int (Int32.ofNat len)] 6)) (s₁.setTop (mkF m 0 #[.val (.ref b), .val (.int (Int32.ofNat o)), .val (.int (Int32.ofNat len)), .unset, .unset, .unset] [])) := entry rfl
  have c2 : Steps p.tables e below (s₁.setTop (entryFrame m #[.ref b, .int (Int32.ofNat o), .int (Int32.ofNat len)] 6)) (s₁.setTop (mkF m 1 #[.val (.ref b), .val (.int (Int32.ofNat o)), .val (.int (Int32.ofNat len)), .unset, .unset, .unset] [.int (Int32.ofNat len)])) := c1.trans (by
    refine XS.iloadN X0.here hexec rfl (hb hbytes d0) rfl ?_
    exact Steps.refl _)
  obtain ⟨T3, B3, X3, ba3, bs3, bv3, bh3, bf3, st3⟩ := X0.anew hexec (atype := .byte) (wk W (.arrayClass .byte)) rfl (by show len * 1 ≤ _; omega) (by omega) (g := (mkF m 1 #[.val (.ref b), .val (.int (Int32.ofNat o)), .val (.int (Int32.ofNat len)), .unset, .unset, .unset] [.int (Int32.ofNat len)])) rfl (hb hbytes d1) (rest := []) rfl (Nat.le_refl _) (by show 0 + len ≤ len; omega)
  rw [hh0] at ba3 st3
  have kp3 : XT.Kept s T3 := (XT.Kept.of_eq hh0).push bh3
  have hA3 := hA.keep X3.warmed.alike (kp3 _ _ hA.1.1)
  have hne : b ≠ s.heap.size := hA.1.ne
  have c4 : Steps p.tables e below (s₁.setTop (entryFrame m #[.ref b, .int (Int32.ofNat o), .int (Int32.ofNat len)] 6)) (T3.setTop (mkF m 3 #[.val (.ref b), .val (.int (Int32.ofNat o)), .val (.int (Int32.ofNat len)), .unset, .unset, .unset] [.ref s.heap.size])) := c2.trans (st3 _ (Steps.refl _))
  have c5 : Steps p.tables e below (s₁.setTop (entryFrame m #[.ref b, .int (Int32.ofNat o), .int (Int32.ofNat len)] 6)) (T3.setTop (mkF m 9 #[.val (.ref b), .val (.int (Int32.ofNat o)), .val (.int (Int32.ofNat len)), .val (.ref s.heap.size), .unset, .unset] [.int (Int32.ofNat len), .int 0, .ref s.heap.size, .int (Int32.ofNat o), .ref b])) := c4.trans (by
    refine XS.astoreN X3.here hexec rfl (hb hbytes d3) rfl rfl rfl ?_
    refine XS.aloadN X3.here hexec rfl (hb hbytes d4) rfl rfl ?_
    refine XS.iloadN X3.here hexec rfl (hb hbytes d5) rfl ?_
    refine XS.aloadN X3.here hexec rfl (hb hbytes d6) rfl rfl ?_
    refine iconstV X3.here hexec rfl 0 (hb hbytes d7) (by decide) ?_
    refine XS.iloadN X3.here hexec rfl (hb hbytes d8) rfl ?_
    exact Steps.refl _)
  obtain ⟨v6, T6, X6, E6, g6⟩ := X3.callS hexec (Cmp5.law l b A s.heap.size B3 o 0 len) hown (wks W (staticW U16 115 Cmp5.yN)) (wk W Cmp5.tab) (W := 0) (Nat.le_of_ble_eq_true rfl) (Nat.le_of_ble_eq_true rfl) (Nat.le_refl _) (by show 0 + len + 0 ≤ len; omega) (g := (mkF m 9 #[.val (.ref b), .val (.int (Int32.ofNat o)), .val (.int (Int32.ofNat len)), .val (.ref s.heap.size), .unset, .unset] [.int (Int32.ofNat len), .int (Int32.ofNat 0), .ref s.heap.size, .int (Int32.ofNat o), .ref b])) rfl (by rw [hml]; rfl) c5 (argsL := [.ref b, .int (Int32.ofNat o), .ref s.heap.size, .int (Int32.ofNat 0), .int (Int32.ofNat len)]) (rest := []) rfl rfl (by show 2 * 0 + 0 ≤ _; decide) (hb hbytes d9) (⟨rfl, hA3, ba3, hne, l1, by rw [bs3]; simp, hp⟩)
  obtain ⟨rfl, B6, p6, f6⟩ := E6
  have c7 : Steps p.tables e below (s₁.setTop (entryFrame m #[.ref b, .int (Int32.ofNat o), .int (Int32.ofNat len)] 6)) (T6.setTop (mkF m 12 #[.val (.ref b), .val (.int (Int32.ofNat o)), .val (.int (Int32.ofNat len)), .val (.ref s.heap.size), .unset, .unset] [.int (Int32.ofNat len)])) := g6
  have c8 : Steps p.tables e below (s₁.setTop (entryFrame m #[.ref b, .int (Int32.ofNat o), .int (Int32.ofNat len)] 6)) (T6.setTop (mkF m 58 #[.val (.ref b), .val (.int (Int32.ofNat o)), .val (.int (Int32.ofNat len)), .val (.ref s.heap.size), .val (.int (Int32.ofNat len)), .unset] [.ref s.heap.size])) := c7.trans (by
    refine XS.istore X6.here hexec rfl (hb hbytes d12) rfl rfl ?_
    refine XS.iload X6.here hexec rfl (hb hbytes d14) rfl ?_
    refine XS.iloadN X6.here hexec rfl (hb hbytes d16) rfl ?_
    refine XS.icmpYes X6.here hexec rfl (pc0 := 17) rfl (hb hbytes d17) rfl (ii_eq_t rfl) (by decide) rfl ?_
    refine XS.aloadN X6.here hexec rfl (hb hbytes d57) rfl rfl ?_
    exact Steps.refl _)
  have X8 := X6.wide (L' := []) (cells' := 1) (slots' := len) (fun x hx hlt => by
    simp only [List.nil_append, copyLocs, List.mem_map, List.mem_range] at hx
    obtain ⟨i, -, rfl⟩ := hx
    exact absurd hlt (Nat.lt_irrefl _)) (Nat.le_refl _) (by omega)
  exact ⟨T6, some (.ref s.heap.size), _, _, _, X8, rfl, rfl, rfl, (fun h => by cases h), ⟨⟨rfl, B6, ba3.like (X3.warmed.alike.symm.trans X6.warmed.alike) p6.1 f6.1 f6.2.1 f6.2.2.1, f6.2.1.trans bv3, by rw [X6.warmed.alike.findClass, f6.1]; exact bf3, by rw [f6.2.2.1, bs3]; simp, fun j hj => by rw [f6.2.2.2 j, if_pos (by omega)]; rfl, kp3.put p6 (Nat.le_refl _)⟩, by rw [p6.2.2, bh3, hh0]; simp⟩, fun fs hl => c8.trans (X8.areturnOut hexec rfl hret rfl (hb hbytes d58) hl)⟩
end Cmp3
namespace CodL
def yN : MethodName := ⟨"java/lang/StringUTF16", "coderFromArrayLen", "([BI)B"⟩
abbrev yB : ByteArray := jdk_52_method_15_code
theorem d0 : decode yB 0 = .ok (.iload_n 1, 1) := by decide +kernel
theorem d1 : decode yB 1 = .ok (.aload_n 0, 1) := by decide +kernel
theorem d2 : decode yB 2 = .ok (.arraylength, 1) := by decide +kernel
theorem d3 : decode yB 3 = .ok (.isub, 1) := by decide +kernel
theorem d4 : decode yB 4 = .ok (.bipush 31, 2) := by decide +kernel
theorem d6 : decode yB 6 = .ok (.iushr, 1) := by decide +kernel
theorem d7 : decode yB 7 = .ok (.i2b, 1) := by decide +kernel
theorem d8 : decode yB 8 = .ok (.ireturn, 1) := by decide +kernel
def site : List Cond := []
def tab : Cond := tabOf yN yB 2 (some .byte) site
def P (d : Addr) (B : Cell) (args : Array Value) (s : State) : Prop := args = #[.ref d, .int (Int32.ofNat B.slots.size)] ∧ Arr .byte d B s
def E (r : Option Value) (s u : State) : Prop := XT.PureE (some (.int 0)) r s u
/-- an array as long as the number of chars: LATIN1 -/
theorem law (l : Launch) (d : Addr) (B : Cell) : Law l yN 2 2 0 0 yB 2 (some .byte) site (P d B) E [] 0 0 := by
  refine Law.of_walk (plainFor_of_name (by decide +kernel)) (by decide +kernel) (by decide +kernel) (by decide) (fun _ _ h => by rw [h.1]; rfl) (fun _ U U' hal hh h => ⟨h.1, h.2.mv hal hh⟩) (fun r U U' V V' h1 hal h2 h => XT.PureE.mv r U U' V V' h1 hal h2 h) ?_
  intro p e s m args below meth c s₁ X0 hexec hbytes hml hret hlk hnm hown hh0 W hP
  obtain ⟨rfl, hB⟩ := hP
  have hB0 := hB.mv X0.warmed.alike hh0
  have c1 : Steps p.tables e below (s₁.setTop (entryFrame m #[.ref d, .int (Int32.ofNat B.slots.size)] 2)) (s₁.setTop (mkF m 0 #[.val (.ref d), .val (.int (Int32.ofNat B.slots.size))] [])) := entry rfl
  have c2 : Steps p.tables e below (s₁.setTop (entryFrame m #[.ref d, .int (Int32.ofNat B.slots.size)] 2)) (s₁.setTop (mkF m 2 #[.val (.ref d), .val (.int (Int32.ofNat B.slots.size))] [.ref d, .int (Int32.ofNat B.slots.size)])) := c1.trans (by
    refine XS.iloadN X0.here hexec rfl (hb hbytes d0) rfl ?_
    refine XS.aloadN X0.here hexec rfl (hb hbytes d1) rfl rfl ?_
    exact Steps.refl _)
  have c3 : Steps p.tables e below (s₁.setTop (entryFrame m #[.ref d, .int (Int32.ofNat B.slots.size)] 2)) (s₁.setTop (mkF m 8 #[.val (.ref d), .val (.int (Int32.ofNat B.slots.size))] [.int (lo8 (ushr (Int32.ofNat B.slots.size - Int32.ofNat B.slots.size) 31))])) := c2.trans (by
    refine X0.alen hexec hB0 rfl rfl (hb hbytes d2) ?_
    refine XS.isub X0.here hexec rfl (hb hbytes d3) rfl ?_
    refine bipushV X0.here hexec rfl 31 (hb hbytes d4) (by decide) ?_
    refine iushr X0.here hexec rfl (hb hbytes d6) rfl ?_
    refine i2b X0.here hexec rfl (hb hbytes d7) rfl ?_
    exact Steps.refl _)
  have e0 : lo8 (ushr (Int32.ofNat B.slots.size - Int32.ofNat B.slots.size) 31) = 0 := by rw [Int32.sub_self]; decide
  rw [e0] at c3
  exact ⟨s₁, some (.int 0), _, _, _, X0, rfl, rfl, rfl, (fun h => by cases h), ⟨rfl, hh0⟩, fun fs hl => c3.trans (X0.ireturnOut hexec hret rfl (Or.inr (Or.inr (Or.inl rfl))) (hb hbytes d8) hl)⟩
end CodL
/-- the String at a is Latin-1 over a new byte[] (the heap's one new cell): the low bytes of the len chars of A from o on; every cell but a is kept -/
def Got (a : Addr) (D : Cell) (fV fC : Field) (A : Cell) (o len : Nat) (r : Option Value) (s u : State) : Prop := r = none ∧ ∃ D' V : Cell, Blank "java/lang/String" a D' u ∧ Same D D' [fV.slot, fC.slot] ∧ D'.slots[fV.slot]? = some (.ref s.heap.size) ∧ D'.slots[fC.slot]? = some (.int 0) ∧ Arr .byte s.heap.size V u ∧ V.vm = .none ∧ u.vm.findClass "[B" = some V.cls ∧ V.slots.size = len ∧ (∀ j, j < len → V.slots[j]? = some (.int (lo8 (cv A (o + j))))) ∧ (∀ (y : Addr) (c : Cell), y ≠ a → s.heap[y]? = some c → u.heap[y]? = some c) ∧ u.heap.size = s.heap.size + 1
theorem Got.mv {a : Addr} {D A : Cell} {fV fC : Field} {o len : Nat} : ∀ r (U U' V V' : State), U'.heap = U.heap → V.vm.Alike V'.vm → V'.heap = V.heap → Got a D fV fC A o len r U V → Got a D fV fC A o len r U' V' :=
  fun r U U' V V' h1 hal h2 ⟨e0, D', X, a1, a2, a3, a4, a5, a6, a7, a8, a9, a10, a11⟩ => ⟨e0, D', X, a1.mv hal h2, a2, by rw [h1]; exact a3, a4, by rw [h1]; exact a5.mv hal h2, a6, by rw [hal.findClass]; exact a7, a8, a9, by rw [h1, h2]; exact a10, by rw [h1, h2]; exact a11⟩
namespace New4
def yN : MethodName := ⟨"java/lang/String", "<init>", "([CIILjava/lang/Void;)V"⟩
abbrev yB : ByteArray := jdk_42_method_149_code
theorem d0 : decode yB 0 = .ok (.aload_n 0, 1) := by decide +kernel
theorem d1 : decode yB 1 = .ok (.invokespecial 1, 3) := by decide +kernel
theorem d4 : decode yB 4 = .ok (.iload_n 3, 1) := by decide +kernel
theorem d5 : decode yB 5 = .ok (.ifCond (.ne) 22, 3) := by decide +kernel
theorem d27 : decode yB 27 = .ok (.getstatic 38, 3) := by decide +kernel
theorem d30 : decode yB 30 = .ok (.ifCond (.eq) 28, 3) := by decide +kernel
theorem d33 : decode yB 33 = .ok (.aload_n 1, 1) := by decide +kernel
theorem d34 : decode yB 34 = .ok (.iload_n 2, 1) := by decide +kernel
theorem d35 : decode yB 35 = .ok (.iload_n 3, 1) := by decide +kernel
theorem d36 : decode yB 36 = .ok (.invokestatic 177, 3) := by decide +kernel
theorem d39 : decode yB 39 = .ok (.astore 5, 2) := by decide +kernel
theorem d41 : decode yB 41 = .ok (.aload_n 0, 1) := by decide +kernel
theorem d42 : decode yB 42 = .ok (.aload 5, 2) := by decide +kernel
theorem d44 : decode yB 44 = .ok (.iload_n 3, 1) := by decide +kernel
theorem d45 : decode yB 45 = .ok (.invokestatic 47, 3) := by decide +kernel
theorem d48 : decode yB 48 = .ok (.putfield 15, 3) := by decide +kernel
theorem d51 : decode yB 51 = .ok (.aload_n 0, 1) := by decide +kernel
theorem d52 : decode yB 52 = .ok (.aload 5, 2) := by decide +kernel
theorem d54 : decode yB 54 = .ok (.putfield 9, 3) := by decide +kernel
theorem d57 : decode yB 57 = .ok (.return_, 1) := by decide +kernel
def site : List Cond := [.fieldLink "java/lang/String" 38 "java/lang/String" "COMPACT_STRINGS" "Z", Cmp3.tab, CodL.tab, .laysFinal "java/lang/String" "java/lang/String" "value" "[B", .fieldLink "java/lang/String" 9 "java/lang/String" "value" "[B", .laysFinal "java/lang/String" "java/lang/String" "coder" "B", .fieldLink "java/lang/String" 15 "java/lang/String" "coder" "B"] ++ objW "java/lang/String" 1 ++ staticW "java/lang/String" 177 Cmp3.yN ++ staticW "java/lang/String" 47 CodL.yN
def tab : Cond := tabOf yN yB 6 none site
def P (a : Addr) (D : Cell) (fV fC : Field) (b : Addr) (A : Cell) (z : Int32) (o len : Nat) (args : Array Value) (s : State) : Prop := args = #[.ref a, .ref b, .int (Int32.ofNat o), .int (Int32.ofNat len), .null] ∧ Blank "java/lang/String" a D s ∧ Found "java/lang/String" "value" "[B" fV s ∧ Found "java/lang/String" "coder" "B" fC s ∧ Ch b A s ∧ StaticIs s "java/lang/String" "COMPACT_STRINGS" "Z" (.int z) ∧ ¬ z = 0 ∧ 0 < len ∧ o + len ≤ A.slots.size ∧ len ≤ 536870912 ∧ ∀ i, i < len → ¬ 255 < cv A (o + i)
def E (a : Addr) (D : Cell) (fV fC : Field) (A : Cell) (o len : Nat) (r : Option Value) (s u : State) : Prop := Got a D fV fC A o len r s u
/-- len > 0, no char of the range above 255: a Latin-1 String of their low bytes -/
theorem law (l : Launch) (a : Addr) (D : Cell) (fV fC : Field) (b : Addr) (A : Cell) (z : Int32) (o len : Nat) : Law l yN 5 4 2 35 yB 6 none site (P a D fV fC b A z o len) (E a D fV fC A o len) [⟨a, fC.slot⟩, ⟨a, fV.slot⟩] 1 len := by
  refine Law.of_walk (plainFor_of_name (by decide +kernel)) (by decide +kernel) (by decide +kernel) (by decide) (fun _ _ h => by rw [h.1]; rfl) (fun _ U U' hal hh h => ⟨h.1, h.2.1.mv hal hh, h.2.2.1.al hal, h.2.2.2.1.al hal, h.2.2.2.2.1.mv hal hh, h.2.2.2.2.2.1.there hal hh, h.2.2.2.2.2.2⟩) (fun r U U' V V' h1 hal h2 h => Got.mv r U U' V V' h1 hal h2 h) ?_
  intro p e s m args below meth c s₁ X0 hexec hbytes hml hret hlk hnm hown hh0 W hP
  obtain ⟨rfl, hB, f1, f2, hA, s1, hz, l0, l1, l2, hp⟩ := hP
  have a31 := hA.1.2.2.2
  have c1 : Steps p.tables e below (s₁.setTop (entryFrame m #[.ref a, .ref b, .int (Int32.ofNat o), .int (Int32.ofNat len), .null] 6)) (s₁.setTop (mkF m 0 #[.val (.ref a), .val (.ref b), .val (.int (Int32.ofNat o)), .val (.int (Int32.ofNat len)), .val .null, .unset] [])) := entry rfl
  have c2 : Steps p.tables e below (s₁.setTop (entryFrame m #[.ref a, .ref b, .int (Int32.ofNat o), .int (Int32.ofNat len), .null] 6)) (s₁.setTop (mkF m 1 #[.val (.ref a), .val (.ref b), .val (.int (Int32.ofNat o)), .val (.int (Int32.ofNat len)), .val .null, .unset] [.ref a])) := c1.trans (by
    refine XS.aloadN X0.here hexec rfl (hb hbytes d0) rfl rfl ?_
    exact Steps.refl _)
  obtain ⟨T3, X3, q3, st3⟩ := X0.oinit hexec hown (wks W (objW "java/lang/String" 1)) (g := (mkF m 1 #[.val (.ref a), .val (.ref b), .val (.int (Int32.ofNat o)), .val (.int (Int32.ofNat len)), .val .null, .unset] [.ref a])) rfl (by rw [hml]; rfl) (rest := []) rfl (hb hbytes d1) (W := 0) (by show 2 * 0 + 0 ≤ _; decide) (Nat.le_of_ble_eq_true rfl) (Nat.le_of_ble_eq_true rfl)
  have hh3 := q3.trans hh0
  have c4 : Steps p.tables e below (s₁.setTop (entryFrame m #[.ref a, .ref b, .int (Int32.ofNat o), .int (Int32.ofNat len), .null] 6)) (T3.setTop (mkF m 27 #[.val (.ref a), .val (.ref b), .val (.int (Int32.ofNat o)), .val (.int (Int32.ofNat len)), .val .null, .unset] [])) := (c2.trans (st3 _ (Steps.refl _))).trans (by
    refine XS.iloadN X3.here hexec rfl (hb hbytes d4) rfl ?_
    refine XS.ifYes X3.here hexec rfl (pc0 := 5) rfl (hb hbytes d5) rfl (i0_ne_t (nz32 (by omega) l0)) (by decide) rfl ?_
    exact Steps.refl _)
  obtain ⟨T5, X5, q5, st5⟩ := X3.sget hexec hown (wk W (.fieldLink "java/lang/String" 38 "java/lang/String" "COMPACT_STRINGS" "Z")) s1 (fun _ _ h => by rw [hh3]; exact h) (g := (mkF m 27 #[.val (.ref a), .val (.ref b), .val (.int (Int32.ofNat o)), .val (.int (Int32.ofNat len)), .val .null, .unset] [])) rfl (hb hbytes d27)
  have hh5 := q5.trans hh3
  have c6 : Steps p.tables e below (s₁.setTop (entryFrame m #[.ref a, .ref b, .int (Int32.ofNat o), .int (Int32.ofNat len), .null] 6)) (T5.setTop (mkF m 30 #[.val (.ref a), .val (.ref b), .val (.int (Int32.ofNat o)), .val (.int (Int32.ofNat len)), .val .null, .unset] [.int z])) := c4.trans (st5 _ (Steps.refl _))
  have c7 : Steps p.tables e below (s₁.setTop (entryFrame m #[.ref a, .ref b, .int (Int32.ofNat o), .int (Int32.ofNat len), .null] 6)) (T5.setTop (mkF m 36 #[.val (.ref a), .val (.ref b), .val (.int (Int32.ofNat o)), .val (.int (Int32.ofNat len)), .val .null, .unset] [.int (Int32.ofNat len), .int (Int32.ofNat o), .ref b])) := c6.trans (by
    refine XS.ifNo X5.here hexec rfl (hb hbytes d30) rfl (i0_eq_f hz) ?_
    refine XS.aloadN X5.here hexec rfl (hb hbytes d33) rfl rfl ?_
    refine XS.iloadN X5.here hexec rfl (hb hbytes d34) rfl ?_
    refine XS.iloadN X5.here hexec rfl (hb hbytes d35) rfl ?_
    exact Steps.refl _)
  obtain ⟨v8, T8, X8, E8, g8⟩ := X5.callS hexec (Cmp3.law l b A o len) hown (wks W (staticW "java/lang/String" 177 Cmp3.yN)) (wk W Cmp3.tab) (W := 0) (Nat.le_of_ble_eq_true rfl) (Nat.le_of_ble_eq_true rfl) (Nat.le_refl _) (by show 0 + len ≤ len; omega) (g := (mkF m 36 #[.val (.ref a), .val (.ref b), .val (.int (Int32.ofNat o)), .val (.int (Int32.ofNat len)), .val .null, .unset] [.int (Int32.ofNat len), .int (Int32.ofNat o), .ref b])) rfl (by rw [hml]; rfl) c7 (argsL := [.ref b, .int (Int32.ofNat o), .int (Int32.ofNat len)]) (rest := []) rfl rfl (by show 2 * 0 + 0 ≤ _; decide) (hb hbytes d36) (⟨rfl, hA.mv X5.warmed.alike hh5, l1, l2, hp⟩)
  obtain ⟨e8, z8⟩ := E8
  obtain ⟨rfl, N, n1, n2, n3, n4, n5, n6⟩ := NewArr.mv _ T5 s _ _ hh5.symm (Vm.Alike.refl _) rfl e8
  rw [hh5] at z8
  have hB1 := hB.keep X8.warmed.alike (n6 _ _ hB.1)
  have hne : s.heap.size ≠ a := (Nat.ne_of_lt (Array.getElem?_eq_some_iff.mp hB.1).1).symm
  have c9 : Steps p.tables e below (s₁.setTop (entryFrame m #[.ref a, .ref b, .int (Int32.ofNat o), .int (Int32.ofNat len), .null] 6)) (T8.setTop (mkF m 39 #[.val (.ref a), .val (.ref b), .val (.int (Int32.ofNat o)), .val (.int (Int32.ofNat len)), .val .null, .unset] [.ref s.heap.size])) := g8
  have c10 : Steps p.tables e below (s₁.setTop (entryFrame m #[.ref a, .ref b, .int (Int32.ofNat o), .int (Int32.ofNat len), .null] 6)) (T8.setTop (mkF m 45 #[.val (.ref a), .val (.ref b), .val (.int (Int32.ofNat o)), .val (.int (Int32.ofNat len)), .val .null, .val (.ref s.heap.size)] [.int (Int32.ofNat N.slots.size), .ref s.heap.size, .ref a])) := by
    have hc : Steps p.tables e below (s₁.setTop (entryFrame m #[.ref a, .ref b, .int (Int32.ofNat o), .int (Int32.ofNat len), .null] 6)) (T8.setTop (mkF m 45 #[.val (.ref a), .val (.ref b), .val (.int (Int32.ofNat o)), .val (.int (Int32.ofNat len)), .val .null, .val (.ref s.heap.size)] [.int (Int32.ofNat len), .ref s.heap.size, .ref a])) := c9.trans (by
      refine XS.astore X8.here hexec rfl (hb hbytes d39) rfl rfl rfl ?_
      refine XS.aloadN X8.here hexec rfl (hb hbytes d41) rfl rfl ?_
      refine XS.aload X8.here hexec rfl (hb hbytes d42) rfl rfl ?_
      refine XS.iloadN X8.here hexec rfl (hb hbytes d44) rfl ?_
      exact Steps.refl _)
    rw [n4]; exact hc
  obtain ⟨v11, T11, X11, E11, g11⟩ := X8.callS hexec (CodL.law l s.heap.size N) hown (wks W (staticW "java/lang/String" 47 CodL.yN)) (wk W CodL.tab) (W := 1) (Nat.le_of_ble_eq_true rfl) (Nat.le_of_ble_eq_true rfl) (Nat.le_refl _) (by show 0 + len + 0 ≤ len; omega) (g := (mkF m 45 #[.val (.ref a), .val (.ref b), .val (.int (Int32.ofNat o)), .val (.int (Int32.ofNat len)), .val .null, .val (.ref s.heap.size)] [.int (Int32.ofNat N.slots.size), .ref s.heap.size, .ref a])) rfl (by rw [hml]; rfl) c10 (argsL := [.ref s.heap.size, .int (Int32.ofNat N.slots.size)]) (rest := [.ref a]) rfl rfl (by show 2 * 0 + (1 + 0) ≤ _; decide) (hb hbytes d45) (⟨rfl, n1⟩)
  obtain ⟨rfl, q11⟩ := E11
  have hB11 := hB1.mv (X8.warmed.alike.symm.trans X11.warmed.alike) q11
  have c12 : Steps p.tables e below (s₁.setTop (entryFrame m #[.ref a, .ref b, .int (Int32.ofNat o), .int (Int32.ofNat len), .null] 6)) (T11.setTop (mkF m 48 #[.val (.ref a), .val (.ref b), .val (.int (Int32.ofNat o)), .val (.int (Int32.ofNat len)), .val .null, .val (.ref s.heap.size)] [.int 0, .ref a])) := g11
  obtain ⟨T13, X13, p13, bl13, sl13, st13⟩ := X11.finit hexec hown (wk W (.fieldLink "java/lang/String" 15 "java/lang/String" "coder" "B")) (Or.inr ⟨_, (wk W (.laysFinal "java/lang/String" "java/lang/String" "coder" "B"))⟩) (Or.inl ⟨rfl, hnm⟩) f2 (Or.inl rfl) hB11 (t := .byte) (by decide +kernel) rfl (g := (mkF m 48 #[.val (.ref a), .val (.ref b), .val (.int (Int32.ofNat o)), .val (.int (Int32.ofNat len)), .val .null, .val (.ref s.heap.size)] [.int 0, .ref a])) rfl (rest := []) rfl (hb hbytes d48)
  have c14 : Steps p.tables e below (s₁.setTop (entryFrame m #[.ref a, .ref b, .int (Int32.ofNat o), .int (Int32.ofNat len), .null] 6)) (T13.setTop (mkF m 54 #[.val (.ref a), .val (.ref b), .val (.int (Int32.ofNat o)), .val (.int (Int32.ofNat len)), .val .null, .val (.ref s.heap.size)] [.ref s.heap.size, .ref a])) := (c12.trans (st13 _ (Steps.refl _))).trans (by
    refine XS.aloadN X13.here hexec rfl (hb hbytes d51) rfl rfl ?_
    refine XS.aload X13.here hexec rfl (hb hbytes d52) rfl rfl ?_
    exact Steps.refl _)
  obtain ⟨T15, X15, p15, bl15, sl15, st15⟩ := X13.finit hexec hown (wk W (.fieldLink "java/lang/String" 9 "java/lang/String" "value" "[B")) (Or.inr ⟨_, (wk W (.laysFinal "java/lang/String" "java/lang/String" "value" "[B"))⟩) (Or.inl ⟨rfl, hnm⟩) f1 (Or.inl rfl) bl13 (t := (.array .byte)) (by decide +kernel) rfl (g := (mkF m 54 #[.val (.ref a), .val (.ref b), .val (.int (Int32.ofNat o)), .val (.int (Int32.ofNat len)), .val .null, .val (.ref s.heap.size)] [.ref s.heap.size, .ref a])) rfl (rest := []) rfl (hb hbytes d54)
  have c16 : Steps p.tables e below (s₁.setTop (entryFrame m #[.ref a, .ref b, .int (Int32.ofNat o), .int (Int32.ofNat len), .null] 6)) (T15.setTop (mkF m 57 #[.val (.ref a), .val (.ref b), .val (.int (Int32.ofNat o)), .val (.int (Int32.ofNat len)), .val .null, .val (.ref s.heap.size)] [])) := c14.trans (st15 _ (Steps.refl _))
  have ap := apart (Or.inr ⟨_, (wk W (.laysFinal "java/lang/String" "java/lang/String" "value" "[B"))⟩) (Or.inr ⟨_, (wk W (.laysFinal "java/lang/String" "java/lang/String" "coder" "B"))⟩) f1 f2 (t₁ := .array .byte) (t₂ := .byte) (by decide +kernel) (by decide +kernel) (by decide)
  have al := X8.warmed.alike.symm.trans X15.warmed.alike
  have n7 : T11.heap[s.heap.size]? = some N := by rw [q11]; exact n1.1
  exact ⟨T15, none, _, _, _, X15, by simp, rfl, by omega, (fun _ => rfl), ⟨rfl, _, N, bl15, ((Same.refl D _).set _ (by simp)).set _ (by simp), sl15, (Cell.slots_setSlot_ne _ ap).trans sl13, n1.keep al (p15.other hne (p13.other hne n7)), n2, by rw [al.findClass]; exact n3, n4, n5, fun y c h1 h2 => p15.other h1 (p13.other h1 (by rw [q11]; exact n6 y c h2)), by rw [p15.2.2, p13.2.2, q11]; exact z8⟩, fun fs hl => c16.trans (X15.returnOut hexec hret (hb hbytes d57) hl)⟩
end New4
namespace New1
def yN : MethodName := ⟨"java/lang/String", "<init>", "([C)V"⟩
abbrev yB : ByteArray := jdk_42_method_3_code
theorem d0 : decode yB 0 = .ok (.aload_n 0, 1) := by decide +kernel
theorem d1 : decode yB 1 = .ok (.aload_n 1, 1) := by decide +kernel
theorem d2 : decode yB 2 = .ok (.iconst 0, 1) := by decide +kernel
theorem d3 : decode yB 3 = .ok (.aload_n 1, 1) := by decide +kernel
theorem d4 : decode yB 4 = .ok (.arraylength, 1) := by decide +kernel
theorem d5 : decode yB 5 = .ok (.aconst_null, 1) := by decide +kernel
theorem d6 : decode yB 6 = .ok (.invokespecial 27, 3) := by decide +kernel
theorem d9 : decode yB 9 = .ok (.return_, 1) := by decide +kernel
def site : List Cond := [New4.tab] ++ initW "java/lang/String" 27 New4.yN
def tab : Cond := tabOf yN yB 2 none site
def P (a : Addr) (D : Cell) (fV fC : Field) (b : Addr) (A : Cell) (z : Int32) (args : Array Value) (s : State) : Prop := args = #[.ref a, .ref b] ∧ Blank "java/lang/String" a D s ∧ Found "java/lang/String" "value" "[B" fV s ∧ Found "java/lang/String" "coder" "B" fC s ∧ Ch b A s ∧ StaticIs s "java/lang/String" "COMPACT_STRINGS" "Z" (.int z) ∧ ¬ z = 0 ∧ 0 < A.slots.size ∧ A.slots.size ≤ 536870912 ∧ ∀ i, i < A.slots.size → ¬ 255 < cv A i
def E (a : Addr) (D : Cell) (fV fC : Field) (A : Cell) (r : Option Value) (s u : State) : Prop := Got a D fV fC A 0 A.slots.size r s u
/-- new String(chars), not empty, no char above 255: a Latin-1 String of their low bytes -/
theorem law (l : Launch) (a : Addr) (D : Cell) (fV fC : Field) (b : Addr) (A : Cell) (z : Int32) : Law l yN 2 1 3 52 yB 2 none site (P a D fV fC b A z) (E a D fV fC A) [⟨a, fC.slot⟩, ⟨a, fV.slot⟩] 1 A.slots.size := by
  refine Law.of_walk (plainFor_of_name (by decide +kernel)) (by decide +kernel) (by decide +kernel) (by decide) (fun _ _ h => by rw [h.1]; rfl) (fun _ U U' hal hh h => ⟨h.1, h.2.1.mv hal hh, h.2.2.1.al hal, h.2.2.2.1.al hal, h.2.2.2.2.1.mv hal hh, h.2.2.2.2.2.1.there hal hh, h.2.2.2.2.2.2⟩) (fun r U U' V V' h1 hal h2 h => Got.mv r U U' V V' h1 hal h2 h) ?_
  intro p e s m args below meth c s₁ X0 hexec hbytes hml hret hlk hnm hown hh0 W hP
  obtain ⟨rfl, hB, f1, f2, hA, s1, hz, l0, l2, hp⟩ := hP
  have c1 : Steps p.tables e below (s₁.setTop (entryFrame m #[.ref a, .ref b] 2)) (s₁.setTop (mkF m 0 #[.val (.ref a), .val (.ref b)] [])) := entry rfl
  have c2 : Steps p.tables e below (s₁.setTop (entryFrame m #[.ref a, .ref b] 2)) (s₁.setTop (mkF m 6 #[.val (.ref a), .val (.ref b)] [.null, .int (Int32.ofNat A.slots.size), .int 0, .ref b, .ref a])) := c1.trans (by
    refine XS.aloadN X0.here hexec rfl (hb hbytes d0) rfl rfl ?_
    refine XS.aloadN X0.here hexec rfl (hb hbytes d1) rfl rfl ?_
    refine iconstV X0.here hexec rfl 0 (hb hbytes d2) (by decide) ?_
    refine XS.aloadN X0.here hexec rfl (hb hbytes d3) rfl rfl ?_
    refine X0.alen hexec (hA.1.mv X0.warmed.alike hh0) rfl rfl (hb hbytes d4) ?_
    refine XS.aconstNull X0.here hexec rfl (hb hbytes d5) ?_
    exact Steps.refl _)
  obtain ⟨v3, T3, X3, E3, g3⟩ := X0.callN hexec (New4.law l a D fV fC b A z 0 A.slots.size) rfl hown (wks W (initW "java/lang/String" 27 New4.yN)) (W New4.tab (by simp only [site, List.mem_cons, List.mem_append, true_or, or_true])) (W := 0) (Nat.le_of_ble_eq_true rfl) (Nat.le_of_ble_eq_true rfl) (Nat.le_refl _) (by show 0 + A.slots.size ≤ A.slots.size; omega) (g := (mkF m 6 #[.val (.ref a), .val (.ref b)] [.null, .int (Int32.ofNat A.slots.size), .int (Int32.ofNat 0), .ref b, .ref a])) rfl (by rw [hml]; rfl) c2 (argsL := [.ref b, .int (Int32.ofNat 0), .int (Int32.ofNat A.slots.size), .null]) (rest := []) rfl rfl (by show 2 * 0 + 0 ≤ _; decide) (hb hbytes d6) (⟨rfl, hB.mv X0.warmed.alike hh0, f1.al X0.warmed.alike, f2.al X0.warmed.alike, hA.mv X0.warmed.alike hh0, s1.there X0.warmed.alike hh0, hz, l0, by omega, l2, fun i hi => by rw [Nat.zero_add]; exact hp i hi⟩)
  have e0 := Got.mv _ s₁ s _ _ hh0.symm (Vm.Alike.refl _) rfl E3
  obtain rfl := e0.1
  have c4 : Steps p.tables e below (s₁.setTop (entryFrame m #[.ref a, .ref b] 2)) (T3.setTop (mkF m 9 #[.val (.ref a), .val (.ref b)] [])) := g3
  exact ⟨T3, none, _, _, _, X3, by simp, rfl, by omega, (fun _ => rfl), e0, fun fs hl => c4.trans (X3.returnOut hexec hret (hb hbytes d9) hl)⟩
theorem pays {l : Launch} {R : Room} {p : Program} {e : Env} {below : List Frame} {s : State} {sargs : Array Value} {len W : Nat} (a : Addr) (D : Cell) (fV fC : Field) (b : Addr) (A : Cell) (z : Int32) (htab : tab.before sargs s = true) (hfr : 4 ≤ R.frames) (hlo : W + 65 ≤ R.locals) :
    Back l R p e below s sargs yN len W (fun A₁ a₁ => A₁.cells + 1 ≤ R.cells ∧ A₁.slots + A.slots.size ≤ R.slots ∧ P a D fV fC b A z a₁ A₁.U) (fun A₁ _ v₁ B₁ => E a D fV fC A v₁ A₁.U B₁.U ∧ B₁.locs = A₁.locs ++ [⟨a, fC.slot⟩, ⟨a, fV.slot⟩] ∧ B₁.cells = A₁.cells + 1 ∧ B₁.slots = A₁.slots + A.slots.size) :=
  (law l a D fV fC b A z).pays htab hfr (by omega)
end New1
end StrChars
namespace StrChars.Road
open Jvm Sem ClassFile Op Lib Jvm.Stand Jvm.Free Jvm.Free.XT
open Jvm.Lib.Cold (StaticIs)
abbrev ST : String := "java/lang/String"
/-- every table word that New1's law asks, flat -/
abbrev words : List Jvm.Cond := [.code New1.yN New1.yB 2 none, .initialized ST, .methodLink ST 27 New4.yN, .instanceMethod New4.yN,
  .code New4.yN New4.yB 6 none, .fieldLink ST 38 ST "COMPACT_STRINGS" "Z", .laysFinal ST ST "value" "[B", .fieldLink ST 9 ST "value" "[B", .laysFinal ST ST "coder" "B", .fieldLink ST 15 ST "coder" "B",
  .methodLink ST 1 Lib.objectInit, .instanceMethod Lib.objectInit, .code Lib.objectInit ⟨#[0xb1]⟩ 1 none, .methodLink ST 177 Cmp3.yN, .static Cmp3.yN, .methodLink ST 47 CodL.yN, .static CodL.yN,
  .code Cmp3.yN Cmp3.yB 6 (some (.array .byte)), .initialized U16, .arrayClass .byte, .methodLink U16 115 Cmp5.yN, .static Cmp5.yN, .code Cmp5.yN Cmp5.yB 7 (some .int), .code CodL.yN CodL.yB 2 (some .byte)]
theorem tab_of {a : Array Value} {s : State} (h : ∀ w ∈ words, w.before a s = true) : New1.tab.before a s = true := by
  have h5 : Cmp5.tab.before a s = true := unparts (wk h (.code Cmp5.yN Cmp5.yB 7 (some .int))) (wks h (.initialized Cmp5.yN.cls :: Cmp5.site))
  have hc : CodL.tab.before a s = true := unparts (wk h (.code CodL.yN CodL.yB 2 (some .byte))) (wks h (.initialized CodL.yN.cls :: CodL.site))
  have q5 : ∀ w ∈ Cmp5.tab :: words, w.before a s = true := fun w hw => (List.mem_cons.mp hw).elim (fun e => e ▸ h5) (h w)
  have h3 : Cmp3.tab.before a s = true := unparts (wk q5 (.code Cmp3.yN Cmp3.yB 6 (some (.array .byte)))) (wks q5 (.initialized Cmp3.yN.cls :: Cmp3.site))
  have q3 : ∀ w ∈ Cmp3.tab :: CodL.tab :: words, w.before a s = true := fun w hw => (List.mem_cons.mp hw).elim (fun e => e ▸ h3) fun hw => (List.mem_cons.mp hw).elim (fun e => e ▸ hc) (h w)
  have h4 : New4.tab.before a s = true := unparts (wk q3 (.code New4.yN New4.yB 6 none)) (wks q3 (.initialized New4.yN.cls :: New4.site))
  have q4 : ∀ w ∈ New4.tab :: words, w.before a s = true := fun w hw => (List.mem_cons.mp hw).elim (fun e => e ▸ h4) (h w)
  exact unparts (wk q4 (.code New1.yN New1.yB 2 none)) (wks q4 (.initialized New1.yN.cls :: New1.site))
/-- the words ride from the start Z to the walk's own state -/
theorem moved {Z s : State} {a0 args : Array Value} (hZ : Z.Warmed39 s.vm) (hw : ∀ d ∈ words, d.before a0 Z = true) : ∀ d ∈ words, d.before args s = true := fun d hd => by
  have q := hw d hd
  have t : ∀ d ∈ words, d = .arrayClass .byte ∨ (d.onTables && d.keepsFace) = true := by decide +kernel
  rcases t d hd with rfl | t
  · exact RoadKit.mvA hZ q
  · exact RoadKit.mv hZ q t
/-- WHAT COMES BACK, over the tables of the start Z: h the heap at the call, h' behind it -/
def Q (Z : State) (x : Addr) (A : Cell) (h : Heap) (v : Option Value) (h' : Heap) (L : List Loc) : Prop := v = none ∧ (∀ y ∈ L, y.base = x) ∧ RoadKit.Keep h h' [x] ∧ h'.size = h.size + 1 ∧ RoadKit.Exa Z h' x ST ∧ RoadKit.Fld Z h' x ST "value" "[B" (.ref h.size) ∧ RoadKit.Fld Z h' x ST "coder" "B" (.int 0) ∧
  (∃ V : Cell, RoadKit.Arr Z h' h.size V .byte ∧ V.vm = .none ∧ Z.vm.findClass "[B" = some V.cls ∧ V.slots.size = A.slots.size ∧ ∀ j, j < A.slots.size → V.slots[j]? = some (.int (lo8 (cv A j)))) ∧
  ∀ (O n d : String) (w : Value), RoadKit.Fld Z h x O n d w → RoadKit.slotOf Z O n d ≠ RoadKit.slotOf Z ST "value" "[B" → RoadKit.slotOf Z O n d ≠ RoadKit.slotOf Z ST "coder" "B" → RoadKit.Fld Z h' x O n d w
/-- **new String(chars) AT A CALL, IN THE ROAD'S FORM**: for specialBack behind newO: x the fresh String, b the char[] with the cell A -/
theorem back {p : Program} {l : Launch} {e : Env} {R : Room} {s : State} {args : Array Value} {below : List Frame} {len W : Nat} {Z : State} {a0 : Array Value} {h : Heap} (hZ : Z.Warmed39 s.vm) (hw : ∀ d ∈ words, d.before a0 Z = true) {kI : Nat} (wi : (Jvm.Cond.instantiable ST kI).before a0 Z = true)
    {x b : Addr} {A : Cell} {z : Int32} {v0 c0 : Value} (E : RoadKit.Exa Z h x ST) (V : RoadKit.Fld Z h x ST "value" "[B" v0) (C : RoadKit.Fld Z h x ST "coder" "B" c0) (K : RoadKit.Arr Z h b A .char) (hty : Typed .char A) (S : RoadKit.Sta Z h ST "COMPACT_STRINGS" "Z" (.int z)) (hz : ¬ z = 0)
    (l0 : 0 < A.slots.size) (l2 : A.slots.size ≤ 536870912) (hp : ∀ i, i < A.slots.size → ¬ 255 < cv A i) (hfr : 4 ≤ R.frames) (hlo : W + 65 ≤ R.locals) :
    Back l R p e below s args New1.yN len W (fun P a => a = #[.ref x, .ref b] ∧ P.U.heap = h ∧ P.cells + 1 ≤ R.cells ∧ P.slots + A.slots.size ≤ R.slots)
      (fun P _ v B => ∃ L, Q Z x A h v B.U.heap L ∧ B.locs = P.locs ++ L ∧ B.cells = P.cells + 1 ∧ B.slots = P.slots + A.slots.size) := by
  intro m meth c P g ig mk a X hg hsize hdg hW hn hp'
  obtain ⟨rfl, rfl, r1, r2⟩ := hp'
  have al : Z.vm.Alike P.U.vm := hZ.alike.trans X.warmed.alike
  obtain ⟨D, cfV, kV, iV, fV, hD, gV, stV, knV, obV, asV, slV⟩ := id V
  obtain ⟨D', cfC, kC, iC, fC, hD', gC, stC, -, -, asC, slC⟩ := id C
  cases hD.symm.trans hD'
  obtain ⟨D2, kD, e1, e2, e3, e4, e5⟩ := id E
  cases hD.symm.trans e1
  obtain ⟨c2, k2, i1, i2, i3, -⟩ := Cond.instantiable_spec wi
  cases e2.symm.trans i1
  cases e3.symm.trans i2
  obtain ⟨kU, u1, u2⟩ := al.2.2 _ _ e3
  have hB : Blank ST x D P.U := ⟨hD, ⟨knV, fun q hq => by rw [hq] at obV; cases obV⟩, by rw [al.findClass]; exact e2, kU, u1, by rw [u2]; exact i3, by rw [u2]; exact e5 i3⟩
  have F1 : Found ST "value" "[B" fV P.U := ⟨SBG.found_only al ⟨cfV, kV, iV, gV⟩, stV⟩
  have F2 : Found ST "coder" "B" fC P.U := ⟨SBG.found_only al ⟨cfC, kC, iC, gC⟩, stC⟩
  have hA : Ch b A P.U := ⟨⟨K.1, State.isArrayOf_alike al K.2.1, K.2.2, by omega⟩, hty⟩
  have hS : StaticIs P.U ST "COMPACT_STRINGS" "Z" (.int z) := by
    obtain ⟨cfS, iS, kS, fS, st, cS, t1, t2, t3, t4, t5, t6, t7⟩ := S
    exact StaticIs.there (s := { Z with heap := P.U.heap }) ⟨cfS, iS, kS, fS, st, cS, t1, t2, t3, t4, t5, (fun q => by rw [q] at t6; cases t6), t7⟩ al rfl
  obtain ⟨v, B, X', ⟨⟨hv, E', V', q1, q2, q3, q4, q5, q6, q7, q8, q9, q10, q11⟩, hl, hc, hs⟩, st⟩ := New1.pays x D fV fC b A z (tab_of (moved hZ hw)) hfr hlo m meth c P g ig mk _ X hg hsize hdg hW hn ⟨r1, r2, rfl, hB, F1, F2, hA, hS, hz, l0, l2, hp⟩
  have al' : Z.vm.Alike B.U.vm := hZ.alike.trans X'.warmed.alike
  have hsz : E'.slots.size = D.slots.size := by
    obtain ⟨-, -, -, kB, w1, w2, w3⟩ := q1
    obtain ⟨kB', y1, y2⟩ := al'.2.2 _ _ e3
    rw [q2.2.1] at w1
    cases w1.symm.trans y1
    rw [w3, e5 i3, y2]
  refine ⟨v, B, X', ⟨_, ⟨hv, ?_, ⟨by omega, fun y cy hy hn' => q10 y cy (by simpa using hn') hy, fun y cy hy => ?_⟩, q11, ⟨E', _, q1.1, by rw [q2.2.1]; exact e2, by rw [q2.2.1]; exact e3, by rw [q2.1]; exact obV, fun _ => by rw [hsz]; exact e5 i3⟩,
    ⟨E', cfV, kV, iV, fV, q1.1, gV, stV, by rw [q2.1]; exact knV, by rw [q2.1]; exact obV, by rw [q2.2.1]; exact asV, q3⟩, ⟨E', cfC, kC, iC, fC, q1.1, gC, stC, by rw [q2.1]; exact knV, by rw [q2.1]; exact obV, by rw [q2.2.1]; exact asC, q4⟩,
    ⟨V', ⟨q5.1, State.isArrayOf_alike al'.symm q5.2.1, q5.2.2.1⟩, q6, by rw [← al'.findClass]; exact q7, q8, fun j hj => by have := q9 j hj; rwa [Nat.zero_add] at this⟩, fun O n d w F n1 n2 => ?_⟩, hl, hc, hs⟩, st⟩
  · intro y hy
    simp only [List.mem_cons, List.not_mem_nil, or_false] at hy
    rcases hy with rfl | rfl <;> rfl
  · by_cases q : y = x
    · subst q
      cases hD.symm.trans hy
      exact ⟨E', q1.1, q2.2.1, q2.1, hsz⟩
    · exact ⟨cy, q10 y cy q hy, rfl, rfl, rfl⟩
  · obtain ⟨D3, cf, k, i, f, g1, g2, g3, g4, g5, g6, g7⟩ := F
    cases hD.symm.trans g1
    simp only [RoadKit.slotOf, g2, gV, gC, Option.map_some, Option.getD_some] at n1 n2
    exact ⟨E', cf, k, i, f, q1.1, g2, g3, by rw [q2.1]; exact g4, by rw [q2.1]; exact g5, by rw [q2.2.1]; exact g6, by rw [q2.2.2 f.slot (by simp [n1, n2])]; exact g7⟩
end StrChars.Road
namespace StrChars.Road
open Jvm Sem ClassFile Op Lib Jvm.Stand Jvm.Free Jvm.Free.XT
/-- WHAT COMES BACK, the byte[] as a list of values -/
def QA (Z : State) (x : Addr) (zn : Int32) (cs : List Int32) (h : Heap) (v : Option Value) (h' : Heap) (L : List Loc) : Prop := v = none ∧ (∀ y ∈ L, y.base = x) ∧ RoadKit.Keep h h' [x] ∧ h'.size = h.size + 1 ∧ RoadKit.Exa Z h' x ST ∧ RoadKit.Fld Z h' x ST "value" "[B" (.ref h.size) ∧ RoadKit.Fld Z h' x ST "coder" "B" (.int 0) ∧
  (∃ kb, Z.vm.findClass "[B" = some kb ∧ RoadKit.Arv Z h' h.size kb .byte zn (cs.map fun c => .int (lo8 c)) (.int 0)) ∧
  ∀ (O n d : String) (w : Value), RoadKit.Fld Z h x O n d w → RoadKit.slotOf Z O n d ≠ RoadKit.slotOf Z ST "value" "[B" → RoadKit.slotOf Z O n d ≠ RoadKit.slotOf Z ST "coder" "B" → RoadKit.Fld Z h' x O n d w
/-- **new String(chars) AT A CALL, THE ARRAYS AS LISTS**: the char[] at b holds cs, not empty, no char above 255 -/
theorem backArv {p : Program} {l : Launch} {e : Env} {R : Room} {s : State} {args : Array Value} {below : List Frame} {len W : Nat} {Z : State} {a0 : Array Value} {h : Heap} (hZ : Z.Warmed39 s.vm) (hw : ∀ d ∈ words, d.before a0 Z = true) {kI : Nat} (wi : (Jvm.Cond.instantiable ST kI).before a0 Z = true)
    {x b : Addr} {k : ClassId} {zn z : Int32} {cs : List Int32} {dv v0 c0 : Value} (E : RoadKit.Exa Z h x ST) (V : RoadKit.Fld Z h x ST "value" "[B" v0) (C : RoadKit.Fld Z h x ST "coder" "B" c0) (K : RoadKit.Arv Z h b k .char zn (cs.map Value.int) dv) (S : RoadKit.Sta Z h ST "COMPACT_STRINGS" "Z" (.int z)) (hz : ¬ z = 0)
    (hlen : zn.toNatClampNeg = cs.length) (h0 : 0 < cs.length) (hbig : cs.length ≤ 536870912) (hall : ∀ c ∈ cs, ¬ 255 < c) (hfr : 4 ≤ R.frames) (hlo : W + 65 ≤ R.locals) :
    Back l R p e below s args New1.yN len W (fun P a => a = #[.ref x, .ref b] ∧ P.U.heap = h ∧ P.cells + 1 ≤ R.cells ∧ P.slots + cs.length ≤ R.slots)
      (fun P _ v B => ∃ L, QA Z x zn cs h v B.U.heap L ∧ B.locs = P.locs ++ L ∧ B.cells = P.cells + 1 ∧ B.slots = P.slots + cs.length) := by
  obtain ⟨A, K1, K2, K3, K4, K5, K6⟩ := K
  have e : A.slots.size = cs.length := K3.trans hlen
  have hat : ∀ (i : Nat) (hi : i < cs.length), A.slots[i]? = some (.int cs[i]) := fun i hi => by rw [K5 i (by omega)]; simp [List.getD_eq_getElem?_getD, hi]
  have hcv : ∀ (i : Nat) (hi : i < cs.length), cv A i = cs[i] := fun i hi => by unfold cv; rw [hat i hi]
  have hty : Typed .char A := fun i v hv => by
    have hi : i < A.slots.size := (Array.getElem?_eq_some_iff.mp hv).1
    have q := K5 i hi
    rw [hv] at q
    rw [Option.some.inj q]
    exact K6 i hi
  refine Back.mono (back hZ hw wi E V C K1 hty S hz (by omega) (by omega) (fun i hi => by rw [hcv i (by omega)]; exact hall _ (List.getElem_mem _)) hfr hlo) (fun P a hp => ⟨hp.1, hp.2.1, hp.2.2.1, by rw [e]; exact hp.2.2.2⟩) (fun P a v B hp hq => ?_)
  obtain ⟨L, ⟨q1, q2, q3, q4, q5, q6, q7, ⟨V', v1, v2, v3, v4, v5⟩, q9⟩, hl, hc, hs⟩ := hq
  refine ⟨L, ⟨q1, q2, q3, q4, q5, q6, q7, ⟨V'.cls, v3, V', v1, rfl, by rw [v4, e, hlen], K4, fun i hi => ?_, fun i hi => ?_⟩, q9⟩, hl, hc, by rw [hs, e]⟩
  · have hi' : i < cs.length := by omega
    rw [v5 i (by omega), hcv i hi']; simp [List.getD_eq_getElem?_getD, hi']
  · have hi' : i < cs.length := by omega
    simp only [List.getD_eq_getElem?_getD, List.getElem?_map, List.getElem?_eq_getElem hi', Option.map_some, Option.getD_some]
    exact fits_lo8 _
end StrChars.Road
namespace StrChars.Road
open Jvm Sem ClassFile Op Lib Jvm.Stand Jvm.Free Jvm.Free.XT
/-- WHAT COMES BACK, in the writer's own shape -/
def QV (Z : State) (x : Addr) (N : Int32) (bs : List Int32) (h : Heap) (n0 : Nat) (v : Option Value) (h' : Heap) (L : List Loc) : Prop := v = none ∧ RoadKit.Fr n0 L ∧ RoadKit.Keep h h' [x] ∧ RoadKit.Exa Z h' x ST ∧ RoadKit.Fld Z h' x ST "coder" "B" (.int 0) ∧
  ∃ (t : Addr) (kb : ClassId), n0 ≤ t ∧ h.size ≤ t ∧ ¬ t = x ∧ RoadKit.Fld Z h' x ST "value" "[B" (.ref t) ∧ RoadKit.Arv Z h' t kb .byte N (bs.map Value.int) (.int 0)
/-- **new String(chars) AT A CALL, FOR THE WRITER**: a char[] of n known ints, each 0 to 255 -/
theorem backV {p : Program} {l : Launch} {e : Env} {R : Room} {s : State} {args : Array Value} {below : List Frame} {len W : Nat} {Z : State} {a0 : Array Value} {h : Heap} (hZ : Z.Warmed39 s.vm) (hw : ∀ d ∈ words, d.before a0 Z = true) {kI : Nat} (wi : (Jvm.Cond.instantiable ST kI).before a0 Z = true)
    {x b : Addr} {kC : ClassId} {cs bs : List Int32} {d v0 c0 : Value} {z N : Int32} {n n0 : Nat} (hx0 : n0 ≤ x) (hh0 : n0 ≤ h.size) (E : RoadKit.Exa Z h x ST) (V : RoadKit.Fld Z h x ST "value" "[B" v0) (C : RoadKit.Fld Z h x ST "coder" "B" c0) (K : RoadKit.Arv Z h b kC .char N (cs.map Value.int) d) (S : RoadKit.Sta Z h ST "COMPACT_STRINGS" "Z" (.int z)) (hz : ¬ z = 0)
    (hn : cs.length = n) (hN : N = Int32.ofNat n) (l0 : 0 < n) (l2 : n ≤ 4000) (hp : ∀ c ∈ cs, ¬ c < 0 ∧ ¬ (255 : Int32) < c) (hb : bs = cs.map (fun c => c.toInt8.toInt32)) (hfr : 4 ≤ R.frames) (hlo : W + 65 ≤ R.locals) :
    Back l R p e below s args (⟨"java/lang/String", "<init>", "([C)V"⟩ : MethodName) len W (fun P a => a = #[.ref x, .ref b] ∧ P.U.heap = h ∧ P.cells + 1 ≤ R.cells ∧ P.slots + n ≤ R.slots)
      (fun P _ v B => ∃ L, QV Z x N bs h n0 v B.U.heap L ∧ B.locs = P.locs ++ L ∧ B.cells = P.cells + 1 ∧ B.slots = P.slots + n) := by
  subst hn hN hb
  refine Back.mono (backArv hZ hw wi E V C K S hz (n32 (by omega)) l0 (by omega) (fun c hc => (hp c hc).2) hfr hlo) (fun P a hp => hp) (fun P a v B hp hq => ?_)
  obtain ⟨L, ⟨q1, q2, q3, q4, q5, q6, q7, ⟨kb, v1, v2⟩, q9⟩, hl, hc, hs⟩ := hq
  exact ⟨L, ⟨q1, fun y hy => by rw [q2 y hy]; exact hx0, q3, q5, q7, h.size, kb, hh0, Nat.le_refl _, Nat.ne_of_gt E.lt, q6, by rw [List.map_map]; exact v2⟩, hl, hc, hs⟩
end StrChars.Road
end Jvm.Pilot.@@N@@

namespace Jvm.Pilot.@@N@@
open Jvm Jvm.ClassFile Sem Op Lib Jvm.Free Jvm.Stand Jvm.LawKit Jvm.RoadKit Bundle Jvm.Pilot.@@N@@.Jvm.D
theorem own_cat {v : Value} (h : v.isRef = true) : v.category = 1 := by rcases ref_cases h with rfl | ⟨_, rfl⟩ <;> rfl
theorem own_ltL {x y : Int64} (h : x < y) : ifCond.holds .lt (lcmpW x y) = true ∧ ifCond.holds .ge (lcmpW x y) = false ∧ ifCond.holds .gt (lcmpW y x) = true ∧ ifCond.holds .le (lcmpW y x) = false :=
  ⟨(if0 _ _).trans (tlt ((lw_lt x y).mpr h)).1, (if0 _ _).trans (tlt ((lw_lt x y).mpr h)).2.1, (if0 _ _).trans (tlt ((lw_gt y x).mpr h)).2.2.1, (if0 _ _).trans (tlt ((lw_gt y x).mpr h)).2.2.2⟩
theorem own_fltL {x y : Int64} (h : ¬ x < y) : ifCond.holds .lt (lcmpW x y) = false ∧ ifCond.holds .ge (lcmpW x y) = true ∧ ifCond.holds .gt (lcmpW y x) = false ∧ ifCond.holds .le (lcmpW y x) = true :=
  ⟨(if0 _ _).trans (flt (fun q => h ((lw_lt x y).mp q))).1, (if0 _ _).trans (flt (fun q => h ((lw_lt x y).mp q))).2.1, (if0 _ _).trans (flt (fun q => h ((lw_gt y x).mp q))).2.2.1, (if0 _ _).trans (flt (fun q => h ((lw_gt y x).mp q))).2.2.2⟩
theorem own_eqL {x y : Int64} (h : x = y) : ifCond.holds .eq (lcmpW x y) = true ∧ ifCond.holds .ne (lcmpW x y) = false :=
  ⟨(if0 _ _).trans (teq ((lw_eq x y).mpr h)).1, (if0 _ _).trans (teq ((lw_eq x y).mpr h)).2⟩
theorem own_neL {x y : Int64} (h : ¬ x = y) : ifCond.holds .eq (lcmpW x y) = false ∧ ifCond.holds .ne (lcmpW x y) = true :=
  ⟨(if0 _ _).trans (feq (fun q => h ((lw_eq x y).mp q))).1, (if0 _ _).trans (feq (fun q => h ((lw_eq x y).mp q))).2⟩

theorem own_fin {c : Int32} {N : Nat} (h0 : 0 ≤ c.toInt) (h1 : c.toInt < N) (hN : N ≤ 2147483648) : ∃ n : Fin N, c = n.1.toInt32 := by
  refine ⟨⟨c.toInt.toNat, by omega⟩, ?_⟩
  apply Int32.toInt_inj.mp
  rw [len_toInt (by show c.toInt.toNat < 2 ^ 31; omega)]
  show c.toInt = ((c.toInt.toNat : Nat) : Int)
  omega
theorem own_lt {x y : Int32} (h : x < y) : x.toInt < y.toInt := Int32.lt_iff_toInt_lt.mp h
theorem own_nlt' {x y : Int32} (h : ¬ x < y) : y.toInt ≤ x.toInt := by rw [Int32.lt_iff_toInt_lt] at h; omega
theorem own_nlt {x y : Int32} {k : Int} (h : k ≤ x.toInt) (hk : y.toInt ≤ k) : ¬ x < y := by rw [Int32.lt_iff_toInt_lt]; omega
theorem own_gt {x y : Int32} {k : Int} (h : k ≤ x.toInt) (hk : y.toInt < k) : y < x := by rw [Int32.lt_iff_toInt_lt]; omega
theorem own_ne {x y : Int32} {k : Int} (h : k ≤ x.toInt) (hk : y.toInt < k) : ¬ x = y := by rintro rfl; omega
theorem own_gtn {x y : Int32} {k : Int} (h : x.toInt < k) (hk : k ≤ y.toInt) : x < y := by rw [Int32.lt_iff_toInt_lt]; omega
theorem own_nel {x y : Int32} {k : Int} (h : x.toInt < k) (hk : k ≤ y.toInt) : ¬ x = y := by rintro rfl; omega
theorem own_lt' {x y : Int32} (h : x < y) : x.toInt + 1 ≤ y.toInt := by have := own_lt h; omega
theorem own_le' {x y : Int32} (h : ¬ y < x) : x.toInt < y.toInt + 1 := by have := own_nlt' h; omega

def own_A (Z : State) (h : Heap) (a : Addr) (ty : FieldType) (n : Nat) (f : Nat → Value) : Prop := ∃ c : Cell, Arr Z h a c ty ∧ c.slots.size = n ∧ ∀ j, j < n → c.slots[j]? = some (f j)
section OwnA
variable {Z : State} {h h' : Heap} {a b : Addr} {ty : FieldType} {n sl : Nat} {f : Nat → Value} {v : Value} {ws : List Addr}
theorem own_A.lt (F : own_A Z h a ty n f) : a < h.size := by obtain ⟨c, A, -⟩ := F; exact A.lt
theorem own_A.ext (F : own_A Z h a ty n f) (E : Ext h h') : own_A Z h' a ty n f := by obtain ⟨c, A, r⟩ := F; exact ⟨c, A.ext E, r⟩
theorem own_A.other (F : own_A Z h b ty n f) (W : Wr h h' a sl v) (q : b ≠ a) : own_A Z h' b ty n f := by obtain ⟨c, A, r⟩ := F; exact ⟨c, A.other W q, r⟩
theorem own_A.keep (F : own_A Z h a ty n f) (K : Keep h h' ws) (q : a ∉ ws) : own_A Z h' a ty n f := by obtain ⟨c, A, r⟩ := F; exact ⟨c, ⟨K.2.1 a c A.1 q, A.2⟩, r⟩
theorem own_A.set (F : own_A Z h a ty n f) (W : Wr h h' a sl v) : own_A Z h' a ty n (fun i => if i = sl then v else f i) := by
  obtain ⟨c, A, S, H⟩ := F
  refine ⟨_, A.same W, (sz_set _ _ _).trans S, fun j hj => ?_⟩
  by_cases e : j = sl
  · subst e
    simp only [Cell.setSlot, if_true]
    rw [Array.getElem?_setIfInBounds_self_of_lt (by omega)]
  · simp only [Cell.setSlot, if_neg e]
    rw [Array.getElem?_setIfInBounds_ne (Ne.symm e)]
    exact H j hj
theorem own_A.eqv {g : Nat → Value} (F : own_A Z h a ty n f) (e : ∀ j, j < n → f j = g j) : own_A Z h a ty n g := by
  obtain ⟨c, A, S, H⟩ := F
  exact ⟨c, A, S, fun j hj => (e j hj) ▸ H j hj⟩
theorem own_A.setI {g : Nat → Int32} {x : Int32} (F : own_A Z h a ty n (fun i => .int (g i))) (W : Wr h h' a sl (.int x)) : own_A Z h' a ty n (fun i => .int (if i = sl then x else g i)) :=
  (F.set W).eqv fun j _ => by
    by_cases e : j = sl
    · simp only [if_pos e]
    · simp only [if_neg e]
theorem own_A.setJ {g : Nat → Int64} {x : Int64} (F : own_A Z h a ty n (fun i => .long (g i))) (W : Wr h h' a sl (.long x)) : own_A Z h' a ty n (fun i => .long (if i = sl then x else g i)) :=
  (F.set W).eqv fun j _ => by
    by_cases e : j = sl
    · simp only [if_pos e]
    · simp only [if_neg e]
theorem own_A.new {k : ClassId} {z : Int32} (A : Arr Z h a (newA k ty z) ty) : own_A Z h a ty z.toNatClampNeg (fun _ => defaultValue ty) :=
  ⟨_, A, sz_new _ _ _, fun j hj => by simp [newA, hj]⟩
end OwnA
theorem own_in {c : Cell} {n : Nat} {j : Int32} (S : c.slots.size = n) (h : 0 ≤ j.toInt ∧ j.toInt < n) : ¬ (j < 0 ∨ c.slots.size ≤ j.toNatClampNeg) := by
  rw [S, Int32.lt_iff_toInt_lt, show (0 : Int32).toInt = 0 from rfl]
  have e : j.toNatClampNeg = j.toInt.toNat := rfl
  rw [e]; omega
theorem own_ix {n : Nat} {j : Int32} (h : 0 ≤ j.toInt ∧ j.toInt < n) : j.toNatClampNeg < n := by
  have e : j.toNatClampNeg = j.toInt.toNat := rfl
  rw [e]; omega
theorem own_len {c : Cell} {n : Nat} {z : Int32} (S : c.slots.size = n) (h : n.toInt32 = z) : c.slots.size.toInt32 = z := by rw [S]; exact h
def own_O (Z : State) (h : Heap) (a : Addr) (C : String) : Prop := ∃ c : Cell, h[a]? = some c ∧ Ovr Z c.cls C
theorem own_O.ext {Z : State} {h h' : Heap} {a : Addr} {C : String} (F : own_O Z h a C) (E : Ext h h') : own_O Z h' a C := by obtain ⟨c, h1, o⟩ := F; exact ⟨c, E.2 _ _ h1, o⟩
theorem own_O.wr {Z : State} {h h' : Heap} {a b : Addr} {C : String} {sl : Nat} {v : Value} (F : own_O Z h a C) (W : Wr h h' b sl v) : own_O Z h' a C := by
  obtain ⟨c, h1, o⟩ := F
  obtain ⟨c', e1, e2, -⟩ := wr_at W h1
  exact ⟨c', e1, e2 ▸ o⟩
theorem own_sto {Z : State} {h : Heap} {a y : Addr} {cl : Cell} {ty : FieldType} {C : String} (A : Arr Z h a cl ty) (O : own_O Z h a C) (I : Ins Z h y C true) : Sto Z h a (.ref y) := by
  obtain ⟨c, h1, o⟩ := O
  cases A.1.symm.trans h1
  exact Sto.of A o I

theorem own_arv {Z : State} {h : Heap} {a : Addr} {ty : FieldType} {n : Nat} {f : Nat → Value} {z : Int32} {vs : List Value} {d : Value} (F : own_A Z h a ty n f) (hn : n = z.toNatClampNeg) (hz : ¬ z < 0) (hv : ∀ i, i < n → vs.getD i d = f i) (hfit : ∀ i, i < n → fits ty (f i) = true) : ∃ k, Arv Z h a k ty z vs d := by
  obtain ⟨c, A, S, H⟩ := F
  exact ⟨c.cls, c, A, rfl, S.trans hn, hz, fun i hi => by rw [hv i (S ▸ hi)]; exact H i (S ▸ hi), fun i hi => by rw [hv i (S ▸ hi)]; exact hfit i (S ▸ hi)⟩
theorem own_ch (x : Int32) : ¬ nar .char ((x &&& (255 : Int32)).toUInt32.toUInt16.toUInt32.toInt32) < 0 ∧ ¬ (255 : Int32) < nar .char ((x &&& (255 : Int32)).toUInt32.toUInt16.toUInt32.toInt32) := by
  have t : ∀ k : Fin 256, ¬ nar .char ((k.1.toInt32).toUInt32.toUInt16.toUInt32.toInt32) < 0 ∧ ¬ (255 : Int32) < nar .char ((k.1.toInt32).toUInt32.toUInt16.toUInt32.toInt32) := by decide +kernel
  obtain ⟨h0, h1⟩ := c_and x 255 (by decide)
  have e2 : (255 : Int32).toInt = 255 := by decide
  obtain ⟨n, e⟩ := own_fin (c := x &&& 255) (N := 256) h0 (by omega) (by decide)
  rw [e]
  exact t n

theorem d8_0 : decode jdk_29_method_70_code 0 = .ok (.lload_n 0, 1) := by decide +kernel
theorem d8_1 : decode jdk_29_method_70_code 1 = .ok (.lload_n 2, 1) := by decide +kernel
theorem d8_2 : decode jdk_29_method_70_code 2 = .ok (.lcmp, 1) := by decide +kernel
theorem d8_3 : decode jdk_29_method_70_code 3 = .ok (.ifCond .gt 7, 3) := by decide +kernel
theorem d8_6 : decode jdk_29_method_70_code 6 = .ok (.lload_n 0, 1) := by decide +kernel
theorem d8_7 : decode jdk_29_method_70_code 7 = .ok (.goto 4, 3) := by decide +kernel
theorem d8_10 : decode jdk_29_method_70_code 10 = .ok (.lload_n 2, 1) := by decide +kernel
theorem d8_11 : decode jdk_29_method_70_code 11 = .ok (.lreturn, 1) := by decide +kernel
theorem pf_8 : plainFor (⟨"java/lang/Math", "min", "(JJ)J"⟩ : MethodName) = true := by decide +kernel
theorem ef_8 (m : MethodId) (q0 : Int64) (q1 : Int64) : entryFrame m #[(.long q0), (.long q1)] 4 = mkF m 0 #[.val (.long q0), .second, .val (.long q1), .second] [] := by first | (simp [entryFrame, mkF, argsToLocals, Value.category]; done) | rfl
def f8_11 (q0 : Int64) (q1 : Int64) : Int64 := (if q1 < q0 then q1 else q0)
def f8_ret (q0 : Int64) (q1 : Int64) : Int64 := (f8_11 q0 q1)

def Q8 (Z : State) (q0 : Int64) (q1 : Int64) (h0 : Heap) (n0 : Nat) (v : Option Value) (h : Heap) (L : List Loc) : Prop := v = some (.long (f8_ret q0 q1)) ∧ Fr n0 L ∧ h = h0
set_option maxRecDepth 65536 in
set_option maxHeartbeats 40000000 in
theorem rm8 (l : Launch) (Z : State) (a0 : Array Value) (hw : ∀ d ∈ tables_1, d.before a0 Z = true) (ws : List Jvm.Cond) (q0 : Int64) (q1 : Int64) (h0 : Heap) (n0 : Nat) (Z0 : n0 ≤ h0.size)  :
    MetFree l (⟨"java/lang/Math", "min", "(JJ)J"⟩ : MethodName) (head1 (Jvm.Cond.code (⟨"java/lang/Math", "min", "(JJ)J"⟩ : MethodName) jdk_29_method_70_code 4 (some .long) :: ws) ({ frames := 0, cells := 0, slots := 0, locals := 0 } : Room)) (fun a U => a = #[(.long q0), (.long q1)] ∧ Z.Warmed39 U.vm ∧ U.heap = h0) (fun _ _ _ _ _ => True) (fun _ U o U' => ∃ v L, o = .returned v ∧ Q8 Z q0 q1 h0 n0 v U'.heap L ∧ FrameEnd U o U' L ({ frames := 0, cells := 0, slots := 0, locals := 0 } : Room).cells ({ frames := 0, cells := 0, slots := 0, locals := 0 } : Room).slots) := by
  refine MetFree.of_bodySF pf_8 hisR ?_
  intro p e s m args below meth c s₁ Bd hml0 hP hK
  obtain ⟨rfl, hZ, hh⟩ := hP
  have hx := Bd.exec
  have hby := Bd.bytes
  have hml : c.maxLocals = 4 := hml0
  have hown : s.vm.findClass "java/lang/Math" = some m.cls := findClass_of_methodNamed Bd.named
  have hnm := (name_of_methodNamed Bd.named Bd.method).1
  have X0 : Stand p l e ({ frames := 0, cells := 0, slots := 0, locals := 0 } : Room) s m #[(.long q0), (.long q1)] below meth c s₁ [] 0 0 := Stand.of_body Bd
  have e0 : s₁.heap = h0 := by rw [← hh, Bd.state]; rfl
  have N0 := Fr.nil n0
  have pre0 : ∀ t, Steps p.tables e below (s₁.setTop (mkF m 0 #[.val (.long q0), .second, .val (.long q1), .second] [])) t → Steps p.tables e below (s₁.setTop (entryFrame m #[(.long q0), (.long q1)] 4)) t := fun t k => castTop (ef_8 m q0 q1) k
  have pre1 : ∀ t, Steps p.tables e below (s₁.setTop (mkF m 3 #[.val (.long q0), .second, .val (.long q1), .second] [(.int (lcmpW q0 q1))])) t → Steps p.tables e below (s₁.setTop (entryFrame m #[(.long q0), (.long q1)] 4)) t := fun t k => pre0 t (by
    show Steps p.tables e below (s₁.setTop (mkF m 0 #[.val (.long q0), .second, .val (.long q1), .second] [])) _
    refine XS.lloadN X0.here hx rfl (hb hby d8_0) rfl ?_
    show Steps p.tables e below (s₁.setTop (mkF m 1 #[.val (.long q0), .second, .val (.long q1), .second] [(.long q0)])) _
    refine XS.lloadN X0.here hx rfl (hb hby d8_1) rfl ?_
    show Steps p.tables e below (s₁.setTop (mkF m 2 #[.val (.long q0), .second, .val (.long q1), .second] [(.long q1), (.long q0)])) _
    refine XS.lcmp X0.here hx rfl (hb hby d8_2) rfl ?_
    show Steps p.tables e below (s₁.setTop (mkF m 3 #[.val (.long q0), .second, .val (.long q1), .second] [(.int (lcmpW q0 q1))])) _
    exact k)
  have pre3 : ∀ t, Steps p.tables e below (s₁.setTop (mkF m 11 #[.val (.long q0), .second, .val (.long q1), .second] [(.long (f8_11 q0 q1))])) t → Steps p.tables e below (s₁.setTop (entryFrame m #[(.long q0), (.long q1)] 4)) t := fun t k => pre1 t (by
    by_cases hf2 : q1 < q0
    · refine XS.ifYes X0.here hx rfl (pc0 := 3) (pc' := 10) rfl (hb hby d8_3) rfl (own_ltL hf2).2.2.1 (by decide) (by decide) ?_
      show Steps p.tables e below (s₁.setTop (mkF m 10 #[.val (.long q0), .second, .val (.long q1), .second] [])) _
      refine XS.lloadN X0.here hx rfl (hb hby d8_10) rfl ?_
      show Steps p.tables e below (s₁.setTop (mkF m 11 #[.val (.long q0), .second, .val (.long q1), .second] [(.long q1)])) _
      rw [show (f8_11 q0 q1) = (q1 : Int64) from by simp only [f8_11, if_pos hf2]] at k
      exact k
    · refine XS.ifNo X0.here hx rfl (hb hby d8_3) rfl (own_fltL hf2).2.2.1 ?_
      show Steps p.tables e below (s₁.setTop (mkF m 6 #[.val (.long q0), .second, .val (.long q1), .second] [])) _
      refine XS.lloadN X0.here hx rfl (hb hby d8_6) rfl ?_
      show Steps p.tables e below (s₁.setTop (mkF m 7 #[.val (.long q0), .second, .val (.long q1), .second] [(.long q0)])) _
      refine XS.goto X0.here hx rfl (pc0 := 7) (pc' := 11) rfl (hb hby d8_7) (by decide) (by decide) ?_
      show Steps p.tables e below (s₁.setTop (mkF m 11 #[.val (.long q0), .second, .val (.long q1), .second] [(.long q0)])) _
      rw [show (f8_11 q0 q1) = (q0 : Int64) from by simp only [f8_11, if_neg hf2]] at k
      exact k)
  obtain ⟨fs, hr, hrun, hended, hW, hsame⟩ := X0.leave (v := some (.long (f8_11 q0 q1))) (fun h => by rw [Bd.returns] at h; cases h)
  refine ⟨_, _, pre3 _ ?_, hrun, hended, _, _, rfl, ?_, ⟨_, rfl⟩, hW, hsame.mono (by decide) (by decide)⟩
  · exact retOut X0 hx Bd.returns rfl (Or.inr (Or.inl ⟨rfl, rfl, _, rfl⟩)) (hb hby d8_11) hr
  · show Q8 Z q0 q1 h0 n0 _ s₁.heap _
    rw [e0]
    exact ⟨rfl, N0, rfl⟩
theorem d7_0 : decode prog_44_method_2_code 0 = .ok (.iload_n 0, 1) := by decide +kernel
theorem d7_1 : decode prog_44_method_2_code 1 = .ok (.ldc 11, 2) := by decide +kernel
theorem d7_3 : decode prog_44_method_2_code 3 = .ok (.if_icmp .ne 18, 3) := by decide +kernel
theorem d7_21 : decode prog_44_method_2_code 21 = .ok (.ldc2_w 21, 3) := by decide +kernel
theorem d7_24 : decode prog_44_method_2_code 24 = .ok (.ldc2_w 23, 3) := by decide +kernel
theorem d7_27 : decode prog_44_method_2_code 27 = .ok (.iload_n 0, 1) := by decide +kernel
theorem d7_28 : decode prog_44_method_2_code 28 = .ok (.i2l, 1) := by decide +kernel
theorem d7_29 : decode prog_44_method_2_code 29 = .ok (.lmul, 1) := by decide +kernel
theorem d7_30 : decode prog_44_method_2_code 30 = .ok (.invokestatic 25, 3) := by decide +kernel
theorem d7_33 : decode prog_44_method_2_code 33 = .ok (.l2i, 1) := by decide +kernel
theorem d7_34 : decode prog_44_method_2_code 34 = .ok (.ireturn, 1) := by decide +kernel
theorem pn_0 : plainName "com/example/brisk_maze/briskmaze/search/ArrayGrowth" = true := by first | (simp [plainName, overriddenIn]; done) | decide +kernel
theorem pd_0 : parseMethodDescriptor "(JJ)J" = some ⟨[.long, .long], some .long⟩ := by decide +kernel
theorem ef_7 (m : MethodId) (p0 : Int32) (o1 : Addr) : entryFrame m #[(.int p0), (.ref o1)] 2 = mkF m 0 #[.val (.int p0), .val (.ref o1)] [] := by first | (simp [entryFrame, mkF, argsToLocals, Value.category]; done) | rfl
def f7_ret (p0 : Int32) (o1 : Addr) : Int32 := ((f8_ret (2147483639 : Int64) ((2 : Int64) * (p0.toInt64))).toInt32)

def Q7 (Z : State) (p0 : Int32) (o1 : Addr) (h0 : Heap) (n0 : Nat) (v : Option Value) (h : Heap) (L : List Loc) : Prop := v = some (.int (f7_ret p0 o1)) ∧ Fr n0 L ∧ h = h0
set_option maxRecDepth 65536 in
set_option maxHeartbeats 40000000 in
theorem rm7 (l : Launch) (Z : State) (a0 : Array Value) (hw : ∀ d ∈ tables_1, d.before a0 Z = true) (ws : List Jvm.Cond) (p0 : Int32) (o1 : Addr) (h0 : Heap) (n0 : Nat) (Z0 : n0 ≤ h0.size) (hne : ¬ p0 = (2147483639 : Int32)) :
    MetFree l (⟨"com/example/brisk_maze/briskmaze/search/ArrayGrowth", "larger", "(ILjava/lang/String;)I"⟩ : MethodName) (head1 (Jvm.Cond.code (⟨"com/example/brisk_maze/briskmaze/search/ArrayGrowth", "larger", "(ILjava/lang/String;)I"⟩ : MethodName) prog_44_method_2_code 2 (some .int) :: ws) ({ frames := 1, cells := 0, slots := 0, locals := 15 } : Room)) (fun a U => a = #[(.int p0), (.ref o1)] ∧ Z.Warmed39 U.vm ∧ U.heap = h0) (fun _ _ _ _ _ => True) (fun _ U o U' => ∃ v L, o = .returned v ∧ Q7 Z p0 o1 h0 n0 v U'.heap L ∧ FrameEnd U o U' L ({ frames := 1, cells := 0, slots := 0, locals := 15 } : Room).cells ({ frames := 1, cells := 0, slots := 0, locals := 15 } : Room).slots) := by
  refine MetFree.of_bodySF (plainFor_of_name pn_0) hisR ?_
  intro p e s m args below meth c s₁ Bd hml0 hP hK
  obtain ⟨rfl, hZ, hh⟩ := hP
  have hx := Bd.exec
  have hby := Bd.bytes
  have hml : c.maxLocals = 2 := hml0
  have hown : s.vm.findClass "com/example/brisk_maze/briskmaze/search/ArrayGrowth" = some m.cls := findClass_of_methodNamed Bd.named
  have hnm := (name_of_methodNamed Bd.named Bd.method).1
  have X0 : Stand p l e ({ frames := 1, cells := 0, slots := 0, locals := 15 } : Room) s m #[(.int p0), (.ref o1)] below meth c s₁ [] 0 0 := Stand.of_body Bd
  have e0 : s₁.heap = h0 := by rw [← hh, Bd.state]; rfl
  have N0 := Fr.nil n0
  have pre0 : ∀ t, Steps p.tables e below (s₁.setTop (mkF m 0 #[.val (.int p0), .val (.ref o1)] [])) t → Steps p.tables e below (s₁.setTop (entryFrame m #[(.int p0), (.ref o1)] 2)) t := fun t k => castTop (ef_7 m p0 o1) k
  obtain ⟨_, _, ⟨T1, L1, k1, n1⟩, -, X1, ⟨Lc1, hQ1, l1, y1, z1⟩, st1⟩ := Jvm.LawKit.callS X0 hx (y := (⟨"java/lang/Math", "min", "(JJ)J"⟩ : MethodName)) hown (mvT hZ (hw _ (List.mem_of_getElem? (i := 40) rfl))) (mvT hZ (hw _ (List.mem_of_getElem? (i := 41) rfl))) (mvT hZ (hw _ (List.mem_of_getElem? (i := 42) rfl))) (mvT hZ (hw _ (List.mem_of_getElem? (i := 43) rfl))) (by decide) (backOf (W := 0) (rm8 l Z a0 hw [] (2147483639 : Int64) ((2 : Int64) * (p0.toInt64)) h0 n0 Z0) hZ (hw _ (List.mem_of_getElem? (i := 43) rfl)) (hw _ (List.mem_of_getElem? (i := 42) rfl)) (by decide) (by decide)) (g := (mkF m 30 #[.val (.int p0), .val (.ref o1)] [(.long ((2 : Int64) * (p0.toInt64))), (.long (2147483639 : Int64))])) rfl (by rw [hml]; rfl) (argsL := [(.long (2147483639 : Int64)), (.long ((2 : Int64) * (p0.toInt64)))]) (rest := []) (lenOf pd_0 rfl) rfl (by show 2 * 0 + _ ≤ _; exact Nat.le_of_eq rfl) (hb hby d7_30) (fun _ _ => ⟨rfl, e0, (by decide : 0 + 0 ≤ _), (by decide : 0 + 0 ≤ _)⟩)
  dsimp only [Pt.U, Pt.locs, Pt.cells, Pt.slots] at X1 l1 y1 z1 st1 hQ1
  subst l1 y1 z1
  obtain ⟨rfl, N1q, hh1⟩ := hQ1
  have N1 := Fr.app N0 N1q
  have pre2 : ∀ t, Steps p.tables e below (T1.setTop (mkF m 34 #[.val (.int p0), .val (.ref o1)] [(.int ((f8_ret (2147483639 : Int64) ((2 : Int64) * (p0.toInt64))).toInt32))])) t → Steps p.tables e below (s₁.setTop (entryFrame m #[(.int p0), (.ref o1)] 2)) t := fun t k => pre0 t (by
    show Steps p.tables e below (s₁.setTop (mkF m 0 #[.val (.int p0), .val (.ref o1)] [])) _
    refine XS.iloadN X0.here hx rfl (hb hby d7_0) rfl ?_
    show Steps p.tables e below (s₁.setTop (mkF m 1 #[.val (.int p0), .val (.ref o1)] [(.int p0)])) _
    refine X0.ldcInt hx hown (mvT hZ (hw _ (List.mem_of_getElem? (i := 37) rfl))) (g := (mkF m 1 #[.val (.int p0), .val (.ref o1)] [(.int p0)])) rfl (hb hby d7_1) _ ?_
    show Steps p.tables e below (s₁.setTop (mkF m 3 #[.val (.int p0), .val (.ref o1)] [(.int (2147483639 : Int32)), (.int p0)])) _
    refine XS.icmpYes X0.here hx rfl (pc0 := 3) (pc' := 21) rfl (hb hby d7_3) rfl (feq (show ¬ (p0 = (2147483639 : Int32)) from hne)).2 (by decide) (by decide) ?_
    show Steps p.tables e below (s₁.setTop (mkF m 21 #[.val (.int p0), .val (.ref o1)] [])) _
    refine X0.ldc2Long hx hown (mvT hZ (hw _ (List.mem_of_getElem? (i := 38) rfl))) (g := (mkF m 21 #[.val (.int p0), .val (.ref o1)] [])) rfl (hb hby d7_21) _ ?_
    show Steps p.tables e below (s₁.setTop (mkF m 24 #[.val (.int p0), .val (.ref o1)] [(.long (2147483639 : Int64))])) _
    refine X0.ldc2Long hx hown (mvT hZ (hw _ (List.mem_of_getElem? (i := 39) rfl))) (g := (mkF m 24 #[.val (.int p0), .val (.ref o1)] [(.long (2147483639 : Int64))])) rfl (hb hby d7_24) _ ?_
    show Steps p.tables e below (s₁.setTop (mkF m 27 #[.val (.int p0), .val (.ref o1)] [(.long (2 : Int64)), (.long (2147483639 : Int64))])) _
    refine XS.iloadN X0.here hx rfl (hb hby d7_27) rfl ?_
    show Steps p.tables e below (s₁.setTop (mkF m 28 #[.val (.int p0), .val (.ref o1)] [(.int p0), (.long (2 : Int64)), (.long (2147483639 : Int64))])) _
    refine XS.i2l X0.here hx rfl (hb hby d7_28) rfl ?_
    show Steps p.tables e below (s₁.setTop (mkF m 29 #[.val (.int p0), .val (.ref o1)] [(.long (p0.toInt64)), (.long (2 : Int64)), (.long (2147483639 : Int64))])) _
    refine XS.lmul X0.here hx rfl (hb hby d7_29) rfl ?_
    show Steps p.tables e below (s₁.setTop (mkF m 30 #[.val (.int p0), .val (.ref o1)] [(.long ((2 : Int64) * (p0.toInt64))), (.long (2147483639 : Int64))])) _
    refine st1 _ ?_
    show Steps p.tables e below (T1.setTop (mkF m 33 #[.val (.int p0), .val (.ref o1)] [(.long (f8_ret (2147483639 : Int64) ((2 : Int64) * (p0.toInt64))))])) _
    refine XS.l2i X1.here hx rfl (hb hby d7_33) rfl ?_
    show Steps p.tables e below (T1.setTop (mkF m 34 #[.val (.int p0), .val (.ref o1)] [(.int ((f8_ret (2147483639 : Int64) ((2 : Int64) * (p0.toInt64))).toInt32))])) _
    exact k)
  obtain ⟨fs, hr, hrun, hended, hW, hsame⟩ := X1.leave (v := some (.int ((f8_ret (2147483639 : Int64) ((2 : Int64) * (p0.toInt64))).toInt32))) (fun h => by rw [Bd.returns] at h; cases h)
  refine ⟨_, _, pre2 _ ?_, hrun, hended, _, _, rfl, ?_, ⟨_, rfl⟩, hW, hsame.mono (by decide) (by decide)⟩
  · exact retI X1 hx Bd.returns (hb hby d7_34) hr
  · show Q7 Z p0 o1 h0 n0 _ T1.heap _
    rw [hh1]
    exact ⟨rfl, N1, rfl⟩
theorem pn_1 : plainName "com/example/brisk_maze/briskmaze/search/ArrayGrowthLargerPinLaw" = true := by first | (simp [plainName, overriddenIn]; done) | decide +kernel
theorem pd_1 : parseMethodDescriptor "([C)V" = some ⟨[(.array .char)], none⟩ := by decide +kernel
theorem pd_2 : parseMethodDescriptor "(ILjava/lang/String;)I" = some ⟨[.int, (.object "java/lang/String")], some .int⟩ := by decide +kernel
theorem ef_0 (m : MethodId) (p0 : Int32) (p1 : Int32) : entryFrame m #[(.int p0), (.int p1)] maxLocals = mkF m 0 #[.val (.int p0), .val (.int p1), .unset, .unset, .unset, .unset, .unset] [] := by first | (simp [entryFrame, mkF, argsToLocals, Value.category, maxLocals]; done) | rfl
def f0_61 (p0 : Int32) : Int32 := (if (1073741819 : Int32) < ((p0 &&& (2147483647 : Int32)) % (2147483639 : Int32)) then (2147483639 : Int32) else (((p0 &&& (2147483647 : Int32)) % (2147483639 : Int32)) + ((p0 &&& (2147483647 : Int32)) % (2147483639 : Int32))))

def own_lenx (x : Int32) : Int32 := ((x &&& (2147483647 : Int32)) % (2147483639 : Int32))
theorem own_lenr (x : Int32) : 0 ≤ (own_lenx x).toInt ∧ (own_lenx x).toInt < 2147483639 := by
  have e1 : (x &&& (2147483647 : Int32)).toInt = x.toInt % (2 ^ 31 : Nat) := c_mask x 2147483647 31 (by decide) (by decide)
  have e2 := (c_irem (x &&& (2147483647 : Int32)) (2147483639 : Int32) 2147483639 (by decide)).1 (by omega)
  unfold own_lenx
  omega
theorem own_len0 (x : Int32) : ¬ own_lenx x = (2147483639 : Int32) := fun q => by
  have h := (own_lenr x).2
  rw [q] at h
  exact absurd h (by decide)
theorem own_law (x : Int32) (a : Addr) : f7_ret (own_lenx x) a = f0_61 x := by
  obtain ⟨h0, h1⟩ := own_lenr x
  have e : f0_61 x = (if (1073741819 : Int32) < own_lenx x then (2147483639 : Int32) else (own_lenx x + own_lenx x)) := rfl
  rw [e]
  generalize own_lenx x = n at h0 h1 ⊢
  have t : ((2 : Int64) * n.toInt64).toInt = 2 * n.toInt := by
    have q := c_lmul (2 : Int64) n.toInt64
    have r := rng64 ((2 : Int64) * n.toInt64)
    rw [c_i2l, show (2 : Int64).toInt = 2 by decide] at q
    omega
  have c5 : (2147483639 : Int64).toInt = 2147483639 := by decide
  have c6 : (1073741819 : Int32).toInt = 1073741819 := by decide
  by_cases hc : (1073741819 : Int32) < n
  · rw [if_pos hc]
    rw [Int32.lt_iff_toInt_lt] at hc
    have g : ¬ ((2 : Int64) * n.toInt64) < (2147483639 : Int64) := by rw [Int64.lt_iff_toInt_lt]; omega
    simp only [f7_ret, f8_ret, f8_11, if_neg g]
    rfl
  · rw [if_neg hc]
    rw [Int32.lt_iff_toInt_lt] at hc
    have g : ((2 : Int64) * n.toInt64) < (2147483639 : Int64) := by rw [Int64.lt_iff_toInt_lt]; omega
    simp only [f7_ret, f8_ret, f8_11, if_pos g]
    apply Int32.toInt_inj.mp
    have q1 := c_l2i ((2 : Int64) * n.toInt64)
    have q2 := c_iadd n n
    have r1 := rng32 (((2 : Int64) * n.toInt64).toInt32)
    have r2 := rng32 (n + n)
    omega

def Q0 (Z : State) (p0 : Int32) (p1 : Int32) (G1 : Int32) (h0 : Heap) (n0 : Nat) (v : Option Value) (h : Heap) (L : List Loc) : Prop := v = some (.int 1) ∧ Fr n0 L
set_option maxRecDepth 65536 in
set_option maxHeartbeats 40000000 in
theorem rm0 (l : Launch) (Z : State) (a0 : Array Value) (hw : ∀ d ∈ tables_1, d.before a0 Z = true) (ws : List Jvm.Cond) (p0 : Int32) (p1 : Int32) (G1 : Int32) (h0 : Heap) (n0 : Nat) (Z0 : n0 ≤ h0.size) (S_COMPACT_STRINGS : Sta Z h0 "java/lang/String" "COMPACT_STRINGS" "Z" (.int G1)) (P5 : ¬ (G1 = (0 : Int32))) :
    MetFree l x (head1 (Jvm.Cond.code x code maxLocals ret :: ws) room_1) (fun a U => a = #[(.int p0), (.int p1)] ∧ Z.Warmed39 U.vm ∧ U.heap = h0) (fun _ _ _ _ _ => True) (fun _ U o U' => ∃ v L, o = .returned v ∧ Q0 Z p0 p1 G1 h0 n0 v U'.heap L ∧ FrameEnd U o U' L room_1.cells room_1.slots) := by
  refine MetFree.of_bodySF (plainFor_of_name pn_1) hisR ?_
  intro p e s m args below meth c s₁ Bd hml0 hP hK
  obtain ⟨rfl, hZ, hh⟩ := hP
  have hx := Bd.exec
  have hby := Bd.bytes
  have hml : c.maxLocals = 7 := hml0
  have hown : s.vm.findClass "com/example/brisk_maze/briskmaze/search/ArrayGrowthLargerPinLaw" = some m.cls := findClass_of_methodNamed Bd.named
  have hnm := (name_of_methodNamed Bd.named Bd.method).1
  have X0 : Stand p l e room_1 s m #[(.int p0), (.int p1)] below meth c s₁ [] 0 0 := Stand.of_body Bd
  have e0 : s₁.heap = h0 := by rw [← hh, Bd.state]; rfl
  have N0 := Fr.nil n0
  have pre0 : ∀ t, Steps p.tables e below (s₁.setTop (mkF m 0 #[.val (.int p0), .val (.int p1), .unset, .unset, .unset, .unset, .unset] [])) t → Steps p.tables e below (s₁.setTop (entryFrame m #[(.int p0), (.int p1)] maxLocals)) t := fun t k => castTop (ef_0 m p0 p1) k
  obtain ⟨T1, h1, k1, X1, e1, Ex1, Ne1, st1⟩ := newP X0 hx hZ (hw _ (List.mem_of_getElem? (i := 2) rfl)) e0 (g := (mkF m 9 #[.val (.int p0), .val (.int p1), .val (.int ((p0 &&& (2147483647 : Int32)) % (2147483639 : Int32))), .unset, .unset, .unset, .unset] [(.int (2 : Int32))])) rfl (hb hby at_9) rfl (by decide) (cap := 2) (by decide) (by decide) (by decide) (by decide)
  obtain ⟨b1, g1⟩ : ∃ z, z = h0.size := ⟨_, rfl⟩
  rw [← g1] at Ne1 st1
  have g_b1 : n0 ≤ b1 := Nat.le_trans (Nat.le_trans Z0 (Nat.le_refl _)) (Nat.le_of_eq g1.symm)
  have sz_b1 : h0.size ≤ b1 := Nat.le_trans (Nat.le_refl _) (Nat.le_of_eq g1.symm)
  have S_COMPACT_STRINGS_2 : Sta Z h1 "java/lang/String" "COMPACT_STRINGS" "Z" (.int G1) := (S_COMPACT_STRINGS).ext Ex1
  have SZ3 : h0.size ≤ h1.size := Nat.le_trans (Nat.le_refl _) Ex1.1
  have ZZ3 : n0 ≤ h1.size := Nat.le_trans Z0 SZ3
  have K4 : Keep h0 h1 [] := ((Keep.refl h0 [])).ext Ex1
  have A_b1_1 : own_A Z h1 b1 .char 2 (fun _ => (.int (0 : Int32))) := own_A.new Ne1
  have qa5 := A_b1_1
  obtain ⟨c5, Ar5, Sz5, H5⟩ := qa5
  have hi6 : 0 ≤ ((0 : Int32) : Int32).toInt ∧ ((0 : Int32) : Int32).toInt < (2 : Nat) := (by decide)
  obtain ⟨T6, h6, X6, e6, W6, st6⟩ := stC X1 hx hZ e1 Ar5 (j := (0 : Int32)) (own_in Sz5 hi6) (g := (mkF m 20 #[.val (.int p0), .val (.int p1), .val (.int ((p0 &&& (2147483647 : Int32)) % (2147483639 : Int32))), .val (.ref b1), .unset, .unset, .unset] [(.int ((p1 &&& (255 : Int32)).toUInt32.toUInt16.toUInt32.toInt32)), (.int (0 : Int32)), (.ref b1)])) rfl rfl (hb hby at_20)
  have N6 := Fr.snoc X6 N0 g_b1
  have A_b1_w6 : own_A Z h6 b1 .char 2 (fun _ => (.int (if _ = ((0 : Int32) : Int32).toNatClampNeg then (nar .char ((p1 &&& (255 : Int32)).toUInt32.toUInt16.toUInt32.toInt32)) else (0 : Int32)))) := own_A.setI A_b1_1 W6
  have S_COMPACT_STRINGS_7 : Sta Z h6 "java/lang/String" "COMPACT_STRINGS" "Z" (.int G1) := (S_COMPACT_STRINGS_2).wr W6
  have SZ8 : h0.size ≤ h6.size := by rw [W6.size]; exact SZ3
  have ZZ8 : n0 ≤ h6.size := Nat.le_trans Z0 SZ8
  have K9 : Keep h0 h6 [] := (K4).wr W6 (Or.inr sz_b1)
  have qa10 := A_b1_w6
  obtain ⟨c10, Ar10, Sz10, H10⟩ := qa10
  have hi11 : 0 ≤ ((1 : Int32) : Int32).toInt ∧ ((1 : Int32) : Int32).toInt < (2 : Nat) := (by decide)
  obtain ⟨T11, h11, X11, e11, W11, st11⟩ := stC X6 hx hZ e6 Ar10 (j := (1 : Int32)) (own_in Sz10 hi11) (g := (mkF m 32 #[.val (.int p0), .val (.int p1), .val (.int ((p0 &&& (2147483647 : Int32)) % (2147483639 : Int32))), .val (.ref b1), .unset, .unset, .unset] [(.int ((((p1.toUInt32 >>> ((8 : Int32) &&& 31).toUInt32).toInt32) &&& (255 : Int32)).toUInt32.toUInt16.toUInt32.toInt32)), (.int (1 : Int32)), (.ref b1)])) rfl rfl (hb hby at_32)
  have N11 := Fr.snoc X11 N6 g_b1
  have A_b1_w11 : own_A Z h11 b1 .char 2 (fun _ => (.int (if _ = ((1 : Int32) : Int32).toNatClampNeg then (nar .char ((((p1.toUInt32 >>> ((8 : Int32) &&& 31).toUInt32).toInt32) &&& (255 : Int32)).toUInt32.toUInt16.toUInt32.toInt32)) else (if _ = ((0 : Int32) : Int32).toNatClampNeg then (nar .char ((p1 &&& (255 : Int32)).toUInt32.toUInt16.toUInt32.toInt32)) else (0 : Int32))))) := own_A.setI A_b1_w6 W11
  have S_COMPACT_STRINGS_12 : Sta Z h11 "java/lang/String" "COMPACT_STRINGS" "Z" (.int G1) := (S_COMPACT_STRINGS_7).wr W11
  have SZ13 : h0.size ≤ h11.size := by rw [W11.size]; exact SZ8
  have ZZ13 : n0 ≤ h11.size := Nat.le_trans Z0 SZ13
  have K14 : Keep h0 h11 [] := (K9).wr W11 (Or.inr sz_b1)
  obtain ⟨T15, h15, X15, e15, Ex15, Ne15, D15, -, st15⟩ := newO X11 hx hZ hown (hw _ (List.mem_of_getElem? (i := 3) rfl)) (hw _ (List.mem_of_getElem? (i := 4) rfl)) (hw _ (List.mem_of_getElem? (i := 5) rfl)) e11 (g := (mkF m 33 #[.val (.int p0), .val (.int p1), .val (.int ((p0 &&& (2147483647 : Int32)) % (2147483639 : Int32))), .val (.ref b1), .unset, .unset, .unset] [])) rfl (hb hby at_33) (by decide) (by decide)
  obtain ⟨b15, g15⟩ : ∃ z, z = h11.size := ⟨_, rfl⟩
  rw [← g15] at Ne15 D15 st15
  have ne_b1_b15 : b1 ≠ b15 := by rw [g15]; exact Nat.ne_of_lt (A_b1_w11).lt
  have g_b15 : n0 ≤ b15 := Nat.le_trans (Nat.le_trans Z0 SZ13) (Nat.le_of_eq g15.symm)
  have sz_b15 : h0.size ≤ b15 := Nat.le_trans SZ13 (Nat.le_of_eq g15.symm)
  have S_COMPACT_STRINGS_16 : Sta Z h15 "java/lang/String" "COMPACT_STRINGS" "Z" (.int G1) := (S_COMPACT_STRINGS_12).ext Ex15
  have A_b1_16 : own_A Z h15 b1 .char 2 (fun _ => (.int (if _ = ((1 : Int32) : Int32).toNatClampNeg then (nar .char ((((p1.toUInt32 >>> ((8 : Int32) &&& 31).toUInt32).toInt32) &&& (255 : Int32)).toUInt32.toUInt16.toUInt32.toInt32)) else (if _ = ((0 : Int32) : Int32).toNatClampNeg then (nar .char ((p1 &&& (255 : Int32)).toUInt32.toUInt16.toUInt32.toInt32)) else (0 : Int32))))) := (A_b1_w11).ext Ex15
  have SZ17 : h0.size ≤ h15.size := Nat.le_trans SZ13 Ex15.1
  have ZZ17 : n0 ≤ h15.size := Nat.le_trans Z0 SZ17
  have K18 : Keep h0 h15 [] := (K14).ext Ex15
  have F_coder_b15_15 : Fld Z h15 b15 "java/lang/String" "coder" "B" (.int (0 : Int32)) := D15 (Or.inr (hw _ (List.mem_of_getElem? (i := 29) rfl))) (ty := .byte) (by decide)
  have F_value_b15_15 : Fld Z h15 b15 "java/lang/String" "value" "[B" .null := D15 (Or.inr (hw _ (List.mem_of_getElem? (i := 31) rfl))) (ty := (.array .byte)) (by decide)
  obtain ⟨kA19, VA19⟩ := own_arv (z := (2 : Int32)) (vs := ([nar .char ((p1 &&& (255 : Int32)).toUInt32.toUInt16.toUInt32.toInt32), nar .char ((((p1.toUInt32 >>> ((8 : Int32) &&& 31).toUInt32).toInt32) &&& (255 : Int32)).toUInt32.toUInt16.toUInt32.toInt32)] : List Int32).map Value.int) (d := .int 0) A_b1_16 rfl (by decide) (fun i hi => by rcases (show i = 0 ∨ i = 1 by omega) with rfl | rfl <;> rfl) (fun i hi => by rcases (show i = 0 ∨ i = 1 by omega) with rfl | rfl <;> exact fits_nar_char _)
  have hws19 : ∀ d ∈ StrChars.Road.words, d.before a0 Z = true := fun d hd => hw d ((by decide +kernel : ∀ d ∈ StrChars.Road.words, d ∈ tables_1) d hd)
  have hp19 : ∀ c ∈ ([nar .char ((p1 &&& (255 : Int32)).toUInt32.toUInt16.toUInt32.toInt32), nar .char ((((p1.toUInt32 >>> ((8 : Int32) &&& 31).toUInt32).toInt32) &&& (255 : Int32)).toUInt32.toUInt16.toUInt32.toInt32)] : List Int32), ¬ c < 0 ∧ ¬ (255 : Int32) < c := by
    intro c hc
    simp only [List.mem_cons, List.not_mem_nil, or_false] at hc
    rcases hc with rfl | rfl
    · exact own_ch _
    · exact own_ch _
  obtain ⟨_, _, ⟨T19, L19, k19, n19⟩, -, X19, ⟨Lc19, hQ19, l19, y19, z19⟩, st19⟩ := X15.specialBack hx (y := (⟨"java/lang/String", "<init>", "([C)V"⟩ : MethodName)) rfl hown (mvT hZ (hw _ (List.mem_of_getElem? (i := 6) rfl))) (mvT hZ (hw _ (List.mem_of_getElem? (i := 7) rfl))) (mvT hZ (hw _ (List.mem_of_getElem? (i := 8) rfl))) (by decide) (StrChars.Road.backV (W := 1) hZ hws19 (kI := 4) (hw _ (List.mem_of_getElem? (i := 4) rfl)) (cs := ([nar .char ((p1 &&& (255 : Int32)).toUInt32.toUInt16.toUInt32.toInt32), nar .char ((((p1.toUInt32 >>> ((8 : Int32) &&& 31).toUInt32).toInt32) &&& (255 : Int32)).toUInt32.toUInt16.toUInt32.toInt32)] : List Int32)) (bs := (([nar .char ((p1 &&& (255 : Int32)).toUInt32.toUInt16.toUInt32.toInt32), nar .char ((((p1.toUInt32 >>> ((8 : Int32) &&& 31).toUInt32).toInt32) &&& (255 : Int32)).toUInt32.toUInt16.toUInt32.toInt32)] : List Int32)).map (fun c => c.toInt8.toInt32)) (n := 2) g_b15 ZZ17 Ne15 F_value_b15_15 F_coder_b15_15 VA19 S_COMPACT_STRINGS_16 P5 rfl rfl (by decide) (by decide) hp19 rfl (by decide) (by decide)) (g := (mkF m 38 #[.val (.int p0), .val (.int p1), .val (.int ((p0 &&& (2147483647 : Int32)) % (2147483639 : Int32))), .val (.ref b1), .unset, .unset, .unset] [(.ref b1), (.ref b15), (.ref b15)])) rfl (by rw [hml]; rfl) (Steps.refl _) (a := b15) (argsL := [(.ref b1)]) (rest := [(.ref b15)]) (lenOf pd_1 rfl) rfl (by show 2 * 0 + _ ≤ _; exact Nat.le_of_eq rfl) (hb hby at_38) (fun _ _ => ⟨rfl, e15, (by decide : 2 + 1 ≤ _), (by decide : 6 + 2 ≤ _)⟩)
  dsimp only [Pt.U, Pt.locs, Pt.cells, Pt.slots] at X19 l19 y19 z19 st19 hQ19
  subst l19 y19 z19
  obtain ⟨rfl, N19q, Kc19, Es19, Fc19, t19, kb19, gt19, szt19, net19, Fv19, Vb19⟩ := hQ19
  have N19 := Fr.app N11 N19q
  have A_b1_20 : own_A Z T19.heap b1 .char 2 (fun _ => (.int (if _ = ((1 : Int32) : Int32).toNatClampNeg then (nar .char ((((p1.toUInt32 >>> ((8 : Int32) &&& 31).toUInt32).toInt32) &&& (255 : Int32)).toUInt32.toUInt16.toUInt32.toInt32)) else (if _ = ((0 : Int32) : Int32).toNatClampNeg then (nar .char ((p1 &&& (255 : Int32)).toUInt32.toUInt16.toUInt32.toInt32)) else (0 : Int32))))) := (A_b1_16).keep Kc19 (ninS ne_b1_b15 nin0)
  have E_b15_20 : Exa Z T19.heap b15 "java/lang/String" := (Ne15).keep Kc19
  have SZ21 : h0.size ≤ T19.heap.size := Nat.le_trans SZ17 Kc19.1
  have ZZ21 : n0 ≤ T19.heap.size := Nat.le_trans Z0 SZ21
  have K22 : Keep h0 T19.heap [] := (K18).trans Kc19 (allS (Or.inr sz_b15) all0)
  have pre23 : ∀ t, Steps p.tables e below (T19.setTop (mkF m 46 #[.val (.int p0), .val (.int p1), .val (.int ((p0 &&& (2147483647 : Int32)) % (2147483639 : Int32))), .val (.ref b1), .val (.ref b15), .unset, .unset] [(.int (1073741819 : Int32)), (.int ((p0 &&& (2147483647 : Int32)) % (2147483639 : Int32)))])) t → Steps p.tables e below (s₁.setTop (entryFrame m #[(.int p0), (.int p1)] maxLocals)) t := fun t k => pre0 t (by
    show Steps p.tables e below (s₁.setTop (mkF m 0 #[.val (.int p0), .val (.int p1), .unset, .unset, .unset, .unset, .unset] [])) _
    refine XS.iloadN X0.here hx rfl (hb hby at_0) rfl ?_
    show Steps p.tables e below (s₁.setTop (mkF m 1 #[.val (.int p0), .val (.int p1), .unset, .unset, .unset, .unset, .unset] [(.int p0)])) _
    refine X0.ldcInt hx hown (mvT hZ (hw _ (List.mem_of_getElem? (i := 0) rfl))) (g := (mkF m 1 #[.val (.int p0), .val (.int p1), .unset, .unset, .unset, .unset, .unset] [(.int p0)])) rfl (hb hby at_1) _ ?_
    show Steps p.tables e below (s₁.setTop (mkF m 3 #[.val (.int p0), .val (.int p1), .unset, .unset, .unset, .unset, .unset] [(.int (2147483647 : Int32)), (.int p0)])) _
    refine XS.iand X0.here hx rfl (hb hby at_3) rfl ?_
    show Steps p.tables e below (s₁.setTop (mkF m 4 #[.val (.int p0), .val (.int p1), .unset, .unset, .unset, .unset, .unset] [(.int (p0 &&& (2147483647 : Int32)))])) _
    refine X0.ldcInt hx hown (mvT hZ (hw _ (List.mem_of_getElem? (i := 1) rfl))) (g := (mkF m 4 #[.val (.int p0), .val (.int p1), .unset, .unset, .unset, .unset, .unset] [(.int (p0 &&& (2147483647 : Int32)))])) rfl (hb hby at_4) _ ?_
    show Steps p.tables e below (s₁.setTop (mkF m 6 #[.val (.int p0), .val (.int p1), .unset, .unset, .unset, .unset, .unset] [(.int (2147483639 : Int32)), (.int (p0 &&& (2147483647 : Int32)))])) _
    refine iremM (g := (mkF m 6 #[.val (.int p0), .val (.int p1), .unset, .unset, .unset, .unset, .unset] [(.int (2147483639 : Int32)), (.int (p0 &&& (2147483647 : Int32)))])) X0 hx rfl (hb hby at_6) rfl (by decide) ?_
    show Steps p.tables e below (s₁.setTop (mkF m 7 #[.val (.int p0), .val (.int p1), .unset, .unset, .unset, .unset, .unset] [(.int ((p0 &&& (2147483647 : Int32)) % (2147483639 : Int32)))])) _
    refine XS.istoreN X0.here hx rfl (hb hby at_7) rfl (l' := #[.val (.int p0), .val (.int p1), .val (.int ((p0 &&& (2147483647 : Int32)) % (2147483639 : Int32))), .unset, .unset, .unset, .unset]) rfl ?_
    show Steps p.tables e below (s₁.setTop (mkF m 8 #[.val (.int p0), .val (.int p1), .val (.int ((p0 &&& (2147483647 : Int32)) % (2147483639 : Int32))), .unset, .unset, .unset, .unset] [])) _
    refine XS.iconst X0.here hx rfl (hb hby at_8) ?_
    show Steps p.tables e below (s₁.setTop (mkF m 9 #[.val (.int p0), .val (.int p1), .val (.int ((p0 &&& (2147483647 : Int32)) % (2147483639 : Int32))), .unset, .unset, .unset, .unset] [(.int (2 : Int32))])) _
    refine st1 _ ?_
    show Steps p.tables e below (T1.setTop (mkF m 11 #[.val (.int p0), .val (.int p1), .val (.int ((p0 &&& (2147483647 : Int32)) % (2147483639 : Int32))), .unset, .unset, .unset, .unset] [(.ref b1)])) _
    refine XS.astoreN X1.here hx rfl (hb hby at_11) rfl rfl (l' := #[.val (.int p0), .val (.int p1), .val (.int ((p0 &&& (2147483647 : Int32)) % (2147483639 : Int32))), .val (.ref b1), .unset, .unset, .unset]) rfl ?_
    show Steps p.tables e below (T1.setTop (mkF m 12 #[.val (.int p0), .val (.int p1), .val (.int ((p0 &&& (2147483647 : Int32)) % (2147483639 : Int32))), .val (.ref b1), .unset, .unset, .unset] [])) _
    refine XS.aloadN X1.here hx rfl (hb hby at_12) rfl rfl ?_
    show Steps p.tables e below (T1.setTop (mkF m 13 #[.val (.int p0), .val (.int p1), .val (.int ((p0 &&& (2147483647 : Int32)) % (2147483639 : Int32))), .val (.ref b1), .unset, .unset, .unset] [(.ref b1)])) _
    refine XS.iconst X1.here hx rfl (hb hby at_13) ?_
    show Steps p.tables e below (T1.setTop (mkF m 14 #[.val (.int p0), .val (.int p1), .val (.int ((p0 &&& (2147483647 : Int32)) % (2147483639 : Int32))), .val (.ref b1), .unset, .unset, .unset] [(.int (0 : Int32)), (.ref b1)])) _
    refine XS.iloadN X1.here hx rfl (hb hby at_14) rfl ?_
    show Steps p.tables e below (T1.setTop (mkF m 15 #[.val (.int p0), .val (.int p1), .val (.int ((p0 &&& (2147483647 : Int32)) % (2147483639 : Int32))), .val (.ref b1), .unset, .unset, .unset] [(.int p1), (.int (0 : Int32)), (.ref b1)])) _
    refine XS.sipush X1.here hx rfl (hb hby at_15) ?_
    show Steps p.tables e below (T1.setTop (mkF m 18 #[.val (.int p0), .val (.int p1), .val (.int ((p0 &&& (2147483647 : Int32)) % (2147483639 : Int32))), .val (.ref b1), .unset, .unset, .unset] [(.int (255 : Int32)), (.int p1), (.int (0 : Int32)), (.ref b1)])) _
    refine XS.iand X1.here hx rfl (hb hby at_18) rfl ?_
    show Steps p.tables e below (T1.setTop (mkF m 19 #[.val (.int p0), .val (.int p1), .val (.int ((p0 &&& (2147483647 : Int32)) % (2147483639 : Int32))), .val (.ref b1), .unset, .unset, .unset] [(.int (p1 &&& (255 : Int32))), (.int (0 : Int32)), (.ref b1)])) _
    refine XS.i2c X1.here hx rfl (hb hby at_19) rfl ?_
    show Steps p.tables e below (T1.setTop (mkF m 20 #[.val (.int p0), .val (.int p1), .val (.int ((p0 &&& (2147483647 : Int32)) % (2147483639 : Int32))), .val (.ref b1), .unset, .unset, .unset] [(.int ((p1 &&& (255 : Int32)).toUInt32.toUInt16.toUInt32.toInt32)), (.int (0 : Int32)), (.ref b1)])) _
    refine st6 _ ?_
    show Steps p.tables e below (T6.setTop (mkF m 21 #[.val (.int p0), .val (.int p1), .val (.int ((p0 &&& (2147483647 : Int32)) % (2147483639 : Int32))), .val (.ref b1), .unset, .unset, .unset] [])) _
    refine XS.aloadN X6.here hx rfl (hb hby at_21) rfl rfl ?_
    show Steps p.tables e below (T6.setTop (mkF m 22 #[.val (.int p0), .val (.int p1), .val (.int ((p0 &&& (2147483647 : Int32)) % (2147483639 : Int32))), .val (.ref b1), .unset, .unset, .unset] [(.ref b1)])) _
    refine XS.iconst X6.here hx rfl (hb hby at_22) ?_
    show Steps p.tables e below (T6.setTop (mkF m 23 #[.val (.int p0), .val (.int p1), .val (.int ((p0 &&& (2147483647 : Int32)) % (2147483639 : Int32))), .val (.ref b1), .unset, .unset, .unset] [(.int (1 : Int32)), (.ref b1)])) _
    refine XS.iloadN X6.here hx rfl (hb hby at_23) rfl ?_
    show Steps p.tables e below (T6.setTop (mkF m 24 #[.val (.int p0), .val (.int p1), .val (.int ((p0 &&& (2147483647 : Int32)) % (2147483639 : Int32))), .val (.ref b1), .unset, .unset, .unset] [(.int p1), (.int (1 : Int32)), (.ref b1)])) _
    refine XS.bipush X6.here hx rfl (hb hby at_24) ?_
    show Steps p.tables e below (T6.setTop (mkF m 26 #[.val (.int p0), .val (.int p1), .val (.int ((p0 &&& (2147483647 : Int32)) % (2147483639 : Int32))), .val (.ref b1), .unset, .unset, .unset] [(.int (8 : Int32)), (.int p1), (.int (1 : Int32)), (.ref b1)])) _
    refine XS.iushr X6.here hx rfl (hb hby at_26) rfl ?_
    show Steps p.tables e below (T6.setTop (mkF m 27 #[.val (.int p0), .val (.int p1), .val (.int ((p0 &&& (2147483647 : Int32)) % (2147483639 : Int32))), .val (.ref b1), .unset, .unset, .unset] [(.int ((p1.toUInt32 >>> ((8 : Int32) &&& 31).toUInt32).toInt32)), (.int (1 : Int32)), (.ref b1)])) _
    refine XS.sipush X6.here hx rfl (hb hby at_27) ?_
    show Steps p.tables e below (T6.setTop (mkF m 30 #[.val (.int p0), .val (.int p1), .val (.int ((p0 &&& (2147483647 : Int32)) % (2147483639 : Int32))), .val (.ref b1), .unset, .unset, .unset] [(.int (255 : Int32)), (.int ((p1.toUInt32 >>> ((8 : Int32) &&& 31).toUInt32).toInt32)), (.int (1 : Int32)), (.ref b1)])) _
    refine XS.iand X6.here hx rfl (hb hby at_30) rfl ?_
    show Steps p.tables e below (T6.setTop (mkF m 31 #[.val (.int p0), .val (.int p1), .val (.int ((p0 &&& (2147483647 : Int32)) % (2147483639 : Int32))), .val (.ref b1), .unset, .unset, .unset] [(.int (((p1.toUInt32 >>> ((8 : Int32) &&& 31).toUInt32).toInt32) &&& (255 : Int32))), (.int (1 : Int32)), (.ref b1)])) _
    refine XS.i2c X6.here hx rfl (hb hby at_31) rfl ?_
    show Steps p.tables e below (T6.setTop (mkF m 32 #[.val (.int p0), .val (.int p1), .val (.int ((p0 &&& (2147483647 : Int32)) % (2147483639 : Int32))), .val (.ref b1), .unset, .unset, .unset] [(.int ((((p1.toUInt32 >>> ((8 : Int32) &&& 31).toUInt32).toInt32) &&& (255 : Int32)).toUInt32.toUInt16.toUInt32.toInt32)), (.int (1 : Int32)), (.ref b1)])) _
    refine st11 _ ?_
    show Steps p.tables e below (T11.setTop (mkF m 33 #[.val (.int p0), .val (.int p1), .val (.int ((p0 &&& (2147483647 : Int32)) % (2147483639 : Int32))), .val (.ref b1), .unset, .unset, .unset] [])) _
    refine st15 _ ?_
    show Steps p.tables e below (T15.setTop (mkF m 36 #[.val (.int p0), .val (.int p1), .val (.int ((p0 &&& (2147483647 : Int32)) % (2147483639 : Int32))), .val (.ref b1), .unset, .unset, .unset] [(.ref b15)])) _
    refine XS.dup X15.here hx rfl (hb hby at_36) rfl rfl ?_
    show Steps p.tables e below (T15.setTop (mkF m 37 #[.val (.int p0), .val (.int p1), .val (.int ((p0 &&& (2147483647 : Int32)) % (2147483639 : Int32))), .val (.ref b1), .unset, .unset, .unset] [(.ref b15), (.ref b15)])) _
    refine XS.aloadN X15.here hx rfl (hb hby at_37) rfl rfl ?_
    show Steps p.tables e below (T15.setTop (mkF m 38 #[.val (.int p0), .val (.int p1), .val (.int ((p0 &&& (2147483647 : Int32)) % (2147483639 : Int32))), .val (.ref b1), .unset, .unset, .unset] [(.ref b1), (.ref b15), (.ref b15)])) _
    refine st19.trans ?_
    show Steps p.tables e below (T19.setTop (mkF m 41 #[.val (.int p0), .val (.int p1), .val (.int ((p0 &&& (2147483647 : Int32)) % (2147483639 : Int32))), .val (.ref b1), .unset, .unset, .unset] [(.ref b15)])) _
    refine XS.astore X19.here hx rfl (hb hby at_41) rfl rfl (l' := #[.val (.int p0), .val (.int p1), .val (.int ((p0 &&& (2147483647 : Int32)) % (2147483639 : Int32))), .val (.ref b1), .val (.ref b15), .unset, .unset]) rfl ?_
    show Steps p.tables e below (T19.setTop (mkF m 43 #[.val (.int p0), .val (.int p1), .val (.int ((p0 &&& (2147483647 : Int32)) % (2147483639 : Int32))), .val (.ref b1), .val (.ref b15), .unset, .unset] [])) _
    refine XS.iloadN X19.here hx rfl (hb hby at_43) rfl ?_
    show Steps p.tables e below (T19.setTop (mkF m 44 #[.val (.int p0), .val (.int p1), .val (.int ((p0 &&& (2147483647 : Int32)) % (2147483639 : Int32))), .val (.ref b1), .val (.ref b15), .unset, .unset] [(.int ((p0 &&& (2147483647 : Int32)) % (2147483639 : Int32)))])) _
    refine X19.ldcInt hx hown (mvT hZ (hw _ (List.mem_of_getElem? (i := 32) rfl))) (g := (mkF m 44 #[.val (.int p0), .val (.int p1), .val (.int ((p0 &&& (2147483647 : Int32)) % (2147483639 : Int32))), .val (.ref b1), .val (.ref b15), .unset, .unset] [(.int ((p0 &&& (2147483647 : Int32)) % (2147483639 : Int32)))])) rfl (hb hby at_44) _ ?_
    show Steps p.tables e below (T19.setTop (mkF m 46 #[.val (.int p0), .val (.int p1), .val (.int ((p0 &&& (2147483647 : Int32)) % (2147483639 : Int32))), .val (.ref b1), .val (.ref b15), .unset, .unset] [(.int (1073741819 : Int32)), (.int ((p0 &&& (2147483647 : Int32)) % (2147483639 : Int32)))])) _
    exact k)
  have pre25 : ∀ t, Steps p.tables e below (T19.setTop (mkF m 61 #[.val (.int p0), .val (.int p1), .val (.int ((p0 &&& (2147483647 : Int32)) % (2147483639 : Int32))), .val (.ref b1), .val (.ref b15), .val (.int (f0_61 p0)), .unset] [])) t → Steps p.tables e below (s₁.setTop (entryFrame m #[(.int p0), (.int p1)] maxLocals)) t := fun t k => pre23 t (by
    by_cases hf24 : (1073741819 : Int32) < ((p0 &&& (2147483647 : Int32)) % (2147483639 : Int32))
    · refine XS.icmpYes X19.here hx rfl (pc0 := 46) (pc' := 57) rfl (hb hby at_46) rfl (tlt hf24).2.2.1 (by decide) (by decide) ?_
      show Steps p.tables e below (T19.setTop (mkF m 57 #[.val (.int p0), .val (.int p1), .val (.int ((p0 &&& (2147483647 : Int32)) % (2147483639 : Int32))), .val (.ref b1), .val (.ref b15), .unset, .unset] [])) _
      refine X19.ldcInt hx hown (mvT hZ (hw _ (List.mem_of_getElem? (i := 1) rfl))) (g := (mkF m 57 #[.val (.int p0), .val (.int p1), .val (.int ((p0 &&& (2147483647 : Int32)) % (2147483639 : Int32))), .val (.ref b1), .val (.ref b15), .unset, .unset] [])) rfl (hb hby at_57) _ ?_
      show Steps p.tables e below (T19.setTop (mkF m 59 #[.val (.int p0), .val (.int p1), .val (.int ((p0 &&& (2147483647 : Int32)) % (2147483639 : Int32))), .val (.ref b1), .val (.ref b15), .unset, .unset] [(.int (2147483639 : Int32))])) _
      refine XS.istore X19.here hx rfl (hb hby at_59) rfl (l' := #[.val (.int p0), .val (.int p1), .val (.int ((p0 &&& (2147483647 : Int32)) % (2147483639 : Int32))), .val (.ref b1), .val (.ref b15), .val (.int (2147483639 : Int32)), .unset]) rfl ?_
      show Steps p.tables e below (T19.setTop (mkF m 61 #[.val (.int p0), .val (.int p1), .val (.int ((p0 &&& (2147483647 : Int32)) % (2147483639 : Int32))), .val (.ref b1), .val (.ref b15), .val (.int (2147483639 : Int32)), .unset] [])) _
      rw [show (f0_61 p0) = ((2147483639 : Int32) : Int32) from by simp only [f0_61, if_pos hf24]] at k
      exact k
    · refine XS.icmpNo X19.here hx rfl (hb hby at_46) rfl (flt hf24).2.2.1 ?_
      show Steps p.tables e below (T19.setTop (mkF m 49 #[.val (.int p0), .val (.int p1), .val (.int ((p0 &&& (2147483647 : Int32)) % (2147483639 : Int32))), .val (.ref b1), .val (.ref b15), .unset, .unset] [])) _
      refine XS.iloadN X19.here hx rfl (hb hby at_49) rfl ?_
      show Steps p.tables e below (T19.setTop (mkF m 50 #[.val (.int p0), .val (.int p1), .val (.int ((p0 &&& (2147483647 : Int32)) % (2147483639 : Int32))), .val (.ref b1), .val (.ref b15), .unset, .unset] [(.int ((p0 &&& (2147483647 : Int32)) % (2147483639 : Int32)))])) _
      refine XS.iloadN X19.here hx rfl (hb hby at_50) rfl ?_
      show Steps p.tables e below (T19.setTop (mkF m 51 #[.val (.int p0), .val (.int p1), .val (.int ((p0 &&& (2147483647 : Int32)) % (2147483639 : Int32))), .val (.ref b1), .val (.ref b15), .unset, .unset] [(.int ((p0 &&& (2147483647 : Int32)) % (2147483639 : Int32))), (.int ((p0 &&& (2147483647 : Int32)) % (2147483639 : Int32)))])) _
      refine XS.iadd X19.here hx rfl (hb hby at_51) rfl ?_
      show Steps p.tables e below (T19.setTop (mkF m 52 #[.val (.int p0), .val (.int p1), .val (.int ((p0 &&& (2147483647 : Int32)) % (2147483639 : Int32))), .val (.ref b1), .val (.ref b15), .unset, .unset] [(.int (((p0 &&& (2147483647 : Int32)) % (2147483639 : Int32)) + ((p0 &&& (2147483647 : Int32)) % (2147483639 : Int32))))])) _
      refine XS.istore X19.here hx rfl (hb hby at_52) rfl (l' := #[.val (.int p0), .val (.int p1), .val (.int ((p0 &&& (2147483647 : Int32)) % (2147483639 : Int32))), .val (.ref b1), .val (.ref b15), .val (.int (((p0 &&& (2147483647 : Int32)) % (2147483639 : Int32)) + ((p0 &&& (2147483647 : Int32)) % (2147483639 : Int32)))), .unset]) rfl ?_
      show Steps p.tables e below (T19.setTop (mkF m 54 #[.val (.int p0), .val (.int p1), .val (.int ((p0 &&& (2147483647 : Int32)) % (2147483639 : Int32))), .val (.ref b1), .val (.ref b15), .val (.int (((p0 &&& (2147483647 : Int32)) % (2147483639 : Int32)) + ((p0 &&& (2147483647 : Int32)) % (2147483639 : Int32)))), .unset] [])) _
      refine XS.goto X19.here hx rfl (pc0 := 54) (pc' := 61) rfl (hb hby at_54) (by decide) (by decide) ?_
      show Steps p.tables e below (T19.setTop (mkF m 61 #[.val (.int p0), .val (.int p1), .val (.int ((p0 &&& (2147483647 : Int32)) % (2147483639 : Int32))), .val (.ref b1), .val (.ref b15), .val (.int (((p0 &&& (2147483647 : Int32)) % (2147483639 : Int32)) + ((p0 &&& (2147483647 : Int32)) % (2147483639 : Int32)))), .unset] [])) _
      rw [show (f0_61 p0) = ((((p0 &&& (2147483647 : Int32)) % (2147483639 : Int32)) + ((p0 &&& (2147483647 : Int32)) % (2147483639 : Int32))) : Int32) from by simp only [f0_61, if_neg hf24]] at k
      exact k)
  obtain ⟨_, _, ⟨T26, L26, k26, n26⟩, -, X26, ⟨Lc26, hQ26, l26, y26, z26⟩, st26⟩ := Jvm.LawKit.callS X19 hx (y := (⟨"com/example/brisk_maze/briskmaze/search/ArrayGrowth", "larger", "(ILjava/lang/String;)I"⟩ : MethodName)) hown (mvT hZ (hw _ (List.mem_of_getElem? (i := 33) rfl))) (mvT hZ (hw _ (List.mem_of_getElem? (i := 34) rfl))) (mvT hZ (hw _ (List.mem_of_getElem? (i := 35) rfl))) (mvT hZ (hw _ (List.mem_of_getElem? (i := 36) rfl))) (by decide) (backOf (W := 0) (rm7 l Z a0 hw [] ((p0 &&& (2147483647 : Int32)) % (2147483639 : Int32)) b15 T19.heap n0 ZZ21 (own_len0 _)) hZ (hw _ (List.mem_of_getElem? (i := 36) rfl)) (hw _ (List.mem_of_getElem? (i := 35) rfl)) (by decide) (by decide)) (g := (mkF m 64 #[.val (.int p0), .val (.int p1), .val (.int ((p0 &&& (2147483647 : Int32)) % (2147483639 : Int32))), .val (.ref b1), .val (.ref b15), .val (.int (f0_61 p0)), .unset] [(.ref b15), (.int ((p0 &&& (2147483647 : Int32)) % (2147483639 : Int32)))])) rfl (by rw [hml]; rfl) (argsL := [(.int ((p0 &&& (2147483647 : Int32)) % (2147483639 : Int32))), (.ref b15)]) (rest := []) (lenOf pd_2 rfl) rfl (by show 2 * 0 + _ ≤ _; exact Nat.le_of_eq rfl) (hb hby at_64) (fun _ _ => ⟨rfl, rfl, (by decide : 3 + 0 ≤ _), (by decide : 8 + 0 ≤ _)⟩)
  dsimp only [Pt.U, Pt.locs, Pt.cells, Pt.slots] at X26 l26 y26 z26 st26 hQ26
  subst l26 y26 z26
  obtain ⟨rfl, N26q, hh26⟩ := hQ26
  have N26 := Fr.app N19 N26q
  have pre27 : ∀ t, Steps p.tables e below (T26.setTop (mkF m 81 #[.val (.int p0), .val (.int p1), .val (.int ((p0 &&& (2147483647 : Int32)) % (2147483639 : Int32))), .val (.ref b1), .val (.ref b15), .val (.int (f0_61 p0)), .val (.int (f7_ret ((p0 &&& (2147483647 : Int32)) % (2147483639 : Int32)) b15))] [(.int (1 : Int32))])) t → Steps p.tables e below (s₁.setTop (entryFrame m #[(.int p0), (.int p1)] maxLocals)) t := fun t k => pre25 t (by
    refine XS.iloadN X19.here hx rfl (hb hby at_61) rfl ?_
    show Steps p.tables e below (T19.setTop (mkF m 62 #[.val (.int p0), .val (.int p1), .val (.int ((p0 &&& (2147483647 : Int32)) % (2147483639 : Int32))), .val (.ref b1), .val (.ref b15), .val (.int (f0_61 p0)), .unset] [(.int ((p0 &&& (2147483647 : Int32)) % (2147483639 : Int32)))])) _
    refine XS.aload X19.here hx rfl (hb hby at_62) rfl rfl ?_
    show Steps p.tables e below (T19.setTop (mkF m 64 #[.val (.int p0), .val (.int p1), .val (.int ((p0 &&& (2147483647 : Int32)) % (2147483639 : Int32))), .val (.ref b1), .val (.ref b15), .val (.int (f0_61 p0)), .unset] [(.ref b15), (.int ((p0 &&& (2147483647 : Int32)) % (2147483639 : Int32)))])) _
    refine st26 _ ?_
    show Steps p.tables e below (T26.setTop (mkF m 67 #[.val (.int p0), .val (.int p1), .val (.int ((p0 &&& (2147483647 : Int32)) % (2147483639 : Int32))), .val (.ref b1), .val (.ref b15), .val (.int (f0_61 p0)), .unset] [(.int (f7_ret ((p0 &&& (2147483647 : Int32)) % (2147483639 : Int32)) b15))])) _
    refine XS.istore X26.here hx rfl (hb hby at_67) rfl (l' := #[.val (.int p0), .val (.int p1), .val (.int ((p0 &&& (2147483647 : Int32)) % (2147483639 : Int32))), .val (.ref b1), .val (.ref b15), .val (.int (f0_61 p0)), .val (.int (f7_ret ((p0 &&& (2147483647 : Int32)) % (2147483639 : Int32)) b15))]) rfl ?_
    show Steps p.tables e below (T26.setTop (mkF m 69 #[.val (.int p0), .val (.int p1), .val (.int ((p0 &&& (2147483647 : Int32)) % (2147483639 : Int32))), .val (.ref b1), .val (.ref b15), .val (.int (f0_61 p0)), .val (.int (f7_ret ((p0 &&& (2147483647 : Int32)) % (2147483639 : Int32)) b15))] [])) _
    refine XS.iload X26.here hx rfl (hb hby at_69) rfl ?_
    show Steps p.tables e below (T26.setTop (mkF m 71 #[.val (.int p0), .val (.int p1), .val (.int ((p0 &&& (2147483647 : Int32)) % (2147483639 : Int32))), .val (.ref b1), .val (.ref b15), .val (.int (f0_61 p0)), .val (.int (f7_ret ((p0 &&& (2147483647 : Int32)) % (2147483639 : Int32)) b15))] [(.int (f7_ret ((p0 &&& (2147483647 : Int32)) % (2147483639 : Int32)) b15))])) _
    refine XS.iload X26.here hx rfl (hb hby at_71) rfl ?_
    show Steps p.tables e below (T26.setTop (mkF m 73 #[.val (.int p0), .val (.int p1), .val (.int ((p0 &&& (2147483647 : Int32)) % (2147483639 : Int32))), .val (.ref b1), .val (.ref b15), .val (.int (f0_61 p0)), .val (.int (f7_ret ((p0 &&& (2147483647 : Int32)) % (2147483639 : Int32)) b15))] [(.int (f0_61 p0)), (.int (f7_ret ((p0 &&& (2147483647 : Int32)) % (2147483639 : Int32)) b15))])) _
    refine XS.icmpNo X26.here hx rfl (hb hby at_73) rfl (teq (show (f7_ret ((p0 &&& (2147483647 : Int32)) % (2147483639 : Int32)) b15) = (f0_61 p0) from own_law _ _)).2 ?_
    show Steps p.tables e below (T26.setTop (mkF m 76 #[.val (.int p0), .val (.int p1), .val (.int ((p0 &&& (2147483647 : Int32)) % (2147483639 : Int32))), .val (.ref b1), .val (.ref b15), .val (.int (f0_61 p0)), .val (.int (f7_ret ((p0 &&& (2147483647 : Int32)) % (2147483639 : Int32)) b15))] [])) _
    refine XS.iconst X26.here hx rfl (hb hby at_76) ?_
    show Steps p.tables e below (T26.setTop (mkF m 77 #[.val (.int p0), .val (.int p1), .val (.int ((p0 &&& (2147483647 : Int32)) % (2147483639 : Int32))), .val (.ref b1), .val (.ref b15), .val (.int (f0_61 p0)), .val (.int (f7_ret ((p0 &&& (2147483647 : Int32)) % (2147483639 : Int32)) b15))] [(.int (1 : Int32))])) _
    refine XS.goto X26.here hx rfl (pc0 := 77) (pc' := 81) rfl (hb hby at_77) (by decide) (by decide) ?_
    show Steps p.tables e below (T26.setTop (mkF m 81 #[.val (.int p0), .val (.int p1), .val (.int ((p0 &&& (2147483647 : Int32)) % (2147483639 : Int32))), .val (.ref b1), .val (.ref b15), .val (.int (f0_61 p0)), .val (.int (f7_ret ((p0 &&& (2147483647 : Int32)) % (2147483639 : Int32)) b15))] [(.int (1 : Int32))])) _
    exact k)
  obtain ⟨fs, hr, hrun, hended, hW, hsame⟩ := X26.leave (v := some (.int (1 : Int32))) (fun h => by rw [Bd.returns] at h; cases h)
  refine ⟨_, _, pre27 _ ?_, hrun, hended, _, _, rfl, ?_, ⟨_, rfl⟩, hW, hsame.mono (by decide) (by decide)⟩
  · exact retN X26 hx (t := .boolean) Bd.returns (by simp) (hb hby at_81) hr
  · show Q0 Z p0 p1 G1 h0 n0 _ T26.heap _
    rw [hh26]
    exact ⟨rfl, N26⟩
set_option maxRecDepth 65536 in
set_option maxHeartbeats 40000000 in
theorem comes_1 {Post : Tables → Env → Array Value → State → Outcome → State → Prop} (hpost : ∀ tb e args s v u, (limb_1_1.after args s (.returned v) u = true ∧ limb_1_2.after args s (.returned v) u = true ∧ True) → FrameEnd s (.returned v) u (Jvm.fieldLocs frame_1_writes args s ++ Jvm.arrayLocs frame_1_arrays args s ++ Jvm.staticLocs frame_1_statics s) 16 128 → Post tb e args s (.returned v) u) :
    ArmFor flags0 classFile x code maxLocals ret World_1 tables_1 room_1 Calls_1 rest_1 Pre_1 Post := by
  intro l hfl _ _ p e ha hc hk s m args below hf hA hF happ hP
  obtain ⟨hcalls, hrest, hpre⟩ := hP
  obtain ⟨-, -, -, hnamed, -, -, -, hat⟩ := (Spec.applies_iff hf).mp happ
  obtain ⟨hg, hn⟩ := and_e (Cond.before_iff.mp (show (Jvm.Cond.and given_1 narrow_1).before args s = true from hpre))
  obtain ⟨h1, g0⟩ := and_e hg
  obtain ⟨u0, g1⟩ := and_e g0
  obtain ⟨w0, w1, rfl⟩ : ∃ w0 w1 : Value, args = #[w0, w1] := by
    have hs : args.size = 2 := by simpa [Cond.value, given_1] using h1
    obtain ⟨L⟩ := args
    match L, hs with
    | [w0, w1], _ => exact ⟨w0, w1, rfl⟩
  have hw := fun d (hd : d ∈ tables_1) => atoms_spec (ws := Jvm.Cond.code x code maxLocals ret :: tables_1) hat d (List.mem_cons_of_mem _ hd)
  have hfit : Fit s := fun {y c} hc i hi => by
    obtain ⟨ha, rfl⟩ := Array.getElem?_eq_some_iff.mp hc
    have q := List.all_eq_true.mp ((Array.all_eq_true_iff_forall_mem.mp hF) _ (Array.getElem_mem ha)) i (List.mem_range.mpr hi)
    simpa [Array.getElem?_eq_getElem hi] using q
  obtain ⟨i0, e0⟩ := is_v u0
  obtain rfl : w0 = (.int i0) := Option.some.inj e0
  obtain ⟨i1, e1⟩ := is_v g1
  obtain rfl : w1 = (.int i1) := Option.some.inj e1
  obtain ⟨hsets, hown0⟩ := atoms_of _ (rest_1_c_eq ▸ (show rest_1_c.before _ s = true from hrest))
  have nC := not_v (Cond.before_iff.mp (hsets _ (List.mem_of_getElem? (i := 2) rfl)))
  obtain ⟨gC, eC⟩ := is_v (Cond.before_iff.mp (hsets _ (List.mem_of_getElem? (i := 1) rfl)))
  have S_COMPACT_STRINGS : Sta s s.heap "java/lang/String" "COMPACT_STRINGS" "Z" (.int gC) := Sta.start eC (Or.inl (hsets _ (List.mem_of_getElem? (i := 0) rfl)))
  have cC : ¬ (gC = (0 : Int32)) := gotF (Cond.eq_ints eC (Term.int_eval (0))) nC
  obtain ⟨n, o, h1, h2, h3, _, L, rfl, ⟨rfl, N⟩, hq⟩ := rm0 l s _ hw tables_1 i0 i1 gC s.heap s.heap.size (Nat.le_refl _) S_COMPACT_STRINGS cC p e ha hc hk s m _ below hf ((Spec.applies_iff_loose hf).mp happ).1 ⟨rfl, State.Warmed39.refl s, rfl⟩ trivial
  refine ⟨n, _, h1, h2, h3, hpost _ _ _ _ _ _ ⟨Cond.after_iff.mpr rfl, Cond.after_iff.mpr (eq_i res_at (Term.int_eval (1)) rfl), trivial⟩ ⟨hq.1, hq.2.1, (hq.2.2.sift fun y hy => Or.inr (N y hy)).mono (by decide) (by decide)⟩⟩
theorem main_1_1 : Claimed_1_1 := comes_1 fun _ _ _ _ _ _ h hF => ⟨h.1, hF⟩
theorem main_1_2 : Claimed_1_2 := comes_1 fun _ _ _ _ _ _ h hF => ⟨h.2.1, hF⟩
end Jvm.Pilot.@@N@@
namespace Jvm.Pilot.@@N@@
open Jvm Jvm.ClassFile Sem Op Lib Jvm.Free Jvm.Stand Jvm.Pilot.@@N@@.Jvm.D
/-! MADE BY PROGRAM (witnessworld.py) out of the Statement's table words and the real class files: 21 classes; the members and pool entries that the words name. The judged class is class 1, her method 1. -/
namespace start1
open Jvm.ClassFile
def u (s : String) : CpInfo := .utf8 (stringToUtf16 s)
/-- a pool by its gaps: so many unusable entries, then the entry; so many at the end -/
def gap : Nat → List CpInfo → List CpInfo
  | 0, r => r
  | n + 1, r => .unusable :: gap n r
def poolList (es : List (Nat × CpInfo)) (last : Nat) : List CpInfo := es.foldr (fun e r => gap e.1 (e.2 :: r)) (gap last [])
def pool (es : List (Nat × CpInfo)) (last : Nat) : Array CpInfo := ⟨poolList es last⟩
def fileOf (pool : Array CpInfo) (this : Nat) (attrs : Array Attribute := #[]) (ms : Array MethodInfo := #[]) (fl : Nat := 33) (sup : Nat := 0) (ifs : Array Nat := #[]) (fds : Array FieldInfo := #[]) : ClassFile where
  minorVersion := 0
  majorVersion := 65
  constantPool := pool
  accessFlags := fl
  thisClass := this
  superClass := sup
  interfaces := ifs
  fields := fds
  methods := ms
  attributes := attrs
def plain (name : String) (sup : Option ClassId) : Class where
  name := name
  kind := .ordinary
  loader := none
  accessFlags := 33
  super := sup
  interfaces := #[]
  cf := none
  fields := #[]
  methods := #[]
  instanceTypes := #[]
  staticTypes := #[]
  resolved := #[]
  callSites := []
  init := .initialized
  statics := none
  mirror := none

def pool0 : Array CpInfo := pool [(5, u "<init>"), (0, u "()V"), (1, .class_ 10), (1, u "java/lang/Object")] 113

def k0c0 : Code := { maxStack := 0, maxLocals := 1, code := object_method_1_code, exceptionTable := #[], attributes := #[] }
def k0m0 : Method := { name := "<init>", desc := "()V", sig := { parameters := [], returnType := none }, accessFlags := 1, code := some k0c0 }
/-- java/lang/Object -/
def k0 : Class := { plain "java/lang/Object" none with
  accessFlags := 33
  interfaces := #[]
  cf := some (fileOf pool0 8 #[] #[{ accessFlags := 1, nameIndex := 5, descriptorIndex := 6, attributes := #[] }] 33 0 #[] #[])
  fields := #[]
  methods := #[k0m0]
  instanceTypes := #[]
  staticTypes := #[]
  resolved := Array.replicate 124 none
  statics := none }

def pool1 : Array CpInfo := pool [(2, .class_ 4), (1, u "java/lang/Object"), (0, u "<init>"), (0, u "()V"), (0, .integer 2147483647), (0, .class_ 9), (0, u "com/example/brisk_maze/briskmaze/search/ArrayGrowthLargerPinLaw"), (0, .integer 2147483639), (0, .class_ 12), (0, u "java/lang/String"), (0, .methodref 11 14), (0, .nameAndType 5 15), (0, u "([C)V"), (0, .integer 1073741819), (0, .methodref 18 19), (0, .class_ 20), (0, .nameAndType 21 22), (0, u "com/example/brisk_maze/briskmaze/search/ArrayGrowth"), (0, u "larger"), (0, u "(ILjava/lang/String;)I"), (0, u "MAX"), (0, u "I"), (3, u "law"), (0, u "(II)Z")] 5

def k1m0 : Method := { name := "<init>", desc := "()V", sig := { parameters := [], returnType := none }, accessFlags := 2, code := none }
def k1c1 : Code := { maxStack := 4, maxLocals := 7, code := code, exceptionTable := #[], attributes := #[] }
def k1m1 : Method := { name := "law", desc := "(II)Z", sig := { parameters := [.int, .int], returnType := some .boolean }, accessFlags := 9, code := some k1c1 }
/-- com/example/brisk_maze/briskmaze/search/ArrayGrowthLargerPinLaw -/
def k1 : Class := { plain "com/example/brisk_maze/briskmaze/search/ArrayGrowthLargerPinLaw" (some 0) with
  accessFlags := 49
  interfaces := #[]
  cf := some (fileOf pool1 8 #[] #[{ accessFlags := 2, nameIndex := 5, descriptorIndex := 6, attributes := #[] }, { accessFlags := 9, nameIndex := 28, descriptorIndex := 29, attributes := #[] }] 49 2 #[] #[{ accessFlags := 26, nameIndex := 23, descriptorIndex := 24, attributes := #[] }])
  fields := #[{ name := "MAX", type := .int, accessFlags := 26, slot := 0, constantValue := 0 }]
  methods := #[k1m0, k1m1]
  instanceTypes := #[]
  staticTypes := #[.int]
  resolved := Array.replicate 35 none
  statics := none }

def pool2 : Array CpInfo := pool [(1, .class_ 2), (0, u "java/io/Serializable"), (0, .class_ 4), (0, u "java/lang/Object")] 2

/-- java/io/Serializable -/
def k2 : Class := { plain "java/io/Serializable" (some 0) with
  accessFlags := 1537
  interfaces := #[]
  cf := some (fileOf pool2 1 #[] #[] 1537 3 #[] #[])
  fields := #[]
  methods := #[]
  instanceTypes := #[]
  staticTypes := #[]
  resolved := Array.replicate 7 none
  statics := none }

def pool3 : Array CpInfo := pool [(1, .class_ 2), (0, u "java/lang/Comparable"), (0, .class_ 4), (0, u "java/lang/Object")] 7

/-- java/lang/Comparable -/
def k3 : Class := { plain "java/lang/Comparable" (some 0) with
  accessFlags := 1537
  interfaces := #[]
  cf := some (fileOf pool3 1 #[] #[] 1537 3 #[] #[])
  fields := #[]
  methods := #[]
  instanceTypes := #[]
  staticTypes := #[]
  resolved := Array.replicate 12 none
  statics := none }

def pool4 : Array CpInfo := pool [(2, .class_ 4), (1, u "java/lang/CharSequence"), (42, .class_ 48), (0, u "java/lang/CharSequence$1CodePointIterator"), (10, .class_ 60), (0, u "java/lang/CharSequence$1CharIterator"), (5, .class_ 67), (0, u "java/lang/Object")] 63

/-- java/lang/CharSequence -/
def k4 : Class := { plain "java/lang/CharSequence" (some 0) with
  accessFlags := 1537
  interfaces := #[]
  cf := some (fileOf pool4 2 #[.nestMembers #[47, 59]] #[] 1537 66 #[] #[])
  fields := #[]
  methods := #[]
  instanceTypes := #[]
  staticTypes := #[]
  resolved := Array.replicate 131 none
  statics := none }

def pool5 : Array CpInfo := pool [(1, .class_ 2), (0, u "java/lang/constant/Constable"), (0, .class_ 4), (0, u "java/lang/Object")] 6

/-- java/lang/constant/Constable -/
def k5 : Class := { plain "java/lang/constant/Constable" (some 0) with
  accessFlags := 1537
  interfaces := #[]
  cf := some (fileOf pool5 1 #[] #[] 1537 3 #[] #[])
  fields := #[]
  methods := #[]
  instanceTypes := #[]
  staticTypes := #[]
  resolved := Array.replicate 11 none
  statics := none }

def pool6 : Array CpInfo := pool [(1, .class_ 2), (0, u "java/lang/constant/ConstantDesc"), (0, .class_ 4), (0, u "java/lang/Object")] 32

/-- java/lang/constant/ConstantDesc -/
def k6 : Class := { plain "java/lang/constant/ConstantDesc" (some 0) with
  accessFlags := 1537
  interfaces := #[]
  cf := some (fileOf pool6 1 #[] #[] 1537 3 #[] #[])
  fields := #[]
  methods := #[]
  instanceTypes := #[]
  staticTypes := #[]
  resolved := Array.replicate 37 none
  statics := none }

def pool7 : Array CpInfo := pool [(1, .methodref 2 3), (0, .class_ 4), (0, .nameAndType 5 6), (0, u "java/lang/Object"), (0, u "<init>"), (0, u "()V"), (2, .fieldref 10 11), (0, .class_ 12), (0, .nameAndType 13 14), (0, u "java/lang/String"), (0, u "value"), (0, u "[B"), (0, .fieldref 10 16), (0, .nameAndType 17 18), (0, u "coder"), (0, u "B"), (2, u "hash"), (0, u "I"), (2, u "hashIsZero"), (0, u "Z"), (0, .methodref 10 28), (0, .nameAndType 5 29), (0, u "([CIILjava/lang/Void;)V"), (8, .fieldref 10 39), (0, .nameAndType 40 26), (0, u "COMPACT_STRINGS"), (1, .class_ 44), (1, u "java/lang/StringUTF16"), (0, u "compress"), (1, .methodref 42 48), (0, .nameAndType 49 50), (0, u "coderFromArrayLen"), (0, u "([BI)B"), (126, .methodref 42 178), (0, .nameAndType 45 179), (0, u "([CII)[B"), (395, .class_ 576), (0, u "java/lang/CharSequence"), (22, u "CASE_INSENSITIVE_ORDER"), (0, u "Ljava/util/Comparator;"), (409, u "([C)V"), (90, u "serialPersistentFields"), (0, u "[Ljava/io/ObjectStreamField;"), (0, .class_ 1104), (0, u "java/lang/String$CaseInsensitiveComparator"), (1, .class_ 1107), (0, u "java/io/Serializable"), (0, .class_ 1109), (0, u "java/lang/Comparable"), (0, .class_ 1111), (0, u "java/lang/constant/Constable"), (0, .class_ 1113), (0, u "java/lang/constant/ConstantDesc"), (2, u "serialVersionUID"), (0, u "J"), (3, u "REPL"), (0, u "C"), (2, u "LATIN1"), (1, u "UTF16")] 323

def k7m0 : Method := { name := "<init>", desc := "()V", sig := { parameters := [], returnType := none }, accessFlags := 1, code := none }
def k7c1 : Code := { maxStack := 5, maxLocals := 2, code := jdk_42_method_3_code, exceptionTable := #[], attributes := #[] }
def k7m1 : Method := { name := "<init>", desc := "([C)V", sig := { parameters := [(.array .char)], returnType := none }, accessFlags := 1, code := some k7c1 }
def k7c2 : Code := { maxStack := 4, maxLocals := 6, code := jdk_42_method_149_code, exceptionTable := #[], attributes := #[] }
def k7m2 : Method := { name := "<init>", desc := "([CIILjava/lang/Void;)V", sig := { parameters := [(.array .char), .int, .int, (.object "java/lang/Void")], returnType := none }, accessFlags := 2, code := some k7c2 }
/-- java/lang/String -/
def k7 : Class := { plain "java/lang/String" (some 0) with
  accessFlags := 49
  interfaces := #[2, 3, 4, 5, 6]
  cf := some (fileOf pool7 10 #[.nestMembers #[1103]] #[{ accessFlags := 1, nameIndex := 5, descriptorIndex := 6, attributes := #[] }, { accessFlags := 1, nameIndex := 5, descriptorIndex := 1010, attributes := #[] }, { accessFlags := 2, nameIndex := 5, descriptorIndex := 29, attributes := #[] }] 49 2 #[1106, 1108, 575, 1110, 1112] #[{ accessFlags := 18, nameIndex := 13, descriptorIndex := 14, attributes := #[] }, { accessFlags := 18, nameIndex := 17, descriptorIndex := 18, attributes := #[] }, { accessFlags := 2, nameIndex := 21, descriptorIndex := 22, attributes := #[] }, { accessFlags := 2, nameIndex := 25, descriptorIndex := 26, attributes := #[] }, { accessFlags := 26, nameIndex := 1116, descriptorIndex := 1117, attributes := #[] }, { accessFlags := 24, nameIndex := 40, descriptorIndex := 26, attributes := #[] }, { accessFlags := 26, nameIndex := 1101, descriptorIndex := 1102, attributes := #[] }, { accessFlags := 26, nameIndex := 1121, descriptorIndex := 1122, attributes := #[] }, { accessFlags := 25, nameIndex := 599, descriptorIndex := 600, attributes := #[] }, { accessFlags := 24, nameIndex := 1125, descriptorIndex := 18, attributes := #[] }, { accessFlags := 24, nameIndex := 1127, descriptorIndex := 18, attributes := #[] }])
  fields := #[{ name := "value", type := (.array .byte), accessFlags := 18, slot := 0, constantValue := 0 }, { name := "coder", type := .byte, accessFlags := 18, slot := 1, constantValue := 0 }, { name := "hash", type := .int, accessFlags := 2, slot := 2, constantValue := 0 }, { name := "hashIsZero", type := .boolean, accessFlags := 2, slot := 3, constantValue := 0 }, { name := "serialVersionUID", type := .long, accessFlags := 26, slot := 0, constantValue := 0 }, { name := "COMPACT_STRINGS", type := .boolean, accessFlags := 24, slot := 1, constantValue := 0 }, { name := "serialPersistentFields", type := (.array (.object "java/io/ObjectStreamField")), accessFlags := 26, slot := 2, constantValue := 0 }, { name := "REPL", type := .char, accessFlags := 26, slot := 3, constantValue := 0 }, { name := "CASE_INSENSITIVE_ORDER", type := (.object "java/util/Comparator"), accessFlags := 25, slot := 4, constantValue := 0 }, { name := "LATIN1", type := .byte, accessFlags := 24, slot := 5, constantValue := 0 }, { name := "UTF16", type := .byte, accessFlags := 24, slot := 6, constantValue := 0 }]
  methods := #[k7m0, k7m1, k7m2]
  instanceTypes := #[(.array .byte), .byte, .int, .boolean]
  staticTypes := #[.long, .boolean, (.array (.object "java/io/ObjectStreamField")), .char, (.object "java/util/Comparator"), .byte, .byte]
  resolved := Array.replicate 1451 none
  statics := some 0 }

def pool8 : Array CpInfo := pool [(6, .class_ 8), (1, u "java/lang/Object"), (0, u "<init>"), (0, u "()V"), (1, .class_ 14), (1, u "java/lang/StringUTF16"), (31, u "$assertionsDisabled"), (0, u "Z"), (13, u "HI_BYTE_SHIFT"), (0, u "I"), (2, u "LO_BYTE_SHIFT"), (49, .methodref 12 116), (0, .nameAndType 117 118), (0, u "compress"), (0, u "([CI[BII)I"), (3, u "([CII)[B"), (138, u "coderFromArrayLen"), (0, u "([BI)B"), (106, .class_ 371), (1, u "java/lang/StringUTF16$LinesSpliterator"), (58, u "MAX_LENGTH"), (196, .class_ 628), (0, u "java/lang/StringUTF16$CodePointsSpliterator"), (0, .class_ 630), (0, u "java/lang/StringUTF16$CharsSpliterator")] 4

def k8m0 : Method := { name := "<init>", desc := "()V", sig := { parameters := [], returnType := none }, accessFlags := 0, code := none }
def k8c1 : Code := { maxStack := 2, maxLocals := 2, code := jdk_52_method_15_code, exceptionTable := #[], attributes := #[] }
def k8m1 : Method := { name := "coderFromArrayLen", desc := "([BI)B", sig := { parameters := [(.array .byte), .int], returnType := some .byte }, accessFlags := 8, code := some k8c1 }
def k8c2 : Code := { maxStack := 5, maxLocals := 6, code := jdk_52_method_16_code, exceptionTable := #[], attributes := #[] }
def k8m2 : Method := { name := "compress", desc := "([CII)[B", sig := { parameters := [(.array .char), .int, .int], returnType := some (.array .byte) }, accessFlags := 9, code := some k8c2 }
def k8c3 : Code := { maxStack := 3, maxLocals := 7, code := jdk_52_method_21_code, exceptionTable := #[], attributes := #[] }
def k8m3 : Method := { name := "compress", desc := "([CI[BII)I", sig := { parameters := [(.array .char), .int, (.array .byte), .int, .int], returnType := some .int }, accessFlags := 9, code := some k8c3 }
/-- java/lang/StringUTF16 -/
def k8 : Class := { plain "java/lang/StringUTF16" (some 0) with
  accessFlags := 48
  interfaces := #[]
  cf := some (fileOf pool8 12 #[.nestMembers #[627, 629, 369]] #[{ accessFlags := 0, nameIndex := 9, descriptorIndex := 10, attributes := #[] }, { accessFlags := 8, nameIndex := 261, descriptorIndex := 262, attributes := #[] }, { accessFlags := 9, nameIndex := 117, descriptorIndex := 122, attributes := #[] }, { accessFlags := 9, nameIndex := 117, descriptorIndex := 118, attributes := #[] }] 48 6 #[] #[{ accessFlags := 26, nameIndex := 61, descriptorIndex := 62, attributes := #[] }, { accessFlags := 26, nameIndex := 65, descriptorIndex := 62, attributes := #[] }, { accessFlags := 24, nameIndex := 430, descriptorIndex := 62, attributes := #[] }, { accessFlags := 4120, nameIndex := 46, descriptorIndex := 47, attributes := #[] }])
  fields := #[{ name := "HI_BYTE_SHIFT", type := .int, accessFlags := 26, slot := 0, constantValue := 0 }, { name := "LO_BYTE_SHIFT", type := .int, accessFlags := 26, slot := 1, constantValue := 0 }, { name := "MAX_LENGTH", type := .int, accessFlags := 24, slot := 2, constantValue := 0 }, { name := "$assertionsDisabled", type := .boolean, accessFlags := 4120, slot := 3, constantValue := 0 }]
  methods := #[k8m0, k8m1, k8m2, k8m3]
  instanceTypes := #[]
  staticTypes := #[.int, .int, .int, .boolean]
  resolved := Array.replicate 635 none
  statics := none }

def pool9 : Array CpInfo := pool [(4, .class_ 6), (1, u "java/lang/Object"), (0, u "<init>"), (0, u "()V"), (0, .class_ 10), (0, u "com/example/brisk_maze/briskmaze/search/ArrayGrowth"), (0, .integer 2147483639), (9, .long 2147483639), (1, .long 2), (1, .methodref 26 27), (0, .class_ 28), (0, .nameAndType 29 30), (0, u "java/lang/Math"), (0, u "min"), (0, u "(JJ)J"), (0, u "MAX_LENGTH"), (0, u "I"), (3, u "larger"), (0, u "(ILjava/lang/String;)I")] 18

def k9m0 : Method := { name := "<init>", desc := "()V", sig := { parameters := [], returnType := none }, accessFlags := 2, code := none }
def k9c1 : Code := { maxStack := 6, maxLocals := 2, code := prog_44_method_2_code, exceptionTable := #[], attributes := #[] }
def k9m1 : Method := { name := "larger", desc := "(ILjava/lang/String;)I", sig := { parameters := [.int, (.object "java/lang/String")], returnType := some .int }, accessFlags := 8, code := some k9c1 }
/-- com/example/brisk_maze/briskmaze/search/ArrayGrowth -/
def k9 : Class := { plain "com/example/brisk_maze/briskmaze/search/ArrayGrowth" (some 0) with
  accessFlags := 32
  interfaces := #[]
  cf := some (fileOf pool9 9 #[] #[{ accessFlags := 2, nameIndex := 7, descriptorIndex := 8, attributes := #[] }, { accessFlags := 8, nameIndex := 36, descriptorIndex := 37, attributes := #[] }] 32 4 #[] #[{ accessFlags := 24, nameIndex := 31, descriptorIndex := 32, attributes := #[] }])
  fields := #[{ name := "MAX_LENGTH", type := .int, accessFlags := 24, slot := 0, constantValue := 0 }]
  methods := #[k9m0, k9m1]
  instanceTypes := #[]
  staticTypes := #[.int]
  resolved := Array.replicate 56 none
  statics := none }

def pool10 : Array CpInfo := pool [(1, .class_ 2), (0, u "java/lang/Math"), (1, .class_ 6), (1, u "java/lang/Object"), (0, u "<init>"), (0, u "()V"), (89, .class_ 100), (1, u "java/lang/Math$RandomNumberGeneratorHolder"), (20, u "(JJ)J"), (50, u "negativeZeroFloatBits"), (0, u "J"), (2, u "negativeZeroDoubleBits"), (24, u "min"), (43, u "$assertionsDisabled"), (0, u "Z"), (91, u "twoToTheDoubleScaleDown"), (0, u "D"), (4, u "twoToTheDoubleScaleUp"), (9, u "E"), (3, u "PI"), (2, u "TAU"), (2, u "DEGREES_TO_RADIANS"), (0, u "RADIANS_TO_DEGREES")] 94

def k10m0 : Method := { name := "<init>", desc := "()V", sig := { parameters := [], returnType := none }, accessFlags := 2, code := none }
def k10c1 : Code := { maxStack := 4, maxLocals := 4, code := jdk_29_method_70_code, exceptionTable := #[], attributes := #[] }
def k10m1 : Method := { name := "min", desc := "(JJ)J", sig := { parameters := [.long, .long], returnType := some .long }, accessFlags := 9, code := some k10c1 }
/-- java/lang/Math -/
def k10 : Class := { plain "java/lang/Math" (some 0) with
  accessFlags := 49
  interfaces := #[]
  cf := some (fileOf pool10 1 #[.nestMembers #[98]] #[{ accessFlags := 2, nameIndex := 7, descriptorIndex := 8, attributes := #[] }, { accessFlags := 9, nameIndex := 201, descriptorIndex := 121, attributes := #[] }] 49 4 #[] #[{ accessFlags := 25, nameIndex := 354, descriptorIndex := 339, attributes := #[] }, { accessFlags := 25, nameIndex := 358, descriptorIndex := 339, attributes := #[] }, { accessFlags := 25, nameIndex := 361, descriptorIndex := 339, attributes := #[] }, { accessFlags := 26, nameIndex := 364, descriptorIndex := 339, attributes := #[] }, { accessFlags := 26, nameIndex := 365, descriptorIndex := 339, attributes := #[] }, { accessFlags := 26, nameIndex := 172, descriptorIndex := 173, attributes := #[] }, { accessFlags := 26, nameIndex := 176, descriptorIndex := 173, attributes := #[] }, { accessFlags := 8, nameIndex := 344, descriptorIndex := 339, attributes := #[] }, { accessFlags := 8, nameIndex := 338, descriptorIndex := 339, attributes := #[] }, { accessFlags := 4120, nameIndex := 245, descriptorIndex := 246, attributes := #[] }])
  fields := #[{ name := "E", type := .double, accessFlags := 25, slot := 0, constantValue := 0 }, { name := "PI", type := .double, accessFlags := 25, slot := 1, constantValue := 0 }, { name := "TAU", type := .double, accessFlags := 25, slot := 2, constantValue := 0 }, { name := "DEGREES_TO_RADIANS", type := .double, accessFlags := 26, slot := 3, constantValue := 0 }, { name := "RADIANS_TO_DEGREES", type := .double, accessFlags := 26, slot := 4, constantValue := 0 }, { name := "negativeZeroFloatBits", type := .long, accessFlags := 26, slot := 5, constantValue := 0 }, { name := "negativeZeroDoubleBits", type := .long, accessFlags := 26, slot := 6, constantValue := 0 }, { name := "twoToTheDoubleScaleUp", type := .double, accessFlags := 8, slot := 7, constantValue := 0 }, { name := "twoToTheDoubleScaleDown", type := .double, accessFlags := 8, slot := 8, constantValue := 0 }, { name := "$assertionsDisabled", type := .boolean, accessFlags := 4120, slot := 9, constantValue := 0 }]
  methods := #[k10m0, k10m1]
  instanceTypes := #[]
  staticTypes := #[.double, .double, .double, .double, .double, .long, .long, .double, .double, .boolean]
  resolved := Array.replicate 460 none
  statics := none }

def pool11 : Array CpInfo := pool [(4, .class_ 6), (1, u "java/lang/Object"), (0, u "<init>"), (0, u "()V"), (5, .class_ 16), (1, u "java/lang/StringLatin1"), (104, u "$assertionsDisabled"), (0, u "Z"), (98, .class_ 223), (1, u "java/lang/StringLatin1$LinesSpliterator"), (166, .class_ 391), (0, u "java/lang/StringLatin1$CharsSpliterator")] 3

def k11m0 : Method := { name := "<init>", desc := "()V", sig := { parameters := [], returnType := none }, accessFlags := 0, code := none }
/-- java/lang/StringLatin1 -/
def k11 : Class := { plain "java/lang/StringLatin1" (some 0) with
  accessFlags := 48
  interfaces := #[]
  cf := some (fileOf pool11 14 #[.nestMembers #[390, 221]] #[{ accessFlags := 0, nameIndex := 7, descriptorIndex := 8, attributes := #[] }] 48 4 #[] #[{ accessFlags := 4120, nameIndex := 121, descriptorIndex := 122, attributes := #[] }])
  fields := #[{ name := "$assertionsDisabled", type := .boolean, accessFlags := 4120, slot := 0, constantValue := 0 }]
  methods := #[k11m0]
  instanceTypes := #[]
  staticTypes := #[.boolean]
  resolved := Array.replicate 395 none
  statics := none }

def pool12 : Array CpInfo := pool [(2, .class_ 4), (1, u "java/lang/Object"), (0, u "<init>"), (0, u "()V"), (17, .class_ 26), (1, u "jdk/internal/util/Preconditions"), (28, .class_ 56), (0, u "jdk/internal/util/Preconditions$4"), (57, .class_ 115), (0, u "jdk/internal/util/Preconditions$1"), (7, u "SIOOBE_FORMATTER"), (0, u "Ljava/util/function/BiFunction;"), (0, .class_ 126), (0, u "jdk/internal/util/Preconditions$2"), (3, u "AIOOBE_FORMATTER"), (0, .class_ 132), (0, u "jdk/internal/util/Preconditions$3"), (3, u "IOOBE_FORMATTER")] 57

def k12m0 : Method := { name := "<init>", desc := "()V", sig := { parameters := [], returnType := none }, accessFlags := 1, code := none }
/-- jdk/internal/util/Preconditions -/
def k12 : Class := { plain "jdk/internal/util/Preconditions" (some 0) with
  accessFlags := 33
  interfaces := #[]
  cf := some (fileOf pool12 24 #[.nestMembers #[55, 131, 125, 114]] #[{ accessFlags := 1, nameIndex := 5, descriptorIndex := 6, attributes := #[] }] 33 2 #[] #[{ accessFlags := 25, nameIndex := 123, descriptorIndex := 124, attributes := #[] }, { accessFlags := 25, nameIndex := 130, descriptorIndex := 124, attributes := #[] }, { accessFlags := 25, nameIndex := 136, descriptorIndex := 124, attributes := #[] }])
  fields := #[{ name := "SIOOBE_FORMATTER", type := (.object "java/util/function/BiFunction"), accessFlags := 25, slot := 0, constantValue := 0 }, { name := "AIOOBE_FORMATTER", type := (.object "java/util/function/BiFunction"), accessFlags := 25, slot := 1, constantValue := 0 }, { name := "IOOBE_FORMATTER", type := (.object "java/util/function/BiFunction"), accessFlags := 25, slot := 2, constantValue := 0 }]
  methods := #[k12m0]
  instanceTypes := #[]
  staticTypes := #[(.object "java/util/function/BiFunction"), (.object "java/util/function/BiFunction"), (.object "java/util/function/BiFunction")]
  resolved := Array.replicate 194 none
  statics := some 1 }

def pool13 : Array CpInfo := pool [(9, u "<init>"), (6, .class_ 18), (1, u "java/lang/Object"), (0, u "()V"), (1, .class_ 23), (1, u "jdk/internal/util/ArraysSupport"), (0, u "LOG2_ARRAY_LONG_INDEX_SCALE"), (0, u "I"), (2, u "U"), (0, u "Ljdk/internal/misc/Unsafe;"), (8, u "BIG_ENDIAN"), (0, u "Z"), (8, u "LOG2_BYTE_BIT_SIZE"), (4, u "LOG2_ARRAY_INT_INDEX_SCALE"), (54, u "JLA"), (0, u "Ljdk/internal/access/JavaLangAccess;"), (11, u "LOG2_ARRAY_BOOLEAN_INDEX_SCALE"), (9, u "LOG2_ARRAY_BYTE_INDEX_SCALE"), (5, u "LOG2_ARRAY_CHAR_INDEX_SCALE"), (5, u "LOG2_ARRAY_SHORT_INDEX_SCALE"), (18, u "LOG2_ARRAY_FLOAT_INDEX_SCALE"), (24, u "LOG2_ARRAY_DOUBLE_INDEX_SCALE"), (89, u "T_BOOLEAN"), (2, u "T_CHAR"), (1, u "T_FLOAT"), (1, u "T_DOUBLE"), (1, u "T_BYTE"), (1, u "T_SHORT"), (1, u "T_INT"), (1, u "T_LONG"), (1, u "SOFT_MAX_ARRAY_LENGTH")] 83

def k13m0 : Method := { name := "<init>", desc := "()V", sig := { parameters := [], returnType := none }, accessFlags := 2, code := none }
/-- jdk/internal/util/ArraysSupport -/
def k13 : Class := { plain "jdk/internal/util/ArraysSupport" (some 0) with
  accessFlags := 33
  interfaces := #[]
  cf := some (fileOf pool13 21 #[] #[{ accessFlags := 2, nameIndex := 9, descriptorIndex := 19, attributes := #[] }] 33 16 #[] #[{ accessFlags := 24, nameIndex := 28, descriptorIndex := 29, attributes := #[] }, { accessFlags := 26, nameIndex := 38, descriptorIndex := 39, attributes := #[] }, { accessFlags := 25, nameIndex := 121, descriptorIndex := 25, attributes := #[] }, { accessFlags := 25, nameIndex := 131, descriptorIndex := 25, attributes := #[] }, { accessFlags := 25, nameIndex := 137, descriptorIndex := 25, attributes := #[] }, { accessFlags := 25, nameIndex := 143, descriptorIndex := 25, attributes := #[] }, { accessFlags := 25, nameIndex := 53, descriptorIndex := 25, attributes := #[] }, { accessFlags := 25, nameIndex := 24, descriptorIndex := 25, attributes := #[] }, { accessFlags := 25, nameIndex := 162, descriptorIndex := 25, attributes := #[] }, { accessFlags := 25, nameIndex := 187, descriptorIndex := 25, attributes := #[] }, { accessFlags := 26, nameIndex := 48, descriptorIndex := 25, attributes := #[] }, { accessFlags := 25, nameIndex := 277, descriptorIndex := 25, attributes := #[] }, { accessFlags := 25, nameIndex := 280, descriptorIndex := 25, attributes := #[] }, { accessFlags := 25, nameIndex := 282, descriptorIndex := 25, attributes := #[] }, { accessFlags := 25, nameIndex := 284, descriptorIndex := 25, attributes := #[] }, { accessFlags := 25, nameIndex := 286, descriptorIndex := 25, attributes := #[] }, { accessFlags := 25, nameIndex := 288, descriptorIndex := 25, attributes := #[] }, { accessFlags := 25, nameIndex := 290, descriptorIndex := 25, attributes := #[] }, { accessFlags := 25, nameIndex := 292, descriptorIndex := 25, attributes := #[] }, { accessFlags := 26, nameIndex := 108, descriptorIndex := 109, attributes := #[] }, { accessFlags := 25, nameIndex := 294, descriptorIndex := 25, attributes := #[] }])
  fields := #[{ name := "U", type := (.object "jdk/internal/misc/Unsafe"), accessFlags := 24, slot := 0, constantValue := 0 }, { name := "BIG_ENDIAN", type := .boolean, accessFlags := 26, slot := 1, constantValue := 0 }, { name := "LOG2_ARRAY_BOOLEAN_INDEX_SCALE", type := .int, accessFlags := 25, slot := 2, constantValue := 0 }, { name := "LOG2_ARRAY_BYTE_INDEX_SCALE", type := .int, accessFlags := 25, slot := 3, constantValue := 0 }, { name := "LOG2_ARRAY_CHAR_INDEX_SCALE", type := .int, accessFlags := 25, slot := 4, constantValue := 0 }, { name := "LOG2_ARRAY_SHORT_INDEX_SCALE", type := .int, accessFlags := 25, slot := 5, constantValue := 0 }, { name := "LOG2_ARRAY_INT_INDEX_SCALE", type := .int, accessFlags := 25, slot := 6, constantValue := 0 }, { name := "LOG2_ARRAY_LONG_INDEX_SCALE", type := .int, accessFlags := 25, slot := 7, constantValue := 0 }, { name := "LOG2_ARRAY_FLOAT_INDEX_SCALE", type := .int, accessFlags := 25, slot := 8, constantValue := 0 }, { name := "LOG2_ARRAY_DOUBLE_INDEX_SCALE", type := .int, accessFlags := 25, slot := 9, constantValue := 0 }, { name := "LOG2_BYTE_BIT_SIZE", type := .int, accessFlags := 26, slot := 10, constantValue := 0 }, { name := "T_BOOLEAN", type := .int, accessFlags := 25, slot := 11, constantValue := 0 }, { name := "T_CHAR", type := .int, accessFlags := 25, slot := 12, constantValue := 0 }, { name := "T_FLOAT", type := .int, accessFlags := 25, slot := 13, constantValue := 0 }, { name := "T_DOUBLE", type := .int, accessFlags := 25, slot := 14, constantValue := 0 }, { name := "T_BYTE", type := .int, accessFlags := 25, slot := 15, constantValue := 0 }, { name := "T_SHORT", type := .int, accessFlags := 25, slot := 16, constantValue := 0 }, { name := "T_INT", type := .int, accessFlags := 25, slot := 17, constantValue := 0 }, { name := "T_LONG", type := .int, accessFlags := 25, slot := 18, constantValue := 0 }, { name := "JLA", type := (.object "jdk/internal/access/JavaLangAccess"), accessFlags := 26, slot := 19, constantValue := 0 }, { name := "SOFT_MAX_ARRAY_LENGTH", type := .int, accessFlags := 25, slot := 20, constantValue := 0 }]
  methods := #[k13m0]
  instanceTypes := #[]
  staticTypes := #[(.object "jdk/internal/misc/Unsafe"), .boolean, .int, .int, .int, .int, .int, .int, .int, .int, .int, .int, .int, .int, .int, .int, .int, .int, .int, (.object "jdk/internal/access/JavaLangAccess"), .int]
  resolved := Array.replicate 378 none
  statics := none }

def pool14 : Array CpInfo := pool [(1, u "java/lang/Cloneable"), (0, .class_ 1), (0, u "java/lang/Object"), (0, .class_ 3)] 3

/-- java/lang/Cloneable -/
def k14 : Class := { plain "java/lang/Cloneable" (some 0) with
  accessFlags := 1537
  interfaces := #[]
  cf := some (fileOf pool14 2 #[] #[] 1537 4 #[] #[])
  fields := #[]
  methods := #[]
  instanceTypes := #[]
  staticTypes := #[]
  resolved := Array.replicate 8 none
  statics := none }

/-- the primitive byte -/
def k15 : Class := { plain "byte" none with kind := .primitive 'B', accessFlags := 0x411 }
/-- [B -/
def k16 : Class := { plain "[B" (some 0) with kind := .array 15 .byte, interfaces := #[14, 2], accessFlags := 1041 }

/-- the primitive char -/
def k17 : Class := { plain "char" none with kind := .primitive 'C', accessFlags := 0x411 }
/-- [C -/
def k18 : Class := { plain "[C" (some 0) with kind := .array 17 .char, interfaces := #[14, 2], accessFlags := 1041 }

/-- the primitive int -/
def k19 : Class := { plain "int" none with kind := .primitive 'I', accessFlags := 0x411 }
/-- [I -/
def k20 : Class := { plain "[I" (some 0) with kind := .array 19 .int, interfaces := #[14, 2], accessFlags := 1041 }

def heap : Heap := #[{ cls := 7, slots := #[.long 0, .int 1, .null, .int 0, .null, .int 0, .int 0], vm := .statics 7 },
  { cls := 12, slots := #[.null, .null, .null], vm := .statics 12 }]
def classes : Array Class := #[k0, k1, k2, k3, k4, k5, k6, k7, k8, k9, k10, k11, k12, k13, k14, k15, k16, k17, k18, k19, k20]
def interned : List (Array UInt16 × Addr) := []
def slotsUsed : Nat := 10
def theMethod : MethodId := ⟨1, 1⟩
def args0 : Array Value := #[.int 5, .int 7]
def aboutOver (below : List Frame) : State where
  vm := { classes := classes, interned := interned.toArray }
  heap := heap
  slotsUsed := slotsUsed
  threads := #[{ frames := .invoking theMethod args0 :: below }]
def below0 : List Frame := [.native { method := ⟨0, 0⟩, args := #[] }]
def about1 : State := aboutOver below0
def p0 : Program := .bare "" "" ""
def e0 : Env := launch0.env 0 0 0
theorem w_frames : about1.frames = Frame.invoking theMethod args0 :: below0 := rfl
set_option maxRecDepth 65536 in
theorem w_args : argsFit about1.vm theMethod args0 = true := by decide +kernel
set_option maxRecDepth 65536 in
theorem w_heap : heapFits about1 = true := by decide +kernel
set_option maxRecDepth 65536 in
theorem w_runnable : about1.curStatus? = some .runnable := by decide +kernel
set_option maxRecDepth 65536 in
theorem w_alone : about1.alone = true := by decide +kernel
set_option maxRecDepth 65536 in
theorem w_named : about1.methodNamed? x = some theMethod := by decide +kernel
set_option maxRecDepth 65536 in
theorem w_hears : about1.hears theMethod below0 = true := by decide +kernel
set_option maxRecDepth 65536 in
theorem w_ripe : about1.ripe theMethod args0 below0 = true := by decide +kernel
theorem w_running : about1.status = .running := rfl
set_option maxRecDepth 65536 in
theorem w_room : about1.hasRoom e0.platform room_1 = true :=
  launch0.hasRoom_least _ room_1 (by decide +kernel) (by decide +kernel) (by decide +kernel) (by decide +kernel) (by decide +kernel) (by decide +kernel)
theorem allAtoms_all (ts : List Jvm.Cond) (a : Array Jvm.Value) (st : Jvm.State) : (allAtoms ts).before a st = ts.all (fun c => c.before a st) := by
  induction ts with
  | nil => rfl
  | cons c t ih =>
    show (Jvm.Cond.and c (allAtoms t)).before a st = _
    rw [Jvm.Cond.before_and, ih, List.all_cons]
def words1 : List Jvm.Cond := Jvm.Cond.code x code maxLocals ret :: tables_1
/-- a 'code' word, met by the world's own term for the bytes: nothing is compared byte by byte -/
theorem code_word {y : MethodName} {bytes : ByteArray} {mx : Nat} {rt : Option FieldType} {a : Array Value} {s : State} {m : MethodId} {meth : Method} {c : Code} (h1 : s.methodNamed? y = some m) (h2 : s.vm.method? m = some meth) (h3 : meth.code = some c) (h4 : c.code = bytes)
    (h5 : (c.maxLocals == mx && c.exceptionTable.isEmpty && decide (c.maxStack ≤ mostOperands) && decide (meth.sig.returnType = rt) && !meth.locks && decide (parseMethodDescriptor y.desc = some meth.sig)) = true) : (Jvm.Cond.code y bytes mx rt).before a s = true := by
  simp only [Bool.and_eq_true, beq_iff_eq, Bool.not_eq_true', decide_eq_true_eq] at h5
  obtain ⟨⟨⟨⟨⟨g1, g2⟩, g3⟩, g4⟩, g5⟩, g6⟩ := h5
  simp [Cond.before, Cond.holds, Cond.value, h1, h2, h3, h4, g1, g2, g3, g4, g5, g6]
def isCode : Jvm.Cond → Bool
  | .code _ _ _ _ => true
  | _ => false
theorem all_split {L : List Jvm.Cond} {P : Jvm.Cond → Bool} (h1 : L.all (fun c => isCode c || P c) = true) (h2 : ∀ c ∈ L.filter isCode, P c = true) : L.all P = true := by
  refine List.all_eq_true.mpr fun c hc => ?_
  have h := List.all_eq_true.mp h1 c hc
  rcases Bool.eq_false_or_eq_true (isCode c) with hi | hi
  · exact h2 c (List.mem_filter.mpr ⟨hc, hi⟩)
  · simpa [hi] using h
set_option maxRecDepth 65536 in
theorem w_c0 : (Jvm.Cond.code x code maxLocals ret).before args0 about1 = true := code_word (m := ⟨1, 1⟩) (meth := k1m1) (c := k1c1) (by decide +kernel) rfl rfl rfl (by decide +kernel)
set_option maxRecDepth 65536 in
theorem w_c1 : (Jvm.Cond.code ({ cls := "java/lang/String", name := "<init>", desc := "([C)V" } : Jvm.MethodName) jdk_42_method_3_code (2 : Nat) (Option.none : Option Jvm.ClassFile.FieldType)).before args0 about1 = true := code_word (m := ⟨7, 1⟩) (meth := k7m1) (c := k7c1) (by decide +kernel) rfl rfl rfl (by decide +kernel)
set_option maxRecDepth 65536 in
theorem w_c2 : (Jvm.Cond.code ({ cls := "java/lang/String", name := "<init>", desc := "([CIILjava/lang/Void;)V" } : Jvm.MethodName) jdk_42_method_149_code (6 : Nat) (Option.none : Option Jvm.ClassFile.FieldType)).before args0 about1 = true := code_word (m := ⟨7, 2⟩) (meth := k7m2) (c := k7c2) (by decide +kernel) rfl rfl rfl (by decide +kernel)
set_option maxRecDepth 65536 in
theorem w_c3 : (Jvm.Cond.code ({ cls := "java/lang/Object", name := "<init>", desc := "()V" } : Jvm.MethodName) object_method_1_code (1 : Nat) (Option.none : Option Jvm.ClassFile.FieldType)).before args0 about1 = true := code_word (m := ⟨0, 0⟩) (meth := k0m0) (c := k0c0) (by decide +kernel) rfl rfl rfl (by decide +kernel)
set_option maxRecDepth 65536 in
theorem w_c4 : (Jvm.Cond.code ({ cls := "java/lang/StringUTF16", name := "compress", desc := "([CII)[B" } : Jvm.MethodName) jdk_52_method_16_code (6 : Nat) (Option.some (Jvm.ClassFile.FieldType.array Jvm.ClassFile.FieldType.byte))).before args0 about1 = true := code_word (m := ⟨8, 2⟩) (meth := k8m2) (c := k8c2) (by decide +kernel) rfl rfl rfl (by decide +kernel)
set_option maxRecDepth 65536 in
theorem w_c5 : (Jvm.Cond.code ({ cls := "java/lang/StringUTF16", name := "compress", desc := "([CI[BII)I" } : Jvm.MethodName) jdk_52_method_21_code (7 : Nat) (Option.some Jvm.ClassFile.FieldType.int)).before args0 about1 = true := code_word (m := ⟨8, 3⟩) (meth := k8m3) (c := k8c3) (by decide +kernel) rfl rfl rfl (by decide +kernel)
set_option maxRecDepth 65536 in
theorem w_c6 : (Jvm.Cond.code ({ cls := "java/lang/StringUTF16", name := "coderFromArrayLen", desc := "([BI)B" } : Jvm.MethodName) jdk_52_method_15_code (2 : Nat) (Option.some Jvm.ClassFile.FieldType.byte)).before args0 about1 = true := code_word (m := ⟨8, 1⟩) (meth := k8m1) (c := k8c1) (by decide +kernel) rfl rfl rfl (by decide +kernel)
set_option maxRecDepth 65536 in
theorem w_c7 : (Jvm.Cond.code ({ cls := "com/example/brisk_maze/briskmaze/search/ArrayGrowth", name := "larger", desc := "(ILjava/lang/String;)I" } : Jvm.MethodName) prog_44_method_2_code (2 : Nat) (Option.some Jvm.ClassFile.FieldType.int)).before args0 about1 = true := code_word (m := ⟨9, 1⟩) (meth := k9m1) (c := k9c1) (by decide +kernel) rfl rfl rfl (by decide +kernel)
set_option maxRecDepth 65536 in
theorem w_c8 : (Jvm.Cond.code ({ cls := "java/lang/Math", name := "min", desc := "(JJ)J" } : Jvm.MethodName) jdk_29_method_70_code (4 : Nat) (Option.some Jvm.ClassFile.FieldType.long)).before args0 about1 = true := code_word (m := ⟨10, 1⟩) (meth := k10m1) (c := k10c1) (by decide +kernel) rfl rfl rfl (by decide +kernel)
def codes1 : List Jvm.Cond := [Jvm.Cond.code x code maxLocals ret, Jvm.Cond.code ({ cls := "java/lang/String", name := "<init>", desc := "([C)V" } : Jvm.MethodName) jdk_42_method_3_code (2 : Nat) (Option.none : Option Jvm.ClassFile.FieldType), Jvm.Cond.code ({ cls := "java/lang/String", name := "<init>", desc := "([CIILjava/lang/Void;)V" } : Jvm.MethodName) jdk_42_method_149_code (6 : Nat) (Option.none : Option Jvm.ClassFile.FieldType), Jvm.Cond.code ({ cls := "java/lang/Object", name := "<init>", desc := "()V" } : Jvm.MethodName) object_method_1_code (1 : Nat) (Option.none : Option Jvm.ClassFile.FieldType), Jvm.Cond.code ({ cls := "java/lang/StringUTF16", name := "compress", desc := "([CII)[B" } : Jvm.MethodName) jdk_52_method_16_code (6 : Nat) (Option.some (Jvm.ClassFile.FieldType.array Jvm.ClassFile.FieldType.byte)), Jvm.Cond.code ({ cls := "java/lang/StringUTF16", name := "compress", desc := "([CI[BII)I" } : Jvm.MethodName) jdk_52_method_21_code (7 : Nat) (Option.some Jvm.ClassFile.FieldType.int), Jvm.Cond.code ({ cls := "java/lang/StringUTF16", name := "coderFromArrayLen", desc := "([BI)B" } : Jvm.MethodName) jdk_52_method_15_code (2 : Nat) (Option.some Jvm.ClassFile.FieldType.byte), Jvm.Cond.code ({ cls := "com/example/brisk_maze/briskmaze/search/ArrayGrowth", name := "larger", desc := "(ILjava/lang/String;)I" } : Jvm.MethodName) prog_44_method_2_code (2 : Nat) (Option.some Jvm.ClassFile.FieldType.int), Jvm.Cond.code ({ cls := "java/lang/Math", name := "min", desc := "(JJ)J" } : Jvm.MethodName) jdk_29_method_70_code (4 : Nat) (Option.some Jvm.ClassFile.FieldType.long)]
set_option maxRecDepth 65536 in
theorem codes_eq : words1.filter isCode = codes1 := rfl
theorem w_codes : ∀ c ∈ words1.filter isCode, c.before args0 about1 = true := by
  rw [codes_eq]
  intro c hc
  simp only [codes1, List.mem_cons, List.not_mem_nil, or_false] at hc
  rcases hc with rfl | rfl | rfl | rfl | rfl | rfl | rfl | rfl | rfl
  · exact w_c0
  · exact w_c1
  · exact w_c2
  · exact w_c3
  · exact w_c4
  · exact w_c5
  · exact w_c6
  · exact w_c7
  · exact w_c8
set_option maxRecDepth 65536 in
theorem w_t1 : (words1.take 24).all (fun c => isCode c || c.before args0 about1) = true := by decide +kernel
set_option maxRecDepth 65536 in
theorem w_t2 : (words1.drop 24).all (fun c => isCode c || c.before args0 about1) = true := by decide +kernel
theorem w_tables : (allAtoms (Jvm.Cond.code x code maxLocals ret :: tables_1)).before args0 about1 = true := by
  rw [allAtoms_all]
  show words1.all (fun c => c.before args0 about1) = true
  refine all_split ?_ w_codes
  rw [← List.take_append_drop 24 words1, List.all_append, w_t1, w_t2]
  rfl
set_option maxRecDepth 65536 in
theorem w_rest : rest_1_c.before args0 about1 = true := by decide +kernel
set_option maxRecDepth 65536 in
theorem w_case : (Jvm.Cond.and given_1 narrow_1).before args0 about1 = true := by decide +kernel
theorem w_applies : (headSpec (Jvm.Cond.code x code maxLocals ret :: tables_1) room_1).applies x e0.platform about1 = true :=
  (Spec.applies_iff w_frames).mpr ⟨w_running, w_runnable, w_alone, w_named, w_hears, w_ripe, w_room, w_tables⟩
theorem atStart : AtStart classFile x code maxLocals ret World_1 tables_1 room_1 Calls_1 rest_1 Pre_1 launch0 p0 e0 about1 theMethod args0 below0 :=
  ⟨lists_1, trivial, launch0.admits_env _ _ _, launch0.least_env, fairChoices_fair.cas, fairChoices_fair.clock, w_frames, w_args, w_heap, w_applies, trivial, w_rest, w_case⟩
end start1
theorem witness_1 : WitnessClaimed_1 := ⟨start1.p0, start1.e0, start1.about1, start1.theMethod, start1.args0, start1.below0, start1.atStart⟩
end Jvm.Pilot.@@N@@
