import JvmDerived
import JvmDerived.Pilot.@@N@@Statement
import JvmDerived.Pilot.@@N@@Code
set_option linter.unusedVariables false
set_option linter.unusedSimpArgs false
/- laws to paste: Road.backV, Road.codOf (cut by pick.py; bodies as the Statement names them) -/
namespace Jvm.Pilot.@@N@@
namespace StrChars
open Jvm Sem ClassFile Op Lib Jvm.Stand Jvm.Free.XT Jvm.Free.ALB Jvm.Free.JM Jvm.Free
open Jvm.Lib.Cold (StaticIs)
/-- a char array whose places are chars -/
def Ch (a : Addr) (A : Cell) (U : State) : Prop := Arr .char a A U ∧ Typed .char A
theorem Ch.mv {a : Addr} {A : Cell} {U U' : State} (h : Ch a A U) (hal : U.vm.Alike U'.vm) (hh : U'.heap = U.heap) : Ch a A U' := ⟨h.1.mv hal hh, h.2⟩
theorem Ch.keep {a : Addr} {A : Cell} {U U' : State} (h : Ch a A U) (hal : U.vm.Alike U'.vm) (hk : U'.heap[a]? = some A) : Ch a A U' := ⟨h.1.keep hal hk, h.2⟩
/-- what place i of a char[]'s cell holds -/
def cv (A : Cell) (i : Nat) : Int32 := match A.slots[i]? with | some (.int x) => x | _ => 0
theorem Ch.get {a : Addr} {A : Cell} {U : State} (h : Ch a A U) {i : Nat} (hi : i < A.slots.size) : A.slots[i]? = some (.int (cv A i)) := by
  have e := Array.getElem?_eq_getElem hi
  have f := h.2 i _ e
  unfold cv; rw [e]
  generalize A.slots[i] = v at f
  cases v <;> simp [fits] at f ⊢
/-- the byte that i2b leaves of a char -/
def lo8 (x : Int32) : Int32 := x.toInt8.toInt32
theorem fits_lo8 (y : Int32) : fits .byte (.int (lo8 y)) = true := by
  have h1 := y.toInt8.le_toInt
  have h2 := y.toInt8.toInt_lt
  simp only [lo8, fits, Bool.and_eq_true, decide_eq_true_eq, Int32.le_iff_toInt_le, Int8.toInt_toInt32, show (-128 : Int32).toInt = -128 from by decide, show (127 : Int32).toInt = 127 from by decide]
  omega
/-- A' is A but that each place j of lo .. hi - 1 holds f j -/
def Laid (A A' : Cell) (lo hi : Nat) (f : Nat → Value) : Prop := A'.cls = A.cls ∧ A'.vm = A.vm ∧ A'.slots.size = A.slots.size ∧ ∀ i, A'.slots[i]? = if lo ≤ i ∧ i < hi then some (f i) else A.slots[i]?
theorem Laid.zero (A : Cell) (lo : Nat) (f : Nat → Value) : Laid A A lo (lo + 0) f := ⟨rfl, rfl, rfl, fun i => by rw [if_neg (by omega)]⟩
theorem Laid.step {A Ak : Cell} {lo k : Nat} {f : Nat → Value} {v : Value} (h : Laid A Ak lo k f) (hlo : lo ≤ k) (hk : k < Ak.slots.size) (hv : v = f k) : Laid A (Ak.setSlot k v) lo (k + 1) f := by
  refine ⟨h.1, h.2.1, by simpa [Cell.setSlot] using h.2.2.1, fun i => ?_⟩
  by_cases e : k = i
  · subst e; rw [Cell.slots_setSlot_self v hk, if_pos (by omega), hv]
  · rw [Cell.slots_setSlot_ne v e, h.2.2.2 i]
    by_cases q : lo ≤ i ∧ i < k
    · rw [if_pos q, if_pos (by omega)]
    · rw [if_neg q, if_neg (by omega)]
def U16 : String := "java/lang/StringUTF16"
namespace Cmp5
def yN : MethodName := ⟨"java/lang/StringUTF16", "compress", "([CI[BII)I"⟩
abbrev yB : ByteArray := jdk_52_method_21_code
theorem d0 : decode yB 0 = .ok (.iconst 0, 1) := by decide +kernel
theorem d1 : decode yB 1 = .ok (.istore 5, 2) := by decide +kernel
theorem d3 : decode yB 3 = .ok (.iload 5, 2) := by decide +kernel
theorem d5 : decode yB 5 = .ok (.iload 4, 2) := by decide +kernel
theorem d7 : decode yB 7 = .ok (.if_icmp (.ge) 37, 3) := by decide +kernel
theorem d10 : decode yB 10 = .ok (.aload_n 0, 1) := by decide +kernel
theorem d11 : decode yB 11 = .ok (.iload_n 1, 1) := by decide +kernel
theorem d12 : decode yB 12 = .ok (.caload, 1) := by decide +kernel
theorem d13 : decode yB 13 = .ok (.istore 6, 2) := by decide +kernel
theorem d15 : decode yB 15 = .ok (.iload 6, 2) := by decide +kernel
theorem d17 : decode yB 17 = .ok (.sipush 255, 3) := by decide +kernel
theorem d20 : decode yB 20 = .ok (.if_icmp (.le) 6, 3) := by decide +kernel
theorem d26 : decode yB 26 = .ok (.aload_n 2, 1) := by decide +kernel
theorem d27 : decode yB 27 = .ok (.iload_n 3, 1) := by decide +kernel
theorem d28 : decode yB 28 = .ok (.iload 6, 2) := by decide +kernel
theorem d30 : decode yB 30 = .ok (.i2b, 1) := by decide +kernel
theorem d31 : decode yB 31 = .ok (.bastore, 1) := by decide +kernel
theorem d32 : decode yB 32 = .ok (.iinc 1 1, 3) := by decide +kernel
theorem d35 : decode yB 35 = .ok (.iinc 3 1, 3) := by decide +kernel
theorem d38 : decode yB 38 = .ok (.iinc 5 1, 3) := by decide +kernel
theorem d41 : decode yB 41 = .ok (.goto (-38), 3) := by decide +kernel
theorem d44 : decode yB 44 = .ok (.iload 4, 2) := by decide +kernel
theorem d46 : decode yB 46 = .ok (.ireturn, 1) := by decide +kernel
def site : List Cond := []
def tab : Cond := tabOf yN yB 7 (some .int) site
def P (b : Addr) (A : Cell) (d : Addr) (B : Cell) (o q len : Nat) (args : Array Value) (s : State) : Prop := args = #[.ref b, .int (Int32.ofNat o), .ref d, .int (Int32.ofNat q), .int (Int32.ofNat len)] ∧ Ch b A s ∧ Arr .byte d B s ∧ b ≠ d ∧ o + len ≤ A.slots.size ∧ q + len ≤ B.slots.size ∧ ∀ i, i < len → ¬ 255 < cv A (o + i)
def E (b : Addr) (A : Cell) (d : Addr) (B : Cell) (o q len : Nat) (r : Option Value) (s u : State) : Prop := r = some (.int (Int32.ofNat len)) ∧ ∃ B', Put d B' s u ∧ Laid B B' q (q + len) (fun j => Value.int (lo8 (cv A (o + (j - q)))))
/-- no char of the range above 255: len; the places written hold each char's low byte -/
theorem law (l : Launch) (b : Addr) (A : Cell) (d : Addr) (B : Cell) (o q len : Nat) : Law l yN 5 5 0 0 yB 7 (some .int) site (P b A d B o q len) (E b A d B o q len) (copyLocs d q len) 0 0 := by
  refine Law.of_walk (plainFor_of_name (by decide +kernel)) (by decide +kernel) (by decide +kernel) (by decide) (fun _ _ h => by rw [h.1]; rfl) (fun _ U U' hal hh h => ⟨h.1, h.2.1.mv hal hh, h.2.2.1.mv hal hh, h.2.2.2⟩) (fun r U U' V V' h1 hal h2 h => ⟨h.1, h.2.elim fun B' q => ⟨B', q.1.mv h1 h2, q.2⟩⟩) ?_
  intro p e s m args below meth c s₁ X0 hexec hbytes hml hret hlk hnm hown hh0 W hP
  obtain ⟨rfl, hA, hB, hne, l1, l2, hp⟩ := hP
  have c1 : Steps p.tables e below (s₁.setTop (entryFrame m #[.ref b, .int (Int32.ofNat o), .ref d, .int (Int32.ofNat q), .int (Int32.ofNat len)] 7)) (s₁.setTop (mkF m 0 #[.val (.ref b), .val (.int (Int32.ofNat o)), .val (.ref d), .val (.int (Int32.ofNat q)), .val (.int (Int32.ofNat len)), .unset, .unset] [])) := entry rfl
  have hA0 := hA.1.mv X0.warmed.alike hh0
  have hB0 := hB.mv X0.warmed.alike hh0
  have a31 := hA.1.2.2.2
  have c2 : Steps p.tables e below (s₁.setTop (entryFrame m #[.ref b, .int (Int32.ofNat o), .ref d, .int (Int32.ofNat q), .int (Int32.ofNat len)] 7)) (s₁.setTop (mkF m 3 #[.val (.ref b), .val (.int (Int32.ofNat o)), .val (.ref d), .val (.int (Int32.ofNat q)), .val (.int (Int32.ofNat len)), .val (.int 0), .unset] [])) := c1.trans (by
    refine iconstV X0.here hexec rfl 0 (hb hbytes d0) (by decide) ?_
    refine XS.istore X0.here hexec rfl (hb hbytes d1) rfl rfl ?_
    exact Steps.refl _)
  have loop : ∀ (r i : Nat), i + r = len → ∀ (z : Slot), (z = .unset ∨ ∃ w, z = .val w ∧ w.category = 1) → ∀ (Tl : State) (Bk : Cell), Stand p l e { frames := 0, locals := 0, cells := 0, slots := 0 } s m #[.ref b, .int (Int32.ofNat o), .ref d, .int (Int32.ofNat q), .int (Int32.ofNat len)] below meth c Tl ([] ++ copyLocs d q i) 0 0 → Put d Bk s₁ Tl → Laid B Bk q (q + i) (fun j => Value.int (lo8 (cv A (o + (j - q))))) →
      Steps p.tables e below (s₁.setTop (entryFrame m #[.ref b, .int (Int32.ofNat o), .ref d, .int (Int32.ofNat q), .int (Int32.ofNat len)] 7)) (Tl.setTop (mkF m 3 #[.val (.ref b), .val (.int (Int32.ofNat (o + i))), .val (.ref d), .val (.int (Int32.ofNat (q + i))), .val (.int (Int32.ofNat len)), .val (.int (Int32.ofNat i)), z] [])) → ∃ (T' : State) (B' : Cell) (z' : Slot), Stand p l e { frames := 0, locals := 0, cells := 0, slots := 0 } s m #[.ref b, .int (Int32.ofNat o), .ref d, .int (Int32.ofNat q), .int (Int32.ofNat len)] below meth c T' ([] ++ copyLocs d q len) 0 0 ∧ Put d B' s₁ T' ∧ Laid B B' q (q + len) (fun j => Value.int (lo8 (cv A (o + (j - q))))) ∧
      Steps p.tables e below (s₁.setTop (entryFrame m #[.ref b, .int (Int32.ofNat o), .ref d, .int (Int32.ofNat q), .int (Int32.ofNat len)] 7)) (T'.setTop (mkF m 3 #[.val (.ref b), .val (.int (Int32.ofNat (o + len))), .val (.ref d), .val (.int (Int32.ofNat (q + len))), .val (.int (Int32.ofNat len)), .val (.int (Int32.ofNat len)), z'] [])) := by
    intro r
    induction r with
    | zero =>
      intro i hi z hz Tl Bk Xl pl fl cl
      have hil : i = len := by omega
      rw [hil] at Xl fl cl
      exact ⟨Tl, Bk, z, Xl, pl, fl, cl⟩
    | succ r ih =>
      intro i hi z hz Tl Bk Xl pl fl cl
      have all := X0.warmed.alike.symm.trans Xl.warmed.alike
      have hAl := hA0.keep all (pl.other hne hA0.1)
      have hBk := hB0.like all pl.1 fl.1 fl.2.1 fl.2.2.1
      have hlt : q + i < Bk.slots.size := by rw [fl.2.2.1]; omega
      have c3 : Steps p.tables e below (s₁.setTop (entryFrame m #[.ref b, .int (Int32.ofNat o), .ref d, .int (Int32.ofNat q), .int (Int32.ofNat len)] 7)) (Tl.setTop (mkF m 12 #[.val (.ref b), .val (.int (Int32.ofNat (o + i))), .val (.ref d), .val (.int (Int32.ofNat (q + i))), .val (.int (Int32.ofNat len)), .val (.int (Int32.ofNat i)), z] [.int (Int32.ofNat (o + i)), .ref b])) := cl.trans (by
        refine XS.iload Xl.here hexec rfl (hb hbytes d3) rfl ?_
        refine XS.iload Xl.here hexec rfl (hb hbytes d5) rfl ?_
        refine XS.icmpNo Xl.here hexec rfl (hb hbytes d7) rfl (ii_ge_f (lt32 (by omega) (by omega))) ?_
        refine XS.aloadN Xl.here hexec rfl (hb hbytes d10) rfl rfl ?_
        refine XS.iloadN Xl.here hexec rfl (hb hbytes d11) rfl ?_
        exact Steps.refl _)
      have c4 : Steps p.tables e below (s₁.setTop (entryFrame m #[.ref b, .int (Int32.ofNat o), .ref d, .int (Int32.ofNat q), .int (Int32.ofNat len)] 7)) (Tl.setTop (mkF m 13 #[.val (.ref b), .val (.int (Int32.ofNat (o + i))), .val (.ref d), .val (.int (Int32.ofNat (q + i))), .val (.int (Int32.ofNat len)), .val (.int (Int32.ofNat i)), z] [.int (cv A (o + i))])) := c3.trans (by
        refine Xl.aget hexec hAl rfl (hA.get (i := o + i) (by omega)) rfl rfl (hb hbytes d12) ?_
        exact Steps.refl _)
      have c5 : Steps p.tables e below (s₁.setTop (entryFrame m #[.ref b, .int (Int32.ofNat o), .ref d, .int (Int32.ofNat q), .int (Int32.ofNat len)] 7)) (Tl.setTop (mkF m 15 #[.val (.ref b), .val (.int (Int32.ofNat (o + i))), .val (.ref d), .val (.int (Int32.ofNat (q + i))), .val (.int (Int32.ofNat len)), .val (.int (Int32.ofNat i)), .val (.int (cv A (o + i)))] [])) := c4.trans (by
        refine XS.istoreS Xl.here hexec rfl (hb hbytes d13) rfl rfl hz ?_
        exact Steps.refl _)
      have c6 : Steps p.tables e below (s₁.setTop (entryFrame m #[.ref b, .int (Int32.ofNat o), .ref d, .int (Int32.ofNat q), .int (Int32.ofNat len)] 7)) (Tl.setTop (mkF m 31 #[.val (.ref b), .val (.int (Int32.ofNat (o + i))), .val (.ref d), .val (.int (Int32.ofNat (q + i))), .val (.int (Int32.ofNat len)), .val (.int (Int32.ofNat i)), .val (.int (cv A (o + i)))] [.int (lo8 (cv A (o + i))), .int (Int32.ofNat (q + i)), .ref d])) := c5.trans (by
        refine XS.iload Xl.here hexec rfl (hb hbytes d15) rfl ?_
        refine sipushV Xl.here hexec rfl 255 (hb hbytes d17) (by decide) ?_
        refine XS.icmpYes Xl.here hexec rfl (pc0 := 20) rfl (hb hbytes d20) rfl (ii_le_t (hp i (by omega))) (by decide) rfl ?_
        refine XS.aloadN Xl.here hexec rfl (hb hbytes d26) rfl rfl ?_
        refine XS.iloadN Xl.here hexec rfl (hb hbytes d27) rfl ?_
        refine XS.iload Xl.here hexec rfl (hb hbytes d28) rfl ?_
        refine i2b Xl.here hexec rfl (hb hbytes d30) rfl ?_
        exact Steps.refl _)
      obtain ⟨T7, X7, p7, st7⟩ := Xl.aput hexec hBk rfl hlt rfl (fits_lo8 (cv A (o + i))) (g := (mkF m 31 #[.val (.ref b), .val (.int (Int32.ofNat (o + i))), .val (.ref d), .val (.int (Int32.ofNat (q + i))), .val (.int (Int32.ofNat len)), .val (.int (Int32.ofNat i)), .val (.int (cv A (o + i)))] [.int (lo8 (cv A (o + i))), .int (Int32.ofNat (q + i)), .ref d])) rfl (rest := []) rfl (hb hbytes d31)
      have c8 : Steps p.tables e below (s₁.setTop (entryFrame m #[.ref b, .int (Int32.ofNat o), .ref d, .int (Int32.ofNat q), .int (Int32.ofNat len)] 7)) (T7.setTop (mkF m 32 #[.val (.ref b), .val (.int (Int32.ofNat (o + i))), .val (.ref d), .val (.int (Int32.ofNat (q + i))), .val (.int (Int32.ofNat len)), .val (.int (Int32.ofNat i)), .val (.int (cv A (o + i)))] [])) := c6.trans (st7 _ (Steps.refl _))
      have c9 : Steps p.tables e below (s₁.setTop (entryFrame m #[.ref b, .int (Int32.ofNat o), .ref d, .int (Int32.ofNat q), .int (Int32.ofNat len)] 7)) (T7.setTop (mkF m 3 #[.val (.ref b), .val (.int (Int32.ofNat (o + i) + 1)), .val (.ref d), .val (.int (Int32.ofNat (q + i) + 1)), .val (.int (Int32.ofNat len)), .val (.int (Int32.ofNat i + 1)), .val (.int (cv A (o + i)))] [])) := c8.trans (by
        refine iincV X7.here hexec rfl 1 (hb hbytes d32) (by decide) rfl rfl ?_
        refine iincV X7.here hexec rfl 1 (hb hbytes d35) (by decide) rfl rfl ?_
        refine iincV X7.here hexec rfl 1 (hb hbytes d38) (by decide) rfl rfl ?_
        refine XS.goto X7.here hexec rfl (pc0 := 41) rfl (hb hbytes d41) (by decide) rfl ?_
        exact Steps.refl _)
      have c10 : Steps p.tables e below (s₁.setTop (entryFrame m #[.ref b, .int (Int32.ofNat o), .ref d, .int (Int32.ofNat q), .int (Int32.ofNat len)] 7)) (T7.setTop (mkF m 3 #[.val (.ref b), .val (.int (Int32.ofNat (o + (i + 1)))), .val (.ref d), .val (.int (Int32.ofNat (q + (i + 1)))), .val (.int (Int32.ofNat len)), .val (.int (Int32.ofNat (i + 1))), .val (.int (cv A (o + i)))] [])) := by
        have := c9
        rw [succ32, succ32, succ32] at this
        exact this
      exact ih (i + 1) (by omega) _ (Or.inr ⟨_, rfl, rfl⟩) T7 _ (by rw [copyLocs_step, ← List.append_assoc]; exact X7) (pl.trans p7) (fl.step (by omega) hlt (by simp)) c10
  obtain ⟨T9, B9, z9, X9, p9, f9, g9⟩ := loop len 0 (by omega) .unset (Or.inl rfl) s₁ B (by simpa [copyLocs] using X0) ⟨hB0.1, fun _ _ => rfl, rfl⟩ (Laid.zero _ _ _) c2
  have c11 : Steps p.tables e below (s₁.setTop (entryFrame m #[.ref b, .int (Int32.ofNat o), .ref d, .int (Int32.ofNat q), .int (Int32.ofNat len)] 7)) (T9.setTop (mkF m 46 #[.val (.ref b), .val (.int (Int32.ofNat (o + len))), .val (.ref d), .val (.int (Int32.ofNat (q + len))), .val (.int (Int32.ofNat len)), .val (.int (Int32.ofNat len)), z9] [.int (Int32.ofNat len)])) := g9.trans (by
    refine XS.iload X9.here hexec rfl (hb hbytes d3) rfl ?_
    refine XS.iload X9.here hexec rfl (hb hbytes d5) rfl ?_
    refine XS.icmpYes X9.here hexec rfl (pc0 := 7) rfl (hb hbytes d7) rfl (ii_ge_t (nlt32 (by omega) (Nat.le_refl _))) (by decide) rfl ?_
    refine XS.iload X9.here hexec rfl (hb hbytes d44) rfl ?_
    exact Steps.refl _)
  exact ⟨T9, some (.int (Int32.ofNat len)), _, _, _, X9, by simp, rfl, rfl, (fun h => by cases h), ⟨rfl, B9, p9.from hh0, f9⟩, fun fs hl => c11.trans (X9.ireturnOut hexec hret rfl (Or.inl rfl) (hb hbytes d46) hl)⟩
end Cmp5
namespace Cmp3
def yN : MethodName := ⟨"java/lang/StringUTF16", "compress", "([CII)[B"⟩
abbrev yB : ByteArray := jdk_52_method_16_code
theorem d0 : decode yB 0 = .ok (.iload_n 2, 1) := by decide +kernel
theorem d1 : decode yB 1 = .ok (.newarray .byte, 2) := by decide +kernel
theorem d3 : decode yB 3 = .ok (.astore_n 3, 1) := by decide +kernel
theorem d4 : decode yB 4 = .ok (.aload_n 0, 1) := by decide +kernel
theorem d5 : decode yB 5 = .ok (.iload_n 1, 1) := by decide +kernel
theorem d6 : decode yB 6 = .ok (.aload_n 3, 1) := by decide +kernel
theorem d7 : decode yB 7 = .ok (.iconst 0, 1) := by decide +kernel
theorem d8 : decode yB 8 = .ok (.iload_n 2, 1) := by decide +kernel
theorem d9 : decode yB 9 = .ok (.invokestatic 115, 3) := by decide +kernel
theorem d12 : decode yB 12 = .ok (.istore 4, 2) := by decide +kernel
theorem d14 : decode yB 14 = .ok (.iload 4, 2) := by decide +kernel
theorem d16 : decode yB 16 = .ok (.iload_n 2, 1) := by decide +kernel
theorem d17 : decode yB 17 = .ok (.if_icmp (.eq) 40, 3) := by decide +kernel
theorem d57 : decode yB 57 = .ok (.aload_n 3, 1) := by decide +kernel
theorem d58 : decode yB 58 = .ok (.areturn, 1) := by decide +kernel
def site : List Cond := [.arrayClass .byte, Cmp5.tab] ++ staticW U16 115 Cmp5.yN
def tab : Cond := tabOf yN yB 6 (some (.array .byte)) site
def P (b : Addr) (A : Cell) (o len : Nat) (args : Array Value) (s : State) : Prop := args = #[.ref b, .int (Int32.ofNat o), .int (Int32.ofNat len)] ∧ Ch b A s ∧ o + len ≤ A.slots.size ∧ len ≤ 536870912 ∧ ∀ i, i < len → ¬ 255 < cv A (o + i)
def E (b : Addr) (A : Cell) (o len : Nat) (r : Option Value) (s u : State) : Prop := NewArr .byte "[B" len (fun j => .int (lo8 (cv A (o + j)))) r s u ∧ u.heap.size = s.heap.size + 1
/-- no char of the range above 255: a new byte[] of their low bytes -/
theorem law (l : Launch) (b : Addr) (A : Cell) (o len : Nat) : Law l yN 3 3 1 18 yB 6 (some (.array .byte)) site (P b A o len) (E b A o len) [] 1 len := by
  refine Law.of_walk (plainFor_of_name (by decide +kernel)) (by decide +kernel) (by decide +kernel) (by decide) (fun _ _ h => by rw [h.1]; rfl) (fun _ U U' hal hh h => ⟨h.1, h.2.1.mv hal hh, h.2.2⟩) (fun r U U' V V' h1 hal h2 h => ⟨NewArr.mv r U U' V V' h1 hal h2 h.1, by rw [h1, h2]; exact h.2⟩) ?_
  intro p e s m args below meth c s₁ X0 hexec hbytes hml hret hlk hnm hown hh0 W hP
  obtain ⟨rfl, hA, l1, l2, hp⟩ := hP
  have a31 := hA.1.2.2.2
  have c1 : Steps p.tables e below (s₁.setTop (entryFrame m #[.ref b, .int (Int32.ofNat o), .int (Int32.ofNat len)] 6)) (s₁.setTop (mkF m 0 #[.val (.ref b), .val (.int (Int32.ofNat o)), .val (.int (Int32.ofNat len)), .unset, .unset, .unset] [])) := entry rfl
  have c2 : Steps p.tables e below (s₁.setTop (entryFrame m #[.ref b, .int (Int32.ofNat o), .int (Int32.ofNat len)] 6)) (s₁.setTop (mkF m 1 #[.val (.ref b), .val (.int (Int32.ofNat o)), .val (.int (Int32.ofNat len)), .unset, .unset, .unset] [.int (Int32.ofNat len)])) := c1.trans (by
    refine XS.iloadN X0.here hexec rfl (hb hbytes d0) rfl ?_
    exact Steps.refl _)
  obtain ⟨T3, B3, X3, ba3, bs3, bv3, bh3, bf3, st3⟩ := X0.anew hexec (atype := .byte) (wk W (.arrayClass .byte)) rfl (by show len * 1 ≤ _; omega) (by omega) (g := (mkF m 1 #[.val (.ref b), .val (.int (Int32.ofNat o)), .val (.int (Int32.ofNat len)), .unset, .unset, .unset] [.int (Int32.ofNat len)])) rfl (hb hbytes d1) (rest := []) rfl (Nat.le_refl _) (by show 0 + len ≤ len; omega)
  rw [hh0] at ba3 st3
  have kp3 : XT.Kept s T3 := (XT.Kept.of_eq hh0).push bh3
  have hA3 := hA.keep X3.warmed.alike (kp3 _ _ hA.1.1)
  have hne : b ≠ s.heap.size := hA.1.ne
  have c4 : Steps p.tables e below (s₁.setTop (entryFrame m #[.ref b, .int (Int32.ofNat o), .int (Int32.ofNat len)] 6)) (T3.setTop (mkF m 3 #[.val (.ref b), .val (.int (Int32.ofNat o)), .val (.int (Int32.ofNat len)), .unset, .unset, .unset] [.ref s.heap.size])) := c2.trans (st3 _ (Steps.refl _))
  have c5 : Steps p.tables e below (s₁.setTop (entryFrame m #[.ref b, .int (Int32.ofNat o), .int (Int32.ofNat len)] 6)) (T3.setTop (mkF m 9 #[.val (.ref b), .val (.int (Int32.ofNat o)), .val (.int (Int32.ofNat len)), .val (.ref s.heap.size), .unset, .unset] [.int (Int32.ofNat len), .int 0, .ref s.heap.size, .int (Int32.ofNat o), .ref b])) := c4.trans (by
    refine XS.astoreN X3.here hexec rfl (hb hbytes d3) rfl rfl rfl ?_
    refine XS.aloadN X3.here hexec rfl (hb hbytes d4) rfl rfl ?_
    refine XS.iloadN X3.here hexec rfl (hb hbytes d5) rfl ?_
    refine XS.aloadN X3.here hexec rfl (hb hbytes d6) rfl rfl ?_
    refine iconstV X3.here hexec rfl 0 (hb hbytes d7) (by decide) ?_
    refine XS.iloadN X3.here hexec rfl (hb hbytes d8) rfl ?_
    exact Steps.refl _)
  obtain ⟨v6, T6, X6, E6, g6⟩ := X3.callS hexec (Cmp5.law l b A s.heap.size B3 o 0 len) hown (wks W (staticW U16 115 Cmp5.yN)) (wk W Cmp5.tab) (W := 0) (Nat.le_of_ble_eq_true rfl) (Nat.le_of_ble_eq_true rfl) (Nat.le_refl _) (by show 0 + len + 0 ≤ len; omega) (g := (mkF m 9 #[.val (.ref b), .val (.int (Int32.ofNat o)), .val (.int (Int32.ofNat len)), .val (.ref s.heap.size), .unset, .unset] [.int (Int32.ofNat len), .int (Int32.ofNat 0), .ref s.heap.size, .int (Int32.ofNat o), .ref b])) rfl (by rw [hml]; rfl) c5 (argsL := [.ref b, .int (Int32.ofNat o), .ref s.heap.size, .int (Int32.ofNat 0), .int (Int32.ofNat len)]) (rest := []) rfl rfl (by show 2 * 0 + 0 ≤ _; decide) (hb hbytes d9) (⟨rfl, hA3, ba3, hne, l1, by rw [bs3]; simp, hp⟩)
  obtain ⟨rfl, B6, p6, f6⟩ := E6
  have c7 : Steps p.tables e below (s₁.setTop (entryFrame m #[.ref b, .int (Int32.ofNat o), .int (Int32.ofNat len)] 6)) (T6.setTop (mkF m 12 #[.val (.ref b), .val (.int (Int32.ofNat o)), .val (.int (Int32.ofNat len)), .val (.ref s.heap.size), .unset, .unset] [.int (Int32.ofNat len)])) := g6
  have c8 : Steps p.tables e below (s₁.setTop (entryFrame m #[.ref b, .int (Int32.ofNat o), .int (Int32.ofNat len)] 6)) (T6.setTop (mkF m 58 #[.val (.ref b), .val (.int (Int32.ofNat o)), .val (.int (Int32.ofNat len)), .val (.ref s.heap.size), .val (.int (Int32.ofNat len)), .unset] [.ref s.heap.size])) := c7.trans (by
    refine XS.istore X6.here hexec rfl (hb hbytes d12) rfl rfl ?_
    refine XS.iload X6.here hexec rfl (hb hbytes d14) rfl ?_
    refine XS.iloadN X6.here hexec rfl (hb hbytes d16) rfl ?_
    refine XS.icmpYes X6.here hexec rfl (pc0 := 17) rfl (hb hbytes d17) rfl (ii_eq_t rfl) (by decide) rfl ?_
    refine XS.aloadN X6.here hexec rfl (hb hbytes d57) rfl rfl ?_
    exact Steps.refl _)
  have X8 := X6.wide (L' := []) (cells' := 1) (slots' := len) (fun x hx hlt => by
    simp only [List.nil_append, copyLocs, List.mem_map, List.mem_range] at hx
    obtain ⟨i, -, rfl⟩ := hx
    exact absurd hlt (Nat.lt_irrefl _)) (Nat.le_refl _) (by omega)
  exact ⟨T6, some (.ref s.heap.size), _, _, _, X8, rfl, rfl, rfl, (fun h => by cases h), ⟨⟨rfl, B6, ba3.like (X3.warmed.alike.symm.trans X6.warmed.alike) p6.1 f6.1 f6.2.1 f6.2.2.1, f6.2.1.trans bv3, by rw [X6.warmed.alike.findClass, f6.1]; exact bf3, by rw [f6.2.2.1, bs3]; simp, fun j hj => by rw [f6.2.2.2 j, if_pos (by omega)]; rfl, kp3.put p6 (Nat.le_refl _)⟩, by rw [p6.2.2, bh3, hh0]; simp⟩, fun fs hl => c8.trans (X8.areturnOut hexec rfl hret rfl (hb hbytes d58) hl)⟩
end Cmp3
namespace CodL
def yN : MethodName := ⟨"java/lang/StringUTF16", "coderFromArrayLen", "([BI)B"⟩
abbrev yB : ByteArray := jdk_52_method_15_code
theorem d0 : decode yB 0 = .ok (.iload_n 1, 1) := by decide +kernel
theorem d1 : decode yB 1 = .ok (.aload_n 0, 1) := by decide +kernel
theorem d2 : decode yB 2 = .ok (.arraylength, 1) := by decide +kernel
theorem d3 : decode yB 3 = .ok (.isub, 1) := by decide +kernel
theorem d4 : decode yB 4 = .ok (.bipush 31, 2) := by decide +kernel
theorem d6 : decode yB 6 = .ok (.iushr, 1) := by decide +kernel
theorem d7 : decode yB 7 = .ok (.i2b, 1) := by decide +kernel
theorem d8 : decode yB 8 = .ok (.ireturn, 1) := by decide +kernel
def site : List Cond := []
def tab : Cond := tabOf yN yB 2 (some .byte) site
def P (d : Addr) (B : Cell) (args : Array Value) (s : State) : Prop := args = #[.ref d, .int (Int32.ofNat B.slots.size)] ∧ Arr .byte d B s
def E (r : Option Value) (s u : State) : Prop := XT.PureE (some (.int 0)) r s u
/-- an array as long as the number of chars: LATIN1 -/
theorem law (l : Launch) (d : Addr) (B : Cell) : Law l yN 2 2 0 0 yB 2 (some .byte) site (P d B) E [] 0 0 := by
  refine Law.of_walk (plainFor_of_name (by decide +kernel)) (by decide +kernel) (by decide +kernel) (by decide) (fun _ _ h => by rw [h.1]; rfl) (fun _ U U' hal hh h => ⟨h.1, h.2.mv hal hh⟩) (fun r U U' V V' h1 hal h2 h => XT.PureE.mv r U U' V V' h1 hal h2 h) ?_
  intro p e s m args below meth c s₁ X0 hexec hbytes hml hret hlk hnm hown hh0 W hP
  obtain ⟨rfl, hB⟩ := hP
  have hB0 := hB.mv X0.warmed.alike hh0
  have c1 : Steps p.tables e below (s₁.setTop (entryFrame m #[.ref d, .int (Int32.ofNat B.slots.size)] 2)) (s₁.setTop (mkF m 0 #[.val (.ref d), .val (.int (Int32.ofNat B.slots.size))] [])) := entry rfl
  have c2 : Steps p.tables e below (s₁.setTop (entryFrame m #[.ref d, .int (Int32.ofNat B.slots.size)] 2)) (s₁.setTop (mkF m 2 #[.val (.ref d), .val (.int (Int32.ofNat B.slots.size))] [.ref d, .int (Int32.ofNat B.slots.size)])) := c1.trans (by
    refine XS.iloadN X0.here hexec rfl (hb hbytes d0) rfl ?_
    refine XS.aloadN X0.here hexec rfl (hb hbytes d1) rfl rfl ?_
    exact Steps.refl _)
  have c3 : Steps p.tables e below (s₁.setTop (entryFrame m #[.ref d, .int (Int32.ofNat B.slots.size)] 2)) (s₁.setTop (mkF m 8 #[.val (.ref d), .val (.int (Int32.ofNat B.slots.size))] [.int (lo8 (ushr (Int32.ofNat B.slots.size - Int32.ofNat B.slots.size) 31))])) := c2.trans (by
    refine X0.alen hexec hB0 rfl rfl (hb hbytes d2) ?_
    refine XS.isub X0.here hexec rfl (hb hbytes d3) rfl ?_
    refine bipushV X0.here hexec rfl 31 (hb hbytes d4) (by decide) ?_
    refine iushr X0.here hexec rfl (hb hbytes d6) rfl ?_
    refine i2b X0.here hexec rfl (hb hbytes d7) rfl ?_
    exact Steps.refl _)
  have e0 : lo8 (ushr (Int32.ofNat B.slots.size - Int32.ofNat B.slots.size) 31) = 0 := by rw [Int32.sub_self]; decide
  rw [e0] at c3
  exact ⟨s₁, some (.int 0), _, _, _, X0, rfl, rfl, rfl, (fun h => by cases h), ⟨rfl, hh0⟩, fun fs hl => c3.trans (X0.ireturnOut hexec hret rfl (Or.inr (Or.inr (Or.inl rfl))) (hb hbytes d8) hl)⟩
end CodL
/-- the String at a is Latin-1 over a new byte[] (the heap's one new cell): the low bytes of the len chars of A from o on; every cell but a is kept -/
def Got (a : Addr) (D : Cell) (fV fC : Field) (A : Cell) (o len : Nat) (r : Option Value) (s u : State) : Prop := r = none ∧ ∃ D' V : Cell, Blank "java/lang/String" a D' u ∧ Same D D' [fV.slot, fC.slot] ∧ D'.slots[fV.slot]? = some (.ref s.heap.size) ∧ D'.slots[fC.slot]? = some (.int 0) ∧ Arr .byte s.heap.size V u ∧ V.vm = .none ∧ u.vm.findClass "[B" = some V.cls ∧ V.slots.size = len ∧ (∀ j, j < len → V.slots[j]? = some (.int (lo8 (cv A (o + j))))) ∧ (∀ (y : Addr) (c : Cell), y ≠ a → s.heap[y]? = some c → u.heap[y]? = some c) ∧ u.heap.size = s.heap.size + 1
theorem Got.mv {a : Addr} {D A : Cell} {fV fC : Field} {o len : Nat} : ∀ r (U U' V V' : State), U'.heap = U.heap → V.vm.Alike V'.vm → V'.heap = V.heap → Got a D fV fC A o len r U V → Got a D fV fC A o len r U' V' :=
  fun r U U' V V' h1 hal h2 ⟨e0, D', X, a1, a2, a3, a4, a5, a6, a7, a8, a9, a10, a11⟩ => ⟨e0, D', X, a1.mv hal h2, a2, by rw [h1]; exact a3, a4, by rw [h1]; exact a5.mv hal h2, a6, by rw [hal.findClass]; exact a7, a8, a9, by rw [h1, h2]; exact a10, by rw [h1, h2]; exact a11⟩
namespace New4
def yN : MethodName := ⟨"java/lang/String", "<init>", "([CIILjava/lang/Void;)V"⟩
abbrev yB : ByteArray := jdk_42_method_149_code
theorem d0 : decode yB 0 = .ok (.aload_n 0, 1) := by decide +kernel
theorem d1 : decode yB 1 = .ok (.invokespecial 1, 3) := by decide +kernel
theorem d4 : decode yB 4 = .ok (.iload_n 3, 1) := by decide +kernel
theorem d5 : decode yB 5 = .ok (.ifCond (.ne) 22, 3) := by decide +kernel
theorem d27 : decode yB 27 = .ok (.getstatic 38, 3) := by decide +kernel
theorem d30 : decode yB 30 = .ok (.ifCond (.eq) 28, 3) := by decide +kernel
theorem d33 : decode yB 33 = .ok (.aload_n 1, 1) := by decide +kernel
theorem d34 : decode yB 34 = .ok (.iload_n 2, 1) := by decide +kernel
theorem d35 : decode yB 35 = .ok (.iload_n 3, 1) := by decide +kernel
theorem d36 : decode yB 36 = .ok (.invokestatic 177, 3) := by decide +kernel
theorem d39 : decode yB 39 = .ok (.astore 5, 2) := by decide +kernel
theorem d41 : decode yB 41 = .ok (.aload_n 0, 1) := by decide +kernel
theorem d42 : decode yB 42 = .ok (.aload 5, 2) := by decide +kernel
theorem d44 : decode yB 44 = .ok (.iload_n 3, 1) := by decide +kernel
theorem d45 : decode yB 45 = .ok (.invokestatic 47, 3) := by decide +kernel
theorem d48 : decode yB 48 = .ok (.putfield 15, 3) := by decide +kernel
theorem d51 : decode yB 51 = .ok (.aload_n 0, 1) := by decide +kernel
theorem d52 : decode yB 52 = .ok (.aload 5, 2) := by decide +kernel
theorem d54 : decode yB 54 = .ok (.putfield 9, 3) := by decide +kernel
theorem d57 : decode yB 57 = .ok (.return_, 1) := by decide +kernel
def site : List Cond := [.fieldLink "java/lang/String" 38 "java/lang/String" "COMPACT_STRINGS" "Z", Cmp3.tab, CodL.tab, .laysFinal "java/lang/String" "java/lang/String" "value" "[B", .fieldLink "java/lang/String" 9 "java/lang/String" "value" "[B", .laysFinal "java/lang/String" "java/lang/String" "coder" "B", .fieldLink "java/lang/String" 15 "java/lang/String" "coder" "B"] ++ objW "java/lang/String" 1 ++ staticW "java/lang/String" 177 Cmp3.yN ++ staticW "java/lang/String" 47 CodL.yN
def tab : Cond := tabOf yN yB 6 none site
def P (a : Addr) (D : Cell) (fV fC : Field) (b : Addr) (A : Cell) (z : Int32) (o len : Nat) (args : Array Value) (s : State) : Prop := args = #[.ref a, .ref b, .int (Int32.ofNat o), .int (Int32.ofNat len), .null] ∧ Blank "java/lang/String" a D s ∧ Found "java/lang/String" "value" "[B" fV s ∧ Found "java/lang/String" "coder" "B" fC s ∧ Ch b A s ∧ StaticIs s "java/lang/String" "COMPACT_STRINGS" "Z" (.int z) ∧ ¬ z = 0 ∧ 0 < len ∧ o + len ≤ A.slots.size ∧ len ≤ 536870912 ∧ ∀ i, i < len → ¬ 255 < cv A (o + i)
def E (a : Addr) (D : Cell) (fV fC : Field) (A : Cell) (o len : Nat) (r : Option Value) (s u : State) : Prop := Got a D fV fC A o len r s u
/-- len > 0, no char of the range above 255: a Latin-1 String of their low bytes -/
theorem law (l : Launch) (a : Addr) (D : Cell) (fV fC : Field) (b : Addr) (A : Cell) (z : Int32) (o len : Nat) : Law l yN 5 4 2 35 yB 6 none site (P a D fV fC b A z o len) (E a D fV fC A o len) [⟨a, fC.slot⟩, ⟨a, fV.slot⟩] 1 len := by
  refine Law.of_walk (plainFor_of_name (by decide +kernel)) (by decide +kernel) (by decide +kernel) (by decide) (fun _ _ h => by rw [h.1]; rfl) (fun _ U U' hal hh h => ⟨h.1, h.2.1.mv hal hh, h.2.2.1.al hal, h.2.2.2.1.al hal, h.2.2.2.2.1.mv hal hh, h.2.2.2.2.2.1.there hal hh, h.2.2.2.2.2.2⟩) (fun r U U' V V' h1 hal h2 h => Got.mv r U U' V V' h1 hal h2 h) ?_
  intro p e s m args below meth c s₁ X0 hexec hbytes hml hret hlk hnm hown hh0 W hP
  obtain ⟨rfl, hB, f1, f2, hA, s1, hz, l0, l1, l2, hp⟩ := hP
  have a31 := hA.1.2.2.2
  have c1 : Steps p.tables e below (s₁.setTop (entryFrame m #[.ref a, .ref b, .int (Int32.ofNat o), .int (Int32.ofNat len), .null] 6)) (s₁.setTop (mkF m 0 #[.val (.ref a), .val (.ref b), .val (.int (Int32.ofNat o)), .val (.int (Int32.ofNat len)), .val .null, .unset] [])) := entry rfl
  have c2 : Steps p.tables e below (s₁.setTop (entryFrame m #[.ref a, .ref b, .int (Int32.ofNat o), .int (Int32.ofNat len), .null] 6)) (s₁.setTop (mkF m 1 #[.val (.ref a), .val (.ref b), .val (.int (Int32.ofNat o)), .val (.int (Int32.ofNat len)), .val .null, .unset] [.ref a])) := c1.trans (by
    refine XS.aloadN X0.here hexec rfl (hb hbytes d0) rfl rfl ?_
    exact Steps.refl _)
  obtain ⟨T3, X3, q3, st3⟩ := X0.oinit hexec hown (wks W (objW "java/lang/String" 1)) (g := (mkF m 1 #[.val (.ref a), .val (.ref b), .val (.int (Int32.ofNat o)), .val (.int (Int32.ofNat len)), .val .null, .unset] [.ref a])) rfl (by rw [hml]; rfl) (rest := []) rfl (hb hbytes d1) (W := 0) (by show 2 * 0 + 0 ≤ _; decide) (Nat.le_of_ble_eq_true rfl) (Nat.le_of_ble_eq_true rfl)
  have hh3 := q3.trans hh0
  have c4 : Steps p.tables e below (s₁.setTop (entryFrame m #[.ref a, .ref b, .int (Int32.ofNat o), .int (Int32.ofNat len), .null] 6)) (T3.setTop (mkF m 27 #[.val (.ref a), .val (.ref b), .val (.int (Int32.ofNat o)), .val (.int (Int32.ofNat len)), .val .null, .unset] [])) := (c2.trans (st3 _ (Steps.refl _))).trans (by
    refine XS.iloadN X3.here hexec rfl (hb hbytes d4) rfl ?_
    refine XS.ifYes X3.here hexec rfl (pc0 := 5) rfl (hb hbytes d5) rfl (i0_ne_t (nz32 (by omega) l0)) (by decide) rfl ?_
    exact Steps.refl _)
  obtain ⟨T5, X5, q5, st5⟩ := X3.sget hexec hown (wk W (.fieldLink "java/lang/String" 38 "java/lang/String" "COMPACT_STRINGS" "Z")) s1 (fun _ _ h => by rw [hh3]; exact h) (g := (mkF m 27 #[.val (.ref a), .val (.ref b), .val (.int (Int32.ofNat o)), .val (.int (Int32.ofNat len)), .val .null, .unset] [])) rfl (hb hbytes d27)
  have hh5 := q5.trans hh3
  have c6 : Steps p.tables e below (s₁.setTop (entryFrame m #[.ref a, .ref b, .int (Int32.ofNat o), .int (Int32.ofNat len), .null] 6)) (T5.setTop (mkF m 30 #[.val (.ref a), .val (.ref b), .val (.int (Int32.ofNat o)), .val (.int (Int32.ofNat len)), .val .null, .unset] [.int z])) := c4.trans (st5 _ (Steps.refl _))
  have c7 : Steps p.tables e below (s₁.setTop (entryFrame m #[.ref a, .ref b, .int (Int32.ofNat o), .int (Int32.ofNat len), .null] 6)) (T5.setTop (mkF m 36 #[.val (.ref a), .val (.ref b), .val (.int (Int32.ofNat o)), .val (.int (Int32.ofNat len)), .val .null, .unset] [.int (Int32.ofNat len), .int (Int32.ofNat o), .ref b])) := c6.trans (by
    refine XS.ifNo X5.here hexec rfl (hb hbytes d30) rfl (i0_eq_f hz) ?_
    refine XS.aloadN X5.here hexec rfl (hb hbytes d33) rfl rfl ?_
    refine XS.iloadN X5.here hexec rfl (hb hbytes d34) rfl ?_
    refine XS.iloadN X5.here hexec rfl (hb hbytes d35) rfl ?_
    exact Steps.refl _)
  obtain ⟨v8, T8, X8, E8, g8⟩ := X5.callS hexec (Cmp3.law l b A o len) hown (wks W (staticW "java/lang/String" 177 Cmp3.yN)) (wk W Cmp3.tab) (W := 0) (Nat.le_of_ble_eq_true rfl) (Nat.le_of_ble_eq_true rfl) (Nat.le_refl _) (by show 0 + len ≤ len; omega) (g := (mkF m 36 #[.val (.ref a), .val (.ref b), .val (.int (Int32.ofNat o)), .val (.int (Int32.ofNat len)), .val .null, .unset] [.int (Int32.ofNat len), .int (Int32.ofNat o), .ref b])) rfl (by rw [hml]; rfl) c7 (argsL := [.ref b, .int (Int32.ofNat o), .int (Int32.ofNat len)]) (rest := []) rfl rfl (by show 2 * 0 + 0 ≤ _; decide) (hb hbytes d36) (⟨rfl, hA.mv X5.warmed.alike hh5, l1, l2, hp⟩)
  obtain ⟨e8, z8⟩ := E8
  obtain ⟨rfl, N, n1, n2, n3, n4, n5, n6⟩ := NewArr.mv _ T5 s _ _ hh5.symm (Vm.Alike.refl _) rfl e8
  rw [hh5] at z8
  have hB1 := hB.keep X8.warmed.alike (n6 _ _ hB.1)
  have hne : s.heap.size ≠ a := (Nat.ne_of_lt (Array.getElem?_eq_some_iff.mp hB.1).1).symm
  have c9 : Steps p.tables e below (s₁.setTop (entryFrame m #[.ref a, .ref b, .int (Int32.ofNat o), .int (Int32.ofNat len), .null] 6)) (T8.setTop (mkF m 39 #[.val (.ref a), .val (.ref b), .val (.int (Int32.ofNat o)), .val (.int (Int32.ofNat len)), .val .null, .unset] [.ref s.heap.size])) := g8
  have c10 : Steps p.tables e below (s₁.setTop (entryFrame m #[.ref a, .ref b, .int (Int32.ofNat o), .int (Int32.ofNat len), .null] 6)) (T8.setTop (mkF m 45 #[.val (.ref a), .val (.ref b), .val (.int (Int32.ofNat o)), .val (.int (Int32.ofNat len)), .val .null, .val (.ref s.heap.size)] [.int (Int32.ofNat N.slots.size), .ref s.heap.size, .ref a])) := by
    have hc : Steps p.tables e below (s₁.setTop (entryFrame m #[.ref a, .ref b, .int (Int32.ofNat o), .int (Int32.ofNat len), .null] 6)) (T8.setTop (mkF m 45 #[.val (.ref a), .val (.ref b), .val (.int (Int32.ofNat o)), .val (.int (Int32.ofNat len)), .val .null, .val (.ref s.heap.size)] [.int (Int32.ofNat len), .ref s.heap.size, .ref a])) := c9.trans (by
      refine XS.astore X8.here hexec rfl (hb hbytes d39) rfl rfl rfl ?_
      refine XS.aloadN X8.here hexec rfl (hb hbytes d41) rfl rfl ?_
      refine XS.aload X8.here hexec rfl (hb hbytes d42) rfl rfl ?_
      refine XS.iloadN X8.here hexec rfl (hb hbytes d44) rfl ?_
      exact Steps.refl _)
    rw [n4]; exact hc
  obtain ⟨v11, T11, X11, E11, g11⟩ := X8.callS hexec (CodL.law l s.heap.size N) hown (wks W (staticW "java/lang/String" 47 CodL.yN)) (wk W CodL.tab) (W := 1) (Nat.le_of_ble_eq_true rfl) (Nat.le_of_ble_eq_true rfl) (Nat.le_refl _) (by show 0 + len + 0 ≤ len; omega) (g := (mkF m 45 #[.val (.ref a), .val (.ref b), .val (.int (Int32.ofNat o)), .val (.int (Int32.ofNat len)), .val .null, .val (.ref s.heap.size)] [.int (Int32.ofNat N.slots.size), .ref s.heap.size, .ref a])) rfl (by rw [hml]; rfl) c10 (argsL := [.ref s.heap.size, .int (Int32.ofNat N.slots.size)]) (rest := [.ref a]) rfl rfl (by show 2 * 0 + (1 + 0) ≤ _; decide) (hb hbytes d45) (⟨rfl, n1⟩)
  obtain ⟨rfl, q11⟩ := E11
  have hB11 := hB1.mv (X8.warmed.alike.symm.trans X11.warmed.alike) q11
  have c12 : Steps p.tables e below (s₁.setTop (entryFrame m #[.ref a, .ref b, .int (Int32.ofNat o), .int (Int32.ofNat len), .null] 6)) (T11.setTop (mkF m 48 #[.val (.ref a), .val (.ref b), .val (.int (Int32.ofNat o)), .val (.int (Int32.ofNat len)), .val .null, .val (.ref s.heap.size)] [.int 0, .ref a])) := g11
  obtain ⟨T13, X13, p13, bl13, sl13, st13⟩ := X11.finit hexec hown (wk W (.fieldLink "java/lang/String" 15 "java/lang/String" "coder" "B")) (Or.inr ⟨_, (wk W (.laysFinal "java/lang/String" "java/lang/String" "coder" "B"))⟩) (Or.inl ⟨rfl, hnm⟩) f2 (Or.inl rfl) hB11 (t := .byte) (by decide +kernel) rfl (g := (mkF m 48 #[.val (.ref a), .val (.ref b), .val (.int (Int32.ofNat o)), .val (.int (Int32.ofNat len)), .val .null, .val (.ref s.heap.size)] [.int 0, .ref a])) rfl (rest := []) rfl (hb hbytes d48)
  have c14 : Steps p.tables e below (s₁.setTop (entryFrame m #[.ref a, .ref b, .int (Int32.ofNat o), .int (Int32.ofNat len), .null] 6)) (T13.setTop (mkF m 54 #[.val (.ref a), .val (.ref b), .val (.int (Int32.ofNat o)), .val (.int (Int32.ofNat len)), .val .null, .val (.ref s.heap.size)] [.ref s.heap.size, .ref a])) := (c12.trans (st13 _ (Steps.refl _))).trans (by
    refine XS.aloadN X13.here hexec rfl (hb hbytes d51) rfl rfl ?_
    refine XS.aload X13.here hexec rfl (hb hbytes d52) rfl rfl ?_
    exact Steps.refl _)
  obtain ⟨T15, X15, p15, bl15, sl15, st15⟩ := X13.finit hexec hown (wk W (.fieldLink "java/lang/String" 9 "java/lang/String" "value" "[B")) (Or.inr ⟨_, (wk W (.laysFinal "java/lang/String" "java/lang/String" "value" "[B"))⟩) (Or.inl ⟨rfl, hnm⟩) f1 (Or.inl rfl) bl13 (t := (.array .byte)) (by decide +kernel) rfl (g := (mkF m 54 #[.val (.ref a), .val (.ref b), .val (.int (Int32.ofNat o)), .val (.int (Int32.ofNat len)), .val .null, .val (.ref s.heap.size)] [.ref s.heap.size, .ref a])) rfl (rest := []) rfl (hb hbytes d54)
  have c16 : Steps p.tables e below (s₁.setTop (entryFrame m #[.ref a, .ref b, .int (Int32.ofNat o), .int (Int32.ofNat len), .null] 6)) (T15.setTop (mkF m 57 #[.val (.ref a), .val (.ref b), .val (.int (Int32.ofNat o)), .val (.int (Int32.ofNat len)), .val .null, .val (.ref s.heap.size)] [])) := c14.trans (st15 _ (Steps.refl _))
  have ap := apart (Or.inr ⟨_, (wk W (.laysFinal "java/lang/String" "java/lang/String" "value" "[B"))⟩) (Or.inr ⟨_, (wk W (.laysFinal "java/lang/String" "java/lang/String" "coder" "B"))⟩) f1 f2 (t₁ := .array .byte) (t₂ := .byte) (by decide +kernel) (by decide +kernel) (by decide)
  have al := X8.warmed.alike.symm.trans X15.warmed.alike
  have n7 : T11.heap[s.heap.size]? = some N := by rw [q11]; exact n1.1
  exact ⟨T15, none, _, _, _, X15, by simp, rfl, by omega, (fun _ => rfl), ⟨rfl, _, N, bl15, ((Same.refl D _).set _ (by simp)).set _ (by simp), sl15, (Cell.slots_setSlot_ne _ ap).trans sl13, n1.keep al (p15.other hne (p13.other hne n7)), n2, by rw [al.findClass]; exact n3, n4, n5, fun y c h1 h2 => p15.other h1 (p13.other h1 (by rw [q11]; exact n6 y c h2)), by rw [p15.2.2, p13.2.2, q11]; exact z8⟩, fun fs hl => c16.trans (X15.returnOut hexec hret (hb hbytes d57) hl)⟩
end New4
namespace New1
def yN : MethodName := ⟨"java/lang/String", "<init>", "([C)V"⟩
abbrev yB : ByteArray := jdk_42_method_3_code
theorem d0 : decode yB 0 = .ok (.aload_n 0, 1) := by decide +kernel
theorem d1 : decode yB 1 = .ok (.aload_n 1, 1) := by decide +kernel
theorem d2 : decode yB 2 = .ok (.iconst 0, 1) := by decide +kernel
theorem d3 : decode yB 3 = .ok (.aload_n 1, 1) := by decide +kernel
theorem d4 : decode yB 4 = .ok (.arraylength, 1) := by decide +kernel
theorem d5 : decode yB 5 = .ok (.aconst_null, 1) := by decide +kernel
theorem d6 : decode yB 6 = .ok (.invokespecial 27, 3) := by decide +kernel
theorem d9 : decode yB 9 = .ok (.return_, 1) := by decide +kernel
def site : List Cond := [New4.tab] ++ initW "java/lang/String" 27 New4.yN
def tab : Cond := tabOf yN yB 2 none site
def P (a : Addr) (D : Cell) (fV fC : Field) (b : Addr) (A : Cell) (z : Int32) (args : Array Value) (s : State) : Prop := args = #[.ref a, .ref b] ∧ Blank "java/lang/String" a D s ∧ Found "java/lang/String" "value" "[B" fV s ∧ Found "java/lang/String" "coder" "B" fC s ∧ Ch b A s ∧ StaticIs s "java/lang/String" "COMPACT_STRINGS" "Z" (.int z) ∧ ¬ z = 0 ∧ 0 < A.slots.size ∧ A.slots.size ≤ 536870912 ∧ ∀ i, i < A.slots.size → ¬ 255 < cv A i
def E (a : Addr) (D : Cell) (fV fC : Field) (A : Cell) (r : Option Value) (s u : State) : Prop := Got a D fV fC A 0 A.slots.size r s u
/-- new String(chars), not empty, no char above 255: a Latin-1 String of their low bytes -/
theorem law (l : Launch) (a : Addr) (D : Cell) (fV fC : Field) (b : Addr) (A : Cell) (z : Int32) : Law l yN 2 1 3 52 yB 2 none site (P a D fV fC b A z) (E a D fV fC A) [⟨a, fC.slot⟩, ⟨a, fV.slot⟩] 1 A.slots.size := by
  refine Law.of_walk (plainFor_of_name (by decide +kernel)) (by decide +kernel) (by decide +kernel) (by decide) (fun _ _ h => by rw [h.1]; rfl) (fun _ U U' hal hh h => ⟨h.1, h.2.1.mv hal hh, h.2.2.1.al hal, h.2.2.2.1.al hal, h.2.2.2.2.1.mv hal hh, h.2.2.2.2.2.1.there hal hh, h.2.2.2.2.2.2⟩) (fun r U U' V V' h1 hal h2 h => Got.mv r U U' V V' h1 hal h2 h) ?_
  intro p e s m args below meth c s₁ X0 hexec hbytes hml hret hlk hnm hown hh0 W hP
  obtain ⟨rfl, hB, f1, f2, hA, s1, hz, l0, l2, hp⟩ := hP
  have c1 : Steps p.tables e below (s₁.setTop (entryFrame m #[.ref a, .ref b] 2)) (s₁.setTop (mkF m 0 #[.val (.ref a), .val (.ref b)] [])) := entry rfl
  have c2 : Steps p.tables e below (s₁.setTop (entryFrame m #[.ref a, .ref b] 2)) (s₁.setTop (mkF m 6 #[.val (.ref a), .val (.ref b)] [.null, .int (Int32.ofNat A.slots.size), .int 0, .ref b, .ref a])) := c1.trans (by
    refine XS.aloadN X0.here hexec rfl (hb hbytes d0) rfl rfl ?_
    refine XS.aloadN X0.here hexec rfl (hb hbytes d1) rfl rfl ?_
    refine iconstV X0.here hexec rfl 0 (hb hbytes d2) (by decide) ?_
    refine XS.aloadN X0.here hexec rfl (hb hbytes d3) rfl rfl ?_
    refine X0.alen hexec (hA.1.mv X0.warmed.alike hh0) rfl rfl (hb hbytes d4) ?_
    refine XS.aconstNull X0.here hexec rfl (hb hbytes d5) ?_
    exact Steps.refl _)
  obtain ⟨v3, T3, X3, E3, g3⟩ := X0.callN hexec (New4.law l a D fV fC b A z 0 A.slots.size) rfl hown (wks W (initW "java/lang/String" 27 New4.yN)) (W New4.tab (by simp only [site, List.mem_cons, List.mem_append, true_or, or_true])) (W := 0) (Nat.le_of_ble_eq_true rfl) (Nat.le_of_ble_eq_true rfl) (Nat.le_refl _) (by show 0 + A.slots.size ≤ A.slots.size; omega) (g := (mkF m 6 #[.val (.ref a), .val (.ref b)] [.null, .int (Int32.ofNat A.slots.size), .int (Int32.ofNat 0), .ref b, .ref a])) rfl (by rw [hml]; rfl) c2 (argsL := [.ref b, .int (Int32.ofNat 0), .int (Int32.ofNat A.slots.size), .null]) (rest := []) rfl rfl (by show 2 * 0 + 0 ≤ _; decide) (hb hbytes d6) (⟨rfl, hB.mv X0.warmed.alike hh0, f1.al X0.warmed.alike, f2.al X0.warmed.alike, hA.mv X0.warmed.alike hh0, s1.there X0.warmed.alike hh0, hz, l0, by omega, l2, fun i hi => by rw [Nat.zero_add]; exact hp i hi⟩)
  have e0 := Got.mv _ s₁ s _ _ hh0.symm (Vm.Alike.refl _) rfl E3
  obtain rfl := e0.1
  have c4 : Steps p.tables e below (s₁.setTop (entryFrame m #[.ref a, .ref b] 2)) (T3.setTop (mkF m 9 #[.val (.ref a), .val (.ref b)] [])) := g3
  exact ⟨T3, none, _, _, _, X3, by simp, rfl, by omega, (fun _ => rfl), e0, fun fs hl => c4.trans (X3.returnOut hexec hret (hb hbytes d9) hl)⟩
theorem pays {l : Launch} {R : Room} {p : Program} {e : Env} {below : List Frame} {s : State} {sargs : Array Value} {len W : Nat} (a : Addr) (D : Cell) (fV fC : Field) (b : Addr) (A : Cell) (z : Int32) (htab : tab.before sargs s = true) (hfr : 4 ≤ R.frames) (hlo : W + 65 ≤ R.locals) :
    Back l R p e below s sargs yN len W (fun A₁ a₁ => A₁.cells + 1 ≤ R.cells ∧ A₁.slots + A.slots.size ≤ R.slots ∧ P a D fV fC b A z a₁ A₁.U) (fun A₁ _ v₁ B₁ => E a D fV fC A v₁ A₁.U B₁.U ∧ B₁.locs = A₁.locs ++ [⟨a, fC.slot⟩, ⟨a, fV.slot⟩] ∧ B₁.cells = A₁.cells + 1 ∧ B₁.slots = A₁.slots + A.slots.size) :=
  (law l a D fV fC b A z).pays htab hfr (by omega)
end New1
end StrChars
namespace StrChars.Road
open Jvm Sem ClassFile Op Lib Jvm.Stand Jvm.Free Jvm.Free.XT
open Jvm.Lib.Cold (StaticIs)
abbrev ST : String := "java/lang/String"
/-- every table word that New1's law asks, flat -/
abbrev words : List Jvm.Cond := [.code New1.yN New1.yB 2 none, .initialized ST, .methodLink ST 27 New4.yN, .instanceMethod New4.yN,
  .code New4.yN New4.yB 6 none, .fieldLink ST 38 ST "COMPACT_STRINGS" "Z", .laysFinal ST ST "value" "[B", .fieldLink ST 9 ST "value" "[B", .laysFinal ST ST "coder" "B", .fieldLink ST 15 ST "coder" "B",
  .methodLink ST 1 Lib.objectInit, .instanceMethod Lib.objectInit, .code Lib.objectInit ⟨#[0xb1]⟩ 1 none, .methodLink ST 177 Cmp3.yN, .static Cmp3.yN, .methodLink ST 47 CodL.yN, .static CodL.yN,
  .code Cmp3.yN Cmp3.yB 6 (some (.array .byte)), .initialized U16, .arrayClass .byte, .methodLink U16 115 Cmp5.yN, .static Cmp5.yN, .code Cmp5.yN Cmp5.yB 7 (some .int), .code CodL.yN CodL.yB 2 (some .byte)]
theorem tab_of {a : Array Value} {s : State} (h : ∀ w ∈ words, w.before a s = true) : New1.tab.before a s = true := by
  have h5 : Cmp5.tab.before a s = true := unparts (wk h (.code Cmp5.yN Cmp5.yB 7 (some .int))) (wks h (.initialized Cmp5.yN.cls :: Cmp5.site))
  have hc : CodL.tab.before a s = true := unparts (wk h (.code CodL.yN CodL.yB 2 (some .byte))) (wks h (.initialized CodL.yN.cls :: CodL.site))
  have q5 : ∀ w ∈ Cmp5.tab :: words, w.before a s = true := fun w hw => (List.mem_cons.mp hw).elim (fun e => e ▸ h5) (h w)
  have h3 : Cmp3.tab.before a s = true := unparts (wk q5 (.code Cmp3.yN Cmp3.yB 6 (some (.array .byte)))) (wks q5 (.initialized Cmp3.yN.cls :: Cmp3.site))
  have q3 : ∀ w ∈ Cmp3.tab :: CodL.tab :: words, w.before a s = true := fun w hw => (List.mem_cons.mp hw).elim (fun e => e ▸ h3) fun hw => (List.mem_cons.mp hw).elim (fun e => e ▸ hc) (h w)
  have h4 : New4.tab.before a s = true := unparts (wk q3 (.code New4.yN New4.yB 6 none)) (wks q3 (.initialized New4.yN.cls :: New4.site))
  have q4 : ∀ w ∈ New4.tab :: words, w.before a s = true := fun w hw => (List.mem_cons.mp hw).elim (fun e => e ▸ h4) (h w)
  exact unparts (wk q4 (.code New1.yN New1.yB 2 none)) (wks q4 (.initialized New1.yN.cls :: New1.site))
/-- the words ride from the start Z to the walk's own state -/
theorem moved {Z s : State} {a0 args : Array Value} (hZ : Z.Warmed39 s.vm) (hw : ∀ d ∈ words, d.before a0 Z = true) : ∀ d ∈ words, d.before args s = true := fun d hd => by
  have q := hw d hd
  have t : ∀ d ∈ words, d = .arrayClass .byte ∨ (d.onTables && d.keepsFace) = true := by decide +kernel
  rcases t d hd with rfl | t
  · exact RoadKit.mvA hZ q
  · exact RoadKit.mv hZ q t
/-- WHAT COMES BACK, over the tables of the start Z: h the heap at the call, h' behind it -/
def Q (Z : State) (x : Addr) (A : Cell) (h : Heap) (v : Option Value) (h' : Heap) (L : List Loc) : Prop := v = none ∧ (∀ y ∈ L, y.base = x) ∧ RoadKit.Keep h h' [x] ∧ h'.size = h.size + 1 ∧ RoadKit.Exa Z h' x ST ∧ RoadKit.Fld Z h' x ST "value" "[B" (.ref h.size) ∧ RoadKit.Fld Z h' x ST "coder" "B" (.int 0) ∧
  (∃ V : Cell, RoadKit.Arr Z h' h.size V .byte ∧ V.vm = .none ∧ Z.vm.findClass "[B" = some V.cls ∧ V.slots.size = A.slots.size ∧ ∀ j, j < A.slots.size → V.slots[j]? = some (.int (lo8 (cv A j)))) ∧
  ∀ (O n d : String) (w : Value), RoadKit.Fld Z h x O n d w → RoadKit.slotOf Z O n d ≠ RoadKit.slotOf Z ST "value" "[B" → RoadKit.slotOf Z O n d ≠ RoadKit.slotOf Z ST "coder" "B" → RoadKit.Fld Z h' x O n d w
/-- **new String(chars) AT A CALL, IN THE ROAD'S FORM**: for specialBack behind newO: x the fresh String, b the char[] with the cell A -/
theorem back {p : Program} {l : Launch} {e : Env} {R : Room} {s : State} {args : Array Value} {below : List Frame} {len W : Nat} {Z : State} {a0 : Array Value} {h : Heap} (hZ : Z.Warmed39 s.vm) (hw : ∀ d ∈ words, d.before a0 Z = true) {kI : Nat} (wi : (Jvm.Cond.instantiable ST kI).before a0 Z = true)
    {x b : Addr} {A : Cell} {z : Int32} {v0 c0 : Value} (E : RoadKit.Exa Z h x ST) (V : RoadKit.Fld Z h x ST "value" "[B" v0) (C : RoadKit.Fld Z h x ST "coder" "B" c0) (K : RoadKit.Arr Z h b A .char) (hty : Typed .char A) (S : RoadKit.Sta Z h ST "COMPACT_STRINGS" "Z" (.int z)) (hz : ¬ z = 0)
    (l0 : 0 < A.slots.size) (l2 : A.slots.size ≤ 536870912) (hp : ∀ i, i < A.slots.size → ¬ 255 < cv A i) (hfr : 4 ≤ R.frames) (hlo : W + 65 ≤ R.locals) :
    Back l R p e below s args New1.yN len W (fun P a => a = #[.ref x, .ref b] ∧ P.U.heap = h ∧ P.cells + 1 ≤ R.cells ∧ P.slots + A.slots.size ≤ R.slots)
      (fun P _ v B => ∃ L, Q Z x A h v B.U.heap L ∧ B.locs = P.locs ++ L ∧ B.cells = P.cells + 1 ∧ B.slots = P.slots + A.slots.size) := by
  intro m meth c P g ig mk a X hg hsize hdg hW hn hp'
  obtain ⟨rfl, rfl, r1, r2⟩ := hp'
  have al : Z.vm.Alike P.U.vm := hZ.alike.trans X.warmed.alike
  obtain ⟨D, cfV, kV, iV, fV, hD, gV, stV, knV, obV, asV, slV⟩ := id V
  obtain ⟨D', cfC, kC, iC, fC, hD', gC, stC, -, -, asC, slC⟩ := id C
  cases hD.symm.trans hD'
  obtain ⟨D2, kD, e1, e2, e3, e4, e5⟩ := id E
  cases hD.symm.trans e1
  obtain ⟨c2, k2, i1, i2, i3, -⟩ := Cond.instantiable_spec wi
  cases e2.symm.trans i1
  cases e3.symm.trans i2
  obtain ⟨kU, u1, u2⟩ := al.2.2 _ _ e3
  have hB : Blank ST x D P.U := ⟨hD, ⟨knV, fun q hq => by rw [hq] at obV; cases obV⟩, by rw [al.findClass]; exact e2, kU, u1, by rw [u2]; exact i3, by rw [u2]; exact e5 i3⟩
  have F1 : Found ST "value" "[B" fV P.U := ⟨SBG.found_only al ⟨cfV, kV, iV, gV⟩, stV⟩
  have F2 : Found ST "coder" "B" fC P.U := ⟨SBG.found_only al ⟨cfC, kC, iC, gC⟩, stC⟩
  have hA : Ch b A P.U := ⟨⟨K.1, State.isArrayOf_alike al K.2.1, K.2.2, by omega⟩, hty⟩
  have hS : StaticIs P.U ST "COMPACT_STRINGS" "Z" (.int z) := by
    obtain ⟨cfS, iS, kS, fS, st, cS, t1, t2, t3, t4, t5, t6, t7⟩ := S
    exact StaticIs.there (s := { Z with heap := P.U.heap }) ⟨cfS, iS, kS, fS, st, cS, t1, t2, t3, t4, t5, (fun q => by rw [q] at t6; cases t6), t7⟩ al rfl
  obtain ⟨v, B, X', ⟨⟨hv, E', V', q1, q2, q3, q4, q5, q6, q7, q8, q9, q10, q11⟩, hl, hc, hs⟩, st⟩ := New1.pays x D fV fC b A z (tab_of (moved hZ hw)) hfr hlo m meth c P g ig mk _ X hg hsize hdg hW hn ⟨r1, r2, rfl, hB, F1, F2, hA, hS, hz, l0, l2, hp⟩
  have al' : Z.vm.Alike B.U.vm := hZ.alike.trans X'.warmed.alike
  have hsz : E'.slots.size = D.slots.size := by
    obtain ⟨-, -, -, kB, w1, w2, w3⟩ := q1
    obtain ⟨kB', y1, y2⟩ := al'.2.2 _ _ e3
    rw [q2.2.1] at w1
    cases w1.symm.trans y1
    rw [w3, e5 i3, y2]
  refine ⟨v, B, X', ⟨_, ⟨hv, ?_, ⟨by omega, fun y cy hy hn' => q10 y cy (by simpa using hn') hy, fun y cy hy => ?_⟩, q11, ⟨E', _, q1.1, by rw [q2.2.1]; exact e2, by rw [q2.2.1]; exact e3, by rw [q2.1]; exact obV, fun _ => by rw [hsz]; exact e5 i3⟩,
    ⟨E', cfV, kV, iV, fV, q1.1, gV, stV, by rw [q2.1]; exact knV, by rw [q2.1]; exact obV, by rw [q2.2.1]; exact asV, q3⟩, ⟨E', cfC, kC, iC, fC, q1.1, gC, stC, by rw [q2.1]; exact knV, by rw [q2.1]; exact obV, by rw [q2.2.1]; exact asC, q4⟩,
    ⟨V', ⟨q5.1, State.isArrayOf_alike al'.symm q5.2.1, q5.2.2.1⟩, q6, by rw [← al'.findClass]; exact q7, q8, fun j hj => by have := q9 j hj; rwa [Nat.zero_add] at this⟩, fun O n d w F n1 n2 => ?_⟩, hl, hc, hs⟩, st⟩
  · intro y hy
    simp only [List.mem_cons, List.not_mem_nil, or_false] at hy
    rcases hy with rfl | rfl <;> rfl
  · by_cases q : y = x
    · subst q
      cases hD.symm.trans hy
      exact ⟨E', q1.1, q2.2.1, q2.1, hsz⟩
    · exact ⟨cy, q10 y cy q hy, rfl, rfl, rfl⟩
  · obtain ⟨D3, cf, k, i, f, g1, g2, g3, g4, g5, g6, g7⟩ := F
    cases hD.symm.trans g1
    simp only [RoadKit.slotOf, g2, gV, gC, Option.map_some, Option.getD_some] at n1 n2
    exact ⟨E', cf, k, i, f, q1.1, g2, g3, by rw [q2.1]; exact g4, by rw [q2.1]; exact g5, by rw [q2.2.1]; exact g6, by rw [q2.2.2 f.slot (by simp [n1, n2])]; exact g7⟩
end StrChars.Road
namespace StrChars.Road
open Jvm Sem ClassFile Op Lib Jvm.Stand Jvm.Free Jvm.Free.XT
/-- WHAT COMES BACK, the byte[] as a list of values -/
def QA (Z : State) (x : Addr) (zn : Int32) (cs : List Int32) (h : Heap) (v : Option Value) (h' : Heap) (L : List Loc) : Prop := v = none ∧ (∀ y ∈ L, y.base = x) ∧ RoadKit.Keep h h' [x] ∧ h'.size = h.size + 1 ∧ RoadKit.Exa Z h' x ST ∧ RoadKit.Fld Z h' x ST "value" "[B" (.ref h.size) ∧ RoadKit.Fld Z h' x ST "coder" "B" (.int 0) ∧
  (∃ kb, Z.vm.findClass "[B" = some kb ∧ RoadKit.Arv Z h' h.size kb .byte zn (cs.map fun c => .int (lo8 c)) (.int 0)) ∧
  ∀ (O n d : String) (w : Value), RoadKit.Fld Z h x O n d w → RoadKit.slotOf Z O n d ≠ RoadKit.slotOf Z ST "value" "[B" → RoadKit.slotOf Z O n d ≠ RoadKit.slotOf Z ST "coder" "B" → RoadKit.Fld Z h' x O n d w
/-- **new String(chars) AT A CALL, THE ARRAYS AS LISTS**: the char[] at b holds cs, not empty, no char above 255 -/
theorem backArv {p : Program} {l : Launch} {e : Env} {R : Room} {s : State} {args : Array Value} {below : List Frame} {len W : Nat} {Z : State} {a0 : Array Value} {h : Heap} (hZ : Z.Warmed39 s.vm) (hw : ∀ d ∈ words, d.before a0 Z = true) {kI : Nat} (wi : (Jvm.Cond.instantiable ST kI).before a0 Z = true)
    {x b : Addr} {k : ClassId} {zn z : Int32} {cs : List Int32} {dv v0 c0 : Value} (E : RoadKit.Exa Z h x ST) (V : RoadKit.Fld Z h x ST "value" "[B" v0) (C : RoadKit.Fld Z h x ST "coder" "B" c0) (K : RoadKit.Arv Z h b k .char zn (cs.map Value.int) dv) (S : RoadKit.Sta Z h ST "COMPACT_STRINGS" "Z" (.int z)) (hz : ¬ z = 0)
    (hlen : zn.toNatClampNeg = cs.length) (h0 : 0 < cs.length) (hbig : cs.length ≤ 536870912) (hall : ∀ c ∈ cs, ¬ 255 < c) (hfr : 4 ≤ R.frames) (hlo : W + 65 ≤ R.locals) :
    Back l R p e below s args New1.yN len W (fun P a => a = #[.ref x, .ref b] ∧ P.U.heap = h ∧ P.cells + 1 ≤ R.cells ∧ P.slots + cs.length ≤ R.slots)
      (fun P _ v B => ∃ L, QA Z x zn cs h v B.U.heap L ∧ B.locs = P.locs ++ L ∧ B.cells = P.cells + 1 ∧ B.slots = P.slots + cs.length) := by
  obtain ⟨A, K1, K2, K3, K4, K5, K6⟩ := K
  have e : A.slots.size = cs.length := K3.trans hlen
  have hat : ∀ (i : Nat) (hi : i < cs.length), A.slots[i]? = some (.int cs[i]) := fun i hi => by rw [K5 i (by omega)]; simp [List.getD_eq_getElem?_getD, hi]
  have hcv : ∀ (i : Nat) (hi : i < cs.length), cv A i = cs[i] := fun i hi => by unfold cv; rw [hat i hi]
  have hty : Typed .char A := fun i v hv => by
    have hi : i < A.slots.size := (Array.getElem?_eq_some_iff.mp hv).1
    have q := K5 i hi
    rw [hv] at q
    rw [Option.some.inj q]
    exact K6 i hi
  refine Back.mono (back hZ hw wi E V C K1 hty S hz (by omega) (by omega) (fun i hi => by rw [hcv i (by omega)]; exact hall _ (List.getElem_mem _)) hfr hlo) (fun P a hp => ⟨hp.1, hp.2.1, hp.2.2.1, by rw [e]; exact hp.2.2.2⟩) (fun P a v B hp hq => ?_)
  obtain ⟨L, ⟨q1, q2, q3, q4, q5, q6, q7, ⟨V', v1, v2, v3, v4, v5⟩, q9⟩, hl, hc, hs⟩ := hq
  refine ⟨L, ⟨q1, q2, q3, q4, q5, q6, q7, ⟨V'.cls, v3, V', v1, rfl, by rw [v4, e, hlen], K4, fun i hi => ?_, fun i hi => ?_⟩, q9⟩, hl, hc, by rw [hs, e]⟩
  · have hi' : i < cs.length := by omega
    rw [v5 i (by omega), hcv i hi']; simp [List.getD_eq_getElem?_getD, hi']
  · have hi' : i < cs.length := by omega
    simp only [List.getD_eq_getElem?_getD, List.getElem?_map, List.getElem?_eq_getElem hi', Option.map_some, Option.getD_some]
    exact fits_lo8 _
end StrChars.Road
namespace StrChars.Road
open Jvm Sem ClassFile Op Lib Jvm.Stand Jvm.Free Jvm.Free.XT
/-- WHAT COMES BACK, in the writer's own shape -/
def QV (Z : State) (x : Addr) (N : Int32) (bs : List Int32) (h : Heap) (n0 : Nat) (v : Option Value) (h' : Heap) (L : List Loc) : Prop := v = none ∧ RoadKit.Fr n0 L ∧ RoadKit.Keep h h' [x] ∧ RoadKit.Exa Z h' x ST ∧ RoadKit.Fld Z h' x ST "coder" "B" (.int 0) ∧
  ∃ (t : Addr) (kb : ClassId), n0 ≤ t ∧ h.size ≤ t ∧ ¬ t = x ∧ RoadKit.Fld Z h' x ST "value" "[B" (.ref t) ∧ RoadKit.Arv Z h' t kb .byte N (bs.map Value.int) (.int 0)
/-- **new String(chars) AT A CALL, FOR THE WRITER**: a char[] of n known ints, each 0 to 255 -/
theorem backV {p : Program} {l : Launch} {e : Env} {R : Room} {s : State} {args : Array Value} {below : List Frame} {len W : Nat} {Z : State} {a0 : Array Value} {h : Heap} (hZ : Z.Warmed39 s.vm) (hw : ∀ d ∈ words, d.before a0 Z = true) {kI : Nat} (wi : (Jvm.Cond.instantiable ST kI).before a0 Z = true)
    {x b : Addr} {kC : ClassId} {cs bs : List Int32} {d v0 c0 : Value} {z N : Int32} {n n0 : Nat} (hx0 : n0 ≤ x) (hh0 : n0 ≤ h.size) (E : RoadKit.Exa Z h x ST) (V : RoadKit.Fld Z h x ST "value" "[B" v0) (C : RoadKit.Fld Z h x ST "coder" "B" c0) (K : RoadKit.Arv Z h b kC .char N (cs.map Value.int) d) (S : RoadKit.Sta Z h ST "COMPACT_STRINGS" "Z" (.int z)) (hz : ¬ z = 0)
    (hn : cs.length = n) (hN : N = Int32.ofNat n) (l0 : 0 < n) (l2 : n ≤ 4000) (hp : ∀ c ∈ cs, ¬ c < 0 ∧ ¬ (255 : Int32) < c) (hb : bs = cs.map (fun c => c.toInt8.toInt32)) (hfr : 4 ≤ R.frames) (hlo : W + 65 ≤ R.locals) :
    Back l R p e below s args (⟨"java/lang/String", "<init>", "([C)V"⟩ : MethodName) len W (fun P a => a = #[.ref x, .ref b] ∧ P.U.heap = h ∧ P.cells + 1 ≤ R.cells ∧ P.slots + n ≤ R.slots)
      (fun P _ v B => ∃ L, QV Z x N bs h n0 v B.U.heap L ∧ B.locs = P.locs ++ L ∧ B.cells = P.cells + 1 ∧ B.slots = P.slots + n) := by
  subst hn hN hb
  refine Back.mono (backArv hZ hw wi E V C K S hz (n32 (by omega)) l0 (by omega) (fun c hc => (hp c hc).2) hfr hlo) (fun P a hp => hp) (fun P a v B hp hq => ?_)
  obtain ⟨L, ⟨q1, q2, q3, q4, q5, q6, q7, ⟨kb, v1, v2⟩, q9⟩, hl, hc, hs⟩ := hq
  exact ⟨L, ⟨q1, fun y hy => by rw [q2 y hy]; exact hx0, q3, q5, q7, h.size, kb, hh0, Nat.le_refl _, Nat.ne_of_gt E.lt, q6, by rw [List.map_map]; exact v2⟩, hl, hc, hs⟩
end StrChars.Road
namespace StrChars
open Jvm Sem ClassFile Op Lib Jvm.Stand Jvm.Free.XT Jvm.Free.ALB Jvm.Free.JM Jvm.Free
open Jvm.Lib.Cold (StaticIs)
def hi8 (x : Int32) : Int32 := lo8 (x >>> ((8 : Int32) &&& 31))
end StrChars
namespace StrChars.Road
open Jvm Sem ClassFile Op Lib Jvm.Stand Jvm.Free Jvm.Free.XT
open Jvm.Lib.Cold (StaticIs)
/-- the bytes of the chars cs, low before high -/
def wideBytes : List Int32 → List Value
  | [] => []
  | c :: cs => .int (lo8 c) :: .int (hi8 c) :: wideBytes cs
/-- an array of N2 bytes vs codes the chars cs by the coder cd -/
def CodA (cs : List Int32) (cd N2 : Int32) (vs : List Value) : Prop := (cd = 0 ∧ N2 = Int32.ofNat cs.length ∧ vs = (cs.map fun c => Value.int (lo8 c)) ∧ ∀ c ∈ cs, ¬ 255 < c) ∨ (cd = 1 ∧ N2 = Int32.ofNat (2 * cs.length) ∧ vs = wideBytes cs ∧ ∃ c ∈ cs, 255 < c)
end StrChars.Road
namespace StrChars.Road
open Jvm Sem ClassFile Op Lib Jvm.Stand Jvm.Free Jvm.Free.XT
open Jvm.Lib.Cold (StaticIs)
/-- what backV says of its String, as the contracts of this text ask it: cs's low bytes, coder 0 -/
theorem codOf {cs : List Int32} {n : Nat} (hn : cs.length = n) (hb : ∀ c ∈ cs, ¬ 255 < c) : CodA cs 0 (Int32.ofNat n) ((cs.map lo8).map Value.int) := Or.inl ⟨rfl, by rw [hn], by simp [List.map_map, Function.comp_def], hb⟩
end StrChars.Road
end Jvm.Pilot.@@N@@
namespace Jvm.Pilot.@@N@@
open Jvm Jvm.ClassFile Sem Op Lib Jvm.Free Jvm.Stand Jvm.LawKit Jvm.RoadKit Bundle Jvm.Pilot.@@N@@.Jvm.D
def own_G (p : Program) (e : Env) (below : List Frame) (F : Outcome → State → Prop) (U : State) : Prop :=
  ∃ s₂ o, Steps p.tables e below U s₂ ∧ s₂.status = .running ∧ Ended s₂ below o ∧ F o s₂
section Own
variable {p : Program} {l : Launch} {e : Env} {R : Room} {s : State} {m : MethodId} {args : Array Value} {below : List Frame} {meth : Method} {c : Code} {T : State} {locs : List Loc} {cells slots : Nat} {F F0 : Outcome → State → Prop} {U V : State}
theorem own_st (st : ∀ t, Steps p.tables e below V t → Steps p.tables e below U t) (h : own_G p e below F V) : own_G p e below F U := by
  obtain ⟨s₂, o, h1, h2⟩ := h
  exact ⟨s₂, o, st _ h1, h2⟩
theorem own_tr (st : Steps p.tables e below U V) (h : own_G p e below F V) : own_G p e below F U := by
  obtain ⟨s₂, o, h1, h2⟩ := h
  exact ⟨s₂, o, st.trans h1, h2⟩
theorem own_start (h : ∀ F : Outcome → State → Prop, (∀ o U, F0 o U → F o U) → own_G p e below F U) : ∃ s₂ o, Steps p.tables e below U s₂ ∧ s₂.status = .running ∧ Ended s₂ below o ∧ F0 o s₂ := h F0 fun _ _ q => q
theorem own_retV (X : Stand p l e R s m args below meth c T locs cells slots) (hx : p.tables.exec = Jvm.exec) (hlk : meth.locks = false) (hret : meth.sig.returnType = none) {pc : Nat} {Ls : Array Slot} (hd : decode c.code pc = .ok (.return_, 1)) {K N : Nat} (hc : cells ≤ K) (hs : slots ≤ N)
    (hF : ∀ U : State, U.heap = T.heap → FrameEnd s (.returned none) U locs K N → F (.returned none) U) : own_G p e below F (T.setTop (mkF m pc Ls [])) := by
  obtain ⟨fs, hr, hrun, hended, hW, hsame⟩ := X.leave (v := none) (fun _ => rfl) hlk
  exact ⟨_, _, X.returnOut hx hret hd hr, hrun, hended, hF _ rfl ⟨⟨_, rfl⟩, hW, hsame.mono hc hs⟩⟩
theorem own_retO (X : Stand p l e R s m args below meth c T locs cells slots) (hx : p.tables.exec = Jvm.exec) (hlk : meth.locks = false) {t : FieldType} (hret : meth.sig.returnType = some t) {w : Value} {i : Instr} (hn : narrow t w = w)
    (hi : (i = .ireturn ∧ (t = .int ∨ t = .boolean ∨ t = .byte ∨ t = .char ∨ t = .short) ∧ ∃ z, w = .int z) ∨ (i = .lreturn ∧ t = .long ∧ ∃ z, w = .long z) ∨ (i = .dreturn ∧ t = .double ∧ ∃ z, w = .double z) ∨ (i = .freturn ∧ t = .float ∧ ∃ z, w = .float z) ∨ (i = .areturn ∧ t.isReference = true ∧ w.isRef = true))
    {pc : Nat} {Ls : Array Slot} {rest : List Value} (hd : decode c.code pc = .ok (i, 1)) {K N : Nat} (hc : cells ≤ K) (hs : slots ≤ N)
    (hF : ∀ U : State, U.heap = T.heap → FrameEnd s (.returned (some w)) U locs K N → F (.returned (some w)) U) : own_G p e below F (T.setTop (mkF m pc Ls (w :: rest))) := by
  obtain ⟨fs, hr, hrun, hended, hW, hsame⟩ := X.leave (v := some w) (fun h => by rw [hret] at h; cases h) hlk
  exact ⟨_, _, retOut X hx hret hn hi hd hr, hrun, hended, hF _ rfl ⟨⟨_, rfl⟩, hW, hsame.mono hc hs⟩⟩
theorem own_retA (X : Stand p l e R s m args below meth c T locs cells slots) (hx : p.tables.exec = Jvm.exec) (hlk : meth.locks = false) {t : FieldType} (hret : meth.sig.returnType = some t) {w : Value} (ht : t.isReference = true) (hw : w.isRef = true)
    {pc : Nat} {Ls : Array Slot} {rest : List Value} (hd : decode c.code pc = .ok (.areturn, 1)) {K N : Nat} (hc : cells ≤ K) (hs : slots ≤ N)
    (hF : ∀ U : State, U.heap = T.heap → FrameEnd s (.returned (some w)) U locs K N → F (.returned (some w)) U) : own_G p e below F (T.setTop (mkF m pc Ls (w :: rest))) :=
  own_retO X hx hlk hret (by cases t <;> first | rfl | (simp [FieldType.isReference] at ht)) (Or.inr (Or.inr (Or.inr (Or.inr ⟨rfl, ht, hw⟩)))) hd hc hs hF
theorem own_retL (X : Stand p l e R s m args below meth c T locs cells slots) (hx : p.tables.exec = Jvm.exec) (hlk : meth.locks = false) (hret : meth.sig.returnType = some .long) {z : Int64}
    {pc : Nat} {Ls : Array Slot} {rest : List Value} (hd : decode c.code pc = .ok (.lreturn, 1)) {K N : Nat} (hc : cells ≤ K) (hs : slots ≤ N)
    (hF : ∀ U : State, U.heap = T.heap → FrameEnd s (.returned (some (.long z))) U locs K N → F (.returned (some (.long z))) U) : own_G p e below F (T.setTop (mkF m pc Ls (.long z :: rest))) :=
  own_retO X hx hlk hret rfl (Or.inr (Or.inl ⟨rfl, rfl, z, rfl⟩)) hd hc hs hF
theorem own_retI (X : Stand p l e R s m args below meth c T locs cells slots) (hx : p.tables.exec = Jvm.exec) (hlk : meth.locks = false) (hret : meth.sig.returnType = some .int) {z : Int32}
    {pc : Nat} {Ls : Array Slot} {rest : List Value} (hd : decode c.code pc = .ok (.ireturn, 1)) {K N : Nat} (hc : cells ≤ K) (hs : slots ≤ N)
    (hF : ∀ U : State, U.heap = T.heap → FrameEnd s (.returned (some (.int z))) U locs K N → F (.returned (some (.int z))) U) : own_G p e below F (T.setTop (mkF m pc Ls (.int z :: rest))) :=
  own_retO X hx hlk hret rfl (Or.inl ⟨rfl, Or.inl rfl, z, rfl⟩) hd hc hs hF
theorem own_retN (X : Stand p l e R s m args below meth c T locs cells slots) (hx : p.tables.exec = Jvm.exec) (hlk : meth.locks = false) {t : FieldType} (hret : meth.sig.returnType = some t) {z : Int32} (hn : narrow t (.int z) = .int z) (ht : t = .int ∨ t = .boolean ∨ t = .byte ∨ t = .char ∨ t = .short)
    {pc : Nat} {Ls : Array Slot} {rest : List Value} (hd : decode c.code pc = .ok (.ireturn, 1)) {K N : Nat} (hc : cells ≤ K) (hs : slots ≤ N)
    (hF : ∀ U : State, U.heap = T.heap → FrameEnd s (.returned (some (.int z))) U locs K N → F (.returned (some (.int z))) U) : own_G p e below F (T.setTop (mkF m pc Ls (.int z :: rest))) :=
  own_retO X hx hlk hret hn (Or.inl ⟨rfl, ht, z, rfl⟩) hd hc hs hF
theorem own_since (s : State) (n : Nat) : s.Since s.vm n := ⟨State.Warmed39.refl s, fun j q hj hq => absurd (Array.getElem?_eq_some_iff.mp hq).1 (Nat.not_lt.mpr hj)⟩
theorem own_retVW {vm₁ : Vm} (X : Stand p l e R (s.setVm vm₁) m args below meth c T locs cells slots) {n : Nat} (hS : s.Since vm₁ n) (hk : n ≤ T.heap.size) (hx : p.tables.exec = Jvm.exec) (hlk : meth.locks = false) (hret : meth.sig.returnType = none) {pc : Nat} {Ls : Array Slot} (hd : decode c.code pc = .ok (.return_, 1)) {K N : Nat} (hc : cells ≤ K) (hs : slots ≤ N)
    (hF : ∀ U : State, U.heap = T.heap → U.vm = T.vm → ReturnedEndW s (.returned none) U locs K N → F (.returned none) U) : own_G p e below F (T.setTop (mkF m pc Ls [])) := by
  obtain ⟨fs, hr, hrun, hended, h1, h2, h3, h4⟩ := X.leaveW hS hk (v := none) (fun _ => rfl) hlk
  exact ⟨_, _, X.returnOut hx hret hd hr, hrun, hended, hF _ rfl rfl ⟨h1, h2, h3, h4.mono hc hs⟩⟩
theorem own_retOW {vm₁ : Vm} (X : Stand p l e R (s.setVm vm₁) m args below meth c T locs cells slots) {n : Nat} (hS : s.Since vm₁ n) (hk : n ≤ T.heap.size) (hx : p.tables.exec = Jvm.exec) (hlk : meth.locks = false) {t : FieldType} (hret : meth.sig.returnType = some t) {w : Value} {i : Instr} (hn : narrow t w = w)
    (hi : (i = .ireturn ∧ (t = .int ∨ t = .boolean ∨ t = .byte ∨ t = .char ∨ t = .short) ∧ ∃ z, w = .int z) ∨ (i = .lreturn ∧ t = .long ∧ ∃ z, w = .long z) ∨ (i = .dreturn ∧ t = .double ∧ ∃ z, w = .double z) ∨ (i = .freturn ∧ t = .float ∧ ∃ z, w = .float z) ∨ (i = .areturn ∧ t.isReference = true ∧ w.isRef = true))
    {pc : Nat} {Ls : Array Slot} {rest : List Value} (hd : decode c.code pc = .ok (i, 1)) {K N : Nat} (hc : cells ≤ K) (hs : slots ≤ N)
    (hF : ∀ U : State, U.heap = T.heap → U.vm = T.vm → ReturnedEndW s (.returned (some w)) U locs K N → F (.returned (some w)) U) : own_G p e below F (T.setTop (mkF m pc Ls (w :: rest))) := by
  obtain ⟨fs, hr, hrun, hended, h1, h2, h3, h4⟩ := X.leaveW hS hk (v := some w) (fun h => by rw [hret] at h; cases h) hlk
  exact ⟨_, _, retOut X hx hret hn hi hd hr, hrun, hended, hF _ rfl rfl ⟨h1, h2, h3, h4.mono hc hs⟩⟩
theorem own_retAW {vm₁ : Vm} (X : Stand p l e R (s.setVm vm₁) m args below meth c T locs cells slots) {n : Nat} (hS : s.Since vm₁ n) (hk : n ≤ T.heap.size) (hx : p.tables.exec = Jvm.exec) (hlk : meth.locks = false) {t : FieldType} (hret : meth.sig.returnType = some t) {w : Value} (ht : t.isReference = true) (hw : w.isRef = true)
    {pc : Nat} {Ls : Array Slot} {rest : List Value} (hd : decode c.code pc = .ok (.areturn, 1)) {K N : Nat} (hc : cells ≤ K) (hs : slots ≤ N)
    (hF : ∀ U : State, U.heap = T.heap → U.vm = T.vm → ReturnedEndW s (.returned (some w)) U locs K N → F (.returned (some w)) U) : own_G p e below F (T.setTop (mkF m pc Ls (w :: rest))) :=
  own_retOW X hS hk hx hlk hret (by cases t <;> first | rfl | (simp [FieldType.isReference] at ht)) (Or.inr (Or.inr (Or.inr (Or.inr ⟨rfl, ht, hw⟩)))) hd hc hs hF
theorem own_retNW {vm₁ : Vm} (X : Stand p l e R (s.setVm vm₁) m args below meth c T locs cells slots) {n : Nat} (hS : s.Since vm₁ n) (hk : n ≤ T.heap.size) (hx : p.tables.exec = Jvm.exec) (hlk : meth.locks = false) {t : FieldType} (hret : meth.sig.returnType = some t) {z : Int32} (hn : narrow t (.int z) = .int z) (ht : t = .int ∨ t = .boolean ∨ t = .byte ∨ t = .char ∨ t = .short)
    {pc : Nat} {Ls : Array Slot} {rest : List Value} (hd : decode c.code pc = .ok (.ireturn, 1)) {K N : Nat} (hc : cells ≤ K) (hs : slots ≤ N)
    (hF : ∀ U : State, U.heap = T.heap → U.vm = T.vm → ReturnedEndW s (.returned (some (.int z))) U locs K N → F (.returned (some (.int z))) U) : own_G p e below F (T.setTop (mkF m pc Ls (.int z :: rest))) :=
  own_retOW X hS hk hx hlk hret hn (Or.inl ⟨rfl, ht, z, rfl⟩) hd hc hs hF
theorem own_cat {v : Value} (h : v.isRef = true) : v.category = 1 := by rcases ref_cases h with rfl | ⟨a, rfl⟩ <;> rfl
theorem own_fitR {v : Value} {C : String} (h : v.isRef = true) : fits (.object C) v = true := by rcases ref_cases h with rfl | ⟨a, rfl⟩ <;> rfl
theorem own_narR {v : Value} {C : String} : narrow (.object C) v = v := by cases v <;> rfl
theorem own_fitA {v : Value} {t : FieldType} (h : v.isRef = true) : fits (.array t) v = true := by rcases ref_cases h with rfl | ⟨a, rfl⟩ <;> rfl
theorem own_narA {v : Value} {t : FieldType} : narrow (.array t) v = v := by cases v <;> rfl
theorem own_narB {b : Int32} (h : b = 0 ∨ b = 1) : narrow .boolean (.int b) = .int b := by rcases h with rfl | rfl <;> rfl
theorem own_fitB {b : Int32} (h : b = 0 ∨ b = 1) : fits .boolean (.int b) = true := by rcases h with rfl | rfl <;> rfl
theorem own_arvSafe {Z : State} {EL : List (String × Nat)} {vm : Vm} {h : Heap} {x : Addr} {k : ClassId} {ty : FieldType} {n : Int32} {vs : List Value} {d : Value} (hal : Z.vm.Alike vm) (A : Arv Z h x k ty n vs d) (ht : ty ≠ .byte) : Safe Z EL vm h x := by
  obtain ⟨c, A, -⟩ := A
  exact Safe.arr hal A ht
end Own
theorem own_len {s : State} {args : Array Value} {t : Term} {x : Addr} {cl : Cell} {z : Int32} (ht : t.eval args s none [] s = some (.ref x)) (ha : s.arrayAt? x = some cl) (h : (Jvm.Cond.eq (.length t) (.int z)).value args s none s [] = some true) : cl.slots.size < 2 ^ 31 ∧ cl.slots.size.toInt32 = z := by
  obtain ⟨u, w, e1, e2, -, -⟩ := cmp_v (Or.inl h)
  obtain ⟨a', cl', q1, q2, q3⟩ := Term.length_spec e1
  cases ht.symm.trans q1
  cases ha.symm.trans q2
  subst q3
  refine ⟨?_, gotT (Cond.eq_ints e1 (Term.int_eval z)) h⟩
  by_cases hl : cl.slots.size < 2 ^ 31
  · exact hl
  · exfalso
    have e5 : (Term.length t).eval args s none [] s = none := by
      simp only [Term.eval, ht, ha, Option.bind_eq_bind, Option.bind_some, if_neg hl]
    rw [e5] at e1
    cases e1
def own_Lat (Z : State) (h : Heap) (x : Addr) (cs : List Int32) : Prop := ∃ (t : Addr) (kb : ClassId) (N2 : Int32) (vs : List Value), Exa Z h x "java/lang/String" ∧ Fld Z h x "java/lang/String" "value" "[B" (.ref t) ∧ Fld Z h x "java/lang/String" "coder" "B" (.int 0) ∧ Arv Z h t kb .byte N2 vs (.int 0) ∧ StrChars.Road.CodA cs 0 N2 vs ∧ (∀ c ∈ cs, ¬ c < 0 ∧ ¬ (65535 : Int32) < c) ∧ cs.length ≤ 4000
theorem own_Lat.ext {Z : State} {h h' : Heap} {x : Addr} {cs : List Int32} (F : own_Lat Z h x cs) (E : Ext h h') : own_Lat Z h' x cs := by
  obtain ⟨t, kb, N2, vs, h1, h2, h3, h4, r⟩ := F
  exact ⟨t, kb, N2, vs, h1.ext E, h2.ext E, h3.ext E, h4.ext E, r⟩
theorem own_Lat.keep0 {Z : State} {h h' : Heap} {x : Addr} {cs : List Int32} (F : own_Lat Z h x cs) (K : Keep h h' []) : own_Lat Z h' x cs := by
  obtain ⟨t, kb, N2, vs, h1, h2, h3, h4, r⟩ := F
  exact ⟨t, kb, N2, vs, h1.keep K, h2.keep K nin0, h3.keep K nin0, h4.keep K nin0, r⟩
theorem own_Lat.keep1 {Z : State} {a0 : Array Value} {h h' : Heap} {x y : Addr} {cs : List Int32} {C : String} {n : Nat} (F : own_Lat Z h x cs) (K : Keep h h' [y]) (E : Exa Z h y C) (hC : C ≠ "java/lang/String") (w : (Jvm.Cond.instantiable C n).before a0 Z = true) : own_Lat Z h' x cs := by
  obtain ⟨t, kb, N2, vs, h1, h2, h3, h4, r⟩ := F
  have n1 : x ≠ y := h1.ne E (Ne.symm hC)
  have n2 : t ≠ y := (E.neArv h4 w).symm
  exact ⟨t, kb, N2, vs, h1.keep K, h2.keep K (ninS n1 nin0), h3.keep K (ninS n1 nin0), h4.keep K (ninS n2 nin0), r⟩
theorem own_Lat.exa {Z : State} {h : Heap} {x : Addr} {cs : List Int32} (F : own_Lat Z h x cs) : Exa Z h x "java/lang/String" := by
  obtain ⟨t, kb, N2, vs, h1, r⟩ := F
  exact h1
theorem own_nb (x : Int32) : nar .byte x.toInt8.toInt32 = x.toInt8.toInt32 := by
  show (x.toInt8.toInt32).toInt8.toInt32 = _
  rw [Int8.toInt8_toInt32]
theorem own_fits_nb (x : Int32) : fits .byte (.int (nar .byte x)) = true := fits_nar_byte x
theorem own_m255 (x : Int32) : ¬ x &&& (255 : Int32) < 0 ∧ ¬ (255 : Int32) < x &&& (255 : Int32) := by
  have q := c_and x 255 (by decide)
  have e2 : (255 : Int32).toInt = 255 := by decide
  simp only [Int32.lt_iff_toInt_lt, Int32.reduceToInt]
  omega
theorem own_c255 (x : Int32) : nar .char (x &&& (255 : Int32)).toUInt32.toUInt16.toUInt32.toInt32 = x &&& (255 : Int32) := by
  show (x &&& (255 : Int32)).toUInt32.toUInt16.toUInt32.toInt32.toUInt32.toUInt16.toUInt32.toInt32 = _
  rw [i2c_mask, i2c_mask]
theorem own_nch {x : Int32} (h : ¬ x < 0 ∧ ¬ (255 : Int32) < x) : nar .char x = x := by
  have e := c_i2c x
  have a : (x.toUInt32.toUInt16.toUInt32.toInt32).toInt = x.toInt := by
    have h1 := h.1
    have h2 := h.2
    have e2 : (255 : Int32).toInt = 255 := by decide
    simp only [Int32.lt_iff_toInt_lt, Int32.reduceToInt] at h1 h2
    omega
  exact Int32.toInt_inj.mp a
theorem own_sub_words : ∀ d ∈ StrChars.Road.words, d ∈ tables_1 := by decide +kernel
abbrev own_EL : List (String × Nat) := consts_1
theorem own_hEL {Z : State} {a0 : Array Value} (hw : ∀ d ∈ tables_1, d.before a0 Z = true) : EW Z a0 own_EL := (EW.cons (hw _ (List.mem_of_getElem? (i := 81) rfl)) (by decide +kernel) EW.nil)
theorem own_wS {Z : State} {a0 : Array Value} (hw : ∀ d ∈ tables_1, d.before a0 Z = true) : ∀ a ∈ Bundle.stringAtoms, a.before a0 Z = true := fun d hd => hw d ((by decide +kernel : ∀ d ∈ Bundle.stringAtoms, d ∈ tables_1) d hd)
theorem own_safe_null {Z : State} {EL : List (String × Nat)} {vm : Vm} {h : Heap} {x : Addr} (hal : Z.vm.Alike vm) (E : Exa Z h x "java/lang/String") (F : Fld Z h x "java/lang/String" "value" "[B" .null) : Safe Z EL vm h x := fun B => by
  obtain ⟨cell, k, e1, e2, e3, -, -⟩ := E
  obtain ⟨p, -, u, a, -, q, -, G, rfl | rfl⟩ := B
  · obtain ⟨cell', cf, k', i, f, g1, g2, g3, -, -, -, g7⟩ := F
    cases (show h[q.sa]? = some q.sC from G.ha).symm.trans g1
    obtain ⟨cS, ⟨⟨-, -, -, ⟨c1, k1, i1, f1, -⟩, -, -, -, v1, -⟩, -⟩, -⟩ := G
    obtain ⟨k3, e3', -⟩ := State.fieldFound?_setVm (s := ({ Z with heap := h } : State)) hal g2
    have e4 := (show (Wst Z vm h).fieldFound? _ _ _ = _ from e3').symm.trans f1
    simp only [Option.some.injEq, Prod.mk.injEq] at e4
    rw [e4.2.2.2, v1] at g7
    cases g7
  · cases (show h[q.sd]? = some q.SA from G.hd).symm.trans e1
    obtain ⟨cS, -, -, f, -⟩ := G
    rw [show (Wst Z vm h).vm = vm from rfl, hal.findClass] at f
    exact ids_ne e2 f (by decide) rfl
theorem own_lat_nil {Z : State} {h : Heap} {x t : Addr} {kb : ClassId} (E : Exa Z h x "java/lang/String") (V : Fld Z h x "java/lang/String" "value" "[B" (.ref t)) (C : Fld Z h x "java/lang/String" "coder" "B" (.int 0)) (A : Arv Z h t kb .byte 0 [] (.int 0)) : own_Lat Z h x [] :=
  ⟨t, kb, 0, [], E, V, C, A, StrChars.Road.codOf (cs := []) rfl (fun _ q => nomatch q), ⟨(fun _ q => nomatch q), Nat.zero_le _⟩⟩
theorem d14_0 : decode jdk_42_method_149_code 0 = .ok (.aload_n 0, 1) := by decide +kernel
theorem d14_1 : decode jdk_42_method_149_code 1 = .ok (.invokespecial 1, 3) := by decide +kernel
theorem d14_4 : decode jdk_42_method_149_code 4 = .ok (.iload_n 3, 1) := by decide +kernel
theorem d14_5 : decode jdk_42_method_149_code 5 = .ok (.ifCond .ne 22, 3) := by decide +kernel
theorem d14_8 : decode jdk_42_method_149_code 8 = .ok (.aload_n 0, 1) := by decide +kernel
theorem d14_9 : decode jdk_42_method_149_code 9 = .ok (.ldc 7, 2) := by decide +kernel
theorem d14_11 : decode jdk_42_method_149_code 11 = .ok (.getfield 9, 3) := by decide +kernel
theorem d14_14 : decode jdk_42_method_149_code 14 = .ok (.putfield 9, 3) := by decide +kernel
theorem d14_17 : decode jdk_42_method_149_code 17 = .ok (.aload_n 0, 1) := by decide +kernel
theorem d14_18 : decode jdk_42_method_149_code 18 = .ok (.ldc 7, 2) := by decide +kernel
theorem d14_20 : decode jdk_42_method_149_code 20 = .ok (.getfield 15, 3) := by decide +kernel
theorem d14_23 : decode jdk_42_method_149_code 23 = .ok (.putfield 15, 3) := by decide +kernel
theorem d14_26 : decode jdk_42_method_149_code 26 = .ok (.return_, 1) := by decide +kernel
theorem own_pn_java_lang_String : plainName "java/lang/String" = true := by first | (simp [plainName, overriddenIn]; done) | decide +kernel
theorem own_ef_str4e (m : MethodId) (x0 : Addr) (x1 : Addr) (x2 : Int32) (x3 : Int32) : entryFrame m #[(.ref x0), (.ref x1), (.int x2), (.int x3), .null] 6 = mkF m 0 #[.val (.ref x0), .val (.ref x1), .val (.int x2), .val (.int x3), .val .null, .unset] [] := by first | (simp [entryFrame, mkF, argsToLocals, Value.category]; done) | rfl
def Q_str4e (Z : State) (x b : Addr) (u : Value) (h0 : Heap) (n0 : Nat) (v : Option Value) (h : Heap) (L : List Loc) : Prop := v = none ∧ Fr n0 L ∧ Keep h0 h [x] ∧ own_Lat Z h x []
set_option maxRecDepth 65536 in
set_option maxHeartbeats 40000000 in
theorem rm_str4e (l : Launch) (Z : State) (a0 : Array Value) (hw : ∀ d ∈ tables_1, d.before a0 Z = true) (ws : List Jvm.Cond) (x b : Addr) (u : Value) (h0 : Heap) (n0 : Nat) (Z0 : n0 ≤ h0.size) (E_x : Exa Z h0 x "java/lang/String") (F_value : Fld Z h0 x "java/lang/String" "value" "[B" .null) (F_coder : Fld Z h0 x "java/lang/String" "coder" "B" u) (g_x : n0 ≤ x) :
    MetFree l (⟨"java/lang/String", "<init>", "([CIILjava/lang/Void;)V"⟩ : MethodName) (head1 (Jvm.Cond.code (⟨"java/lang/String", "<init>", "([CIILjava/lang/Void;)V"⟩ : MethodName) jdk_42_method_149_code 6 none :: ws) ({ frames := 1, cells := 4, slots := 8, locals := 12 } : Room)) (fun a U => a = #[(.ref x), (.ref b), (.int (0 : Int32)), (.int (0 : Int32)), .null] ∧ Z.Warmed39 U.vm ∧ U.heap = h0 ∧ CHv Z own_EL U.vm h0) (fun _ _ _ _ _ => True) (fun _ U o U' => ∃ v L, o = .returned v ∧ Q_str4e Z x b u h0 n0 v U'.heap L ∧ CHr Z own_EL U.vm U.heap U'.vm U'.heap ∧ ReturnedEndW U o U' L ({ frames := 1, cells := 4, slots := 8, locals := 12 } : Room).cells ({ frames := 1, cells := 4, slots := 8, locals := 12 } : Room).slots) := by
  refine MetFree.of_bodySF (plainFor_of_name own_pn_java_lang_String) hisR ?_
  intro p e s m args below meth c s₁ Bd hml0 hP hK
  obtain ⟨rfl, hZ, hh, R⟩ := hP
  have hx := Bd.exec
  have hby := Bd.bytes
  have hml : c.maxLocals = 6 := hml0
  have hown : s.vm.findClass "java/lang/String" = some m.cls := findClass_of_methodNamed Bd.named
  have hnm := (name_of_methodNamed Bd.named Bd.method).1
  have X0 : Stand p l e ({ frames := 1, cells := 4, slots := 8, locals := 12 } : Room) (s.setVm s.vm) m #[(.ref x), (.ref b), (.int (0 : Int32)), (.int (0 : Int32)), .null] below meth c s₁ [] 0 0 := Stand.of_body Bd
  have e0 : s₁.heap = h0 := by rw [← hh, Bd.state]; rfl
  have N0 := Fr.nil n0
  have hZ : Z.Warmed39 (s.setVm s.vm).vm := hZ
  have hown : (s.setVm s.vm).vm.findClass "java/lang/String" = some m.cls := hown
  have hS0 := own_since s h0.size
  have hk0 : h0.size ≤ h0.size := Nat.le_refl _
  have R := CHr.refl R
  have hEL := own_hEL hw
  have wS := own_wS hw
  refine own_start (F0 := fun o U' => ∃ v L, o = .returned v ∧ Q_str4e Z x b u h0 n0 v U'.heap L ∧ CHr Z own_EL s.vm s.heap U'.vm U'.heap ∧ ReturnedEndW s o U' L ({ frames := 1, cells := 4, slots := 8, locals := 12 } : Room).cells ({ frames := 1, cells := 4, slots := 8, locals := 12 } : Room).slots) fun F hF => ?_
  rw [own_ef_str4e m x b (0 : Int32) (0 : Int32)]
  have K := Keep.refl h0 [x]
  have S_x : Safe Z own_EL s.vm h0 x := own_safe_null hZ.alike E_x F_value
  refine own_st (V := s₁.setTop (mkF m 1 #[.val (.ref x), .val (.ref b), .val (.int (0 : Int32)), .val (.int (0 : Int32)), .val .null, .unset] [(.ref x)])) (fun _ hk => XS.aloadN X0.here hx rfl (hb hby d14_0) rfl rfl hk) ?_
  obtain ⟨T1, X1, e1, st1⟩ := initO X0 hx hZ hown (hw _ (List.mem_of_getElem? (i := 68) rfl)) (hw _ (List.mem_of_getElem? (i := 12) rfl)) (hw _ (List.mem_of_getElem? (i := 13) rfl)) e0 (g := (mkF m 1 #[.val (.ref x), .val (.ref b), .val (.int (0 : Int32)), .val (.int (0 : Int32)), .val .null, .unset] [(.ref x)])) rfl (by rw [hml]; rfl) rfl (hb hby d14_1) (by decide) (W := 0) (by show 2 * 0 + _ ≤ _; exact Nat.le_of_eq rfl) (by decide)
  refine own_st (V := T1.setTop (mkF m 4 #[.val (.ref x), .val (.ref b), .val (.int (0 : Int32)), .val (.int (0 : Int32)), .val .null, .unset] [])) st1 ?_
  refine own_st (V := T1.setTop (mkF m 5 #[.val (.ref x), .val (.ref b), .val (.int (0 : Int32)), .val (.int (0 : Int32)), .val .null, .unset] [(.int (0 : Int32))])) (fun _ hk => XS.iloadN X1.here hx rfl (hb hby d14_4) rfl  hk) ?_
  refine own_st (V := T1.setTop (mkF m 8 #[.val (.ref x), .val (.ref b), .val (.int (0 : Int32)), .val (.int (0 : Int32)), .val .null, .unset] [])) (fun _ hk => XS.ifNo X1.here hx rfl (hb hby d14_5) rfl ((if0 _ _).trans (teq (show (0 : Int32) = (0 : Int32) from rfl)).2) hk) ?_
  refine own_st (V := T1.setTop (mkF m 9 #[.val (.ref x), .val (.ref b), .val (.int (0 : Int32)), .val (.int (0 : Int32)), .val .null, .unset] [(.ref x)])) (fun _ hk => XS.aloadN X1.here hx rfl (hb hby d14_8) rfl rfl hk) ?_
  obtain ⟨l1, T2, h2, k2, m1, kb2, X2, e2, E2, hS2, hk2, hZ2, hown2, E_l1, F_coder_l1, F_value_l1, V_m1, lt2, lu2, Cn2, Li2, Sf2, st2⟩ := ldcCH X1 hx hZ hown (hw _ (List.mem_of_getElem? (i := 81) rfl)) wS e1 hS0 hk0 hEL (by decide) R.1 (z := (0 : Int32)) (vs := []) ⟨by decide +kernel, rfl⟩ (by decide) (by decide +kernel) (g := (mkF m 9 #[.val (.ref x), .val (.ref b), .val (.int (0 : Int32)), .val (.int (0 : Int32)), .val .null, .unset] [(.ref x)])) rfl (hb hby d14_9) (n := 0) (by decide +kernel) (by decide) (by decide) (by decide)
  have S_x := CHr.safe Cn2 E_x.lt S_x
  have R := R.trans Cn2
  have E_x := E_x.ext E2
  have F_value := F_value.ext E2
  have F_coder := F_coder.ext E2
  have K := K.ext E2
  have Z0 : n0 ≤ h2.size := Nat.le_trans Z0 E2.1
  have ne_x_l1 := (Sf2 x S_x).1
  have ne_l1_x := Ne.symm ne_x_l1
  have ne_x_m1 := (Sf2 x S_x).2
  have ne_m1_x := Ne.symm ne_x_m1
  refine own_st (V := T2.setTop (mkF m 11 #[.val (.ref x), .val (.ref b), .val (.int (0 : Int32)), .val (.int (0 : Int32)), .val .null, .unset] [(.ref l1), (.ref x)])) st2 ?_
  obtain ⟨T3, X3, e3, st3⟩ := getF X2 hx hZ2 hown2 (host := "") (Or.inl (hw _ (List.mem_of_getElem? (i := 69) rfl))) Via.refl e2 F_value_l1 (g := (mkF m 11 #[.val (.ref x), .val (.ref b), .val (.int (0 : Int32)), .val (.int (0 : Int32)), .val .null, .unset] [(.ref l1), (.ref x)])) rfl rfl (hb hby d14_11)
  refine own_st (V := T3.setTop (mkF m 14 #[.val (.ref x), .val (.ref b), .val (.int (0 : Int32)), .val (.int (0 : Int32)), .val .null, .unset] [(.ref m1), (.ref x)])) st3 ?_
  obtain ⟨T4, h4, X4, e4, W4, st4⟩ := putF X3 hx hZ2 hown2 (host := "") (Or.inl (hw _ (List.mem_of_getElem? (i := 69) rfl))) Via.refl e3 F_value E_x (Or.inr ⟨(hw _ (List.mem_of_getElem? (i := 70) rfl)), rfl, hnm⟩) (hw _ (List.mem_of_getElem? (i := 59) rfl)) (ty := (.array .byte)) (by decide) rfl rfl (g := (mkF m 14 #[.val (.ref x), .val (.ref b), .val (.int (0 : Int32)), .val (.int (0 : Int32)), .val .null, .unset] [(.ref m1), (.ref x)])) rfl rfl (hb hby d14_14)
  have Sa := S_x
  have S_x := Safe.wr W4 Sa R.1 S_x
  have R := R.trans (CHr.wr W4 Sa R.1)
  have E_x := E_x.wr W4
  have F_coder := F_coder.other W4 (Or.inr (slot_ne (Or.inr (hw _ (List.mem_of_getElem? (i := 72) rfl))) (Or.inr (hw _ (List.mem_of_getElem? (i := 70) rfl))) (by decide) (t := .byte) (t' := (.array .byte)) (by decide) (by decide)))
  have V_m1 := V_m1.other W4 ne_m1_x
  have F_value := F_value.same W4
  have K := K.wr W4 (Or.inl (List.mem_of_getElem? (i := 0) rfl))
  have N4 := Fr.snoc X4 N0 g_x
  have Z0 : n0 ≤ h4.size := Nat.le_trans Z0 (Keep.of_wr W4).1
  have hk2 := Nat.le_trans hk2 (Keep.of_wr W4).1
  refine own_st (V := T4.setTop (mkF m 17 #[.val (.ref x), .val (.ref b), .val (.int (0 : Int32)), .val (.int (0 : Int32)), .val .null, .unset] [])) st4 ?_
  refine own_st (V := T4.setTop (mkF m 18 #[.val (.ref x), .val (.ref b), .val (.int (0 : Int32)), .val (.int (0 : Int32)), .val .null, .unset] [(.ref x)])) (fun _ hk => XS.aloadN X4.here hx rfl (hb hby d14_17) rfl rfl hk) ?_
  obtain ⟨l2, T5, h5, k5, m2, kb5, X5, e5, E5, hS5, hk5, hZ5, hown5, E_l2, F_coder_l2, F_value_l2, V_m2, lt5, lu5, Cn5, Li5, Sf5, st5⟩ := ldcCH X4 hx hZ2 hown2 (hw _ (List.mem_of_getElem? (i := 81) rfl)) wS e4 hS2 hk2 hEL (by decide) R.1 (z := (0 : Int32)) (vs := []) ⟨by decide +kernel, rfl⟩ (by decide) (by decide +kernel) (g := (mkF m 18 #[.val (.ref x), .val (.ref b), .val (.int (0 : Int32)), .val (.int (0 : Int32)), .val .null, .unset] [(.ref x)])) rfl (hb hby d14_18) (n := 0) (by decide +kernel) (by decide) (by decide) (by decide)
  have S_x := CHr.safe Cn5 E_x.lt S_x
  have R := R.trans Cn5
  have E_x := E_x.ext E5
  have F_value := F_value.ext E5
  have F_coder := F_coder.ext E5
  have V_m1 := V_m1.ext E5
  have K := K.ext E5
  have Z0 : n0 ≤ h5.size := Nat.le_trans Z0 E5.1
  have ne_x_l2 := (Sf5 x S_x).1
  have ne_l2_x := Ne.symm ne_x_l2
  have ne_x_m2 := (Sf5 x S_x).2
  have ne_m2_x := Ne.symm ne_x_m2
  refine own_st (V := T5.setTop (mkF m 20 #[.val (.ref x), .val (.ref b), .val (.int (0 : Int32)), .val (.int (0 : Int32)), .val .null, .unset] [(.ref l2), (.ref x)])) st5 ?_
  obtain ⟨T6, X6, e6, st6⟩ := getF X5 hx hZ5 hown5 (host := "") (Or.inl (hw _ (List.mem_of_getElem? (i := 71) rfl))) Via.refl e5 F_coder_l2 (g := (mkF m 20 #[.val (.ref x), .val (.ref b), .val (.int (0 : Int32)), .val (.int (0 : Int32)), .val .null, .unset] [(.ref l2), (.ref x)])) rfl rfl (hb hby d14_20)
  refine own_st (V := T6.setTop (mkF m 23 #[.val (.ref x), .val (.ref b), .val (.int (0 : Int32)), .val (.int (0 : Int32)), .val .null, .unset] [(.int (0 : Int32)), (.ref x)])) st6 ?_
  obtain ⟨T7, h7, X7, e7, W7, st7⟩ := putF X6 hx hZ5 hown5 (host := "") (Or.inl (hw _ (List.mem_of_getElem? (i := 71) rfl))) Via.refl e6 F_coder E_x (Or.inr ⟨(hw _ (List.mem_of_getElem? (i := 72) rfl)), rfl, hnm⟩) (hw _ (List.mem_of_getElem? (i := 59) rfl)) (ty := .byte) (by decide) rfl rfl (g := (mkF m 23 #[.val (.ref x), .val (.ref b), .val (.int (0 : Int32)), .val (.int (0 : Int32)), .val .null, .unset] [(.int (0 : Int32)), (.ref x)])) rfl rfl (hb hby d14_23)
  have Sa := S_x
  have S_x := Safe.wr W7 Sa R.1 S_x
  have R := R.trans (CHr.wr W7 Sa R.1)
  have E_x := E_x.wr W7
  have F_value := F_value.other W7 (Or.inr (slot_ne (Or.inr (hw _ (List.mem_of_getElem? (i := 70) rfl))) (Or.inr (hw _ (List.mem_of_getElem? (i := 72) rfl))) (by decide) (t := (.array .byte)) (t' := .byte) (by decide) (by decide)))
  have V_m1 := V_m1.other W7 ne_m1_x
  have F_coder := F_coder.same W7
  have K := K.wr W7 (Or.inl (List.mem_of_getElem? (i := 0) rfl))
  have N7 := Fr.snoc X7 N4 g_x
  have Z0 : n0 ≤ h7.size := Nat.le_trans Z0 (Keep.of_wr W7).1
  have hk5 := Nat.le_trans hk5 (Keep.of_wr W7).1
  refine own_st (V := T7.setTop (mkF m 26 #[.val (.ref x), .val (.ref b), .val (.int (0 : Int32)), .val (.int (0 : Int32)), .val .null, .unset] [])) st7 ?_
  exact own_retVW X7 hS5 (by rw [e7]; exact hk5) hx Bd.notSynchronized Bd.returns (hb hby d14_26) (by decide) (by decide) (fun U hU hV hE => hF _ _ ⟨_, _, rfl, (by rw [hU, e7]; exact ⟨rfl, N7, K, own_lat_nil E_x F_value F_coder V_m1⟩), (by rw [hh, hV, hU, e7]; exact R.trans (CHv.at X7 hZ5 hEL R.1)), hE⟩)
theorem d13_0 : decode jdk_42_method_3_code 0 = .ok (.aload_n 0, 1) := by decide +kernel
theorem d13_1 : decode jdk_42_method_3_code 1 = .ok (.aload_n 1, 1) := by decide +kernel
theorem d13_2 : decode jdk_42_method_3_code 2 = .ok (.iconst 0, 1) := by decide +kernel
theorem d13_3 : decode jdk_42_method_3_code 3 = .ok (.aload_n 1, 1) := by decide +kernel
theorem d13_4 : decode jdk_42_method_3_code 4 = .ok (.arraylength, 1) := by decide +kernel
theorem d13_5 : decode jdk_42_method_3_code 5 = .ok (.aconst_null, 1) := by decide +kernel
theorem d13_6 : decode jdk_42_method_3_code 6 = .ok (.invokespecial 27, 3) := by decide +kernel
theorem own_pd0 : parseMethodDescriptor "([CIILjava/lang/Void;)V" = some ⟨[(.array .char), .int, .int, (.object "java/lang/Void")], none⟩ := by decide +kernel
theorem d13_9 : decode jdk_42_method_3_code 9 = .ok (.return_, 1) := by decide +kernel
theorem own_ef_str1e (m : MethodId) (x0 : Addr) (x1 : Addr) : entryFrame m #[(.ref x0), (.ref x1)] 2 = mkF m 0 #[.val (.ref x0), .val (.ref x1)] [] := by first | (simp [entryFrame, mkF, argsToLocals, Value.category]; done) | rfl
def Q_str1e (Z : State) (x b : Addr) (kc : ClassId) (u : Value) (h0 : Heap) (n0 : Nat) (v : Option Value) (h : Heap) (L : List Loc) : Prop := v = none ∧ Fr n0 L ∧ Keep h0 h [x] ∧ own_Lat Z h x []
set_option maxRecDepth 65536 in
set_option maxHeartbeats 40000000 in
theorem rm_str1e (l : Launch) (Z : State) (a0 : Array Value) (hw : ∀ d ∈ tables_1, d.before a0 Z = true) (ws : List Jvm.Cond) (x b : Addr) (kc : ClassId) (u : Value) (h0 : Heap) (n0 : Nat) (Z0 : n0 ≤ h0.size) (E_x : Exa Z h0 x "java/lang/String") (F_value : Fld Z h0 x "java/lang/String" "value" "[B" .null) (F_coder : Fld Z h0 x "java/lang/String" "coder" "B" u) (g_x : n0 ≤ x) (V_b : Arv Z h0 b kc .char (0 : Int32) [] (.int (0 : Int32))) :
    MetFree l (⟨"java/lang/String", "<init>", "([C)V"⟩ : MethodName) (head1 (Jvm.Cond.code (⟨"java/lang/String", "<init>", "([C)V"⟩ : MethodName) jdk_42_method_3_code 2 none :: ws) ({ frames := 2, cells := 4, slots := 8, locals := 29 } : Room)) (fun a U => a = #[(.ref x), (.ref b)] ∧ Z.Warmed39 U.vm ∧ U.heap = h0 ∧ CHv Z own_EL U.vm h0) (fun _ _ _ _ _ => True) (fun _ U o U' => ∃ v L, o = .returned v ∧ Q_str1e Z x b kc u h0 n0 v U'.heap L ∧ CHr Z own_EL U.vm U.heap U'.vm U'.heap ∧ ReturnedEndW U o U' L ({ frames := 2, cells := 4, slots := 8, locals := 29 } : Room).cells ({ frames := 2, cells := 4, slots := 8, locals := 29 } : Room).slots) := by
  refine MetFree.of_bodySF (plainFor_of_name own_pn_java_lang_String) hisR ?_
  intro p e s m args below meth c s₁ Bd hml0 hP hK
  obtain ⟨rfl, hZ, hh, R⟩ := hP
  have hx := Bd.exec
  have hby := Bd.bytes
  have hml : c.maxLocals = 2 := hml0
  have hown : s.vm.findClass "java/lang/String" = some m.cls := findClass_of_methodNamed Bd.named
  have hnm := (name_of_methodNamed Bd.named Bd.method).1
  have X0 : Stand p l e ({ frames := 2, cells := 4, slots := 8, locals := 29 } : Room) (s.setVm s.vm) m #[(.ref x), (.ref b)] below meth c s₁ [] 0 0 := Stand.of_body Bd
  have e0 : s₁.heap = h0 := by rw [← hh, Bd.state]; rfl
  have N0 := Fr.nil n0
  have hZ : Z.Warmed39 (s.setVm s.vm).vm := hZ
  have hown : (s.setVm s.vm).vm.findClass "java/lang/String" = some m.cls := hown
  have hS0 := own_since s h0.size
  have hk0 : h0.size ≤ h0.size := Nat.le_refl _
  have R := CHr.refl R
  have hEL := own_hEL hw
  have wS := own_wS hw
  refine own_start (F0 := fun o U' => ∃ v L, o = .returned v ∧ Q_str1e Z x b kc u h0 n0 v U'.heap L ∧ CHr Z own_EL s.vm s.heap U'.vm U'.heap ∧ ReturnedEndW s o U' L ({ frames := 2, cells := 4, slots := 8, locals := 29 } : Room).cells ({ frames := 2, cells := 4, slots := 8, locals := 29 } : Room).slots) fun F hF => ?_
  rw [own_ef_str1e m x b]
  refine own_st (V := s₁.setTop (mkF m 1 #[.val (.ref x), .val (.ref b)] [(.ref x)])) (fun _ hk => XS.aloadN X0.here hx rfl (hb hby d13_0) rfl rfl hk) ?_
  refine own_st (V := s₁.setTop (mkF m 2 #[.val (.ref x), .val (.ref b)] [(.ref b), (.ref x)])) (fun _ hk => XS.aloadN X0.here hx rfl (hb hby d13_1) rfl rfl hk) ?_
  refine own_st (V := s₁.setTop (mkF m 3 #[.val (.ref x), .val (.ref b)] [(.int (0 : Int32)), (.ref b), (.ref x)])) (fun _ hk => XS.iconst X0.here hx rfl (hb hby d13_2) hk) ?_
  refine own_st (V := s₁.setTop (mkF m 4 #[.val (.ref x), .val (.ref b)] [(.ref b), (.int (0 : Int32)), (.ref b), (.ref x)])) (fun _ hk => XS.aloadN X0.here hx rfl (hb hby d13_3) rfl rfl hk) ?_
  obtain ⟨cl1, Ar1, -, Sz1, Ng1, -, -⟩ := (id V_b : _)
  refine own_st (V := s₁.setTop (mkF m 5 #[.val (.ref x), .val (.ref b)] [(.int cl1.slots.size.toInt32), (.int (0 : Int32)), (.ref b), (.ref x)])) (X0.arraylength hx (by rw [e0]; exact Ar1.1) (State.isArrayOf_alike hZ.alike Ar1.2.1) (g := (mkF m 4 #[.val (.ref x), .val (.ref b)] [(.ref b), (.int (0 : Int32)), (.ref b), (.ref x)])) rfl rfl (hb hby d13_4)) ?_
  rw [len_of Sz1 Ng1]
  refine own_st (V := s₁.setTop (mkF m 6 #[.val (.ref x), .val (.ref b)] [.null, (.int (0 : Int32)), (.int (0 : Int32)), (.ref b), (.ref x)])) (fun _ hk => XS.aconstNull X0.here hx rfl (hb hby d13_5) hk) ?_
  obtain ⟨_, _, ⟨T2, L2, k2, n2⟩, -, X2, hSn2, hgr2, ⟨Lc2, hQ2, l2, y2, z2, Cn2⟩, st2⟩ := X0.specialBackS hx (y := (⟨"java/lang/String", "<init>", "([CIILjava/lang/Void;)V"⟩ : MethodName)) rfl hown (mvT hZ (hw _ (List.mem_of_getElem? (i := 78) rfl))) (mvT hZ (hw _ (List.mem_of_getElem? (i := 79) rfl))) (mvT hZ (hw _ (List.mem_of_getElem? (i := 80) rfl))) (by decide) (backOfSH (W := 0) (rm_str4e l Z a0 hw [] x b u h0 n0 Z0 E_x F_value F_coder g_x) hZ (hw _ (List.mem_of_getElem? (i := 80) rfl)) (hw _ (List.mem_of_getElem? (i := 51) rfl)) (by decide) (by decide) hEL R.1) (g := (mkF m 6 #[.val (.ref x), .val (.ref b)] [.null, (.int (0 : Int32)), (.int (0 : Int32)), (.ref b), (.ref x)])) rfl (by rw [hml]; rfl) (Steps.refl _) (a := x) (argsL := [(.ref b), (.int (0 : Int32)), (.int (0 : Int32)), .null]) (rest := []) (lenOf own_pd0 rfl) rfl (by show 2 * 0 + _ ≤ _; exact Nat.le_of_eq rfl) (hb hby d13_6) (fun _ _ => ⟨rfl, e0, (by decide : 0 + 4 ≤ _), (by decide : 0 + 8 ≤ _)⟩)
  dsimp only [Pt.U, Pt.locs, Pt.cells, Pt.slots] at X2 l2 y2 z2 st2 hQ2 hSn2 hgr2 Cn2
  subst l2 y2 z2
  obtain ⟨rfl, N2q, Kc, Lc⟩ := hQ2
  have N2 := Fr.app N0 N2q
  obtain ⟨Xr2, hSr2, hZr2, hownr2⟩ := rebS hS0 (by rw [e0]; exact hk0 : _ ≤ s₁.heap.size) X2 hSn2 hgr2 hZ hown
  refine own_tr (V := T2.setTop (mkF m 9 #[.val (.ref x), .val (.ref b)] [])) st2 ?_
  have hkr2 : T2.heap.size ≤ T2.heap.size := Nat.le_refl _
  have R := R.trans Cn2
  exact own_retVW Xr2 hSr2 hkr2 hx Bd.notSynchronized Bd.returns (hb hby d13_9) (by decide) (by decide) (fun U hU hV hE => hF _ _ ⟨_, _, rfl, (by rw [hU]; exact ⟨rfl, N2, Kc, Lc⟩), (by rw [hh, hV, hU]; exact R.trans (CHv.at Xr2 hZr2 hEL R.1)), hE⟩)
theorem d10_0 : decode jdk_43_method_3_code 0 = .ok (.iload_n 0, 1) := by decide +kernel
theorem d10_1 : decode jdk_43_method_3_code 1 = .ok (.sipush 255, 3) := by decide +kernel
theorem d10_4 : decode jdk_43_method_3_code 4 = .ok (.if_icmp .gt 7, 3) := by decide +kernel
theorem d10_7 : decode jdk_43_method_3_code 7 = .ok (.iconst 1, 1) := by decide +kernel
theorem d10_8 : decode jdk_43_method_3_code 8 = .ok (.goto 4, 3) := by decide +kernel
theorem d10_12 : decode jdk_43_method_3_code 12 = .ok (.ireturn, 1) := by decide +kernel
theorem own_pn_java_lang_StringLatin1 : plainName "java/lang/StringLatin1" = true := by first | (simp [plainName, overriddenIn]; done) | decide +kernel
theorem own_ef_canEncode (m : MethodId) (x0 : Int32) : entryFrame m #[(.int x0)] 1 = mkF m 0 #[.val (.int x0)] [] := by first | (simp [entryFrame, mkF, argsToLocals, Value.category]; done) | rfl
def Q_canEncode (Z : State) (p1 : Int32) (h0 : Heap) (n0 : Nat) (v : Option Value) (h : Heap) (L : List Loc) : Prop := v = some (.int 1) ∧ Fr n0 L ∧ h = h0
set_option maxRecDepth 65536 in
set_option maxHeartbeats 40000000 in
theorem rm_canEncode (l : Launch) (Z : State) (a0 : Array Value) (hw : ∀ d ∈ tables_1, d.before a0 Z = true) (ws : List Jvm.Cond) (p1 : Int32) (h0 : Heap) (n0 : Nat) (Z0 : n0 ≤ h0.size) (hp : ¬ (255 : Int32) < p1) :
    MetFree l (⟨"java/lang/StringLatin1", "canEncode", "(C)Z"⟩ : MethodName) (head1 (Jvm.Cond.code (⟨"java/lang/StringLatin1", "canEncode", "(C)Z"⟩ : MethodName) jdk_43_method_3_code 1 (some .boolean) :: ws) ({ frames := 0, cells := 0, slots := 0, locals := 0 } : Room)) (fun a U => a = #[(.int p1)] ∧ Z.Warmed39 U.vm ∧ U.heap = h0) (fun _ _ _ _ _ => True) (fun _ U o U' => ∃ v L, o = .returned v ∧ Q_canEncode Z p1 h0 n0 v U'.heap L ∧ FrameEnd U o U' L ({ frames := 0, cells := 0, slots := 0, locals := 0 } : Room).cells ({ frames := 0, cells := 0, slots := 0, locals := 0 } : Room).slots) := by
  refine MetFree.of_bodySF (plainFor_of_name own_pn_java_lang_StringLatin1) hisR ?_
  intro p e s m args below meth c s₁ Bd hml0 hP hK
  obtain ⟨rfl, hZ, hh⟩ := hP
  have hx := Bd.exec
  have hby := Bd.bytes
  have hml : c.maxLocals = 1 := hml0
  have hown : s.vm.findClass "java/lang/StringLatin1" = some m.cls := findClass_of_methodNamed Bd.named
  have hnm := (name_of_methodNamed Bd.named Bd.method).1
  have X0 : Stand p l e ({ frames := 0, cells := 0, slots := 0, locals := 0 } : Room) s m #[(.int p1)] below meth c s₁ [] 0 0 := Stand.of_body Bd
  have e0 : s₁.heap = h0 := by rw [← hh, Bd.state]; rfl
  have N0 := Fr.nil n0
  refine own_start (F0 := fun o U' => ∃ v L, o = .returned v ∧ Q_canEncode Z p1 h0 n0 v U'.heap L ∧ FrameEnd s o U' L ({ frames := 0, cells := 0, slots := 0, locals := 0 } : Room).cells ({ frames := 0, cells := 0, slots := 0, locals := 0 } : Room).slots) fun F hF => ?_
  rw [own_ef_canEncode m p1]
  refine own_st (V := s₁.setTop (mkF m 1 #[.val (.int p1)] [(.int p1)])) (fun _ hk => XS.iloadN X0.here hx rfl (hb hby d10_0) rfl  hk) ?_
  refine own_st (V := s₁.setTop (mkF m 4 #[.val (.int p1)] [(.int (255 : Int32)), (.int p1)])) (fun _ hk => XS.sipush X0.here hx rfl (hb hby d10_1) hk) ?_
  refine own_st (V := s₁.setTop (mkF m 7 #[.val (.int p1)] [])) (fun _ hk => XS.icmpNo X0.here hx rfl (hb hby d10_4) rfl (flt (show ¬ ((255 : Int32) < p1) from hp)).2.2.1 hk) ?_
  refine own_st (V := s₁.setTop (mkF m 8 #[.val (.int p1)] [(.int (1 : Int32))])) (fun _ hk => XS.iconst X0.here hx rfl (hb hby d10_7) hk) ?_
  refine own_st (V := s₁.setTop (mkF m 12 #[.val (.int p1)] [(.int (1 : Int32))])) (fun _ hk => XS.goto X0.here hx rfl (pc0 := 8) (pc' := 12) rfl (hb hby d10_8) (by decide) (by decide) hk) ?_
  exact own_retN X0 hx Bd.notSynchronized Bd.returns rfl (by simp) (hb hby d10_12) (by decide) (by decide) (fun U hU hE => hF _ _ ⟨_, _, rfl, (by rw [hU, e0]; exact ⟨rfl, N0, rfl⟩), hE⟩)
theorem d11_0 : decode jdk_43_method_46_code 0 = .ok (.iconst 1, 1) := by decide +kernel
theorem d11_1 : decode jdk_43_method_46_code 1 = .ok (.newarray .byte, 2) := by decide +kernel
theorem d11_3 : decode jdk_43_method_46_code 3 = .ok (.dup, 1) := by decide +kernel
theorem d11_4 : decode jdk_43_method_46_code 4 = .ok (.iconst 0, 1) := by decide +kernel
theorem d11_5 : decode jdk_43_method_46_code 5 = .ok (.iload_n 0, 1) := by decide +kernel
theorem d11_6 : decode jdk_43_method_46_code 6 = .ok (.i2b, 1) := by decide +kernel
theorem d11_7 : decode jdk_43_method_46_code 7 = .ok (.bastore, 1) := by decide +kernel
theorem d11_8 : decode jdk_43_method_46_code 8 = .ok (.areturn, 1) := by decide +kernel
theorem own_ef_toBytes (m : MethodId) (x0 : Int32) : entryFrame m #[(.int x0)] 1 = mkF m 0 #[.val (.int x0)] [] := by first | (simp [entryFrame, mkF, argsToLocals, Value.category]; done) | rfl
def Q_toBytes (Z : State) (p1 : Int32) (h0 : Heap) (n0 : Nat) (v : Option Value) (h : Heap) (L : List Loc) : Prop := ∃ (r : Addr) (kb : ClassId), v = some (.ref r) ∧ Fr n0 L ∧ Keep h0 h [] ∧ h0.size ≤ r ∧ Arv Z h r kb .byte (1 : Int32) [.int p1.toInt8.toInt32] (.int 0)
set_option maxRecDepth 65536 in
set_option maxHeartbeats 40000000 in
theorem rm_toBytes (l : Launch) (Z : State) (a0 : Array Value) (hw : ∀ d ∈ tables_1, d.before a0 Z = true) (ws : List Jvm.Cond) (p1 : Int32) (h0 : Heap) (n0 : Nat) (Z0 : n0 ≤ h0.size)  :
    MetFree l (⟨"java/lang/StringLatin1", "toBytes", "(C)[B"⟩ : MethodName) (head1 (Jvm.Cond.code (⟨"java/lang/StringLatin1", "toBytes", "(C)[B"⟩ : MethodName) jdk_43_method_46_code 1 (some (.array .byte)) :: ws) ({ frames := 0, cells := 1, slots := 1, locals := 0 } : Room)) (fun a U => a = #[(.int p1)] ∧ Z.Warmed39 U.vm ∧ U.heap = h0) (fun _ _ _ _ _ => True) (fun _ U o U' => ∃ v L, o = .returned v ∧ Q_toBytes Z p1 h0 n0 v U'.heap L ∧ FrameEnd U o U' L ({ frames := 0, cells := 1, slots := 1, locals := 0 } : Room).cells ({ frames := 0, cells := 1, slots := 1, locals := 0 } : Room).slots) := by
  refine MetFree.of_bodySF (plainFor_of_name own_pn_java_lang_StringLatin1) hisR ?_
  intro p e s m args below meth c s₁ Bd hml0 hP hK
  obtain ⟨rfl, hZ, hh⟩ := hP
  have hx := Bd.exec
  have hby := Bd.bytes
  have hml : c.maxLocals = 1 := hml0
  have hown : s.vm.findClass "java/lang/StringLatin1" = some m.cls := findClass_of_methodNamed Bd.named
  have hnm := (name_of_methodNamed Bd.named Bd.method).1
  have X0 : Stand p l e ({ frames := 0, cells := 1, slots := 1, locals := 0 } : Room) s m #[(.int p1)] below meth c s₁ [] 0 0 := Stand.of_body Bd
  have e0 : s₁.heap = h0 := by rw [← hh, Bd.state]; rfl
  have N0 := Fr.nil n0
  refine own_start (F0 := fun o U' => ∃ v L, o = .returned v ∧ Q_toBytes Z p1 h0 n0 v U'.heap L ∧ FrameEnd s o U' L ({ frames := 0, cells := 1, slots := 1, locals := 0 } : Room).cells ({ frames := 0, cells := 1, slots := 1, locals := 0 } : Room).slots) fun F hF => ?_
  rw [own_ef_toBytes m p1]
  have K := Keep.refl h0 []
  refine own_st (V := s₁.setTop (mkF m 1 #[.val (.int p1)] [(.int (1 : Int32))])) (fun _ hk => XS.iconst X0.here hx rfl (hb hby d11_0) hk) ?_
  obtain ⟨T1, h1, k1, X1, e1, E1, A1, st1⟩ := newP X0 hx hZ (hw _ (List.mem_of_getElem? (i := 63) rfl)) e0 (g := (mkF m 1 #[.val (.int p1)] [(.int (1 : Int32))])) rfl (hb hby d11_1) rfl (by decide) (cap := 1) (by decide) (by decide) (by decide) (by decide)
  obtain ⟨b1, g1⟩ : ∃ z, z = h0.size := ⟨_, rfl⟩
  rw [← g1] at A1 st1
  have g_b1 : n0 ≤ b1 := Nat.le_trans Z0 (Nat.le_of_eq g1.symm)
  have sz_b1 : h0.size ≤ b1 := Nat.le_trans K.1 (Nat.le_of_eq g1.symm)
  have K := K.ext E1
  have Z0 : n0 ≤ h1.size := Nat.le_trans Z0 E1.1
  have V_b1 : Arv Z h1 b1 k1 .byte (1 : Int32) [(.int (0 : Int32))] (.int (0 : Int32)) := (Arv.new A1 (by decide)).pad (pad_rep [] (.int (0 : Int32)) 1)
  refine own_st (V := T1.setTop (mkF m 3 #[.val (.int p1)] [(.ref b1)])) st1 ?_
  refine own_st (V := T1.setTop (mkF m 4 #[.val (.int p1)] [(.ref b1), (.ref b1)])) (fun _ hk => XS.dup X1.here hx rfl (hb hby d11_3) rfl rfl hk) ?_
  refine own_st (V := T1.setTop (mkF m 5 #[.val (.int p1)] [(.int (0 : Int32)), (.ref b1), (.ref b1)])) (fun _ hk => XS.iconst X1.here hx rfl (hb hby d11_4) hk) ?_
  refine own_st (V := T1.setTop (mkF m 6 #[.val (.int p1)] [(.int p1), (.int (0 : Int32)), (.ref b1), (.ref b1)])) (fun _ hk => XS.iloadN X1.here hx rfl (hb hby d11_5) rfl  hk) ?_
  refine own_st (V := T1.setTop (mkF m 7 #[.val (.int p1)] [(.int (p1.toInt8.toInt32)), (.int (0 : Int32)), (.ref b1), (.ref b1)])) (fun _ hk => XS.i2b X1.here hx rfl (hb hby d11_6) rfl hk) ?_
  obtain ⟨cl2, Ar2, q2, S2, M2, H2, G2⟩ := V_b1
  have hin2 : ¬ ((0 : Int32) < 0 ∨ cl2.slots.size ≤ ((0 : Int32)).toNatClampNeg) := inb_of S2 ⟨by decide, by decide⟩
  obtain ⟨T2, h2, X2, e2, W2, st2⟩ := stB X1 hx hZ e1 Ar2 (j := (0 : Int32)) hin2 (g := (mkF m 7 #[.val (.int p1)] [(.int (p1.toInt8.toInt32)), (.int (0 : Int32)), (.ref b1), (.ref b1)])) rfl rfl (hb hby d11_7)
  have V_b1 : Arv Z h2 b1 k1 .byte (1 : Int32) [(.int (nar .byte (p1.toInt8.toInt32)))] (.int (0 : Int32)) := Arv.set Ar2 q2 S2 M2 H2 G2 (own_fits_nb _) W2 0 rfl (Nat.le_of_ble_eq_true rfl)
  have K := K.wr W2 (Or.inr sz_b1)
  have N2 := Fr.snoc X2 N0 g_b1
  have Z0 : n0 ≤ h2.size := Nat.le_trans Z0 (Keep.of_wr W2).1
  refine own_st (V := T2.setTop (mkF m 8 #[.val (.int p1)] [(.ref b1)])) st2 ?_
  exact own_retA X2 hx Bd.notSynchronized Bd.returns rfl rfl (hb hby d11_8) (by decide) (by decide) (fun U hU hE => hF _ _ ⟨_, _, rfl, (by rw [hU, e2]; exact ⟨_, _, rfl, N2, K, sz_b1, (by rw [own_nb] at V_b1; exact V_b1)⟩), hE⟩)
theorem d12_0 : decode jdk_42_method_151_code 0 = .ok (.aload_n 0, 1) := by decide +kernel
theorem d12_1 : decode jdk_42_method_151_code 1 = .ok (.invokespecial 1, 3) := by decide +kernel
theorem d12_4 : decode jdk_42_method_151_code 4 = .ok (.aload_n 0, 1) := by decide +kernel
theorem d12_5 : decode jdk_42_method_151_code 5 = .ok (.aload_n 1, 1) := by decide +kernel
theorem d12_6 : decode jdk_42_method_151_code 6 = .ok (.putfield 9, 3) := by decide +kernel
theorem d12_9 : decode jdk_42_method_151_code 9 = .ok (.aload_n 0, 1) := by decide +kernel
theorem d12_10 : decode jdk_42_method_151_code 10 = .ok (.iload_n 2, 1) := by decide +kernel
theorem d12_11 : decode jdk_42_method_151_code 11 = .ok (.putfield 15, 3) := by decide +kernel
theorem d12_14 : decode jdk_42_method_151_code 14 = .ok (.return_, 1) := by decide +kernel
theorem own_ef_strBB (m : MethodId) (x0 : Addr) (x1 : Addr) (x2 : Int32) : entryFrame m #[(.ref x0), (.ref x1), (.int x2)] 3 = mkF m 0 #[.val (.ref x0), .val (.ref x1), .val (.int x2)] [] := by first | (simp [entryFrame, mkF, argsToLocals, Value.category]; done) | rfl
def Q_strBB (Z : State) (x b : Addr) (u1 u2 : Value) (h0 : Heap) (n0 : Nat) (v : Option Value) (h : Heap) (L : List Loc) : Prop := v = none ∧ Fr n0 L ∧ Keep h0 h [x] ∧ Exa Z h x "java/lang/String" ∧ Fld Z h x "java/lang/String" "value" "[B" (.ref b) ∧ Fld Z h x "java/lang/String" "coder" "B" (.int 0)
set_option maxRecDepth 65536 in
set_option maxHeartbeats 40000000 in
theorem rm_strBB (l : Launch) (Z : State) (a0 : Array Value) (hw : ∀ d ∈ tables_1, d.before a0 Z = true) (ws : List Jvm.Cond) (x b : Addr) (u1 u2 : Value) (h0 : Heap) (n0 : Nat) (Z0 : n0 ≤ h0.size) (E_x : Exa Z h0 x "java/lang/String") (F_value : Fld Z h0 x "java/lang/String" "value" "[B" u1) (F_coder : Fld Z h0 x "java/lang/String" "coder" "B" u2) (g_x : n0 ≤ x) :
    MetFree l (⟨"java/lang/String", "<init>", "([BB)V"⟩ : MethodName) (head1 (Jvm.Cond.code (⟨"java/lang/String", "<init>", "([BB)V"⟩ : MethodName) jdk_42_method_151_code 3 none :: ws) ({ frames := 1, cells := 0, slots := 0, locals := 12 } : Room)) (fun a U => a = #[(.ref x), (.ref b), (.int (0 : Int32))] ∧ Z.Warmed39 U.vm ∧ U.heap = h0) (fun _ _ _ _ _ => True) (fun _ U o U' => ∃ v L, o = .returned v ∧ Q_strBB Z x b u1 u2 h0 n0 v U'.heap L ∧ FrameEnd U o U' L ({ frames := 1, cells := 0, slots := 0, locals := 12 } : Room).cells ({ frames := 1, cells := 0, slots := 0, locals := 12 } : Room).slots) := by
  refine MetFree.of_bodySF (plainFor_of_name own_pn_java_lang_String) hisR ?_
  intro p e s m args below meth c s₁ Bd hml0 hP hK
  obtain ⟨rfl, hZ, hh⟩ := hP
  have hx := Bd.exec
  have hby := Bd.bytes
  have hml : c.maxLocals = 3 := hml0
  have hown : s.vm.findClass "java/lang/String" = some m.cls := findClass_of_methodNamed Bd.named
  have hnm := (name_of_methodNamed Bd.named Bd.method).1
  have X0 : Stand p l e ({ frames := 1, cells := 0, slots := 0, locals := 12 } : Room) s m #[(.ref x), (.ref b), (.int (0 : Int32))] below meth c s₁ [] 0 0 := Stand.of_body Bd
  have e0 : s₁.heap = h0 := by rw [← hh, Bd.state]; rfl
  have N0 := Fr.nil n0
  refine own_start (F0 := fun o U' => ∃ v L, o = .returned v ∧ Q_strBB Z x b u1 u2 h0 n0 v U'.heap L ∧ FrameEnd s o U' L ({ frames := 1, cells := 0, slots := 0, locals := 12 } : Room).cells ({ frames := 1, cells := 0, slots := 0, locals := 12 } : Room).slots) fun F hF => ?_
  rw [own_ef_strBB m x b (0 : Int32)]
  have K := Keep.refl h0 [x]
  refine own_st (V := s₁.setTop (mkF m 1 #[.val (.ref x), .val (.ref b), .val (.int (0 : Int32))] [(.ref x)])) (fun _ hk => XS.aloadN X0.here hx rfl (hb hby d12_0) rfl rfl hk) ?_
  obtain ⟨T1, X1, e1, st1⟩ := initO X0 hx hZ hown (hw _ (List.mem_of_getElem? (i := 68) rfl)) (hw _ (List.mem_of_getElem? (i := 12) rfl)) (hw _ (List.mem_of_getElem? (i := 13) rfl)) e0 (g := (mkF m 1 #[.val (.ref x), .val (.ref b), .val (.int (0 : Int32))] [(.ref x)])) rfl (by rw [hml]; rfl) rfl (hb hby d12_1) (by decide) (W := 0) (by show 2 * 0 + _ ≤ _; exact Nat.le_of_eq rfl) (by decide)
  refine own_st (V := T1.setTop (mkF m 4 #[.val (.ref x), .val (.ref b), .val (.int (0 : Int32))] [])) st1 ?_
  refine own_st (V := T1.setTop (mkF m 5 #[.val (.ref x), .val (.ref b), .val (.int (0 : Int32))] [(.ref x)])) (fun _ hk => XS.aloadN X1.here hx rfl (hb hby d12_4) rfl rfl hk) ?_
  refine own_st (V := T1.setTop (mkF m 6 #[.val (.ref x), .val (.ref b), .val (.int (0 : Int32))] [(.ref b), (.ref x)])) (fun _ hk => XS.aloadN X1.here hx rfl (hb hby d12_5) rfl rfl hk) ?_
  obtain ⟨T2, h2, X2, e2, W2, st2⟩ := putF X1 hx hZ hown (host := "") (Or.inl (hw _ (List.mem_of_getElem? (i := 69) rfl))) Via.refl e1 F_value E_x (Or.inr ⟨(hw _ (List.mem_of_getElem? (i := 70) rfl)), rfl, hnm⟩) (hw _ (List.mem_of_getElem? (i := 59) rfl)) (ty := (.array .byte)) (by decide) rfl rfl (g := (mkF m 6 #[.val (.ref x), .val (.ref b), .val (.int (0 : Int32))] [(.ref b), (.ref x)])) rfl rfl (hb hby d12_6)
  have E_x := E_x.wr W2
  have F_coder := F_coder.other W2 (Or.inr (slot_ne (Or.inr (hw _ (List.mem_of_getElem? (i := 72) rfl))) (Or.inr (hw _ (List.mem_of_getElem? (i := 70) rfl))) (by decide) (t := .byte) (t' := (.array .byte)) (by decide) (by decide)))
  have F_value := F_value.same W2
  have K := K.wr W2 (Or.inl (List.mem_of_getElem? (i := 0) rfl))
  have N2 := Fr.snoc X2 N0 g_x
  have Z0 : n0 ≤ h2.size := Nat.le_trans Z0 (Keep.of_wr W2).1
  refine own_st (V := T2.setTop (mkF m 9 #[.val (.ref x), .val (.ref b), .val (.int (0 : Int32))] [])) st2 ?_
  refine own_st (V := T2.setTop (mkF m 10 #[.val (.ref x), .val (.ref b), .val (.int (0 : Int32))] [(.ref x)])) (fun _ hk => XS.aloadN X2.here hx rfl (hb hby d12_9) rfl rfl hk) ?_
  refine own_st (V := T2.setTop (mkF m 11 #[.val (.ref x), .val (.ref b), .val (.int (0 : Int32))] [(.int (0 : Int32)), (.ref x)])) (fun _ hk => XS.iloadN X2.here hx rfl (hb hby d12_10) rfl  hk) ?_
  obtain ⟨T3, h3, X3, e3, W3, st3⟩ := putF X2 hx hZ hown (host := "") (Or.inl (hw _ (List.mem_of_getElem? (i := 71) rfl))) Via.refl e2 F_coder E_x (Or.inr ⟨(hw _ (List.mem_of_getElem? (i := 72) rfl)), rfl, hnm⟩) (hw _ (List.mem_of_getElem? (i := 59) rfl)) (ty := .byte) (by decide) rfl rfl (g := (mkF m 11 #[.val (.ref x), .val (.ref b), .val (.int (0 : Int32))] [(.int (0 : Int32)), (.ref x)])) rfl rfl (hb hby d12_11)
  have E_x := E_x.wr W3
  have F_value := F_value.other W3 (Or.inr (slot_ne (Or.inr (hw _ (List.mem_of_getElem? (i := 70) rfl))) (Or.inr (hw _ (List.mem_of_getElem? (i := 72) rfl))) (by decide) (t := (.array .byte)) (t' := .byte) (by decide) (by decide)))
  have F_coder := F_coder.same W3
  have K := K.wr W3 (Or.inl (List.mem_of_getElem? (i := 0) rfl))
  have N3 := Fr.snoc X3 N2 g_x
  have Z0 : n0 ≤ h3.size := Nat.le_trans Z0 (Keep.of_wr W3).1
  refine own_st (V := T3.setTop (mkF m 14 #[.val (.ref x), .val (.ref b), .val (.int (0 : Int32))] [])) st3 ?_
  exact own_retV X3 hx Bd.notSynchronized Bd.returns (hb hby d12_14) (by decide) (by decide) (fun U hU hE => hF _ _ ⟨_, _, rfl, (by rw [hU, e3]; exact ⟨rfl, N3, K, E_x, F_value, F_coder⟩), hE⟩)
theorem d9_0 : decode jdk_42_method_139_code 0 = .ok (.getstatic 38, 3) := by decide +kernel
theorem d9_3 : decode jdk_42_method_139_code 3 = .ok (.ifCond .eq 23, 3) := by decide +kernel
theorem d9_6 : decode jdk_42_method_139_code 6 = .ok (.iload_n 0, 1) := by decide +kernel
theorem d9_7 : decode jdk_42_method_139_code 7 = .ok (.invokestatic 1015, 3) := by decide +kernel
theorem own_pd1 : parseMethodDescriptor "(C)Z" = some ⟨[.char], some .boolean⟩ := by decide +kernel
theorem d9_10 : decode jdk_42_method_139_code 10 = .ok (.ifCond .eq 16, 3) := by decide +kernel
theorem d9_13 : decode jdk_42_method_139_code 13 = .ok (.new 10, 3) := by decide +kernel
theorem d9_16 : decode jdk_42_method_139_code 16 = .ok (.dup, 1) := by decide +kernel
theorem d9_17 : decode jdk_42_method_139_code 17 = .ok (.iload_n 0, 1) := by decide +kernel
theorem d9_18 : decode jdk_42_method_139_code 18 = .ok (.invokestatic 1018, 3) := by decide +kernel
theorem own_pd2 : parseMethodDescriptor "(C)[B" = some ⟨[.char], some (.array .byte)⟩ := by decide +kernel
theorem d9_21 : decode jdk_42_method_139_code 21 = .ok (.iconst 0, 1) := by decide +kernel
theorem d9_22 : decode jdk_42_method_139_code 22 = .ok (.invokespecial 209, 3) := by decide +kernel
theorem own_pd3 : parseMethodDescriptor "([BB)V" = some ⟨[(.array .byte), .byte], none⟩ := by decide +kernel
theorem d9_25 : decode jdk_42_method_139_code 25 = .ok (.areturn, 1) := by decide +kernel
theorem own_ef_valueOf (m : MethodId) (x0 : Int32) : entryFrame m #[(.int x0)] 1 = mkF m 0 #[.val (.int x0)] [] := by first | (simp [entryFrame, mkF, argsToLocals, Value.category]; done) | rfl
def Q_valueOf (Z : State) (p1 cz : Int32) (h0 : Heap) (n0 : Nat) (v : Option Value) (h : Heap) (L : List Loc) : Prop := ∃ r : Addr, v = some (.ref r) ∧ Fr n0 L ∧ Keep h0 h [] ∧ h0.size ≤ r ∧ own_Lat Z h r [p1]
set_option maxRecDepth 65536 in
set_option maxHeartbeats 40000000 in
theorem rm_valueOf (l : Launch) (Z : State) (a0 : Array Value) (hw : ∀ d ∈ tables_1, d.before a0 Z = true) (ws : List Jvm.Cond) (p1 cz : Int32) (h0 : Heap) (n0 : Nat) (Z0 : n0 ≤ h0.size) (O : Old Z n0 h0) (Scz : Sta Z Z.heap "java/lang/String" "COMPACT_STRINGS" "Z" (.int cz)) (hcz : ¬ cz = 0) (h0p : ¬ p1 < 0) (hp : ¬ (255 : Int32) < p1) :
    MetFree l (⟨"java/lang/String", "valueOf", "(C)Ljava/lang/String;"⟩ : MethodName) (head1 (Jvm.Cond.code (⟨"java/lang/String", "valueOf", "(C)Ljava/lang/String;"⟩ : MethodName) jdk_42_method_139_code 1 (some (.object "java/lang/String")) :: ws) ({ frames := 2, cells := 2, slots := 5, locals := 27 } : Room)) (fun a U => a = #[(.int p1)] ∧ Z.Warmed39 U.vm ∧ U.heap = h0) (fun _ _ _ _ _ => True) (fun _ U o U' => ∃ v L, o = .returned v ∧ Q_valueOf Z p1 cz h0 n0 v U'.heap L ∧ FrameEnd U o U' L ({ frames := 2, cells := 2, slots := 5, locals := 27 } : Room).cells ({ frames := 2, cells := 2, slots := 5, locals := 27 } : Room).slots) := by
  refine MetFree.of_bodySF (plainFor_of_name own_pn_java_lang_String) hisR ?_
  intro p e s m args below meth c s₁ Bd hml0 hP hK
  obtain ⟨rfl, hZ, hh⟩ := hP
  have hx := Bd.exec
  have hby := Bd.bytes
  have hml : c.maxLocals = 1 := hml0
  have hown : s.vm.findClass "java/lang/String" = some m.cls := findClass_of_methodNamed Bd.named
  have hnm := (name_of_methodNamed Bd.named Bd.method).1
  have X0 : Stand p l e ({ frames := 2, cells := 2, slots := 5, locals := 27 } : Room) s m #[(.int p1)] below meth c s₁ [] 0 0 := Stand.of_body Bd
  have e0 : s₁.heap = h0 := by rw [← hh, Bd.state]; rfl
  have N0 := Fr.nil n0
  refine own_start (F0 := fun o U' => ∃ v L, o = .returned v ∧ Q_valueOf Z p1 cz h0 n0 v U'.heap L ∧ FrameEnd s o U' L ({ frames := 2, cells := 2, slots := 5, locals := 27 } : Room).cells ({ frames := 2, cells := 2, slots := 5, locals := 27 } : Room).slots) fun F hF => ?_
  rw [own_ef_valueOf m p1]
  have K := Keep.refl h0 []
  obtain ⟨T1, X1, e1, st1⟩ := getS2 X0 hx hZ hown (host := "") (Or.inl (hw _ (List.mem_of_getElem? (i := 53) rfl))) Via.refl e0 (Scz.ext O.2) (g := (mkF m 0 #[.val (.int p1)] [])) rfl (hb hby d9_0)
  refine own_st (V := T1.setTop (mkF m 3 #[.val (.int p1)] [(.int cz)])) st1 ?_
  refine own_st (V := T1.setTop (mkF m 6 #[.val (.int p1)] [])) (fun _ hk => XS.ifNo X1.here hx rfl (hb hby d9_3) rfl ((if0 _ _).trans (feq (show ¬ (cz = (0 : Int32)) from hcz)).1) hk) ?_
  refine own_st (V := T1.setTop (mkF m 7 #[.val (.int p1)] [(.int p1)])) (fun _ hk => XS.iloadN X1.here hx rfl (hb hby d9_6) rfl  hk) ?_
  obtain ⟨_, _, ⟨T2, L2, k2, n2⟩, -, X2, ⟨Lc2, hQ2, l2, y2, z2⟩, st2⟩ := Jvm.LawKit.callS X1 hx (y := (⟨"java/lang/StringLatin1", "canEncode", "(C)Z"⟩ : MethodName)) hown (mvT hZ (hw _ (List.mem_of_getElem? (i := 54) rfl))) (mvT hZ (hw _ (List.mem_of_getElem? (i := 55) rfl))) (mvT hZ (hw _ (List.mem_of_getElem? (i := 56) rfl))) (mvT hZ (hw _ (List.mem_of_getElem? (i := 57) rfl))) (by decide) (backOf (W := 0) (rm_canEncode l Z a0 hw [] p1 h0 n0 Z0 hp) hZ (hw _ (List.mem_of_getElem? (i := 57) rfl)) (hw _ (List.mem_of_getElem? (i := 56) rfl)) (by decide) (by decide)) (g := (mkF m 7 #[.val (.int p1)] [(.int p1)])) rfl (by rw [hml]; rfl) (argsL := [(.int p1)]) (rest := []) (lenOf own_pd1 rfl) rfl (by show 2 * 0 + _ ≤ _; exact Nat.le_of_eq rfl) (hb hby d9_7) (fun _ _ => ⟨rfl, e1, (by decide : 0 + 0 ≤ _), (by decide : 0 + 0 ≤ _)⟩)
  dsimp only [Pt.U, Pt.locs, Pt.cells, Pt.slots] at X2 l2 y2 z2 st2 hQ2
  subst l2 y2 z2
  obtain ⟨rfl, N2q, es2⟩ := hQ2
  have N2 := Fr.app N0 N2q
  refine own_st (V := T2.setTop (mkF m 10 #[.val (.int p1)] [(.int (1 : Int32))])) st2 ?_
  refine own_st (V := T2.setTop (mkF m 13 #[.val (.int p1)] [])) (fun _ hk => XS.ifNo X2.here hx rfl (hb hby d9_10) rfl ((if0 _ _).trans (feq (show ¬ ((1 : Int32) = (0 : Int32)) from (by decide))).1) hk) ?_
  obtain ⟨T3, h3, X3, e3, E3, A3, D3, -, st3⟩ := newO X2 hx hZ hown (hw _ (List.mem_of_getElem? (i := 58) rfl)) (hw _ (List.mem_of_getElem? (i := 59) rfl)) (hw _ (List.mem_of_getElem? (i := 51) rfl)) es2 (g := (mkF m 13 #[.val (.int p1)] [])) rfl (hb hby d9_13) (by decide) (by decide)
  obtain ⟨b3, g3⟩ : ∃ z, z = h0.size := ⟨_, rfl⟩
  rw [← g3] at A3 D3 st3
  have g_b3 : n0 ≤ b3 := Nat.le_trans Z0 (Nat.le_of_eq g3.symm)
  have sz_b3 : h0.size ≤ b3 := Nat.le_trans K.1 (Nat.le_of_eq g3.symm)
  have O := O.ext E3
  have K := K.ext E3
  have Z0 : n0 ≤ h3.size := Nat.le_trans Z0 E3.1
  have E_b3 := A3
  have F_value_b3 : Fld Z h3 b3 "java/lang/String" "value" "[B" .null := D3 (Or.inr (hw _ (List.mem_of_getElem? (i := 70) rfl))) (ty := (.array .byte)) (by decide)
  have F_coder_b3 : Fld Z h3 b3 "java/lang/String" "coder" "B" (.int (0 : Int32)) := D3 (Or.inr (hw _ (List.mem_of_getElem? (i := 72) rfl))) (ty := .byte) (by decide)
  refine own_st (V := T3.setTop (mkF m 16 #[.val (.int p1)] [(.ref b3)])) st3 ?_
  refine own_st (V := T3.setTop (mkF m 17 #[.val (.int p1)] [(.ref b3), (.ref b3)])) (fun _ hk => XS.dup X3.here hx rfl (hb hby d9_16) rfl rfl hk) ?_
  refine own_st (V := T3.setTop (mkF m 18 #[.val (.int p1)] [(.int p1), (.ref b3), (.ref b3)])) (fun _ hk => XS.iloadN X3.here hx rfl (hb hby d9_17) rfl  hk) ?_
  obtain ⟨_, _, ⟨T4, L4, k4, n4⟩, -, X4, ⟨Lc4, hQ4, l4, y4, z4⟩, st4⟩ := Jvm.LawKit.callS X3 hx (y := (⟨"java/lang/StringLatin1", "toBytes", "(C)[B"⟩ : MethodName)) hown (mvT hZ (hw _ (List.mem_of_getElem? (i := 60) rfl))) (mvT hZ (hw _ (List.mem_of_getElem? (i := 61) rfl))) (mvT hZ (hw _ (List.mem_of_getElem? (i := 56) rfl))) (mvT hZ (hw _ (List.mem_of_getElem? (i := 62) rfl))) (by decide) (backOf (W := 2) (rm_toBytes l Z a0 hw [] p1 h3 n0 Z0) hZ (hw _ (List.mem_of_getElem? (i := 62) rfl)) (hw _ (List.mem_of_getElem? (i := 56) rfl)) (by decide) (by decide)) (g := (mkF m 18 #[.val (.int p1)] [(.int p1), (.ref b3), (.ref b3)])) rfl (by rw [hml]; rfl) (argsL := [(.int p1)]) (rest := [(.ref b3), (.ref b3)]) (lenOf own_pd2 rfl) rfl (by show 2 * 0 + _ ≤ _; exact Nat.le_of_eq rfl) (hb hby d9_18) (fun _ _ => ⟨rfl, e3, (by decide : 1 + 1 ≤ _), (by decide : 4 + 1 ≤ _)⟩)
  dsimp only [Pt.U, Pt.locs, Pt.cells, Pt.slots] at X4 l4 y4 z4 st4 hQ4
  subst l4 y4 z4
  obtain ⟨rb, kb, rfl, N4q, Kb, szb, V_rb⟩ := hQ4
  have N4 := Fr.app N2 N4q
  refine own_st (V := T4.setTop (mkF m 21 #[.val (.int p1)] [(.ref rb), (.ref b3), (.ref b3)])) st4 ?_
  have ne_b3_rb : b3 ≠ rb := Nat.ne_of_lt (Nat.lt_of_lt_of_le E_b3.lt szb)
  have ne_rb_b3 := Ne.symm ne_b3_rb
  have E_b3 := E_b3.keep Kb
  have F_value_b3 := F_value_b3.keep Kb nin0
  have F_coder_b3 := F_coder_b3.keep Kb nin0
  have Z0 : n0 ≤ T4.heap.size := Nat.le_trans Z0 Kb.1
  have O := O.keep Kb all0
  have K := K.trans Kb all0
  refine own_st (V := T4.setTop (mkF m 22 #[.val (.int p1)] [(.int (0 : Int32)), (.ref rb), (.ref b3), (.ref b3)])) (fun _ hk => XS.iconst X4.here hx rfl (hb hby d9_21) hk) ?_
  obtain ⟨_, _, ⟨T5, L5, k5, n5⟩, -, X5, ⟨Lc5, hQ5, l5, y5, z5⟩, st5⟩ := X4.specialBack hx (y := (⟨"java/lang/String", "<init>", "([BB)V"⟩ : MethodName)) rfl hown (mvT hZ (hw _ (List.mem_of_getElem? (i := 64) rfl))) (mvT hZ (hw _ (List.mem_of_getElem? (i := 65) rfl))) (mvT hZ (hw _ (List.mem_of_getElem? (i := 67) rfl))) (by decide) (backOf (W := 1) (rm_strBB l Z a0 hw [] b3 rb _ _ T4.heap n0 Z0 E_b3 F_value_b3 F_coder_b3 g_b3) hZ (hw _ (List.mem_of_getElem? (i := 67) rfl)) (hw _ (List.mem_of_getElem? (i := 51) rfl)) (by decide) (by decide)) (g := (mkF m 22 #[.val (.int p1)] [(.int (0 : Int32)), (.ref rb), (.ref b3), (.ref b3)])) rfl (by rw [hml]; rfl) (Steps.refl _) (a := b3) (argsL := [(.ref rb), (.int (0 : Int32))]) (rest := [(.ref b3)]) (lenOf own_pd3 rfl) rfl (by show 2 * 0 + _ ≤ _; exact Nat.le_of_eq rfl) (hb hby d9_22) (fun _ _ => ⟨rfl, rfl, (by decide : 2 + 0 ≤ _), (by decide : 5 + 0 ≤ _)⟩)
  dsimp only [Pt.U, Pt.locs, Pt.cells, Pt.slots] at X5 l5 y5 z5 st5 hQ5
  subst l5 y5 z5
  obtain ⟨rfl, N5q, Kc, Ec, Fc1, Fc2⟩ := hQ5
  have N5 := Fr.app N4 N5q
  refine own_tr (V := T5.setTop (mkF m 25 #[.val (.int p1)] [(.ref b3)])) st5 ?_
  have E_b3 := E_b3.keep Kc
  have V_rb := V_rb.keep Kc (ninS ne_rb_b3 nin0)
  have Z0 : n0 ≤ T5.heap.size := Nat.le_trans Z0 Kc.1
  have O := O.keep Kc (allS g_b3 all0)
  have K := K.trans Kc (allS (Or.inr sz_b3) all0)
  exact own_retA X5 hx Bd.notSynchronized Bd.returns rfl rfl (hb hby d9_25) (by decide) (by decide) (fun U hU hE => hF _ _ ⟨_, _, rfl, (by rw [hU]; exact ⟨_, rfl, N5, K, sz_b3, ⟨rb, kb, 1, _, Ec, Fc1, Fc2, V_rb, StrChars.Road.codOf (cs := [p1]) (n := 1) rfl (fun c hc => by cases List.mem_singleton.mp hc; exact hp), (fun c hc => by cases List.mem_singleton.mp hc; exact ⟨h0p, fun q => hp (Int32.lt_trans (by decide) q)⟩), Nat.le_of_ble_eq_true rfl⟩⟩), hE⟩)
theorem d2_0 : decode jdk_30_method_1_code 0 = .ok (.aload_n 0, 1) := by decide +kernel
theorem d2_1 : decode jdk_30_method_1_code 1 = .ok (.invokespecial 1, 3) := by decide +kernel
theorem d2_4 : decode jdk_30_method_1_code 4 = .ok (.return_, 1) := by decide +kernel
theorem own_pn_java_lang_Record : plainName "java/lang/Record" = true := by first | (simp [plainName, overriddenIn]; done) | decide +kernel
theorem own_ef_record (m : MethodId) (x0 : Addr) : entryFrame m #[(.ref x0)] 1 = mkF m 0 #[.val (.ref x0)] [] := by first | (simp [entryFrame, mkF, argsToLocals, Value.category]; done) | rfl
def Q_record (Z : State) (a1 : Addr) (h0 : Heap) (n0 : Nat) (v : Option Value) (h : Heap) (L : List Loc) : Prop := v = none ∧ Fr n0 L ∧ h = h0
set_option maxRecDepth 65536 in
set_option maxHeartbeats 40000000 in
theorem rm_record (l : Launch) (Z : State) (a0 : Array Value) (hw : ∀ d ∈ tables_1, d.before a0 Z = true) (ws : List Jvm.Cond) (a1 : Addr) (h0 : Heap) (n0 : Nat) (Z0 : n0 ≤ h0.size)  :
    MetFree l (⟨"java/lang/Record", "<init>", "()V"⟩ : MethodName) (head1 (Jvm.Cond.code (⟨"java/lang/Record", "<init>", "()V"⟩ : MethodName) jdk_30_method_1_code 1 none :: ws) ({ frames := 1, cells := 0, slots := 0, locals := 12 } : Room)) (fun a U => a = #[(.ref a1)] ∧ Z.Warmed39 U.vm ∧ U.heap = h0) (fun _ _ _ _ _ => True) (fun _ U o U' => ∃ v L, o = .returned v ∧ Q_record Z a1 h0 n0 v U'.heap L ∧ FrameEnd U o U' L ({ frames := 1, cells := 0, slots := 0, locals := 12 } : Room).cells ({ frames := 1, cells := 0, slots := 0, locals := 12 } : Room).slots) := by
  refine MetFree.of_bodySF (plainFor_of_name own_pn_java_lang_Record) hisR ?_
  intro p e s m args below meth c s₁ Bd hml0 hP hK
  obtain ⟨rfl, hZ, hh⟩ := hP
  have hx := Bd.exec
  have hby := Bd.bytes
  have hml : c.maxLocals = 1 := hml0
  have hown : s.vm.findClass "java/lang/Record" = some m.cls := findClass_of_methodNamed Bd.named
  have hnm := (name_of_methodNamed Bd.named Bd.method).1
  have X0 : Stand p l e ({ frames := 1, cells := 0, slots := 0, locals := 12 } : Room) s m #[(.ref a1)] below meth c s₁ [] 0 0 := Stand.of_body Bd
  have e0 : s₁.heap = h0 := by rw [← hh, Bd.state]; rfl
  have N0 := Fr.nil n0
  refine own_start (F0 := fun o U' => ∃ v L, o = .returned v ∧ Q_record Z a1 h0 n0 v U'.heap L ∧ FrameEnd s o U' L ({ frames := 1, cells := 0, slots := 0, locals := 12 } : Room).cells ({ frames := 1, cells := 0, slots := 0, locals := 12 } : Room).slots) fun F hF => ?_
  rw [own_ef_record m a1]
  refine own_st (V := s₁.setTop (mkF m 1 #[.val (.ref a1)] [(.ref a1)])) (fun _ hk => XS.aloadN X0.here hx rfl (hb hby d2_0) rfl rfl hk) ?_
  obtain ⟨T1, X1, e1, st1⟩ := initO X0 hx hZ hown (hw _ (List.mem_of_getElem? (i := 11) rfl)) (hw _ (List.mem_of_getElem? (i := 12) rfl)) (hw _ (List.mem_of_getElem? (i := 13) rfl)) e0 (g := (mkF m 1 #[.val (.ref a1)] [(.ref a1)])) rfl (by rw [hml]; rfl) rfl (hb hby d2_1) (by decide) (W := 0) (by show 2 * 0 + _ ≤ _; exact Nat.le_of_eq rfl) (by decide)
  refine own_st (V := T1.setTop (mkF m 4 #[.val (.ref a1)] [])) st1 ?_
  exact own_retV X1 hx Bd.notSynchronized Bd.returns (hb hby d2_4) (by decide) (by decide) (fun U hU hE => hF _ _ ⟨_, _, rfl, (by rw [hU, e1]; exact ⟨rfl, N0, rfl⟩), hE⟩)
theorem d1_0 : decode prog_14_method_1_code 0 = .ok (.aload_n 0, 1) := by decide +kernel
theorem d1_1 : decode prog_14_method_1_code 1 = .ok (.invokespecial 1, 3) := by decide +kernel
theorem own_pd4 : parseMethodDescriptor "()V" = some ⟨[], none⟩ := by decide +kernel
theorem d1_4 : decode prog_14_method_1_code 4 = .ok (.aload_n 0, 1) := by decide +kernel
theorem d1_5 : decode prog_14_method_1_code 5 = .ok (.iload_n 1, 1) := by decide +kernel
theorem d1_6 : decode prog_14_method_1_code 6 = .ok (.putfield 7, 3) := by decide +kernel
theorem d1_9 : decode prog_14_method_1_code 9 = .ok (.aload_n 0, 1) := by decide +kernel
theorem d1_10 : decode prog_14_method_1_code 10 = .ok (.aload_n 2, 1) := by decide +kernel
theorem d1_11 : decode prog_14_method_1_code 11 = .ok (.putfield 13, 3) := by decide +kernel
theorem d1_14 : decode prog_14_method_1_code 14 = .ok (.aload_n 0, 1) := by decide +kernel
theorem d1_15 : decode prog_14_method_1_code 15 = .ok (.lload_n 3, 1) := by decide +kernel
theorem d1_16 : decode prog_14_method_1_code 16 = .ok (.putfield 17, 3) := by decide +kernel
theorem d1_19 : decode prog_14_method_1_code 19 = .ok (.aload_n 0, 1) := by decide +kernel
theorem d1_20 : decode prog_14_method_1_code 20 = .ok (.lload 5, 2) := by decide +kernel
theorem d1_22 : decode prog_14_method_1_code 22 = .ok (.putfield 21, 3) := by decide +kernel
theorem d1_25 : decode prog_14_method_1_code 25 = .ok (.return_, 1) := by decide +kernel
theorem own_pn_com_example_minter_minter_core_IssuerKeyStatus : plainName "com/example/minter/minter/core/IssuerKeyStatus" = true := by first | (simp [plainName, overriddenIn]; done) | decide +kernel
theorem own_ef_init (m : MethodId) (x0 : Addr) (x1 : Int32) (x2 : Value) (x3 : Int64) (x4 : Int64) (c2 : x2.isRef = true) : entryFrame m #[(.ref x0), (.int x1), x2, (.long x3), (.long x4)] 7 = mkF m 0 #[.val (.ref x0), .val (.int x1), .val x2, .val (.long x3), .second, .val (.long x4), .second] [] := by rcases ref_cases c2 with rfl | ⟨y2, rfl⟩ <;> first | (simp [entryFrame, mkF, argsToLocals, Value.category]; done) | rfl
def Q_init (Z : State) (a1 : Addr) (p2 : Int32) (u3 : Value) (q4 q5 : Int64) (o1 o2 o3 o4 : Value) (h0 : Heap) (n0 : Nat) (v : Option Value) (h : Heap) (L : List Loc) : Prop := v = none ∧ Fr n0 L ∧ Keep h0 h [a1] ∧ Exa Z h a1 "com/example/minter/minter/core/IssuerKeyStatus" ∧ Fld Z h a1 "com/example/minter/minter/core/IssuerKeyStatus" "held" "Z" (.int p2) ∧ Fld Z h a1 "com/example/minter/minter/core/IssuerKeyStatus" "failure" "Ljava/lang/String;" u3 ∧ Fld Z h a1 "com/example/minter/minter/core/IssuerKeyStatus" "succeeded" "J" (.long q4) ∧ Fld Z h a1 "com/example/minter/minter/core/IssuerKeyStatus" "failed" "J" (.long q5)
set_option maxRecDepth 65536 in
set_option maxHeartbeats 40000000 in
theorem rm_init (l : Launch) (Z : State) (a0 : Array Value) (hw : ∀ d ∈ tables_1, d.before a0 Z = true) (ws : List Jvm.Cond) (a1 : Addr) (p2 : Int32) (u3 : Value) (q4 q5 : Int64) (o1 o2 o3 o4 : Value) (h0 : Heap) (n0 : Nat) (Z0 : n0 ≤ h0.size) (hu3 : u3.isRef = true) (hbo : p2 = 0 ∨ p2 = 1) (E_a1 : Exa Z h0 a1 "com/example/minter/minter/core/IssuerKeyStatus") (F_held : Fld Z h0 a1 "com/example/minter/minter/core/IssuerKeyStatus" "held" "Z" o1) (F_failure : Fld Z h0 a1 "com/example/minter/minter/core/IssuerKeyStatus" "failure" "Ljava/lang/String;" o2) (F_succeeded : Fld Z h0 a1 "com/example/minter/minter/core/IssuerKeyStatus" "succeeded" "J" o3) (F_failed : Fld Z h0 a1 "com/example/minter/minter/core/IssuerKeyStatus" "failed" "J" o4) (g_a1 : n0 ≤ a1) :
    MetFree l (⟨"com/example/minter/minter/core/IssuerKeyStatus", "<init>", "(ZLjava/lang/String;JJ)V"⟩ : MethodName) (head1 (Jvm.Cond.code (⟨"com/example/minter/minter/core/IssuerKeyStatus", "<init>", "(ZLjava/lang/String;JJ)V"⟩ : MethodName) prog_14_method_1_code 7 none :: ws) ({ frames := 2, cells := 0, slots := 0, locals := 24 } : Room)) (fun a U => a = #[(.ref a1), (.int p2), u3, (.long q4), (.long q5)] ∧ Z.Warmed39 U.vm ∧ U.heap = h0) (fun _ _ _ _ _ => True) (fun _ U o U' => ∃ v L, o = .returned v ∧ Q_init Z a1 p2 u3 q4 q5 o1 o2 o3 o4 h0 n0 v U'.heap L ∧ FrameEnd U o U' L ({ frames := 2, cells := 0, slots := 0, locals := 24 } : Room).cells ({ frames := 2, cells := 0, slots := 0, locals := 24 } : Room).slots) := by
  refine MetFree.of_bodySF (plainFor_of_name own_pn_com_example_minter_minter_core_IssuerKeyStatus) hisR ?_
  intro p e s m args below meth c s₁ Bd hml0 hP hK
  obtain ⟨rfl, hZ, hh⟩ := hP
  have hx := Bd.exec
  have hby := Bd.bytes
  have hml : c.maxLocals = 7 := hml0
  have hown : s.vm.findClass "com/example/minter/minter/core/IssuerKeyStatus" = some m.cls := findClass_of_methodNamed Bd.named
  have hnm := (name_of_methodNamed Bd.named Bd.method).1
  have X0 : Stand p l e ({ frames := 2, cells := 0, slots := 0, locals := 24 } : Room) s m #[(.ref a1), (.int p2), u3, (.long q4), (.long q5)] below meth c s₁ [] 0 0 := Stand.of_body Bd
  have e0 : s₁.heap = h0 := by rw [← hh, Bd.state]; rfl
  have N0 := Fr.nil n0
  refine own_start (F0 := fun o U' => ∃ v L, o = .returned v ∧ Q_init Z a1 p2 u3 q4 q5 o1 o2 o3 o4 h0 n0 v U'.heap L ∧ FrameEnd s o U' L ({ frames := 2, cells := 0, slots := 0, locals := 24 } : Room).cells ({ frames := 2, cells := 0, slots := 0, locals := 24 } : Room).slots) fun F hF => ?_
  rw [own_ef_init m a1 p2 u3 q4 q5 hu3]
  have K := Keep.refl h0 [a1]
  refine own_st (V := s₁.setTop (mkF m 1 #[.val (.ref a1), .val (.int p2), .val u3, .val (.long q4), .second, .val (.long q5), .second] [(.ref a1)])) (fun _ hk => XS.aloadN X0.here hx rfl (hb hby d1_0) rfl rfl hk) ?_
  obtain ⟨_, _, ⟨T1, L1, k1, n1⟩, -, X1, ⟨Lc1, hQ1, l1, y1, z1⟩, st1⟩ := X0.specialBack hx (y := (⟨"java/lang/Record", "<init>", "()V"⟩ : MethodName)) rfl hown (mvT hZ (hw _ (List.mem_of_getElem? (i := 6) rfl))) (mvT hZ (hw _ (List.mem_of_getElem? (i := 7) rfl))) (mvT hZ (hw _ (List.mem_of_getElem? (i := 10) rfl))) (by decide) (backOf (W := 0) (rm_record l Z a0 hw [] a1 h0 n0 Z0) hZ (hw _ (List.mem_of_getElem? (i := 10) rfl)) (hw _ (List.mem_of_getElem? (i := 9) rfl)) (by decide) (by decide)) (g := (mkF m 1 #[.val (.ref a1), .val (.int p2), .val u3, .val (.long q4), .second, .val (.long q5), .second] [(.ref a1)])) rfl (by rw [hml]; rfl) (Steps.refl _) (a := a1) (argsL := []) (rest := []) (lenOf own_pd4 rfl) rfl (by show 2 * 0 + _ ≤ _; exact Nat.le_of_eq rfl) (hb hby d1_1) (fun _ _ => ⟨rfl, e0, (by decide : 0 + 0 ≤ _), (by decide : 0 + 0 ≤ _)⟩)
  dsimp only [Pt.U, Pt.locs, Pt.cells, Pt.slots] at X1 l1 y1 z1 st1 hQ1
  subst l1 y1 z1
  obtain ⟨rfl, N1q, es1⟩ := hQ1
  have N1 := Fr.app N0 N1q
  refine own_tr (V := T1.setTop (mkF m 4 #[.val (.ref a1), .val (.int p2), .val u3, .val (.long q4), .second, .val (.long q5), .second] [])) st1 ?_
  refine own_st (V := T1.setTop (mkF m 5 #[.val (.ref a1), .val (.int p2), .val u3, .val (.long q4), .second, .val (.long q5), .second] [(.ref a1)])) (fun _ hk => XS.aloadN X1.here hx rfl (hb hby d1_4) rfl rfl hk) ?_
  refine own_st (V := T1.setTop (mkF m 6 #[.val (.ref a1), .val (.int p2), .val u3, .val (.long q4), .second, .val (.long q5), .second] [(.int p2), (.ref a1)])) (fun _ hk => XS.iloadN X1.here hx rfl (hb hby d1_5) rfl  hk) ?_
  obtain ⟨T2, h2, X2, e2, W2, st2⟩ := putF X1 hx hZ hown (host := "") (Or.inl (hw _ (List.mem_of_getElem? (i := 14) rfl))) Via.refl es1 F_held E_a1 (Or.inr ⟨(hw _ (List.mem_of_getElem? (i := 15) rfl)), rfl, hnm⟩) (hw _ (List.mem_of_getElem? (i := 1) rfl)) (ty := .boolean) (by decide) (own_narB hbo) (own_fitB hbo) (g := (mkF m 6 #[.val (.ref a1), .val (.int p2), .val u3, .val (.long q4), .second, .val (.long q5), .second] [(.int p2), (.ref a1)])) rfl rfl (hb hby d1_6)
  have E_a1 := E_a1.wr W2
  have F_failure := F_failure.other W2 (Or.inr (slot_ne (Or.inr (hw _ (List.mem_of_getElem? (i := 17) rfl))) (Or.inr (hw _ (List.mem_of_getElem? (i := 15) rfl))) (by decide) (t := (.object "java/lang/String")) (t' := .boolean) (by decide) (by decide)))
  have F_succeeded := F_succeeded.other W2 (Or.inr (slot_ne (Or.inr (hw _ (List.mem_of_getElem? (i := 19) rfl))) (Or.inr (hw _ (List.mem_of_getElem? (i := 15) rfl))) (by decide) (t := .long) (t' := .boolean) (by decide) (by decide)))
  have F_failed := F_failed.other W2 (Or.inr (slot_ne (Or.inr (hw _ (List.mem_of_getElem? (i := 21) rfl))) (Or.inr (hw _ (List.mem_of_getElem? (i := 15) rfl))) (by decide) (t := .long) (t' := .boolean) (by decide) (by decide)))
  have F_held := F_held.same W2
  have K := K.wr W2 (Or.inl (List.mem_of_getElem? (i := 0) rfl))
  have N2 := Fr.snoc X2 N1 g_a1
  have Z0 : n0 ≤ h2.size := Nat.le_trans Z0 (Keep.of_wr W2).1
  refine own_st (V := T2.setTop (mkF m 9 #[.val (.ref a1), .val (.int p2), .val u3, .val (.long q4), .second, .val (.long q5), .second] [])) st2 ?_
  refine own_st (V := T2.setTop (mkF m 10 #[.val (.ref a1), .val (.int p2), .val u3, .val (.long q4), .second, .val (.long q5), .second] [(.ref a1)])) (fun _ hk => XS.aloadN X2.here hx rfl (hb hby d1_9) rfl rfl hk) ?_
  refine own_st (V := T2.setTop (mkF m 11 #[.val (.ref a1), .val (.int p2), .val u3, .val (.long q4), .second, .val (.long q5), .second] [u3, (.ref a1)])) (fun _ hk => XS.aloadN X2.here hx rfl (hb hby d1_10) rfl hu3 hk) ?_
  obtain ⟨T3, h3, X3, e3, W3, st3⟩ := putF X2 hx hZ hown (host := "") (Or.inl (hw _ (List.mem_of_getElem? (i := 16) rfl))) Via.refl e2 F_failure E_a1 (Or.inr ⟨(hw _ (List.mem_of_getElem? (i := 17) rfl)), rfl, hnm⟩) (hw _ (List.mem_of_getElem? (i := 1) rfl)) (ty := (.object "java/lang/String")) (by decide) own_narR (own_fitR hu3) (g := (mkF m 11 #[.val (.ref a1), .val (.int p2), .val u3, .val (.long q4), .second, .val (.long q5), .second] [u3, (.ref a1)])) rfl rfl (hb hby d1_11)
  have E_a1 := E_a1.wr W3
  have F_held := F_held.other W3 (Or.inr (slot_ne (Or.inr (hw _ (List.mem_of_getElem? (i := 15) rfl))) (Or.inr (hw _ (List.mem_of_getElem? (i := 17) rfl))) (by decide) (t := .boolean) (t' := (.object "java/lang/String")) (by decide) (by decide)))
  have F_succeeded := F_succeeded.other W3 (Or.inr (slot_ne (Or.inr (hw _ (List.mem_of_getElem? (i := 19) rfl))) (Or.inr (hw _ (List.mem_of_getElem? (i := 17) rfl))) (by decide) (t := .long) (t' := (.object "java/lang/String")) (by decide) (by decide)))
  have F_failed := F_failed.other W3 (Or.inr (slot_ne (Or.inr (hw _ (List.mem_of_getElem? (i := 21) rfl))) (Or.inr (hw _ (List.mem_of_getElem? (i := 17) rfl))) (by decide) (t := .long) (t' := (.object "java/lang/String")) (by decide) (by decide)))
  have F_failure := F_failure.same W3
  have K := K.wr W3 (Or.inl (List.mem_of_getElem? (i := 0) rfl))
  have N3 := Fr.snoc X3 N2 g_a1
  have Z0 : n0 ≤ h3.size := Nat.le_trans Z0 (Keep.of_wr W3).1
  refine own_st (V := T3.setTop (mkF m 14 #[.val (.ref a1), .val (.int p2), .val u3, .val (.long q4), .second, .val (.long q5), .second] [])) st3 ?_
  refine own_st (V := T3.setTop (mkF m 15 #[.val (.ref a1), .val (.int p2), .val u3, .val (.long q4), .second, .val (.long q5), .second] [(.ref a1)])) (fun _ hk => XS.aloadN X3.here hx rfl (hb hby d1_14) rfl rfl hk) ?_
  refine own_st (V := T3.setTop (mkF m 16 #[.val (.ref a1), .val (.int p2), .val u3, .val (.long q4), .second, .val (.long q5), .second] [(.long q4), (.ref a1)])) (fun _ hk => XS.lloadN X3.here hx rfl (hb hby d1_15) rfl  hk) ?_
  obtain ⟨T4, h4, X4, e4, W4, st4⟩ := putF X3 hx hZ hown (host := "") (Or.inl (hw _ (List.mem_of_getElem? (i := 18) rfl))) Via.refl e3 F_succeeded E_a1 (Or.inr ⟨(hw _ (List.mem_of_getElem? (i := 19) rfl)), rfl, hnm⟩) (hw _ (List.mem_of_getElem? (i := 1) rfl)) (ty := .long) (by decide) rfl rfl (g := (mkF m 16 #[.val (.ref a1), .val (.int p2), .val u3, .val (.long q4), .second, .val (.long q5), .second] [(.long q4), (.ref a1)])) rfl rfl (hb hby d1_16)
  have E_a1 := E_a1.wr W4
  have F_held := F_held.other W4 (Or.inr (slot_ne (Or.inr (hw _ (List.mem_of_getElem? (i := 15) rfl))) (Or.inr (hw _ (List.mem_of_getElem? (i := 19) rfl))) (by decide) (t := .boolean) (t' := .long) (by decide) (by decide)))
  have F_failure := F_failure.other W4 (Or.inr (slot_ne (Or.inr (hw _ (List.mem_of_getElem? (i := 17) rfl))) (Or.inr (hw _ (List.mem_of_getElem? (i := 19) rfl))) (by decide) (t := (.object "java/lang/String")) (t' := .long) (by decide) (by decide)))
  have F_failed := F_failed.other W4 (Or.inr (slot_ne (Or.inr (hw _ (List.mem_of_getElem? (i := 21) rfl))) (Or.inr (hw _ (List.mem_of_getElem? (i := 19) rfl))) (by decide) (t := .long) (t' := .long) (by decide) (by decide)))
  have F_succeeded := F_succeeded.same W4
  have K := K.wr W4 (Or.inl (List.mem_of_getElem? (i := 0) rfl))
  have N4 := Fr.snoc X4 N3 g_a1
  have Z0 : n0 ≤ h4.size := Nat.le_trans Z0 (Keep.of_wr W4).1
  refine own_st (V := T4.setTop (mkF m 19 #[.val (.ref a1), .val (.int p2), .val u3, .val (.long q4), .second, .val (.long q5), .second] [])) st4 ?_
  refine own_st (V := T4.setTop (mkF m 20 #[.val (.ref a1), .val (.int p2), .val u3, .val (.long q4), .second, .val (.long q5), .second] [(.ref a1)])) (fun _ hk => XS.aloadN X4.here hx rfl (hb hby d1_19) rfl rfl hk) ?_
  refine own_st (V := T4.setTop (mkF m 22 #[.val (.ref a1), .val (.int p2), .val u3, .val (.long q4), .second, .val (.long q5), .second] [(.long q5), (.ref a1)])) (fun _ hk => XS.lload X4.here hx rfl (hb hby d1_20) rfl  hk) ?_
  obtain ⟨T5, h5, X5, e5, W5, st5⟩ := putF X4 hx hZ hown (host := "") (Or.inl (hw _ (List.mem_of_getElem? (i := 20) rfl))) Via.refl e4 F_failed E_a1 (Or.inr ⟨(hw _ (List.mem_of_getElem? (i := 21) rfl)), rfl, hnm⟩) (hw _ (List.mem_of_getElem? (i := 1) rfl)) (ty := .long) (by decide) rfl rfl (g := (mkF m 22 #[.val (.ref a1), .val (.int p2), .val u3, .val (.long q4), .second, .val (.long q5), .second] [(.long q5), (.ref a1)])) rfl rfl (hb hby d1_22)
  have E_a1 := E_a1.wr W5
  have F_held := F_held.other W5 (Or.inr (slot_ne (Or.inr (hw _ (List.mem_of_getElem? (i := 15) rfl))) (Or.inr (hw _ (List.mem_of_getElem? (i := 21) rfl))) (by decide) (t := .boolean) (t' := .long) (by decide) (by decide)))
  have F_failure := F_failure.other W5 (Or.inr (slot_ne (Or.inr (hw _ (List.mem_of_getElem? (i := 17) rfl))) (Or.inr (hw _ (List.mem_of_getElem? (i := 21) rfl))) (by decide) (t := (.object "java/lang/String")) (t' := .long) (by decide) (by decide)))
  have F_succeeded := F_succeeded.other W5 (Or.inr (slot_ne (Or.inr (hw _ (List.mem_of_getElem? (i := 19) rfl))) (Or.inr (hw _ (List.mem_of_getElem? (i := 21) rfl))) (by decide) (t := .long) (t' := .long) (by decide) (by decide)))
  have F_failed := F_failed.same W5
  have K := K.wr W5 (Or.inl (List.mem_of_getElem? (i := 0) rfl))
  have N5 := Fr.snoc X5 N4 g_a1
  have Z0 : n0 ≤ h5.size := Nat.le_trans Z0 (Keep.of_wr W5).1
  refine own_st (V := T5.setTop (mkF m 25 #[.val (.ref a1), .val (.int p2), .val u3, .val (.long q4), .second, .val (.long q5), .second] [])) st5 ?_
  exact own_retV X5 hx Bd.notSynchronized Bd.returns (hb hby d1_25) (by decide) (by decide) (fun U hU hE => hF _ _ ⟨_, _, rfl, (by rw [hU, e5]; exact ⟨rfl, N5, K, E_a1, F_held, F_failure, F_succeeded, F_failed⟩), hE⟩)
theorem d4_0 : decode prog_14_method_3_code 0 = .ok (.aload_n 1, 1) := by decide +kernel
theorem d4_1 : decode prog_14_method_3_code 1 = .ok (.ifnonnull 25, 3) := by decide +kernel
theorem d4_4 : decode prog_14_method_3_code 4 = .ok (.new 8, 3) := by decide +kernel
theorem d4_7 : decode prog_14_method_3_code 7 = .ok (.dup, 1) := by decide +kernel
theorem d4_8 : decode prog_14_method_3_code 8 = .ok (.iload_n 2, 1) := by decide +kernel
theorem d4_9 : decode prog_14_method_3_code 9 = .ok (.aconst_null, 1) := by decide +kernel
theorem d4_10 : decode prog_14_method_3_code 10 = .ok (.aload_n 0, 1) := by decide +kernel
theorem d4_11 : decode prog_14_method_3_code 11 = .ok (.getfield 17, 3) := by decide +kernel
theorem d4_14 : decode prog_14_method_3_code 14 = .ok (.lconst 1, 1) := by decide +kernel
theorem d4_15 : decode prog_14_method_3_code 15 = .ok (.ladd, 1) := by decide +kernel
theorem d4_16 : decode prog_14_method_3_code 16 = .ok (.aload_n 0, 1) := by decide +kernel
theorem d4_17 : decode prog_14_method_3_code 17 = .ok (.getfield 21, 3) := by decide +kernel
theorem d4_20 : decode prog_14_method_3_code 20 = .ok (.invokespecial 24, 3) := by decide +kernel
theorem own_pd5 : parseMethodDescriptor "(ZLjava/lang/String;JJ)V" = some ⟨[.boolean, (.object "java/lang/String"), .long, .long], none⟩ := by decide +kernel
theorem d4_23 : decode prog_14_method_3_code 23 = .ok (.goto 22, 3) := by decide +kernel
theorem d4_45 : decode prog_14_method_3_code 45 = .ok (.areturn, 1) := by decide +kernel
theorem d4_26 : decode prog_14_method_3_code 26 = .ok (.new 8, 3) := by decide +kernel
theorem d4_29 : decode prog_14_method_3_code 29 = .ok (.dup, 1) := by decide +kernel
theorem d4_30 : decode prog_14_method_3_code 30 = .ok (.iload_n 2, 1) := by decide +kernel
theorem d4_31 : decode prog_14_method_3_code 31 = .ok (.aload_n 1, 1) := by decide +kernel
theorem d4_32 : decode prog_14_method_3_code 32 = .ok (.aload_n 0, 1) := by decide +kernel
theorem d4_33 : decode prog_14_method_3_code 33 = .ok (.getfield 17, 3) := by decide +kernel
theorem d4_36 : decode prog_14_method_3_code 36 = .ok (.aload_n 0, 1) := by decide +kernel
theorem d4_37 : decode prog_14_method_3_code 37 = .ok (.getfield 21, 3) := by decide +kernel
theorem d4_40 : decode prog_14_method_3_code 40 = .ok (.lconst 1, 1) := by decide +kernel
theorem d4_41 : decode prog_14_method_3_code 41 = .ok (.ladd, 1) := by decide +kernel
theorem d4_42 : decode prog_14_method_3_code 42 = .ok (.invokespecial 24, 3) := by decide +kernel
theorem own_ef_after (m : MethodId) (x0 : Addr) (x1 : Value) (x2 : Int32) (c1 : x1.isRef = true) : entryFrame m #[(.ref x0), x1, (.int x2)] 3 = mkF m 0 #[.val (.ref x0), .val x1, .val (.int x2)] [] := by rcases ref_cases c1 with rfl | ⟨y1, rfl⟩ <;> first | (simp [entryFrame, mkF, argsToLocals, Value.category]; done) | rfl
def Q_after (Z : State) (a1 : Addr) (u2 : Value) (p3 : Int32) (q1 q2 : Int64) (h0 : Heap) (n0 : Nat) (v : Option Value) (h : Heap) (L : List Loc) : Prop := ∃ r s' f', v = some (.ref r) ∧ Fr n0 L ∧ Keep h0 h [] ∧ Exa Z h r "com/example/minter/minter/core/IssuerKeyStatus" ∧ Fld Z h r "com/example/minter/minter/core/IssuerKeyStatus" "held" "Z" (.int p3) ∧ Fld Z h r "com/example/minter/minter/core/IssuerKeyStatus" "failure" "Ljava/lang/String;" u2 ∧ Fld Z h r "com/example/minter/minter/core/IssuerKeyStatus" "succeeded" "J" (.long s') ∧ Fld Z h r "com/example/minter/minter/core/IssuerKeyStatus" "failed" "J" (.long f') ∧ ((u2 = .null ∧ s' = q1 + 1 ∧ f' = q2) ∨ ((∃ x, u2 = .ref x) ∧ s' = q1 ∧ f' = q2 + 1))
set_option maxRecDepth 65536 in
set_option maxHeartbeats 40000000 in
theorem rm_after (l : Launch) (Z : State) (a0 : Array Value) (hw : ∀ d ∈ tables_1, d.before a0 Z = true) (ws : List Jvm.Cond) (a1 : Addr) (u2 : Value) (p3 : Int32) (q1 q2 : Int64) (h0 : Heap) (n0 : Nat) (Z0 : n0 ≤ h0.size) (hu2 : u2.isRef = true) (hbo : p3 = 0 ∨ p3 = 1) (F_s : Fld Z h0 a1 "com/example/minter/minter/core/IssuerKeyStatus" "succeeded" "J" (.long q1)) (F_f : Fld Z h0 a1 "com/example/minter/minter/core/IssuerKeyStatus" "failed" "J" (.long q2)) :
    MetFree l (⟨"com/example/minter/minter/core/IssuerKeyStatus", "after", "(Ljava/lang/String;Z)Lcom/example/minter/minter/core/IssuerKeyStatus;"⟩ : MethodName) (head1 (Jvm.Cond.code (⟨"com/example/minter/minter/core/IssuerKeyStatus", "after", "(Ljava/lang/String;Z)Lcom/example/minter/minter/core/IssuerKeyStatus;"⟩ : MethodName) prog_14_method_3_code 3 (some (.object "com/example/minter/minter/core/IssuerKeyStatus")) :: ws) ({ frames := 3, cells := 1, slots := 4, locals := 43 } : Room)) (fun a U => a = #[(.ref a1), u2, (.int p3)] ∧ Z.Warmed39 U.vm ∧ U.heap = h0) (fun _ _ _ _ _ => True) (fun _ U o U' => ∃ v L, o = .returned v ∧ Q_after Z a1 u2 p3 q1 q2 h0 n0 v U'.heap L ∧ FrameEnd U o U' L ({ frames := 3, cells := 1, slots := 4, locals := 43 } : Room).cells ({ frames := 3, cells := 1, slots := 4, locals := 43 } : Room).slots) := by
  refine MetFree.of_bodySF (plainFor_of_name own_pn_com_example_minter_minter_core_IssuerKeyStatus) hisR ?_
  intro p e s m args below meth c s₁ Bd hml0 hP hK
  obtain ⟨rfl, hZ, hh⟩ := hP
  have hx := Bd.exec
  have hby := Bd.bytes
  have hml : c.maxLocals = 3 := hml0
  have hown : s.vm.findClass "com/example/minter/minter/core/IssuerKeyStatus" = some m.cls := findClass_of_methodNamed Bd.named
  have hnm := (name_of_methodNamed Bd.named Bd.method).1
  have X0 : Stand p l e ({ frames := 3, cells := 1, slots := 4, locals := 43 } : Room) s m #[(.ref a1), u2, (.int p3)] below meth c s₁ [] 0 0 := Stand.of_body Bd
  have e0 : s₁.heap = h0 := by rw [← hh, Bd.state]; rfl
  have N0 := Fr.nil n0
  refine own_start (F0 := fun o U' => ∃ v L, o = .returned v ∧ Q_after Z a1 u2 p3 q1 q2 h0 n0 v U'.heap L ∧ FrameEnd s o U' L ({ frames := 3, cells := 1, slots := 4, locals := 43 } : Room).cells ({ frames := 3, cells := 1, slots := 4, locals := 43 } : Room).slots) fun F hF => ?_
  rw [own_ef_after m a1 u2 p3 hu2]
  have K := Keep.refl h0 []
  rcases ref_cases hu2 with rfl | ⟨r2, rfl⟩
  · skip
    refine own_st (V := s₁.setTop (mkF m 1 #[.val (.ref a1), .val .null, .val (.int p3)] [.null])) (fun _ hk => XS.aloadN X0.here hx rfl (hb hby d4_0) rfl rfl hk) ?_
    refine own_st (V := s₁.setTop (mkF m 4 #[.val (.ref a1), .val .null, .val (.int p3)] [])) (fun _ hk => XS.ifnonnullNo X0.here hx rfl (hb hby d4_1) rfl hk) ?_
    obtain ⟨T1, h1, X1, e1, E1, A1, D1, -, st1⟩ := newO X0 hx hZ hown (hw _ (List.mem_of_getElem? (i := 27) rfl)) (hw _ (List.mem_of_getElem? (i := 1) rfl)) (hw _ (List.mem_of_getElem? (i := 2) rfl)) e0 (g := (mkF m 4 #[.val (.ref a1), .val .null, .val (.int p3)] [])) rfl (hb hby d4_4) (by decide) (by decide)
    obtain ⟨b1, g1⟩ : ∃ z, z = h0.size := ⟨_, rfl⟩
    rw [← g1] at A1 D1 st1
    have ne_a1_b1 : a1 ≠ b1 := Nat.ne_of_lt (Nat.lt_of_lt_of_le F_s.lt (Nat.le_of_eq g1.symm))
    have ne_b1_a1 : b1 ≠ a1 := Ne.symm ne_a1_b1
    have g_b1 : n0 ≤ b1 := Nat.le_trans Z0 (Nat.le_of_eq g1.symm)
    have sz_b1 : h0.size ≤ b1 := Nat.le_trans K.1 (Nat.le_of_eq g1.symm)
    have F_s := F_s.ext E1
    have F_f := F_f.ext E1
    have K := K.ext E1
    have Z0 : n0 ≤ h1.size := Nat.le_trans Z0 E1.1
    have E_b1 := A1
    have F_held_b1 : Fld Z h1 b1 "com/example/minter/minter/core/IssuerKeyStatus" "held" "Z" (.int (0 : Int32)) := D1 (Or.inr (hw _ (List.mem_of_getElem? (i := 15) rfl))) (ty := .boolean) (by decide)
    have F_failure_b1 : Fld Z h1 b1 "com/example/minter/minter/core/IssuerKeyStatus" "failure" "Ljava/lang/String;" .null := D1 (Or.inr (hw _ (List.mem_of_getElem? (i := 17) rfl))) (ty := (.object "java/lang/String")) (by decide)
    have F_succeeded_b1 : Fld Z h1 b1 "com/example/minter/minter/core/IssuerKeyStatus" "succeeded" "J" (.long (0 : Int64)) := D1 (Or.inr (hw _ (List.mem_of_getElem? (i := 19) rfl))) (ty := .long) (by decide)
    have F_failed_b1 : Fld Z h1 b1 "com/example/minter/minter/core/IssuerKeyStatus" "failed" "J" (.long (0 : Int64)) := D1 (Or.inr (hw _ (List.mem_of_getElem? (i := 21) rfl))) (ty := .long) (by decide)
    refine own_st (V := T1.setTop (mkF m 7 #[.val (.ref a1), .val .null, .val (.int p3)] [(.ref b1)])) st1 ?_
    refine own_st (V := T1.setTop (mkF m 8 #[.val (.ref a1), .val .null, .val (.int p3)] [(.ref b1), (.ref b1)])) (fun _ hk => XS.dup X1.here hx rfl (hb hby d4_7) rfl rfl hk) ?_
    refine own_st (V := T1.setTop (mkF m 9 #[.val (.ref a1), .val .null, .val (.int p3)] [(.int p3), (.ref b1), (.ref b1)])) (fun _ hk => XS.iloadN X1.here hx rfl (hb hby d4_8) rfl  hk) ?_
    refine own_st (V := T1.setTop (mkF m 10 #[.val (.ref a1), .val .null, .val (.int p3)] [.null, (.int p3), (.ref b1), (.ref b1)])) (fun _ hk => XS.aconstNull X1.here hx rfl (hb hby d4_9) hk) ?_
    refine own_st (V := T1.setTop (mkF m 11 #[.val (.ref a1), .val .null, .val (.int p3)] [(.ref a1), .null, (.int p3), (.ref b1), (.ref b1)])) (fun _ hk => XS.aloadN X1.here hx rfl (hb hby d4_10) rfl rfl hk) ?_
    obtain ⟨T2, X2, e2, st2⟩ := getF X1 hx hZ hown (host := "") (Or.inl (hw _ (List.mem_of_getElem? (i := 18) rfl))) Via.refl e1 F_s (g := (mkF m 11 #[.val (.ref a1), .val .null, .val (.int p3)] [(.ref a1), .null, (.int p3), (.ref b1), (.ref b1)])) rfl rfl (hb hby d4_11)
    refine own_st (V := T2.setTop (mkF m 14 #[.val (.ref a1), .val .null, .val (.int p3)] [(.long q1), .null, (.int p3), (.ref b1), (.ref b1)])) st2 ?_
    refine own_st (V := T2.setTop (mkF m 15 #[.val (.ref a1), .val .null, .val (.int p3)] [(.long (1 : Int64)), (.long q1), .null, (.int p3), (.ref b1), (.ref b1)])) (fun _ hk => XS.lconst X2.here hx rfl (hb hby d4_14) hk) ?_
    refine own_st (V := T2.setTop (mkF m 16 #[.val (.ref a1), .val .null, .val (.int p3)] [(.long (q1 + (1 : Int64))), .null, (.int p3), (.ref b1), (.ref b1)])) (fun _ hk => XS.ladd X2.here hx rfl (hb hby d4_15) rfl hk) ?_
    refine own_st (V := T2.setTop (mkF m 17 #[.val (.ref a1), .val .null, .val (.int p3)] [(.ref a1), (.long (q1 + (1 : Int64))), .null, (.int p3), (.ref b1), (.ref b1)])) (fun _ hk => XS.aloadN X2.here hx rfl (hb hby d4_16) rfl rfl hk) ?_
    obtain ⟨T3, X3, e3, st3⟩ := getF X2 hx hZ hown (host := "") (Or.inl (hw _ (List.mem_of_getElem? (i := 20) rfl))) Via.refl e2 F_f (g := (mkF m 17 #[.val (.ref a1), .val .null, .val (.int p3)] [(.ref a1), (.long (q1 + (1 : Int64))), .null, (.int p3), (.ref b1), (.ref b1)])) rfl rfl (hb hby d4_17)
    refine own_st (V := T3.setTop (mkF m 20 #[.val (.ref a1), .val .null, .val (.int p3)] [(.long q2), (.long (q1 + (1 : Int64))), .null, (.int p3), (.ref b1), (.ref b1)])) st3 ?_
    obtain ⟨_, _, ⟨T4, L4, k4, n4⟩, -, X4, ⟨Lc4, hQ4, l4, y4, z4⟩, st4⟩ := X3.specialBack hx (y := (⟨"com/example/minter/minter/core/IssuerKeyStatus", "<init>", "(ZLjava/lang/String;JJ)V"⟩ : MethodName)) rfl hown (mvT hZ (hw _ (List.mem_of_getElem? (i := 28) rfl))) (mvT hZ (hw _ (List.mem_of_getElem? (i := 4) rfl))) (mvT hZ (hw _ (List.mem_of_getElem? (i := 5) rfl))) (by decide) (backOf (W := 1) (rm_init l Z a0 hw [] b1 p3 .null (q1 + (1 : Int64)) q2 _ _ _ _ h1 n0 Z0 rfl hbo E_b1 F_held_b1 F_failure_b1 F_succeeded_b1 F_failed_b1 g_b1) hZ (hw _ (List.mem_of_getElem? (i := 5) rfl)) (hw _ (List.mem_of_getElem? (i := 2) rfl)) (by decide) (by decide)) (g := (mkF m 20 #[.val (.ref a1), .val .null, .val (.int p3)] [(.long q2), (.long (q1 + (1 : Int64))), .null, (.int p3), (.ref b1), (.ref b1)])) rfl (by rw [hml]; rfl) (Steps.refl _) (a := b1) (argsL := [(.int p3), .null, (.long (q1 + (1 : Int64))), (.long q2)]) (rest := [(.ref b1)]) (lenOf own_pd5 rfl) rfl (by show 2 * 0 + _ ≤ _; exact Nat.le_of_eq rfl) (hb hby d4_20) (fun _ _ => ⟨rfl, e3, (by decide : 1 + 0 ≤ _), (by decide : 4 + 0 ≤ _)⟩)
    dsimp only [Pt.U, Pt.locs, Pt.cells, Pt.slots] at X4 l4 y4 z4 st4 hQ4
    subst l4 y4 z4
    obtain ⟨rfl, N4q, Kc, Ec, Fc1, Fc2, Fc3, Fc4⟩ := hQ4
    have N4 := Fr.app N0 N4q
    refine own_tr (V := T4.setTop (mkF m 23 #[.val (.ref a1), .val .null, .val (.int p3)] [(.ref b1)])) st4 ?_
    have F_s := F_s.keep Kc (ninS ne_a1_b1 nin0)
    have F_f := F_f.keep Kc (ninS ne_a1_b1 nin0)
    have E_b1 := E_b1.keep Kc
    have Z0 : n0 ≤ T4.heap.size := Nat.le_trans Z0 Kc.1
    have K := K.trans Kc (allS (Or.inr sz_b1) all0)
    refine own_st (V := T4.setTop (mkF m 45 #[.val (.ref a1), .val .null, .val (.int p3)] [(.ref b1)])) (fun _ hk => XS.goto X4.here hx rfl (pc0 := 23) (pc' := 45) rfl (hb hby d4_23) (by decide) (by decide) hk) ?_
    exact own_retA X4 hx Bd.notSynchronized Bd.returns rfl rfl (hb hby d4_45) (by decide) (by decide) (fun U hU hE => hF _ _ ⟨_, _, rfl, (by rw [hU]; exact ⟨_, _, _, rfl, N4, K, Ec, Fc1, Fc2, Fc3, Fc4, Or.inl ⟨rfl, rfl, rfl⟩⟩), hE⟩)
  · skip
    refine own_st (V := s₁.setTop (mkF m 1 #[.val (.ref a1), .val (.ref r2), .val (.int p3)] [(.ref r2)])) (fun _ hk => XS.aloadN X0.here hx rfl (hb hby d4_0) rfl rfl hk) ?_
    refine own_st (V := s₁.setTop (mkF m 26 #[.val (.ref a1), .val (.ref r2), .val (.int p3)] [])) (fun _ hk => XS.ifnonnullYes X0.here hx rfl (pc0 := 1) (pc' := 26) rfl (hb hby d4_1) rfl (by decide) (by decide) hk) ?_
    obtain ⟨T5, h5, X5, e5, E5, A5, D5, -, st5⟩ := newO X0 hx hZ hown (hw _ (List.mem_of_getElem? (i := 27) rfl)) (hw _ (List.mem_of_getElem? (i := 1) rfl)) (hw _ (List.mem_of_getElem? (i := 2) rfl)) e0 (g := (mkF m 26 #[.val (.ref a1), .val (.ref r2), .val (.int p3)] [])) rfl (hb hby d4_26) (by decide) (by decide)
    obtain ⟨b5, g5⟩ : ∃ z, z = h0.size := ⟨_, rfl⟩
    rw [← g5] at A5 D5 st5
    have ne_a1_b5 : a1 ≠ b5 := Nat.ne_of_lt (Nat.lt_of_lt_of_le F_s.lt (Nat.le_of_eq g5.symm))
    have ne_b5_a1 : b5 ≠ a1 := Ne.symm ne_a1_b5
    have g_b5 : n0 ≤ b5 := Nat.le_trans Z0 (Nat.le_of_eq g5.symm)
    have sz_b5 : h0.size ≤ b5 := Nat.le_trans K.1 (Nat.le_of_eq g5.symm)
    have F_s := F_s.ext E5
    have F_f := F_f.ext E5
    have K := K.ext E5
    have Z0 : n0 ≤ h5.size := Nat.le_trans Z0 E5.1
    have E_b5 := A5
    have F_held_b5 : Fld Z h5 b5 "com/example/minter/minter/core/IssuerKeyStatus" "held" "Z" (.int (0 : Int32)) := D5 (Or.inr (hw _ (List.mem_of_getElem? (i := 15) rfl))) (ty := .boolean) (by decide)
    have F_failure_b5 : Fld Z h5 b5 "com/example/minter/minter/core/IssuerKeyStatus" "failure" "Ljava/lang/String;" .null := D5 (Or.inr (hw _ (List.mem_of_getElem? (i := 17) rfl))) (ty := (.object "java/lang/String")) (by decide)
    have F_succeeded_b5 : Fld Z h5 b5 "com/example/minter/minter/core/IssuerKeyStatus" "succeeded" "J" (.long (0 : Int64)) := D5 (Or.inr (hw _ (List.mem_of_getElem? (i := 19) rfl))) (ty := .long) (by decide)
    have F_failed_b5 : Fld Z h5 b5 "com/example/minter/minter/core/IssuerKeyStatus" "failed" "J" (.long (0 : Int64)) := D5 (Or.inr (hw _ (List.mem_of_getElem? (i := 21) rfl))) (ty := .long) (by decide)
    refine own_st (V := T5.setTop (mkF m 29 #[.val (.ref a1), .val (.ref r2), .val (.int p3)] [(.ref b5)])) st5 ?_
    refine own_st (V := T5.setTop (mkF m 30 #[.val (.ref a1), .val (.ref r2), .val (.int p3)] [(.ref b5), (.ref b5)])) (fun _ hk => XS.dup X5.here hx rfl (hb hby d4_29) rfl rfl hk) ?_
    refine own_st (V := T5.setTop (mkF m 31 #[.val (.ref a1), .val (.ref r2), .val (.int p3)] [(.int p3), (.ref b5), (.ref b5)])) (fun _ hk => XS.iloadN X5.here hx rfl (hb hby d4_30) rfl  hk) ?_
    refine own_st (V := T5.setTop (mkF m 32 #[.val (.ref a1), .val (.ref r2), .val (.int p3)] [(.ref r2), (.int p3), (.ref b5), (.ref b5)])) (fun _ hk => XS.aloadN X5.here hx rfl (hb hby d4_31) rfl rfl hk) ?_
    refine own_st (V := T5.setTop (mkF m 33 #[.val (.ref a1), .val (.ref r2), .val (.int p3)] [(.ref a1), (.ref r2), (.int p3), (.ref b5), (.ref b5)])) (fun _ hk => XS.aloadN X5.here hx rfl (hb hby d4_32) rfl rfl hk) ?_
    obtain ⟨T6, X6, e6, st6⟩ := getF X5 hx hZ hown (host := "") (Or.inl (hw _ (List.mem_of_getElem? (i := 18) rfl))) Via.refl e5 F_s (g := (mkF m 33 #[.val (.ref a1), .val (.ref r2), .val (.int p3)] [(.ref a1), (.ref r2), (.int p3), (.ref b5), (.ref b5)])) rfl rfl (hb hby d4_33)
    refine own_st (V := T6.setTop (mkF m 36 #[.val (.ref a1), .val (.ref r2), .val (.int p3)] [(.long q1), (.ref r2), (.int p3), (.ref b5), (.ref b5)])) st6 ?_
    refine own_st (V := T6.setTop (mkF m 37 #[.val (.ref a1), .val (.ref r2), .val (.int p3)] [(.ref a1), (.long q1), (.ref r2), (.int p3), (.ref b5), (.ref b5)])) (fun _ hk => XS.aloadN X6.here hx rfl (hb hby d4_36) rfl rfl hk) ?_
    obtain ⟨T7, X7, e7, st7⟩ := getF X6 hx hZ hown (host := "") (Or.inl (hw _ (List.mem_of_getElem? (i := 20) rfl))) Via.refl e6 F_f (g := (mkF m 37 #[.val (.ref a1), .val (.ref r2), .val (.int p3)] [(.ref a1), (.long q1), (.ref r2), (.int p3), (.ref b5), (.ref b5)])) rfl rfl (hb hby d4_37)
    refine own_st (V := T7.setTop (mkF m 40 #[.val (.ref a1), .val (.ref r2), .val (.int p3)] [(.long q2), (.long q1), (.ref r2), (.int p3), (.ref b5), (.ref b5)])) st7 ?_
    refine own_st (V := T7.setTop (mkF m 41 #[.val (.ref a1), .val (.ref r2), .val (.int p3)] [(.long (1 : Int64)), (.long q2), (.long q1), (.ref r2), (.int p3), (.ref b5), (.ref b5)])) (fun _ hk => XS.lconst X7.here hx rfl (hb hby d4_40) hk) ?_
    refine own_st (V := T7.setTop (mkF m 42 #[.val (.ref a1), .val (.ref r2), .val (.int p3)] [(.long (q2 + (1 : Int64))), (.long q1), (.ref r2), (.int p3), (.ref b5), (.ref b5)])) (fun _ hk => XS.ladd X7.here hx rfl (hb hby d4_41) rfl hk) ?_
    obtain ⟨_, _, ⟨T8, L8, k8, n8⟩, -, X8, ⟨Lc8, hQ8, l8, y8, z8⟩, st8⟩ := X7.specialBack hx (y := (⟨"com/example/minter/minter/core/IssuerKeyStatus", "<init>", "(ZLjava/lang/String;JJ)V"⟩ : MethodName)) rfl hown (mvT hZ (hw _ (List.mem_of_getElem? (i := 28) rfl))) (mvT hZ (hw _ (List.mem_of_getElem? (i := 4) rfl))) (mvT hZ (hw _ (List.mem_of_getElem? (i := 5) rfl))) (by decide) (backOf (W := 1) (rm_init l Z a0 hw [] b5 p3 (.ref r2) q1 (q2 + (1 : Int64)) _ _ _ _ h5 n0 Z0 rfl hbo E_b5 F_held_b5 F_failure_b5 F_succeeded_b5 F_failed_b5 g_b5) hZ (hw _ (List.mem_of_getElem? (i := 5) rfl)) (hw _ (List.mem_of_getElem? (i := 2) rfl)) (by decide) (by decide)) (g := (mkF m 42 #[.val (.ref a1), .val (.ref r2), .val (.int p3)] [(.long (q2 + (1 : Int64))), (.long q1), (.ref r2), (.int p3), (.ref b5), (.ref b5)])) rfl (by rw [hml]; rfl) (Steps.refl _) (a := b5) (argsL := [(.int p3), (.ref r2), (.long q1), (.long (q2 + (1 : Int64)))]) (rest := [(.ref b5)]) (lenOf own_pd5 rfl) rfl (by show 2 * 0 + _ ≤ _; exact Nat.le_of_eq rfl) (hb hby d4_42) (fun _ _ => ⟨rfl, e7, (by decide : 1 + 0 ≤ _), (by decide : 4 + 0 ≤ _)⟩)
    dsimp only [Pt.U, Pt.locs, Pt.cells, Pt.slots] at X8 l8 y8 z8 st8 hQ8
    subst l8 y8 z8
    obtain ⟨rfl, N8q, Kc, Ec, Fc1, Fc2, Fc3, Fc4⟩ := hQ8
    have N8 := Fr.app N0 N8q
    refine own_tr (V := T8.setTop (mkF m 45 #[.val (.ref a1), .val (.ref r2), .val (.int p3)] [(.ref b5)])) st8 ?_
    have F_s := F_s.keep Kc (ninS ne_a1_b5 nin0)
    have F_f := F_f.keep Kc (ninS ne_a1_b5 nin0)
    have E_b5 := E_b5.keep Kc
    have Z0 : n0 ≤ T8.heap.size := Nat.le_trans Z0 Kc.1
    have K := K.trans Kc (allS (Or.inr sz_b5) all0)
    exact own_retA X8 hx Bd.notSynchronized Bd.returns rfl rfl (hb hby d4_45) (by decide) (by decide) (fun U hU hE => hF _ _ ⟨_, _, rfl, (by rw [hU]; exact ⟨_, _, _, rfl, N8, K, Ec, Fc1, Fc2, Fc3, Fc4, Or.inr ⟨⟨_, rfl⟩, rfl, rfl⟩⟩), hE⟩)
theorem d5_0 : decode prog_14_method_7_code 0 = .ok (.aload_n 0, 1) := by decide +kernel
theorem d5_1 : decode prog_14_method_7_code 1 = .ok (.getfield 7, 3) := by decide +kernel
theorem d5_4 : decode prog_14_method_7_code 4 = .ok (.ireturn, 1) := by decide +kernel
theorem own_ef_get_held (m : MethodId) (x0 : Addr) : entryFrame m #[(.ref x0)] 1 = mkF m 0 #[.val (.ref x0)] [] := by first | (simp [entryFrame, mkF, argsToLocals, Value.category]; done) | rfl
def Q_get_held (Z : State) (a1 : Addr) (p1 : Int32) (h0 : Heap) (n0 : Nat) (v : Option Value) (h : Heap) (L : List Loc) : Prop := v = some (.int p1) ∧ Fr n0 L ∧ h = h0
set_option maxRecDepth 65536 in
set_option maxHeartbeats 40000000 in
theorem rm_get_held (l : Launch) (Z : State) (a0 : Array Value) (hw : ∀ d ∈ tables_1, d.before a0 Z = true) (ws : List Jvm.Cond) (a1 : Addr) (p1 : Int32) (h0 : Heap) (n0 : Nat) (Z0 : n0 ≤ h0.size) (F_1 : Fld Z h0 a1 "com/example/minter/minter/core/IssuerKeyStatus" "held" "Z" (.int p1)) (hbo : p1 = 0 ∨ p1 = 1) :
    MetFree l (⟨"com/example/minter/minter/core/IssuerKeyStatus", "held", "()Z"⟩ : MethodName) (head1 (Jvm.Cond.code (⟨"com/example/minter/minter/core/IssuerKeyStatus", "held", "()Z"⟩ : MethodName) prog_14_method_7_code 1 (some .boolean) :: ws) ({ frames := 0, cells := 0, slots := 0, locals := 0 } : Room)) (fun a U => a = #[(.ref a1)] ∧ Z.Warmed39 U.vm ∧ U.heap = h0) (fun _ _ _ _ _ => True) (fun _ U o U' => ∃ v L, o = .returned v ∧ Q_get_held Z a1 p1 h0 n0 v U'.heap L ∧ FrameEnd U o U' L ({ frames := 0, cells := 0, slots := 0, locals := 0 } : Room).cells ({ frames := 0, cells := 0, slots := 0, locals := 0 } : Room).slots) := by
  refine MetFree.of_bodySF (plainFor_of_name own_pn_com_example_minter_minter_core_IssuerKeyStatus) hisR ?_
  intro p e s m args below meth c s₁ Bd hml0 hP hK
  obtain ⟨rfl, hZ, hh⟩ := hP
  have hx := Bd.exec
  have hby := Bd.bytes
  have hml : c.maxLocals = 1 := hml0
  have hown : s.vm.findClass "com/example/minter/minter/core/IssuerKeyStatus" = some m.cls := findClass_of_methodNamed Bd.named
  have hnm := (name_of_methodNamed Bd.named Bd.method).1
  have X0 : Stand p l e ({ frames := 0, cells := 0, slots := 0, locals := 0 } : Room) s m #[(.ref a1)] below meth c s₁ [] 0 0 := Stand.of_body Bd
  have e0 : s₁.heap = h0 := by rw [← hh, Bd.state]; rfl
  have N0 := Fr.nil n0
  refine own_start (F0 := fun o U' => ∃ v L, o = .returned v ∧ Q_get_held Z a1 p1 h0 n0 v U'.heap L ∧ FrameEnd s o U' L ({ frames := 0, cells := 0, slots := 0, locals := 0 } : Room).cells ({ frames := 0, cells := 0, slots := 0, locals := 0 } : Room).slots) fun F hF => ?_
  rw [own_ef_get_held m a1]
  refine own_st (V := s₁.setTop (mkF m 1 #[.val (.ref a1)] [(.ref a1)])) (fun _ hk => XS.aloadN X0.here hx rfl (hb hby d5_0) rfl rfl hk) ?_
  obtain ⟨T1, X1, e1, st1⟩ := getF X0 hx hZ hown (host := "") (Or.inl (hw _ (List.mem_of_getElem? (i := 14) rfl))) Via.refl e0 F_1 (g := (mkF m 1 #[.val (.ref a1)] [(.ref a1)])) rfl rfl (hb hby d5_1)
  refine own_st (V := T1.setTop (mkF m 4 #[.val (.ref a1)] [(.int p1)])) st1 ?_
  exact own_retN X1 hx Bd.notSynchronized Bd.returns (own_narB hbo) (by simp) (hb hby d5_4) (by decide) (by decide) (fun U hU hE => hF _ _ ⟨_, _, rfl, (by rw [hU, e1]; exact ⟨rfl, N0, rfl⟩), hE⟩)
theorem d6_0 : decode prog_14_method_8_code 0 = .ok (.aload_n 0, 1) := by decide +kernel
theorem d6_1 : decode prog_14_method_8_code 1 = .ok (.getfield 13, 3) := by decide +kernel
theorem d6_4 : decode prog_14_method_8_code 4 = .ok (.areturn, 1) := by decide +kernel
theorem own_ef_get_failure (m : MethodId) (x0 : Addr) : entryFrame m #[(.ref x0)] 1 = mkF m 0 #[.val (.ref x0)] [] := by first | (simp [entryFrame, mkF, argsToLocals, Value.category]; done) | rfl
def Q_get_failure (Z : State) (a1 : Addr) (u1 : Value) (h0 : Heap) (n0 : Nat) (v : Option Value) (h : Heap) (L : List Loc) : Prop := v = some u1 ∧ Fr n0 L ∧ h = h0
set_option maxRecDepth 65536 in
set_option maxHeartbeats 40000000 in
theorem rm_get_failure (l : Launch) (Z : State) (a0 : Array Value) (hw : ∀ d ∈ tables_1, d.before a0 Z = true) (ws : List Jvm.Cond) (a1 : Addr) (u1 : Value) (h0 : Heap) (n0 : Nat) (Z0 : n0 ≤ h0.size) (F_1 : Fld Z h0 a1 "com/example/minter/minter/core/IssuerKeyStatus" "failure" "Ljava/lang/String;" u1) (hu1 : u1.isRef = true) :
    MetFree l (⟨"com/example/minter/minter/core/IssuerKeyStatus", "failure", "()Ljava/lang/String;"⟩ : MethodName) (head1 (Jvm.Cond.code (⟨"com/example/minter/minter/core/IssuerKeyStatus", "failure", "()Ljava/lang/String;"⟩ : MethodName) prog_14_method_8_code 1 (some (.object "java/lang/String")) :: ws) ({ frames := 0, cells := 0, slots := 0, locals := 0 } : Room)) (fun a U => a = #[(.ref a1)] ∧ Z.Warmed39 U.vm ∧ U.heap = h0) (fun _ _ _ _ _ => True) (fun _ U o U' => ∃ v L, o = .returned v ∧ Q_get_failure Z a1 u1 h0 n0 v U'.heap L ∧ FrameEnd U o U' L ({ frames := 0, cells := 0, slots := 0, locals := 0 } : Room).cells ({ frames := 0, cells := 0, slots := 0, locals := 0 } : Room).slots) := by
  refine MetFree.of_bodySF (plainFor_of_name own_pn_com_example_minter_minter_core_IssuerKeyStatus) hisR ?_
  intro p e s m args below meth c s₁ Bd hml0 hP hK
  obtain ⟨rfl, hZ, hh⟩ := hP
  have hx := Bd.exec
  have hby := Bd.bytes
  have hml : c.maxLocals = 1 := hml0
  have hown : s.vm.findClass "com/example/minter/minter/core/IssuerKeyStatus" = some m.cls := findClass_of_methodNamed Bd.named
  have hnm := (name_of_methodNamed Bd.named Bd.method).1
  have X0 : Stand p l e ({ frames := 0, cells := 0, slots := 0, locals := 0 } : Room) s m #[(.ref a1)] below meth c s₁ [] 0 0 := Stand.of_body Bd
  have e0 : s₁.heap = h0 := by rw [← hh, Bd.state]; rfl
  have N0 := Fr.nil n0
  refine own_start (F0 := fun o U' => ∃ v L, o = .returned v ∧ Q_get_failure Z a1 u1 h0 n0 v U'.heap L ∧ FrameEnd s o U' L ({ frames := 0, cells := 0, slots := 0, locals := 0 } : Room).cells ({ frames := 0, cells := 0, slots := 0, locals := 0 } : Room).slots) fun F hF => ?_
  rw [own_ef_get_failure m a1]
  refine own_st (V := s₁.setTop (mkF m 1 #[.val (.ref a1)] [(.ref a1)])) (fun _ hk => XS.aloadN X0.here hx rfl (hb hby d6_0) rfl rfl hk) ?_
  obtain ⟨T1, X1, e1, st1⟩ := getF X0 hx hZ hown (host := "") (Or.inl (hw _ (List.mem_of_getElem? (i := 16) rfl))) Via.refl e0 F_1 (g := (mkF m 1 #[.val (.ref a1)] [(.ref a1)])) rfl rfl (hb hby d6_1)
  refine own_st (V := T1.setTop (mkF m 4 #[.val (.ref a1)] [u1])) st1 ?_
  exact own_retA X1 hx Bd.notSynchronized Bd.returns rfl hu1 (hb hby d6_4) (by decide) (by decide) (fun U hU hE => hF _ _ ⟨_, _, rfl, (by rw [hU, e1]; exact ⟨rfl, N0, rfl⟩), hE⟩)
theorem d7_0 : decode prog_14_method_9_code 0 = .ok (.aload_n 0, 1) := by decide +kernel
theorem d7_1 : decode prog_14_method_9_code 1 = .ok (.getfield 17, 3) := by decide +kernel
theorem d7_4 : decode prog_14_method_9_code 4 = .ok (.lreturn, 1) := by decide +kernel
theorem own_ef_get_succeeded (m : MethodId) (x0 : Addr) : entryFrame m #[(.ref x0)] 1 = mkF m 0 #[.val (.ref x0)] [] := by first | (simp [entryFrame, mkF, argsToLocals, Value.category]; done) | rfl
def Q_get_succeeded (Z : State) (a1 : Addr) (q1 : Int64) (h0 : Heap) (n0 : Nat) (v : Option Value) (h : Heap) (L : List Loc) : Prop := v = some (.long q1) ∧ Fr n0 L ∧ h = h0
set_option maxRecDepth 65536 in
set_option maxHeartbeats 40000000 in
theorem rm_get_succeeded (l : Launch) (Z : State) (a0 : Array Value) (hw : ∀ d ∈ tables_1, d.before a0 Z = true) (ws : List Jvm.Cond) (a1 : Addr) (q1 : Int64) (h0 : Heap) (n0 : Nat) (Z0 : n0 ≤ h0.size) (F_1 : Fld Z h0 a1 "com/example/minter/minter/core/IssuerKeyStatus" "succeeded" "J" (.long q1)) :
    MetFree l (⟨"com/example/minter/minter/core/IssuerKeyStatus", "succeeded", "()J"⟩ : MethodName) (head1 (Jvm.Cond.code (⟨"com/example/minter/minter/core/IssuerKeyStatus", "succeeded", "()J"⟩ : MethodName) prog_14_method_9_code 1 (some .long) :: ws) ({ frames := 0, cells := 0, slots := 0, locals := 0 } : Room)) (fun a U => a = #[(.ref a1)] ∧ Z.Warmed39 U.vm ∧ U.heap = h0) (fun _ _ _ _ _ => True) (fun _ U o U' => ∃ v L, o = .returned v ∧ Q_get_succeeded Z a1 q1 h0 n0 v U'.heap L ∧ FrameEnd U o U' L ({ frames := 0, cells := 0, slots := 0, locals := 0 } : Room).cells ({ frames := 0, cells := 0, slots := 0, locals := 0 } : Room).slots) := by
  refine MetFree.of_bodySF (plainFor_of_name own_pn_com_example_minter_minter_core_IssuerKeyStatus) hisR ?_
  intro p e s m args below meth c s₁ Bd hml0 hP hK
  obtain ⟨rfl, hZ, hh⟩ := hP
  have hx := Bd.exec
  have hby := Bd.bytes
  have hml : c.maxLocals = 1 := hml0
  have hown : s.vm.findClass "com/example/minter/minter/core/IssuerKeyStatus" = some m.cls := findClass_of_methodNamed Bd.named
  have hnm := (name_of_methodNamed Bd.named Bd.method).1
  have X0 : Stand p l e ({ frames := 0, cells := 0, slots := 0, locals := 0 } : Room) s m #[(.ref a1)] below meth c s₁ [] 0 0 := Stand.of_body Bd
  have e0 : s₁.heap = h0 := by rw [← hh, Bd.state]; rfl
  have N0 := Fr.nil n0
  refine own_start (F0 := fun o U' => ∃ v L, o = .returned v ∧ Q_get_succeeded Z a1 q1 h0 n0 v U'.heap L ∧ FrameEnd s o U' L ({ frames := 0, cells := 0, slots := 0, locals := 0 } : Room).cells ({ frames := 0, cells := 0, slots := 0, locals := 0 } : Room).slots) fun F hF => ?_
  rw [own_ef_get_succeeded m a1]
  refine own_st (V := s₁.setTop (mkF m 1 #[.val (.ref a1)] [(.ref a1)])) (fun _ hk => XS.aloadN X0.here hx rfl (hb hby d7_0) rfl rfl hk) ?_
  obtain ⟨T1, X1, e1, st1⟩ := getF X0 hx hZ hown (host := "") (Or.inl (hw _ (List.mem_of_getElem? (i := 18) rfl))) Via.refl e0 F_1 (g := (mkF m 1 #[.val (.ref a1)] [(.ref a1)])) rfl rfl (hb hby d7_1)
  refine own_st (V := T1.setTop (mkF m 4 #[.val (.ref a1)] [(.long q1)])) st1 ?_
  exact own_retL X1 hx Bd.notSynchronized Bd.returns (hb hby d7_4) (by decide) (by decide) (fun U hU hE => hF _ _ ⟨_, _, rfl, (by rw [hU, e1]; exact ⟨rfl, N0, rfl⟩), hE⟩)
theorem d8_0 : decode prog_14_method_10_code 0 = .ok (.aload_n 0, 1) := by decide +kernel
theorem d8_1 : decode prog_14_method_10_code 1 = .ok (.getfield 21, 3) := by decide +kernel
theorem d8_4 : decode prog_14_method_10_code 4 = .ok (.lreturn, 1) := by decide +kernel
theorem own_ef_get_failed (m : MethodId) (x0 : Addr) : entryFrame m #[(.ref x0)] 1 = mkF m 0 #[.val (.ref x0)] [] := by first | (simp [entryFrame, mkF, argsToLocals, Value.category]; done) | rfl
def Q_get_failed (Z : State) (a1 : Addr) (q1 : Int64) (h0 : Heap) (n0 : Nat) (v : Option Value) (h : Heap) (L : List Loc) : Prop := v = some (.long q1) ∧ Fr n0 L ∧ h = h0
set_option maxRecDepth 65536 in
set_option maxHeartbeats 40000000 in
theorem rm_get_failed (l : Launch) (Z : State) (a0 : Array Value) (hw : ∀ d ∈ tables_1, d.before a0 Z = true) (ws : List Jvm.Cond) (a1 : Addr) (q1 : Int64) (h0 : Heap) (n0 : Nat) (Z0 : n0 ≤ h0.size) (F_1 : Fld Z h0 a1 "com/example/minter/minter/core/IssuerKeyStatus" "failed" "J" (.long q1)) :
    MetFree l (⟨"com/example/minter/minter/core/IssuerKeyStatus", "failed", "()J"⟩ : MethodName) (head1 (Jvm.Cond.code (⟨"com/example/minter/minter/core/IssuerKeyStatus", "failed", "()J"⟩ : MethodName) prog_14_method_10_code 1 (some .long) :: ws) ({ frames := 0, cells := 0, slots := 0, locals := 0 } : Room)) (fun a U => a = #[(.ref a1)] ∧ Z.Warmed39 U.vm ∧ U.heap = h0) (fun _ _ _ _ _ => True) (fun _ U o U' => ∃ v L, o = .returned v ∧ Q_get_failed Z a1 q1 h0 n0 v U'.heap L ∧ FrameEnd U o U' L ({ frames := 0, cells := 0, slots := 0, locals := 0 } : Room).cells ({ frames := 0, cells := 0, slots := 0, locals := 0 } : Room).slots) := by
  refine MetFree.of_bodySF (plainFor_of_name own_pn_com_example_minter_minter_core_IssuerKeyStatus) hisR ?_
  intro p e s m args below meth c s₁ Bd hml0 hP hK
  obtain ⟨rfl, hZ, hh⟩ := hP
  have hx := Bd.exec
  have hby := Bd.bytes
  have hml : c.maxLocals = 1 := hml0
  have hown : s.vm.findClass "com/example/minter/minter/core/IssuerKeyStatus" = some m.cls := findClass_of_methodNamed Bd.named
  have hnm := (name_of_methodNamed Bd.named Bd.method).1
  have X0 : Stand p l e ({ frames := 0, cells := 0, slots := 0, locals := 0 } : Room) s m #[(.ref a1)] below meth c s₁ [] 0 0 := Stand.of_body Bd
  have e0 : s₁.heap = h0 := by rw [← hh, Bd.state]; rfl
  have N0 := Fr.nil n0
  refine own_start (F0 := fun o U' => ∃ v L, o = .returned v ∧ Q_get_failed Z a1 q1 h0 n0 v U'.heap L ∧ FrameEnd s o U' L ({ frames := 0, cells := 0, slots := 0, locals := 0 } : Room).cells ({ frames := 0, cells := 0, slots := 0, locals := 0 } : Room).slots) fun F hF => ?_
  rw [own_ef_get_failed m a1]
  refine own_st (V := s₁.setTop (mkF m 1 #[.val (.ref a1)] [(.ref a1)])) (fun _ hk => XS.aloadN X0.here hx rfl (hb hby d8_0) rfl rfl hk) ?_
  obtain ⟨T1, X1, e1, st1⟩ := getF X0 hx hZ hown (host := "") (Or.inl (hw _ (List.mem_of_getElem? (i := 20) rfl))) Via.refl e0 F_1 (g := (mkF m 1 #[.val (.ref a1)] [(.ref a1)])) rfl rfl (hb hby d8_1)
  refine own_st (V := T1.setTop (mkF m 4 #[.val (.ref a1)] [(.long q1)])) st1 ?_
  exact own_retL X1 hx Bd.notSynchronized Bd.returns (hb hby d8_4) (by decide) (by decide) (fun U hU hE => hF _ _ ⟨_, _, rfl, (by rw [hU, e1]; exact ⟨rfl, N0, rfl⟩), hE⟩)
theorem own_all2 {P : Int32 → Prop} {a b : Int32} (h : P a) (k : P b) : ∀ c ∈ [a, b], P c := fun c hc => by
  rcases List.mem_cons.mp hc with rfl | hc
  · exact h
  · cases List.mem_singleton.mp hc
    exact k
theorem d15_0 : decode jdk_42_method_66_code 0 = .ok (.aload_n 0, 1) := by decide +kernel
theorem d15_1 : decode jdk_42_method_66_code 1 = .ok (.aload_n 1, 1) := by decide +kernel
theorem d15_2 : decode jdk_42_method_66_code 2 = .ok (.if_acmp .ne 5, 3) := by decide +kernel
theorem d15_5 : decode jdk_42_method_66_code 5 = .ok (.iconst 1, 1) := by decide +kernel
theorem d15_6 : decode jdk_42_method_66_code 6 = .ok (.ireturn, 1) := by decide +kernel
theorem own_ef_eqSelf (m : MethodId) (x0 : Addr) (x1 : Addr) : entryFrame m #[(.ref x0), (.ref x1)] 3 = mkF m 0 #[.val (.ref x0), .val (.ref x1), .unset] [] := by first | (simp [entryFrame, mkF, argsToLocals, Value.category]; done) | rfl
def Q_eqSelf (Z : State) (a1 : Addr) (h0 : Heap) (n0 : Nat) (v : Option Value) (h : Heap) (L : List Loc) : Prop := v = some (.int 1) ∧ Fr n0 L ∧ h = h0
set_option maxRecDepth 65536 in
set_option maxHeartbeats 40000000 in
theorem rm_eqSelf (l : Launch) (Z : State) (a0 : Array Value) (hw : ∀ d ∈ tables_1, d.before a0 Z = true) (ws : List Jvm.Cond) (a1 : Addr) (h0 : Heap) (n0 : Nat) (Z0 : n0 ≤ h0.size)  :
    MetFree l (⟨"java/lang/String", "equals", "(Ljava/lang/Object;)Z"⟩ : MethodName) (head1 (Jvm.Cond.code (⟨"java/lang/String", "equals", "(Ljava/lang/Object;)Z"⟩ : MethodName) jdk_42_method_66_code 3 (some .boolean) :: ws) ({ frames := 0, cells := 0, slots := 0, locals := 0 } : Room)) (fun a U => a = #[(.ref a1), (.ref a1)] ∧ Z.Warmed39 U.vm ∧ U.heap = h0) (fun _ _ _ _ _ => True) (fun _ U o U' => ∃ v L, o = .returned v ∧ Q_eqSelf Z a1 h0 n0 v U'.heap L ∧ FrameEnd U o U' L ({ frames := 0, cells := 0, slots := 0, locals := 0 } : Room).cells ({ frames := 0, cells := 0, slots := 0, locals := 0 } : Room).slots) := by
  refine MetFree.of_bodySF (plainFor_of_name own_pn_java_lang_String) hisR ?_
  intro p e s m args below meth c s₁ Bd hml0 hP hK
  obtain ⟨rfl, hZ, hh⟩ := hP
  have hx := Bd.exec
  have hby := Bd.bytes
  have hml : c.maxLocals = 3 := hml0
  have hown : s.vm.findClass "java/lang/String" = some m.cls := findClass_of_methodNamed Bd.named
  have hnm := (name_of_methodNamed Bd.named Bd.method).1
  have X0 : Stand p l e ({ frames := 0, cells := 0, slots := 0, locals := 0 } : Room) s m #[(.ref a1), (.ref a1)] below meth c s₁ [] 0 0 := Stand.of_body Bd
  have e0 : s₁.heap = h0 := by rw [← hh, Bd.state]; rfl
  have N0 := Fr.nil n0
  refine own_start (F0 := fun o U' => ∃ v L, o = .returned v ∧ Q_eqSelf Z a1 h0 n0 v U'.heap L ∧ FrameEnd s o U' L ({ frames := 0, cells := 0, slots := 0, locals := 0 } : Room).cells ({ frames := 0, cells := 0, slots := 0, locals := 0 } : Room).slots) fun F hF => ?_
  rw [own_ef_eqSelf m a1 a1]
  refine own_st (V := s₁.setTop (mkF m 1 #[.val (.ref a1), .val (.ref a1), .unset] [(.ref a1)])) (fun _ hk => XS.aloadN X0.here hx rfl (hb hby d15_0) rfl rfl hk) ?_
  refine own_st (V := s₁.setTop (mkF m 2 #[.val (.ref a1), .val (.ref a1), .unset] [(.ref a1), (.ref a1)])) (fun _ hk => XS.aloadN X0.here hx rfl (hb hby d15_1) rfl rfl hk) ?_
  refine own_st (V := s₁.setTop (mkF m 5 #[.val (.ref a1), .val (.ref a1), .unset] [])) (fun _ hk => Jvm.RoadKit.acmp (g := (mkF m 2 #[.val (.ref a1), .val (.ref a1), .unset] [(.ref a1), (.ref a1)])) X0 hx rfl rfl rfl (pc0 := 2) (pc' := 5) (same := true) rfl (hb hby d15_2) rfl (decide_eq_true rfl) (by decide) (by decide) hk) ?_
  refine own_st (V := s₁.setTop (mkF m 6 #[.val (.ref a1), .val (.ref a1), .unset] [(.int (1 : Int32))])) (fun _ hk => XS.iconst X0.here hx rfl (hb hby d15_5) hk) ?_
  exact own_retN X0 hx Bd.notSynchronized Bd.returns rfl (by simp) (hb hby d15_6) (by decide) (by decide) (fun U hU hE => hF _ _ ⟨_, _, rfl, (by rw [hU, e0]; exact ⟨rfl, N0, rfl⟩), hE⟩)
def own_ES (Z : State) (h : Heap) (u : Value) : Prop := ∀ y, u = .ref y → Exa Z h y "java/lang/String"
theorem own_ES.ext {Z : State} {h h' : Heap} {u : Value} (F : own_ES Z h u) (E : Ext h h') : own_ES Z h' u := fun y q => (F y q).ext E
theorem own_ES.keep {Z : State} {h h' : Heap} {u : Value} {ws : List Addr} (F : own_ES Z h u) (K : Keep h h' ws) : own_ES Z h' u := fun y q => (F y q).keep K
theorem own_ES.null {Z : State} {h : Heap} : own_ES Z h .null := fun _ q => nomatch q
theorem own_ES.ref {Z : State} {h : Heap} {x : Addr} {cs : List Int32} (L : own_Lat Z h x cs) : own_ES Z h (.ref x) := fun y q => by
  cases q
  exact L.exa
theorem own_pd6 : parseMethodDescriptor "(Ljava/lang/String;Z)Lcom/example/minter/minter/core/IssuerKeyStatus;" = some ⟨[(.object "java/lang/String"), .boolean], some (.object "com/example/minter/minter/core/IssuerKeyStatus")⟩ := by decide +kernel
theorem own_pd7 : parseMethodDescriptor "()Z" = some ⟨[], some .boolean⟩ := by decide +kernel
theorem own_pd8 : parseMethodDescriptor "()Ljava/lang/String;" = some ⟨[], some (.object "java/lang/String")⟩ := by decide +kernel
theorem own_pd9 : parseMethodDescriptor "()J" = some ⟨[], some .long⟩ := by decide +kernel
theorem own_pd10 : parseMethodDescriptor "(Ljava/lang/Object;)Z" = some ⟨[(.object "java/lang/Object")], some .boolean⟩ := by decide +kernel
theorem own_pd11 : parseMethodDescriptor "([C)V" = some ⟨[(.array .char)], none⟩ := by decide +kernel
theorem own_pd12 : parseMethodDescriptor "(C)Ljava/lang/String;" = some ⟨[.char], some (.object "java/lang/String")⟩ := by decide +kernel
theorem own_pn_com_example_minter_minter_core_IssuerKeyStatusAfterPinLaw : plainName "com/example/minter/minter/core/IssuerKeyStatusAfterPinLaw" = true := by first | (simp [plainName, overriddenIn]; done) | decide +kernel
theorem own_ef_law (m : MethodId) (x0 : Int64) (x1 : Int64) (x2 : Int32) (x3 : Int32) : entryFrame m #[(.long x0), (.long x1), (.int x2), (.int x3)] maxLocals = mkF m 0 #[.val (.long x0), .second, .val (.long x1), .second, .val (.int x2), .val (.int x3), .unset, .unset, .unset, .unset, .unset, .unset, .unset, .unset, .unset, .unset, .unset, .unset] [] := by first | (simp [entryFrame, mkF, argsToLocals, Value.category, maxLocals]; done) | rfl
def Q_law (Z : State) (ls1 lf1 : Int64) (fl ch cz : Int32) (h0 : Heap) (n0 : Nat) (v : Option Value) (h : Heap) (L : List Loc) : Prop := v = some (.int 1) ∧ Fr n0 L
set_option maxRecDepth 65536 in
set_option maxHeartbeats 40000000 in
theorem rm_law (l : Launch) (Z : State) (a0 : Array Value) (hw : ∀ d ∈ tables_1, d.before a0 Z = true) (ws : List Jvm.Cond) (ls1 lf1 : Int64) (fl ch cz : Int32) (h0 : Heap) (n0 : Nat) (Z0 : n0 ≤ h0.size) (O : Old Z n0 h0) (Scz : Sta Z Z.heap "java/lang/String" "COMPACT_STRINGS" "Z" (.int cz)) (hcz : ¬ cz = 0) :
    MetFree l x (head1 (Jvm.Cond.code x code maxLocals ret :: ws) room_1) (fun a U => a = #[(.long ls1), (.long lf1), (.int fl), (.int ch)] ∧ Z.Warmed39 U.vm ∧ U.heap = h0 ∧ CHv Z own_EL U.vm h0) (fun _ _ _ _ _ => True) (fun _ U o U' => ∃ v L, o = .returned v ∧ Q_law Z ls1 lf1 fl ch cz h0 n0 v U'.heap L ∧ CHr Z own_EL U.vm U.heap U'.vm U'.heap ∧ ReturnedEndW U o U' L 24 1152) := by
  refine MetFree.of_bodySF (plainFor_of_name own_pn_com_example_minter_minter_core_IssuerKeyStatusAfterPinLaw) hisR ?_
  intro p e s m args below meth c s₁ Bd hml0 hP hK
  obtain ⟨rfl, hZ, hh, R⟩ := hP
  have hx := Bd.exec
  have hby := Bd.bytes
  have hml : c.maxLocals = 18 := hml0
  have hown : s.vm.findClass "com/example/minter/minter/core/IssuerKeyStatusAfterPinLaw" = some m.cls := findClass_of_methodNamed Bd.named
  have hnm := (name_of_methodNamed Bd.named Bd.method).1
  have X0 : Stand p l e room_1 (s.setVm s.vm) m #[(.long ls1), (.long lf1), (.int fl), (.int ch)] below meth c s₁ [] 0 0 := Stand.of_body Bd
  have e0 : s₁.heap = h0 := by rw [← hh, Bd.state]; rfl
  have N0 := Fr.nil n0
  have hZ : Z.Warmed39 (s.setVm s.vm).vm := hZ
  have hown : (s.setVm s.vm).vm.findClass "com/example/minter/minter/core/IssuerKeyStatusAfterPinLaw" = some m.cls := hown
  have hS0 := own_since s h0.size
  have hk0 : h0.size ≤ h0.size := Nat.le_refl _
  have R := CHr.refl R
  have hEL := own_hEL hw
  have wS := own_wS hw
  refine own_start (F0 := fun o U' => ∃ v L, o = .returned v ∧ Q_law Z ls1 lf1 fl ch cz h0 n0 v U'.heap L ∧ CHr Z own_EL s.vm s.heap U'.vm U'.heap ∧ ReturnedEndW s o U' L 24 1152) fun F hF => ?_
  rw [own_ef_law m ls1 lf1 fl ch]
  obtain ⟨c0, hc0⟩ : ∃ z, z = (ch &&& (255 : Int32)) := ⟨_, rfl⟩
  have b0 : ¬ c0 < 0 ∧ ¬ (255 : Int32) < c0 := by rw [hc0]; exact own_m255 _
  have m0 : c0.toUInt32.toUInt16.toUInt32.toInt32 = c0 := own_nch b0
  obtain ⟨c1, hc1⟩ : ∃ z, z = (((ch.toUInt32 >>> ((8 : Int32) &&& 31).toUInt32).toInt32) &&& (255 : Int32)) := ⟨_, rfl⟩
  have b1 : ¬ c1 < 0 ∧ ¬ (255 : Int32) < c1 := by rw [hc1]; exact own_m255 _
  have m1 : c1.toUInt32.toUInt16.toUInt32.toInt32 = c1 := own_nch b1
  obtain ⟨c2, hc2⟩ : ∃ z, z = (((ch.toUInt32 >>> ((24 : Int32) &&& 31).toUInt32).toInt32) &&& (255 : Int32)) := ⟨_, rfl⟩
  have b2 : ¬ c2 < 0 ∧ ¬ (255 : Int32) < c2 := by rw [hc2]; exact own_m255 _
  have m2 : c2.toUInt32.toUInt16.toUInt32.toInt32 = c2 := own_nch b2
  obtain ⟨ln, hln⟩ : ∃ z, z = ((ch.toUInt32 >>> ((16 : Int32) &&& 31).toUInt32).toInt32) &&& (3 : Int32) := ⟨_, rfl⟩
  have J97 : ∀ (bt0 : Int32) (eb0 : bt0 = 0 ∨ bt0 = 1) (bt1 : Int32) (eb1 : bt1 = 0 ∨ bt1 = 1) (bt2 : Int32) (bt3 : Int32), own_G p e below F (s₁.setTop (mkF m 97 #[.val (.long ls1), .second, .val (.long lf1), .second, .val (.int fl), .val (.int ch), .val (.int c0), .val (.int c1), .val (.int c2), .val (.int ln), .val (.int bt0), .val (.int bt1), .val (.int bt2), .unset, .unset, .unset, .unset, .unset] [(.int bt3)])) := by
    intro bt0 eb0 bt1 eb1 bt2 bt3
    refine own_st (V := s₁.setTop (mkF m 99 #[.val (.long ls1), .second, .val (.long lf1), .second, .val (.int fl), .val (.int ch), .val (.int c0), .val (.int c1), .val (.int c2), .val (.int ln), .val (.int bt0), .val (.int bt1), .val (.int bt2), .val (.int bt3), .unset, .unset, .unset, .unset] [])) (fun _ hk => XS.istore X0.here hx rfl (hb hby at_97) rfl  (l' := #[.val (.long ls1), .second, .val (.long lf1), .second, .val (.int fl), .val (.int ch), .val (.int c0), .val (.int c1), .val (.int c2), .val (.int ln), .val (.int bt0), .val (.int bt1), .val (.int bt2), .val (.int bt3), .unset, .unset, .unset, .unset]) rfl hk) ?_
    refine own_st (V := s₁.setTop (mkF m 100 #[.val (.long ls1), .second, .val (.long lf1), .second, .val (.int fl), .val (.int ch), .val (.int c0), .val (.int c1), .val (.int c2), .val (.int ln), .val (.int bt0), .val (.int bt1), .val (.int bt2), .val (.int bt3), .unset, .unset, .unset, .unset] [.null])) (fun _ hk => XS.aconstNull X0.here hx rfl (hb hby at_99) hk) ?_
    refine own_st (V := s₁.setTop (mkF m 102 #[.val (.long ls1), .second, .val (.long lf1), .second, .val (.int fl), .val (.int ch), .val (.int c0), .val (.int c1), .val (.int c2), .val (.int ln), .val (.int bt0), .val (.int bt1), .val (.int bt2), .val (.int bt3), .val .null, .unset, .unset, .unset] [])) (fun _ hk => XS.astore X0.here hx rfl (hb hby at_100) rfl rfl (l' := #[.val (.long ls1), .second, .val (.long lf1), .second, .val (.int fl), .val (.int ch), .val (.int c0), .val (.int c1), .val (.int c2), .val (.int ln), .val (.int bt0), .val (.int bt1), .val (.int bt2), .val (.int bt3), .val .null, .unset, .unset, .unset]) rfl hk) ?_
    have J180 : ∀ (T_J180 : State) (locs_J180 : List Loc) (h_J180 : Heap) (vm_J180 : Vm) (X_J180 : Stand p l e room_1 (s.setVm vm_J180) m #[(.long ls1), (.long lf1), (.int fl), (.int ch)] below meth c T_J180 locs_J180 12 40) (e_J180 : T_J180.heap = h_J180) (N_J180 : Fr n0 locs_J180) (k_J180 : Nat) (hS_J180 : s.Since vm_J180 k_J180) (hk_J180 : k_J180 ≤ h_J180.size) (hZ_J180 : Z.Warmed39 (s.setVm vm_J180).vm) (hown_J180 : (s.setVm vm_J180).vm.findClass "com/example/minter/minter/core/IssuerKeyStatusAfterPinLaw" = some m.cls) (R : CHr Z own_EL s.vm h0 vm_J180 h_J180) (Z0 : n0 ≤ h_J180.size) (O : Old Z n0 h_J180) (u14 : Value) (hu14 : u14.isRef = true) (u15 : Value) (hu15 : u15.isRef = true) (EU : own_ES Z h_J180 u15) , own_G p e below F (T_J180.setTop (mkF m 180 #[.val (.long ls1), .second, .val (.long lf1), .second, .val (.int fl), .val (.int ch), .val (.int c0), .val (.int c1), .val (.int c2), .val (.int ln), .val (.int bt0), .val (.int bt1), .val (.int bt2), .val (.int bt3), .val u14, .val u15, .unset, .unset] [])) := by
      intro T_J180 locs_J180 h_J180 vm_J180 X_J180 e_J180 N_J180 k_J180 hS_J180 hk_J180 hZ_J180 hown_J180 R Z0 O u14 hu14 u15 hu15 EU
      obtain ⟨T1, h1, X1, e1, E1, A1, D1, -, st1⟩ := newO X_J180 hx hZ_J180 hown_J180 (hw _ (List.mem_of_getElem? (i := 0) rfl)) (hw _ (List.mem_of_getElem? (i := 1) rfl)) (hw _ (List.mem_of_getElem? (i := 2) rfl)) e_J180 (g := (mkF m 180 #[.val (.long ls1), .second, .val (.long lf1), .second, .val (.int fl), .val (.int ch), .val (.int c0), .val (.int c1), .val (.int c2), .val (.int ln), .val (.int bt0), .val (.int bt1), .val (.int bt2), .val (.int bt3), .val u14, .val u15, .unset, .unset] [])) rfl (hb hby at_180) (by decide) (by decide)
      obtain ⟨b1, g1⟩ : ∃ z, z = h_J180.size := ⟨_, rfl⟩
      rw [← g1] at A1 D1 st1
      have g_b1 : n0 ≤ b1 := Nat.le_trans Z0 (Nat.le_of_eq g1.symm)
      have R := R.trans (CHr.ext E1 R.1)
      have EU := EU.ext E1
      have O := O.ext E1
      have Z0 : n0 ≤ h1.size := Nat.le_trans Z0 E1.1
      have hk_J180 := Nat.le_trans hk_J180 E1.1
      have E_b1 := A1
      have F_held_b1 : Fld Z h1 b1 "com/example/minter/minter/core/IssuerKeyStatus" "held" "Z" (.int (0 : Int32)) := D1 (Or.inr (hw _ (List.mem_of_getElem? (i := 15) rfl))) (ty := .boolean) (by decide)
      have F_failure_b1 : Fld Z h1 b1 "com/example/minter/minter/core/IssuerKeyStatus" "failure" "Ljava/lang/String;" .null := D1 (Or.inr (hw _ (List.mem_of_getElem? (i := 17) rfl))) (ty := (.object "java/lang/String")) (by decide)
      have F_succeeded_b1 : Fld Z h1 b1 "com/example/minter/minter/core/IssuerKeyStatus" "succeeded" "J" (.long (0 : Int64)) := D1 (Or.inr (hw _ (List.mem_of_getElem? (i := 19) rfl))) (ty := .long) (by decide)
      have F_failed_b1 : Fld Z h1 b1 "com/example/minter/minter/core/IssuerKeyStatus" "failed" "J" (.long (0 : Int64)) := D1 (Or.inr (hw _ (List.mem_of_getElem? (i := 21) rfl))) (ty := .long) (by decide)
      refine own_st (V := T1.setTop (mkF m 183 #[.val (.long ls1), .second, .val (.long lf1), .second, .val (.int fl), .val (.int ch), .val (.int c0), .val (.int c1), .val (.int c2), .val (.int ln), .val (.int bt0), .val (.int bt1), .val (.int bt2), .val (.int bt3), .val u14, .val u15, .unset, .unset] [(.ref b1)])) st1 ?_
      refine own_st (V := T1.setTop (mkF m 184 #[.val (.long ls1), .second, .val (.long lf1), .second, .val (.int fl), .val (.int ch), .val (.int c0), .val (.int c1), .val (.int c2), .val (.int ln), .val (.int bt0), .val (.int bt1), .val (.int bt2), .val (.int bt3), .val u14, .val u15, .unset, .unset] [(.ref b1), (.ref b1)])) (fun _ hk => XS.dup X1.here hx rfl (hb hby at_183) rfl rfl hk) ?_
      refine own_st (V := T1.setTop (mkF m 186 #[.val (.long ls1), .second, .val (.long lf1), .second, .val (.int fl), .val (.int ch), .val (.int c0), .val (.int c1), .val (.int c2), .val (.int ln), .val (.int bt0), .val (.int bt1), .val (.int bt2), .val (.int bt3), .val u14, .val u15, .unset, .unset] [(.int bt0), (.ref b1), (.ref b1)])) (fun _ hk => XS.iload X1.here hx rfl (hb hby at_184) rfl  hk) ?_
      refine own_st (V := T1.setTop (mkF m 188 #[.val (.long ls1), .second, .val (.long lf1), .second, .val (.int fl), .val (.int ch), .val (.int c0), .val (.int c1), .val (.int c2), .val (.int ln), .val (.int bt0), .val (.int bt1), .val (.int bt2), .val (.int bt3), .val u14, .val u15, .unset, .unset] [u14, (.int bt0), (.ref b1), (.ref b1)])) (fun _ hk => XS.aload X1.here hx rfl (hb hby at_186) rfl hu14 hk) ?_
      refine own_st (V := T1.setTop (mkF m 189 #[.val (.long ls1), .second, .val (.long lf1), .second, .val (.int fl), .val (.int ch), .val (.int c0), .val (.int c1), .val (.int c2), .val (.int ln), .val (.int bt0), .val (.int bt1), .val (.int bt2), .val (.int bt3), .val u14, .val u15, .unset, .unset] [(.long ls1), u14, (.int bt0), (.ref b1), (.ref b1)])) (fun _ hk => XS.lloadN X1.here hx rfl (hb hby at_188) rfl  hk) ?_
      refine own_st (V := T1.setTop (mkF m 190 #[.val (.long ls1), .second, .val (.long lf1), .second, .val (.int fl), .val (.int ch), .val (.int c0), .val (.int c1), .val (.int c2), .val (.int ln), .val (.int bt0), .val (.int bt1), .val (.int bt2), .val (.int bt3), .val u14, .val u15, .unset, .unset] [(.long lf1), (.long ls1), u14, (.int bt0), (.ref b1), (.ref b1)])) (fun _ hk => XS.lloadN X1.here hx rfl (hb hby at_189) rfl  hk) ?_
      obtain ⟨_, _, ⟨T2, L2, k2, n2⟩, -, X2, ⟨Lc2, hQ2, l2, y2, z2⟩, st2⟩ := X1.specialBack hx (y := (⟨"com/example/minter/minter/core/IssuerKeyStatus", "<init>", "(ZLjava/lang/String;JJ)V"⟩ : MethodName)) rfl hown_J180 (mvT hZ_J180 (hw _ (List.mem_of_getElem? (i := 3) rfl))) (mvT hZ_J180 (hw _ (List.mem_of_getElem? (i := 4) rfl))) (mvT hZ_J180 (hw _ (List.mem_of_getElem? (i := 5) rfl))) (by decide) (backOf (W := 1) (rm_init l Z a0 hw [] b1 bt0 u14 ls1 lf1 _ _ _ _ h1 n0 Z0 hu14 eb0 E_b1 F_held_b1 F_failure_b1 F_succeeded_b1 F_failed_b1 g_b1) hZ_J180 (hw _ (List.mem_of_getElem? (i := 5) rfl)) (hw _ (List.mem_of_getElem? (i := 2) rfl)) (by decide) (by decide)) (g := (mkF m 190 #[.val (.long ls1), .second, .val (.long lf1), .second, .val (.int fl), .val (.int ch), .val (.int c0), .val (.int c1), .val (.int c2), .val (.int ln), .val (.int bt0), .val (.int bt1), .val (.int bt2), .val (.int bt3), .val u14, .val u15, .unset, .unset] [(.long lf1), (.long ls1), u14, (.int bt0), (.ref b1), (.ref b1)])) rfl (by rw [hml]; rfl) (Steps.refl _) (a := b1) (argsL := [(.int bt0), u14, (.long ls1), (.long lf1)]) (rest := [(.ref b1)]) (lenOf own_pd5 rfl) rfl (by show 2 * 0 + _ ≤ _; exact Nat.le_of_eq rfl) (hb hby at_190) (fun _ _ => ⟨rfl, e1, (by decide : 13 + 0 ≤ _), (by decide : 44 + 0 ≤ _)⟩)
      dsimp only [Pt.U, Pt.locs, Pt.cells, Pt.slots] at X2 l2 y2 z2 st2 hQ2
      subst l2 y2 z2
      obtain ⟨rfl, N2q, Kc, Ec, Fc1, Fc2, Fc3, Fc4⟩ := hQ2
      have N2 := Fr.app N_J180 N2q
      refine own_tr (V := T2.setTop (mkF m 193 #[.val (.long ls1), .second, .val (.long lf1), .second, .val (.int fl), .val (.int ch), .val (.int c0), .val (.int c1), .val (.int c2), .val (.int ln), .val (.int bt0), .val (.int bt1), .val (.int bt2), .val (.int bt3), .val u14, .val u15, .unset, .unset] [(.ref b1)])) st2 ?_
      have hs := (show ∀ x ∈ [b1], Safe Z own_EL vm_J180 h1 x from (allS (Safe.exa (EL := own_EL) hZ_J180.alike E_b1 (by decide) (by decide)) all0))
      have R := R.trans (CHr.keep Kc hs R.1)
      have EU := EU.keep Kc
      have E_b1 := E_b1.keep Kc
      have Z0 : n0 ≤ T2.heap.size := Nat.le_trans Z0 Kc.1
      have hk_J180 := Nat.le_trans hk_J180 Kc.1
      have O := O.keep Kc (allS g_b1 all0)
      have F_su := Fc3
      have F_fa := Fc4
      refine own_st (V := T2.setTop (mkF m 195 #[.val (.long ls1), .second, .val (.long lf1), .second, .val (.int fl), .val (.int ch), .val (.int c0), .val (.int c1), .val (.int c2), .val (.int ln), .val (.int bt0), .val (.int bt1), .val (.int bt2), .val (.int bt3), .val u14, .val u15, .val (.ref b1), .unset] [])) (fun _ hk => XS.astore X2.here hx rfl (hb hby at_193) rfl rfl (l' := #[.val (.long ls1), .second, .val (.long lf1), .second, .val (.int fl), .val (.int ch), .val (.int c0), .val (.int c1), .val (.int c2), .val (.int ln), .val (.int bt0), .val (.int bt1), .val (.int bt2), .val (.int bt3), .val u14, .val u15, .val (.ref b1), .unset]) rfl hk) ?_
      refine own_st (V := T2.setTop (mkF m 197 #[.val (.long ls1), .second, .val (.long lf1), .second, .val (.int fl), .val (.int ch), .val (.int c0), .val (.int c1), .val (.int c2), .val (.int ln), .val (.int bt0), .val (.int bt1), .val (.int bt2), .val (.int bt3), .val u14, .val u15, .val (.ref b1), .unset] [(.ref b1)])) (fun _ hk => XS.aload X2.here hx rfl (hb hby at_195) rfl rfl hk) ?_
      refine own_st (V := T2.setTop (mkF m 199 #[.val (.long ls1), .second, .val (.long lf1), .second, .val (.int fl), .val (.int ch), .val (.int c0), .val (.int c1), .val (.int c2), .val (.int ln), .val (.int bt0), .val (.int bt1), .val (.int bt2), .val (.int bt3), .val u14, .val u15, .val (.ref b1), .unset] [u15, (.ref b1)])) (fun _ hk => XS.aload X2.here hx rfl (hb hby at_197) rfl hu15 hk) ?_
      refine own_st (V := T2.setTop (mkF m 201 #[.val (.long ls1), .second, .val (.long lf1), .second, .val (.int fl), .val (.int ch), .val (.int c0), .val (.int c1), .val (.int c2), .val (.int ln), .val (.int bt0), .val (.int bt1), .val (.int bt2), .val (.int bt3), .val u14, .val u15, .val (.ref b1), .unset] [(.int bt1), u15, (.ref b1)])) (fun _ hk => XS.iload X2.here hx rfl (hb hby at_199) rfl  hk) ?_
      obtain ⟨cq3, kq3, q3a, q3b, q3c⟩ := isOf hZ_J180 rfl E_b1
      obtain ⟨_, _, ⟨T3, L3, k3, n3⟩, -, X3, ⟨Lc3, hQ3, l3, y3, z3⟩, st3⟩ := X2.virtualBack hx (y := (⟨"com/example/minter/minter/core/IssuerKeyStatus", "after", "(Ljava/lang/String;Z)Lcom/example/minter/minter/core/IssuerKeyStatus;"⟩ : MethodName)) (z := (⟨"com/example/minter/minter/core/IssuerKeyStatus", "after", "(Ljava/lang/String;Z)Lcom/example/minter/minter/core/IssuerKeyStatus;"⟩ : MethodName)) hown_J180 (mvT hZ_J180 (hw _ (List.mem_of_getElem? (i := 22) rfl))) (mvT hZ_J180 (hw _ (List.mem_of_getElem? (i := 23) rfl))) (notFace_of_selects (args := #[]) (mvT hZ_J180 (hw _ (List.mem_of_getElem? (i := 25) rfl)))) (mvT hZ_J180 (hw _ (List.mem_of_getElem? (i := 25) rfl))) (mvT hZ_J180 (hw _ (List.mem_of_getElem? (i := 24) rfl))) (by decide) (backOf (W := 0) (rm_after l Z a0 hw [] b1 u15 bt1 ls1 lf1 T2.heap n0 Z0 hu15 eb1 F_su F_fa) hZ_J180 (hw _ (List.mem_of_getElem? (i := 26) rfl)) (hw _ (List.mem_of_getElem? (i := 2) rfl)) (by decide) (by decide)) q3a q3c (g := (mkF m 201 #[.val (.long ls1), .second, .val (.long lf1), .second, .val (.int fl), .val (.int ch), .val (.int c0), .val (.int c1), .val (.int c2), .val (.int ln), .val (.int bt0), .val (.int bt1), .val (.int bt2), .val (.int bt3), .val u14, .val u15, .val (.ref b1), .unset] [(.int bt1), u15, (.ref b1)])) rfl (by rw [hml]; rfl) (Steps.refl _) (argsL := [u15, (.int bt1)]) (rest := []) (lenOf own_pd6 rfl) rfl (by show 2 * 0 + _ ≤ _; exact Nat.le_of_eq rfl) (hb hby at_201) (fun _ _ => ⟨rfl, rfl, (by decide : 13 + 1 ≤ _), (by decide : 44 + 4 ≤ _)⟩)
      dsimp only [Pt.U, Pt.locs, Pt.cells, Pt.slots] at X3 l3 y3 z3 st3 hQ3
      subst l3 y3 z3
      obtain ⟨r, s2, f2, rfl, N3q, Ka, E_r, G1, G2, G3, G4, hsf⟩ := hQ3
      have N3 := Fr.app N2 N3q
      refine own_tr (V := T3.setTop (mkF m 204 #[.val (.long ls1), .second, .val (.long lf1), .second, .val (.int fl), .val (.int ch), .val (.int c0), .val (.int c1), .val (.int c2), .val (.int ln), .val (.int bt0), .val (.int bt1), .val (.int bt2), .val (.int bt3), .val u14, .val u15, .val (.ref b1), .unset] [(.ref r)])) st3 ?_
      have hs := (show ∀ x ∈ [], Safe Z own_EL vm_J180 T2.heap x from all0)
      have R := R.trans (CHr.keep Ka hs R.1)
      have EU := EU.keep Ka
      have E_b1 := E_b1.keep Ka
      have F_su := F_su.keep Ka nin0
      have F_fa := F_fa.keep Ka nin0
      have Z0 : n0 ≤ T3.heap.size := Nat.le_trans Z0 Ka.1
      have hk_J180 := Nat.le_trans hk_J180 Ka.1
      have O := O.keep Ka all0
      refine own_st (V := T3.setTop (mkF m 206 #[.val (.long ls1), .second, .val (.long lf1), .second, .val (.int fl), .val (.int ch), .val (.int c0), .val (.int c1), .val (.int c2), .val (.int ln), .val (.int bt0), .val (.int bt1), .val (.int bt2), .val (.int bt3), .val u14, .val u15, .val (.ref b1), .val (.ref r)] [])) (fun _ hk => XS.astore X3.here hx rfl (hb hby at_204) rfl rfl (l' := #[.val (.long ls1), .second, .val (.long lf1), .second, .val (.int fl), .val (.int ch), .val (.int c0), .val (.int c1), .val (.int c2), .val (.int ln), .val (.int bt0), .val (.int bt1), .val (.int bt2), .val (.int bt3), .val u14, .val u15, .val (.ref b1), .val (.ref r)]) rfl hk) ?_
      refine own_st (V := T3.setTop (mkF m 208 #[.val (.long ls1), .second, .val (.long lf1), .second, .val (.int fl), .val (.int ch), .val (.int c0), .val (.int c1), .val (.int c2), .val (.int ln), .val (.int bt0), .val (.int bt1), .val (.int bt2), .val (.int bt3), .val u14, .val u15, .val (.ref b1), .val (.ref r)] [(.ref r)])) (fun _ hk => XS.aload X3.here hx rfl (hb hby at_206) rfl rfl hk) ?_
      refine own_st (V := T3.setTop (mkF m 213 #[.val (.long ls1), .second, .val (.long lf1), .second, .val (.int fl), .val (.int ch), .val (.int c0), .val (.int c1), .val (.int c2), .val (.int ln), .val (.int bt0), .val (.int bt1), .val (.int bt2), .val (.int bt3), .val u14, .val u15, .val (.ref b1), .val (.ref r)] [])) (fun _ hk => XS.ifnonnullYes X3.here hx rfl (pc0 := 208) (pc' := 213) rfl (hb hby at_208) rfl (by decide) (by decide) hk) ?_
      refine own_st (V := T3.setTop (mkF m 215 #[.val (.long ls1), .second, .val (.long lf1), .second, .val (.int fl), .val (.int ch), .val (.int c0), .val (.int c1), .val (.int c2), .val (.int ln), .val (.int bt0), .val (.int bt1), .val (.int bt2), .val (.int bt3), .val u14, .val u15, .val (.ref b1), .val (.ref r)] [(.ref r)])) (fun _ hk => XS.aload X3.here hx rfl (hb hby at_213) rfl rfl hk) ?_
      obtain ⟨cq4, kq4, q4a, q4b, q4c⟩ := isOf hZ_J180 rfl E_r
      obtain ⟨_, _, ⟨T4, L4, k4, n4⟩, -, X4, ⟨Lc4, hQ4, l4, y4, z4⟩, st4⟩ := X3.virtualBack hx (y := (⟨"com/example/minter/minter/core/IssuerKeyStatus", "held", "()Z"⟩ : MethodName)) (z := (⟨"com/example/minter/minter/core/IssuerKeyStatus", "held", "()Z"⟩ : MethodName)) hown_J180 (mvT hZ_J180 (hw _ (List.mem_of_getElem? (i := 29) rfl))) (mvT hZ_J180 (hw _ (List.mem_of_getElem? (i := 30) rfl))) (notFace_of_selects (args := #[]) (mvT hZ_J180 (hw _ (List.mem_of_getElem? (i := 32) rfl)))) (mvT hZ_J180 (hw _ (List.mem_of_getElem? (i := 32) rfl))) (mvT hZ_J180 (hw _ (List.mem_of_getElem? (i := 31) rfl))) (by decide) (backOf (W := 0) (rm_get_held l Z a0 hw [] r bt1 T3.heap n0 Z0 G1 eb1) hZ_J180 (hw _ (List.mem_of_getElem? (i := 33) rfl)) (hw _ (List.mem_of_getElem? (i := 2) rfl)) (by decide) (by decide)) q4a q4c (g := (mkF m 215 #[.val (.long ls1), .second, .val (.long lf1), .second, .val (.int fl), .val (.int ch), .val (.int c0), .val (.int c1), .val (.int c2), .val (.int ln), .val (.int bt0), .val (.int bt1), .val (.int bt2), .val (.int bt3), .val u14, .val u15, .val (.ref b1), .val (.ref r)] [(.ref r)])) rfl (by rw [hml]; rfl) (Steps.refl _) (argsL := []) (rest := []) (lenOf own_pd7 rfl) rfl (by show 2 * 0 + _ ≤ _; exact Nat.le_of_eq rfl) (hb hby at_215) (fun _ _ => ⟨rfl, rfl, (by decide : 14 + 0 ≤ _), (by decide : 48 + 0 ≤ _)⟩)
      dsimp only [Pt.U, Pt.locs, Pt.cells, Pt.slots] at X4 l4 y4 z4 st4 hQ4
      subst l4 y4 z4
      obtain ⟨rfl, N4q, es4⟩ := hQ4
      have N4 := Fr.app N3 N4q
      refine own_tr (V := T4.setTop (mkF m 218 #[.val (.long ls1), .second, .val (.long lf1), .second, .val (.int fl), .val (.int ch), .val (.int c0), .val (.int c1), .val (.int c2), .val (.int ln), .val (.int bt0), .val (.int bt1), .val (.int bt2), .val (.int bt3), .val u14, .val u15, .val (.ref b1), .val (.ref r)] [(.int bt1)])) st4 ?_
      refine own_st (V := T4.setTop (mkF m 220 #[.val (.long ls1), .second, .val (.long lf1), .second, .val (.int fl), .val (.int ch), .val (.int c0), .val (.int c1), .val (.int c2), .val (.int ln), .val (.int bt0), .val (.int bt1), .val (.int bt2), .val (.int bt3), .val u14, .val u15, .val (.ref b1), .val (.ref r)] [(.int bt1), (.int bt1)])) (fun _ hk => XS.iload X4.here hx rfl (hb hby at_218) rfl  hk) ?_
      refine own_st (V := T4.setTop (mkF m 225 #[.val (.long ls1), .second, .val (.long lf1), .second, .val (.int fl), .val (.int ch), .val (.int c0), .val (.int c1), .val (.int c2), .val (.int ln), .val (.int bt0), .val (.int bt1), .val (.int bt2), .val (.int bt3), .val u14, .val u15, .val (.ref b1), .val (.ref r)] [])) (fun _ hk => XS.icmpYes X4.here hx rfl (pc0 := 220) (pc' := 225) rfl (hb hby at_220) rfl (teq (show bt1 = bt1 from rfl)).1 (by decide) (by decide) hk) ?_
      refine own_st (V := T4.setTop (mkF m 227 #[.val (.long ls1), .second, .val (.long lf1), .second, .val (.int fl), .val (.int ch), .val (.int c0), .val (.int c1), .val (.int c2), .val (.int ln), .val (.int bt0), .val (.int bt1), .val (.int bt2), .val (.int bt3), .val u14, .val u15, .val (.ref b1), .val (.ref r)] [u15])) (fun _ hk => XS.aload X4.here hx rfl (hb hby at_225) rfl hu15 hk) ?_
      rcases hsf with ⟨rfl, e2s, e3s⟩ | ⟨⟨y, rfl⟩, e2s, e3s⟩ <;> rw [e2s] at G3 <;> rw [e3s] at G4
      · skip
        refine own_st (V := T4.setTop (mkF m 230 #[.val (.long ls1), .second, .val (.long lf1), .second, .val (.int fl), .val (.int ch), .val (.int c0), .val (.int c1), .val (.int c2), .val (.int ln), .val (.int bt0), .val (.int bt1), .val (.int bt2), .val (.int bt3), .val u14, .val .null, .val (.ref b1), .val (.ref r)] [])) (fun _ hk => XS.ifnonnullNo X4.here hx rfl (hb hby at_227) rfl hk) ?_
        refine own_st (V := T4.setTop (mkF m 232 #[.val (.long ls1), .second, .val (.long lf1), .second, .val (.int fl), .val (.int ch), .val (.int c0), .val (.int c1), .val (.int c2), .val (.int ln), .val (.int bt0), .val (.int bt1), .val (.int bt2), .val (.int bt3), .val u14, .val .null, .val (.ref b1), .val (.ref r)] [(.ref r)])) (fun _ hk => XS.aload X4.here hx rfl (hb hby at_230) rfl rfl hk) ?_
        obtain ⟨cq5, kq5, q5a, q5b, q5c⟩ := isOf hZ_J180 es4 E_r
        obtain ⟨_, _, ⟨T5, L5, k5, n5⟩, -, X5, ⟨Lc5, hQ5, l5, y5, z5⟩, st5⟩ := X4.virtualBack hx (y := (⟨"com/example/minter/minter/core/IssuerKeyStatus", "failure", "()Ljava/lang/String;"⟩ : MethodName)) (z := (⟨"com/example/minter/minter/core/IssuerKeyStatus", "failure", "()Ljava/lang/String;"⟩ : MethodName)) hown_J180 (mvT hZ_J180 (hw _ (List.mem_of_getElem? (i := 34) rfl))) (mvT hZ_J180 (hw _ (List.mem_of_getElem? (i := 35) rfl))) (notFace_of_selects (args := #[]) (mvT hZ_J180 (hw _ (List.mem_of_getElem? (i := 37) rfl)))) (mvT hZ_J180 (hw _ (List.mem_of_getElem? (i := 37) rfl))) (mvT hZ_J180 (hw _ (List.mem_of_getElem? (i := 36) rfl))) (by decide) (backOf (W := 0) (rm_get_failure l Z a0 hw [] r .null T3.heap n0 Z0 G2 rfl) hZ_J180 (hw _ (List.mem_of_getElem? (i := 38) rfl)) (hw _ (List.mem_of_getElem? (i := 2) rfl)) (by decide) (by decide)) q5a q5c (g := (mkF m 232 #[.val (.long ls1), .second, .val (.long lf1), .second, .val (.int fl), .val (.int ch), .val (.int c0), .val (.int c1), .val (.int c2), .val (.int ln), .val (.int bt0), .val (.int bt1), .val (.int bt2), .val (.int bt3), .val u14, .val .null, .val (.ref b1), .val (.ref r)] [(.ref r)])) rfl (by rw [hml]; rfl) (Steps.refl _) (argsL := []) (rest := []) (lenOf own_pd8 rfl) rfl (by show 2 * 0 + _ ≤ _; exact Nat.le_of_eq rfl) (hb hby at_232) (fun _ _ => ⟨rfl, es4, (by decide : 14 + 0 ≤ _), (by decide : 48 + 0 ≤ _)⟩)
        dsimp only [Pt.U, Pt.locs, Pt.cells, Pt.slots] at X5 l5 y5 z5 st5 hQ5
        subst l5 y5 z5
        obtain ⟨rfl, N5q, es5⟩ := hQ5
        have N5 := Fr.app N4 N5q
        refine own_tr (V := T5.setTop (mkF m 235 #[.val (.long ls1), .second, .val (.long lf1), .second, .val (.int fl), .val (.int ch), .val (.int c0), .val (.int c1), .val (.int c2), .val (.int ln), .val (.int bt0), .val (.int bt1), .val (.int bt2), .val (.int bt3), .val u14, .val .null, .val (.ref b1), .val (.ref r)] [.null])) st5 ?_
        refine own_st (V := T5.setTop (mkF m 238 #[.val (.long ls1), .second, .val (.long lf1), .second, .val (.int fl), .val (.int ch), .val (.int c0), .val (.int c1), .val (.int c2), .val (.int ln), .val (.int bt0), .val (.int bt1), .val (.int bt2), .val (.int bt3), .val u14, .val .null, .val (.ref b1), .val (.ref r)] [])) (fun _ hk => XS.ifnonnullNo X5.here hx rfl (hb hby at_235) rfl hk) ?_
        refine own_st (V := T5.setTop (mkF m 240 #[.val (.long ls1), .second, .val (.long lf1), .second, .val (.int fl), .val (.int ch), .val (.int c0), .val (.int c1), .val (.int c2), .val (.int ln), .val (.int bt0), .val (.int bt1), .val (.int bt2), .val (.int bt3), .val u14, .val .null, .val (.ref b1), .val (.ref r)] [(.ref r)])) (fun _ hk => XS.aload X5.here hx rfl (hb hby at_238) rfl rfl hk) ?_
        obtain ⟨cq6, kq6, q6a, q6b, q6c⟩ := isOf hZ_J180 es5 E_r
        obtain ⟨_, _, ⟨T6, L6, k6, n6⟩, -, X6, ⟨Lc6, hQ6, l6, y6, z6⟩, st6⟩ := X5.virtualBack hx (y := (⟨"com/example/minter/minter/core/IssuerKeyStatus", "succeeded", "()J"⟩ : MethodName)) (z := (⟨"com/example/minter/minter/core/IssuerKeyStatus", "succeeded", "()J"⟩ : MethodName)) hown_J180 (mvT hZ_J180 (hw _ (List.mem_of_getElem? (i := 39) rfl))) (mvT hZ_J180 (hw _ (List.mem_of_getElem? (i := 40) rfl))) (notFace_of_selects (args := #[]) (mvT hZ_J180 (hw _ (List.mem_of_getElem? (i := 42) rfl)))) (mvT hZ_J180 (hw _ (List.mem_of_getElem? (i := 42) rfl))) (mvT hZ_J180 (hw _ (List.mem_of_getElem? (i := 41) rfl))) (by decide) (backOf (W := 0) (rm_get_succeeded l Z a0 hw [] r (ls1 + 1) T3.heap n0 Z0 G3) hZ_J180 (hw _ (List.mem_of_getElem? (i := 43) rfl)) (hw _ (List.mem_of_getElem? (i := 2) rfl)) (by decide) (by decide)) q6a q6c (g := (mkF m 240 #[.val (.long ls1), .second, .val (.long lf1), .second, .val (.int fl), .val (.int ch), .val (.int c0), .val (.int c1), .val (.int c2), .val (.int ln), .val (.int bt0), .val (.int bt1), .val (.int bt2), .val (.int bt3), .val u14, .val .null, .val (.ref b1), .val (.ref r)] [(.ref r)])) rfl (by rw [hml]; rfl) (Steps.refl _) (argsL := []) (rest := []) (lenOf own_pd9 rfl) rfl (by show 2 * 0 + _ ≤ _; exact Nat.le_of_eq rfl) (hb hby at_240) (fun _ _ => ⟨rfl, es5, (by decide : 14 + 0 ≤ _), (by decide : 48 + 0 ≤ _)⟩)
        dsimp only [Pt.U, Pt.locs, Pt.cells, Pt.slots] at X6 l6 y6 z6 st6 hQ6
        subst l6 y6 z6
        obtain ⟨rfl, N6q, es6⟩ := hQ6
        have N6 := Fr.app N5 N6q
        refine own_tr (V := T6.setTop (mkF m 243 #[.val (.long ls1), .second, .val (.long lf1), .second, .val (.int fl), .val (.int ch), .val (.int c0), .val (.int c1), .val (.int c2), .val (.int ln), .val (.int bt0), .val (.int bt1), .val (.int bt2), .val (.int bt3), .val u14, .val .null, .val (.ref b1), .val (.ref r)] [(.long (ls1 + 1))])) st6 ?_
        refine own_st (V := T6.setTop (mkF m 244 #[.val (.long ls1), .second, .val (.long lf1), .second, .val (.int fl), .val (.int ch), .val (.int c0), .val (.int c1), .val (.int c2), .val (.int ln), .val (.int bt0), .val (.int bt1), .val (.int bt2), .val (.int bt3), .val u14, .val .null, .val (.ref b1), .val (.ref r)] [(.long ls1), (.long (ls1 + 1))])) (fun _ hk => XS.lloadN X6.here hx rfl (hb hby at_243) rfl  hk) ?_
        refine own_st (V := T6.setTop (mkF m 245 #[.val (.long ls1), .second, .val (.long lf1), .second, .val (.int fl), .val (.int ch), .val (.int c0), .val (.int c1), .val (.int c2), .val (.int ln), .val (.int bt0), .val (.int bt1), .val (.int bt2), .val (.int bt3), .val u14, .val .null, .val (.ref b1), .val (.ref r)] [(.long (1 : Int64)), (.long ls1), (.long (ls1 + 1))])) (fun _ hk => XS.lconst X6.here hx rfl (hb hby at_244) hk) ?_
        refine own_st (V := T6.setTop (mkF m 246 #[.val (.long ls1), .second, .val (.long lf1), .second, .val (.int fl), .val (.int ch), .val (.int c0), .val (.int c1), .val (.int c2), .val (.int ln), .val (.int bt0), .val (.int bt1), .val (.int bt2), .val (.int bt3), .val u14, .val .null, .val (.ref b1), .val (.ref r)] [(.long (ls1 + (1 : Int64))), (.long (ls1 + 1))])) (fun _ hk => XS.ladd X6.here hx rfl (hb hby at_245) rfl hk) ?_
        refine own_st (V := T6.setTop (mkF m 247 #[.val (.long ls1), .second, .val (.long lf1), .second, .val (.int fl), .val (.int ch), .val (.int c0), .val (.int c1), .val (.int c2), .val (.int ln), .val (.int bt0), .val (.int bt1), .val (.int bt2), .val (.int bt3), .val u14, .val .null, .val (.ref b1), .val (.ref r)] [(.int (lcmpW (ls1 + 1) (ls1 + (1 : Int64))))])) (fun _ hk => XS.lcmp X6.here hx rfl (hb hby at_246) rfl hk) ?_
        refine own_st (V := T6.setTop (mkF m 250 #[.val (.long ls1), .second, .val (.long lf1), .second, .val (.int fl), .val (.int ch), .val (.int c0), .val (.int c1), .val (.int c2), .val (.int ln), .val (.int bt0), .val (.int bt1), .val (.int bt2), .val (.int bt3), .val u14, .val .null, .val (.ref b1), .val (.ref r)] [])) (fun _ hk => XS.ifNo X6.here hx rfl (hb hby at_247) rfl ((if0 _ _).trans (teq (show (lcmpW (ls1 + 1) (ls1 + (1 : Int64))) = (0 : Int32) from ((lw_eq _ _).mpr rfl))).2) hk) ?_
        refine own_st (V := T6.setTop (mkF m 252 #[.val (.long ls1), .second, .val (.long lf1), .second, .val (.int fl), .val (.int ch), .val (.int c0), .val (.int c1), .val (.int c2), .val (.int ln), .val (.int bt0), .val (.int bt1), .val (.int bt2), .val (.int bt3), .val u14, .val .null, .val (.ref b1), .val (.ref r)] [(.ref r)])) (fun _ hk => XS.aload X6.here hx rfl (hb hby at_250) rfl rfl hk) ?_
        obtain ⟨cq7, kq7, q7a, q7b, q7c⟩ := isOf hZ_J180 es6 E_r
        obtain ⟨_, _, ⟨T7, L7, k7, n7⟩, -, X7, ⟨Lc7, hQ7, l7, y7, z7⟩, st7⟩ := X6.virtualBack hx (y := (⟨"com/example/minter/minter/core/IssuerKeyStatus", "failed", "()J"⟩ : MethodName)) (z := (⟨"com/example/minter/minter/core/IssuerKeyStatus", "failed", "()J"⟩ : MethodName)) hown_J180 (mvT hZ_J180 (hw _ (List.mem_of_getElem? (i := 44) rfl))) (mvT hZ_J180 (hw _ (List.mem_of_getElem? (i := 45) rfl))) (notFace_of_selects (args := #[]) (mvT hZ_J180 (hw _ (List.mem_of_getElem? (i := 47) rfl)))) (mvT hZ_J180 (hw _ (List.mem_of_getElem? (i := 47) rfl))) (mvT hZ_J180 (hw _ (List.mem_of_getElem? (i := 46) rfl))) (by decide) (backOf (W := 0) (rm_get_failed l Z a0 hw [] r lf1 T3.heap n0 Z0 G4) hZ_J180 (hw _ (List.mem_of_getElem? (i := 48) rfl)) (hw _ (List.mem_of_getElem? (i := 2) rfl)) (by decide) (by decide)) q7a q7c (g := (mkF m 252 #[.val (.long ls1), .second, .val (.long lf1), .second, .val (.int fl), .val (.int ch), .val (.int c0), .val (.int c1), .val (.int c2), .val (.int ln), .val (.int bt0), .val (.int bt1), .val (.int bt2), .val (.int bt3), .val u14, .val .null, .val (.ref b1), .val (.ref r)] [(.ref r)])) rfl (by rw [hml]; rfl) (Steps.refl _) (argsL := []) (rest := []) (lenOf own_pd9 rfl) rfl (by show 2 * 0 + _ ≤ _; exact Nat.le_of_eq rfl) (hb hby at_252) (fun _ _ => ⟨rfl, es6, (by decide : 14 + 0 ≤ _), (by decide : 48 + 0 ≤ _)⟩)
        dsimp only [Pt.U, Pt.locs, Pt.cells, Pt.slots] at X7 l7 y7 z7 st7 hQ7
        subst l7 y7 z7
        obtain ⟨rfl, N7q, es7⟩ := hQ7
        have N7 := Fr.app N6 N7q
        refine own_tr (V := T7.setTop (mkF m 255 #[.val (.long ls1), .second, .val (.long lf1), .second, .val (.int fl), .val (.int ch), .val (.int c0), .val (.int c1), .val (.int c2), .val (.int ln), .val (.int bt0), .val (.int bt1), .val (.int bt2), .val (.int bt3), .val u14, .val .null, .val (.ref b1), .val (.ref r)] [(.long lf1)])) st7 ?_
        refine own_st (V := T7.setTop (mkF m 256 #[.val (.long ls1), .second, .val (.long lf1), .second, .val (.int fl), .val (.int ch), .val (.int c0), .val (.int c1), .val (.int c2), .val (.int ln), .val (.int bt0), .val (.int bt1), .val (.int bt2), .val (.int bt3), .val u14, .val .null, .val (.ref b1), .val (.ref r)] [(.long lf1), (.long lf1)])) (fun _ hk => XS.lloadN X7.here hx rfl (hb hby at_255) rfl  hk) ?_
        refine own_st (V := T7.setTop (mkF m 257 #[.val (.long ls1), .second, .val (.long lf1), .second, .val (.int fl), .val (.int ch), .val (.int c0), .val (.int c1), .val (.int c2), .val (.int ln), .val (.int bt0), .val (.int bt1), .val (.int bt2), .val (.int bt3), .val u14, .val .null, .val (.ref b1), .val (.ref r)] [(.int (lcmpW lf1 lf1))])) (fun _ hk => XS.lcmp X7.here hx rfl (hb hby at_256) rfl hk) ?_
        refine own_st (V := T7.setTop (mkF m 260 #[.val (.long ls1), .second, .val (.long lf1), .second, .val (.int fl), .val (.int ch), .val (.int c0), .val (.int c1), .val (.int c2), .val (.int ln), .val (.int bt0), .val (.int bt1), .val (.int bt2), .val (.int bt3), .val u14, .val .null, .val (.ref b1), .val (.ref r)] [])) (fun _ hk => XS.ifNo X7.here hx rfl (hb hby at_257) rfl ((if0 _ _).trans (teq (show (lcmpW lf1 lf1) = (0 : Int32) from ((lw_eq _ _).mpr rfl))).2) hk) ?_
        refine own_st (V := T7.setTop (mkF m 261 #[.val (.long ls1), .second, .val (.long lf1), .second, .val (.int fl), .val (.int ch), .val (.int c0), .val (.int c1), .val (.int c2), .val (.int ln), .val (.int bt0), .val (.int bt1), .val (.int bt2), .val (.int bt3), .val u14, .val .null, .val (.ref b1), .val (.ref r)] [(.int (1 : Int32))])) (fun _ hk => XS.iconst X7.here hx rfl (hb hby at_260) hk) ?_
        refine own_st (V := T7.setTop (mkF m 265 #[.val (.long ls1), .second, .val (.long lf1), .second, .val (.int fl), .val (.int ch), .val (.int c0), .val (.int c1), .val (.int c2), .val (.int ln), .val (.int bt0), .val (.int bt1), .val (.int bt2), .val (.int bt3), .val u14, .val .null, .val (.ref b1), .val (.ref r)] [(.int (1 : Int32))])) (fun _ hk => XS.goto X7.here hx rfl (pc0 := 261) (pc' := 265) rfl (hb hby at_261) (by decide) (by decide) hk) ?_
        exact own_retNW X7 hS_J180 (by rw [es7]; exact hk_J180) hx Bd.notSynchronized Bd.returns rfl (by simp) (hb hby at_265) (by decide) (by decide) (fun U hU hV hE => hF _ _ ⟨_, _, rfl, (by rw [hU, es7]; exact ⟨rfl, N7⟩), (by rw [hh, hV, hU, es7]; exact R.trans (CHv.at X7 hZ_J180 hEL R.1)), hE⟩)
      · skip
        refine own_st (V := T4.setTop (mkF m 266 #[.val (.long ls1), .second, .val (.long lf1), .second, .val (.int fl), .val (.int ch), .val (.int c0), .val (.int c1), .val (.int c2), .val (.int ln), .val (.int bt0), .val (.int bt1), .val (.int bt2), .val (.int bt3), .val u14, .val (.ref y), .val (.ref b1), .val (.ref r)] [])) (fun _ hk => XS.ifnonnullYes X4.here hx rfl (pc0 := 227) (pc' := 266) rfl (hb hby at_227) rfl (by decide) (by decide) hk) ?_
        refine own_st (V := T4.setTop (mkF m 268 #[.val (.long ls1), .second, .val (.long lf1), .second, .val (.int fl), .val (.int ch), .val (.int c0), .val (.int c1), .val (.int c2), .val (.int ln), .val (.int bt0), .val (.int bt1), .val (.int bt2), .val (.int bt3), .val u14, .val (.ref y), .val (.ref b1), .val (.ref r)] [(.ref y)])) (fun _ hk => XS.aload X4.here hx rfl (hb hby at_266) rfl rfl hk) ?_
        refine own_st (V := T4.setTop (mkF m 270 #[.val (.long ls1), .second, .val (.long lf1), .second, .val (.int fl), .val (.int ch), .val (.int c0), .val (.int c1), .val (.int c2), .val (.int ln), .val (.int bt0), .val (.int bt1), .val (.int bt2), .val (.int bt3), .val u14, .val (.ref y), .val (.ref b1), .val (.ref r)] [(.ref r), (.ref y)])) (fun _ hk => XS.aload X4.here hx rfl (hb hby at_268) rfl rfl hk) ?_
        obtain ⟨cq8, kq8, q8a, q8b, q8c⟩ := isOf hZ_J180 es4 E_r
        obtain ⟨_, _, ⟨T8, L8, k8, n8⟩, -, X8, ⟨Lc8, hQ8, l8, y8, z8⟩, st8⟩ := X4.virtualBack hx (y := (⟨"com/example/minter/minter/core/IssuerKeyStatus", "failure", "()Ljava/lang/String;"⟩ : MethodName)) (z := (⟨"com/example/minter/minter/core/IssuerKeyStatus", "failure", "()Ljava/lang/String;"⟩ : MethodName)) hown_J180 (mvT hZ_J180 (hw _ (List.mem_of_getElem? (i := 34) rfl))) (mvT hZ_J180 (hw _ (List.mem_of_getElem? (i := 35) rfl))) (notFace_of_selects (args := #[]) (mvT hZ_J180 (hw _ (List.mem_of_getElem? (i := 37) rfl)))) (mvT hZ_J180 (hw _ (List.mem_of_getElem? (i := 37) rfl))) (mvT hZ_J180 (hw _ (List.mem_of_getElem? (i := 36) rfl))) (by decide) (backOf (W := 1) (rm_get_failure l Z a0 hw [] r (.ref y) T3.heap n0 Z0 G2 rfl) hZ_J180 (hw _ (List.mem_of_getElem? (i := 38) rfl)) (hw _ (List.mem_of_getElem? (i := 2) rfl)) (by decide) (by decide)) q8a q8c (g := (mkF m 270 #[.val (.long ls1), .second, .val (.long lf1), .second, .val (.int fl), .val (.int ch), .val (.int c0), .val (.int c1), .val (.int c2), .val (.int ln), .val (.int bt0), .val (.int bt1), .val (.int bt2), .val (.int bt3), .val u14, .val (.ref y), .val (.ref b1), .val (.ref r)] [(.ref r), (.ref y)])) rfl (by rw [hml]; rfl) (Steps.refl _) (argsL := []) (rest := [(.ref y)]) (lenOf own_pd8 rfl) rfl (by show 2 * 0 + _ ≤ _; exact Nat.le_of_eq rfl) (hb hby at_270) (fun _ _ => ⟨rfl, es4, (by decide : 14 + 0 ≤ _), (by decide : 48 + 0 ≤ _)⟩)
        dsimp only [Pt.U, Pt.locs, Pt.cells, Pt.slots] at X8 l8 y8 z8 st8 hQ8
        subst l8 y8 z8
        obtain ⟨rfl, N8q, es8⟩ := hQ8
        have N8 := Fr.app N4 N8q
        refine own_tr (V := T8.setTop (mkF m 273 #[.val (.long ls1), .second, .val (.long lf1), .second, .val (.int fl), .val (.int ch), .val (.int c0), .val (.int c1), .val (.int c2), .val (.int ln), .val (.int bt0), .val (.int bt1), .val (.int bt2), .val (.int bt3), .val u14, .val (.ref y), .val (.ref b1), .val (.ref r)] [(.ref y), (.ref y)])) st8 ?_
        obtain ⟨cq9, kq9, q9a, q9b, q9c⟩ := isOf hZ_J180 es8 (EU _ rfl)
        obtain ⟨_, _, ⟨T9, L9, k9, n9⟩, -, X9, ⟨Lc9, hQ9, l9, y9, z9⟩, st9⟩ := X8.virtualBack hx (y := (⟨"java/lang/String", "equals", "(Ljava/lang/Object;)Z"⟩ : MethodName)) (z := (⟨"java/lang/String", "equals", "(Ljava/lang/Object;)Z"⟩ : MethodName)) hown_J180 (mvT hZ_J180 (hw _ (List.mem_of_getElem? (i := 84) rfl))) (mvT hZ_J180 (hw _ (List.mem_of_getElem? (i := 85) rfl))) (notFace_of_selects (args := #[]) (mvT hZ_J180 (hw _ (List.mem_of_getElem? (i := 87) rfl)))) (mvT hZ_J180 (hw _ (List.mem_of_getElem? (i := 87) rfl))) (mvT hZ_J180 (hw _ (List.mem_of_getElem? (i := 86) rfl))) (by decide) (backOf (W := 0) (rm_eqSelf l Z a0 hw [] y T3.heap n0 Z0) hZ_J180 (hw _ (List.mem_of_getElem? (i := 88) rfl)) (hw _ (List.mem_of_getElem? (i := 51) rfl)) (by decide) (by decide)) q9a q9c (g := (mkF m 273 #[.val (.long ls1), .second, .val (.long lf1), .second, .val (.int fl), .val (.int ch), .val (.int c0), .val (.int c1), .val (.int c2), .val (.int ln), .val (.int bt0), .val (.int bt1), .val (.int bt2), .val (.int bt3), .val u14, .val (.ref y), .val (.ref b1), .val (.ref r)] [(.ref y), (.ref y)])) rfl (by rw [hml]; rfl) (Steps.refl _) (argsL := [(.ref y)]) (rest := []) (lenOf own_pd10 rfl) rfl (by show 2 * 0 + _ ≤ _; exact Nat.le_of_eq rfl) (hb hby at_273) (fun _ _ => ⟨rfl, es8, (by decide : 14 + 0 ≤ _), (by decide : 48 + 0 ≤ _)⟩)
        dsimp only [Pt.U, Pt.locs, Pt.cells, Pt.slots] at X9 l9 y9 z9 st9 hQ9
        subst l9 y9 z9
        obtain ⟨rfl, N9q, es9⟩ := hQ9
        have N9 := Fr.app N8 N9q
        refine own_tr (V := T9.setTop (mkF m 276 #[.val (.long ls1), .second, .val (.long lf1), .second, .val (.int fl), .val (.int ch), .val (.int c0), .val (.int c1), .val (.int c2), .val (.int ln), .val (.int bt0), .val (.int bt1), .val (.int bt2), .val (.int bt3), .val u14, .val (.ref y), .val (.ref b1), .val (.ref r)] [(.int (1 : Int32))])) st9 ?_
        refine own_st (V := T9.setTop (mkF m 279 #[.val (.long ls1), .second, .val (.long lf1), .second, .val (.int fl), .val (.int ch), .val (.int c0), .val (.int c1), .val (.int c2), .val (.int ln), .val (.int bt0), .val (.int bt1), .val (.int bt2), .val (.int bt3), .val u14, .val (.ref y), .val (.ref b1), .val (.ref r)] [])) (fun _ hk => XS.ifNo X9.here hx rfl (hb hby at_276) rfl ((if0 _ _).trans (feq (show ¬ ((1 : Int32) = (0 : Int32)) from (by decide))).1) hk) ?_
        refine own_st (V := T9.setTop (mkF m 281 #[.val (.long ls1), .second, .val (.long lf1), .second, .val (.int fl), .val (.int ch), .val (.int c0), .val (.int c1), .val (.int c2), .val (.int ln), .val (.int bt0), .val (.int bt1), .val (.int bt2), .val (.int bt3), .val u14, .val (.ref y), .val (.ref b1), .val (.ref r)] [(.ref r)])) (fun _ hk => XS.aload X9.here hx rfl (hb hby at_279) rfl rfl hk) ?_
        obtain ⟨cq10, kq10, q10a, q10b, q10c⟩ := isOf hZ_J180 es9 E_r
        obtain ⟨_, _, ⟨T10, L10, k10, n10⟩, -, X10, ⟨Lc10, hQ10, l10, y10, z10⟩, st10⟩ := X9.virtualBack hx (y := (⟨"com/example/minter/minter/core/IssuerKeyStatus", "succeeded", "()J"⟩ : MethodName)) (z := (⟨"com/example/minter/minter/core/IssuerKeyStatus", "succeeded", "()J"⟩ : MethodName)) hown_J180 (mvT hZ_J180 (hw _ (List.mem_of_getElem? (i := 39) rfl))) (mvT hZ_J180 (hw _ (List.mem_of_getElem? (i := 40) rfl))) (notFace_of_selects (args := #[]) (mvT hZ_J180 (hw _ (List.mem_of_getElem? (i := 42) rfl)))) (mvT hZ_J180 (hw _ (List.mem_of_getElem? (i := 42) rfl))) (mvT hZ_J180 (hw _ (List.mem_of_getElem? (i := 41) rfl))) (by decide) (backOf (W := 0) (rm_get_succeeded l Z a0 hw [] r ls1 T3.heap n0 Z0 G3) hZ_J180 (hw _ (List.mem_of_getElem? (i := 43) rfl)) (hw _ (List.mem_of_getElem? (i := 2) rfl)) (by decide) (by decide)) q10a q10c (g := (mkF m 281 #[.val (.long ls1), .second, .val (.long lf1), .second, .val (.int fl), .val (.int ch), .val (.int c0), .val (.int c1), .val (.int c2), .val (.int ln), .val (.int bt0), .val (.int bt1), .val (.int bt2), .val (.int bt3), .val u14, .val (.ref y), .val (.ref b1), .val (.ref r)] [(.ref r)])) rfl (by rw [hml]; rfl) (Steps.refl _) (argsL := []) (rest := []) (lenOf own_pd9 rfl) rfl (by show 2 * 0 + _ ≤ _; exact Nat.le_of_eq rfl) (hb hby at_281) (fun _ _ => ⟨rfl, es9, (by decide : 14 + 0 ≤ _), (by decide : 48 + 0 ≤ _)⟩)
        dsimp only [Pt.U, Pt.locs, Pt.cells, Pt.slots] at X10 l10 y10 z10 st10 hQ10
        subst l10 y10 z10
        obtain ⟨rfl, N10q, es10⟩ := hQ10
        have N10 := Fr.app N9 N10q
        refine own_tr (V := T10.setTop (mkF m 284 #[.val (.long ls1), .second, .val (.long lf1), .second, .val (.int fl), .val (.int ch), .val (.int c0), .val (.int c1), .val (.int c2), .val (.int ln), .val (.int bt0), .val (.int bt1), .val (.int bt2), .val (.int bt3), .val u14, .val (.ref y), .val (.ref b1), .val (.ref r)] [(.long ls1)])) st10 ?_
        refine own_st (V := T10.setTop (mkF m 285 #[.val (.long ls1), .second, .val (.long lf1), .second, .val (.int fl), .val (.int ch), .val (.int c0), .val (.int c1), .val (.int c2), .val (.int ln), .val (.int bt0), .val (.int bt1), .val (.int bt2), .val (.int bt3), .val u14, .val (.ref y), .val (.ref b1), .val (.ref r)] [(.long ls1), (.long ls1)])) (fun _ hk => XS.lloadN X10.here hx rfl (hb hby at_284) rfl  hk) ?_
        refine own_st (V := T10.setTop (mkF m 286 #[.val (.long ls1), .second, .val (.long lf1), .second, .val (.int fl), .val (.int ch), .val (.int c0), .val (.int c1), .val (.int c2), .val (.int ln), .val (.int bt0), .val (.int bt1), .val (.int bt2), .val (.int bt3), .val u14, .val (.ref y), .val (.ref b1), .val (.ref r)] [(.int (lcmpW ls1 ls1))])) (fun _ hk => XS.lcmp X10.here hx rfl (hb hby at_285) rfl hk) ?_
        refine own_st (V := T10.setTop (mkF m 289 #[.val (.long ls1), .second, .val (.long lf1), .second, .val (.int fl), .val (.int ch), .val (.int c0), .val (.int c1), .val (.int c2), .val (.int ln), .val (.int bt0), .val (.int bt1), .val (.int bt2), .val (.int bt3), .val u14, .val (.ref y), .val (.ref b1), .val (.ref r)] [])) (fun _ hk => XS.ifNo X10.here hx rfl (hb hby at_286) rfl ((if0 _ _).trans (teq (show (lcmpW ls1 ls1) = (0 : Int32) from ((lw_eq _ _).mpr rfl))).2) hk) ?_
        refine own_st (V := T10.setTop (mkF m 291 #[.val (.long ls1), .second, .val (.long lf1), .second, .val (.int fl), .val (.int ch), .val (.int c0), .val (.int c1), .val (.int c2), .val (.int ln), .val (.int bt0), .val (.int bt1), .val (.int bt2), .val (.int bt3), .val u14, .val (.ref y), .val (.ref b1), .val (.ref r)] [(.ref r)])) (fun _ hk => XS.aload X10.here hx rfl (hb hby at_289) rfl rfl hk) ?_
        obtain ⟨cq11, kq11, q11a, q11b, q11c⟩ := isOf hZ_J180 es10 E_r
        obtain ⟨_, _, ⟨T11, L11, k11, n11⟩, -, X11, ⟨Lc11, hQ11, l11, y11, z11⟩, st11⟩ := X10.virtualBack hx (y := (⟨"com/example/minter/minter/core/IssuerKeyStatus", "failed", "()J"⟩ : MethodName)) (z := (⟨"com/example/minter/minter/core/IssuerKeyStatus", "failed", "()J"⟩ : MethodName)) hown_J180 (mvT hZ_J180 (hw _ (List.mem_of_getElem? (i := 44) rfl))) (mvT hZ_J180 (hw _ (List.mem_of_getElem? (i := 45) rfl))) (notFace_of_selects (args := #[]) (mvT hZ_J180 (hw _ (List.mem_of_getElem? (i := 47) rfl)))) (mvT hZ_J180 (hw _ (List.mem_of_getElem? (i := 47) rfl))) (mvT hZ_J180 (hw _ (List.mem_of_getElem? (i := 46) rfl))) (by decide) (backOf (W := 0) (rm_get_failed l Z a0 hw [] r (lf1 + 1) T3.heap n0 Z0 G4) hZ_J180 (hw _ (List.mem_of_getElem? (i := 48) rfl)) (hw _ (List.mem_of_getElem? (i := 2) rfl)) (by decide) (by decide)) q11a q11c (g := (mkF m 291 #[.val (.long ls1), .second, .val (.long lf1), .second, .val (.int fl), .val (.int ch), .val (.int c0), .val (.int c1), .val (.int c2), .val (.int ln), .val (.int bt0), .val (.int bt1), .val (.int bt2), .val (.int bt3), .val u14, .val (.ref y), .val (.ref b1), .val (.ref r)] [(.ref r)])) rfl (by rw [hml]; rfl) (Steps.refl _) (argsL := []) (rest := []) (lenOf own_pd9 rfl) rfl (by show 2 * 0 + _ ≤ _; exact Nat.le_of_eq rfl) (hb hby at_291) (fun _ _ => ⟨rfl, es10, (by decide : 14 + 0 ≤ _), (by decide : 48 + 0 ≤ _)⟩)
        dsimp only [Pt.U, Pt.locs, Pt.cells, Pt.slots] at X11 l11 y11 z11 st11 hQ11
        subst l11 y11 z11
        obtain ⟨rfl, N11q, es11⟩ := hQ11
        have N11 := Fr.app N10 N11q
        refine own_tr (V := T11.setTop (mkF m 294 #[.val (.long ls1), .second, .val (.long lf1), .second, .val (.int fl), .val (.int ch), .val (.int c0), .val (.int c1), .val (.int c2), .val (.int ln), .val (.int bt0), .val (.int bt1), .val (.int bt2), .val (.int bt3), .val u14, .val (.ref y), .val (.ref b1), .val (.ref r)] [(.long (lf1 + 1))])) st11 ?_
        refine own_st (V := T11.setTop (mkF m 295 #[.val (.long ls1), .second, .val (.long lf1), .second, .val (.int fl), .val (.int ch), .val (.int c0), .val (.int c1), .val (.int c2), .val (.int ln), .val (.int bt0), .val (.int bt1), .val (.int bt2), .val (.int bt3), .val u14, .val (.ref y), .val (.ref b1), .val (.ref r)] [(.long lf1), (.long (lf1 + 1))])) (fun _ hk => XS.lloadN X11.here hx rfl (hb hby at_294) rfl  hk) ?_
        refine own_st (V := T11.setTop (mkF m 296 #[.val (.long ls1), .second, .val (.long lf1), .second, .val (.int fl), .val (.int ch), .val (.int c0), .val (.int c1), .val (.int c2), .val (.int ln), .val (.int bt0), .val (.int bt1), .val (.int bt2), .val (.int bt3), .val u14, .val (.ref y), .val (.ref b1), .val (.ref r)] [(.long (1 : Int64)), (.long lf1), (.long (lf1 + 1))])) (fun _ hk => XS.lconst X11.here hx rfl (hb hby at_295) hk) ?_
        refine own_st (V := T11.setTop (mkF m 297 #[.val (.long ls1), .second, .val (.long lf1), .second, .val (.int fl), .val (.int ch), .val (.int c0), .val (.int c1), .val (.int c2), .val (.int ln), .val (.int bt0), .val (.int bt1), .val (.int bt2), .val (.int bt3), .val u14, .val (.ref y), .val (.ref b1), .val (.ref r)] [(.long (lf1 + (1 : Int64))), (.long (lf1 + 1))])) (fun _ hk => XS.ladd X11.here hx rfl (hb hby at_296) rfl hk) ?_
        refine own_st (V := T11.setTop (mkF m 298 #[.val (.long ls1), .second, .val (.long lf1), .second, .val (.int fl), .val (.int ch), .val (.int c0), .val (.int c1), .val (.int c2), .val (.int ln), .val (.int bt0), .val (.int bt1), .val (.int bt2), .val (.int bt3), .val u14, .val (.ref y), .val (.ref b1), .val (.ref r)] [(.int (lcmpW (lf1 + 1) (lf1 + (1 : Int64))))])) (fun _ hk => XS.lcmp X11.here hx rfl (hb hby at_297) rfl hk) ?_
        refine own_st (V := T11.setTop (mkF m 301 #[.val (.long ls1), .second, .val (.long lf1), .second, .val (.int fl), .val (.int ch), .val (.int c0), .val (.int c1), .val (.int c2), .val (.int ln), .val (.int bt0), .val (.int bt1), .val (.int bt2), .val (.int bt3), .val u14, .val (.ref y), .val (.ref b1), .val (.ref r)] [])) (fun _ hk => XS.ifNo X11.here hx rfl (hb hby at_298) rfl ((if0 _ _).trans (teq (show (lcmpW (lf1 + 1) (lf1 + (1 : Int64))) = (0 : Int32) from ((lw_eq _ _).mpr rfl))).2) hk) ?_
        refine own_st (V := T11.setTop (mkF m 302 #[.val (.long ls1), .second, .val (.long lf1), .second, .val (.int fl), .val (.int ch), .val (.int c0), .val (.int c1), .val (.int c2), .val (.int ln), .val (.int bt0), .val (.int bt1), .val (.int bt2), .val (.int bt3), .val u14, .val (.ref y), .val (.ref b1), .val (.ref r)] [(.int (1 : Int32))])) (fun _ hk => XS.iconst X11.here hx rfl (hb hby at_301) hk) ?_
        refine own_st (V := T11.setTop (mkF m 306 #[.val (.long ls1), .second, .val (.long lf1), .second, .val (.int fl), .val (.int ch), .val (.int c0), .val (.int c1), .val (.int c2), .val (.int ln), .val (.int bt0), .val (.int bt1), .val (.int bt2), .val (.int bt3), .val u14, .val (.ref y), .val (.ref b1), .val (.ref r)] [(.int (1 : Int32))])) (fun _ hk => XS.goto X11.here hx rfl (pc0 := 302) (pc' := 306) rfl (hb hby at_302) (by decide) (by decide) hk) ?_
        exact own_retNW X11 hS_J180 (by rw [es11]; exact hk_J180) hx Bd.notSynchronized Bd.returns rfl (by simp) (hb hby at_306) (by decide) (by decide) (fun U hU hV hE => hF _ _ ⟨_, _, rfl, (by rw [hU, es11]; exact ⟨rfl, N11⟩), (by rw [hh, hV, hU, es11]; exact R.trans (CHv.at X11 hZ_J180 hEL R.1)), hE⟩)
    have J114 : ∀ (T_J114 : State) (locs_J114 : List Loc) (h_J114 : Heap) (vm_J114 : Vm) (X_J114 : Stand p l e room_1 (s.setVm vm_J114) m #[(.long ls1), (.long lf1), (.int fl), (.int ch)] below meth c T_J114 locs_J114 3 10) (e_J114 : T_J114.heap = h_J114) (N_J114 : Fr n0 locs_J114) (k_J114 : Nat) (hS_J114 : s.Since vm_J114 k_J114) (hk_J114 : k_J114 ≤ h_J114.size) (hZ_J114 : Z.Warmed39 (s.setVm vm_J114).vm) (hown_J114 : (s.setVm vm_J114).vm.findClass "com/example/minter/minter/core/IssuerKeyStatusAfterPinLaw" = some m.cls) (R : CHr Z own_EL s.vm h0 vm_J114 h_J114) (Z0 : n0 ≤ h_J114.size) (O : Old Z n0 h_J114) (u14 : Value) (hu14 : u14.isRef = true) , own_G p e below F (T_J114.setTop (mkF m 114 #[.val (.long ls1), .second, .val (.long lf1), .second, .val (.int fl), .val (.int ch), .val (.int c0), .val (.int c1), .val (.int c2), .val (.int ln), .val (.int bt0), .val (.int bt1), .val (.int bt2), .val (.int bt3), .val u14, .unset, .unset, .unset] [])) := by
      intro T_J114 locs_J114 h_J114 vm_J114 X_J114 e_J114 N_J114 k_J114 hS_J114 hk_J114 hZ_J114 hown_J114 R Z0 O u14 hu14
      refine own_st (V := T_J114.setTop (mkF m 115 #[.val (.long ls1), .second, .val (.long lf1), .second, .val (.int fl), .val (.int ch), .val (.int c0), .val (.int c1), .val (.int c2), .val (.int ln), .val (.int bt0), .val (.int bt1), .val (.int bt2), .val (.int bt3), .val u14, .unset, .unset, .unset] [.null])) (fun _ hk => XS.aconstNull X_J114.here hx rfl (hb hby at_114) hk) ?_
      refine own_st (V := T_J114.setTop (mkF m 117 #[.val (.long ls1), .second, .val (.long lf1), .second, .val (.int fl), .val (.int ch), .val (.int c0), .val (.int c1), .val (.int c2), .val (.int ln), .val (.int bt0), .val (.int bt1), .val (.int bt2), .val (.int bt3), .val u14, .val .null, .unset, .unset] [])) (fun _ hk => XS.astore X_J114.here hx rfl (hb hby at_115) rfl rfl (l' := #[.val (.long ls1), .second, .val (.long lf1), .second, .val (.int fl), .val (.int ch), .val (.int c0), .val (.int c1), .val (.int c2), .val (.int ln), .val (.int bt0), .val (.int bt1), .val (.int bt2), .val (.int bt3), .val u14, .val .null, .unset, .unset]) rfl hk) ?_
      refine own_st (V := T_J114.setTop (mkF m 119 #[.val (.long ls1), .second, .val (.long lf1), .second, .val (.int fl), .val (.int ch), .val (.int c0), .val (.int c1), .val (.int c2), .val (.int ln), .val (.int bt0), .val (.int bt1), .val (.int bt2), .val (.int bt3), .val u14, .val .null, .unset, .unset] [(.int bt2)])) (fun _ hk => XS.iload X_J114.here hx rfl (hb hby at_117) rfl  hk) ?_
      by_cases hc119 : bt2 = (0 : Int32)
      · skip
        refine own_st (V := T_J114.setTop (mkF m 180 #[.val (.long ls1), .second, .val (.long lf1), .second, .val (.int fl), .val (.int ch), .val (.int c0), .val (.int c1), .val (.int c2), .val (.int ln), .val (.int bt0), .val (.int bt1), .val (.int bt2), .val (.int bt3), .val u14, .val .null, .unset, .unset] [])) (fun _ hk => XS.ifYes X_J114.here hx rfl (pc0 := 119) (pc' := 180) rfl (hb hby at_119) rfl ((if0 _ _).trans (teq (show bt2 = (0 : Int32) from hc119)).1) (by decide) (by decide) hk) ?_
        exact J180 _ _ _ _ (X_J114.more (by decide) (by decide)) e_J114 N_J114 _ hS_J114 hk_J114 hZ_J114 hown_J114 R Z0 O u14 hu14 .null rfl own_ES.null
      · skip
        refine own_st (V := T_J114.setTop (mkF m 122 #[.val (.long ls1), .second, .val (.long lf1), .second, .val (.int fl), .val (.int ch), .val (.int c0), .val (.int c1), .val (.int c2), .val (.int ln), .val (.int bt0), .val (.int bt1), .val (.int bt2), .val (.int bt3), .val u14, .val .null, .unset, .unset] [])) (fun _ hk => XS.ifNo X_J114.here hx rfl (hb hby at_119) rfl ((if0 _ _).trans (feq (show ¬ (bt2 = (0 : Int32)) from hc119)).1) hk) ?_
        refine own_st (V := T_J114.setTop (mkF m 124 #[.val (.long ls1), .second, .val (.long lf1), .second, .val (.int fl), .val (.int ch), .val (.int c0), .val (.int c1), .val (.int c2), .val (.int ln), .val (.int bt0), .val (.int bt1), .val (.int bt2), .val (.int bt3), .val u14, .val .null, .unset, .unset] [(.int ln)])) (fun _ hk => XS.iload X_J114.here hx rfl (hb hby at_122) rfl  hk) ?_
        by_cases hc124 : ln = (0 : Int32)
        · skip
          refine own_st (V := T_J114.setTop (mkF m 127 #[.val (.long ls1), .second, .val (.long lf1), .second, .val (.int fl), .val (.int ch), .val (.int c0), .val (.int c1), .val (.int c2), .val (.int ln), .val (.int bt0), .val (.int bt1), .val (.int bt2), .val (.int bt3), .val u14, .val .null, .unset, .unset] [])) (fun _ hk => XS.ifNo X_J114.here hx rfl (hb hby at_124) rfl ((if0 _ _).trans (teq (show ln = (0 : Int32) from hc124)).2) hk) ?_
          obtain ⟨T12, h12, X12, e12, E12, A12, D12, -, st12⟩ := newO X_J114 hx hZ_J114 hown_J114 (hw _ (List.mem_of_getElem? (i := 73) rfl)) (hw _ (List.mem_of_getElem? (i := 59) rfl)) (hw _ (List.mem_of_getElem? (i := 51) rfl)) e_J114 (g := (mkF m 127 #[.val (.long ls1), .second, .val (.long lf1), .second, .val (.int fl), .val (.int ch), .val (.int c0), .val (.int c1), .val (.int c2), .val (.int ln), .val (.int bt0), .val (.int bt1), .val (.int bt2), .val (.int bt3), .val u14, .val .null, .unset, .unset] [])) rfl (hb hby at_127) (by decide) (by decide)
          obtain ⟨b12, g12⟩ : ∃ z, z = h_J114.size := ⟨_, rfl⟩
          rw [← g12] at A12 D12 st12
          have g_b12 : n0 ≤ b12 := Nat.le_trans Z0 (Nat.le_of_eq g12.symm)
          have R := R.trans (CHr.ext E12 R.1)
          have O := O.ext E12
          have Z0 : n0 ≤ h12.size := Nat.le_trans Z0 E12.1
          have hk_J114 := Nat.le_trans hk_J114 E12.1
          have E_b12 := A12
          have F_value_b12 : Fld Z h12 b12 "java/lang/String" "value" "[B" .null := D12 (Or.inr (hw _ (List.mem_of_getElem? (i := 70) rfl))) (ty := (.array .byte)) (by decide)
          have F_coder_b12 : Fld Z h12 b12 "java/lang/String" "coder" "B" (.int (0 : Int32)) := D12 (Or.inr (hw _ (List.mem_of_getElem? (i := 72) rfl))) (ty := .byte) (by decide)
          refine own_st (V := T12.setTop (mkF m 130 #[.val (.long ls1), .second, .val (.long lf1), .second, .val (.int fl), .val (.int ch), .val (.int c0), .val (.int c1), .val (.int c2), .val (.int ln), .val (.int bt0), .val (.int bt1), .val (.int bt2), .val (.int bt3), .val u14, .val .null, .unset, .unset] [(.ref b12)])) st12 ?_
          refine own_st (V := T12.setTop (mkF m 131 #[.val (.long ls1), .second, .val (.long lf1), .second, .val (.int fl), .val (.int ch), .val (.int c0), .val (.int c1), .val (.int c2), .val (.int ln), .val (.int bt0), .val (.int bt1), .val (.int bt2), .val (.int bt3), .val u14, .val .null, .unset, .unset] [(.ref b12), (.ref b12)])) (fun _ hk => XS.dup X12.here hx rfl (hb hby at_130) rfl rfl hk) ?_
          refine own_st (V := T12.setTop (mkF m 132 #[.val (.long ls1), .second, .val (.long lf1), .second, .val (.int fl), .val (.int ch), .val (.int c0), .val (.int c1), .val (.int c2), .val (.int ln), .val (.int bt0), .val (.int bt1), .val (.int bt2), .val (.int bt3), .val u14, .val .null, .unset, .unset] [(.int (0 : Int32)), (.ref b12), (.ref b12)])) (fun _ hk => XS.iconst X12.here hx rfl (hb hby at_131) hk) ?_
          obtain ⟨T13, h13, k13, X13, e13, E13, A13, st13⟩ := newP X12 hx hZ_J114 (hw _ (List.mem_of_getElem? (i := 74) rfl)) e12 (g := (mkF m 132 #[.val (.long ls1), .second, .val (.long lf1), .second, .val (.int fl), .val (.int ch), .val (.int c0), .val (.int c1), .val (.int c2), .val (.int ln), .val (.int bt0), .val (.int bt1), .val (.int bt2), .val (.int bt3), .val u14, .val .null, .unset, .unset] [(.int (0 : Int32)), (.ref b12), (.ref b12)])) rfl (hb hby at_132) rfl (by decide) (cap := 0) (by decide) (by decide) (by decide) (by decide)
          obtain ⟨b13, g13⟩ : ∃ z, z = h12.size := ⟨_, rfl⟩
          rw [← g13] at A13 st13
          have ne_b12_b13 : b12 ≠ b13 := Nat.ne_of_lt (Nat.lt_of_lt_of_le E_b12.lt (Nat.le_of_eq g13.symm))
          have ne_b13_b12 : b13 ≠ b12 := Ne.symm ne_b12_b13
          have g_b13 : n0 ≤ b13 := Nat.le_trans Z0 (Nat.le_of_eq g13.symm)
          have R := R.trans (CHr.ext E13 R.1)
          have E_b12 := E_b12.ext E13
          have F_value_b12 := F_value_b12.ext E13
          have F_coder_b12 := F_coder_b12.ext E13
          have O := O.ext E13
          have Z0 : n0 ≤ h13.size := Nat.le_trans Z0 E13.1
          have hk_J114 := Nat.le_trans hk_J114 E13.1
          have V_b13 : Arv Z h13 b13 k13 .char (0 : Int32) [] (.int (0 : Int32)) := Arv.new A13 (by decide)
          refine own_st (V := T13.setTop (mkF m 134 #[.val (.long ls1), .second, .val (.long lf1), .second, .val (.int fl), .val (.int ch), .val (.int c0), .val (.int c1), .val (.int c2), .val (.int ln), .val (.int bt0), .val (.int bt1), .val (.int bt2), .val (.int bt3), .val u14, .val .null, .unset, .unset] [(.ref b13), (.ref b12), (.ref b12)])) st13 ?_
          obtain ⟨_, _, ⟨T14, L14, k14, n14⟩, -, X14, hSn14, hgr14, ⟨Lc14, hQ14, l14, y14, z14, Cn14⟩, st14⟩ := X13.specialBackS hx (y := (⟨"java/lang/String", "<init>", "([C)V"⟩ : MethodName)) rfl hown_J114 (mvT hZ_J114 (hw _ (List.mem_of_getElem? (i := 75) rfl))) (mvT hZ_J114 (hw _ (List.mem_of_getElem? (i := 76) rfl))) (mvT hZ_J114 (hw _ (List.mem_of_getElem? (i := 77) rfl))) (by decide) (backOfSH (W := 1) (rm_str1e l Z a0 hw [] b12 b13 _ _ h13 n0 Z0 E_b12 F_value_b12 F_coder_b12 g_b12 V_b13) hZ_J114 (hw _ (List.mem_of_getElem? (i := 77) rfl)) (hw _ (List.mem_of_getElem? (i := 51) rfl)) (by decide) (by decide) hEL R.1) (g := (mkF m 134 #[.val (.long ls1), .second, .val (.long lf1), .second, .val (.int fl), .val (.int ch), .val (.int c0), .val (.int c1), .val (.int c2), .val (.int ln), .val (.int bt0), .val (.int bt1), .val (.int bt2), .val (.int bt3), .val u14, .val .null, .unset, .unset] [(.ref b13), (.ref b12), (.ref b12)])) rfl (by rw [hml]; rfl) (Steps.refl _) (a := b12) (argsL := [(.ref b13)]) (rest := [(.ref b12)]) (lenOf own_pd11 rfl) rfl (by show 2 * 0 + _ ≤ _; exact Nat.le_of_eq rfl) (hb hby at_134) (fun _ _ => ⟨rfl, e13, (by decide : 5 + 4 ≤ _), (by decide : 14 + 8 ≤ _)⟩)
          dsimp only [Pt.U, Pt.locs, Pt.cells, Pt.slots] at X14 l14 y14 z14 st14 hQ14 hSn14 hgr14 Cn14
          subst l14 y14 z14
          obtain ⟨rfl, N14q, Kc, Lx⟩ := hQ14
          have N14 := Fr.app N_J114 N14q
          obtain ⟨Xr14, hSr14, hZr14, hownr14⟩ := rebS hS_J114 (by rw [e13]; exact hk_J114 : _ ≤ T13.heap.size) X14 hSn14 hgr14 hZ_J114 hown_J114
          refine own_tr (V := T14.setTop (mkF m 137 #[.val (.long ls1), .second, .val (.long lf1), .second, .val (.int fl), .val (.int ch), .val (.int c0), .val (.int c1), .val (.int c2), .val (.int ln), .val (.int bt0), .val (.int bt1), .val (.int bt2), .val (.int bt3), .val u14, .val .null, .unset, .unset] [(.ref b12)])) st14 ?_
          have hkr14 : T14.heap.size ≤ T14.heap.size := Nat.le_refl _
          have R := R.trans Cn14
          have E_b12 := E_b12.keep Kc
          have V_b13 := V_b13.keep Kc (ninS ne_b13_b12 nin0)
          have Z0 : n0 ≤ T14.heap.size := Nat.le_trans Z0 Kc.1
          have O := O.keep Kc (allS g_b12 all0)
          refine own_st (V := T14.setTop (mkF m 139 #[.val (.long ls1), .second, .val (.long lf1), .second, .val (.int fl), .val (.int ch), .val (.int c0), .val (.int c1), .val (.int c2), .val (.int ln), .val (.int bt0), .val (.int bt1), .val (.int bt2), .val (.int bt3), .val u14, .val (.ref b12), .unset, .unset] [])) (fun _ hk => XS.astore Xr14.here hx rfl (hb hby at_137) rfl rfl (l' := #[.val (.long ls1), .second, .val (.long lf1), .second, .val (.int fl), .val (.int ch), .val (.int c0), .val (.int c1), .val (.int c2), .val (.int ln), .val (.int bt0), .val (.int bt1), .val (.int bt2), .val (.int bt3), .val u14, .val (.ref b12), .unset, .unset]) rfl hk) ?_
          refine own_st (V := T14.setTop (mkF m 180 #[.val (.long ls1), .second, .val (.long lf1), .second, .val (.int fl), .val (.int ch), .val (.int c0), .val (.int c1), .val (.int c2), .val (.int ln), .val (.int bt0), .val (.int bt1), .val (.int bt2), .val (.int bt3), .val u14, .val (.ref b12), .unset, .unset] [])) (fun _ hk => XS.goto Xr14.here hx rfl (pc0 := 139) (pc' := 180) rfl (hb hby at_139) (by decide) (by decide) hk) ?_
          exact J180 _ _ _ _ (Xr14.more (by decide) (by decide)) rfl N14 _ hSr14 hkr14 hZr14 hownr14 R Z0 O u14 hu14 (.ref b12) rfl (own_ES.ref Lx)
        · skip
          refine own_st (V := T_J114.setTop (mkF m 142 #[.val (.long ls1), .second, .val (.long lf1), .second, .val (.int fl), .val (.int ch), .val (.int c0), .val (.int c1), .val (.int c2), .val (.int ln), .val (.int bt0), .val (.int bt1), .val (.int bt2), .val (.int bt3), .val u14, .val .null, .unset, .unset] [])) (fun _ hk => XS.ifYes X_J114.here hx rfl (pc0 := 124) (pc' := 142) rfl (hb hby at_124) rfl ((if0 _ _).trans (feq (show ¬ (ln = (0 : Int32)) from hc124)).2) (by decide) (by decide) hk) ?_
          refine own_st (V := T_J114.setTop (mkF m 144 #[.val (.long ls1), .second, .val (.long lf1), .second, .val (.int fl), .val (.int ch), .val (.int c0), .val (.int c1), .val (.int c2), .val (.int ln), .val (.int bt0), .val (.int bt1), .val (.int bt2), .val (.int bt3), .val u14, .val .null, .unset, .unset] [(.int ln)])) (fun _ hk => XS.iload X_J114.here hx rfl (hb hby at_142) rfl  hk) ?_
          refine own_st (V := T_J114.setTop (mkF m 145 #[.val (.long ls1), .second, .val (.long lf1), .second, .val (.int fl), .val (.int ch), .val (.int c0), .val (.int c1), .val (.int c2), .val (.int ln), .val (.int bt0), .val (.int bt1), .val (.int bt2), .val (.int bt3), .val u14, .val .null, .unset, .unset] [(.int (1 : Int32)), (.int ln)])) (fun _ hk => XS.iconst X_J114.here hx rfl (hb hby at_144) hk) ?_
          by_cases hc145 : ln = (1 : Int32)
          · skip
            refine own_st (V := T_J114.setTop (mkF m 148 #[.val (.long ls1), .second, .val (.long lf1), .second, .val (.int fl), .val (.int ch), .val (.int c0), .val (.int c1), .val (.int c2), .val (.int ln), .val (.int bt0), .val (.int bt1), .val (.int bt2), .val (.int bt3), .val u14, .val .null, .unset, .unset] [])) (fun _ hk => XS.icmpNo X_J114.here hx rfl (hb hby at_145) rfl (teq (show ln = (1 : Int32) from hc145)).2 hk) ?_
            refine own_st (V := T_J114.setTop (mkF m 150 #[.val (.long ls1), .second, .val (.long lf1), .second, .val (.int fl), .val (.int ch), .val (.int c0), .val (.int c1), .val (.int c2), .val (.int ln), .val (.int bt0), .val (.int bt1), .val (.int bt2), .val (.int bt3), .val u14, .val .null, .unset, .unset] [(.int c0)])) (fun _ hk => XS.iload X_J114.here hx rfl (hb hby at_148) rfl  hk) ?_
            obtain ⟨_, _, ⟨T15, L15, k15, n15⟩, -, X15, ⟨Lc15, hQ15, l15, y15, z15⟩, st15⟩ := Jvm.LawKit.callS X_J114 hx (y := (⟨"java/lang/String", "valueOf", "(C)Ljava/lang/String;"⟩ : MethodName)) hown_J114 (mvT hZ_J114 (hw _ (List.mem_of_getElem? (i := 49) rfl))) (mvT hZ_J114 (hw _ (List.mem_of_getElem? (i := 50) rfl))) (mvT hZ_J114 (hw _ (List.mem_of_getElem? (i := 51) rfl))) (mvT hZ_J114 (hw _ (List.mem_of_getElem? (i := 52) rfl))) (by decide) (backOf (W := 0) (rm_valueOf l Z a0 hw [] c0 cz h_J114 n0 Z0 O Scz hcz b0.1 b0.2) hZ_J114 (hw _ (List.mem_of_getElem? (i := 52) rfl)) (hw _ (List.mem_of_getElem? (i := 51) rfl)) (by decide) (by decide)) (g := (mkF m 150 #[.val (.long ls1), .second, .val (.long lf1), .second, .val (.int fl), .val (.int ch), .val (.int c0), .val (.int c1), .val (.int c2), .val (.int ln), .val (.int bt0), .val (.int bt1), .val (.int bt2), .val (.int bt3), .val u14, .val .null, .unset, .unset] [(.int c0)])) rfl (by rw [hml]; rfl) (argsL := [(.int c0)]) (rest := []) (lenOf own_pd12 rfl) rfl (by show 2 * 0 + _ ≤ _; exact Nat.le_of_eq rfl) (hb hby at_150) (fun _ _ => ⟨rfl, e_J114, (by decide : 3 + 2 ≤ _), (by decide : 10 + 5 ≤ _)⟩)
            dsimp only [Pt.U, Pt.locs, Pt.cells, Pt.slots] at X15 l15 y15 z15 st15 hQ15
            subst l15 y15 z15
            obtain ⟨rv, rfl, N15q, Kv, szv, Lv⟩ := hQ15
            have N15 := Fr.app N_J114 N15q
            refine own_st (V := T15.setTop (mkF m 153 #[.val (.long ls1), .second, .val (.long lf1), .second, .val (.int fl), .val (.int ch), .val (.int c0), .val (.int c1), .val (.int c2), .val (.int ln), .val (.int bt0), .val (.int bt1), .val (.int bt2), .val (.int bt3), .val u14, .val .null, .unset, .unset] [(.ref rv)])) st15 ?_
            have hs := (show ∀ x ∈ [], Safe Z own_EL vm_J114 h_J114 x from all0)
            have R := R.trans (CHr.keep Kv hs R.1)
            have Z0 : n0 ≤ T15.heap.size := Nat.le_trans Z0 Kv.1
            have hk_J114 := Nat.le_trans hk_J114 Kv.1
            have O := O.keep Kv all0
            refine own_st (V := T15.setTop (mkF m 155 #[.val (.long ls1), .second, .val (.long lf1), .second, .val (.int fl), .val (.int ch), .val (.int c0), .val (.int c1), .val (.int c2), .val (.int ln), .val (.int bt0), .val (.int bt1), .val (.int bt2), .val (.int bt3), .val u14, .val (.ref rv), .unset, .unset] [])) (fun _ hk => XS.astore X15.here hx rfl (hb hby at_153) rfl rfl (l' := #[.val (.long ls1), .second, .val (.long lf1), .second, .val (.int fl), .val (.int ch), .val (.int c0), .val (.int c1), .val (.int c2), .val (.int ln), .val (.int bt0), .val (.int bt1), .val (.int bt2), .val (.int bt3), .val u14, .val (.ref rv), .unset, .unset]) rfl hk) ?_
            refine own_st (V := T15.setTop (mkF m 180 #[.val (.long ls1), .second, .val (.long lf1), .second, .val (.int fl), .val (.int ch), .val (.int c0), .val (.int c1), .val (.int c2), .val (.int ln), .val (.int bt0), .val (.int bt1), .val (.int bt2), .val (.int bt3), .val u14, .val (.ref rv), .unset, .unset] [])) (fun _ hk => XS.goto X15.here hx rfl (pc0 := 155) (pc' := 180) rfl (hb hby at_155) (by decide) (by decide) hk) ?_
            exact J180 _ _ _ _ (X15.more (by decide) (by decide)) rfl N15 _ hS_J114 hk_J114 hZ_J114 hown_J114 R Z0 O u14 hu14 (.ref rv) rfl (own_ES.ref Lv)
          · skip
            refine own_st (V := T_J114.setTop (mkF m 158 #[.val (.long ls1), .second, .val (.long lf1), .second, .val (.int fl), .val (.int ch), .val (.int c0), .val (.int c1), .val (.int c2), .val (.int ln), .val (.int bt0), .val (.int bt1), .val (.int bt2), .val (.int bt3), .val u14, .val .null, .unset, .unset] [])) (fun _ hk => XS.icmpYes X_J114.here hx rfl (pc0 := 145) (pc' := 158) rfl (hb hby at_145) rfl (feq (show ¬ (ln = (1 : Int32)) from hc145)).2 (by decide) (by decide) hk) ?_
            obtain ⟨T16, h16, X16, e16, E16, A16, D16, -, st16⟩ := newO X_J114 hx hZ_J114 hown_J114 (hw _ (List.mem_of_getElem? (i := 73) rfl)) (hw _ (List.mem_of_getElem? (i := 59) rfl)) (hw _ (List.mem_of_getElem? (i := 51) rfl)) e_J114 (g := (mkF m 158 #[.val (.long ls1), .second, .val (.long lf1), .second, .val (.int fl), .val (.int ch), .val (.int c0), .val (.int c1), .val (.int c2), .val (.int ln), .val (.int bt0), .val (.int bt1), .val (.int bt2), .val (.int bt3), .val u14, .val .null, .unset, .unset] [])) rfl (hb hby at_158) (by decide) (by decide)
            obtain ⟨b16, g16⟩ : ∃ z, z = h_J114.size := ⟨_, rfl⟩
            rw [← g16] at A16 D16 st16
            have g_b16 : n0 ≤ b16 := Nat.le_trans Z0 (Nat.le_of_eq g16.symm)
            have R := R.trans (CHr.ext E16 R.1)
            have O := O.ext E16
            have Z0 : n0 ≤ h16.size := Nat.le_trans Z0 E16.1
            have hk_J114 := Nat.le_trans hk_J114 E16.1
            have E_b16 := A16
            have F_value_b16 : Fld Z h16 b16 "java/lang/String" "value" "[B" .null := D16 (Or.inr (hw _ (List.mem_of_getElem? (i := 70) rfl))) (ty := (.array .byte)) (by decide)
            have F_coder_b16 : Fld Z h16 b16 "java/lang/String" "coder" "B" (.int (0 : Int32)) := D16 (Or.inr (hw _ (List.mem_of_getElem? (i := 72) rfl))) (ty := .byte) (by decide)
            refine own_st (V := T16.setTop (mkF m 161 #[.val (.long ls1), .second, .val (.long lf1), .second, .val (.int fl), .val (.int ch), .val (.int c0), .val (.int c1), .val (.int c2), .val (.int ln), .val (.int bt0), .val (.int bt1), .val (.int bt2), .val (.int bt3), .val u14, .val .null, .unset, .unset] [(.ref b16)])) st16 ?_
            refine own_st (V := T16.setTop (mkF m 162 #[.val (.long ls1), .second, .val (.long lf1), .second, .val (.int fl), .val (.int ch), .val (.int c0), .val (.int c1), .val (.int c2), .val (.int ln), .val (.int bt0), .val (.int bt1), .val (.int bt2), .val (.int bt3), .val u14, .val .null, .unset, .unset] [(.ref b16), (.ref b16)])) (fun _ hk => XS.dup X16.here hx rfl (hb hby at_161) rfl rfl hk) ?_
            refine own_st (V := T16.setTop (mkF m 163 #[.val (.long ls1), .second, .val (.long lf1), .second, .val (.int fl), .val (.int ch), .val (.int c0), .val (.int c1), .val (.int c2), .val (.int ln), .val (.int bt0), .val (.int bt1), .val (.int bt2), .val (.int bt3), .val u14, .val .null, .unset, .unset] [(.int (2 : Int32)), (.ref b16), (.ref b16)])) (fun _ hk => XS.iconst X16.here hx rfl (hb hby at_162) hk) ?_
            obtain ⟨T17, h17, k17, X17, e17, E17, A17, st17⟩ := newP X16 hx hZ_J114 (hw _ (List.mem_of_getElem? (i := 74) rfl)) e16 (g := (mkF m 163 #[.val (.long ls1), .second, .val (.long lf1), .second, .val (.int fl), .val (.int ch), .val (.int c0), .val (.int c1), .val (.int c2), .val (.int ln), .val (.int bt0), .val (.int bt1), .val (.int bt2), .val (.int bt3), .val u14, .val .null, .unset, .unset] [(.int (2 : Int32)), (.ref b16), (.ref b16)])) rfl (hb hby at_163) rfl (by decide) (cap := 2) (by decide) (by decide) (by decide) (by decide)
            obtain ⟨b17, g17⟩ : ∃ z, z = h16.size := ⟨_, rfl⟩
            rw [← g17] at A17 st17
            have ne_b16_b17 : b16 ≠ b17 := Nat.ne_of_lt (Nat.lt_of_lt_of_le E_b16.lt (Nat.le_of_eq g17.symm))
            have ne_b17_b16 : b17 ≠ b16 := Ne.symm ne_b16_b17
            have g_b17 : n0 ≤ b17 := Nat.le_trans Z0 (Nat.le_of_eq g17.symm)
            have R := R.trans (CHr.ext E17 R.1)
            have E_b16 := E_b16.ext E17
            have F_value_b16 := F_value_b16.ext E17
            have F_coder_b16 := F_coder_b16.ext E17
            have O := O.ext E17
            have Z0 : n0 ≤ h17.size := Nat.le_trans Z0 E17.1
            have hk_J114 := Nat.le_trans hk_J114 E17.1
            have V_b17 : Arv Z h17 b17 k17 .char (2 : Int32) [(.int (0 : Int32)), (.int (0 : Int32))] (.int (0 : Int32)) := (Arv.new A17 (by decide)).pad (pad_rep [] (.int (0 : Int32)) 2)
            refine own_st (V := T17.setTop (mkF m 165 #[.val (.long ls1), .second, .val (.long lf1), .second, .val (.int fl), .val (.int ch), .val (.int c0), .val (.int c1), .val (.int c2), .val (.int ln), .val (.int bt0), .val (.int bt1), .val (.int bt2), .val (.int bt3), .val u14, .val .null, .unset, .unset] [(.ref b17), (.ref b16), (.ref b16)])) st17 ?_
            refine own_st (V := T17.setTop (mkF m 166 #[.val (.long ls1), .second, .val (.long lf1), .second, .val (.int fl), .val (.int ch), .val (.int c0), .val (.int c1), .val (.int c2), .val (.int ln), .val (.int bt0), .val (.int bt1), .val (.int bt2), .val (.int bt3), .val u14, .val .null, .unset, .unset] [(.ref b17), (.ref b17), (.ref b16), (.ref b16)])) (fun _ hk => XS.dup X17.here hx rfl (hb hby at_165) rfl rfl hk) ?_
            refine own_st (V := T17.setTop (mkF m 167 #[.val (.long ls1), .second, .val (.long lf1), .second, .val (.int fl), .val (.int ch), .val (.int c0), .val (.int c1), .val (.int c2), .val (.int ln), .val (.int bt0), .val (.int bt1), .val (.int bt2), .val (.int bt3), .val u14, .val .null, .unset, .unset] [(.int (0 : Int32)), (.ref b17), (.ref b17), (.ref b16), (.ref b16)])) (fun _ hk => XS.iconst X17.here hx rfl (hb hby at_166) hk) ?_
            refine own_st (V := T17.setTop (mkF m 169 #[.val (.long ls1), .second, .val (.long lf1), .second, .val (.int fl), .val (.int ch), .val (.int c0), .val (.int c1), .val (.int c2), .val (.int ln), .val (.int bt0), .val (.int bt1), .val (.int bt2), .val (.int bt3), .val u14, .val .null, .unset, .unset] [(.int c0), (.int (0 : Int32)), (.ref b17), (.ref b17), (.ref b16), (.ref b16)])) (fun _ hk => XS.iload X17.here hx rfl (hb hby at_167) rfl  hk) ?_
            have Sa18 := (own_arvSafe (EL := own_EL) hZ_J114.alike V_b17 (by decide))
            obtain ⟨cl18, Ar18, q18, S18, M18, H18, G18⟩ := V_b17
            have hin18 : ¬ ((0 : Int32) < 0 ∨ cl18.slots.size ≤ ((0 : Int32)).toNatClampNeg) := inb_of S18 ⟨by decide, by decide⟩
            obtain ⟨T18, h18, X18, e18, W18, st18⟩ := stC X17 hx hZ_J114 e17 Ar18 (j := (0 : Int32)) hin18 (g := (mkF m 169 #[.val (.long ls1), .second, .val (.long lf1), .second, .val (.int fl), .val (.int ch), .val (.int c0), .val (.int c1), .val (.int c2), .val (.int ln), .val (.int bt0), .val (.int bt1), .val (.int bt2), .val (.int bt3), .val u14, .val .null, .unset, .unset] [(.int c0), (.int (0 : Int32)), (.ref b17), (.ref b17), (.ref b16), (.ref b16)])) rfl rfl (hb hby at_169)
            have Sa := Sa18
            have R := R.trans (CHr.wr W18 Sa R.1)
            have E_b16 := E_b16.wr W18
            have F_value_b16 := F_value_b16.other W18 (Or.inl ne_b16_b17)
            have F_coder_b16 := F_coder_b16.other W18 (Or.inl ne_b16_b17)
            have V_b17 : Arv Z h18 b17 k17 .char (2 : Int32) [(.int (nar .char c0)), (.int (0 : Int32))] (.int (0 : Int32)) := Arv.set Ar18 q18 S18 M18 H18 G18 (fits_nar_char _) W18 0 rfl (Nat.le_of_ble_eq_true rfl)
            have N18 := Fr.snoc X18 N_J114 g_b17
            have O := O.wr W18 g_b17
            have Z0 : n0 ≤ h18.size := Nat.le_trans Z0 (Keep.of_wr W18).1
            have hk_J114 := Nat.le_trans hk_J114 (Keep.of_wr W18).1
            refine own_st (V := T18.setTop (mkF m 170 #[.val (.long ls1), .second, .val (.long lf1), .second, .val (.int fl), .val (.int ch), .val (.int c0), .val (.int c1), .val (.int c2), .val (.int ln), .val (.int bt0), .val (.int bt1), .val (.int bt2), .val (.int bt3), .val u14, .val .null, .unset, .unset] [(.ref b17), (.ref b16), (.ref b16)])) st18 ?_
            refine own_st (V := T18.setTop (mkF m 171 #[.val (.long ls1), .second, .val (.long lf1), .second, .val (.int fl), .val (.int ch), .val (.int c0), .val (.int c1), .val (.int c2), .val (.int ln), .val (.int bt0), .val (.int bt1), .val (.int bt2), .val (.int bt3), .val u14, .val .null, .unset, .unset] [(.ref b17), (.ref b17), (.ref b16), (.ref b16)])) (fun _ hk => XS.dup X18.here hx rfl (hb hby at_170) rfl rfl hk) ?_
            refine own_st (V := T18.setTop (mkF m 172 #[.val (.long ls1), .second, .val (.long lf1), .second, .val (.int fl), .val (.int ch), .val (.int c0), .val (.int c1), .val (.int c2), .val (.int ln), .val (.int bt0), .val (.int bt1), .val (.int bt2), .val (.int bt3), .val u14, .val .null, .unset, .unset] [(.int (1 : Int32)), (.ref b17), (.ref b17), (.ref b16), (.ref b16)])) (fun _ hk => XS.iconst X18.here hx rfl (hb hby at_171) hk) ?_
            refine own_st (V := T18.setTop (mkF m 174 #[.val (.long ls1), .second, .val (.long lf1), .second, .val (.int fl), .val (.int ch), .val (.int c0), .val (.int c1), .val (.int c2), .val (.int ln), .val (.int bt0), .val (.int bt1), .val (.int bt2), .val (.int bt3), .val u14, .val .null, .unset, .unset] [(.int c1), (.int (1 : Int32)), (.ref b17), (.ref b17), (.ref b16), (.ref b16)])) (fun _ hk => XS.iload X18.here hx rfl (hb hby at_172) rfl  hk) ?_
            have Sa19 := (own_arvSafe (EL := own_EL) hZ_J114.alike V_b17 (by decide))
            obtain ⟨cl19, Ar19, q19, S19, M19, H19, G19⟩ := V_b17
            have hin19 : ¬ ((1 : Int32) < 0 ∨ cl19.slots.size ≤ ((1 : Int32)).toNatClampNeg) := inb_of S19 ⟨by decide, by decide⟩
            obtain ⟨T19, h19, X19, e19, W19, st19⟩ := stC X18 hx hZ_J114 e18 Ar19 (j := (1 : Int32)) hin19 (g := (mkF m 174 #[.val (.long ls1), .second, .val (.long lf1), .second, .val (.int fl), .val (.int ch), .val (.int c0), .val (.int c1), .val (.int c2), .val (.int ln), .val (.int bt0), .val (.int bt1), .val (.int bt2), .val (.int bt3), .val u14, .val .null, .unset, .unset] [(.int c1), (.int (1 : Int32)), (.ref b17), (.ref b17), (.ref b16), (.ref b16)])) rfl rfl (hb hby at_174)
            have Sa := Sa19
            have R := R.trans (CHr.wr W19 Sa R.1)
            have E_b16 := E_b16.wr W19
            have F_value_b16 := F_value_b16.other W19 (Or.inl ne_b16_b17)
            have F_coder_b16 := F_coder_b16.other W19 (Or.inl ne_b16_b17)
            have V_b17 : Arv Z h19 b17 k17 .char (2 : Int32) [(.int (nar .char c0)), (.int (nar .char c1))] (.int (0 : Int32)) := Arv.set Ar19 q19 S19 M19 H19 G19 (fits_nar_char _) W19 1 rfl (Nat.le_of_ble_eq_true rfl)
            have N19 := Fr.snoc X19 N18 g_b17
            have O := O.wr W19 g_b17
            have Z0 : n0 ≤ h19.size := Nat.le_trans Z0 (Keep.of_wr W19).1
            have hk_J114 := Nat.le_trans hk_J114 (Keep.of_wr W19).1
            refine own_st (V := T19.setTop (mkF m 175 #[.val (.long ls1), .second, .val (.long lf1), .second, .val (.int fl), .val (.int ch), .val (.int c0), .val (.int c1), .val (.int c2), .val (.int ln), .val (.int bt0), .val (.int bt1), .val (.int bt2), .val (.int bt3), .val u14, .val .null, .unset, .unset] [(.ref b17), (.ref b16), (.ref b16)])) st19 ?_
            rw [own_nch b0, own_nch b1] at V_b17
            have hlt_b16 : ∀ c ∈ [c0, c1], ¬ c < 0 ∧ ¬ (255 : Int32) < c := (own_all2 b0 b1)
            have S_b16 := own_safe_null (EL := own_EL) hZ_J114.alike E_b16 F_value_b16
            obtain ⟨_, _, ⟨T21, L21, k21, n21⟩, -, X21, ⟨Lc21, hQ21, l21, y21, z21⟩, st21⟩ := X19.specialBack hx (y := (⟨"java/lang/String", "<init>", "([C)V"⟩ : MethodName)) rfl hown_J114 (mvT hZ_J114 (hw _ (List.mem_of_getElem? (i := 75) rfl))) (mvT hZ_J114 (hw _ (List.mem_of_getElem? (i := 76) rfl))) (mvT hZ_J114 (hw _ (List.mem_of_getElem? (i := 77) rfl))) (by decide) (StrChars.Road.backV (W := 1) hZ_J114 (fun d hd => hw d (own_sub_words d hd)) (kI := 4) (hw _ (List.mem_of_getElem? (i := 59) rfl)) (cs := [c0, c1]) (n := 2) (n0 := n0) g_b16 Z0 E_b16 F_value_b16 F_coder_b16 V_b17 (Scz.ext O.2) hcz rfl rfl (by decide) (by decide) hlt_b16 rfl (by decide) (by decide)) (g := (mkF m 175 #[.val (.long ls1), .second, .val (.long lf1), .second, .val (.int fl), .val (.int ch), .val (.int c0), .val (.int c1), .val (.int c2), .val (.int ln), .val (.int bt0), .val (.int bt1), .val (.int bt2), .val (.int bt3), .val u14, .val .null, .unset, .unset] [(.ref b17), (.ref b16), (.ref b16)])) rfl (by rw [hml]; rfl) (Steps.refl _) (a := b16) (argsL := [(.ref b17)]) (rest := [(.ref b16)]) (lenOf own_pd11 rfl) rfl (by show 2 * 0 + _ ≤ _; exact Nat.le_of_eq rfl) (hb hby at_175) (fun _ _ => ⟨rfl, e19, (by decide : 5 + 1 ≤ _), (by decide : 16 + 2 ≤ _)⟩)
            dsimp only [Pt.U, Pt.locs, Pt.cells, Pt.slots] at X21 l21 y21 z21 st21 hQ21
            subst l21 y21 z21
            obtain ⟨rfl, N21q, Ks20, Es20, Cs20, ts20, kbs20, gts20, hts20, nts20, Vs20, Ars20⟩ := hQ21
            have N21 := Fr.app N19 N21q
            refine own_tr (V := T21.setTop (mkF m 178 #[.val (.long ls1), .second, .val (.long lf1), .second, .val (.int fl), .val (.int ch), .val (.int c0), .val (.int c1), .val (.int c2), .val (.int ln), .val (.int bt0), .val (.int bt1), .val (.int bt2), .val (.int bt3), .val u14, .val .null, .unset, .unset] [(.ref b16)])) st21 ?_
            have hs := (show ∀ x ∈ [b16], Safe Z own_EL vm_J114 h19 x from (allS S_b16 all0))
            have S_b16 := Safe.keep Ks20 hs R.1 S_b16
            have R := R.trans (CHr.keep Ks20 hs R.1)
            have E_b16 := E_b16.keep Ks20
            have V_b17 := V_b17.keep Ks20 (ninS ne_b17_b16 nin0)
            have Z0 : n0 ≤ T21.heap.size := Nat.le_trans Z0 Ks20.1
            have hk_J114 := Nat.le_trans hk_J114 Ks20.1
            have O := O.keep Ks20 (allS g_b16 all0)
            have L_b16 : own_Lat Z T21.heap b16 [c0, c1] := ⟨ts20, kbs20, _, _, Es20, Vs20, Cs20, Ars20, StrChars.Road.codOf rfl (fun c hc => (hlt_b16 c hc).2), fun c hc => ⟨(hlt_b16 c hc).1, fun q => (hlt_b16 c hc).2 (Int32.lt_trans (by decide) q)⟩, Nat.le_of_ble_eq_true rfl⟩
            refine own_st (V := T21.setTop (mkF m 180 #[.val (.long ls1), .second, .val (.long lf1), .second, .val (.int fl), .val (.int ch), .val (.int c0), .val (.int c1), .val (.int c2), .val (.int ln), .val (.int bt0), .val (.int bt1), .val (.int bt2), .val (.int bt3), .val u14, .val (.ref b16), .unset, .unset] [])) (fun _ hk => XS.astore X21.here hx rfl (hb hby at_178) rfl rfl (l' := #[.val (.long ls1), .second, .val (.long lf1), .second, .val (.int fl), .val (.int ch), .val (.int c0), .val (.int c1), .val (.int c2), .val (.int ln), .val (.int bt0), .val (.int bt1), .val (.int bt2), .val (.int bt3), .val u14, .val (.ref b16), .unset, .unset]) rfl hk) ?_
            exact J180 _ _ _ _ (X21.more (by decide) (by decide)) rfl N21 _ hS_J114 hk_J114 hZ_J114 hown_J114 R Z0 O u14 hu14 (.ref b16) rfl (own_ES.ref L_b16)
    refine own_st (V := s₁.setTop (mkF m 104 #[.val (.long ls1), .second, .val (.long lf1), .second, .val (.int fl), .val (.int ch), .val (.int c0), .val (.int c1), .val (.int c2), .val (.int ln), .val (.int bt0), .val (.int bt1), .val (.int bt2), .val (.int bt3), .val .null, .unset, .unset, .unset] [(.int bt3)])) (fun _ hk => XS.iload X0.here hx rfl (hb hby at_102) rfl  hk) ?_
    by_cases hc104 : bt3 = (0 : Int32)
    · skip
      refine own_st (V := s₁.setTop (mkF m 114 #[.val (.long ls1), .second, .val (.long lf1), .second, .val (.int fl), .val (.int ch), .val (.int c0), .val (.int c1), .val (.int c2), .val (.int ln), .val (.int bt0), .val (.int bt1), .val (.int bt2), .val (.int bt3), .val .null, .unset, .unset, .unset] [])) (fun _ hk => XS.ifYes X0.here hx rfl (pc0 := 104) (pc' := 114) rfl (hb hby at_104) rfl ((if0 _ _).trans (teq (show bt3 = (0 : Int32) from hc104)).1) (by decide) (by decide) hk) ?_
      exact J114 _ _ _ _ (X0.more (by decide) (by decide)) e0 N0 _ hS0 hk0 hZ hown R Z0 O .null rfl
    · skip
      refine own_st (V := s₁.setTop (mkF m 107 #[.val (.long ls1), .second, .val (.long lf1), .second, .val (.int fl), .val (.int ch), .val (.int c0), .val (.int c1), .val (.int c2), .val (.int ln), .val (.int bt0), .val (.int bt1), .val (.int bt2), .val (.int bt3), .val .null, .unset, .unset, .unset] [])) (fun _ hk => XS.ifNo X0.here hx rfl (hb hby at_104) rfl ((if0 _ _).trans (feq (show ¬ (bt3 = (0 : Int32)) from hc104)).1) hk) ?_
      refine own_st (V := s₁.setTop (mkF m 109 #[.val (.long ls1), .second, .val (.long lf1), .second, .val (.int fl), .val (.int ch), .val (.int c0), .val (.int c1), .val (.int c2), .val (.int ln), .val (.int bt0), .val (.int bt1), .val (.int bt2), .val (.int bt3), .val .null, .unset, .unset, .unset] [(.int c2)])) (fun _ hk => XS.iload X0.here hx rfl (hb hby at_107) rfl  hk) ?_
      obtain ⟨_, _, ⟨T22, L22, k22, n22⟩, -, X22, ⟨Lc22, hQ22, l22, y22, z22⟩, st22⟩ := Jvm.LawKit.callS X0 hx (y := (⟨"java/lang/String", "valueOf", "(C)Ljava/lang/String;"⟩ : MethodName)) hown (mvT hZ (hw _ (List.mem_of_getElem? (i := 49) rfl))) (mvT hZ (hw _ (List.mem_of_getElem? (i := 50) rfl))) (mvT hZ (hw _ (List.mem_of_getElem? (i := 51) rfl))) (mvT hZ (hw _ (List.mem_of_getElem? (i := 52) rfl))) (by decide) (backOf (W := 0) (rm_valueOf l Z a0 hw [] c2 cz h0 n0 Z0 O Scz hcz b2.1 b2.2) hZ (hw _ (List.mem_of_getElem? (i := 52) rfl)) (hw _ (List.mem_of_getElem? (i := 51) rfl)) (by decide) (by decide)) (g := (mkF m 109 #[.val (.long ls1), .second, .val (.long lf1), .second, .val (.int fl), .val (.int ch), .val (.int c0), .val (.int c1), .val (.int c2), .val (.int ln), .val (.int bt0), .val (.int bt1), .val (.int bt2), .val (.int bt3), .val .null, .unset, .unset, .unset] [(.int c2)])) rfl (by rw [hml]; rfl) (argsL := [(.int c2)]) (rest := []) (lenOf own_pd12 rfl) rfl (by show 2 * 0 + _ ≤ _; exact Nat.le_of_eq rfl) (hb hby at_109) (fun _ _ => ⟨rfl, e0, (by decide : 0 + 2 ≤ _), (by decide : 0 + 5 ≤ _)⟩)
      dsimp only [Pt.U, Pt.locs, Pt.cells, Pt.slots] at X22 l22 y22 z22 st22 hQ22
      subst l22 y22 z22
      obtain ⟨rv, rfl, N22q, Kv, szv, Lv⟩ := hQ22
      have N22 := Fr.app N0 N22q
      refine own_st (V := T22.setTop (mkF m 112 #[.val (.long ls1), .second, .val (.long lf1), .second, .val (.int fl), .val (.int ch), .val (.int c0), .val (.int c1), .val (.int c2), .val (.int ln), .val (.int bt0), .val (.int bt1), .val (.int bt2), .val (.int bt3), .val .null, .unset, .unset, .unset] [(.ref rv)])) st22 ?_
      have hs := (show ∀ x ∈ [], Safe Z own_EL s.vm h0 x from all0)
      have R := R.trans (CHr.keep Kv hs R.1)
      have Z0 : n0 ≤ T22.heap.size := Nat.le_trans Z0 Kv.1
      have hk0 := Nat.le_trans hk0 Kv.1
      have O := O.keep Kv all0
      refine own_st (V := T22.setTop (mkF m 114 #[.val (.long ls1), .second, .val (.long lf1), .second, .val (.int fl), .val (.int ch), .val (.int c0), .val (.int c1), .val (.int c2), .val (.int ln), .val (.int bt0), .val (.int bt1), .val (.int bt2), .val (.int bt3), .val (.ref rv), .unset, .unset, .unset] [])) (fun _ hk => XS.astore X22.here hx rfl (hb hby at_112) rfl rfl (l' := #[.val (.long ls1), .second, .val (.long lf1), .second, .val (.int fl), .val (.int ch), .val (.int c0), .val (.int c1), .val (.int c2), .val (.int ln), .val (.int bt0), .val (.int bt1), .val (.int bt2), .val (.int bt3), .val (.ref rv), .unset, .unset, .unset]) rfl hk) ?_
      exact J114 _ _ _ _ (X22.more (by decide) (by decide)) rfl N22 _ hS0 hk0 hZ hown R Z0 O (.ref rv) rfl
  have J82 : ∀ (bt0 : Int32) (eb0 : bt0 = 0 ∨ bt0 = 1) (bt1 : Int32) (eb1 : bt1 = 0 ∨ bt1 = 1) (bt2 : Int32), own_G p e below F (s₁.setTop (mkF m 82 #[.val (.long ls1), .second, .val (.long lf1), .second, .val (.int fl), .val (.int ch), .val (.int c0), .val (.int c1), .val (.int c2), .val (.int ln), .val (.int bt0), .val (.int bt1), .unset, .unset, .unset, .unset, .unset, .unset] [(.int bt2)])) := by
    intro bt0 eb0 bt1 eb1 bt2
    refine own_st (V := s₁.setTop (mkF m 84 #[.val (.long ls1), .second, .val (.long lf1), .second, .val (.int fl), .val (.int ch), .val (.int c0), .val (.int c1), .val (.int c2), .val (.int ln), .val (.int bt0), .val (.int bt1), .val (.int bt2), .unset, .unset, .unset, .unset, .unset] [])) (fun _ hk => XS.istore X0.here hx rfl (hb hby at_82) rfl  (l' := #[.val (.long ls1), .second, .val (.long lf1), .second, .val (.int fl), .val (.int ch), .val (.int c0), .val (.int c1), .val (.int c2), .val (.int ln), .val (.int bt0), .val (.int bt1), .val (.int bt2), .unset, .unset, .unset, .unset, .unset]) rfl hk) ?_
    refine own_st (V := s₁.setTop (mkF m 86 #[.val (.long ls1), .second, .val (.long lf1), .second, .val (.int fl), .val (.int ch), .val (.int c0), .val (.int c1), .val (.int c2), .val (.int ln), .val (.int bt0), .val (.int bt1), .val (.int bt2), .unset, .unset, .unset, .unset, .unset] [(.int fl)])) (fun _ hk => XS.iload X0.here hx rfl (hb hby at_84) rfl  hk) ?_
    refine own_st (V := s₁.setTop (mkF m 88 #[.val (.long ls1), .second, .val (.long lf1), .second, .val (.int fl), .val (.int ch), .val (.int c0), .val (.int c1), .val (.int c2), .val (.int ln), .val (.int bt0), .val (.int bt1), .val (.int bt2), .unset, .unset, .unset, .unset, .unset] [(.int (8 : Int32)), (.int fl)])) (fun _ hk => XS.bipush X0.here hx rfl (hb hby at_86) hk) ?_
    refine own_st (V := s₁.setTop (mkF m 89 #[.val (.long ls1), .second, .val (.long lf1), .second, .val (.int fl), .val (.int ch), .val (.int c0), .val (.int c1), .val (.int c2), .val (.int ln), .val (.int bt0), .val (.int bt1), .val (.int bt2), .unset, .unset, .unset, .unset, .unset] [(.int (fl &&& (8 : Int32)))])) (fun _ hk => XS.iand X0.here hx rfl (hb hby at_88) rfl hk) ?_
    by_cases hc89 : (fl &&& (8 : Int32)) = (0 : Int32)
    · skip
      refine own_st (V := s₁.setTop (mkF m 96 #[.val (.long ls1), .second, .val (.long lf1), .second, .val (.int fl), .val (.int ch), .val (.int c0), .val (.int c1), .val (.int c2), .val (.int ln), .val (.int bt0), .val (.int bt1), .val (.int bt2), .unset, .unset, .unset, .unset, .unset] [])) (fun _ hk => XS.ifYes X0.here hx rfl (pc0 := 89) (pc' := 96) rfl (hb hby at_89) rfl ((if0 _ _).trans (teq (show (fl &&& (8 : Int32)) = (0 : Int32) from hc89)).1) (by decide) (by decide) hk) ?_
      refine own_st (V := s₁.setTop (mkF m 97 #[.val (.long ls1), .second, .val (.long lf1), .second, .val (.int fl), .val (.int ch), .val (.int c0), .val (.int c1), .val (.int c2), .val (.int ln), .val (.int bt0), .val (.int bt1), .val (.int bt2), .unset, .unset, .unset, .unset, .unset] [(.int (0 : Int32))])) (fun _ hk => XS.iconst X0.here hx rfl (hb hby at_96) hk) ?_
      exact J97 _ eb0 _ eb1 _ _
    · skip
      refine own_st (V := s₁.setTop (mkF m 92 #[.val (.long ls1), .second, .val (.long lf1), .second, .val (.int fl), .val (.int ch), .val (.int c0), .val (.int c1), .val (.int c2), .val (.int ln), .val (.int bt0), .val (.int bt1), .val (.int bt2), .unset, .unset, .unset, .unset, .unset] [])) (fun _ hk => XS.ifNo X0.here hx rfl (hb hby at_89) rfl ((if0 _ _).trans (feq (show ¬ ((fl &&& (8 : Int32)) = (0 : Int32)) from hc89)).1) hk) ?_
      refine own_st (V := s₁.setTop (mkF m 93 #[.val (.long ls1), .second, .val (.long lf1), .second, .val (.int fl), .val (.int ch), .val (.int c0), .val (.int c1), .val (.int c2), .val (.int ln), .val (.int bt0), .val (.int bt1), .val (.int bt2), .unset, .unset, .unset, .unset, .unset] [(.int (1 : Int32))])) (fun _ hk => XS.iconst X0.here hx rfl (hb hby at_92) hk) ?_
      refine own_st (V := s₁.setTop (mkF m 97 #[.val (.long ls1), .second, .val (.long lf1), .second, .val (.int fl), .val (.int ch), .val (.int c0), .val (.int c1), .val (.int c2), .val (.int ln), .val (.int bt0), .val (.int bt1), .val (.int bt2), .unset, .unset, .unset, .unset, .unset] [(.int (1 : Int32))])) (fun _ hk => XS.goto X0.here hx rfl (pc0 := 93) (pc' := 97) rfl (hb hby at_93) (by decide) (by decide) hk) ?_
      exact J97 _ eb0 _ eb1 _ _
  have J68 : ∀ (bt0 : Int32) (eb0 : bt0 = 0 ∨ bt0 = 1) (bt1 : Int32) (eb1 : bt1 = 0 ∨ bt1 = 1), own_G p e below F (s₁.setTop (mkF m 68 #[.val (.long ls1), .second, .val (.long lf1), .second, .val (.int fl), .val (.int ch), .val (.int c0), .val (.int c1), .val (.int c2), .val (.int ln), .val (.int bt0), .unset, .unset, .unset, .unset, .unset, .unset, .unset] [(.int bt1)])) := by
    intro bt0 eb0 bt1 eb1
    refine own_st (V := s₁.setTop (mkF m 70 #[.val (.long ls1), .second, .val (.long lf1), .second, .val (.int fl), .val (.int ch), .val (.int c0), .val (.int c1), .val (.int c2), .val (.int ln), .val (.int bt0), .val (.int bt1), .unset, .unset, .unset, .unset, .unset, .unset] [])) (fun _ hk => XS.istore X0.here hx rfl (hb hby at_68) rfl  (l' := #[.val (.long ls1), .second, .val (.long lf1), .second, .val (.int fl), .val (.int ch), .val (.int c0), .val (.int c1), .val (.int c2), .val (.int ln), .val (.int bt0), .val (.int bt1), .unset, .unset, .unset, .unset, .unset, .unset]) rfl hk) ?_
    refine own_st (V := s₁.setTop (mkF m 72 #[.val (.long ls1), .second, .val (.long lf1), .second, .val (.int fl), .val (.int ch), .val (.int c0), .val (.int c1), .val (.int c2), .val (.int ln), .val (.int bt0), .val (.int bt1), .unset, .unset, .unset, .unset, .unset, .unset] [(.int fl)])) (fun _ hk => XS.iload X0.here hx rfl (hb hby at_70) rfl  hk) ?_
    refine own_st (V := s₁.setTop (mkF m 73 #[.val (.long ls1), .second, .val (.long lf1), .second, .val (.int fl), .val (.int ch), .val (.int c0), .val (.int c1), .val (.int c2), .val (.int ln), .val (.int bt0), .val (.int bt1), .unset, .unset, .unset, .unset, .unset, .unset] [(.int (4 : Int32)), (.int fl)])) (fun _ hk => XS.iconst X0.here hx rfl (hb hby at_72) hk) ?_
    refine own_st (V := s₁.setTop (mkF m 74 #[.val (.long ls1), .second, .val (.long lf1), .second, .val (.int fl), .val (.int ch), .val (.int c0), .val (.int c1), .val (.int c2), .val (.int ln), .val (.int bt0), .val (.int bt1), .unset, .unset, .unset, .unset, .unset, .unset] [(.int (fl &&& (4 : Int32)))])) (fun _ hk => XS.iand X0.here hx rfl (hb hby at_73) rfl hk) ?_
    by_cases hc74 : (fl &&& (4 : Int32)) = (0 : Int32)
    · skip
      refine own_st (V := s₁.setTop (mkF m 81 #[.val (.long ls1), .second, .val (.long lf1), .second, .val (.int fl), .val (.int ch), .val (.int c0), .val (.int c1), .val (.int c2), .val (.int ln), .val (.int bt0), .val (.int bt1), .unset, .unset, .unset, .unset, .unset, .unset] [])) (fun _ hk => XS.ifYes X0.here hx rfl (pc0 := 74) (pc' := 81) rfl (hb hby at_74) rfl ((if0 _ _).trans (teq (show (fl &&& (4 : Int32)) = (0 : Int32) from hc74)).1) (by decide) (by decide) hk) ?_
      refine own_st (V := s₁.setTop (mkF m 82 #[.val (.long ls1), .second, .val (.long lf1), .second, .val (.int fl), .val (.int ch), .val (.int c0), .val (.int c1), .val (.int c2), .val (.int ln), .val (.int bt0), .val (.int bt1), .unset, .unset, .unset, .unset, .unset, .unset] [(.int (0 : Int32))])) (fun _ hk => XS.iconst X0.here hx rfl (hb hby at_81) hk) ?_
      exact J82 _ eb0 _ eb1 _
    · skip
      refine own_st (V := s₁.setTop (mkF m 77 #[.val (.long ls1), .second, .val (.long lf1), .second, .val (.int fl), .val (.int ch), .val (.int c0), .val (.int c1), .val (.int c2), .val (.int ln), .val (.int bt0), .val (.int bt1), .unset, .unset, .unset, .unset, .unset, .unset] [])) (fun _ hk => XS.ifNo X0.here hx rfl (hb hby at_74) rfl ((if0 _ _).trans (feq (show ¬ ((fl &&& (4 : Int32)) = (0 : Int32)) from hc74)).1) hk) ?_
      refine own_st (V := s₁.setTop (mkF m 78 #[.val (.long ls1), .second, .val (.long lf1), .second, .val (.int fl), .val (.int ch), .val (.int c0), .val (.int c1), .val (.int c2), .val (.int ln), .val (.int bt0), .val (.int bt1), .unset, .unset, .unset, .unset, .unset, .unset] [(.int (1 : Int32))])) (fun _ hk => XS.iconst X0.here hx rfl (hb hby at_77) hk) ?_
      refine own_st (V := s₁.setTop (mkF m 82 #[.val (.long ls1), .second, .val (.long lf1), .second, .val (.int fl), .val (.int ch), .val (.int c0), .val (.int c1), .val (.int c2), .val (.int ln), .val (.int bt0), .val (.int bt1), .unset, .unset, .unset, .unset, .unset, .unset] [(.int (1 : Int32))])) (fun _ hk => XS.goto X0.here hx rfl (pc0 := 78) (pc' := 82) rfl (hb hby at_78) (by decide) (by decide) hk) ?_
      exact J82 _ eb0 _ eb1 _
  have J54 : ∀ (bt0 : Int32) (eb0 : bt0 = 0 ∨ bt0 = 1), own_G p e below F (s₁.setTop (mkF m 54 #[.val (.long ls1), .second, .val (.long lf1), .second, .val (.int fl), .val (.int ch), .val (.int c0), .val (.int c1), .val (.int c2), .val (.int ln), .unset, .unset, .unset, .unset, .unset, .unset, .unset, .unset] [(.int bt0)])) := by
    intro bt0 eb0
    refine own_st (V := s₁.setTop (mkF m 56 #[.val (.long ls1), .second, .val (.long lf1), .second, .val (.int fl), .val (.int ch), .val (.int c0), .val (.int c1), .val (.int c2), .val (.int ln), .val (.int bt0), .unset, .unset, .unset, .unset, .unset, .unset, .unset] [])) (fun _ hk => XS.istore X0.here hx rfl (hb hby at_54) rfl  (l' := #[.val (.long ls1), .second, .val (.long lf1), .second, .val (.int fl), .val (.int ch), .val (.int c0), .val (.int c1), .val (.int c2), .val (.int ln), .val (.int bt0), .unset, .unset, .unset, .unset, .unset, .unset, .unset]) rfl hk) ?_
    refine own_st (V := s₁.setTop (mkF m 58 #[.val (.long ls1), .second, .val (.long lf1), .second, .val (.int fl), .val (.int ch), .val (.int c0), .val (.int c1), .val (.int c2), .val (.int ln), .val (.int bt0), .unset, .unset, .unset, .unset, .unset, .unset, .unset] [(.int fl)])) (fun _ hk => XS.iload X0.here hx rfl (hb hby at_56) rfl  hk) ?_
    refine own_st (V := s₁.setTop (mkF m 59 #[.val (.long ls1), .second, .val (.long lf1), .second, .val (.int fl), .val (.int ch), .val (.int c0), .val (.int c1), .val (.int c2), .val (.int ln), .val (.int bt0), .unset, .unset, .unset, .unset, .unset, .unset, .unset] [(.int (2 : Int32)), (.int fl)])) (fun _ hk => XS.iconst X0.here hx rfl (hb hby at_58) hk) ?_
    refine own_st (V := s₁.setTop (mkF m 60 #[.val (.long ls1), .second, .val (.long lf1), .second, .val (.int fl), .val (.int ch), .val (.int c0), .val (.int c1), .val (.int c2), .val (.int ln), .val (.int bt0), .unset, .unset, .unset, .unset, .unset, .unset, .unset] [(.int (fl &&& (2 : Int32)))])) (fun _ hk => XS.iand X0.here hx rfl (hb hby at_59) rfl hk) ?_
    by_cases hc60 : (fl &&& (2 : Int32)) = (0 : Int32)
    · skip
      refine own_st (V := s₁.setTop (mkF m 67 #[.val (.long ls1), .second, .val (.long lf1), .second, .val (.int fl), .val (.int ch), .val (.int c0), .val (.int c1), .val (.int c2), .val (.int ln), .val (.int bt0), .unset, .unset, .unset, .unset, .unset, .unset, .unset] [])) (fun _ hk => XS.ifYes X0.here hx rfl (pc0 := 60) (pc' := 67) rfl (hb hby at_60) rfl ((if0 _ _).trans (teq (show (fl &&& (2 : Int32)) = (0 : Int32) from hc60)).1) (by decide) (by decide) hk) ?_
      refine own_st (V := s₁.setTop (mkF m 68 #[.val (.long ls1), .second, .val (.long lf1), .second, .val (.int fl), .val (.int ch), .val (.int c0), .val (.int c1), .val (.int c2), .val (.int ln), .val (.int bt0), .unset, .unset, .unset, .unset, .unset, .unset, .unset] [(.int (0 : Int32))])) (fun _ hk => XS.iconst X0.here hx rfl (hb hby at_67) hk) ?_
      exact J68 _ eb0 _ (Or.inl rfl)
    · skip
      refine own_st (V := s₁.setTop (mkF m 63 #[.val (.long ls1), .second, .val (.long lf1), .second, .val (.int fl), .val (.int ch), .val (.int c0), .val (.int c1), .val (.int c2), .val (.int ln), .val (.int bt0), .unset, .unset, .unset, .unset, .unset, .unset, .unset] [])) (fun _ hk => XS.ifNo X0.here hx rfl (hb hby at_60) rfl ((if0 _ _).trans (feq (show ¬ ((fl &&& (2 : Int32)) = (0 : Int32)) from hc60)).1) hk) ?_
      refine own_st (V := s₁.setTop (mkF m 64 #[.val (.long ls1), .second, .val (.long lf1), .second, .val (.int fl), .val (.int ch), .val (.int c0), .val (.int c1), .val (.int c2), .val (.int ln), .val (.int bt0), .unset, .unset, .unset, .unset, .unset, .unset, .unset] [(.int (1 : Int32))])) (fun _ hk => XS.iconst X0.here hx rfl (hb hby at_63) hk) ?_
      refine own_st (V := s₁.setTop (mkF m 68 #[.val (.long ls1), .second, .val (.long lf1), .second, .val (.int fl), .val (.int ch), .val (.int c0), .val (.int c1), .val (.int c2), .val (.int ln), .val (.int bt0), .unset, .unset, .unset, .unset, .unset, .unset, .unset] [(.int (1 : Int32))])) (fun _ hk => XS.goto X0.here hx rfl (pc0 := 64) (pc' := 68) rfl (hb hby at_64) (by decide) (by decide) hk) ?_
      exact J68 _ eb0 _ (Or.inr rfl)
  refine own_st (V := s₁.setTop (mkF m 2 #[.val (.long ls1), .second, .val (.long lf1), .second, .val (.int fl), .val (.int ch), .unset, .unset, .unset, .unset, .unset, .unset, .unset, .unset, .unset, .unset, .unset, .unset] [(.int ch)])) (fun _ hk => XS.iload X0.here hx rfl (hb hby at_0) rfl  hk) ?_
  refine own_st (V := s₁.setTop (mkF m 5 #[.val (.long ls1), .second, .val (.long lf1), .second, .val (.int fl), .val (.int ch), .unset, .unset, .unset, .unset, .unset, .unset, .unset, .unset, .unset, .unset, .unset, .unset] [(.int (255 : Int32)), (.int ch)])) (fun _ hk => XS.sipush X0.here hx rfl (hb hby at_2) hk) ?_
  refine own_st (V := s₁.setTop (mkF m 6 #[.val (.long ls1), .second, .val (.long lf1), .second, .val (.int fl), .val (.int ch), .unset, .unset, .unset, .unset, .unset, .unset, .unset, .unset, .unset, .unset, .unset, .unset] [(.int (ch &&& (255 : Int32)))])) (fun _ hk => XS.iand X0.here hx rfl (hb hby at_5) rfl hk) ?_
  rw [← hc0]
  refine own_st (V := s₁.setTop (mkF m 7 #[.val (.long ls1), .second, .val (.long lf1), .second, .val (.int fl), .val (.int ch), .unset, .unset, .unset, .unset, .unset, .unset, .unset, .unset, .unset, .unset, .unset, .unset] [(.int (c0.toUInt32.toUInt16.toUInt32.toInt32))])) (fun _ hk => XS.i2c X0.here hx rfl (hb hby at_6) rfl hk) ?_
  rw [m0]
  refine own_st (V := s₁.setTop (mkF m 9 #[.val (.long ls1), .second, .val (.long lf1), .second, .val (.int fl), .val (.int ch), .val (.int c0), .unset, .unset, .unset, .unset, .unset, .unset, .unset, .unset, .unset, .unset, .unset] [])) (fun _ hk => XS.istore X0.here hx rfl (hb hby at_7) rfl  (l' := #[.val (.long ls1), .second, .val (.long lf1), .second, .val (.int fl), .val (.int ch), .val (.int c0), .unset, .unset, .unset, .unset, .unset, .unset, .unset, .unset, .unset, .unset, .unset]) rfl hk) ?_
  refine own_st (V := s₁.setTop (mkF m 11 #[.val (.long ls1), .second, .val (.long lf1), .second, .val (.int fl), .val (.int ch), .val (.int c0), .unset, .unset, .unset, .unset, .unset, .unset, .unset, .unset, .unset, .unset, .unset] [(.int ch)])) (fun _ hk => XS.iload X0.here hx rfl (hb hby at_9) rfl  hk) ?_
  refine own_st (V := s₁.setTop (mkF m 13 #[.val (.long ls1), .second, .val (.long lf1), .second, .val (.int fl), .val (.int ch), .val (.int c0), .unset, .unset, .unset, .unset, .unset, .unset, .unset, .unset, .unset, .unset, .unset] [(.int (8 : Int32)), (.int ch)])) (fun _ hk => XS.bipush X0.here hx rfl (hb hby at_11) hk) ?_
  refine own_st (V := s₁.setTop (mkF m 14 #[.val (.long ls1), .second, .val (.long lf1), .second, .val (.int fl), .val (.int ch), .val (.int c0), .unset, .unset, .unset, .unset, .unset, .unset, .unset, .unset, .unset, .unset, .unset] [(.int ((ch.toUInt32 >>> ((8 : Int32) &&& 31).toUInt32).toInt32))])) (fun _ hk => XS.iushr X0.here hx rfl (hb hby at_13) rfl hk) ?_
  refine own_st (V := s₁.setTop (mkF m 17 #[.val (.long ls1), .second, .val (.long lf1), .second, .val (.int fl), .val (.int ch), .val (.int c0), .unset, .unset, .unset, .unset, .unset, .unset, .unset, .unset, .unset, .unset, .unset] [(.int (255 : Int32)), (.int ((ch.toUInt32 >>> ((8 : Int32) &&& 31).toUInt32).toInt32))])) (fun _ hk => XS.sipush X0.here hx rfl (hb hby at_14) hk) ?_
  refine own_st (V := s₁.setTop (mkF m 18 #[.val (.long ls1), .second, .val (.long lf1), .second, .val (.int fl), .val (.int ch), .val (.int c0), .unset, .unset, .unset, .unset, .unset, .unset, .unset, .unset, .unset, .unset, .unset] [(.int (((ch.toUInt32 >>> ((8 : Int32) &&& 31).toUInt32).toInt32) &&& (255 : Int32)))])) (fun _ hk => XS.iand X0.here hx rfl (hb hby at_17) rfl hk) ?_
  rw [← hc1]
  refine own_st (V := s₁.setTop (mkF m 19 #[.val (.long ls1), .second, .val (.long lf1), .second, .val (.int fl), .val (.int ch), .val (.int c0), .unset, .unset, .unset, .unset, .unset, .unset, .unset, .unset, .unset, .unset, .unset] [(.int (c1.toUInt32.toUInt16.toUInt32.toInt32))])) (fun _ hk => XS.i2c X0.here hx rfl (hb hby at_18) rfl hk) ?_
  rw [m1]
  refine own_st (V := s₁.setTop (mkF m 21 #[.val (.long ls1), .second, .val (.long lf1), .second, .val (.int fl), .val (.int ch), .val (.int c0), .val (.int c1), .unset, .unset, .unset, .unset, .unset, .unset, .unset, .unset, .unset, .unset] [])) (fun _ hk => XS.istore X0.here hx rfl (hb hby at_19) rfl  (l' := #[.val (.long ls1), .second, .val (.long lf1), .second, .val (.int fl), .val (.int ch), .val (.int c0), .val (.int c1), .unset, .unset, .unset, .unset, .unset, .unset, .unset, .unset, .unset, .unset]) rfl hk) ?_
  refine own_st (V := s₁.setTop (mkF m 23 #[.val (.long ls1), .second, .val (.long lf1), .second, .val (.int fl), .val (.int ch), .val (.int c0), .val (.int c1), .unset, .unset, .unset, .unset, .unset, .unset, .unset, .unset, .unset, .unset] [(.int ch)])) (fun _ hk => XS.iload X0.here hx rfl (hb hby at_21) rfl  hk) ?_
  refine own_st (V := s₁.setTop (mkF m 25 #[.val (.long ls1), .second, .val (.long lf1), .second, .val (.int fl), .val (.int ch), .val (.int c0), .val (.int c1), .unset, .unset, .unset, .unset, .unset, .unset, .unset, .unset, .unset, .unset] [(.int (24 : Int32)), (.int ch)])) (fun _ hk => XS.bipush X0.here hx rfl (hb hby at_23) hk) ?_
  refine own_st (V := s₁.setTop (mkF m 26 #[.val (.long ls1), .second, .val (.long lf1), .second, .val (.int fl), .val (.int ch), .val (.int c0), .val (.int c1), .unset, .unset, .unset, .unset, .unset, .unset, .unset, .unset, .unset, .unset] [(.int ((ch.toUInt32 >>> ((24 : Int32) &&& 31).toUInt32).toInt32))])) (fun _ hk => XS.iushr X0.here hx rfl (hb hby at_25) rfl hk) ?_
  refine own_st (V := s₁.setTop (mkF m 29 #[.val (.long ls1), .second, .val (.long lf1), .second, .val (.int fl), .val (.int ch), .val (.int c0), .val (.int c1), .unset, .unset, .unset, .unset, .unset, .unset, .unset, .unset, .unset, .unset] [(.int (255 : Int32)), (.int ((ch.toUInt32 >>> ((24 : Int32) &&& 31).toUInt32).toInt32))])) (fun _ hk => XS.sipush X0.here hx rfl (hb hby at_26) hk) ?_
  refine own_st (V := s₁.setTop (mkF m 30 #[.val (.long ls1), .second, .val (.long lf1), .second, .val (.int fl), .val (.int ch), .val (.int c0), .val (.int c1), .unset, .unset, .unset, .unset, .unset, .unset, .unset, .unset, .unset, .unset] [(.int (((ch.toUInt32 >>> ((24 : Int32) &&& 31).toUInt32).toInt32) &&& (255 : Int32)))])) (fun _ hk => XS.iand X0.here hx rfl (hb hby at_29) rfl hk) ?_
  rw [← hc2]
  refine own_st (V := s₁.setTop (mkF m 31 #[.val (.long ls1), .second, .val (.long lf1), .second, .val (.int fl), .val (.int ch), .val (.int c0), .val (.int c1), .unset, .unset, .unset, .unset, .unset, .unset, .unset, .unset, .unset, .unset] [(.int (c2.toUInt32.toUInt16.toUInt32.toInt32))])) (fun _ hk => XS.i2c X0.here hx rfl (hb hby at_30) rfl hk) ?_
  rw [m2]
  refine own_st (V := s₁.setTop (mkF m 33 #[.val (.long ls1), .second, .val (.long lf1), .second, .val (.int fl), .val (.int ch), .val (.int c0), .val (.int c1), .val (.int c2), .unset, .unset, .unset, .unset, .unset, .unset, .unset, .unset, .unset] [])) (fun _ hk => XS.istore X0.here hx rfl (hb hby at_31) rfl  (l' := #[.val (.long ls1), .second, .val (.long lf1), .second, .val (.int fl), .val (.int ch), .val (.int c0), .val (.int c1), .val (.int c2), .unset, .unset, .unset, .unset, .unset, .unset, .unset, .unset, .unset]) rfl hk) ?_
  refine own_st (V := s₁.setTop (mkF m 35 #[.val (.long ls1), .second, .val (.long lf1), .second, .val (.int fl), .val (.int ch), .val (.int c0), .val (.int c1), .val (.int c2), .unset, .unset, .unset, .unset, .unset, .unset, .unset, .unset, .unset] [(.int ch)])) (fun _ hk => XS.iload X0.here hx rfl (hb hby at_33) rfl  hk) ?_
  refine own_st (V := s₁.setTop (mkF m 37 #[.val (.long ls1), .second, .val (.long lf1), .second, .val (.int fl), .val (.int ch), .val (.int c0), .val (.int c1), .val (.int c2), .unset, .unset, .unset, .unset, .unset, .unset, .unset, .unset, .unset] [(.int (16 : Int32)), (.int ch)])) (fun _ hk => XS.bipush X0.here hx rfl (hb hby at_35) hk) ?_
  refine own_st (V := s₁.setTop (mkF m 38 #[.val (.long ls1), .second, .val (.long lf1), .second, .val (.int fl), .val (.int ch), .val (.int c0), .val (.int c1), .val (.int c2), .unset, .unset, .unset, .unset, .unset, .unset, .unset, .unset, .unset] [(.int ((ch.toUInt32 >>> ((16 : Int32) &&& 31).toUInt32).toInt32))])) (fun _ hk => XS.iushr X0.here hx rfl (hb hby at_37) rfl hk) ?_
  refine own_st (V := s₁.setTop (mkF m 39 #[.val (.long ls1), .second, .val (.long lf1), .second, .val (.int fl), .val (.int ch), .val (.int c0), .val (.int c1), .val (.int c2), .unset, .unset, .unset, .unset, .unset, .unset, .unset, .unset, .unset] [(.int (3 : Int32)), (.int ((ch.toUInt32 >>> ((16 : Int32) &&& 31).toUInt32).toInt32))])) (fun _ hk => XS.iconst X0.here hx rfl (hb hby at_38) hk) ?_
  refine own_st (V := s₁.setTop (mkF m 40 #[.val (.long ls1), .second, .val (.long lf1), .second, .val (.int fl), .val (.int ch), .val (.int c0), .val (.int c1), .val (.int c2), .unset, .unset, .unset, .unset, .unset, .unset, .unset, .unset, .unset] [(.int (((ch.toUInt32 >>> ((16 : Int32) &&& 31).toUInt32).toInt32) &&& (3 : Int32)))])) (fun _ hk => XS.iand X0.here hx rfl (hb hby at_39) rfl hk) ?_
  rw [← hln]
  refine own_st (V := s₁.setTop (mkF m 42 #[.val (.long ls1), .second, .val (.long lf1), .second, .val (.int fl), .val (.int ch), .val (.int c0), .val (.int c1), .val (.int c2), .val (.int ln), .unset, .unset, .unset, .unset, .unset, .unset, .unset, .unset] [])) (fun _ hk => XS.istore X0.here hx rfl (hb hby at_40) rfl  (l' := #[.val (.long ls1), .second, .val (.long lf1), .second, .val (.int fl), .val (.int ch), .val (.int c0), .val (.int c1), .val (.int c2), .val (.int ln), .unset, .unset, .unset, .unset, .unset, .unset, .unset, .unset]) rfl hk) ?_
  refine own_st (V := s₁.setTop (mkF m 44 #[.val (.long ls1), .second, .val (.long lf1), .second, .val (.int fl), .val (.int ch), .val (.int c0), .val (.int c1), .val (.int c2), .val (.int ln), .unset, .unset, .unset, .unset, .unset, .unset, .unset, .unset] [(.int fl)])) (fun _ hk => XS.iload X0.here hx rfl (hb hby at_42) rfl  hk) ?_
  refine own_st (V := s₁.setTop (mkF m 45 #[.val (.long ls1), .second, .val (.long lf1), .second, .val (.int fl), .val (.int ch), .val (.int c0), .val (.int c1), .val (.int c2), .val (.int ln), .unset, .unset, .unset, .unset, .unset, .unset, .unset, .unset] [(.int (1 : Int32)), (.int fl)])) (fun _ hk => XS.iconst X0.here hx rfl (hb hby at_44) hk) ?_
  refine own_st (V := s₁.setTop (mkF m 46 #[.val (.long ls1), .second, .val (.long lf1), .second, .val (.int fl), .val (.int ch), .val (.int c0), .val (.int c1), .val (.int c2), .val (.int ln), .unset, .unset, .unset, .unset, .unset, .unset, .unset, .unset] [(.int (fl &&& (1 : Int32)))])) (fun _ hk => XS.iand X0.here hx rfl (hb hby at_45) rfl hk) ?_
  by_cases hc46 : (fl &&& (1 : Int32)) = (0 : Int32)
  · skip
    refine own_st (V := s₁.setTop (mkF m 53 #[.val (.long ls1), .second, .val (.long lf1), .second, .val (.int fl), .val (.int ch), .val (.int c0), .val (.int c1), .val (.int c2), .val (.int ln), .unset, .unset, .unset, .unset, .unset, .unset, .unset, .unset] [])) (fun _ hk => XS.ifYes X0.here hx rfl (pc0 := 46) (pc' := 53) rfl (hb hby at_46) rfl ((if0 _ _).trans (teq (show (fl &&& (1 : Int32)) = (0 : Int32) from hc46)).1) (by decide) (by decide) hk) ?_
    refine own_st (V := s₁.setTop (mkF m 54 #[.val (.long ls1), .second, .val (.long lf1), .second, .val (.int fl), .val (.int ch), .val (.int c0), .val (.int c1), .val (.int c2), .val (.int ln), .unset, .unset, .unset, .unset, .unset, .unset, .unset, .unset] [(.int (0 : Int32))])) (fun _ hk => XS.iconst X0.here hx rfl (hb hby at_53) hk) ?_
    exact J54 _ (Or.inl rfl)
  · skip
    refine own_st (V := s₁.setTop (mkF m 49 #[.val (.long ls1), .second, .val (.long lf1), .second, .val (.int fl), .val (.int ch), .val (.int c0), .val (.int c1), .val (.int c2), .val (.int ln), .unset, .unset, .unset, .unset, .unset, .unset, .unset, .unset] [])) (fun _ hk => XS.ifNo X0.here hx rfl (hb hby at_46) rfl ((if0 _ _).trans (feq (show ¬ ((fl &&& (1 : Int32)) = (0 : Int32)) from hc46)).1) hk) ?_
    refine own_st (V := s₁.setTop (mkF m 50 #[.val (.long ls1), .second, .val (.long lf1), .second, .val (.int fl), .val (.int ch), .val (.int c0), .val (.int c1), .val (.int c2), .val (.int ln), .unset, .unset, .unset, .unset, .unset, .unset, .unset, .unset] [(.int (1 : Int32))])) (fun _ hk => XS.iconst X0.here hx rfl (hb hby at_49) hk) ?_
    refine own_st (V := s₁.setTop (mkF m 54 #[.val (.long ls1), .second, .val (.long lf1), .second, .val (.int fl), .val (.int ch), .val (.int c0), .val (.int c1), .val (.int c2), .val (.int ln), .unset, .unset, .unset, .unset, .unset, .unset, .unset, .unset] [(.int (1 : Int32))])) (fun _ hk => XS.goto X0.here hx rfl (pc0 := 50) (pc' := 54) rfl (hb hby at_50) (by decide) (by decide) hk) ?_
    exact J54 _ (Or.inr rfl)
set_option maxRecDepth 65536 in
set_option maxHeartbeats 40000000 in
theorem comes_1 {Post : Tables → Env → Array Value → State → Outcome → State → Prop} (hpost : ∀ tb e args s v u, (limb_1_1.after args s (.returned v) u = true ∧ limb_1_2.after args s (.returned v) u = true ∧ True) → ReturnedEndW s (.returned v) u (Jvm.fieldLocs frame_1_writes args s ++ Jvm.arrayLocs frame_1_arrays args s ++ Jvm.staticLocs frame_1_statics s) 24 1152 → Post tb e args s (.returned v) u) :
    ArmFor flags0 classFile x code maxLocals ret World_1 tables_1 room_1 Calls_1 rest_1 Pre_1 Post := by
  intro l hfl _ _ p e ha hc hk s m args below hf hA hF happ hP
  obtain ⟨hcalls, hrest, hpre⟩ := hP
  obtain ⟨-, -, -, hnamed, -, -, -, hat⟩ := (Spec.applies_iff hf).mp happ
  obtain ⟨hg, hn⟩ := and_e (Cond.before_iff.mp (show (Jvm.Cond.and given_1 narrow_1).before args s = true from hpre))
  obtain ⟨h1, g0⟩ := and_e hg
  obtain ⟨k0, g1⟩ := and_e g0
  obtain ⟨k1, g2⟩ := and_e g1
  obtain ⟨k2, g3⟩ := and_e g2
  have k3 := g3
  obtain ⟨w0, w1, w2, w3, rfl⟩ : ∃ w0 w1 w2 w3 : Value, args = #[w0, w1, w2, w3] := by
    have hs : args.size = 4 := by simpa [Cond.value, given_1] using h1
    obtain ⟨L⟩ := args
    match L, hs with
    | [w0, w1, w2, w3], _ => exact ⟨w0, w1, w2, w3, rfl⟩
  have hw := fun d (hd : d ∈ tables_1) => atoms_spec (ws := Jvm.Cond.code x code maxLocals ret :: tables_1) hat d (List.mem_cons_of_mem _ hd)
  obtain ⟨hsets, hown0⟩ := atoms_of _ (rest_1_c_eq ▸ (show rest_1_c.before _ s = true from hrest))
  have hr0 := Cond.before_iff.mp hown0
  have hfit : Fit s := fun {y c} hc i hi => by
    obtain ⟨ha, rfl⟩ := Array.getElem?_eq_some_iff.mp hc
    have q := List.all_eq_true.mp ((Array.all_eq_true_iff_forall_mem.mp hF) _ (Array.getElem_mem ha)) i (List.mem_range.mpr hi)
    simpa [Array.getElem?_eq_getElem hi] using q
  obtain ⟨ls1, e_ls1⟩ := isL_v k0
  obtain rfl : w0 = (.long ls1) := Option.some.inj e_ls1
  obtain ⟨lf1, e_lf1⟩ := isL_v k1
  obtain rfl : w1 = (.long lf1) := Option.some.inj e_lf1
  obtain ⟨fl, e_fl⟩ := is_v k2
  obtain rfl : w2 = (.int fl) := Option.some.inj e_fl
  obtain ⟨ch, e_ch⟩ := is_v k3
  obtain rfl : w3 = (.int ch) := Option.some.inj e_ch
  obtain ⟨cz, ecz⟩ := is_v (Cond.before_iff.mp (hsets _ (List.mem_of_getElem? (i := 1) rfl)))
  have Scz : Sta s s.heap "java/lang/String" "COMPACT_STRINGS" "Z" (.int cz) := Sta.start ecz (Or.inl (hsets _ (List.mem_of_getElem? (i := 0) rfl)))
  have hcz : ¬ (cz = (0 : Int32)) := gotF (Cond.eq_ints ecz (Term.int_eval (0))) (not_v (Cond.before_iff.mp (hsets _ (List.mem_of_getElem? (i := 2) rfl))))
  have hCH : CHv s own_EL s.vm s.heap := CHv.start (own_hEL hw) hcalls.1 (hsets _ (List.mem_of_getElem? (i := 2) rfl)) (hw _ (List.mem_of_getElem? (i := 63) rfl)) (hw _ (List.mem_of_getElem? (i := 59) rfl))
  obtain ⟨n, o, h1, h2, h3, _, L, rfl, ⟨rfl, N⟩, -, hq⟩ := rm_law l s _ hw tables_1 ls1 lf1 fl ch cz s.heap s.heap.size (Nat.le_refl _) (Old.start s) Scz hcz p e ha hc hk s m _ below hf ((Spec.applies_iff_loose hf).mp happ).1 ⟨rfl, State.Warmed39.refl s, rfl, hCH⟩ trivial
  refine ⟨n, _, h1, h2, h3, hpost _ _ _ _ _ _ ⟨Cond.after_iff.mpr rfl, Cond.after_iff.mpr (eq_i res_at (Term.int_eval (1)) rfl), trivial⟩ ⟨hq.1, hq.2.1, hq.2.2.1, (hq.2.2.2.sift fun y hy => Or.inr (N y hy)).mono (by decide) (by decide)⟩⟩
theorem main_1_1 : Claimed_1_1 := comes_1 fun _ _ _ _ _ _ h hF => ⟨h.1, hF⟩
theorem main_1_2 : Claimed_1_2 := comes_1 fun _ _ _ _ _ _ h hF => ⟨h.2.1, hF⟩
end Jvm.Pilot.@@N@@
namespace Jvm.Pilot.@@N@@
open Jvm Jvm.ClassFile Sem Op Lib Jvm.Free Jvm.Stand Jvm.Pilot.@@N@@.Jvm.D
/-! MADE BY PROGRAM (witnessworld.py) out of the Statement's table words and the real class files: 21 classes; the members and pool entries that the words name. The judged class is class 1, her method 1. -/
namespace start1
open Jvm.ClassFile
def u (s : String) : CpInfo := .utf8 (stringToUtf16 s)
/-- a pool by its gaps: so many unusable entries, then the entry; so many at the end -/
def gap : Nat → List CpInfo → List CpInfo
  | 0, r => r
  | n + 1, r => .unusable :: gap n r
def poolList (es : List (Nat × CpInfo)) (last : Nat) : List CpInfo := es.foldr (fun e r => gap e.1 (e.2 :: r)) (gap last [])
def pool (es : List (Nat × CpInfo)) (last : Nat) : Array CpInfo := ⟨poolList es last⟩
def fileOf (pool : Array CpInfo) (this : Nat) (attrs : Array Attribute := #[]) (ms : Array MethodInfo := #[]) (fl : Nat := 33) (sup : Nat := 0) (ifs : Array Nat := #[]) (fds : Array FieldInfo := #[]) : ClassFile where
  minorVersion := 0
  majorVersion := 65
  constantPool := pool
  accessFlags := fl
  thisClass := this
  superClass := sup
  interfaces := ifs
  fields := fds
  methods := ms
  attributes := attrs
def plain (name : String) (sup : Option ClassId) : Class where
  name := name
  kind := .ordinary
  loader := none
  accessFlags := 33
  super := sup
  interfaces := #[]
  cf := none
  fields := #[]
  methods := #[]
  instanceTypes := #[]
  staticTypes := #[]
  resolved := #[]
  callSites := []
  init := .initialized
  statics := none
  mirror := none

def pool0 : Array CpInfo := pool [(5, u "<init>"), (0, u "()V"), (1, .class_ 10), (1, u "java/lang/Object")] 113

def k0c0 : Code := { maxStack := 0, maxLocals := 1, code := object_method_1_code, exceptionTable := #[], attributes := #[] }
def k0m0 : Method := { name := "<init>", desc := "()V", sig := { parameters := [], returnType := none }, accessFlags := 1, code := some k0c0 }
/-- java/lang/Object -/
def k0 : Class := { plain "java/lang/Object" none with
  accessFlags := 33
  interfaces := #[]
  cf := some (fileOf pool0 8 #[] #[{ accessFlags := 1, nameIndex := 5, descriptorIndex := 6, attributes := #[] }] 33 0 #[] #[])
  fields := #[]
  methods := #[k0m0]
  instanceTypes := #[]
  staticTypes := #[]
  resolved := Array.replicate 124 none
  statics := none }

def pool1 : Array CpInfo := pool [(2, .class_ 4), (1, u "java/lang/Object"), (0, u "<init>"), (0, u "()V"), (0, .methodref 8 9), (0, .class_ 10), (0, .nameAndType 11 12), (0, u "java/lang/String"), (0, u "valueOf"), (0, u "(C)Ljava/lang/String;"), (0, .methodref 8 14), (0, .nameAndType 5 15), (0, u "([C)V"), (0, .class_ 17), (0, u "com/example/minter/minter/core/IssuerKeyStatus"), (0, .methodref 16 19), (0, .nameAndType 5 20), (0, u "(ZLjava/lang/String;JJ)V"), (0, .methodref 16 22), (0, .nameAndType 23 24), (0, u "after"), (0, u "(Ljava/lang/String;Z)Lcom/example/minter/minter/core/IssuerKeyStatus;"), (0, .methodref 16 26), (0, .nameAndType 27 28), (0, u "held"), (0, u "()Z"), (0, .methodref 16 30), (0, .nameAndType 31 32), (0, u "failure"), (0, u "()Ljava/lang/String;"), (0, .methodref 16 34), (0, .nameAndType 35 36), (0, u "succeeded"), (0, u "()J"), (0, .methodref 16 38), (0, .nameAndType 39 36), (0, u "failed"), (0, .methodref 8 41), (0, .nameAndType 42 43), (0, u "equals"), (0, u "(Ljava/lang/Object;)Z"), (0, .class_ 45), (0, u "com/example/minter/minter/core/IssuerKeyStatusAfterPinLaw"), (2, u "law"), (0, u "(JJII)Z")] 3

def k1m0 : Method := { name := "<init>", desc := "()V", sig := { parameters := [], returnType := none }, accessFlags := 1, code := none }
def k1c1 : Code := { maxStack := 8, maxLocals := 18, code := code, exceptionTable := #[], attributes := #[] }
def k1m1 : Method := { name := "law", desc := "(JJII)Z", sig := { parameters := [.long, .long, .int, .int], returnType := some .boolean }, accessFlags := 9, code := some k1c1 }
/-- com/example/minter/minter/core/IssuerKeyStatusAfterPinLaw -/
def k1 : Class := { plain "com/example/minter/minter/core/IssuerKeyStatusAfterPinLaw" (some 0) with
  accessFlags := 49
  interfaces := #[]
  cf := some (fileOf pool1 44 #[] #[{ accessFlags := 1, nameIndex := 5, descriptorIndex := 6, attributes := #[] }, { accessFlags := 9, nameIndex := 48, descriptorIndex := 49, attributes := #[] }] 49 2 #[] #[])
  fields := #[]
  methods := #[k1m0, k1m1]
  instanceTypes := #[]
  staticTypes := #[]
  resolved := Array.replicate 53 none
  statics := none }

def pool2 : Array CpInfo := pool [(1, .methodref 2 3), (0, .class_ 4), (0, .nameAndType 5 6), (0, u "java/lang/Object"), (0, u "<init>"), (0, u "()V"), (0, .class_ 8), (0, u "java/lang/Record")] 13

def k2c0 : Code := { maxStack := 1, maxLocals := 1, code := jdk_30_method_1_code, exceptionTable := #[], attributes := #[] }
def k2m0 : Method := { name := "<init>", desc := "()V", sig := { parameters := [], returnType := none }, accessFlags := 4, code := some k2c0 }
/-- java/lang/Record -/
def k2 : Class := { plain "java/lang/Record" (some 0) with
  accessFlags := 1057
  interfaces := #[]
  cf := some (fileOf pool2 7 #[] #[{ accessFlags := 4, nameIndex := 5, descriptorIndex := 6, attributes := #[] }] 1057 2 #[] #[])
  fields := #[]
  methods := #[k2m0]
  instanceTypes := #[]
  staticTypes := #[]
  resolved := Array.replicate 22 none
  statics := none }

def pool3 : Array CpInfo := pool [(1, .methodref 2 3), (0, .class_ 4), (0, .nameAndType 5 6), (0, u "java/lang/Record"), (0, u "<init>"), (0, u "()V"), (0, .fieldref 8 9), (0, .class_ 10), (0, .nameAndType 11 12), (0, u "com/example/minter/minter/core/IssuerKeyStatus"), (0, u "held"), (0, u "Z"), (0, .fieldref 8 14), (0, .nameAndType 15 16), (0, u "failure"), (0, u "Ljava/lang/String;"), (0, .fieldref 8 18), (0, .nameAndType 19 20), (0, u "succeeded"), (0, u "J"), (0, .fieldref 8 22), (0, .nameAndType 23 20), (0, u "failed"), (0, .methodref 8 25), (0, .nameAndType 5 26), (0, u "(ZLjava/lang/String;JJ)V"), (14, u "NOT_FETCHED"), (0, u "Lcom/example/minter/minter/core/IssuerKeyStatus;"), (4, u "()Z"), (1, u "after"), (0, u "(Ljava/lang/String;Z)Lcom/example/minter/minter/core/IssuerKeyStatus;"), (0, u "()Ljava/lang/String;"), (2, u "()J")] 24

def k3c0 : Code := { maxStack := 3, maxLocals := 7, code := prog_14_method_1_code, exceptionTable := #[], attributes := #[] }
def k3m0 : Method := { name := "<init>", desc := "(ZLjava/lang/String;JJ)V", sig := { parameters := [.boolean, (.object "java/lang/String"), .long, .long], returnType := none }, accessFlags := 1, code := some k3c0 }
def k3c1 : Code := { maxStack := 10, maxLocals := 3, code := prog_14_method_3_code, exceptionTable := #[], attributes := #[] }
def k3m1 : Method := { name := "after", desc := "(Ljava/lang/String;Z)Lcom/example/minter/minter/core/IssuerKeyStatus;", sig := { parameters := [(.object "java/lang/String"), .boolean], returnType := some (.object "com/example/minter/minter/core/IssuerKeyStatus") }, accessFlags := 0, code := some k3c1 }
def k3c2 : Code := { maxStack := 1, maxLocals := 1, code := prog_14_method_7_code, exceptionTable := #[], attributes := #[] }
def k3m2 : Method := { name := "held", desc := "()Z", sig := { parameters := [], returnType := some .boolean }, accessFlags := 1, code := some k3c2 }
def k3c3 : Code := { maxStack := 1, maxLocals := 1, code := prog_14_method_8_code, exceptionTable := #[], attributes := #[] }
def k3m3 : Method := { name := "failure", desc := "()Ljava/lang/String;", sig := { parameters := [], returnType := some (.object "java/lang/String") }, accessFlags := 1, code := some k3c3 }
def k3c4 : Code := { maxStack := 2, maxLocals := 1, code := prog_14_method_9_code, exceptionTable := #[], attributes := #[] }
def k3m4 : Method := { name := "succeeded", desc := "()J", sig := { parameters := [], returnType := some .long }, accessFlags := 1, code := some k3c4 }
def k3c5 : Code := { maxStack := 2, maxLocals := 1, code := prog_14_method_10_code, exceptionTable := #[], attributes := #[] }
def k3m5 : Method := { name := "failed", desc := "()J", sig := { parameters := [], returnType := some .long }, accessFlags := 1, code := some k3c5 }
/-- com/example/minter/minter/core/IssuerKeyStatus -/
def k3 : Class := { plain "com/example/minter/minter/core/IssuerKeyStatus" (some 2) with
  accessFlags := 49
  interfaces := #[]
  cf := some (fileOf pool3 8 #[] #[{ accessFlags := 1, nameIndex := 5, descriptorIndex := 26, attributes := #[] }, { accessFlags := 0, nameIndex := 49, descriptorIndex := 50, attributes := #[] }, { accessFlags := 1, nameIndex := 11, descriptorIndex := 47, attributes := #[] }, { accessFlags := 1, nameIndex := 15, descriptorIndex := 51, attributes := #[] }, { accessFlags := 1, nameIndex := 19, descriptorIndex := 54, attributes := #[] }, { accessFlags := 1, nameIndex := 23, descriptorIndex := 54, attributes := #[] }] 49 2 #[] #[{ accessFlags := 18, nameIndex := 11, descriptorIndex := 12, attributes := #[] }, { accessFlags := 18, nameIndex := 15, descriptorIndex := 16, attributes := #[] }, { accessFlags := 18, nameIndex := 19, descriptorIndex := 20, attributes := #[] }, { accessFlags := 18, nameIndex := 23, descriptorIndex := 20, attributes := #[] }, { accessFlags := 24, nameIndex := 41, descriptorIndex := 42, attributes := #[] }])
  fields := #[{ name := "held", type := .boolean, accessFlags := 18, slot := 0, constantValue := 0 }, { name := "failure", type := (.object "java/lang/String"), accessFlags := 18, slot := 1, constantValue := 0 }, { name := "succeeded", type := .long, accessFlags := 18, slot := 2, constantValue := 0 }, { name := "failed", type := .long, accessFlags := 18, slot := 3, constantValue := 0 }, { name := "NOT_FETCHED", type := (.object "com/example/minter/minter/core/IssuerKeyStatus"), accessFlags := 24, slot := 0, constantValue := 0 }]
  methods := #[k3m0, k3m1, k3m2, k3m3, k3m4, k3m5]
  instanceTypes := #[.boolean, (.object "java/lang/String"), .long, .long]
  staticTypes := #[(.object "com/example/minter/minter/core/IssuerKeyStatus")]
  resolved := Array.replicate 79 none
  statics := none }

def pool4 : Array CpInfo := pool [(1, .class_ 2), (0, u "java/io/Serializable"), (0, .class_ 4), (0, u "java/lang/Object")] 2

/-- java/io/Serializable -/
def k4 : Class := { plain "java/io/Serializable" (some 0) with
  accessFlags := 1537
  interfaces := #[]
  cf := some (fileOf pool4 1 #[] #[] 1537 3 #[] #[])
  fields := #[]
  methods := #[]
  instanceTypes := #[]
  staticTypes := #[]
  resolved := Array.replicate 7 none
  statics := none }

def pool5 : Array CpInfo := pool [(1, .class_ 2), (0, u "java/lang/Comparable"), (0, .class_ 4), (0, u "java/lang/Object")] 7

/-- java/lang/Comparable -/
def k5 : Class := { plain "java/lang/Comparable" (some 0) with
  accessFlags := 1537
  interfaces := #[]
  cf := some (fileOf pool5 1 #[] #[] 1537 3 #[] #[])
  fields := #[]
  methods := #[]
  instanceTypes := #[]
  staticTypes := #[]
  resolved := Array.replicate 12 none
  statics := none }

def pool6 : Array CpInfo := pool [(2, .class_ 4), (1, u "java/lang/CharSequence"), (42, .class_ 48), (0, u "java/lang/CharSequence$1CodePointIterator"), (10, .class_ 60), (0, u "java/lang/CharSequence$1CharIterator"), (5, .class_ 67), (0, u "java/lang/Object")] 63

/-- java/lang/CharSequence -/
def k6 : Class := { plain "java/lang/CharSequence" (some 0) with
  accessFlags := 1537
  interfaces := #[]
  cf := some (fileOf pool6 2 #[.nestMembers #[47, 59]] #[] 1537 66 #[] #[])
  fields := #[]
  methods := #[]
  instanceTypes := #[]
  staticTypes := #[]
  resolved := Array.replicate 131 none
  statics := none }

def pool7 : Array CpInfo := pool [(1, .class_ 2), (0, u "java/lang/constant/Constable"), (0, .class_ 4), (0, u "java/lang/Object")] 6

/-- java/lang/constant/Constable -/
def k7 : Class := { plain "java/lang/constant/Constable" (some 0) with
  accessFlags := 1537
  interfaces := #[]
  cf := some (fileOf pool7 1 #[] #[] 1537 3 #[] #[])
  fields := #[]
  methods := #[]
  instanceTypes := #[]
  staticTypes := #[]
  resolved := Array.replicate 11 none
  statics := none }

def pool8 : Array CpInfo := pool [(1, .class_ 2), (0, u "java/lang/constant/ConstantDesc"), (0, .class_ 4), (0, u "java/lang/Object")] 32

/-- java/lang/constant/ConstantDesc -/
def k8 : Class := { plain "java/lang/constant/ConstantDesc" (some 0) with
  accessFlags := 1537
  interfaces := #[]
  cf := some (fileOf pool8 1 #[] #[] 1537 3 #[] #[])
  fields := #[]
  methods := #[]
  instanceTypes := #[]
  staticTypes := #[]
  resolved := Array.replicate 37 none
  statics := none }

def pool9 : Array CpInfo := pool [(1, .methodref 2 3), (0, .class_ 4), (0, .nameAndType 5 6), (0, u "java/lang/Object"), (0, u "<init>"), (0, u "()V"), (0, .string 8), (0, u ""), (0, .fieldref 10 11), (0, .class_ 12), (0, .nameAndType 13 14), (0, u "java/lang/String"), (0, u "value"), (0, u "[B"), (0, .fieldref 10 16), (0, .nameAndType 17 18), (0, u "coder"), (0, u "B"), (2, u "hash"), (0, u "I"), (2, u "hashIsZero"), (0, u "Z"), (0, .methodref 10 28), (0, .nameAndType 5 29), (0, u "([CIILjava/lang/Void;)V"), (8, .fieldref 10 39), (0, .nameAndType 40 26), (0, u "COMPACT_STRINGS"), (1, .class_ 44), (1, u "java/lang/StringUTF16"), (0, u "compress"), (1, .methodref 42 48), (0, .nameAndType 49 50), (0, u "coderFromArrayLen"), (0, u "([BI)B"), (2, u "toBytes"), (53, .class_ 109), (1, u "java/lang/StringLatin1"), (67, .methodref 42 178), (0, .nameAndType 45 179), (0, u "([CII)[B"), (29, .methodref 10 210), (0, .nameAndType 5 211), (0, u "([BB)V"), (157, u "(C)Z"), (173, u "equals"), (29, u "(Ljava/lang/Object;)Z"), (1, .class_ 576), (0, u "java/lang/CharSequence"), (22, u "CASE_INSENSITIVE_ORDER"), (0, u "Ljava/util/Comparator;"), (181, u "valueOf"), (0, u "(C)Ljava/lang/String;"), (226, u "([C)V"), (4, .methodref 107 1016), (0, .nameAndType 1017 369), (0, u "canEncode"), (0, .methodref 107 1019), (0, .nameAndType 53 1020), (0, u "(C)[B"), (80, u "serialPersistentFields"), (0, u "[Ljava/io/ObjectStreamField;"), (0, .class_ 1104), (0, u "java/lang/String$CaseInsensitiveComparator"), (1, .class_ 1107), (0, u "java/io/Serializable"), (0, .class_ 1109), (0, u "java/lang/Comparable"), (0, .class_ 1111), (0, u "java/lang/constant/Constable"), (0, .class_ 1113), (0, u "java/lang/constant/ConstantDesc"), (2, u "serialVersionUID"), (0, u "J"), (3, u "REPL"), (0, u "C"), (2, u "LATIN1"), (1, u "UTF16")] 323

def k9m0 : Method := { name := "<init>", desc := "()V", sig := { parameters := [], returnType := none }, accessFlags := 1, code := none }
def k9c1 : Code := { maxStack := 5, maxLocals := 2, code := jdk_42_method_3_code, exceptionTable := #[], attributes := #[] }
def k9m1 : Method := { name := "<init>", desc := "([C)V", sig := { parameters := [(.array .char)], returnType := none }, accessFlags := 1, code := some k9c1 }
def k9c2 : Code := { maxStack := 2, maxLocals := 3, code := jdk_42_method_66_code, exceptionTable := #[], attributes := #[] }
def k9m2 : Method := { name := "equals", desc := "(Ljava/lang/Object;)Z", sig := { parameters := [(.object "java/lang/Object")], returnType := some .boolean }, accessFlags := 1, code := some k9c2 }
def k9c3 : Code := { maxStack := 4, maxLocals := 1, code := jdk_42_method_139_code, exceptionTable := #[], attributes := #[] }
def k9m3 : Method := { name := "valueOf", desc := "(C)Ljava/lang/String;", sig := { parameters := [.char], returnType := some (.object "java/lang/String") }, accessFlags := 9, code := some k9c3 }
def k9c4 : Code := { maxStack := 4, maxLocals := 6, code := jdk_42_method_149_code, exceptionTable := #[], attributes := #[] }
def k9m4 : Method := { name := "<init>", desc := "([CIILjava/lang/Void;)V", sig := { parameters := [(.array .char), .int, .int, (.object "java/lang/Void")], returnType := none }, accessFlags := 2, code := some k9c4 }
def k9c5 : Code := { maxStack := 2, maxLocals := 3, code := jdk_42_method_151_code, exceptionTable := #[], attributes := #[] }
def k9m5 : Method := { name := "<init>", desc := "([BB)V", sig := { parameters := [(.array .byte), .byte], returnType := none }, accessFlags := 0, code := some k9c5 }
/-- java/lang/String -/
def k9 : Class := { plain "java/lang/String" (some 0) with
  accessFlags := 49
  interfaces := #[4, 5, 6, 7, 8]
  cf := some (fileOf pool9 10 #[.nestMembers #[1103]] #[{ accessFlags := 1, nameIndex := 5, descriptorIndex := 6, attributes := #[] }, { accessFlags := 1, nameIndex := 5, descriptorIndex := 1010, attributes := #[] }, { accessFlags := 1, nameIndex := 543, descriptorIndex := 573, attributes := #[] }, { accessFlags := 9, nameIndex := 782, descriptorIndex := 783, attributes := #[] }, { accessFlags := 2, nameIndex := 5, descriptorIndex := 29, attributes := #[] }, { accessFlags := 0, nameIndex := 5, descriptorIndex := 211, attributes := #[] }] 49 2 #[1106, 1108, 575, 1110, 1112] #[{ accessFlags := 18, nameIndex := 13, descriptorIndex := 14, attributes := #[] }, { accessFlags := 18, nameIndex := 17, descriptorIndex := 18, attributes := #[] }, { accessFlags := 2, nameIndex := 21, descriptorIndex := 22, attributes := #[] }, { accessFlags := 2, nameIndex := 25, descriptorIndex := 26, attributes := #[] }, { accessFlags := 26, nameIndex := 1116, descriptorIndex := 1117, attributes := #[] }, { accessFlags := 24, nameIndex := 40, descriptorIndex := 26, attributes := #[] }, { accessFlags := 26, nameIndex := 1101, descriptorIndex := 1102, attributes := #[] }, { accessFlags := 26, nameIndex := 1121, descriptorIndex := 1122, attributes := #[] }, { accessFlags := 25, nameIndex := 599, descriptorIndex := 600, attributes := #[] }, { accessFlags := 24, nameIndex := 1125, descriptorIndex := 18, attributes := #[] }, { accessFlags := 24, nameIndex := 1127, descriptorIndex := 18, attributes := #[] }])
  fields := #[{ name := "value", type := (.array .byte), accessFlags := 18, slot := 0, constantValue := 0 }, { name := "coder", type := .byte, accessFlags := 18, slot := 1, constantValue := 0 }, { name := "hash", type := .int, accessFlags := 2, slot := 2, constantValue := 0 }, { name := "hashIsZero", type := .boolean, accessFlags := 2, slot := 3, constantValue := 0 }, { name := "serialVersionUID", type := .long, accessFlags := 26, slot := 0, constantValue := 0 }, { name := "COMPACT_STRINGS", type := .boolean, accessFlags := 24, slot := 1, constantValue := 0 }, { name := "serialPersistentFields", type := (.array (.object "java/io/ObjectStreamField")), accessFlags := 26, slot := 2, constantValue := 0 }, { name := "REPL", type := .char, accessFlags := 26, slot := 3, constantValue := 0 }, { name := "CASE_INSENSITIVE_ORDER", type := (.object "java/util/Comparator"), accessFlags := 25, slot := 4, constantValue := 0 }, { name := "LATIN1", type := .byte, accessFlags := 24, slot := 5, constantValue := 0 }, { name := "UTF16", type := .byte, accessFlags := 24, slot := 6, constantValue := 0 }]
  methods := #[k9m0, k9m1, k9m2, k9m3, k9m4, k9m5]
  instanceTypes := #[(.array .byte), .byte, .int, .boolean]
  staticTypes := #[.long, .boolean, (.array (.object "java/io/ObjectStreamField")), .char, (.object "java/util/Comparator"), .byte, .byte]
  resolved := Array.replicate 1451 none
  statics := some 0 }

def pool10 : Array CpInfo := pool [(4, .class_ 6), (1, u "java/lang/Object"), (0, u "<init>"), (0, u "()V"), (5, .class_ 16), (1, u "java/lang/StringLatin1"), (73, u "canEncode"), (14, u "(C)Z"), (15, u "$assertionsDisabled"), (0, u "Z"), (98, .class_ 223), (1, u "java/lang/StringLatin1$LinesSpliterator"), (156, u "toBytes"), (1, u "(C)[B"), (7, .class_ 391), (0, u "java/lang/StringLatin1$CharsSpliterator")] 3

def k10m0 : Method := { name := "<init>", desc := "()V", sig := { parameters := [], returnType := none }, accessFlags := 0, code := none }
def k10c1 : Code := { maxStack := 2, maxLocals := 1, code := jdk_43_method_3_code, exceptionTable := #[], attributes := #[] }
def k10m1 : Method := { name := "canEncode", desc := "(C)Z", sig := { parameters := [.char], returnType := some .boolean }, accessFlags := 9, code := some k10c1 }
def k10c2 : Code := { maxStack := 4, maxLocals := 1, code := jdk_43_method_46_code, exceptionTable := #[], attributes := #[] }
def k10m2 : Method := { name := "toBytes", desc := "(C)[B", sig := { parameters := [.char], returnType := some (.array .byte) }, accessFlags := 9, code := some k10c2 }
/-- java/lang/StringLatin1 -/
def k10 : Class := { plain "java/lang/StringLatin1" (some 0) with
  accessFlags := 48
  interfaces := #[]
  cf := some (fileOf pool10 14 #[.nestMembers #[390, 221]] #[{ accessFlags := 0, nameIndex := 7, descriptorIndex := 8, attributes := #[] }, { accessFlags := 9, nameIndex := 90, descriptorIndex := 105, attributes := #[] }, { accessFlags := 9, nameIndex := 380, descriptorIndex := 382, attributes := #[] }] 48 4 #[] #[{ accessFlags := 4120, nameIndex := 121, descriptorIndex := 122, attributes := #[] }])
  fields := #[{ name := "$assertionsDisabled", type := .boolean, accessFlags := 4120, slot := 0, constantValue := 0 }]
  methods := #[k10m0, k10m1, k10m2]
  instanceTypes := #[]
  staticTypes := #[.boolean]
  resolved := Array.replicate 395 none
  statics := none }

def pool11 : Array CpInfo := pool [(6, .class_ 8), (1, u "java/lang/Object"), (0, u "<init>"), (0, u "()V"), (1, .class_ 14), (1, u "java/lang/StringUTF16"), (31, u "$assertionsDisabled"), (0, u "Z"), (13, u "HI_BYTE_SHIFT"), (0, u "I"), (2, u "LO_BYTE_SHIFT"), (49, .methodref 12 116), (0, .nameAndType 117 118), (0, u "compress"), (0, u "([CI[BII)I"), (3, u "([CII)[B"), (138, u "coderFromArrayLen"), (0, u "([BI)B"), (106, .class_ 371), (1, u "java/lang/StringUTF16$LinesSpliterator"), (58, u "MAX_LENGTH"), (196, .class_ 628), (0, u "java/lang/StringUTF16$CodePointsSpliterator"), (0, .class_ 630), (0, u "java/lang/StringUTF16$CharsSpliterator")] 4

def k11m0 : Method := { name := "<init>", desc := "()V", sig := { parameters := [], returnType := none }, accessFlags := 0, code := none }
def k11c1 : Code := { maxStack := 2, maxLocals := 2, code := jdk_52_method_15_code, exceptionTable := #[], attributes := #[] }
def k11m1 : Method := { name := "coderFromArrayLen", desc := "([BI)B", sig := { parameters := [(.array .byte), .int], returnType := some .byte }, accessFlags := 8, code := some k11c1 }
def k11c2 : Code := { maxStack := 5, maxLocals := 6, code := jdk_52_method_16_code, exceptionTable := #[], attributes := #[] }
def k11m2 : Method := { name := "compress", desc := "([CII)[B", sig := { parameters := [(.array .char), .int, .int], returnType := some (.array .byte) }, accessFlags := 9, code := some k11c2 }
def k11c3 : Code := { maxStack := 3, maxLocals := 7, code := jdk_52_method_21_code, exceptionTable := #[], attributes := #[] }
def k11m3 : Method := { name := "compress", desc := "([CI[BII)I", sig := { parameters := [(.array .char), .int, (.array .byte), .int, .int], returnType := some .int }, accessFlags := 9, code := some k11c3 }
/-- java/lang/StringUTF16 -/
def k11 : Class := { plain "java/lang/StringUTF16" (some 0) with
  accessFlags := 48
  interfaces := #[]
  cf := some (fileOf pool11 12 #[.nestMembers #[627, 629, 369]] #[{ accessFlags := 0, nameIndex := 9, descriptorIndex := 10, attributes := #[] }, { accessFlags := 8, nameIndex := 261, descriptorIndex := 262, attributes := #[] }, { accessFlags := 9, nameIndex := 117, descriptorIndex := 122, attributes := #[] }, { accessFlags := 9, nameIndex := 117, descriptorIndex := 118, attributes := #[] }] 48 6 #[] #[{ accessFlags := 26, nameIndex := 61, descriptorIndex := 62, attributes := #[] }, { accessFlags := 26, nameIndex := 65, descriptorIndex := 62, attributes := #[] }, { accessFlags := 24, nameIndex := 430, descriptorIndex := 62, attributes := #[] }, { accessFlags := 4120, nameIndex := 46, descriptorIndex := 47, attributes := #[] }])
  fields := #[{ name := "HI_BYTE_SHIFT", type := .int, accessFlags := 26, slot := 0, constantValue := 0 }, { name := "LO_BYTE_SHIFT", type := .int, accessFlags := 26, slot := 1, constantValue := 0 }, { name := "MAX_LENGTH", type := .int, accessFlags := 24, slot := 2, constantValue := 0 }, { name := "$assertionsDisabled", type := .boolean, accessFlags := 4120, slot := 3, constantValue := 0 }]
  methods := #[k11m0, k11m1, k11m2, k11m3]
  instanceTypes := #[]
  staticTypes := #[.int, .int, .int, .boolean]
  resolved := Array.replicate 635 none
  statics := none }

def pool12 : Array CpInfo := pool [(2, .class_ 4), (1, u "java/lang/Object"), (0, u "<init>"), (0, u "()V"), (17, .class_ 26), (1, u "jdk/internal/util/Preconditions"), (28, .class_ 56), (0, u "jdk/internal/util/Preconditions$4"), (57, .class_ 115), (0, u "jdk/internal/util/Preconditions$1"), (7, u "SIOOBE_FORMATTER"), (0, u "Ljava/util/function/BiFunction;"), (0, .class_ 126), (0, u "jdk/internal/util/Preconditions$2"), (3, u "AIOOBE_FORMATTER"), (0, .class_ 132), (0, u "jdk/internal/util/Preconditions$3"), (3, u "IOOBE_FORMATTER")] 57

def k12m0 : Method := { name := "<init>", desc := "()V", sig := { parameters := [], returnType := none }, accessFlags := 1, code := none }
/-- jdk/internal/util/Preconditions -/
def k12 : Class := { plain "jdk/internal/util/Preconditions" (some 0) with
  accessFlags := 33
  interfaces := #[]
  cf := some (fileOf pool12 24 #[.nestMembers #[55, 131, 125, 114]] #[{ accessFlags := 1, nameIndex := 5, descriptorIndex := 6, attributes := #[] }] 33 2 #[] #[{ accessFlags := 25, nameIndex := 123, descriptorIndex := 124, attributes := #[] }, { accessFlags := 25, nameIndex := 130, descriptorIndex := 124, attributes := #[] }, { accessFlags := 25, nameIndex := 136, descriptorIndex := 124, attributes := #[] }])
  fields := #[{ name := "SIOOBE_FORMATTER", type := (.object "java/util/function/BiFunction"), accessFlags := 25, slot := 0, constantValue := 0 }, { name := "AIOOBE_FORMATTER", type := (.object "java/util/function/BiFunction"), accessFlags := 25, slot := 1, constantValue := 0 }, { name := "IOOBE_FORMATTER", type := (.object "java/util/function/BiFunction"), accessFlags := 25, slot := 2, constantValue := 0 }]
  methods := #[k12m0]
  instanceTypes := #[]
  staticTypes := #[(.object "java/util/function/BiFunction"), (.object "java/util/function/BiFunction"), (.object "java/util/function/BiFunction")]
  resolved := Array.replicate 194 none
  statics := some 1 }

def pool13 : Array CpInfo := pool [(9, u "<init>"), (6, .class_ 18), (1, u "java/lang/Object"), (0, u "()V"), (1, .class_ 23), (1, u "jdk/internal/util/ArraysSupport"), (0, u "LOG2_ARRAY_LONG_INDEX_SCALE"), (0, u "I"), (2, u "U"), (0, u "Ljdk/internal/misc/Unsafe;"), (8, u "BIG_ENDIAN"), (0, u "Z"), (8, u "LOG2_BYTE_BIT_SIZE"), (4, u "LOG2_ARRAY_INT_INDEX_SCALE"), (54, u "JLA"), (0, u "Ljdk/internal/access/JavaLangAccess;"), (11, u "LOG2_ARRAY_BOOLEAN_INDEX_SCALE"), (9, u "LOG2_ARRAY_BYTE_INDEX_SCALE"), (5, u "LOG2_ARRAY_CHAR_INDEX_SCALE"), (5, u "LOG2_ARRAY_SHORT_INDEX_SCALE"), (18, u "LOG2_ARRAY_FLOAT_INDEX_SCALE"), (24, u "LOG2_ARRAY_DOUBLE_INDEX_SCALE"), (89, u "T_BOOLEAN"), (2, u "T_CHAR"), (1, u "T_FLOAT"), (1, u "T_DOUBLE"), (1, u "T_BYTE"), (1, u "T_SHORT"), (1, u "T_INT"), (1, u "T_LONG"), (1, u "SOFT_MAX_ARRAY_LENGTH")] 83

def k13m0 : Method := { name := "<init>", desc := "()V", sig := { parameters := [], returnType := none }, accessFlags := 2, code := none }
/-- jdk/internal/util/ArraysSupport -/
def k13 : Class := { plain "jdk/internal/util/ArraysSupport" (some 0) with
  accessFlags := 33
  interfaces := #[]
  cf := some (fileOf pool13 21 #[] #[{ accessFlags := 2, nameIndex := 9, descriptorIndex := 19, attributes := #[] }] 33 16 #[] #[{ accessFlags := 24, nameIndex := 28, descriptorIndex := 29, attributes := #[] }, { accessFlags := 26, nameIndex := 38, descriptorIndex := 39, attributes := #[] }, { accessFlags := 25, nameIndex := 121, descriptorIndex := 25, attributes := #[] }, { accessFlags := 25, nameIndex := 131, descriptorIndex := 25, attributes := #[] }, { accessFlags := 25, nameIndex := 137, descriptorIndex := 25, attributes := #[] }, { accessFlags := 25, nameIndex := 143, descriptorIndex := 25, attributes := #[] }, { accessFlags := 25, nameIndex := 53, descriptorIndex := 25, attributes := #[] }, { accessFlags := 25, nameIndex := 24, descriptorIndex := 25, attributes := #[] }, { accessFlags := 25, nameIndex := 162, descriptorIndex := 25, attributes := #[] }, { accessFlags := 25, nameIndex := 187, descriptorIndex := 25, attributes := #[] }, { accessFlags := 26, nameIndex := 48, descriptorIndex := 25, attributes := #[] }, { accessFlags := 25, nameIndex := 277, descriptorIndex := 25, attributes := #[] }, { accessFlags := 25, nameIndex := 280, descriptorIndex := 25, attributes := #[] }, { accessFlags := 25, nameIndex := 282, descriptorIndex := 25, attributes := #[] }, { accessFlags := 25, nameIndex := 284, descriptorIndex := 25, attributes := #[] }, { accessFlags := 25, nameIndex := 286, descriptorIndex := 25, attributes := #[] }, { accessFlags := 25, nameIndex := 288, descriptorIndex := 25, attributes := #[] }, { accessFlags := 25, nameIndex := 290, descriptorIndex := 25, attributes := #[] }, { accessFlags := 25, nameIndex := 292, descriptorIndex := 25, attributes := #[] }, { accessFlags := 26, nameIndex := 108, descriptorIndex := 109, attributes := #[] }, { accessFlags := 25, nameIndex := 294, descriptorIndex := 25, attributes := #[] }])
  fields := #[{ name := "U", type := (.object "jdk/internal/misc/Unsafe"), accessFlags := 24, slot := 0, constantValue := 0 }, { name := "BIG_ENDIAN", type := .boolean, accessFlags := 26, slot := 1, constantValue := 0 }, { name := "LOG2_ARRAY_BOOLEAN_INDEX_SCALE", type := .int, accessFlags := 25, slot := 2, constantValue := 0 }, { name := "LOG2_ARRAY_BYTE_INDEX_SCALE", type := .int, accessFlags := 25, slot := 3, constantValue := 0 }, { name := "LOG2_ARRAY_CHAR_INDEX_SCALE", type := .int, accessFlags := 25, slot := 4, constantValue := 0 }, { name := "LOG2_ARRAY_SHORT_INDEX_SCALE", type := .int, accessFlags := 25, slot := 5, constantValue := 0 }, { name := "LOG2_ARRAY_INT_INDEX_SCALE", type := .int, accessFlags := 25, slot := 6, constantValue := 0 }, { name := "LOG2_ARRAY_LONG_INDEX_SCALE", type := .int, accessFlags := 25, slot := 7, constantValue := 0 }, { name := "LOG2_ARRAY_FLOAT_INDEX_SCALE", type := .int, accessFlags := 25, slot := 8, constantValue := 0 }, { name := "LOG2_ARRAY_DOUBLE_INDEX_SCALE", type := .int, accessFlags := 25, slot := 9, constantValue := 0 }, { name := "LOG2_BYTE_BIT_SIZE", type := .int, accessFlags := 26, slot := 10, constantValue := 0 }, { name := "T_BOOLEAN", type := .int, accessFlags := 25, slot := 11, constantValue := 0 }, { name := "T_CHAR", type := .int, accessFlags := 25, slot := 12, constantValue := 0 }, { name := "T_FLOAT", type := .int, accessFlags := 25, slot := 13, constantValue := 0 }, { name := "T_DOUBLE", type := .int, accessFlags := 25, slot := 14, constantValue := 0 }, { name := "T_BYTE", type := .int, accessFlags := 25, slot := 15, constantValue := 0 }, { name := "T_SHORT", type := .int, accessFlags := 25, slot := 16, constantValue := 0 }, { name := "T_INT", type := .int, accessFlags := 25, slot := 17, constantValue := 0 }, { name := "T_LONG", type := .int, accessFlags := 25, slot := 18, constantValue := 0 }, { name := "JLA", type := (.object "jdk/internal/access/JavaLangAccess"), accessFlags := 26, slot := 19, constantValue := 0 }, { name := "SOFT_MAX_ARRAY_LENGTH", type := .int, accessFlags := 25, slot := 20, constantValue := 0 }]
  methods := #[k13m0]
  instanceTypes := #[]
  staticTypes := #[(.object "jdk/internal/misc/Unsafe"), .boolean, .int, .int, .int, .int, .int, .int, .int, .int, .int, .int, .int, .int, .int, .int, .int, .int, .int, (.object "jdk/internal/access/JavaLangAccess"), .int]
  resolved := Array.replicate 378 none
  statics := none }

def pool14 : Array CpInfo := pool [(1, u "java/lang/Cloneable"), (0, .class_ 1), (0, u "java/lang/Object"), (0, .class_ 3)] 3

/-- java/lang/Cloneable -/
def k14 : Class := { plain "java/lang/Cloneable" (some 0) with
  accessFlags := 1537
  interfaces := #[]
  cf := some (fileOf pool14 2 #[] #[] 1537 4 #[] #[])
  fields := #[]
  methods := #[]
  instanceTypes := #[]
  staticTypes := #[]
  resolved := Array.replicate 8 none
  statics := none }

/-- the primitive byte -/
def k15 : Class := { plain "byte" none with kind := .primitive 'B', accessFlags := 0x411 }
/-- [B -/
def k16 : Class := { plain "[B" (some 0) with kind := .array 15 .byte, interfaces := #[14, 4], accessFlags := 1041 }

/-- the primitive char -/
def k17 : Class := { plain "char" none with kind := .primitive 'C', accessFlags := 0x411 }
/-- [C -/
def k18 : Class := { plain "[C" (some 0) with kind := .array 17 .char, interfaces := #[14, 4], accessFlags := 1041 }

/-- the primitive int -/
def k19 : Class := { plain "int" none with kind := .primitive 'I', accessFlags := 0x411 }
/-- [I -/
def k20 : Class := { plain "[I" (some 0) with kind := .array 19 .int, interfaces := #[14, 4], accessFlags := 1041 }

def heap : Heap := #[{ cls := 9, slots := #[.long 0, .int 1, .null, .int 0, .null, .int 0, .int 0], vm := .statics 9 },
  { cls := 12, slots := #[.null, .null, .null], vm := .statics 12 }]
def classes : Array Class := #[k0, k1, k2, k3, k4, k5, k6, k7, k8, k9, k10, k11, k12, k13, k14, k15, k16, k17, k18, k19, k20]
def interned : List (Array UInt16 × Addr) := []
def slotsUsed : Nat := 10
def theMethod : MethodId := ⟨1, 1⟩
def args0 : Array Value := #[.long 5, .long 6, .int 7, .int 8]
def aboutOver (below : List Frame) : State where
  vm := { classes := classes, interned := interned.toArray }
  heap := heap
  slotsUsed := slotsUsed
  threads := #[{ frames := .invoking theMethod args0 :: below }]
def below0 : List Frame := [.native { method := ⟨0, 0⟩, args := #[] }]
def about1 : State := aboutOver below0
def p0 : Program := .bare "" "" ""
def e0 : Env := launch0.env 0 0 0
theorem w_frames : about1.frames = Frame.invoking theMethod args0 :: below0 := rfl
set_option maxRecDepth 65536 in
theorem w_args : argsFit about1.vm theMethod args0 = true := by decide +kernel
set_option maxRecDepth 65536 in
theorem w_heap : heapFits about1 = true := by decide +kernel
set_option maxRecDepth 65536 in
theorem w_runnable : about1.curStatus? = some .runnable := by decide +kernel
set_option maxRecDepth 65536 in
theorem w_alone : about1.alone = true := by decide +kernel
set_option maxRecDepth 65536 in
theorem w_named : about1.methodNamed? x = some theMethod := by decide +kernel
set_option maxRecDepth 65536 in
theorem w_hears : about1.hears theMethod below0 = true := by decide +kernel
set_option maxRecDepth 65536 in
theorem w_ripe : about1.ripe theMethod args0 below0 = true := by decide +kernel
theorem w_running : about1.status = .running := rfl
set_option maxRecDepth 65536 in
theorem w_room : about1.hasRoom e0.platform room_1 = true :=
  launch0.hasRoom_least _ room_1 (by decide +kernel) (by decide +kernel) (by decide +kernel) (by decide +kernel) (by decide +kernel) (by decide +kernel)
theorem allAtoms_all (ts : List Jvm.Cond) (a : Array Jvm.Value) (st : Jvm.State) : (allAtoms ts).before a st = ts.all (fun c => c.before a st) := by
  induction ts with
  | nil => rfl
  | cons c t ih =>
    show (Jvm.Cond.and c (allAtoms t)).before a st = _
    rw [Jvm.Cond.before_and, ih, List.all_cons]
def words1 : List Jvm.Cond := Jvm.Cond.code x code maxLocals ret :: tables_1
/-- a 'code' word, met by the world's own term for the bytes: nothing is compared byte by byte -/
theorem code_word {y : MethodName} {bytes : ByteArray} {mx : Nat} {rt : Option FieldType} {a : Array Value} {s : State} {m : MethodId} {meth : Method} {c : Code} (h1 : s.methodNamed? y = some m) (h2 : s.vm.method? m = some meth) (h3 : meth.code = some c) (h4 : c.code = bytes)
    (h5 : (c.maxLocals == mx && c.exceptionTable.isEmpty && decide (c.maxStack ≤ mostOperands) && decide (meth.sig.returnType = rt) && !meth.locks && decide (parseMethodDescriptor y.desc = some meth.sig)) = true) : (Jvm.Cond.code y bytes mx rt).before a s = true := by
  simp only [Bool.and_eq_true, beq_iff_eq, Bool.not_eq_true', decide_eq_true_eq] at h5
  obtain ⟨⟨⟨⟨⟨g1, g2⟩, g3⟩, g4⟩, g5⟩, g6⟩ := h5
  simp [Cond.before, Cond.holds, Cond.value, h1, h2, h3, h4, g1, g2, g3, g4, g5, g6]
def isCode : Jvm.Cond → Bool
  | .code _ _ _ _ => true
  | _ => false
theorem all_split {L : List Jvm.Cond} {P : Jvm.Cond → Bool} (h1 : L.all (fun c => isCode c || P c) = true) (h2 : ∀ c ∈ L.filter isCode, P c = true) : L.all P = true := by
  refine List.all_eq_true.mpr fun c hc => ?_
  have h := List.all_eq_true.mp h1 c hc
  rcases Bool.eq_false_or_eq_true (isCode c) with hi | hi
  · exact h2 c (List.mem_filter.mpr ⟨hc, hi⟩)
  · simpa [hi] using h
set_option maxRecDepth 65536 in
theorem w_c0 : (Jvm.Cond.code x code maxLocals ret).before args0 about1 = true := code_word (m := ⟨1, 1⟩) (meth := k1m1) (c := k1c1) (by decide +kernel) rfl rfl rfl (by decide +kernel)
set_option maxRecDepth 65536 in
theorem w_c1 : (Jvm.Cond.code ({ cls := "com/example/minter/minter/core/IssuerKeyStatus", name := "<init>", desc := "(ZLjava/lang/String;JJ)V" } : Jvm.MethodName) prog_14_method_1_code (7 : Nat) (Option.none : Option Jvm.ClassFile.FieldType)).before args0 about1 = true := code_word (m := ⟨3, 0⟩) (meth := k3m0) (c := k3c0) (by decide +kernel) rfl rfl rfl (by decide +kernel)
set_option maxRecDepth 65536 in
theorem w_c2 : (Jvm.Cond.code ({ cls := "java/lang/Record", name := "<init>", desc := "()V" } : Jvm.MethodName) jdk_30_method_1_code (1 : Nat) (Option.none : Option Jvm.ClassFile.FieldType)).before args0 about1 = true := code_word (m := ⟨2, 0⟩) (meth := k2m0) (c := k2c0) (by decide +kernel) rfl rfl rfl (by decide +kernel)
set_option maxRecDepth 65536 in
theorem w_c3 : (Jvm.Cond.code ({ cls := "java/lang/Object", name := "<init>", desc := "()V" } : Jvm.MethodName) object_method_1_code (1 : Nat) (Option.none : Option Jvm.ClassFile.FieldType)).before args0 about1 = true := code_word (m := ⟨0, 0⟩) (meth := k0m0) (c := k0c0) (by decide +kernel) rfl rfl rfl (by decide +kernel)
set_option maxRecDepth 65536 in
theorem w_c4 : (Jvm.Cond.code ({ cls := "com/example/minter/minter/core/IssuerKeyStatus", name := "after", desc := "(Ljava/lang/String;Z)Lcom/example/minter/minter/core/IssuerKeyStatus;" } : Jvm.MethodName) prog_14_method_3_code (3 : Nat) (Option.some (Jvm.ClassFile.FieldType.object "com/example/minter/minter/core/IssuerKeyStatus"))).before args0 about1 = true := code_word (m := ⟨3, 1⟩) (meth := k3m1) (c := k3c1) (by decide +kernel) rfl rfl rfl (by decide +kernel)
set_option maxRecDepth 65536 in
theorem w_c5 : (Jvm.Cond.code ({ cls := "com/example/minter/minter/core/IssuerKeyStatus", name := "held", desc := "()Z" } : Jvm.MethodName) prog_14_method_7_code (1 : Nat) (Option.some Jvm.ClassFile.FieldType.boolean)).before args0 about1 = true := code_word (m := ⟨3, 2⟩) (meth := k3m2) (c := k3c2) (by decide +kernel) rfl rfl rfl (by decide +kernel)
set_option maxRecDepth 65536 in
theorem w_c6 : (Jvm.Cond.code ({ cls := "com/example/minter/minter/core/IssuerKeyStatus", name := "failure", desc := "()Ljava/lang/String;" } : Jvm.MethodName) prog_14_method_8_code (1 : Nat) (Option.some (Jvm.ClassFile.FieldType.object "java/lang/String"))).before args0 about1 = true := code_word (m := ⟨3, 3⟩) (meth := k3m3) (c := k3c3) (by decide +kernel) rfl rfl rfl (by decide +kernel)
set_option maxRecDepth 65536 in
theorem w_c7 : (Jvm.Cond.code ({ cls := "com/example/minter/minter/core/IssuerKeyStatus", name := "succeeded", desc := "()J" } : Jvm.MethodName) prog_14_method_9_code (1 : Nat) (Option.some Jvm.ClassFile.FieldType.long)).before args0 about1 = true := code_word (m := ⟨3, 4⟩) (meth := k3m4) (c := k3c4) (by decide +kernel) rfl rfl rfl (by decide +kernel)
set_option maxRecDepth 65536 in
theorem w_c8 : (Jvm.Cond.code ({ cls := "com/example/minter/minter/core/IssuerKeyStatus", name := "failed", desc := "()J" } : Jvm.MethodName) prog_14_method_10_code (1 : Nat) (Option.some Jvm.ClassFile.FieldType.long)).before args0 about1 = true := code_word (m := ⟨3, 5⟩) (meth := k3m5) (c := k3c5) (by decide +kernel) rfl rfl rfl (by decide +kernel)
set_option maxRecDepth 65536 in
theorem w_c9 : (Jvm.Cond.code ({ cls := "java/lang/String", name := "valueOf", desc := "(C)Ljava/lang/String;" } : Jvm.MethodName) jdk_42_method_139_code (1 : Nat) (Option.some (Jvm.ClassFile.FieldType.object "java/lang/String"))).before args0 about1 = true := code_word (m := ⟨9, 3⟩) (meth := k9m3) (c := k9c3) (by decide +kernel) rfl rfl rfl (by decide +kernel)
set_option maxRecDepth 65536 in
theorem w_c10 : (Jvm.Cond.code ({ cls := "java/lang/StringLatin1", name := "canEncode", desc := "(C)Z" } : Jvm.MethodName) jdk_43_method_3_code (1 : Nat) (Option.some Jvm.ClassFile.FieldType.boolean)).before args0 about1 = true := code_word (m := ⟨10, 1⟩) (meth := k10m1) (c := k10c1) (by decide +kernel) rfl rfl rfl (by decide +kernel)
set_option maxRecDepth 65536 in
theorem w_c11 : (Jvm.Cond.code ({ cls := "java/lang/StringLatin1", name := "toBytes", desc := "(C)[B" } : Jvm.MethodName) jdk_43_method_46_code (1 : Nat) (Option.some (Jvm.ClassFile.FieldType.array Jvm.ClassFile.FieldType.byte))).before args0 about1 = true := code_word (m := ⟨10, 2⟩) (meth := k10m2) (c := k10c2) (by decide +kernel) rfl rfl rfl (by decide +kernel)
set_option maxRecDepth 65536 in
theorem w_c12 : (Jvm.Cond.code ({ cls := "java/lang/String", name := "<init>", desc := "([BB)V" } : Jvm.MethodName) jdk_42_method_151_code (3 : Nat) (Option.none : Option Jvm.ClassFile.FieldType)).before args0 about1 = true := code_word (m := ⟨9, 5⟩) (meth := k9m5) (c := k9c5) (by decide +kernel) rfl rfl rfl (by decide +kernel)
set_option maxRecDepth 65536 in
theorem w_c13 : (Jvm.Cond.code ({ cls := "java/lang/String", name := "<init>", desc := "([C)V" } : Jvm.MethodName) jdk_42_method_3_code (2 : Nat) (Option.none : Option Jvm.ClassFile.FieldType)).before args0 about1 = true := code_word (m := ⟨9, 1⟩) (meth := k9m1) (c := k9c1) (by decide +kernel) rfl rfl rfl (by decide +kernel)
set_option maxRecDepth 65536 in
theorem w_c14 : (Jvm.Cond.code ({ cls := "java/lang/String", name := "<init>", desc := "([CIILjava/lang/Void;)V" } : Jvm.MethodName) jdk_42_method_149_code (6 : Nat) (Option.none : Option Jvm.ClassFile.FieldType)).before args0 about1 = true := code_word (m := ⟨9, 4⟩) (meth := k9m4) (c := k9c4) (by decide +kernel) rfl rfl rfl (by decide +kernel)
set_option maxRecDepth 65536 in
theorem w_c15 : (Jvm.Cond.code ({ cls := "java/lang/String", name := "equals", desc := "(Ljava/lang/Object;)Z" } : Jvm.MethodName) jdk_42_method_66_code (3 : Nat) (Option.some Jvm.ClassFile.FieldType.boolean)).before args0 about1 = true := code_word (m := ⟨9, 2⟩) (meth := k9m2) (c := k9c2) (by decide +kernel) rfl rfl rfl (by decide +kernel)
set_option maxRecDepth 65536 in
theorem w_c16 : (Jvm.Cond.code ({ cls := "java/lang/StringUTF16", name := "compress", desc := "([CII)[B" } : Jvm.MethodName) jdk_52_method_16_code (6 : Nat) (Option.some (Jvm.ClassFile.FieldType.array Jvm.ClassFile.FieldType.byte))).before args0 about1 = true := code_word (m := ⟨11, 2⟩) (meth := k11m2) (c := k11c2) (by decide +kernel) rfl rfl rfl (by decide +kernel)
set_option maxRecDepth 65536 in
theorem w_c17 : (Jvm.Cond.code ({ cls := "java/lang/StringUTF16", name := "compress", desc := "([CI[BII)I" } : Jvm.MethodName) jdk_52_method_21_code (7 : Nat) (Option.some Jvm.ClassFile.FieldType.int)).before args0 about1 = true := code_word (m := ⟨11, 3⟩) (meth := k11m3) (c := k11c3) (by decide +kernel) rfl rfl rfl (by decide +kernel)
set_option maxRecDepth 65536 in
theorem w_c18 : (Jvm.Cond.code ({ cls := "java/lang/StringUTF16", name := "coderFromArrayLen", desc := "([BI)B" } : Jvm.MethodName) jdk_52_method_15_code (2 : Nat) (Option.some Jvm.ClassFile.FieldType.byte)).before args0 about1 = true := code_word (m := ⟨11, 1⟩) (meth := k11m1) (c := k11c1) (by decide +kernel) rfl rfl rfl (by decide +kernel)
def codes1 : List Jvm.Cond := [Jvm.Cond.code x code maxLocals ret, Jvm.Cond.code ({ cls := "com/example/minter/minter/core/IssuerKeyStatus", name := "<init>", desc := "(ZLjava/lang/String;JJ)V" } : Jvm.MethodName) prog_14_method_1_code (7 : Nat) (Option.none : Option Jvm.ClassFile.FieldType), Jvm.Cond.code ({ cls := "java/lang/Record", name := "<init>", desc := "()V" } : Jvm.MethodName) jdk_30_method_1_code (1 : Nat) (Option.none : Option Jvm.ClassFile.FieldType), Jvm.Cond.code ({ cls := "java/lang/Object", name := "<init>", desc := "()V" } : Jvm.MethodName) object_method_1_code (1 : Nat) (Option.none : Option Jvm.ClassFile.FieldType), Jvm.Cond.code ({ cls := "com/example/minter/minter/core/IssuerKeyStatus", name := "after", desc := "(Ljava/lang/String;Z)Lcom/example/minter/minter/core/IssuerKeyStatus;" } : Jvm.MethodName) prog_14_method_3_code (3 : Nat) (Option.some (Jvm.ClassFile.FieldType.object "com/example/minter/minter/core/IssuerKeyStatus")), Jvm.Cond.code ({ cls := "com/example/minter/minter/core/IssuerKeyStatus", name := "held", desc := "()Z" } : Jvm.MethodName) prog_14_method_7_code (1 : Nat) (Option.some Jvm.ClassFile.FieldType.boolean), Jvm.Cond.code ({ cls := "com/example/minter/minter/core/IssuerKeyStatus", name := "failure", desc := "()Ljava/lang/String;" } : Jvm.MethodName) prog_14_method_8_code (1 : Nat) (Option.some (Jvm.ClassFile.FieldType.object "java/lang/String")), Jvm.Cond.code ({ cls := "com/example/minter/minter/core/IssuerKeyStatus", name := "succeeded", desc := "()J" } : Jvm.MethodName) prog_14_method_9_code (1 : Nat) (Option.some Jvm.ClassFile.FieldType.long), Jvm.Cond.code ({ cls := "com/example/minter/minter/core/IssuerKeyStatus", name := "failed", desc := "()J" } : Jvm.MethodName) prog_14_method_10_code (1 : Nat) (Option.some Jvm.ClassFile.FieldType.long), Jvm.Cond.code ({ cls := "java/lang/String", name := "valueOf", desc := "(C)Ljava/lang/String;" } : Jvm.MethodName) jdk_42_method_139_code (1 : Nat) (Option.some (Jvm.ClassFile.FieldType.object "java/lang/String")), Jvm.Cond.code ({ cls := "java/lang/StringLatin1", name := "canEncode", desc := "(C)Z" } : Jvm.MethodName) jdk_43_method_3_code (1 : Nat) (Option.some Jvm.ClassFile.FieldType.boolean), Jvm.Cond.code ({ cls := "java/lang/StringLatin1", name := "toBytes", desc := "(C)[B" } : Jvm.MethodName) jdk_43_method_46_code (1 : Nat) (Option.some (Jvm.ClassFile.FieldType.array Jvm.ClassFile.FieldType.byte)), Jvm.Cond.code ({ cls := "java/lang/String", name := "<init>", desc := "([BB)V" } : Jvm.MethodName) jdk_42_method_151_code (3 : Nat) (Option.none : Option Jvm.ClassFile.FieldType), Jvm.Cond.code ({ cls := "java/lang/String", name := "<init>", desc := "([C)V" } : Jvm.MethodName) jdk_42_method_3_code (2 : Nat) (Option.none : Option Jvm.ClassFile.FieldType), Jvm.Cond.code ({ cls := "java/lang/String", name := "<init>", desc := "([CIILjava/lang/Void;)V" } : Jvm.MethodName) jdk_42_method_149_code (6 : Nat) (Option.none : Option Jvm.ClassFile.FieldType), Jvm.Cond.code ({ cls := "java/lang/String", name := "equals", desc := "(Ljava/lang/Object;)Z" } : Jvm.MethodName) jdk_42_method_66_code (3 : Nat) (Option.some Jvm.ClassFile.FieldType.boolean), Jvm.Cond.code ({ cls := "java/lang/StringUTF16", name := "compress", desc := "([CII)[B" } : Jvm.MethodName) jdk_52_method_16_code (6 : Nat) (Option.some (Jvm.ClassFile.FieldType.array Jvm.ClassFile.FieldType.byte)), Jvm.Cond.code ({ cls := "java/lang/StringUTF16", name := "compress", desc := "([CI[BII)I" } : Jvm.MethodName) jdk_52_method_21_code (7 : Nat) (Option.some Jvm.ClassFile.FieldType.int), Jvm.Cond.code ({ cls := "java/lang/StringUTF16", name := "coderFromArrayLen", desc := "([BI)B" } : Jvm.MethodName) jdk_52_method_15_code (2 : Nat) (Option.some Jvm.ClassFile.FieldType.byte)]
set_option maxRecDepth 65536 in
theorem codes_eq : words1.filter isCode = codes1 := rfl
theorem w_codes : ∀ c ∈ words1.filter isCode, c.before args0 about1 = true := by
  rw [codes_eq]
  intro c hc
  simp only [codes1, List.mem_cons, List.not_mem_nil, or_false] at hc
  rcases hc with rfl | rfl | rfl | rfl | rfl | rfl | rfl | rfl | rfl | rfl | rfl | rfl | rfl | rfl | rfl | rfl | rfl | rfl | rfl
  · exact w_c0
  · exact w_c1
  · exact w_c2
  · exact w_c3
  · exact w_c4
  · exact w_c5
  · exact w_c6
  · exact w_c7
  · exact w_c8
  · exact w_c9
  · exact w_c10
  · exact w_c11
  · exact w_c12
  · exact w_c13
  · exact w_c14
  · exact w_c15
  · exact w_c16
  · exact w_c17
  · exact w_c18
set_option maxRecDepth 65536 in
theorem w_t1 : (words1.take 24).all (fun c => isCode c || c.before args0 about1) = true := by decide +kernel
set_option maxRecDepth 65536 in
theorem w_t2 : ((words1.drop 24).take 24).all (fun c => isCode c || c.before args0 about1) = true := by decide +kernel
set_option maxRecDepth 65536 in
theorem w_t3 : (((words1.drop 24).drop 24).take 24).all (fun c => isCode c || c.before args0 about1) = true := by decide +kernel
set_option maxRecDepth 65536 in
theorem w_t4 : ((((words1.drop 24).drop 24).drop 24).take 24).all (fun c => isCode c || c.before args0 about1) = true := by decide +kernel
set_option maxRecDepth 65536 in
theorem w_t5 : ((((words1.drop 24).drop 24).drop 24).drop 24).all (fun c => isCode c || c.before args0 about1) = true := by decide +kernel
theorem w_tables : (allAtoms (Jvm.Cond.code x code maxLocals ret :: tables_1)).before args0 about1 = true := by
  rw [allAtoms_all]
  show words1.all (fun c => c.before args0 about1) = true
  refine all_split ?_ w_codes
  rw [← List.take_append_drop 24 words1, List.all_append, w_t1, ← List.take_append_drop 24 (words1.drop 24), List.all_append, w_t2, ← List.take_append_drop 24 ((words1.drop 24).drop 24), List.all_append, w_t3, ← List.take_append_drop 24 (((words1.drop 24).drop 24).drop 24), List.all_append, w_t4, w_t5]
  rfl
set_option maxRecDepth 65536 in
theorem w_rest : rest_1_c.before args0 about1 = true := by decide +kernel
set_option maxRecDepth 65536 in
theorem w_case : (Jvm.Cond.and given_1 narrow_1).before args0 about1 = true := by decide +kernel
set_option maxRecDepth 65536 in
theorem w_consts : constsHeld consts_1 about1 := Jvm.Lit.constsHeldB_iff.mp (by decide +kernel)
theorem w_applies : (headSpec (Jvm.Cond.code x code maxLocals ret :: tables_1) room_1).applies x e0.platform about1 = true :=
  (Spec.applies_iff w_frames).mpr ⟨w_running, w_runnable, w_alone, w_named, w_hears, w_ripe, w_room, w_tables⟩
theorem atStart : AtStart classFile x code maxLocals ret World_1 tables_1 room_1 Calls_1 rest_1 Pre_1 launch0 p0 e0 about1 theMethod args0 below0 :=
  ⟨lists_1, trivial, launch0.admits_env _ _ _, launch0.least_env, fairChoices_fair.cas, fairChoices_fair.clock, w_frames, w_args, w_heap, w_applies, ⟨w_consts, trivial⟩, w_rest, w_case⟩
end start1
theorem witness_1 : WitnessClaimed_1 := ⟨start1.p0, start1.e0, start1.about1, start1.theMethod, start1.args0, start1.below0, start1.atStart⟩
end Jvm.Pilot.@@N@@
