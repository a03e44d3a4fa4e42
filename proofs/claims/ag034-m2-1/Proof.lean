import JvmDerived
import JvmDerived.Pilot.@@N@@Statement
import JvmDerived.Pilot.@@N@@Code
set_option linter.unusedVariables false
set_option linter.unusedSimpArgs false
/- laws to paste: Road.backV (cut by pick.py; bodies as the Statement names them) -/
namespace Jvm.Pilot.@@N@@
namespace StrChars
open Jvm Sem ClassFile Op Lib Jvm.Stand Jvm.Free.XT Jvm.Free.ALB Jvm.Free.JM Jvm.Free
open Jvm.Lib.Cold (StaticIs)
/-- a char array whose places are chars -/
def Ch (a : Addr) (A : Cell) (U : State) : Prop := Arr .char a A U ∧ Typed .char A
theorem Ch.mv {a : Addr} {A : Cell} {U U' : State} (h : Ch a A U) (hal : U.vm.Alike U'.vm) (hh : U'.heap = U.heap) : Ch a A U' := ⟨h.1.mv hal hh, h.2⟩
theorem Ch.keep {a : Addr} {A : Cell} {U U' : State} (h : Ch a A U) (hal : U.vm.Alike U'.vm) (hk : U'.heap[a]? = some A) : Ch a A U' := ⟨h.1.keep hal hk, h.2⟩
/-- what place i of a char[]'s cell holds -/
def cv (A : Cell) (i : Nat) : Int32 := match A.slots[i]? with | some (.int x) => x | _ => 0
theorem Ch.get {a : Addr} {A : Cell} {U : State} (h : Ch a A U) {i : Nat} (hi : i < A.slots.size) : A.slots[i]? = some (.int (cv A i)) := by
  have e := Array.getElem?_eq_getElem hi
  have f := h.2 i _ e
  unfold cv; rw [e]
  generalize A.slots[i] = v at f
  cases v <;> simp [fits] at f ⊢
/-- the byte that i2b leaves of a char -/
def lo8 (x : Int32) : Int32 := x.toInt8.toInt32
theorem fits_lo8 (y : Int32) : fits .byte (.int (lo8 y)) = true := by
  have h1 := y.toInt8.le_toInt
  have h2 := y.toInt8.toInt_lt
  simp only [lo8, fits, Bool.and_eq_true, decide_eq_true_eq, Int32.le_iff_toInt_le, Int8.toInt_toInt32, show (-128 : Int32).toInt = -128 from by decide, show (127 : Int32).toInt = 127 from by decide]
  omega
/-- A' is A but that each place j of lo .. hi - 1 holds f j -/
def Laid (A A' : Cell) (lo hi : Nat) (f : Nat → Value) : Prop := A'.cls = A.cls ∧ A'.vm = A.vm ∧ A'.slots.size = A.slots.size ∧ ∀ i, A'.slots[i]? = if lo ≤ i ∧ i < hi then some (f i) else A.slots[i]?
theorem Laid.zero (A : Cell) (lo : Nat) (f : Nat → Value) : Laid A A lo (lo + 0) f := ⟨rfl, rfl, rfl, fun i => by rw [if_neg (by omega)]⟩
theorem Laid.step {A Ak : Cell} {lo k : Nat} {f : Nat → Value} {v : Value} (h : Laid A Ak lo k f) (hlo : lo ≤ k) (hk : k < Ak.slots.size) (hv : v = f k) : Laid A (Ak.setSlot k v) lo (k + 1) f := by
  refine ⟨h.1, h.2.1, by simpa [Cell.setSlot] using h.2.2.1, fun i => ?_⟩
  by_cases e : k = i
  · subst e; rw [Cell.slots_setSlot_self v hk, if_pos (by omega), hv]
  · rw [Cell.slots_setSlot_ne v e, h.2.2.2 i]
    by_cases q : lo ≤ i ∧ i < k
    · rw [if_pos q, if_pos (by omega)]
    · rw [if_neg q, if_neg (by omega)]
def U16 : String := "java/lang/StringUTF16"
namespace Cmp5
def yN : MethodName := ⟨"java/lang/StringUTF16", "compress", "([CI[BII)I"⟩
abbrev yB : ByteArray := jdk_52_method_21_code
theorem d0 : decode yB 0 = .ok (.iconst 0, 1) := by decide +kernel
theorem d1 : decode yB 1 = .ok (.istore 5, 2) := by decide +kernel
theorem d3 : decode yB 3 = .ok (.iload 5, 2) := by decide +kernel
theorem d5 : decode yB 5 = .ok (.iload 4, 2) := by decide +kernel
theorem d7 : decode yB 7 = .ok (.if_icmp (.ge) 37, 3) := by decide +kernel
theorem d10 : decode yB 10 = .ok (.aload_n 0, 1) := by decide +kernel
theorem d11 : decode yB 11 = .ok (.iload_n 1, 1) := by decide +kernel
theorem d12 : decode yB 12 = .ok (.caload, 1) := by decide +kernel
theorem d13 : decode yB 13 = .ok (.istore 6, 2) := by decide +kernel
theorem d15 : decode yB 15 = .ok (.iload 6, 2) := by decide +kernel
theorem d17 : decode yB 17 = .ok (.sipush 255, 3) := by decide +kernel
theorem d20 : decode yB 20 = .ok (.if_icmp (.le) 6, 3) := by decide +kernel
theorem d26 : decode yB 26 = .ok (.aload_n 2, 1) := by decide +kernel
theorem d27 : decode yB 27 = .ok (.iload_n 3, 1) := by decide +kernel
theorem d28 : decode yB 28 = .ok (.iload 6, 2) := by decide +kernel
theorem d30 : decode yB 30 = .ok (.i2b, 1) := by decide +kernel
theorem d31 : decode yB 31 = .ok (.bastore, 1) := by decide +kernel
theorem d32 : decode yB 32 = .ok (.iinc 1 1, 3) := by decide +kernel
theorem d35 : decode yB 35 = .ok (.iinc 3 1, 3) := by decide +kernel
theorem d38 : decode yB 38 = .ok (.iinc 5 1, 3) := by decide +kernel
theorem d41 : decode yB 41 = .ok (.goto (-38), 3) := by decide +kernel
theorem d44 : decode yB 44 = .ok (.iload 4, 2) := by decide +kernel
theorem d46 : decode yB 46 = .ok (.ireturn, 1) := by decide +kernel
def site : List Cond := []
def tab : Cond := tabOf yN yB 7 (some .int) site
def P (b : Addr) (A : Cell) (d : Addr) (B : Cell) (o q len : Nat) (args : Array Value) (s : State) : Prop := args = #[.ref b, .int (Int32.ofNat o), .ref d, .int (Int32.ofNat q), .int (Int32.ofNat len)] ∧ Ch b A s ∧ Arr .byte d B s ∧ b ≠ d ∧ o + len ≤ A.slots.size ∧ q + len ≤ B.slots.size ∧ ∀ i, i < len → ¬ 255 < cv A (o + i)
def E (b : Addr) (A : Cell) (d : Addr) (B : Cell) (o q len : Nat) (r : Option Value) (s u : State) : Prop := r = some (.int (Int32.ofNat len)) ∧ ∃ B', Put d B' s u ∧ Laid B B' q (q + len) (fun j => Value.int (lo8 (cv A (o + (j - q)))))
/-- no char of the range above 255: len; the places written hold each char's low byte -/
theorem law (l : Launch) (b : Addr) (A : Cell) (d : Addr) (B : Cell) (o q len : Nat) : Law l yN 5 5 0 0 yB 7 (some .int) site (P b A d B o q len) (E b A d B o q len) (copyLocs d q len) 0 0 := by
  refine Law.of_walk (plainFor_of_name (by decide +kernel)) (by decide +kernel) (by decide +kernel) (by decide) (fun _ _ h => by rw [h.1]; rfl) (fun _ U U' hal hh h => ⟨h.1, h.2.1.mv hal hh, h.2.2.1.mv hal hh, h.2.2.2⟩) (fun r U U' V V' h1 hal h2 h => ⟨h.1, h.2.elim fun B' q => ⟨B', q.1.mv h1 h2, q.2⟩⟩) ?_
  intro p e s m args below meth c s₁ X0 hexec hbytes hml hret hlk hnm hown hh0 W hP
  obtain ⟨rfl, hA, hB, hne, l1, l2, hp⟩ := hP
  have c1 : Steps p.tables e below (s₁.setTop (entryFrame m #[.ref b, .int (Int32.ofNat o), .ref d, .int (Int32.ofNat q), .int (Int32.ofNat len)] 7)) (s₁.setTop (mkF m 0 #[.val (.ref b), .val (.int (Int32.ofNat o)), .val (.ref d), .val (.int (Int32.ofNat q)), .val (.int (Int32.ofNat len)), .unset, .unset] [])) := entry rfl
  have hA0 := hA.1.mv X0.warmed.alike hh0
  have hB0 := hB.mv X0.warmed.alike hh0
  have a31 := hA.1.2.2.2
  have c2 : Steps p.tables e below (s₁.setTop (entryFrame m #[.ref b, .int (Int32.ofNat o), .ref d, .int (Int32.ofNat q), .int (Int32.ofNat len)] 7)) (s₁.setTop (mkF m 3 #[.val (.ref b), .val (.int (Int32.ofNat o)), .val (.ref d), .val (.int (Int32.ofNat q)), .val (.int (Int32.ofNat len)), .val (.int 0), .unset] [])) := c1.trans (by
    refine iconstV X0.here hexec rfl 0 (hb hbytes d0) (by decide) ?_
    refine XS.istore X0.here hexec rfl (hb hbytes d1) rfl rfl ?_
    exact Steps.refl _)
  have loop : ∀ (r i : Nat), i + r = len → ∀ (z : Slot), (z = .unset ∨ ∃ w, z = .val w ∧ w.category = 1) → ∀ (Tl : State) (Bk : Cell), Stand p l e { frames := 0, locals := 0, cells := 0, slots := 0 } s m #[.ref b, .int (Int32.ofNat o), .ref d, .int (Int32.ofNat q), .int (Int32.ofNat len)] below meth c Tl ([] ++ copyLocs d q i) 0 0 → Put d Bk s₁ Tl → Laid B Bk q (q + i) (fun j => Value.int (lo8 (cv A (o + (j - q))))) →
      Steps p.tables e below (s₁.setTop (entryFrame m #[.ref b, .int (Int32.ofNat o), .ref d, .int (Int32.ofNat q), .int (Int32.ofNat len)] 7)) (Tl.setTop (mkF m 3 #[.val (.ref b), .val (.int (Int32.ofNat (o + i))), .val (.ref d), .val (.int (Int32.ofNat (q + i))), .val (.int (Int32.ofNat len)), .val (.int (Int32.ofNat i)), z] [])) → ∃ (T' : State) (B' : Cell) (z' : Slot), Stand p l e { frames := 0, locals := 0, cells := 0, slots := 0 } s m #[.ref b, .int (Int32.ofNat o), .ref d, .int (Int32.ofNat q), .int (Int32.ofNat len)] below meth c T' ([] ++ copyLocs d q len) 0 0 ∧ Put d B' s₁ T' ∧ Laid B B' q (q + len) (fun j => Value.int (lo8 (cv A (o + (j - q))))) ∧
      Steps p.tables e below (s₁.setTop (entryFrame m #[.ref b, .int (Int32.ofNat o), .ref d, .int (Int32.ofNat q), .int (Int32.ofNat len)] 7)) (T'.setTop (mkF m 3 #[.val (.ref b), .val (.int (Int32.ofNat (o + len))), .val (.ref d), .val (.int (Int32.ofNat (q + len))), .val (.int (Int32.ofNat len)), .val (.int (Int32.ofNat len)), z'] [])) := by
    intro r
    induction r with
    | zero =>
      intro i hi z hz Tl Bk Xl pl fl cl
      have hil : i = len := by omega
      rw [hil] at Xl fl cl
      exact ⟨Tl, Bk, z, Xl, pl, fl, cl⟩
    | succ r ih =>
      intro i hi z hz Tl Bk Xl pl fl cl
      have all := X0.warmed.alike.symm.trans Xl.warmed.alike
      have hAl := hA0.keep all (pl.other hne hA0.1)
      have hBk := hB0.like all pl.1 fl.1 fl.2.1 fl.2.2.1
      have hlt : q + i < Bk.slots.size := by rw [fl.2.2.1]; omega
      have c3 : Steps p.tables e below (s₁.setTop (entryFrame m #[.ref b, .int (Int32.ofNat o), .ref d, .int (Int32.ofNat q), .int (Int32.ofNat len)] 7)) (Tl.setTop (mkF m 12 #[.val (.ref b), .val (.int (Int32.ofNat (o + i))), .val (.ref d), .val (.int (Int32.ofNat (q + i))), .val (.int (Int32.ofNat len)), .val (.int (Int32.ofNat i)), z] [.int (Int32.ofNat (o + i)), .ref b])) := cl.trans (by
        refine XS.iload Xl.here hexec rfl (hb hbytes d3) rfl ?_
        refine XS.iload Xl.here hexec rfl (hb hbytes d5) rfl ?_
        refine XS.icmpNo Xl.here hexec rfl (hb hbytes d7) rfl (ii_ge_f (lt32 (by omega) (by omega))) ?_
        refine XS.aloadN Xl.here hexec rfl (hb hbytes d10) rfl rfl ?_
        refine XS.iloadN Xl.here hexec rfl (hb hbytes d11) rfl ?_
        exact Steps.refl _)
      have c4 : Steps p.tables e below (s₁.setTop (entryFrame m #[.ref b, .int (Int32.ofNat o), .ref d, .int (Int32.ofNat q), .int (Int32.ofNat len)] 7)) (Tl.setTop (mkF m 13 #[.val (.ref b), .val (.int (Int32.ofNat (o + i))), .val (.ref d), .val (.int (Int32.ofNat (q + i))), .val (.int (Int32.ofNat len)), .val (.int (Int32.ofNat i)), z] [.int (cv A (o + i))])) := c3.trans (by
        refine Xl.aget hexec hAl rfl (hA.get (i := o + i) (by omega)) rfl rfl (hb hbytes d12) ?_
        exact Steps.refl _)
      have c5 : Steps p.tables e below (s₁.setTop (entryFrame m #[.ref b, .int (Int32.ofNat o), .ref d, .int (Int32.ofNat q), .int (Int32.ofNat len)] 7)) (Tl.setTop (mkF m 15 #[.val (.ref b), .val (.int (Int32.ofNat (o + i))), .val (.ref d), .val (.int (Int32.ofNat (q + i))), .val (.int (Int32.ofNat len)), .val (.int (Int32.ofNat i)), .val (.int (cv A (o + i)))] [])) := c4.trans (by
        refine XS.istoreS Xl.here hexec rfl (hb hbytes d13) rfl rfl hz ?_
        exact Steps.refl _)
      have c6 : Steps p.tables e below (s₁.setTop (entryFrame m #[.ref b, .int (Int32.ofNat o), .ref d, .int (Int32.ofNat q), .int (Int32.ofNat len)] 7)) (Tl.setTop (mkF m 31 #[.val (.ref b), .val (.int (Int32.ofNat (o + i))), .val (.ref d), .val (.int (Int32.ofNat (q + i))), .val (.int (Int32.ofNat len)), .val (.int (Int32.ofNat i)), .val (.int (cv A (o + i)))] [.int (lo8 (cv A (o + i))), .int (Int32.ofNat (q + i)), .ref d])) := c5.trans (by
        refine XS.iload Xl.here hexec rfl (hb hbytes d15) rfl ?_
        refine sipushV Xl.here hexec rfl 255 (hb hbytes d17) (by decide) ?_
        refine XS.icmpYes Xl.here hexec rfl (pc0 := 20) rfl (hb hbytes d20) rfl (ii_le_t (hp i (by omega))) (by decide) rfl ?_
        refine XS.aloadN Xl.here hexec rfl (hb hbytes d26) rfl rfl ?_
        refine XS.iloadN Xl.here hexec rfl (hb hbytes d27) rfl ?_
        refine XS.iload Xl.here hexec rfl (hb hbytes d28) rfl ?_
        refine i2b Xl.here hexec rfl (hb hbytes d30) rfl ?_
        exact Steps.refl _)
      obtain ⟨T7, X7, p7, st7⟩ := Xl.aput hexec hBk rfl hlt rfl (fits_lo8 (cv A (o + i))) (g := (mkF m 31 #[.val (.ref b), .val (.int (Int32.ofNat (o + i))), .val (.ref d), .val (.int (Int32.ofNat (q + i))), .val (.int (Int32.ofNat len)), .val (.int (Int32.ofNat i)), .val (.int (cv A (o + i)))] [.int (lo8 (cv A (o + i))), .int (Int32.ofNat (q + i)), .ref d])) rfl (rest := []) rfl (hb hbytes d31)
      have c8 : Steps p.tables e below (s₁.setTop (entryFrame m #[.ref b, .int (Int32.ofNat o), .ref d, .int (Int32.ofNat q), .int (Int32.ofNat len)] 7)) (T7.setTop (mkF m 32 #[.val (.ref b), .val (.int (Int32.ofNat (o + i))), .val (.ref d), .val (.int (Int32.ofNat (q + i))), .val (.int (Int32.ofNat len)), .val (.int (Int32.ofNat i)), .val (.int (cv A (o + i)))] [])) := c6.trans (st7 _ (Steps.refl _))
      have c9 : Steps p.tables e below (s₁.setTop (entryFrame m #[.ref b, .int (Int32.ofNat o), .ref d, .int (Int32.ofNat q), .int (Int32.ofNat len)] 7)) (T7.setTop (mkF m 3 #[.val (.ref b), .val (.int (Int32.ofNat (o + i) + 1)), .val (.ref d), .val (.int (Int32.ofNat (q + i) + 1)), .val (.int (Int32.ofNat len)), .val (.int (Int32.ofNat i + 1)), .val (.int (cv A (o + i)))] [])) := c8.trans (by
        refine iincV X7.here hexec rfl 1 (hb hbytes d32) (by decide) rfl rfl ?_
        refine iincV X7.here hexec rfl 1 (hb hbytes d35) (by decide) rfl rfl ?_
        refine iincV X7.here hexec rfl 1 (hb hbytes d38) (by decide) rfl rfl ?_
        refine XS.goto X7.here hexec rfl (pc0 := 41) rfl (hb hbytes d41) (by decide) rfl ?_
        exact Steps.refl _)
      have c10 : Steps p.tables e below (s₁.setTop (entryFrame m #[.ref b, .int (Int32.ofNat o), .ref d, .int (Int32.ofNat q), .int (Int32.ofNat len)] 7)) (T7.setTop (mkF m 3 #[.val (.ref b), .val (.int (Int32.ofNat (o + (i + 1)))), .val (.ref d), .val (.int (Int32.ofNat (q + (i + 1)))), .val (.int (Int32.ofNat len)), .val (.int (Int32.ofNat (i + 1))), .val (.int (cv A (o + i)))] [])) := by
        have := c9
        rw [succ32, succ32, succ32] at this
        exact this
      exact ih (i + 1) (by omega) _ (Or.inr ⟨_, rfl, rfl⟩) T7 _ (by rw [copyLocs_step, ← List.append_assoc]; exact X7) (pl.trans p7) (fl.step (by omega) hlt (by simp)) c10
  obtain ⟨T9, B9, z9, X9, p9, f9, g9⟩ := loop len 0 (by omega) .unset (Or.inl rfl) s₁ B (by simpa [copyLocs] using X0) ⟨hB0.1, fun _ _ => rfl, rfl⟩ (Laid.zero _ _ _) c2
  have c11 : Steps p.tables e below (s₁.setTop (entryFrame m #[.ref b, .int (Int32.ofNat o), .ref d, .int (Int32.ofNat q), .int (Int32.ofNat len)] 7)) (T9.setTop (mkF m 46 #[.val (.ref b), .val (.int (Int32.ofNat (o + len))), .val (.ref d), .val (.int (Int32.ofNat (q + len))), .val (.int (Int32.ofNat len)), .val (.int (Int32.ofNat len)), z9] [.int (Int32.ofNat len)])) := g9.trans (by
    refine XS.iload X9.here hexec rfl (hb hbytes d3) rfl ?_
    refine XS.iload X9.here hexec rfl (hb hbytes d5) rfl ?_
    refine XS.icmpYes X9.here hexec rfl (pc0 := 7) rfl (hb hbytes d7) rfl (ii_ge_t (nlt32 (by omega) (Nat.le_refl _))) (by decide) rfl ?_
    refine XS.iload X9.here hexec rfl (hb hbytes d44) rfl ?_
    exact Steps.refl _)
  exact ⟨T9, some (.int (Int32.ofNat len)), _, _, _, X9, by simp, rfl, rfl, (fun h => by cases h), ⟨rfl, B9, p9.from hh0, f9⟩, fun fs hl => c11.trans (X9.ireturnOut hexec hret rfl (Or.inl rfl) (hb hbytes d46) hl)⟩
end Cmp5
namespace Cmp3
def yN : MethodName := ⟨"java/lang/StringUTF16", "compress", "([CII)[B"⟩
abbrev yB : ByteArray := jdk_52_method_16_code
theorem d0 : decode yB 0 = .ok (.iload_n 2, 1) := by decide +kernel
theorem d1 : decode yB 1 = .ok (.newarray .byte, 2) := by decide +kernel
theorem d3 : decode yB 3 = .ok (.astore_n 3, 1) := by decide +kernel
theorem d4 : decode yB 4 = .ok (.aload_n 0, 1) := by decide +kernel
theorem d5 : decode yB 5 = .ok (.iload_n 1, 1) := by decide +kernel
theorem d6 : decode yB 6 = .ok (.aload_n 3, 1) := by decide +kernel
theorem d7 : decode yB 7 = .ok (.iconst 0, 1) := by decide +kernel
theorem d8 : decode yB 8 = .ok (.iload_n 2, 1) := by decide +kernel
theorem d9 : decode yB 9 = .ok (.invokestatic 115, 3) := by decide +kernel
theorem d12 : decode yB 12 = .ok (.istore 4, 2) := by decide +kernel
theorem d14 : decode yB 14 = .ok (.iload 4, 2) := by decide +kernel
theorem d16 : decode yB 16 = .ok (.iload_n 2, 1) := by decide +kernel
theorem d17 : decode yB 17 = .ok (.if_icmp (.eq) 40, 3) := by decide +kernel
theorem d57 : decode yB 57 = .ok (.aload_n 3, 1) := by decide +kernel
theorem d58 : decode yB 58 = .ok (.areturn, 1) := by decide +kernel
def site : List Cond := [.arrayClass .byte, Cmp5.tab] ++ staticW U16 115 Cmp5.yN
def tab : Cond := tabOf yN yB 6 (some (.array .byte)) site
def P (b : Addr) (A : Cell) (o len : Nat) (args : Array Value) (s : State) : Prop := args = #[.ref b, .int (Int32.ofNat o), .int (Int32.ofNat len)] ∧ Ch b A s ∧ o + len ≤ A.slots.size ∧ len ≤ 536870912 ∧ ∀ i, i < len → ¬ 255 < cv A (o + i)
def E (b : Addr) (A : Cell) (o len : Nat) (r : Option Value) (s u : State) : Prop := NewArr .byte "[B" len (fun j => .int (lo8 (cv A (o + j)))) r s u ∧ u.heap.size = s.heap.size + 1
/-- no char of the range above 255: a new byte[] of their low bytes -/
theorem law (l : Launch) (b : Addr) (A : Cell) (o len : Nat) : Law l yN 3 3 1 18 yB 6 (some (.array .byte)) site (P b A o len) (E b A o len) [] 1 len := by
  refine Law.of_walk (plainFor_of_name (by decide +kernel)) (by decide +kernel) (by decide +kernel) (by decide) (fun _ _ h => by rw [h.1]; rfl) (fun _ U U' hal hh h => ⟨h.1, h.2.1.mv hal hh, h.2.2⟩) (fun r U U' V V' h1 hal h2 h => ⟨NewArr.mv r U U' V V' h1 hal h2 h.1, by rw [h1, h2]; exact h.2⟩) ?_
  intro p e s m args below meth c s₁ X0 hexec hbytes hml hret hlk hnm hown hh0 W hP
  obtain ⟨rfl, hA, l1, l2, hp⟩ := hP
  have a31 := hA.1.2.2.2
  have c1 : Steps p.tables e below (s₁.setTop (entryFrame m #[.ref b, .int (Int32.ofNat o), .int (Int32.ofNat len)] 6)) (s₁.setTop (mkF m 0 #[.val (.ref b), .val (.int (Int32.ofNat o)), .val (.int (Int32.ofNat len)), .unset, .unset, .unset] [])) := entry rfl
  have c2 : Steps p.tables e below (s₁.setTop (entryFrame m #[.ref b, .int (Int32.ofNat o), .int (Int32.ofNat len)] 6)) (s₁.setTop (mkF m 1 #[.val (.ref b), .val (.int (Int32.ofNat o)), .val (.int (Int32.ofNat len)), .unset, .unset, .unset] [.int (Int32.ofNat len)])) := c1.trans (by
    refine XS.iloadN X0.here hexec rfl (hb hbytes d0) rfl ?_
    exact Steps.refl _)
  obtain ⟨T3, B3, X3, ba3, bs3, bv3, bh3, bf3, st3⟩ := X0.anew hexec (atype := .byte) (wk W (.arrayClass .byte)) rfl (by show len * 1 ≤ _; omega) (by omega) (g := (mkF m 1 #[.val (.ref b), .val (.int (Int32.ofNat o)), .val (.int (Int32.ofNat len)), .unset, .unset, .unset] [.int (Int32.ofNat len)])) rfl (hb hbytes d1) (rest := []) rfl (Nat.le_refl _) (by show 0 + len ≤ len; omega)
  rw [hh0] at ba3 st3
  have kp3 : XT.Kept s T3 := (XT.Kept.of_eq hh0).push bh3
  have hA3 := hA.keep X3.warmed.alike (kp3 _ _ hA.1.1)
  have hne : b ≠ s.heap.size := hA.1.ne
  have c4 : Steps p.tables e below (s₁.setTop (entryFrame m #[.ref b, .int (Int32.ofNat o), .int (Int32.ofNat len)] 6)) (T3.setTop (mkF m 3 #[.val (.ref b), .val (.int (Int32.ofNat o)), .val (.int (Int32.ofNat len)), .unset, .unset, .unset] [.ref s.heap.size])) := c2.trans (st3 _ (Steps.refl _))
  have c5 : Steps p.tables e below (s₁.setTop (entryFrame m #[.ref b, .int (Int32.ofNat o), .int (Int32.ofNat len)] 6)) (T3.setTop (mkF m 9 #[.val (.ref b), .val (.int (Int32.ofNat o)), .val (.int (Int32.ofNat len)), .val (.ref s.heap.size), .unset, .unset] [.int (Int32.ofNat len), .int 0, .ref s.heap.size, .int (Int32.ofNat o), .ref b])) := c4.trans (by
    refine XS.astoreN X3.here hexec rfl (hb hbytes d3) rfl rfl rfl ?_
    refine XS.aloadN X3.here hexec rfl (hb hbytes d4) rfl rfl ?_
    refine XS.iloadN X3.here hexec rfl (hb hbytes d5) rfl ?_
    refine XS.aloadN X3.here hexec rfl (hb hbytes d6) rfl rfl ?_
    refine iconstV X3.here hexec rfl 0 (hb hbytes d7) (by decide) ?_
    refine XS.iloadN X3.here hexec rfl (hb hbytes d8) rfl ?_
    exact Steps.refl _)
  obtain ⟨v6, T6, X6, E6, g6⟩ := X3.callS hexec (Cmp5.law l b A s.heap.size B3 o 0 len) hown (wks W (staticW U16 115 Cmp5.yN)) (wk W Cmp5.tab) (W := 0) (Nat.le_of_ble_eq_true rfl) (Nat.le_of_ble_eq_true rfl) (Nat.le_refl _) (by show 0 + len + 0 ≤ len; omega) (g := (mkF m 9 #[.val (.ref b), .val (.int (Int32.ofNat o)), .val (.int (Int32.ofNat len)), .val (.ref s.heap.size), .unset, .unset] [.int (Int32.ofNat len), .int (Int32.ofNat 0), .ref s.heap.size, .int (Int32.ofNat o), .ref b])) rfl (by rw [hml]; rfl) c5 (argsL := [.ref b, .int (Int32.ofNat o), .ref s.heap.size, .int (Int32.ofNat 0), .int (Int32.ofNat len)]) (rest := []) rfl rfl (by show 2 * 0 + 0 ≤ _; decide) (hb hbytes d9) (⟨rfl, hA3, ba3, hne, l1, by rw [bs3]; simp, hp⟩)
  obtain ⟨rfl, B6, p6, f6⟩ := E6
  have c7 : Steps p.tables e below (s₁.setTop (entryFrame m #[.ref b, .int (Int32.ofNat o), .int (Int32.ofNat len)] 6)) (T6.setTop (mkF m 12 #[.val (.ref b), .val (.int (Int32.ofNat o)), .val (.int (Int32.ofNat len)), .val (.ref s.heap.size), .unset, .unset] [.int (Int32.ofNat len)])) := g6
  have c8 : Steps p.tables e below (s₁.setTop (entryFrame m #[.ref b, .int (Int32.ofNat o), .int (Int32.ofNat len)] 6)) (T6.setTop (mkF m 58 #[.val (.ref b), .val (.int (Int32.ofNat o)), .val (.int (Int32.ofNat len)), .val (.ref s.heap.size), .val (.int (Int32.ofNat len)), .unset] [.ref s.heap.size])) := c7.trans (by
    refine XS.istore X6.here hexec rfl (hb hbytes d12) rfl rfl ?_
    refine XS.iload X6.here hexec rfl (hb hbytes d14) rfl ?_
    refine XS.iloadN X6.here hexec rfl (hb hbytes d16) rfl ?_
    refine XS.icmpYes X6.here hexec rfl (pc0 := 17) rfl (hb hbytes d17) rfl (ii_eq_t rfl) (by decide) rfl ?_
    refine XS.aloadN X6.here hexec rfl (hb hbytes d57) rfl rfl ?_
    exact Steps.refl _)
  have X8 := X6.wide (L' := []) (cells' := 1) (slots' := len) (fun x hx hlt => by
    simp only [List.nil_append, copyLocs, List.mem_map, List.mem_range] at hx
    obtain ⟨i, -, rfl⟩ := hx
    exact absurd hlt (Nat.lt_irrefl _)) (Nat.le_refl _) (by omega)
  exact ⟨T6, some (.ref s.heap.size), _, _, _, X8, rfl, rfl, rfl, (fun h => by cases h), ⟨⟨rfl, B6, ba3.like (X3.warmed.alike.symm.trans X6.warmed.alike) p6.1 f6.1 f6.2.1 f6.2.2.1, f6.2.1.trans bv3, by rw [X6.warmed.alike.findClass, f6.1]; exact bf3, by rw [f6.2.2.1, bs3]; simp, fun j hj => by rw [f6.2.2.2 j, if_pos (by omega)]; rfl, kp3.put p6 (Nat.le_refl _)⟩, by rw [p6.2.2, bh3, hh0]; simp⟩, fun fs hl => c8.trans (X8.areturnOut hexec rfl hret rfl (hb hbytes d58) hl)⟩
end Cmp3
namespace CodL
def yN : MethodName := ⟨"java/lang/StringUTF16", "coderFromArrayLen", "([BI)B"⟩
abbrev yB : ByteArray := jdk_52_method_15_code
theorem d0 : decode yB 0 = .ok (.iload_n 1, 1) := by decide +kernel
theorem d1 : decode yB 1 = .ok (.aload_n 0, 1) := by decide +kernel
theorem d2 : decode yB 2 = .ok (.arraylength, 1) := by decide +kernel
theorem d3 : decode yB 3 = .ok (.isub, 1) := by decide +kernel
theorem d4 : decode yB 4 = .ok (.bipush 31, 2) := by decide +kernel
theorem d6 : decode yB 6 = .ok (.iushr, 1) := by decide +kernel
theorem d7 : decode yB 7 = .ok (.i2b, 1) := by decide +kernel
theorem d8 : decode yB 8 = .ok (.ireturn, 1) := by decide +kernel
def site : List Cond := []
def tab : Cond := tabOf yN yB 2 (some .byte) site
def P (d : Addr) (B : Cell) (args : Array Value) (s : State) : Prop := args = #[.ref d, .int (Int32.ofNat B.slots.size)] ∧ Arr .byte d B s
def E (r : Option Value) (s u : State) : Prop := XT.PureE (some (.int 0)) r s u
/-- an array as long as the number of chars: LATIN1 -/
theorem law (l : Launch) (d : Addr) (B : Cell) : Law l yN 2 2 0 0 yB 2 (some .byte) site (P d B) E [] 0 0 := by
  refine Law.of_walk (plainFor_of_name (by decide +kernel)) (by decide +kernel) (by decide +kernel) (by decide) (fun _ _ h => by rw [h.1]; rfl) (fun _ U U' hal hh h => ⟨h.1, h.2.mv hal hh⟩) (fun r U U' V V' h1 hal h2 h => XT.PureE.mv r U U' V V' h1 hal h2 h) ?_
  intro p e s m args below meth c s₁ X0 hexec hbytes hml hret hlk hnm hown hh0 W hP
  obtain ⟨rfl, hB⟩ := hP
  have hB0 := hB.mv X0.warmed.alike hh0
  have c1 : Steps p.tables e below (s₁.setTop (entryFrame m #[.ref d, .int (Int32.ofNat B.slots.size)] 2)) (s₁.setTop (mkF m 0 #[.val (.ref d), .val (.int (Int32.ofNat B.slots.size))] [])) := entry rfl
  have c2 : Steps p.tables e below (s₁.setTop (entryFrame m #[.ref d, .int (Int32.ofNat B.slots.size)] 2)) (s₁.setTop (mkF m 2 #[.val (.ref d), .val (.int (Int32.ofNat B.slots.size))] [.ref d, .int (Int32.ofNat B.slots.size)])) := c1.trans (by
    refine XS.iloadN X0.here hexec rfl (hb hbytes d0) rfl ?_
    refine XS.aloadN X0.here hexec rfl (hb hbytes d1) rfl rfl ?_
    exact Steps.refl _)
  have c3 : Steps p.tables e below (s₁.setTop (entryFrame m #[.ref d, .int (Int32.ofNat B.slots.size)] 2)) (s₁.setTop (mkF m 8 #[.val (.ref d), .val (.int (Int32.ofNat B.slots.size))] [.int (lo8 (ushr (Int32.ofNat B.slots.size - Int32.ofNat B.slots.size) 31))])) := c2.trans (by
    refine X0.alen hexec hB0 rfl rfl (hb hbytes d2) ?_
    refine XS.isub X0.here hexec rfl (hb hbytes d3) rfl ?_
    refine bipushV X0.here hexec rfl 31 (hb hbytes d4) (by decide) ?_
    refine iushr X0.here hexec rfl (hb hbytes d6) rfl ?_
    refine i2b X0.here hexec rfl (hb hbytes d7) rfl ?_
    exact Steps.refl _)
  have e0 : lo8 (ushr (Int32.ofNat B.slots.size - Int32.ofNat B.slots.size) 31) = 0 := by rw [Int32.sub_self]; decide
  rw [e0] at c3
  exact ⟨s₁, some (.int 0), _, _, _, X0, rfl, rfl, rfl, (fun h => by cases h), ⟨rfl, hh0⟩, fun fs hl => c3.trans (X0.ireturnOut hexec hret rfl (Or.inr (Or.inr (Or.inl rfl))) (hb hbytes d8) hl)⟩
end CodL
/-- the String at a is Latin-1 over a new byte[] (the heap's one new cell): the low bytes of the len chars of A from o on; every cell but a is kept -/
def Got (a : Addr) (D : Cell) (fV fC : Field) (A : Cell) (o len : Nat) (r : Option Value) (s u : State) : Prop := r = none ∧ ∃ D' V : Cell, Blank "java/lang/String" a D' u ∧ Same D D' [fV.slot, fC.slot] ∧ D'.slots[fV.slot]? = some (.ref s.heap.size) ∧ D'.slots[fC.slot]? = some (.int 0) ∧ Arr .byte s.heap.size V u ∧ V.vm = .none ∧ u.vm.findClass "[B" = some V.cls ∧ V.slots.size = len ∧ (∀ j, j < len → V.slots[j]? = some (.int (lo8 (cv A (o + j))))) ∧ (∀ (y : Addr) (c : Cell), y ≠ a → s.heap[y]? = some c → u.heap[y]? = some c) ∧ u.heap.size = s.heap.size + 1
theorem Got.mv {a : Addr} {D A : Cell} {fV fC : Field} {o len : Nat} : ∀ r (U U' V V' : State), U'.heap = U.heap → V.vm.Alike V'.vm → V'.heap = V.heap → Got a D fV fC A o len r U V → Got a D fV fC A o len r U' V' :=
  fun r U U' V V' h1 hal h2 ⟨e0, D', X, a1, a2, a3, a4, a5, a6, a7, a8, a9, a10, a11⟩ => ⟨e0, D', X, a1.mv hal h2, a2, by rw [h1]; exact a3, a4, by rw [h1]; exact a5.mv hal h2, a6, by rw [hal.findClass]; exact a7, a8, a9, by rw [h1, h2]; exact a10, by rw [h1, h2]; exact a11⟩
namespace New4
def yN : MethodName := ⟨"java/lang/String", "<init>", "([CIILjava/lang/Void;)V"⟩
abbrev yB : ByteArray := jdk_42_method_149_code
theorem d0 : decode yB 0 = .ok (.aload_n 0, 1) := by decide +kernel
theorem d1 : decode yB 1 = .ok (.invokespecial 1, 3) := by decide +kernel
theorem d4 : decode yB 4 = .ok (.iload_n 3, 1) := by decide +kernel
theorem d5 : decode yB 5 = .ok (.ifCond (.ne) 22, 3) := by decide +kernel
theorem d27 : decode yB 27 = .ok (.getstatic 38, 3) := by decide +kernel
theorem d30 : decode yB 30 = .ok (.ifCond (.eq) 28, 3) := by decide +kernel
theorem d33 : decode yB 33 = .ok (.aload_n 1, 1) := by decide +kernel
theorem d34 : decode yB 34 = .ok (.iload_n 2, 1) := by decide +kernel
theorem d35 : decode yB 35 = .ok (.iload_n 3, 1) := by decide +kernel
theorem d36 : decode yB 36 = .ok (.invokestatic 177, 3) := by decide +kernel
theorem d39 : decode yB 39 = .ok (.astore 5, 2) := by decide +kernel
theorem d41 : decode yB 41 = .ok (.aload_n 0, 1) := by decide +kernel
theorem d42 : decode yB 42 = .ok (.aload 5, 2) := by decide +kernel
theorem d44 : decode yB 44 = .ok (.iload_n 3, 1) := by decide +kernel
theorem d45 : decode yB 45 = .ok (.invokestatic 47, 3) := by decide +kernel
theorem d48 : decode yB 48 = .ok (.putfield 15, 3) := by decide +kernel
theorem d51 : decode yB 51 = .ok (.aload_n 0, 1) := by decide +kernel
theorem d52 : decode yB 52 = .ok (.aload 5, 2) := by decide +kernel
theorem d54 : decode yB 54 = .ok (.putfield 9, 3) := by decide +kernel
theorem d57 : decode yB 57 = .ok (.return_, 1) := by decide +kernel
def site : List Cond := [.fieldLink "java/lang/String" 38 "java/lang/String" "COMPACT_STRINGS" "Z", Cmp3.tab, CodL.tab, .laysFinal "java/lang/String" "java/lang/String" "value" "[B", .fieldLink "java/lang/String" 9 "java/lang/String" "value" "[B", .laysFinal "java/lang/String" "java/lang/String" "coder" "B", .fieldLink "java/lang/String" 15 "java/lang/String" "coder" "B"] ++ objW "java/lang/String" 1 ++ staticW "java/lang/String" 177 Cmp3.yN ++ staticW "java/lang/String" 47 CodL.yN
def tab : Cond := tabOf yN yB 6 none site
def P (a : Addr) (D : Cell) (fV fC : Field) (b : Addr) (A : Cell) (z : Int32) (o len : Nat) (args : Array Value) (s : State) : Prop := args = #[.ref a, .ref b, .int (Int32.ofNat o), .int (Int32.ofNat len), .null] ∧ Blank "java/lang/String" a D s ∧ Found "java/lang/String" "value" "[B" fV s ∧ Found "java/lang/String" "coder" "B" fC s ∧ Ch b A s ∧ StaticIs s "java/lang/String" "COMPACT_STRINGS" "Z" (.int z) ∧ ¬ z = 0 ∧ 0 < len ∧ o + len ≤ A.slots.size ∧ len ≤ 536870912 ∧ ∀ i, i < len → ¬ 255 < cv A (o + i)
def E (a : Addr) (D : Cell) (fV fC : Field) (A : Cell) (o len : Nat) (r : Option Value) (s u : State) : Prop := Got a D fV fC A o len r s u
/-- len > 0, no char of the range above 255: a Latin-1 String of their low bytes -/
theorem law (l : Launch) (a : Addr) (D : Cell) (fV fC : Field) (b : Addr) (A : Cell) (z : Int32) (o len : Nat) : Law l yN 5 4 2 35 yB 6 none site (P a D fV fC b A z o len) (E a D fV fC A o len) [⟨a, fC.slot⟩, ⟨a, fV.slot⟩] 1 len := by
  refine Law.of_walk (plainFor_of_name (by decide +kernel)) (by decide +kernel) (by decide +kernel) (by decide) (fun _ _ h => by rw [h.1]; rfl) (fun _ U U' hal hh h => ⟨h.1, h.2.1.mv hal hh, h.2.2.1.al hal, h.2.2.2.1.al hal, h.2.2.2.2.1.mv hal hh, h.2.2.2.2.2.1.there hal hh, h.2.2.2.2.2.2⟩) (fun r U U' V V' h1 hal h2 h => Got.mv r U U' V V' h1 hal h2 h) ?_
  intro p e s m args below meth c s₁ X0 hexec hbytes hml hret hlk hnm hown hh0 W hP
  obtain ⟨rfl, hB, f1, f2, hA, s1, hz, l0, l1, l2, hp⟩ := hP
  have a31 := hA.1.2.2.2
  have c1 : Steps p.tables e below (s₁.setTop (entryFrame m #[.ref a, .ref b, .int (Int32.ofNat o), .int (Int32.ofNat len), .null] 6)) (s₁.setTop (mkF m 0 #[.val (.ref a), .val (.ref b), .val (.int (Int32.ofNat o)), .val (.int (Int32.ofNat len)), .val .null, .unset] [])) := entry rfl
  have c2 : Steps p.tables e below (s₁.setTop (entryFrame m #[.ref a, .ref b, .int (Int32.ofNat o), .int (Int32.ofNat len), .null] 6)) (s₁.setTop (mkF m 1 #[.val (.ref a), .val (.ref b), .val (.int (Int32.ofNat o)), .val (.int (Int32.ofNat len)), .val .null, .unset] [.ref a])) := c1.trans (by
    refine XS.aloadN X0.here hexec rfl (hb hbytes d0) rfl rfl ?_
    exact Steps.refl _)
  obtain ⟨T3, X3, q3, st3⟩ := X0.oinit hexec hown (wks W (objW "java/lang/String" 1)) (g := (mkF m 1 #[.val (.ref a), .val (.ref b), .val (.int (Int32.ofNat o)), .val (.int (Int32.ofNat len)), .val .null, .unset] [.ref a])) rfl (by rw [hml]; rfl) (rest := []) rfl (hb hbytes d1) (W := 0) (by show 2 * 0 + 0 ≤ _; decide) (Nat.le_of_ble_eq_true rfl) (Nat.le_of_ble_eq_true rfl)
  have hh3 := q3.trans hh0
  have c4 : Steps p.tables e below (s₁.setTop (entryFrame m #[.ref a, .ref b, .int (Int32.ofNat o), .int (Int32.ofNat len), .null] 6)) (T3.setTop (mkF m 27 #[.val (.ref a), .val (.ref b), .val (.int (Int32.ofNat o)), .val (.int (Int32.ofNat len)), .val .null, .unset] [])) := (c2.trans (st3 _ (Steps.refl _))).trans (by
    refine XS.iloadN X3.here hexec rfl (hb hbytes d4) rfl ?_
    refine XS.ifYes X3.here hexec rfl (pc0 := 5) rfl (hb hbytes d5) rfl (i0_ne_t (nz32 (by omega) l0)) (by decide) rfl ?_
    exact Steps.refl _)
  obtain ⟨T5, X5, q5, st5⟩ := X3.sget hexec hown (wk W (.fieldLink "java/lang/String" 38 "java/lang/String" "COMPACT_STRINGS" "Z")) s1 (fun _ _ h => by rw [hh3]; exact h) (g := (mkF m 27 #[.val (.ref a), .val (.ref b), .val (.int (Int32.ofNat o)), .val (.int (Int32.ofNat len)), .val .null, .unset] [])) rfl (hb hbytes d27)
  have hh5 := q5.trans hh3
  have c6 : Steps p.tables e below (s₁.setTop (entryFrame m #[.ref a, .ref b, .int (Int32.ofNat o), .int (Int32.ofNat len), .null] 6)) (T5.setTop (mkF m 30 #[.val (.ref a), .val (.ref b), .val (.int (Int32.ofNat o)), .val (.int (Int32.ofNat len)), .val .null, .unset] [.int z])) := c4.trans (st5 _ (Steps.refl _))
  have c7 : Steps p.tables e below (s₁.setTop (entryFrame m #[.ref a, .ref b, .int (Int32.ofNat o), .int (Int32.ofNat len), .null] 6)) (T5.setTop (mkF m 36 #[.val (.ref a), .val (.ref b), .val (.int (Int32.ofNat o)), .val (.int (Int32.ofNat len)), .val .null, .unset] [.int (Int32.ofNat len), .int (Int32.ofNat o), .ref b])) := c6.trans (by
    refine XS.ifNo X5.here hexec rfl (hb hbytes d30) rfl (i0_eq_f hz) ?_
    refine XS.aloadN X5.here hexec rfl (hb hbytes d33) rfl rfl ?_
    refine XS.iloadN X5.here hexec rfl (hb hbytes d34) rfl ?_
    refine XS.iloadN X5.here hexec rfl (hb hbytes d35) rfl ?_
    exact Steps.refl _)
  obtain ⟨v8, T8, X8, E8, g8⟩ := X5.callS hexec (Cmp3.law l b A o len) hown (wks W (staticW "java/lang/String" 177 Cmp3.yN)) (wk W Cmp3.tab) (W := 0) (Nat.le_of_ble_eq_true rfl) (Nat.le_of_ble_eq_true rfl) (Nat.le_refl _) (by show 0 + len ≤ len; omega) (g := (mkF m 36 #[.val (.ref a), .val (.ref b), .val (.int (Int32.ofNat o)), .val (.int (Int32.ofNat len)), .val .null, .unset] [.int (Int32.ofNat len), .int (Int32.ofNat o), .ref b])) rfl (by rw [hml]; rfl) c7 (argsL := [.ref b, .int (Int32.ofNat o), .int (Int32.ofNat len)]) (rest := []) rfl rfl (by show 2 * 0 + 0 ≤ _; decide) (hb hbytes d36) (⟨rfl, hA.mv X5.warmed.alike hh5, l1, l2, hp⟩)
  obtain ⟨e8, z8⟩ := E8
  obtain ⟨rfl, N, n1, n2, n3, n4, n5, n6⟩ := NewArr.mv _ T5 s _ _ hh5.symm (Vm.Alike.refl _) rfl e8
  rw [hh5] at z8
  have hB1 := hB.keep X8.warmed.alike (n6 _ _ hB.1)
  have hne : s.heap.size ≠ a := (Nat.ne_of_lt (Array.getElem?_eq_some_iff.mp hB.1).1).symm
  have c9 : Steps p.tables e below (s₁.setTop (entryFrame m #[.ref a, .ref b, .int (Int32.ofNat o), .int (Int32.ofNat len), .null] 6)) (T8.setTop (mkF m 39 #[.val (.ref a), .val (.ref b), .val (.int (Int32.ofNat o)), .val (.int (Int32.ofNat len)), .val .null, .unset] [.ref s.heap.size])) := g8
  have c10 : Steps p.tables e below (s₁.setTop (entryFrame m #[.ref a, .ref b, .int (Int32.ofNat o), .int (Int32.ofNat len), .null] 6)) (T8.setTop (mkF m 45 #[.val (.ref a), .val (.ref b), .val (.int (Int32.ofNat o)), .val (.int (Int32.ofNat len)), .val .null, .val (.ref s.heap.size)] [.int (Int32.ofNat N.slots.size), .ref s.heap.size, .ref a])) := by
    have hc : Steps p.tables e below (s₁.setTop (entryFrame m #[.ref a, .ref b, .int (Int32.ofNat o), .int (Int32.ofNat len), .null] 6)) (T8.setTop (mkF m 45 #[.val (.ref a), .val (.ref b), .val (.int (Int32.ofNat o)), .val (.int (Int32.ofNat len)), .val .null, .val (.ref s.heap.size)] [.int (Int32.ofNat len), .ref s.heap.size, .ref a])) := c9.trans (by
      refine XS.astore X8.here hexec rfl (hb hbytes d39) rfl rfl rfl ?_
      refine XS.aloadN X8.here hexec rfl (hb hbytes d41) rfl rfl ?_
      refine XS.aload X8.here hexec rfl (hb hbytes d42) rfl rfl ?_
      refine XS.iloadN X8.here hexec rfl (hb hbytes d44) rfl ?_
      exact Steps.refl _)
    rw [n4]; exact hc
  obtain ⟨v11, T11, X11, E11, g11⟩ := X8.callS hexec (CodL.law l s.heap.size N) hown (wks W (staticW "java/lang/String" 47 CodL.yN)) (wk W CodL.tab) (W := 1) (Nat.le_of_ble_eq_true rfl) (Nat.le_of_ble_eq_true rfl) (Nat.le_refl _) (by show 0 + len + 0 ≤ len; omega) (g := (mkF m 45 #[.val (.ref a), .val (.ref b), .val (.int (Int32.ofNat o)), .val (.int (Int32.ofNat len)), .val .null, .val (.ref s.heap.size)] [.int (Int32.ofNat N.slots.size), .ref s.heap.size, .ref a])) rfl (by rw [hml]; rfl) c10 (argsL := [.ref s.heap.size, .int (Int32.ofNat N.slots.size)]) (rest := [.ref a]) rfl rfl (by show 2 * 0 + (1 + 0) ≤ _; decide) (hb hbytes d45) (⟨rfl, n1⟩)
  obtain ⟨rfl, q11⟩ := E11
  have hB11 := hB1.mv (X8.warmed.alike.symm.trans X11.warmed.alike) q11
  have c12 : Steps p.tables e below (s₁.setTop (entryFrame m #[.ref a, .ref b, .int (Int32.ofNat o), .int (Int32.ofNat len), .null] 6)) (T11.setTop (mkF m 48 #[.val (.ref a), .val (.ref b), .val (.int (Int32.ofNat o)), .val (.int (Int32.ofNat len)), .val .null, .val (.ref s.heap.size)] [.int 0, .ref a])) := g11
  obtain ⟨T13, X13, p13, bl13, sl13, st13⟩ := X11.finit hexec hown (wk W (.fieldLink "java/lang/String" 15 "java/lang/String" "coder" "B")) (Or.inr ⟨_, (wk W (.laysFinal "java/lang/String" "java/lang/String" "coder" "B"))⟩) (Or.inl ⟨rfl, hnm⟩) f2 (Or.inl rfl) hB11 (t := .byte) (by decide +kernel) rfl (g := (mkF m 48 #[.val (.ref a), .val (.ref b), .val (.int (Int32.ofNat o)), .val (.int (Int32.ofNat len)), .val .null, .val (.ref s.heap.size)] [.int 0, .ref a])) rfl (rest := []) rfl (hb hbytes d48)
  have c14 : Steps p.tables e below (s₁.setTop (entryFrame m #[.ref a, .ref b, .int (Int32.ofNat o), .int (Int32.ofNat len), .null] 6)) (T13.setTop (mkF m 54 #[.val (.ref a), .val (.ref b), .val (.int (Int32.ofNat o)), .val (.int (Int32.ofNat len)), .val .null, .val (.ref s.heap.size)] [.ref s.heap.size, .ref a])) := (c12.trans (st13 _ (Steps.refl _))).trans (by
    refine XS.aloadN X13.here hexec rfl (hb hbytes d51) rfl rfl ?_
    refine XS.aload X13.here hexec rfl (hb hbytes d52) rfl rfl ?_
    exact Steps.refl _)
  obtain ⟨T15, X15, p15, bl15, sl15, st15⟩ := X13.finit hexec hown (wk W (.fieldLink "java/lang/String" 9 "java/lang/String" "value" "[B")) (Or.inr ⟨_, (wk W (.laysFinal "java/lang/String" "java/lang/String" "value" "[B"))⟩) (Or.inl ⟨rfl, hnm⟩) f1 (Or.inl rfl) bl13 (t := (.array .byte)) (by decide +kernel) rfl (g := (mkF m 54 #[.val (.ref a), .val (.ref b), .val (.int (Int32.ofNat o)), .val (.int (Int32.ofNat len)), .val .null, .val (.ref s.heap.size)] [.ref s.heap.size, .ref a])) rfl (rest := []) rfl (hb hbytes d54)
  have c16 : Steps p.tables e below (s₁.setTop (entryFrame m #[.ref a, .ref b, .int (Int32.ofNat o), .int (Int32.ofNat len), .null] 6)) (T15.setTop (mkF m 57 #[.val (.ref a), .val (.ref b), .val (.int (Int32.ofNat o)), .val (.int (Int32.ofNat len)), .val .null, .val (.ref s.heap.size)] [])) := c14.trans (st15 _ (Steps.refl _))
  have ap := apart (Or.inr ⟨_, (wk W (.laysFinal "java/lang/String" "java/lang/String" "value" "[B"))⟩) (Or.inr ⟨_, (wk W (.laysFinal "java/lang/String" "java/lang/String" "coder" "B"))⟩) f1 f2 (t₁ := .array .byte) (t₂ := .byte) (by decide +kernel) (by decide +kernel) (by decide)
  have al := X8.warmed.alike.symm.trans X15.warmed.alike
  have n7 : T11.heap[s.heap.size]? = some N := by rw [q11]; exact n1.1
  exact ⟨T15, none, _, _, _, X15, by simp, rfl, by omega, (fun _ => rfl), ⟨rfl, _, N, bl15, ((Same.refl D _).set _ (by simp)).set _ (by simp), sl15, (Cell.slots_setSlot_ne _ ap).trans sl13, n1.keep al (p15.other hne (p13.other hne n7)), n2, by rw [al.findClass]; exact n3, n4, n5, fun y c h1 h2 => p15.other h1 (p13.other h1 (by rw [q11]; exact n6 y c h2)), by rw [p15.2.2, p13.2.2, q11]; exact z8⟩, fun fs hl => c16.trans (X15.returnOut hexec hret (hb hbytes d57) hl)⟩
end New4
namespace New1
def yN : MethodName := ⟨"java/lang/String", "<init>", "([C)V"⟩
abbrev yB : ByteArray := jdk_42_method_3_code
theorem d0 : decode yB 0 = .ok (.aload_n 0, 1) := by decide +kernel
theorem d1 : decode yB 1 = .ok (.aload_n 1, 1) := by decide +kernel
theorem d2 : decode yB 2 = .ok (.iconst 0, 1) := by decide +kernel
theorem d3 : decode yB 3 = .ok (.aload_n 1, 1) := by decide +kernel
theorem d4 : decode yB 4 = .ok (.arraylength, 1) := by decide +kernel
theorem d5 : decode yB 5 = .ok (.aconst_null, 1) := by decide +kernel
theorem d6 : decode yB 6 = .ok (.invokespecial 27, 3) := by decide +kernel
theorem d9 : decode yB 9 = .ok (.return_, 1) := by decide +kernel
def site : List Cond := [New4.tab] ++ initW "java/lang/String" 27 New4.yN
def tab : Cond := tabOf yN yB 2 none site
def P (a : Addr) (D : Cell) (fV fC : Field) (b : Addr) (A : Cell) (z : Int32) (args : Array Value) (s : State) : Prop := args = #[.ref a, .ref b] ∧ Blank "java/lang/String" a D s ∧ Found "java/lang/String" "value" "[B" fV s ∧ Found "java/lang/String" "coder" "B" fC s ∧ Ch b A s ∧ StaticIs s "java/lang/String" "COMPACT_STRINGS" "Z" (.int z) ∧ ¬ z = 0 ∧ 0 < A.slots.size ∧ A.slots.size ≤ 536870912 ∧ ∀ i, i < A.slots.size → ¬ 255 < cv A i
def E (a : Addr) (D : Cell) (fV fC : Field) (A : Cell) (r : Option Value) (s u : State) : Prop := Got a D fV fC A 0 A.slots.size r s u
/-- new String(chars), not empty, no char above 255: a Latin-1 String of their low bytes -/
theorem law (l : Launch) (a : Addr) (D : Cell) (fV fC : Field) (b : Addr) (A : Cell) (z : Int32) : Law l yN 2 1 3 52 yB 2 none site (P a D fV fC b A z) (E a D fV fC A) [⟨a, fC.slot⟩, ⟨a, fV.slot⟩] 1 A.slots.size := by
  refine Law.of_walk (plainFor_of_name (by decide +kernel)) (by decide +kernel) (by decide +kernel) (by decide) (fun _ _ h => by rw [h.1]; rfl) (fun _ U U' hal hh h => ⟨h.1, h.2.1.mv hal hh, h.2.2.1.al hal, h.2.2.2.1.al hal, h.2.2.2.2.1.mv hal hh, h.2.2.2.2.2.1.there hal hh, h.2.2.2.2.2.2⟩) (fun r U U' V V' h1 hal h2 h => Got.mv r U U' V V' h1 hal h2 h) ?_
  intro p e s m args below meth c s₁ X0 hexec hbytes hml hret hlk hnm hown hh0 W hP
  obtain ⟨rfl, hB, f1, f2, hA, s1, hz, l0, l2, hp⟩ := hP
  have c1 : Steps p.tables e below (s₁.setTop (entryFrame m #[.ref a, .ref b] 2)) (s₁.setTop (mkF m 0 #[.val (.ref a), .val (.ref b)] [])) := entry rfl
  have c2 : Steps p.tables e below (s₁.setTop (entryFrame m #[.ref a, .ref b] 2)) (s₁.setTop (mkF m 6 #[.val (.ref a), .val (.ref b)] [.null, .int (Int32.ofNat A.slots.size), .int 0, .ref b, .ref a])) := c1.trans (by
    refine XS.aloadN X0.here hexec rfl (hb hbytes d0) rfl rfl ?_
    refine XS.aloadN X0.here hexec rfl (hb hbytes d1) rfl rfl ?_
    refine iconstV X0.here hexec rfl 0 (hb hbytes d2) (by decide) ?_
    refine XS.aloadN X0.here hexec rfl (hb hbytes d3) rfl rfl ?_
    refine X0.alen hexec (hA.1.mv X0.warmed.alike hh0) rfl rfl (hb hbytes d4) ?_
    refine XS.aconstNull X0.here hexec rfl (hb hbytes d5) ?_
    exact Steps.refl _)
  obtain ⟨v3, T3, X3, E3, g3⟩ := X0.callN hexec (New4.law l a D fV fC b A z 0 A.slots.size) rfl hown (wks W (initW "java/lang/String" 27 New4.yN)) (W New4.tab (by simp only [site, List.mem_cons, List.mem_append, true_or, or_true])) (W := 0) (Nat.le_of_ble_eq_true rfl) (Nat.le_of_ble_eq_true rfl) (Nat.le_refl _) (by show 0 + A.slots.size ≤ A.slots.size; omega) (g := (mkF m 6 #[.val (.ref a), .val (.ref b)] [.null, .int (Int32.ofNat A.slots.size), .int (Int32.ofNat 0), .ref b, .ref a])) rfl (by rw [hml]; rfl) c2 (argsL := [.ref b, .int (Int32.ofNat 0), .int (Int32.ofNat A.slots.size), .null]) (rest := []) rfl rfl (by show 2 * 0 + 0 ≤ _; decide) (hb hbytes d6) (⟨rfl, hB.mv X0.warmed.alike hh0, f1.al X0.warmed.alike, f2.al X0.warmed.alike, hA.mv X0.warmed.alike hh0, s1.there X0.warmed.alike hh0, hz, l0, by omega, l2, fun i hi => by rw [Nat.zero_add]; exact hp i hi⟩)
  have e0 := Got.mv _ s₁ s _ _ hh0.symm (Vm.Alike.refl _) rfl E3
  obtain rfl := e0.1
  have c4 : Steps p.tables e below (s₁.setTop (entryFrame m #[.ref a, .ref b] 2)) (T3.setTop (mkF m 9 #[.val (.ref a), .val (.ref b)] [])) := g3
  exact ⟨T3, none, _, _, _, X3, by simp, rfl, by omega, (fun _ => rfl), e0, fun fs hl => c4.trans (X3.returnOut hexec hret (hb hbytes d9) hl)⟩
theorem pays {l : Launch} {R : Room} {p : Program} {e : Env} {below : List Frame} {s : State} {sargs : Array Value} {len W : Nat} (a : Addr) (D : Cell) (fV fC : Field) (b : Addr) (A : Cell) (z : Int32) (htab : tab.before sargs s = true) (hfr : 4 ≤ R.frames) (hlo : W + 65 ≤ R.locals) :
    Back l R p e below s sargs yN len W (fun A₁ a₁ => A₁.cells + 1 ≤ R.cells ∧ A₁.slots + A.slots.size ≤ R.slots ∧ P a D fV fC b A z a₁ A₁.U) (fun A₁ _ v₁ B₁ => E a D fV fC A v₁ A₁.U B₁.U ∧ B₁.locs = A₁.locs ++ [⟨a, fC.slot⟩, ⟨a, fV.slot⟩] ∧ B₁.cells = A₁.cells + 1 ∧ B₁.slots = A₁.slots + A.slots.size) :=
  (law l a D fV fC b A z).pays htab hfr (by omega)
end New1
end StrChars
namespace StrChars.Road
open Jvm Sem ClassFile Op Lib Jvm.Stand Jvm.Free Jvm.Free.XT
open Jvm.Lib.Cold (StaticIs)
abbrev ST : String := "java/lang/String"
/-- every table word that New1's law asks, flat -/
abbrev words : List Jvm.Cond := [.code New1.yN New1.yB 2 none, .initialized ST, .methodLink ST 27 New4.yN, .instanceMethod New4.yN,
  .code New4.yN New4.yB 6 none, .fieldLink ST 38 ST "COMPACT_STRINGS" "Z", .laysFinal ST ST "value" "[B", .fieldLink ST 9 ST "value" "[B", .laysFinal ST ST "coder" "B", .fieldLink ST 15 ST "coder" "B",
  .methodLink ST 1 Lib.objectInit, .instanceMethod Lib.objectInit, .code Lib.objectInit ⟨#[0xb1]⟩ 1 none, .methodLink ST 177 Cmp3.yN, .static Cmp3.yN, .methodLink ST 47 CodL.yN, .static CodL.yN,
  .code Cmp3.yN Cmp3.yB 6 (some (.array .byte)), .initialized U16, .arrayClass .byte, .methodLink U16 115 Cmp5.yN, .static Cmp5.yN, .code Cmp5.yN Cmp5.yB 7 (some .int), .code CodL.yN CodL.yB 2 (some .byte)]
theorem tab_of {a : Array Value} {s : State} (h : ∀ w ∈ words, w.before a s = true) : New1.tab.before a s = true := by
  have h5 : Cmp5.tab.before a s = true := unparts (wk h (.code Cmp5.yN Cmp5.yB 7 (some .int))) (wks h (.initialized Cmp5.yN.cls :: Cmp5.site))
  have hc : CodL.tab.before a s = true := unparts (wk h (.code CodL.yN CodL.yB 2 (some .byte))) (wks h (.initialized CodL.yN.cls :: CodL.site))
  have q5 : ∀ w ∈ Cmp5.tab :: words, w.before a s = true := fun w hw => (List.mem_cons.mp hw).elim (fun e => e ▸ h5) (h w)
  have h3 : Cmp3.tab.before a s = true := unparts (wk q5 (.code Cmp3.yN Cmp3.yB 6 (some (.array .byte)))) (wks q5 (.initialized Cmp3.yN.cls :: Cmp3.site))
  have q3 : ∀ w ∈ Cmp3.tab :: CodL.tab :: words, w.before a s = true := fun w hw => (List.mem_cons.mp hw).elim (fun e => e ▸ h3) fun hw => (List.mem_cons.mp hw).elim (fun e => e ▸ hc) (h w)
  have h4 : New4.tab.before a s = true := unparts (wk q3 (.code New4.yN New4.yB 6 none)) (wks q3 (.initialized New4.yN.cls :: New4.site))
  have q4 : ∀ w ∈ New4.tab :: words, w.before a s = true := fun w hw => (List.mem_cons.mp hw).elim (fun e => e ▸ h4) (h w)
  exact unparts (wk q4 (.code New1.yN New1.yB 2 none)) (wks q4 (.initialized New1.yN.cls :: New1.site))
/-- the words ride from the start Z to the walk's own state -/
theorem moved {Z s : State} {a0 args : Array Value} (hZ : Z.Warmed39 s.vm) (hw : ∀ d ∈ words, d.before a0 Z = true) : ∀ d ∈ words, d.before args s = true := fun d hd => by
  have q := hw d hd
  have t : ∀ d ∈ words, d = .arrayClass .byte ∨ (d.onTables && d.keepsFace) = true := by decide +kernel
  rcases t d hd with rfl | t
  · exact RoadKit.mvA hZ q
  · exact RoadKit.mv hZ q t
/-- WHAT COMES BACK, over the tables of the start Z: h the heap at the call, h' behind it -/
def Q (Z : State) (x : Addr) (A : Cell) (h : Heap) (v : Option Value) (h' : Heap) (L : List Loc) : Prop := v = none ∧ (∀ y ∈ L, y.base = x) ∧ RoadKit.Keep h h' [x] ∧ h'.size = h.size + 1 ∧ RoadKit.Exa Z h' x ST ∧ RoadKit.Fld Z h' x ST "value" "[B" (.ref h.size) ∧ RoadKit.Fld Z h' x ST "coder" "B" (.int 0) ∧
  (∃ V : Cell, RoadKit.Arr Z h' h.size V .byte ∧ V.vm = .none ∧ Z.vm.findClass "[B" = some V.cls ∧ V.slots.size = A.slots.size ∧ ∀ j, j < A.slots.size → V.slots[j]? = some (.int (lo8 (cv A j)))) ∧
  ∀ (O n d : String) (w : Value), RoadKit.Fld Z h x O n d w → RoadKit.slotOf Z O n d ≠ RoadKit.slotOf Z ST "value" "[B" → RoadKit.slotOf Z O n d ≠ RoadKit.slotOf Z ST "coder" "B" → RoadKit.Fld Z h' x O n d w
/-- **new String(chars) AT A CALL, IN THE ROAD'S FORM**: for specialBack behind newO: x the fresh String, b the char[] with the cell A -/
theorem back {p : Program} {l : Launch} {e : Env} {R : Room} {s : State} {args : Array Value} {below : List Frame} {len W : Nat} {Z : State} {a0 : Array Value} {h : Heap} (hZ : Z.Warmed39 s.vm) (hw : ∀ d ∈ words, d.before a0 Z = true) {kI : Nat} (wi : (Jvm.Cond.instantiable ST kI).before a0 Z = true)
    {x b : Addr} {A : Cell} {z : Int32} {v0 c0 : Value} (E : RoadKit.Exa Z h x ST) (V : RoadKit.Fld Z h x ST "value" "[B" v0) (C : RoadKit.Fld Z h x ST "coder" "B" c0) (K : RoadKit.Arr Z h b A .char) (hty : Typed .char A) (S : RoadKit.Sta Z h ST "COMPACT_STRINGS" "Z" (.int z)) (hz : ¬ z = 0)
    (l0 : 0 < A.slots.size) (l2 : A.slots.size ≤ 536870912) (hp : ∀ i, i < A.slots.size → ¬ 255 < cv A i) (hfr : 4 ≤ R.frames) (hlo : W + 65 ≤ R.locals) :
    Back l R p e below s args New1.yN len W (fun P a => a = #[.ref x, .ref b] ∧ P.U.heap = h ∧ P.cells + 1 ≤ R.cells ∧ P.slots + A.slots.size ≤ R.slots)
      (fun P _ v B => ∃ L, Q Z x A h v B.U.heap L ∧ B.locs = P.locs ++ L ∧ B.cells = P.cells + 1 ∧ B.slots = P.slots + A.slots.size) := by
  intro m meth c P g ig mk a X hg hsize hdg hW hn hp'
  obtain ⟨rfl, rfl, r1, r2⟩ := hp'
  have al : Z.vm.Alike P.U.vm := hZ.alike.trans X.warmed.alike
  obtain ⟨D, cfV, kV, iV, fV, hD, gV, stV, knV, obV, asV, slV⟩ := id V
  obtain ⟨D', cfC, kC, iC, fC, hD', gC, stC, -, -, asC, slC⟩ := id C
  cases hD.symm.trans hD'
  obtain ⟨D2, kD, e1, e2, e3, e4, e5⟩ := id E
  cases hD.symm.trans e1
  obtain ⟨c2, k2, i1, i2, i3, -⟩ := Cond.instantiable_spec wi
  cases e2.symm.trans i1
  cases e3.symm.trans i2
  obtain ⟨kU, u1, u2⟩ := al.2.2 _ _ e3
  have hB : Blank ST x D P.U := ⟨hD, ⟨knV, fun q hq => by rw [hq] at obV; cases obV⟩, by rw [al.findClass]; exact e2, kU, u1, by rw [u2]; exact i3, by rw [u2]; exact e5 i3⟩
  have F1 : Found ST "value" "[B" fV P.U := ⟨SBG.found_only al ⟨cfV, kV, iV, gV⟩, stV⟩
  have F2 : Found ST "coder" "B" fC P.U := ⟨SBG.found_only al ⟨cfC, kC, iC, gC⟩, stC⟩
  have hA : Ch b A P.U := ⟨⟨K.1, State.isArrayOf_alike al K.2.1, K.2.2, by omega⟩, hty⟩
  have hS : StaticIs P.U ST "COMPACT_STRINGS" "Z" (.int z) := by
    obtain ⟨cfS, iS, kS, fS, st, cS, t1, t2, t3, t4, t5, t6, t7⟩ := S
    exact StaticIs.there (s := { Z with heap := P.U.heap }) ⟨cfS, iS, kS, fS, st, cS, t1, t2, t3, t4, t5, (fun q => by rw [q] at t6; cases t6), t7⟩ al rfl
  obtain ⟨v, B, X', ⟨⟨hv, E', V', q1, q2, q3, q4, q5, q6, q7, q8, q9, q10, q11⟩, hl, hc, hs⟩, st⟩ := New1.pays x D fV fC b A z (tab_of (moved hZ hw)) hfr hlo m meth c P g ig mk _ X hg hsize hdg hW hn ⟨r1, r2, rfl, hB, F1, F2, hA, hS, hz, l0, l2, hp⟩
  have al' : Z.vm.Alike B.U.vm := hZ.alike.trans X'.warmed.alike
  have hsz : E'.slots.size = D.slots.size := by
    obtain ⟨-, -, -, kB, w1, w2, w3⟩ := q1
    obtain ⟨kB', y1, y2⟩ := al'.2.2 _ _ e3
    rw [q2.2.1] at w1
    cases w1.symm.trans y1
    rw [w3, e5 i3, y2]
  refine ⟨v, B, X', ⟨_, ⟨hv, ?_, ⟨by omega, fun y cy hy hn' => q10 y cy (by simpa using hn') hy, fun y cy hy => ?_⟩, q11, ⟨E', _, q1.1, by rw [q2.2.1]; exact e2, by rw [q2.2.1]; exact e3, by rw [q2.1]; exact obV, fun _ => by rw [hsz]; exact e5 i3⟩,
    ⟨E', cfV, kV, iV, fV, q1.1, gV, stV, by rw [q2.1]; exact knV, by rw [q2.1]; exact obV, by rw [q2.2.1]; exact asV, q3⟩, ⟨E', cfC, kC, iC, fC, q1.1, gC, stC, by rw [q2.1]; exact knV, by rw [q2.1]; exact obV, by rw [q2.2.1]; exact asC, q4⟩,
    ⟨V', ⟨q5.1, State.isArrayOf_alike al'.symm q5.2.1, q5.2.2.1⟩, q6, by rw [← al'.findClass]; exact q7, q8, fun j hj => by have := q9 j hj; rwa [Nat.zero_add] at this⟩, fun O n d w F n1 n2 => ?_⟩, hl, hc, hs⟩, st⟩
  · intro y hy
    simp only [List.mem_cons, List.not_mem_nil, or_false] at hy
    rcases hy with rfl | rfl <;> rfl
  · by_cases q : y = x
    · subst q
      cases hD.symm.trans hy
      exact ⟨E', q1.1, q2.2.1, q2.1, hsz⟩
    · exact ⟨cy, q10 y cy q hy, rfl, rfl, rfl⟩
  · obtain ⟨D3, cf, k, i, f, g1, g2, g3, g4, g5, g6, g7⟩ := F
    cases hD.symm.trans g1
    simp only [RoadKit.slotOf, g2, gV, gC, Option.map_some, Option.getD_some] at n1 n2
    exact ⟨E', cf, k, i, f, q1.1, g2, g3, by rw [q2.1]; exact g4, by rw [q2.1]; exact g5, by rw [q2.2.1]; exact g6, by rw [q2.2.2 f.slot (by simp [n1, n2])]; exact g7⟩
end StrChars.Road
namespace StrChars.Road
open Jvm Sem ClassFile Op Lib Jvm.Stand Jvm.Free Jvm.Free.XT
/-- WHAT COMES BACK, the byte[] as a list of values -/
def QA (Z : State) (x : Addr) (zn : Int32) (cs : List Int32) (h : Heap) (v : Option Value) (h' : Heap) (L : List Loc) : Prop := v = none ∧ (∀ y ∈ L, y.base = x) ∧ RoadKit.Keep h h' [x] ∧ h'.size = h.size + 1 ∧ RoadKit.Exa Z h' x ST ∧ RoadKit.Fld Z h' x ST "value" "[B" (.ref h.size) ∧ RoadKit.Fld Z h' x ST "coder" "B" (.int 0) ∧
  (∃ kb, Z.vm.findClass "[B" = some kb ∧ RoadKit.Arv Z h' h.size kb .byte zn (cs.map fun c => .int (lo8 c)) (.int 0)) ∧
  ∀ (O n d : String) (w : Value), RoadKit.Fld Z h x O n d w → RoadKit.slotOf Z O n d ≠ RoadKit.slotOf Z ST "value" "[B" → RoadKit.slotOf Z O n d ≠ RoadKit.slotOf Z ST "coder" "B" → RoadKit.Fld Z h' x O n d w
/-- **new String(chars) AT A CALL, THE ARRAYS AS LISTS**: the char[] at b holds cs, not empty, no char above 255 -/
theorem backArv {p : Program} {l : Launch} {e : Env} {R : Room} {s : State} {args : Array Value} {below : List Frame} {len W : Nat} {Z : State} {a0 : Array Value} {h : Heap} (hZ : Z.Warmed39 s.vm) (hw : ∀ d ∈ words, d.before a0 Z = true) {kI : Nat} (wi : (Jvm.Cond.instantiable ST kI).before a0 Z = true)
    {x b : Addr} {k : ClassId} {zn z : Int32} {cs : List Int32} {dv v0 c0 : Value} (E : RoadKit.Exa Z h x ST) (V : RoadKit.Fld Z h x ST "value" "[B" v0) (C : RoadKit.Fld Z h x ST "coder" "B" c0) (K : RoadKit.Arv Z h b k .char zn (cs.map Value.int) dv) (S : RoadKit.Sta Z h ST "COMPACT_STRINGS" "Z" (.int z)) (hz : ¬ z = 0)
    (hlen : zn.toNatClampNeg = cs.length) (h0 : 0 < cs.length) (hbig : cs.length ≤ 536870912) (hall : ∀ c ∈ cs, ¬ 255 < c) (hfr : 4 ≤ R.frames) (hlo : W + 65 ≤ R.locals) :
    Back l R p e below s args New1.yN len W (fun P a => a = #[.ref x, .ref b] ∧ P.U.heap = h ∧ P.cells + 1 ≤ R.cells ∧ P.slots + cs.length ≤ R.slots)
      (fun P _ v B => ∃ L, QA Z x zn cs h v B.U.heap L ∧ B.locs = P.locs ++ L ∧ B.cells = P.cells + 1 ∧ B.slots = P.slots + cs.length) := by
  obtain ⟨A, K1, K2, K3, K4, K5, K6⟩ := K
  have e : A.slots.size = cs.length := K3.trans hlen
  have hat : ∀ (i : Nat) (hi : i < cs.length), A.slots[i]? = some (.int cs[i]) := fun i hi => by rw [K5 i (by omega)]; simp [List.getD_eq_getElem?_getD, hi]
  have hcv : ∀ (i : Nat) (hi : i < cs.length), cv A i = cs[i] := fun i hi => by unfold cv; rw [hat i hi]
  have hty : Typed .char A := fun i v hv => by
    have hi : i < A.slots.size := (Array.getElem?_eq_some_iff.mp hv).1
    have q := K5 i hi
    rw [hv] at q
    rw [Option.some.inj q]
    exact K6 i hi
  refine Back.mono (back hZ hw wi E V C K1 hty S hz (by omega) (by omega) (fun i hi => by rw [hcv i (by omega)]; exact hall _ (List.getElem_mem _)) hfr hlo) (fun P a hp => ⟨hp.1, hp.2.1, hp.2.2.1, by rw [e]; exact hp.2.2.2⟩) (fun P a v B hp hq => ?_)
  obtain ⟨L, ⟨q1, q2, q3, q4, q5, q6, q7, ⟨V', v1, v2, v3, v4, v5⟩, q9⟩, hl, hc, hs⟩ := hq
  refine ⟨L, ⟨q1, q2, q3, q4, q5, q6, q7, ⟨V'.cls, v3, V', v1, rfl, by rw [v4, e, hlen], K4, fun i hi => ?_, fun i hi => ?_⟩, q9⟩, hl, hc, by rw [hs, e]⟩
  · have hi' : i < cs.length := by omega
    rw [v5 i (by omega), hcv i hi']; simp [List.getD_eq_getElem?_getD, hi']
  · have hi' : i < cs.length := by omega
    simp only [List.getD_eq_getElem?_getD, List.getElem?_map, List.getElem?_eq_getElem hi', Option.map_some, Option.getD_some]
    exact fits_lo8 _
end StrChars.Road
namespace StrChars.Road
open Jvm Sem ClassFile Op Lib Jvm.Stand Jvm.Free Jvm.Free.XT
/-- WHAT COMES BACK, in the writer's own shape -/
def QV (Z : State) (x : Addr) (N : Int32) (bs : List Int32) (h : Heap) (n0 : Nat) (v : Option Value) (h' : Heap) (L : List Loc) : Prop := v = none ∧ RoadKit.Fr n0 L ∧ RoadKit.Keep h h' [x] ∧ RoadKit.Exa Z h' x ST ∧ RoadKit.Fld Z h' x ST "coder" "B" (.int 0) ∧
  ∃ (t : Addr) (kb : ClassId), n0 ≤ t ∧ h.size ≤ t ∧ ¬ t = x ∧ RoadKit.Fld Z h' x ST "value" "[B" (.ref t) ∧ RoadKit.Arv Z h' t kb .byte N (bs.map Value.int) (.int 0)
/-- **new String(chars) AT A CALL, FOR THE WRITER**: a char[] of n known ints, each 0 to 255 -/
theorem backV {p : Program} {l : Launch} {e : Env} {R : Room} {s : State} {args : Array Value} {below : List Frame} {len W : Nat} {Z : State} {a0 : Array Value} {h : Heap} (hZ : Z.Warmed39 s.vm) (hw : ∀ d ∈ words, d.before a0 Z = true) {kI : Nat} (wi : (Jvm.Cond.instantiable ST kI).before a0 Z = true)
    {x b : Addr} {kC : ClassId} {cs bs : List Int32} {d v0 c0 : Value} {z N : Int32} {n n0 : Nat} (hx0 : n0 ≤ x) (hh0 : n0 ≤ h.size) (E : RoadKit.Exa Z h x ST) (V : RoadKit.Fld Z h x ST "value" "[B" v0) (C : RoadKit.Fld Z h x ST "coder" "B" c0) (K : RoadKit.Arv Z h b kC .char N (cs.map Value.int) d) (S : RoadKit.Sta Z h ST "COMPACT_STRINGS" "Z" (.int z)) (hz : ¬ z = 0)
    (hn : cs.length = n) (hN : N = Int32.ofNat n) (l0 : 0 < n) (l2 : n ≤ 4000) (hp : ∀ c ∈ cs, ¬ c < 0 ∧ ¬ (255 : Int32) < c) (hb : bs = cs.map (fun c => c.toInt8.toInt32)) (hfr : 4 ≤ R.frames) (hlo : W + 65 ≤ R.locals) :
    Back l R p e below s args (⟨"java/lang/String", "<init>", "([C)V"⟩ : MethodName) len W (fun P a => a = #[.ref x, .ref b] ∧ P.U.heap = h ∧ P.cells + 1 ≤ R.cells ∧ P.slots + n ≤ R.slots)
      (fun P _ v B => ∃ L, QV Z x N bs h n0 v B.U.heap L ∧ B.locs = P.locs ++ L ∧ B.cells = P.cells + 1 ∧ B.slots = P.slots + n) := by
  subst hn hN hb
  refine Back.mono (backArv hZ hw wi E V C K S hz (n32 (by omega)) l0 (by omega) (fun c hc => (hp c hc).2) hfr hlo) (fun P a hp => hp) (fun P a v B hp hq => ?_)
  obtain ⟨L, ⟨q1, q2, q3, q4, q5, q6, q7, ⟨kb, v1, v2⟩, q9⟩, hl, hc, hs⟩ := hq
  exact ⟨L, ⟨q1, fun y hy => by rw [q2 y hy]; exact hx0, q3, q5, q7, h.size, kb, hh0, Nat.le_refl _, Nat.ne_of_gt E.lt, q6, by rw [List.map_map]; exact v2⟩, hl, hc, hs⟩
end StrChars.Road
end Jvm.Pilot.@@N@@

namespace Jvm.Pilot.@@N@@
open Jvm Jvm.ClassFile Sem Op Lib Jvm.Free Jvm.Stand Jvm.LawKit Jvm.RoadKit Bundle Jvm.Pilot.@@N@@.Jvm.D

abbrev HW (a0 : Array Value) (Z : State) : Prop := ∀ d ∈ tables_1, d.before a0 Z = true
theorem wAt {Z : State} {a0 : Array Value} (hw : HW a0 Z) {i : Nat} {d : Jvm.Cond} (q : tables_1[i]? = some d) : d.before a0 Z = true := hw _ (List.mem_of_getElem? q)
abbrev rO (f c s l : Nat) : Room := { frames := f, cells := c, slots := s, locals := l }
theorem nl {a b : Nat} (q : Nat.ble a b = true) : a ≤ b := Nat.le_of_ble_eq_true q
abbrev zZ0 : String := "com/example/echo_panel/echopanel/channel/ChannelState"
abbrev zZ1 : String := "com/example/echo_panel/echopanel/channel/ChannelStateLostPinLaw"
abbrev zZ2 : String := "(Ljava/util/Collection;)Ljava/util/List;"
abbrev zZ3 : String := "java/util/ImmutableCollections$List12"
abbrev zZ4 : String := "com/example/echo_panel/echopanel/channel/DisplayLimits"
abbrev zZ5 : String := "(ZLcom/example/echo_panel/echopanel/channel/Severity;ILjava/util/List;Ljava/lang/Object;Lcom/example/echo_panel/echopanel/channel/DisplayLimits;)V"
abbrev zZ6 : String := "java/util/ImmutableCollections"
abbrev zZ7 : String := "()Lcom/example/echo_panel/echopanel/channel/ChannelState;"
abbrev zZ8 : String := "java/util/AbstractCollection"
abbrev zZ9 : String := "()Lcom/example/echo_panel/echopanel/channel/Severity;"
abbrev zZ10 : String := "()Lcom/example/echo_panel/echopanel/channel/DisplayLimits;"
abbrev zZ11 : String := "java/util/ImmutableCollections$ListN"
abbrev zZ12 : String := "Ljava/util/ImmutableCollections$ListN;"
abbrev zZ13 : String := "(Ljava/lang/Object;[Ljava/lang/Object;I)V"
abbrev zZ14 : String := "(ZLcom/example/echo_panel/echopanel/channel/Severity;ILjava/util/List;Ljava/lang/Object;)V"
abbrev zZ15 : String := "java/util/ImmutableCollections$AbstractImmutableList"
abbrev zZ16 : String := "([Ljava/lang/Object;ILjava/lang/Class;)[Ljava/lang/Object;"
abbrev zZ17 : String := "([Ljava/lang/Object;I)[Ljava/lang/Object;"
abbrev zZ18 : String := "java/util/ImmutableCollections$AbstractImmutableCollection"
abbrev zZ19 : String := "([Ljava/lang/Object;)Ljava/util/List;"
abbrev zZ20 : String := "java/lang/Integer$IntegerCache"
abbrev zZ21 : String := "DEFAULTCAPACITY_EMPTY_ELEMENTDATA"
abbrev zZ22 : String := "(Ljava/lang/Object;)Ljava/lang/Object;"
abbrev zZ23 : String := "com/example/echo_panel/echopanel/channel/Severity"
abbrev zZ24 : String := "Lcom/example/echo_panel/echopanel/channel/Severity;"
abbrev zZ25 : String := "(Ljava/lang/Object;Ljava/lang/Object;)V"
abbrev zZ26 : String := "(I)Lcom/example/echo_panel/echopanel/channel/Severity;"
abbrev zZ27 : String := "(Ljava/lang/Object;ILjava/lang/Object;II)V"
abbrev zZ28 : String := "Lcom/example/echo_panel/echopanel/channel/DisplayLimits;"
abbrev kQ0 := jdk_30_method_1_code
abbrev kQ1 := jdk_18_method_1_code
abbrev kQ2 := jdk_33_method_23_code
abbrev kQ3 := jdk_33_method_22_code
abbrev kQ4 := jdk_22_method_1_code
abbrev kQ5 := jdk_39_method_1_code
abbrev kQ6 := jdk_38_method_2_code
abbrev kQ7 := jdk_29_method_65_code
abbrev kQ8 := jdk_38_method_6_code
abbrev kQ9 := jdk_38_method_7_code
abbrev kQ10 := jdk_38_method_24_code
abbrev kQ11 := jdk_38_method_25_code
abbrev kQ12 := jdk_43_method_3_code
abbrev kQ13 := jdk_43_method_46_code
abbrev kQ14 := jdk_42_method_151_code
abbrev kQ15 := jdk_42_method_139_code
abbrev kQ16 := jdk_29_method_69_code
abbrev kQ17 := jdk_65_method_120_code
abbrev kQ18 := jdk_65_method_119_code
abbrev kQ19 := jdk_38_method_16_code
abbrev kQ20 := jdk_38_method_9_code
abbrev kQ21 := jdk_47_method_1_code
abbrev kQ22 := jdk_46_method_1_code
abbrev kQ23 := jdk_31_method_10_code
abbrev kQ24 := jdk_44_method_1_code
abbrev kQ25 := jdk_44_method_2_code
abbrev kQ26 := jdk_40_method_47_code
abbrev kQ27 := jdk_40_method_36_code
abbrev kQ28 := jdk_56_method_3_code
abbrev kQ29 := jdk_40_method_48_code
abbrev kQ30 := prog_15_method_1_code
abbrev kQ31 := prog_15_method_2_code
abbrev kQ32 := prog_15_method_4_code
abbrev kQ33 := prog_15_method_8_code
abbrev kQ34 := prog_15_method_9_code
abbrev kQ35 := prog_15_method_10_code
abbrev kQ36 := prog_15_method_11_code
abbrev kQ37 := prog_15_method_12_code
abbrev kQ38 := prog_15_method_13_code
abbrev kQ39 := prog_18_method_1_code
abbrev kQ40 := prog_18_method_5_code
abbrev kQ41 := prog_18_method_6_code
abbrev kQ42 := jdk_45_method_3_code
abbrev kQ43 := jdk_44_method_3_code
abbrev kQ44 := jdk_44_method_5_code
abbrev kQ45 := jdk_42_method_66_code
abbrev kQ46 := jdk_42_method_3_code
abbrev cS : String := "com/example/echo_panel/echopanel/channel/ChannelState"
abbrev cD : String := "com/example/echo_panel/echopanel/channel/DisplayLimits"
abbrev cV : String := "com/example/echo_panel/echopanel/channel/Severity"
abbrev c2 : String := "java/util/ImmutableCollections$List12"
abbrev cN : String := "java/util/ImmutableCollections$ListN"
abbrev dV : String := "Lcom/example/echo_panel/echopanel/channel/Severity;"
abbrev dD : String := "Lcom/example/echo_panel/echopanel/channel/DisplayLimits;"
abbrev cI : String := "java/util/ImmutableCollections"
abbrev cA : String := "java/util/ArrayList"
abbrev oO : String := "Ljava/lang/Object;"
abbrev cO : String := "java/lang/Object"
section OwnKit
variable {p : Program} {l : Launch} {e : Env} {R : Room} {s : State} {m : MethodId} {args : Array Value} {below : List Frame} {meth : Method} {c : Code} {T : State} {locs : List Loc} {cells slots : Nat}
/-- from A the invocation ends, and what it leaves is Q, within K cells and N slots -/
def OD (p : Program) (e : Env) (s : State) (below : List Frame) (Q : Option Value → Heap → List Loc → Prop) (K N : Nat) (A : State) : Prop :=
  ∃ s₂ o, Steps p.tables e below A s₂ ∧ s₂.status = .running ∧ Ended s₂ below o ∧ ∃ v L, o = .returned v ∧ Q v s₂.heap L ∧ FrameEnd s o s₂ L K N
theorem OD.go {Q : Option Value → Heap → List Loc → Prop} {K N : Nat} {A B : State} (h : ∀ t, Steps p.tables e below B t → Steps p.tables e below A t) (k : OD p e s below Q K N B) : OD p e s below Q K N A := by
  obtain ⟨s₂, o, h1, r⟩ := k
  exact ⟨s₂, o, h _ h1, r⟩
theorem OD.via {Q : Option Value → Heap → List Loc → Prop} {K N : Nat} {A B : State} (h : Steps p.tables e below A B) (k : OD p e s below Q K N B) : OD p e s below Q K N A := OD.go (fun _ q => h.trans q) k
theorem OD.cut {Q : Option Value → Heap → List Loc → Prop} {K N : Nat} {A B : State} (f : OD p e s below Q K N B → OD p e s below Q K N A) (g : OD p e s below Q K N B) : OD p e s below Q K N A := f g
theorem OD.cutA {Q : Option Value → Heap → List Loc → Prop} {K N : Nat} {A : State} {P : State → Prop} {B : State → State} (f : (∀ T, P T → OD p e s below Q K N (B T)) → OD p e s below Q K N A) (g : ∀ T, P T → OD p e s below Q K N (B T)) : OD p e s below Q K N A := f g
theorem OD.cutX {Q : Option Value → Heap → List Loc → Prop} {K N : Nat} {A s' T0 : State} {h : Heap} (X : Stand p l e R s' m args below meth c T0 locs cells slots) {B : State → State} (f : (∀ T, (Stand p l e R s' m args below meth c T locs cells slots ∧ T.heap = h) → OD p e s below Q K N (B T)) → OD p e s below Q K N A) (g : ∀ T, (Stand p l e R s' m args below meth c T locs cells slots ∧ T.heap = h) → OD p e s below Q K N (B T)) : OD p e s below Q K N A := f g
theorem OD.ret {Q : Option Value → Heap → List Loc → Prop} {K N : Nat} (X : Stand p l e R s m args below meth c T locs cells slots) (hx : p.tables.exec = Jvm.exec) (hlk : meth.locks = false) {pc : Nat} {Ls : Array Slot} {w : Value} {t : FieldType} {i : Instr} {rest : List Value} (hret : meth.sig.returnType = some t) (hn : narrow t w = w)
    (hi : (i = .ireturn ∧ (t = .int ∨ t = .boolean ∨ t = .byte ∨ t = .char ∨ t = .short) ∧ ∃ z, w = .int z) ∨ (i = .lreturn ∧ t = .long ∧ ∃ z, w = .long z) ∨ (i = .dreturn ∧ t = .double ∧ ∃ z, w = .double z) ∨ (i = .freturn ∧ t = .float ∧ ∃ z, w = .float z) ∨ (i = .areturn ∧ t.isReference = true ∧ w.isRef = true))
    (hd : decode c.code pc = .ok (i, 1)) (hk : cells ≤ K) (hs : slots ≤ N) (hQ : Q (some w) T.heap locs) : OD p e s below Q K N (T.setTop (mkF m pc Ls (w :: rest))) := by
  obtain ⟨fs, hr, hrun, hended, hW, hsame⟩ := X.leave (v := some w) (fun h => by rw [hret] at h; cases h) hlk
  exact ⟨_, _, retOut X hx hret hn hi hd hr, hrun, hended, _, _, rfl, hQ, ⟨_, rfl⟩, hW, hsame.mono hk hs⟩
theorem OD.retV {Q : Option Value → Heap → List Loc → Prop} {K N : Nat} (X : Stand p l e R s m args below meth c T locs cells slots) (hx : p.tables.exec = Jvm.exec) (hlk : meth.locks = false) {pc : Nat} {Ls : Array Slot} (hret : meth.sig.returnType = none)
    (hd : decode c.code pc = .ok (.return_, 1)) (hk : cells ≤ K) (hs : slots ≤ N) (hQ : Q none T.heap locs) : OD p e s below Q K N (T.setTop (mkF m pc Ls [])) := by
  obtain ⟨fs, hr, hrun, hended, hW, hsame⟩ := X.leave (v := none) (fun _ => rfl) hlk
  exact ⟨_, _, X.returnOut hx hret hd hr, hrun, hended, _, _, rfl, hQ, ⟨_, rfl⟩, hW, hsame.mono hk hs⟩
theorem own_len {Z : State} {h : Heap} {a : Addr} {k : ClassId} {ty : FieldType} {z : Int32} {vs : List Value} {dv : Value} (F : Arv Z h a k ty z vs dv) : ∃ cl : Cell, Arr Z h a cl ty ∧ cl.slots.size.toInt32 = z := by
  obtain ⟨cl, A, -, S, M, -⟩ := F
  exact ⟨cl, A, len_of S M⟩
theorem own_at {Z : State} {h : Heap} {a : Addr} {k : ClassId} {ty : FieldType} {z j : Int32} {vs : List Value} {dv v : Value} (F : Arv Z h a k ty z vs dv) (q : ¬ j < 0 ∧ j < z) (u : vs.getD j.toNatClampNeg dv = v) : ∃ cl : Cell, Arr Z h a cl ty ∧ ¬ (j < 0 ∨ cl.slots.size ≤ j.toNatClampNeg) ∧ cl.slots[j.toNatClampNeg]? = some v := by
  obtain ⟨cl, A, -, S, M, H, -⟩ := F
  exact ⟨cl, A, inb_of S q, H.at (inb_of S q) u⟩
theorem own_inst {Z : State} {a0 : Array Value} {h : Heap} {own C K : String} {index : Nat} {a : Addr} (X : Stand p l e R s m args below meth c T locs cells slots) (hZ : Z.Warmed39 s.vm) (hown : s.vm.findClass own = some m.cls) (w : (Jvm.Cond.classLink own index K).before a0 Z = true) (E : Exa Z h a C) : Ins Z h a K true ∨ ∃ c t, Z.vm.findClass C = some c ∧ Z.vm.findClass K = some t ∧ Z.vm.assignable c t = false := by
  have hpl : e.platform.magicAccessors = ({} : Platform).magicAccessors := by rw [X.admits.platform]
  obtain ⟨c', hc', -⟩ := Cond.classLink_spec (args := args) hown (mv hZ w) e.platform hpl
  rw [hZ.alike.findClass] at hc'
  obtain ⟨cell, k, h1, h2, h3, h4, -⟩ := E
  cases ha : Z.vm.assignable cell.cls c' with
  | true => exact Or.inl ⟨cell, c', h1, hc', by rw [ha, h4]; rfl⟩
  | false => exact Or.inr ⟨_, _, h2, hc', ha⟩
end OwnKit
def own_imax (x0 x1 : Int32) : Int32 := if x0 < x1 then x1 else x0
/-- a cache: an array of references, 256 long -/
def OCach (Z : State) (a : Addr) (C : String) : Prop := ∃ q : Cell, Arr Z Z.heap a q (.object C) ∧ ∀ j : Int32, (¬ j < 0 ∧ j < 256) → ¬ (j < 0 ∨ q.slots.size ≤ j.toNatClampNeg) ∧ ∃ w, q.slots[j.toNatClampNeg]? = some w ∧ w.isRef = true
theorem own_ci {x : Int32} (h1 : ¬ x < (-128 : Int32)) (h2 : ¬ (127 : Int32) < x) : ¬ (x + (128 : Int32)) < 0 ∧ (x + (128 : Int32)) < 256 := by
  have e1 : (-128 : Int32).toInt = -128 := rfl
  have e2 : (127 : Int32).toInt = 127 := rfl
  have e3 : (128 : Int32).toInt = 128 := rfl
  have e4 : (256 : Int32).toInt = 256 := rfl
  have e0 : (0 : Int32).toInt = 0 := rfl
  have q := c_iadd x 128
  have r := rng32 (x + 128)
  rw [Int32.lt_iff_toInt_lt] at h1 h2
  rw [Int32.lt_iff_toInt_lt, Int32.lt_iff_toInt_lt]
  omega
theorem own_b255 (x : Int32) : ¬ (x &&& 255) < 0 ∧ ¬ (255 : Int32) < (x &&& 255) := by
  have q := c_and x 255 (by decide)
  have e0 : (0 : Int32).toInt = 0 := rfl
  have e1 : (255 : Int32).toInt = 255 := rfl
  rw [Int32.lt_iff_toInt_lt, Int32.lt_iff_toInt_lt]
  omega
theorem own_c255 (x : Int32) : ¬ (x &&& (255 : Int32)).toUInt32.toUInt16.toUInt32.toInt32 < 0 ∧ ¬ (255 : Int32) < (x &&& (255 : Int32)).toUInt32.toUInt16.toUInt32.toInt32 := by
  rw [i2c_mask]
  exact own_b255 x
theorem own_mask {u : Int32} (h : ¬ u < 0 ∧ ¬ (255 : Int32) < u) : u &&& 255 = u := by
  have q := c_mask u 255 8 (by decide) (by decide)
  have e0 : (0 : Int32).toInt = 0 := rfl
  have e1 : (255 : Int32).toInt = 255 := rfl
  obtain ⟨h1, h2⟩ := h
  rw [Int32.lt_iff_toInt_lt] at h1 h2
  refine Int32.toInt_inj.mp ?_
  rw [q]
  omega
theorem own_nar {u : Int32} (h : ¬ u < 0 ∧ ¬ (255 : Int32) < u) : nar .char u = u := by
  have q := i2c_mask u
  rw [own_mask h] at q
  exact q
theorem own_all2 {a b : Int32} (h1 : ¬ a < 0 ∧ ¬ (255 : Int32) < a) (h2 : ¬ b < 0 ∧ ¬ (255 : Int32) < b) : ∀ x ∈ ([a, b] : List Int32), ¬ x < 0 ∧ ¬ (255 : Int32) < x := by
  intro x hx
  simp only [List.mem_cons, List.not_mem_nil, or_false] at hx
  rcases hx with rfl | rfl
  · exact h1
  · exact h2
theorem own_all3 {a b c : Int32} (h1 : ¬ a < 0 ∧ ¬ (255 : Int32) < a) (h2 : ¬ b < 0 ∧ ¬ (255 : Int32) < b) (h3 : ¬ c < 0 ∧ ¬ (255 : Int32) < c) : ∀ x ∈ ([a, b, c] : List Int32), ¬ x < 0 ∧ ¬ (255 : Int32) < x := by
  intro x hx
  simp only [List.mem_cons, List.not_mem_nil, or_false] at hx
  rcases hx with rfl | rfl | rfl
  · exact h1
  · exact h2
  · exact h3
theorem own_narR {t : String} {w : Value} (h : w.isRef = true) : narrow (.object t) w = w := by
  rcases ref_cases h with rfl | ⟨a, rfl⟩ <;> rfl
theorem own_fitR {t : String} {w : Value} (h : w.isRef = true) : fits (.object t) w = true := by
  rcases ref_cases h with rfl | ⟨a, rfl⟩ <;> rfl
theorem own_fitB {x y : Int32} (h : narrow .boolean (.int x) = .int y) : fits .boolean (.int y) = true := by
  rw [← h]
  exact fits_nar_bool x
theorem own_three {x u : Int32} (h : ((x &&& (3 : Int32)) % (3 : Int32)) = u) : u = 0 ∨ u = 1 ∨ u = 2 := by
  have q := c_and x 3 (by decide)
  have e3 : (3 : Int32).toInt = 3 := rfl
  have hr : u.toInt = (x &&& (3 : Int32)).toInt.tmod 3 := by rw [← h, Int32.toInt_mod, e3]
  have hq : u.toInt = 0 ∨ u.toInt = 1 ∨ u.toInt = 2 := by
    rw [hr, Int.tmod_eq_emod_of_nonneg q.1]
    omega
  rcases hq with r | r | r
  · exact Or.inl (Int32.toInt_inj.mp r)
  · exact Or.inr (Or.inl (Int32.toInt_inj.mp r))
  · exact Or.inr (Or.inr (Int32.toInt_inj.mp r))
theorem own_dself (a : Int32) : cmpValue (FP.dcmp (FP.i2d a) (FP.i2d a)) .l = (0 : Int32) := dcmpV_self (Fl.i2d_fin _).noNaN _
/-- the array class k is Object's own -/
def OvO (Z : State) (k : ClassId) : Prop := Ovr Z k "java/lang/Object" ∧ Z.vm.findClass "[Ljava/lang/Object;" = some k
/-- the Class object of Object[] has been made -/
def MirM (Z : State) (m : Addr) : Prop := ∃ (c : ClassId) (k : Class), Z.vm.findClass "[Ljava/lang/Object;" = some c ∧ Z.vm.classes[c]? = some k ∧ k.mirror = some m
section OwnM
variable {p : Program} {l : Launch} {e : Env} {R : Room} {s : State} {m : MethodId} {args : Array Value} {below : List Frame} {meth : Method} {c : Code} {T : State} {locs : List Loc} {cells slots : Nat} {Z : State} {h : Heap} {a0 : Array Value}
theorem own_newR (X : Stand p l e R s m args below meth c T locs cells slots) (hx : p.tables.exec = Jvm.exec) (hZ : Z.Warmed39 s.vm) {own : String} {index : Nat} (hown : s.vm.findClass own = some m.cls) (w1 : (Cond.classLink own index "java/lang/Object").before a0 Z = true) (w2 : (Cond.arrayOver (.object "java/lang/Object")).before a0 Z = true)
    (eT : T.heap = h) {g : JFrame} (hg : g.method = m) (hd : decode c.code g.pc = .ok (.anewarray index, 3)) {n : Int32} {rest : List Value} (hs : g.stack = .int n :: rest) (hn : ¬ n < 0) {cap : Nat} (hcap : n.toNatClampNeg ≤ cap) (hb : cap * 8 ≤ 536870912) (hc : cells + 1 ≤ R.cells) (hl : slots + cap ≤ R.slots) :
    ∃ T' h' cA, Stand p l e R s m args below meth c T' locs (cells + 1) (slots + cap) ∧ T'.heap = h' ∧ Ext h h' ∧ Arr Z h' h.size (newA cA (.object "java/lang/Object") n) (.object "java/lang/Object") ∧ OvO Z cA ∧
      ∀ target, Steps p.tables e below (T'.setTop { g with pc := g.pc + 3, stack := .ref h.size :: rest }) target → Steps p.tables e below (T.setTop g) target := by
  have w2' : (Cond.arrayOver (.object "java/lang/Object")).before args s = true := Cond.arrayOver_alike hZ.alike w2
  obtain ⟨vm₁, cA, kA, comp, -, f1, f2, f3, f4, X', st⟩ := X.anewarrayRefK hx hown (mv hZ w1) w2' hg hd hs hn (by omega) hc (by omega)
  have g1 : Z.vm.findClass "[Ljava/lang/Object;" = some cA := by rw [← hZ.alike.findClass]; exact f1
  have g4 : Z.vm.findClass "java/lang/Object" = some comp := by rw [← hZ.alike.findClass]; exact f4
  obtain ⟨kZ, z1, -⟩ := Vm.findClass_spec g1
  obtain ⟨k', z2, z3⟩ := hZ.alike.2.2 _ _ z1
  have ek : kA = k' := Option.some.inj (f2.symm.trans z2)
  have kk : kZ.kind = .array comp (.object "java/lang/Object") := by rw [← f3, ek, z3]
  subst eT
  have hN : (T.heap.push (newA cA (.object "java/lang/Object") n))[T.heap.size]? = some (newA cA (.object "java/lang/Object") n) := by simp
  refine ⟨_, _, cA, X'.more (Nat.le_refl _) (by omega), rfl, ext_of fun a q => Array.getElem?_push_lt q |>.trans (Array.getElem?_eq_getElem q).symm, ⟨?_, ⟨by simp [newA], kZ, z1, comp, kk⟩, by simp [newA]⟩, ⟨⟨kZ, comp, z1, kk, g4⟩, g1⟩, st⟩
  show (T.heap.push _)[T.heap.size]? = _
  simp [newA, defaultValue]
theorem own_gcls (X : Stand p l e R s m args below meth c T locs cells slots) (hx : p.tables.exec = Jvm.exec) (hZ : Z.Warmed39 s.vm) {own : String} {index : Nat} (hown : s.vm.findClass own = some m.cls)
    (w1 : (Cond.methodLink own index ⟨"java/lang/Object", "getClass", "()Ljava/lang/Class;"⟩).before a0 Z = true) (w2 : (Cond.declares ⟨"java/lang/Object", "getClass", "()Ljava/lang/Class;"⟩).before a0 Z = true) (w3 : (Cond.noSuperclass "java/lang/Object").before a0 Z = true) (w4 : (Cond.selects "[Ljava/lang/Object;" ⟨"java/lang/Object", "getClass", "()Ljava/lang/Class;"⟩ ⟨"java/lang/Object", "getClass", "()Ljava/lang/Class;"⟩).before a0 Z = true)
    (w5 : (Cond.instanceMethod ⟨"java/lang/Object", "getClass", "()Ljava/lang/Class;"⟩).before a0 Z = true) (w6 : (Cond.native ⟨"java/lang/Object", "getClass", "()Ljava/lang/Class;"⟩).before a0 Z = true) (eT : T.heap = h) {a mr : Addr} {k : ClassId} {ty : FieldType} {z : Int32} {vs : List Value} {dv : Value} (A : Arv Z h a k ty z vs dv) (O : OvO Z k) (M : MirM Z mr)
    {g : JFrame} (hg : g.method = m) (hsize : g.locals.size = c.maxLocals) {rest : List Value} (hs : g.stack = .ref a :: rest) (hd : decode c.code g.pc = .ok (.invokevirtual index, 3)) (hf : 1 ≤ R.frames) {W : Nat} (hW : 2 * g.monitorRoom + (rest.map fun v => v.category).sum ≤ W) (hl : W + (nativeFrameWords "java/lang/Object" "getClass" 1 + 11) ≤ R.locals) :
    ∃ T', Stand p l e R s m args below meth c T' locs cells slots ∧ T'.heap = h ∧ ∀ target, Steps p.tables e below (T'.setTop { g with pc := g.pc + 3, stack := .ref mr :: rest }) target → Steps p.tables e below (T.setTop g) target := by
  obtain ⟨cell, A1, A2, -⟩ := A
  obtain ⟨cc, kc, m1, m2, m3⟩ := M
  have ec : cc = k := Option.some.inj (m1.symm.trans O.2)
  subst ec
  obtain ⟨k', q, ek⟩ := hZ.alike.2.2 _ _ m2
  have hst : cell.vm.isStatics = false := by
    have := A1.2.1.1
    cases hv : cell.vm <;> first | rfl | exact absurd hv (this _)
  obtain ⟨vm', X', st⟩ := X.getClassOf hx hown (mvT hZ w1) (mvT hZ w2) (nf_top (args := #[]) (mvT hZ w3)) (mvT hZ w4) (mvT hZ w5) (mvT hZ w6) (by rw [hZ.alike.findClass]; exact m1) ⟨cell, by rw [eT]; exact A1.1, A2, hst⟩ q (by rw [ek]; exact m3) hg hsize hs hd hf (by omega)
  exact ⟨_, X', eT, st⟩
theorem own_ldcM (X : Stand p l e R s m args below meth c T locs cells slots) (hx : p.tables.exec = Jvm.exec) (hZ : Z.Warmed39 s.vm) {own : String} {index : Nat} (hown : s.vm.findClass own = some m.cls) (w : (Cond.classLink own index "[Ljava/lang/Object;").before a0 Z = true) (eT : T.heap = h) {mr : Addr} (M : MirM Z mr)
    {g : JFrame} (hg : g.method = m) (hd : decode c.code g.pc = .ok (.ldc index, 2)) :
    ∃ T', Stand p l e R s m args below meth c T' locs cells slots ∧ T'.heap = h ∧ ∀ target, Steps p.tables e below (T'.setTop { g with pc := g.pc + 2, stack := .ref mr :: g.stack }) target → Steps p.tables e below (T.setTop g) target := by
  obtain ⟨cc, kc, m1, m2, m3⟩ := M
  obtain ⟨k', q, ek⟩ := hZ.alike.2.2 _ _ m2
  have f1 : s.vm.findClass "[Ljava/lang/Object;" = some cc := by rw [hZ.alike.findClass]; exact m1
  have f3 : k'.mirror = some mr := by rw [ek]; exact m3
  obtain ⟨vm', X', st⟩ := X.ldcMirror hx hown (mv hZ w) (show (Term.mirror "[Ljava/lang/Object;").eval args s none [] s = some (.ref mr) by simp [Term.eval, f1, q, f3]) hg hd
  exact ⟨_, X', eT, st⟩
/-- a class of its own that is no interface -/
def OrdC (Z : State) (K : String) : Prop := ∃ (t : ClassId) (k : Class), Z.vm.findClass K = some t ∧ Z.vm.classes[t]? = some k ∧ k.kind = .ordinary ∧ k.isInterface = false
theorem own_ord {K : String} {n : Nat} (w : (Cond.instantiable K n).before a0 Z = true) : OrdC Z K := by
  obtain ⟨c, k, f1, f2, f3, f4, -⟩ := Cond.instantiable_spec w
  exact ⟨c, k, f1, f2, f3, by simpa using (Bool.or_eq_false_iff.mp f4).1⟩
theorem own_ordS {K S : String} (w : (Cond.superclass K S).before a0 Z = true) : OrdC Z K := by
  obtain ⟨c, f0⟩ := found_sup w
  obtain ⟨p, k, kp, f1, f2, f3, f4, f5, -, f7⟩ := Cond.superclass_spec f0 w
  exact ⟨c, k, f0, f2, f5, f7⟩
theorem own_nsRoot {O K : String} (w : (Cond.noSuperclass O).before a0 Z = true) (hk : OrdC Z K) (hn : O ≠ K) : NS Z O K := by
  obtain ⟨c, k, f1, f2, f3, -, -⟩ := Cond.noSuperclass_spec w
  obtain ⟨t, k', g1, -⟩ := hk
  have ne := ids_ne f1 g1 hn
  refine ⟨c, t, f1, g1, fun fuel => ?_⟩
  cases fuel with
  | zero => rfl
  | succ f => simp [Vm.isSubclassAux, ne, f2, f3]
theorem own_nsNo {C S K : String} (w : (Cond.superclass C S).before a0 Z = true) (hk : OrdC Z K) (n : NS Z C K) (hn : C ≠ K) : ∃ c t, Z.vm.findClass C = some c ∧ Z.vm.findClass K = some t ∧ Z.vm.assignable c t = false := by
  obtain ⟨c, t, f0, g0, n3⟩ := n
  obtain ⟨p, k, kp, f1, f2, f3, f4, f5, -, f7⟩ := Cond.superclass_spec f0 w
  obtain ⟨t', k', g1, g2, g3, g4⟩ := hk
  have et : t' = t := Option.some.inj (g1.symm.trans g0)
  subst et
  have ne := ids_ne f0 g1 hn
  refine ⟨c, t', f0, g1, ?_⟩
  show Z.vm.assignableAux (255 + 1) c t' = false
  simp [Vm.assignableAux, ne, f2, g2, f5, g3, g4, Vm.isSubclass, n3]
end OwnM
theorem own_neOld {Z : State} {n0 : Nat} {h : Heap} {x y : Addr} {C : String} (X : Old Z n0 h) (E : Exa Z Z.heap y C) (g : n0 ≤ x) : x ≠ y := fun e => by
  subst e
  exact absurd (Nat.lt_of_lt_of_le E.lt (Nat.le_trans (Nat.le_of_eq X.1) g)) (Nat.lt_irrefl _)
theorem own_eqI {s : State} {args : Array Value} {t : Term} {n : Int32} (h : (Cond.eq t (Term.int n)).value args s none s [] = some true) : t.eval args s none [] s = some (.int n) := by
  obtain ⟨x, y, e1, e2, k1, k2⟩ := cmp_v (Or.inl h)
  have e2' : (Term.int n).eval args s none [] s = some (.int n) := Term.int_eval n
  cases e2.symm.trans e2'
  obtain ⟨z, rfl⟩ := k2
  have := gotT (Cond.eq_ints e1 e2') h
  rw [e1, this]
theorem own_lenT {s : State} {args : Array Value} {t : Term} {a : Addr} {q : Cell} {ty : FieldType} {n : Int32} (ev : t.eval args s none [] s = some (.ref a)) (A : Arr s s.heap a q ty) (hl : (Cond.eq (Term.length t) (Term.int n)).value args s none s [] = some true) : q.slots.size < 2 ^ 31 ∧ q.slots.size.toInt32 = n := by
  have ha : s.arrayAt? a = some q := Arr.fin (Vm.Alike.refl _) A
  have e1 := own_eqI hl
  obtain ⟨b, cell, q1, q2, q4⟩ := Term.length_spec e1
  cases ev.symm.trans q1
  cases ha.symm.trans q2
  have q3 : q.slots.size < 2 ^ 31 := by
    have r := e1
    simp only [Term.eval, q1, q2, Option.bind_eq_bind, Option.bind_some] at r
    split at r
    · assumption
    · cases r
  exact ⟨q3, (Value.int.inj q4).symm⟩
theorem own_arv0 {s : State} {args : Array Value} {t : Term} {a : Addr} {q : Cell} (hf : Fit s) (ev : t.eval args s none [] s = some (.ref a)) (A : Arr s s.heap a q (.object "java/lang/Object")) (hl : (Cond.eq (Term.length t) (Term.int 0)).value args s none s [] = some true) : Arv s s.heap a q.cls (.object "java/lang/Object") (0 : Int32) [] .null := by
  obtain ⟨h1, h2⟩ := own_lenT ev A hl
  exact Arv.start hf A h1 h2 (by decide) rfl trivial
theorem own_cach {s : State} {args : Array Value} {t : Term} {a : Addr} {q : Cell} {C : String} (hf : Fit s) (ev : t.eval args s none [] s = some (.ref a)) (A : Arr s s.heap a q (.object C)) (hl : (Cond.eq (Term.length t) (Term.int 256)).value args s none s [] = some true) : OCach s a C := by
  obtain ⟨h1, h2⟩ := own_lenT ev A hl
  refine ⟨q, A, fun j hj => ?_⟩
  have S : q.slots.size = (256 : Int32).toNatClampNeg := by
    have e := len_toInt h1
    rw [h2] at e
    have e4 : (256 : Int32).toInt = 256 := rfl
    simp only [Int32.toNatClampNeg, e4] at e ⊢
    omega
  have hin := inb_of S hj
  obtain ⟨w, g1, g2⟩ := elem_fit hf A hin
  exact ⟨hin, w, g1, fit_R g2 rfl⟩
theorem Wd260 {Z a0} (hw : HW a0 Z) : ((Cond.instantiable zZ3 2)).before a0 Z = true := wAt hw (i := 260) rfl
theorem Wd99 {Z a0} (hw : HW a0 Z) : ((Cond.superclass "java/util/ArrayList" "java/util/AbstractList")).before a0 Z = true := wAt hw (i := 99) rfl
theorem Wd100 {Z a0} (hw : HW a0 Z) : ((Cond.superclass "java/util/AbstractList" zZ8)).before a0 Z = true := wAt hw (i := 100) rfl
theorem Wd101 {Z a0} (hw : HW a0 Z) : ((Cond.superclass zZ8 "java/lang/Object")).before a0 Z = true := wAt hw (i := 101) rfl
theorem Wd102 {Z a0} (hw : HW a0 Z) : ((Cond.noSuperclass "java/lang/Object")).before a0 Z = true := wAt hw (i := 102) rfl
theorem Wd137 {Z a0} (hw : HW a0 Z) : ((Cond.superclass zZ11 zZ15)).before a0 Z = true := wAt hw (i := 137) rfl
theorem ef0 (m : MethodId) (x0 : Addr) : entryFrame m #[(.ref x0)] 1 = mkF m 0 #[.val (.ref x0)] [] := by first | (simp [entryFrame, mkF, argsToLocals, Value.category]; done) | rfl
theorem pn0 : plainName "java/lang/Record" = true := by first | (simp [plainName, overriddenIn]; done) | decide +kernel
theorem d17_0 : decode kQ0 0 = .ok (.aload_n 0, 1) := by decide +kernel
theorem Wd89 {Z a0} (hw : HW a0 Z) : ((Cond.methodLink "java/lang/Record" 1 ⟨"java/lang/Object", "<init>", "()V"⟩)).before a0 Z = true := wAt hw (i := 89) rfl
theorem Wd19 {Z a0} (hw : HW a0 Z) : ((Cond.instanceMethod ⟨"java/lang/Object", "<init>", "()V"⟩)).before a0 Z = true := wAt hw (i := 19) rfl
theorem Wd20 {Z a0} (hw : HW a0 Z) : ((Cond.code ⟨"java/lang/Object", "<init>", "()V"⟩ object_method_1_code 1 (Option.none : Option Jvm.ClassFile.FieldType))).before a0 Z = true := wAt hw (i := 20) rfl
theorem d17_1 : decode kQ0 1 = .ok (.invokespecial 1, 3) := by decide +kernel
theorem d17_4 : decode kQ0 4 = .ok (.return_, 1) := by decide +kernel
theorem pn1 : plainName "java/lang/Number" = true := by first | (simp [plainName, overriddenIn]; done) | decide +kernel
theorem d53_0 : decode kQ1 0 = .ok (.aload_n 0, 1) := by decide +kernel
theorem Wd347 {Z a0} (hw : HW a0 Z) : ((Cond.methodLink "java/lang/Number" 1 ⟨"java/lang/Object", "<init>", "()V"⟩)).before a0 Z = true := wAt hw (i := 347) rfl
theorem d53_1 : decode kQ1 1 = .ok (.invokespecial 1, 3) := by decide +kernel
theorem d53_4 : decode kQ1 4 = .ok (.return_, 1) := by decide +kernel
theorem ef1 (m : MethodId) (x0 : Addr) (x1 : Int32) : entryFrame m #[(.ref x0), (.int x1)] 2 = mkF m 0 #[.val (.ref x0), .val (.int x1)] [] := by first | (simp [entryFrame, mkF, argsToLocals, Value.category]; done) | rfl
theorem pn2 : plainName "java/lang/Integer" = true := by first | (simp [plainName, overriddenIn]; done) | decide +kernel
theorem d52_0 : decode kQ2 0 = .ok (.aload_n 0, 1) := by decide +kernel
theorem Wd341 {Z a0} (hw : HW a0 Z) : ((Cond.methodLink "java/lang/Integer" 202 ⟨"java/lang/Number", "<init>", "()V"⟩)).before a0 Z = true := wAt hw (i := 341) rfl
theorem Wd346 {Z a0} (hw : HW a0 Z) : ((Cond.code ⟨"java/lang/Number", "<init>", "()V"⟩ kQ1 1 (Option.none : Option Jvm.ClassFile.FieldType))).before a0 Z = true := wAt hw (i := 346) rfl
theorem Wd345 {Z a0} (hw : HW a0 Z) : ((Cond.initialized "java/lang/Number")).before a0 Z = true := wAt hw (i := 345) rfl
theorem pd0 : parseMethodDescriptor "()V" = some ⟨[], none⟩ := by decide +kernel
theorem d52_1 : decode kQ2 1 = .ok (.invokespecial 202, 3) := by decide +kernel
theorem Wd342 {Z a0} (hw : HW a0 Z) : ((Cond.instanceMethod ⟨"java/lang/Number", "<init>", "()V"⟩)).before a0 Z = true := wAt hw (i := 342) rfl
theorem d52_4 : decode kQ2 4 = .ok (.aload_n 0, 1) := by decide +kernel
theorem d52_5 : decode kQ2 5 = .ok (.iload_n 1, 1) := by decide +kernel
theorem d52_6 : decode kQ2 6 = .ok (.putfield 205, 3) := by decide +kernel
theorem Wd348 {Z a0} (hw : HW a0 Z) : ((Cond.fieldLink "java/lang/Integer" 205 "java/lang/Integer" "value" "I")).before a0 Z = true := wAt hw (i := 348) rfl
theorem Wd349 {Z a0} (hw : HW a0 Z) : ((Cond.laysFinal "java/lang/Integer" "java/lang/Integer" "value" "I")).before a0 Z = true := wAt hw (i := 349) rfl
theorem Wd336 {Z a0} (hw : HW a0 Z) : ((Cond.instantiable "java/lang/Integer" 1)).before a0 Z = true := wAt hw (i := 336) rfl
theorem d52_9 : decode kQ2 9 = .ok (.return_, 1) := by decide +kernel
theorem ef2 (m : MethodId) (x0 : Int32) : entryFrame m #[(.int x0)] 1 = mkF m 0 #[.val (.int x0)] [] := by first | (simp [entryFrame, mkF, argsToLocals, Value.category]; done) | rfl
theorem d35_0 : decode kQ3 0 = .ok (.iload_n 0, 1) := by decide +kernel
theorem d35_1 : decode kQ3 1 = .ok (.bipush (-128), 2) := by decide +kernel
theorem d35_3 : decode kQ3 3 = .ok (.if_icmp .lt 20, 3) := by decide +kernel
theorem d35_23 : decode kQ3 23 = .ok (.new 1, 3) := by decide +kernel
theorem Wd335 {Z a0} (hw : HW a0 Z) : ((Cond.classLink "java/lang/Integer" 1 "java/lang/Integer")).before a0 Z = true := wAt hw (i := 335) rfl
theorem Wd221 {Z a0} (hw : HW a0 Z) : ((Cond.initialized "java/lang/Integer")).before a0 Z = true := wAt hw (i := 221) rfl
theorem d35_26 : decode kQ3 26 = .ok (.dup, 1) := by decide +kernel
theorem d35_27 : decode kQ3 27 = .ok (.iload_n 0, 1) := by decide +kernel
theorem Wd337 {Z a0} (hw : HW a0 Z) : ((Cond.methodLink "java/lang/Integer" 199 ⟨"java/lang/Integer", "<init>", "(I)V"⟩)).before a0 Z = true := wAt hw (i := 337) rfl
theorem Wd340 {Z a0} (hw : HW a0 Z) : ((Cond.code ⟨"java/lang/Integer", "<init>", "(I)V"⟩ kQ2 2 (Option.none : Option Jvm.ClassFile.FieldType))).before a0 Z = true := wAt hw (i := 340) rfl
theorem pd1 : parseMethodDescriptor "(I)V" = some ⟨[.int], none⟩ := by decide +kernel
theorem d35_28 : decode kQ3 28 = .ok (.invokespecial 199, 3) := by decide +kernel
theorem Wd338 {Z a0} (hw : HW a0 Z) : ((Cond.instanceMethod ⟨"java/lang/Integer", "<init>", "(I)V"⟩)).before a0 Z = true := wAt hw (i := 338) rfl
theorem d35_31 : decode kQ3 31 = .ok (.areturn, 1) := by decide +kernel
theorem d35_6 : decode kQ3 6 = .ok (.iload_n 0, 1) := by decide +kernel
theorem d35_7 : decode kQ3 7 = .ok (.getstatic 191, 3) := by decide +kernel
theorem Wd223 {Z a0} (hw : HW a0 Z) : ((Cond.fieldLink "java/lang/Integer" 191 zZ20 "high" "I")).before a0 Z = true := wAt hw (i := 223) rfl
theorem d35_10 : decode kQ3 10 = .ok (.if_icmp .gt 13, 3) := by decide +kernel
theorem d35_13 : decode kQ3 13 = .ok (.getstatic 195, 3) := by decide +kernel
theorem Wd225 {Z a0} (hw : HW a0 Z) : ((Cond.fieldLink "java/lang/Integer" 195 zZ20 "cache" "[Ljava/lang/Integer;")).before a0 Z = true := wAt hw (i := 225) rfl
theorem d35_16 : decode kQ3 16 = .ok (.iload_n 0, 1) := by decide +kernel
theorem d35_17 : decode kQ3 17 = .ok (.sipush 128, 3) := by decide +kernel
theorem d35_20 : decode kQ3 20 = .ok (.iadd, 1) := by decide +kernel
theorem d35_21 : decode kQ3 21 = .ok (.aaload, 1) := by decide +kernel
theorem d35_22 : decode kQ3 22 = .ok (.areturn, 1) := by decide +kernel
theorem pn3 : plainName "java/util/AbstractCollection" = true := by first | (simp [plainName, overriddenIn]; done) | decide +kernel
theorem d14_0 : decode kQ4 0 = .ok (.aload_n 0, 1) := by decide +kernel
theorem Wd69 {Z a0} (hw : HW a0 Z) : ((Cond.methodLink zZ8 1 ⟨"java/lang/Object", "<init>", "()V"⟩)).before a0 Z = true := wAt hw (i := 69) rfl
theorem d14_1 : decode kQ4 1 = .ok (.invokespecial 1, 3) := by decide +kernel
theorem d14_4 : decode kQ4 4 = .ok (.return_, 1) := by decide +kernel
theorem pn4 : plainName "java/util/AbstractList" = true := by first | (simp [plainName, overriddenIn]; done) | decide +kernel
theorem d13_0 : decode kQ5 0 = .ok (.aload_n 0, 1) := by decide +kernel
theorem Wd63 {Z a0} (hw : HW a0 Z) : ((Cond.methodLink "java/util/AbstractList" 1 ⟨zZ8, "<init>", "()V"⟩)).before a0 Z = true := wAt hw (i := 63) rfl
theorem Wd68 {Z a0} (hw : HW a0 Z) : ((Cond.code ⟨zZ8, "<init>", "()V"⟩ kQ4 1 (Option.none : Option Jvm.ClassFile.FieldType))).before a0 Z = true := wAt hw (i := 68) rfl
theorem Wd67 {Z a0} (hw : HW a0 Z) : ((Cond.initialized zZ8)).before a0 Z = true := wAt hw (i := 67) rfl
theorem d13_1 : decode kQ5 1 = .ok (.invokespecial 1, 3) := by decide +kernel
theorem Wd64 {Z a0} (hw : HW a0 Z) : ((Cond.instanceMethod ⟨zZ8, "<init>", "()V"⟩)).before a0 Z = true := wAt hw (i := 64) rfl
theorem d13_4 : decode kQ5 4 = .ok (.aload_n 0, 1) := by decide +kernel
theorem d13_5 : decode kQ5 5 = .ok (.iconst 0, 1) := by decide +kernel
theorem d13_6 : decode kQ5 6 = .ok (.putfield 7, 3) := by decide +kernel
theorem Wd70 {Z a0} (hw : HW a0 Z) : ((Cond.fieldLink "java/util/AbstractList" 7 "java/util/AbstractList" "modCount" "I")).before a0 Z = true := wAt hw (i := 70) rfl
theorem Wd71 {Z a0} (hw : HW a0 Z) : ((Cond.lays "java/util/ArrayList" "java/util/AbstractList" "modCount" "I")).before a0 Z = true := wAt hw (i := 71) rfl
theorem Wd52 {Z a0} (hw : HW a0 Z) : ((Cond.instantiable "java/util/ArrayList" 3)).before a0 Z = true := wAt hw (i := 52) rfl
theorem Wd74 {Z a0} (hw : HW a0 Z) : ((Cond.lays "java/util/ArrayList" "java/util/ArrayList" "elementData" "[Ljava/lang/Object;")).before a0 Z = true := wAt hw (i := 74) rfl
theorem Wd114 {Z a0} (hw : HW a0 Z) : ((Cond.lays "java/util/ArrayList" "java/util/ArrayList" "size" "I")).before a0 Z = true := wAt hw (i := 114) rfl
theorem d13_9 : decode kQ5 9 = .ok (.return_, 1) := by decide +kernel
theorem pn5 : plainName "java/util/ArrayList" = true := by first | (simp [plainName, overriddenIn]; done) | decide +kernel
theorem d12_0 : decode kQ6 0 = .ok (.aload_n 0, 1) := by decide +kernel
theorem Wd57 {Z a0} (hw : HW a0 Z) : ((Cond.methodLink "java/util/ArrayList" 1 ⟨"java/util/AbstractList", "<init>", "()V"⟩)).before a0 Z = true := wAt hw (i := 57) rfl
theorem Wd62 {Z a0} (hw : HW a0 Z) : ((Cond.code ⟨"java/util/AbstractList", "<init>", "()V"⟩ kQ5 1 (Option.none : Option Jvm.ClassFile.FieldType))).before a0 Z = true := wAt hw (i := 62) rfl
theorem Wd61 {Z a0} (hw : HW a0 Z) : ((Cond.initialized "java/util/AbstractList")).before a0 Z = true := wAt hw (i := 61) rfl
theorem d12_1 : decode kQ6 1 = .ok (.invokespecial 1, 3) := by decide +kernel
theorem Wd58 {Z a0} (hw : HW a0 Z) : ((Cond.instanceMethod ⟨"java/util/AbstractList", "<init>", "()V"⟩)).before a0 Z = true := wAt hw (i := 58) rfl
theorem d12_4 : decode kQ6 4 = .ok (.aload_n 0, 1) := by decide +kernel
theorem d12_5 : decode kQ6 5 = .ok (.getstatic 39, 3) := by decide +kernel
theorem Wd72 {Z a0} (hw : HW a0 Z) : ((Cond.fieldLink "java/util/ArrayList" 39 "java/util/ArrayList" zZ21 "[Ljava/lang/Object;")).before a0 Z = true := wAt hw (i := 72) rfl
theorem d12_8 : decode kQ6 8 = .ok (.putfield 9, 3) := by decide +kernel
theorem Wd73 {Z a0} (hw : HW a0 Z) : ((Cond.fieldLink "java/util/ArrayList" 9 "java/util/ArrayList" "elementData" "[Ljava/lang/Object;")).before a0 Z = true := wAt hw (i := 73) rfl
theorem d12_11 : decode kQ6 11 = .ok (.return_, 1) := by decide +kernel
theorem ef3 (m : MethodId) (x0 : Int32) (x1 : Int32) : entryFrame m #[(.int x0), (.int x1)] 2 = mkF m 0 #[.val (.int x0), .val (.int x1)] [] := by first | (simp [entryFrame, mkF, argsToLocals, Value.category]; done) | rfl
theorem d34_0 : decode kQ7 0 = .ok (.iload_n 0, 1) := by decide +kernel
theorem d34_1 : decode kQ7 1 = .ok (.iload_n 1, 1) := by decide +kernel
theorem d34_2 : decode kQ7 2 = .ok (.if_icmp .lt 7, 3) := by decide +kernel
theorem d34_9 : decode kQ7 9 = .ok (.iload_n 1, 1) := by decide +kernel
theorem d34_5 : decode kQ7 5 = .ok (.iload_n 0, 1) := by decide +kernel
theorem d34_6 : decode kQ7 6 = .ok (.goto 4, 3) := by decide +kernel
theorem d34_10 : decode kQ7 10 = .ok (.ireturn, 1) := by decide +kernel
theorem ef4 (m : MethodId) (x0 : Addr) (x1 : Int32) : entryFrame m #[(.ref x0), (.int x1)] 4 = mkF m 0 #[.val (.ref x0), .val (.int x1), .unset, .unset] [] := by first | (simp [entryFrame, mkF, argsToLocals, Value.category]; done) | rfl
theorem d33_0 : decode kQ8 0 = .ok (.aload_n 0, 1) := by decide +kernel
theorem d33_1 : decode kQ8 1 = .ok (.getfield 9, 3) := by decide +kernel
theorem d33_4 : decode kQ8 4 = .ok (.arraylength, 1) := by decide +kernel
theorem d33_5 : decode kQ8 5 = .ok (.istore_n 2, 1) := by decide +kernel
theorem d33_6 : decode kQ8 6 = .ok (.iload_n 2, 1) := by decide +kernel
theorem d33_7 : decode kQ8 7 = .ok (.ifCond .gt 13, 3) := by decide +kernel
theorem d33_10 : decode kQ8 10 = .ok (.aload_n 0, 1) := by decide +kernel
theorem d33_11 : decode kQ8 11 = .ok (.getfield 9, 3) := by decide +kernel
theorem d33_14 : decode kQ8 14 = .ok (.getstatic 39, 3) := by decide +kernel
theorem d33_17 : decode kQ8 17 = .ok (.if_acmp .eq 28, 3) := by decide +kernel
theorem d33_45 : decode kQ8 45 = .ok (.aload_n 0, 1) := by decide +kernel
theorem d33_46 : decode kQ8 46 = .ok (.bipush 10, 2) := by decide +kernel
theorem d33_48 : decode kQ8 48 = .ok (.iload_n 1, 1) := by decide +kernel
theorem Wd212 {Z a0} (hw : HW a0 Z) : ((Cond.methodLink "java/util/ArrayList" 79 ⟨"java/lang/Math", "max", "(II)I"⟩)).before a0 Z = true := wAt hw (i := 212) rfl
theorem Wd215 {Z a0} (hw : HW a0 Z) : ((Cond.code ⟨"java/lang/Math", "max", "(II)I"⟩ kQ7 2 (Option.some FieldType.int))).before a0 Z = true := wAt hw (i := 215) rfl
theorem Wd214 {Z a0} (hw : HW a0 Z) : ((Cond.initialized "java/lang/Math")).before a0 Z = true := wAt hw (i := 214) rfl
theorem pd2 : parseMethodDescriptor "(II)I" = some ⟨[.int, .int], some .int⟩ := by decide +kernel
theorem d33_49 : decode kQ8 49 = .ok (.invokestatic 79, 3) := by decide +kernel
theorem Wd213 {Z a0} (hw : HW a0 Z) : ((Cond.static ⟨"java/lang/Math", "max", "(II)I"⟩)).before a0 Z = true := wAt hw (i := 213) rfl
theorem d33_52 : decode kQ8 52 = .ok (.anewarray 7, 3) := by decide +kernel
theorem Wd216 {Z a0} (hw : HW a0 Z) : ((Cond.classLink "java/util/ArrayList" 7 "java/lang/Object")).before a0 Z = true := wAt hw (i := 216) rfl
theorem Wd217 {Z a0} (hw : HW a0 Z) : ((Cond.arrayOver (FieldType.object "java/lang/Object"))).before a0 Z = true := wAt hw (i := 217) rfl
theorem d33_55 : decode kQ8 55 = .ok (.dup_x1, 1) := by decide +kernel
theorem d33_56 : decode kQ8 56 = .ok (.putfield 9, 3) := by decide +kernel
theorem d33_59 : decode kQ8 59 = .ok (.areturn, 1) := by decide +kernel
theorem d32_0 : decode kQ9 0 = .ok (.aload_n 0, 1) := by decide +kernel
theorem d32_1 : decode kQ9 1 = .ok (.aload_n 0, 1) := by decide +kernel
theorem d32_2 : decode kQ9 2 = .ok (.getfield 48, 3) := by decide +kernel
theorem Wd113 {Z a0} (hw : HW a0 Z) : ((Cond.fieldLink "java/util/ArrayList" 48 "java/util/ArrayList" "size" "I")).before a0 Z = true := wAt hw (i := 113) rfl
theorem d32_5 : decode kQ9 5 = .ok (.iconst 1, 1) := by decide +kernel
theorem d32_6 : decode kQ9 6 = .ok (.iadd, 1) := by decide +kernel
theorem Wd207 {Z a0} (hw : HW a0 Z) : ((Cond.methodLink "java/util/ArrayList" 69 ⟨"java/util/ArrayList", "grow", "(I)[Ljava/lang/Object;"⟩)).before a0 Z = true := wAt hw (i := 207) rfl
theorem Wd211 {Z a0} (hw : HW a0 Z) : ((Cond.code ⟨"java/util/ArrayList", "grow", "(I)[Ljava/lang/Object;"⟩ kQ8 4 (Option.some (FieldType.array (FieldType.object "java/lang/Object"))))).before a0 Z = true := wAt hw (i := 211) rfl
theorem Wd53 {Z a0} (hw : HW a0 Z) : ((Cond.initialized "java/util/ArrayList")).before a0 Z = true := wAt hw (i := 53) rfl
theorem pd3 : parseMethodDescriptor "(I)[Ljava/lang/Object;" = some ⟨[.int], some (.array (.object "java/lang/Object"))⟩ := by decide +kernel
theorem d32_7 : decode kQ9 7 = .ok (.invokevirtual 69, 3) := by decide +kernel
theorem Wd208 {Z a0} (hw : HW a0 Z) : ((Cond.instanceMethod ⟨"java/util/ArrayList", "grow", "(I)[Ljava/lang/Object;"⟩)).before a0 Z = true := wAt hw (i := 208) rfl
theorem Wd210 {Z a0} (hw : HW a0 Z) : ((Cond.selects "java/util/ArrayList" ⟨"java/util/ArrayList", "grow", "(I)[Ljava/lang/Object;"⟩ ⟨"java/util/ArrayList", "grow", "(I)[Ljava/lang/Object;"⟩)).before a0 Z = true := wAt hw (i := 210) rfl
theorem Wd209 {Z a0} (hw : HW a0 Z) : ((Cond.privateMethod ⟨"java/util/ArrayList", "grow", "(I)[Ljava/lang/Object;"⟩)).before a0 Z = true := wAt hw (i := 209) rfl
theorem d32_10 : decode kQ9 10 = .ok (.areturn, 1) := by decide +kernel
theorem ef5 (m : MethodId) (x0 : Addr) (x1 : Addr) (x2 : Addr) (x3 : Int32) : entryFrame m #[(.ref x0), (.ref x1), (.ref x2), (.int x3)] 4 = mkF m 0 #[.val (.ref x0), .val (.ref x1), .val (.ref x2), .val (.int x3)] [] := by first | (simp [entryFrame, mkF, argsToLocals, Value.category]; done) | rfl
theorem d31_0 : decode kQ10 0 = .ok (.iload_n 3, 1) := by decide +kernel
theorem d31_1 : decode kQ10 1 = .ok (.aload_n 2, 1) := by decide +kernel
theorem d31_2 : decode kQ10 2 = .ok (.arraylength, 1) := by decide +kernel
theorem d31_3 : decode kQ10 3 = .ok (.if_icmp .ne 8, 3) := by decide +kernel
theorem d31_6 : decode kQ10 6 = .ok (.aload_n 0, 1) := by decide +kernel
theorem Wd202 {Z a0} (hw : HW a0 Z) : ((Cond.methodLink "java/util/ArrayList" 129 ⟨"java/util/ArrayList", "grow", "()[Ljava/lang/Object;"⟩)).before a0 Z = true := wAt hw (i := 202) rfl
theorem Wd206 {Z a0} (hw : HW a0 Z) : ((Cond.code ⟨"java/util/ArrayList", "grow", "()[Ljava/lang/Object;"⟩ kQ9 1 (Option.some (FieldType.array (FieldType.object "java/lang/Object"))))).before a0 Z = true := wAt hw (i := 206) rfl
theorem pd4 : parseMethodDescriptor "()[Ljava/lang/Object;" = some ⟨[], some (.array (.object "java/lang/Object"))⟩ := by decide +kernel
theorem d31_7 : decode kQ10 7 = .ok (.invokevirtual 129, 3) := by decide +kernel
theorem Wd203 {Z a0} (hw : HW a0 Z) : ((Cond.instanceMethod ⟨"java/util/ArrayList", "grow", "()[Ljava/lang/Object;"⟩)).before a0 Z = true := wAt hw (i := 203) rfl
theorem Wd205 {Z a0} (hw : HW a0 Z) : ((Cond.selects "java/util/ArrayList" ⟨"java/util/ArrayList", "grow", "()[Ljava/lang/Object;"⟩ ⟨"java/util/ArrayList", "grow", "()[Ljava/lang/Object;"⟩)).before a0 Z = true := wAt hw (i := 205) rfl
theorem Wd204 {Z a0} (hw : HW a0 Z) : ((Cond.privateMethod ⟨"java/util/ArrayList", "grow", "()[Ljava/lang/Object;"⟩)).before a0 Z = true := wAt hw (i := 204) rfl
theorem d31_10 : decode kQ10 10 = .ok (.astore_n 2, 1) := by decide +kernel
theorem d31_11 : decode kQ10 11 = .ok (.aload_n 2, 1) := by decide +kernel
theorem d31_12 : decode kQ10 12 = .ok (.iload_n 3, 1) := by decide +kernel
theorem d31_13 : decode kQ10 13 = .ok (.aload_n 1, 1) := by decide +kernel
theorem d31_14 : decode kQ10 14 = .ok (.aastore, 1) := by decide +kernel
theorem Wd218 {Z a0} (hw : HW a0 Z) : ((Cond.castable "java/lang/String" "java/lang/Object")).before a0 Z = true := wAt hw (i := 218) rfl
theorem d31_15 : decode kQ10 15 = .ok (.aload_n 0, 1) := by decide +kernel
theorem d31_16 : decode kQ10 16 = .ok (.iload_n 3, 1) := by decide +kernel
theorem d31_17 : decode kQ10 17 = .ok (.iconst 1, 1) := by decide +kernel
theorem d31_18 : decode kQ10 18 = .ok (.iadd, 1) := by decide +kernel
theorem d31_19 : decode kQ10 19 = .ok (.putfield 48, 3) := by decide +kernel
theorem d31_22 : decode kQ10 22 = .ok (.return_, 1) := by decide +kernel
theorem ef6 (m : MethodId) (x0 : Addr) (x1 : Addr) : entryFrame m #[(.ref x0), (.ref x1)] 2 = mkF m 0 #[.val (.ref x0), .val (.ref x1)] [] := by first | (simp [entryFrame, mkF, argsToLocals, Value.category]; done) | rfl
theorem d30_0 : decode kQ11 0 = .ok (.aload_n 0, 1) := by decide +kernel
theorem d30_1 : decode kQ11 1 = .ok (.dup, 1) := by decide +kernel
theorem d30_2 : decode kQ11 2 = .ok (.getfield 63, 3) := by decide +kernel
theorem Wd195 {Z a0} (hw : HW a0 Z) : ((Cond.fieldLink "java/util/ArrayList" 63 "java/util/ArrayList" "modCount" "I")).before a0 Z = true := wAt hw (i := 195) rfl
theorem Wd196 {Z a0} (hw : HW a0 Z) : ((Cond.sameField "java/util/ArrayList" "java/util/AbstractList" "modCount" "I")).before a0 Z = true := wAt hw (i := 196) rfl
theorem d30_5 : decode kQ11 5 = .ok (.iconst 1, 1) := by decide +kernel
theorem d30_6 : decode kQ11 6 = .ok (.iadd, 1) := by decide +kernel
theorem d30_7 : decode kQ11 7 = .ok (.putfield 63, 3) := by decide +kernel
theorem d30_10 : decode kQ11 10 = .ok (.aload_n 0, 1) := by decide +kernel
theorem d30_11 : decode kQ11 11 = .ok (.aload_n 1, 1) := by decide +kernel
theorem d30_12 : decode kQ11 12 = .ok (.aload_n 0, 1) := by decide +kernel
theorem d30_13 : decode kQ11 13 = .ok (.getfield 9, 3) := by decide +kernel
theorem d30_16 : decode kQ11 16 = .ok (.aload_n 0, 1) := by decide +kernel
theorem d30_17 : decode kQ11 17 = .ok (.getfield 48, 3) := by decide +kernel
theorem Wd197 {Z a0} (hw : HW a0 Z) : ((Cond.methodLink "java/util/ArrayList" 131 ⟨"java/util/ArrayList", "add", zZ13⟩)).before a0 Z = true := wAt hw (i := 197) rfl
theorem Wd201 {Z a0} (hw : HW a0 Z) : ((Cond.code ⟨"java/util/ArrayList", "add", zZ13⟩ kQ10 4 (Option.none : Option Jvm.ClassFile.FieldType))).before a0 Z = true := wAt hw (i := 201) rfl
theorem pd5 : parseMethodDescriptor "(Ljava/lang/Object;[Ljava/lang/Object;I)V" = some ⟨[(.object "java/lang/Object"), (.array (.object "java/lang/Object")), .int], none⟩ := by decide +kernel
theorem d30_20 : decode kQ11 20 = .ok (.invokevirtual 131, 3) := by decide +kernel
theorem Wd198 {Z a0} (hw : HW a0 Z) : ((Cond.instanceMethod ⟨"java/util/ArrayList", "add", zZ13⟩)).before a0 Z = true := wAt hw (i := 198) rfl
theorem Wd200 {Z a0} (hw : HW a0 Z) : ((Cond.selects "java/util/ArrayList" ⟨"java/util/ArrayList", "add", zZ13⟩ ⟨"java/util/ArrayList", "add", zZ13⟩)).before a0 Z = true := wAt hw (i := 200) rfl
theorem Wd199 {Z a0} (hw : HW a0 Z) : ((Cond.privateMethod ⟨"java/util/ArrayList", "add", zZ13⟩)).before a0 Z = true := wAt hw (i := 199) rfl
theorem d30_23 : decode kQ11 23 = .ok (.iconst 1, 1) := by decide +kernel
theorem d30_24 : decode kQ11 24 = .ok (.ireturn, 1) := by decide +kernel
theorem pn6 : plainName "java/lang/StringLatin1" = true := by first | (simp [plainName, overriddenIn]; done) | decide +kernel
theorem d9_0 : decode kQ12 0 = .ok (.iload_n 0, 1) := by decide +kernel
theorem d9_1 : decode kQ12 1 = .ok (.sipush 255, 3) := by decide +kernel
theorem d9_4 : decode kQ12 4 = .ok (.if_icmp .gt 7, 3) := by decide +kernel
theorem d9_7 : decode kQ12 7 = .ok (.iconst 1, 1) := by decide +kernel
theorem d9_8 : decode kQ12 8 = .ok (.goto 4, 3) := by decide +kernel
theorem d9_12 : decode kQ12 12 = .ok (.ireturn, 1) := by decide +kernel
theorem d10_0 : decode kQ13 0 = .ok (.iconst 1, 1) := by decide +kernel
theorem d10_1 : decode kQ13 1 = .ok (.newarray .byte, 2) := by decide +kernel
theorem Wd26 {Z a0} (hw : HW a0 Z) : ((Cond.arrayClass FieldType.byte)).before a0 Z = true := wAt hw (i := 26) rfl
theorem d10_3 : decode kQ13 3 = .ok (.dup, 1) := by decide +kernel
theorem d10_4 : decode kQ13 4 = .ok (.iconst 0, 1) := by decide +kernel
theorem d10_5 : decode kQ13 5 = .ok (.iload_n 0, 1) := by decide +kernel
theorem d10_6 : decode kQ13 6 = .ok (.i2b, 1) := by decide +kernel
theorem d10_7 : decode kQ13 7 = .ok (.bastore, 1) := by decide +kernel
theorem d10_8 : decode kQ13 8 = .ok (.areturn, 1) := by decide +kernel
theorem ef7 (m : MethodId) (x0 : Addr) (x1 : Addr) (x2 : Int32) : entryFrame m #[(.ref x0), (.ref x1), (.int x2)] 3 = mkF m 0 #[.val (.ref x0), .val (.ref x1), .val (.int x2)] [] := by first | (simp [entryFrame, mkF, argsToLocals, Value.category]; done) | rfl
theorem pn7 : plainName "java/lang/String" = true := by first | (simp [plainName, overriddenIn]; done) | decide +kernel
theorem d11_0 : decode kQ14 0 = .ok (.aload_n 0, 1) := by decide +kernel
theorem Wd18 {Z a0} (hw : HW a0 Z) : ((Cond.methodLink "java/lang/String" 1 ⟨"java/lang/Object", "<init>", "()V"⟩)).before a0 Z = true := wAt hw (i := 18) rfl
theorem d11_1 : decode kQ14 1 = .ok (.invokespecial 1, 3) := by decide +kernel
theorem d11_4 : decode kQ14 4 = .ok (.aload_n 0, 1) := by decide +kernel
theorem d11_5 : decode kQ14 5 = .ok (.aload_n 1, 1) := by decide +kernel
theorem d11_6 : decode kQ14 6 = .ok (.putfield 9, 3) := by decide +kernel
theorem Wd35 {Z a0} (hw : HW a0 Z) : ((Cond.fieldLink "java/lang/String" 9 "java/lang/String" "value" "[B")).before a0 Z = true := wAt hw (i := 35) rfl
theorem Wd36 {Z a0} (hw : HW a0 Z) : ((Cond.laysFinal "java/lang/String" "java/lang/String" "value" "[B")).before a0 Z = true := wAt hw (i := 36) rfl
theorem Wd8 {Z a0} (hw : HW a0 Z) : ((Cond.instantiable "java/lang/String" 4)).before a0 Z = true := wAt hw (i := 8) rfl
theorem d11_9 : decode kQ14 9 = .ok (.aload_n 0, 1) := by decide +kernel
theorem d11_10 : decode kQ14 10 = .ok (.iload_n 2, 1) := by decide +kernel
theorem d11_11 : decode kQ14 11 = .ok (.putfield 15, 3) := by decide +kernel
theorem Wd33 {Z a0} (hw : HW a0 Z) : ((Cond.fieldLink "java/lang/String" 15 "java/lang/String" "coder" "B")).before a0 Z = true := wAt hw (i := 33) rfl
theorem Wd34 {Z a0} (hw : HW a0 Z) : ((Cond.laysFinal "java/lang/String" "java/lang/String" "coder" "B")).before a0 Z = true := wAt hw (i := 34) rfl
theorem d11_14 : decode kQ14 14 = .ok (.return_, 1) := by decide +kernel
theorem d8_0 : decode kQ15 0 = .ok (.getstatic 38, 3) := by decide +kernel
theorem Wd21 {Z a0} (hw : HW a0 Z) : ((Cond.fieldLink "java/lang/String" 38 "java/lang/String" "COMPACT_STRINGS" "Z")).before a0 Z = true := wAt hw (i := 21) rfl
theorem d8_3 : decode kQ15 3 = .ok (.ifCond .eq 23, 3) := by decide +kernel
theorem d8_6 : decode kQ15 6 = .ok (.iload_n 0, 1) := by decide +kernel
theorem Wd40 {Z a0} (hw : HW a0 Z) : ((Cond.methodLink "java/lang/String" 1015 ⟨"java/lang/StringLatin1", "canEncode", "(C)Z"⟩)).before a0 Z = true := wAt hw (i := 40) rfl
theorem Wd43 {Z a0} (hw : HW a0 Z) : ((Cond.code ⟨"java/lang/StringLatin1", "canEncode", "(C)Z"⟩ kQ12 1 (Option.some FieldType.boolean))).before a0 Z = true := wAt hw (i := 43) rfl
theorem Wd42 {Z a0} (hw : HW a0 Z) : ((Cond.initialized "java/lang/StringLatin1")).before a0 Z = true := wAt hw (i := 42) rfl
theorem pd6 : parseMethodDescriptor "(C)Z" = some ⟨[.char], some .boolean⟩ := by decide +kernel
theorem d8_7 : decode kQ15 7 = .ok (.invokestatic 1015, 3) := by decide +kernel
theorem Wd41 {Z a0} (hw : HW a0 Z) : ((Cond.static ⟨"java/lang/StringLatin1", "canEncode", "(C)Z"⟩)).before a0 Z = true := wAt hw (i := 41) rfl
theorem d8_10 : decode kQ15 10 = .ok (.ifCond .eq 16, 3) := by decide +kernel
theorem d8_13 : decode kQ15 13 = .ok (.new 10, 3) := by decide +kernel
theorem Wd44 {Z a0} (hw : HW a0 Z) : ((Cond.classLink "java/lang/String" 10 "java/lang/String")).before a0 Z = true := wAt hw (i := 44) rfl
theorem Wd9 {Z a0} (hw : HW a0 Z) : ((Cond.initialized "java/lang/String")).before a0 Z = true := wAt hw (i := 9) rfl
theorem d8_16 : decode kQ15 16 = .ok (.dup, 1) := by decide +kernel
theorem d8_17 : decode kQ15 17 = .ok (.iload_n 0, 1) := by decide +kernel
theorem Wd45 {Z a0} (hw : HW a0 Z) : ((Cond.methodLink "java/lang/String" 1018 ⟨"java/lang/StringLatin1", "toBytes", "(C)[B"⟩)).before a0 Z = true := wAt hw (i := 45) rfl
theorem Wd47 {Z a0} (hw : HW a0 Z) : ((Cond.code ⟨"java/lang/StringLatin1", "toBytes", "(C)[B"⟩ kQ13 1 (Option.some (FieldType.array FieldType.byte)))).before a0 Z = true := wAt hw (i := 47) rfl
theorem pd7 : parseMethodDescriptor "(C)[B" = some ⟨[.char], some (.array .byte)⟩ := by decide +kernel
theorem d8_18 : decode kQ15 18 = .ok (.invokestatic 1018, 3) := by decide +kernel
theorem Wd46 {Z a0} (hw : HW a0 Z) : ((Cond.static ⟨"java/lang/StringLatin1", "toBytes", "(C)[B"⟩)).before a0 Z = true := wAt hw (i := 46) rfl
theorem d8_21 : decode kQ15 21 = .ok (.iconst 0, 1) := by decide +kernel
theorem Wd48 {Z a0} (hw : HW a0 Z) : ((Cond.methodLink "java/lang/String" 209 ⟨"java/lang/String", "<init>", "([BB)V"⟩)).before a0 Z = true := wAt hw (i := 48) rfl
theorem Wd50 {Z a0} (hw : HW a0 Z) : ((Cond.code ⟨"java/lang/String", "<init>", "([BB)V"⟩ kQ14 3 (Option.none : Option Jvm.ClassFile.FieldType))).before a0 Z = true := wAt hw (i := 50) rfl
theorem pd8 : parseMethodDescriptor "([BB)V" = some ⟨[(.array .byte), .byte], none⟩ := by decide +kernel
theorem d8_22 : decode kQ15 22 = .ok (.invokespecial 209, 3) := by decide +kernel
theorem Wd49 {Z a0} (hw : HW a0 Z) : ((Cond.instanceMethod ⟨"java/lang/String", "<init>", "([BB)V"⟩)).before a0 Z = true := wAt hw (i := 49) rfl
theorem d8_25 : decode kQ15 25 = .ok (.areturn, 1) := by decide +kernel
theorem pn8 : plainName "com/example/echo_panel/echopanel/channel/ChannelStateLostPinLaw" = true := by first | (simp [plainName, overriddenIn]; done) | decide +kernel
theorem d1_0 : decode method_2_code 0 = .ok (.iload_n 0, 1) := by decide +kernel
theorem d1_1 : decode method_2_code 1 = .ok (.ifCond .ne 7, 3) := by decide +kernel
theorem d1_4 : decode method_2_code 4 = .ok (.getstatic 7, 3) := by decide +kernel
theorem Wd4 {Z a0} (hw : HW a0 Z) : ((Cond.fieldLink zZ1 7 zZ23 "NO_ALARM" zZ24)).before a0 Z = true := wAt hw (i := 4) rfl
theorem d1_7 : decode method_2_code 7 = .ok (.areturn, 1) := by decide +kernel
theorem d1_8 : decode method_2_code 8 = .ok (.iload_n 0, 1) := by decide +kernel
theorem d1_9 : decode method_2_code 9 = .ok (.iconst 1, 1) := by decide +kernel
theorem d1_10 : decode method_2_code 10 = .ok (.if_icmp .ne 7, 3) := by decide +kernel
theorem d1_13 : decode method_2_code 13 = .ok (.getstatic 13, 3) := by decide +kernel
theorem Wd188 {Z a0} (hw : HW a0 Z) : ((Cond.fieldLink zZ1 13 zZ23 "MINOR" zZ24)).before a0 Z = true := wAt hw (i := 188) rfl
theorem d1_16 : decode method_2_code 16 = .ok (.areturn, 1) := by decide +kernel
theorem d1_17 : decode method_2_code 17 = .ok (.iload_n 0, 1) := by decide +kernel
theorem d1_18 : decode method_2_code 18 = .ok (.iconst 2, 1) := by decide +kernel
theorem d1_19 : decode method_2_code 19 = .ok (.if_icmp .ne 7, 3) := by decide +kernel
theorem d1_22 : decode method_2_code 22 = .ok (.getstatic 16, 3) := by decide +kernel
theorem Wd186 {Z a0} (hw : HW a0 Z) : ((Cond.fieldLink zZ1 16 zZ23 "MAJOR" zZ24)).before a0 Z = true := wAt hw (i := 186) rfl
theorem d1_25 : decode method_2_code 25 = .ok (.areturn, 1) := by decide +kernel
theorem d1_26 : decode method_2_code 26 = .ok (.iload_n 0, 1) := by decide +kernel
theorem d1_27 : decode method_2_code 27 = .ok (.iconst 3, 1) := by decide +kernel
theorem d1_28 : decode method_2_code 28 = .ok (.if_icmp .ne 7, 3) := by decide +kernel
theorem d1_31 : decode method_2_code 31 = .ok (.getstatic 19, 3) := by decide +kernel
theorem Wd333 {Z a0} (hw : HW a0 Z) : ((Cond.fieldLink zZ1 19 zZ23 "INVALID" zZ24)).before a0 Z = true := wAt hw (i := 333) rfl
theorem d1_34 : decode method_2_code 34 = .ok (.areturn, 1) := by decide +kernel
theorem d1_35 : decode method_2_code 35 = .ok (.aconst_null, 1) := by decide +kernel
theorem d1_36 : decode method_2_code 36 = .ok (.areturn, 1) := by decide +kernel
theorem d39_0 : decode kQ16 0 = .ok (.iload_n 0, 1) := by decide +kernel
theorem d39_1 : decode kQ16 1 = .ok (.iload_n 1, 1) := by decide +kernel
theorem d39_2 : decode kQ16 2 = .ok (.if_icmp .gt 7, 3) := by decide +kernel
theorem d39_9 : decode kQ16 9 = .ok (.iload_n 1, 1) := by decide +kernel
theorem d39_10 : decode kQ16 10 = .ok (.ireturn, 1) := by decide +kernel
theorem ef8 (m : MethodId) (x0 : Addr) (x1 : Int32) (x2 : Addr) : entryFrame m #[(.ref x0), (.int x1), (.ref x2)] 4 = mkF m 0 #[.val (.ref x0), .val (.int x1), .val (.ref x2), .unset] [] := by first | (simp [entryFrame, mkF, argsToLocals, Value.category]; done) | rfl
theorem pn9 : plainName "java/util/Arrays" = true := by first | (simp [plainName, overriddenIn]; done) | decide +kernel
theorem d38_0 : decode kQ17 0 = .ok (.aload_n 2, 1) := by decide +kernel
theorem Wd247 {Z a0} (hw : HW a0 Z) : ((Cond.classLink "java/util/Arrays" 110 "[Ljava/lang/Object;")).before a0 Z = true := wAt hw (i := 247) rfl
theorem d38_1 : decode kQ17 1 = .ok (.ldc 110, 2) := by decide +kernel
theorem d38_3 : decode kQ17 3 = .ok (.if_acmp .ne 10, 3) := by decide +kernel
theorem d38_6 : decode kQ17 6 = .ok (.iload_n 1, 1) := by decide +kernel
theorem d38_7 : decode kQ17 7 = .ok (.anewarray 2, 3) := by decide +kernel
theorem Wd248 {Z a0} (hw : HW a0 Z) : ((Cond.classLink "java/util/Arrays" 2 "java/lang/Object")).before a0 Z = true := wAt hw (i := 248) rfl
theorem d38_10 : decode kQ17 10 = .ok (.goto 14, 3) := by decide +kernel
theorem d38_24 : decode kQ17 24 = .ok (.astore_n 3, 1) := by decide +kernel
theorem d38_25 : decode kQ17 25 = .ok (.aload_n 0, 1) := by decide +kernel
theorem d38_26 : decode kQ17 26 = .ok (.iconst 0, 1) := by decide +kernel
theorem d38_27 : decode kQ17 27 = .ok (.aload_n 3, 1) := by decide +kernel
theorem d38_28 : decode kQ17 28 = .ok (.iconst 0, 1) := by decide +kernel
theorem d38_29 : decode kQ17 29 = .ok (.aload_n 0, 1) := by decide +kernel
theorem d38_30 : decode kQ17 30 = .ok (.arraylength, 1) := by decide +kernel
theorem d38_31 : decode kQ17 31 = .ok (.iload_n 1, 1) := by decide +kernel
theorem Wd249 {Z a0} (hw : HW a0 Z) : ((Cond.methodLink "java/util/Arrays" 304 ⟨"java/lang/Math", "min", "(II)I"⟩)).before a0 Z = true := wAt hw (i := 249) rfl
theorem Wd251 {Z a0} (hw : HW a0 Z) : ((Cond.code ⟨"java/lang/Math", "min", "(II)I"⟩ kQ16 2 (Option.some FieldType.int))).before a0 Z = true := wAt hw (i := 251) rfl
theorem d38_32 : decode kQ17 32 = .ok (.invokestatic 304, 3) := by decide +kernel
theorem Wd250 {Z a0} (hw : HW a0 Z) : ((Cond.static ⟨"java/lang/Math", "min", "(II)I"⟩)).before a0 Z = true := wAt hw (i := 250) rfl
theorem Wd252 {Z a0} (hw : HW a0 Z) : ((Cond.methodLink "java/util/Arrays" 150 ⟨"java/lang/System", "arraycopy", zZ27⟩)).before a0 Z = true := wAt hw (i := 252) rfl
theorem Wd255 {Z a0} (hw : HW a0 Z) : ((Cond.native ⟨"java/lang/System", "arraycopy", zZ27⟩)).before a0 Z = true := wAt hw (i := 255) rfl
theorem Wd253 {Z a0} (hw : HW a0 Z) : ((Cond.static ⟨"java/lang/System", "arraycopy", zZ27⟩)).before a0 Z = true := wAt hw (i := 253) rfl
theorem Wd254 {Z a0} (hw : HW a0 Z) : ((Cond.initialized "java/lang/System")).before a0 Z = true := wAt hw (i := 254) rfl
theorem d38_35 : decode kQ17 35 = .ok (.invokestatic 150, 3) := by decide +kernel
theorem d38_38 : decode kQ17 38 = .ok (.aload_n 3, 1) := by decide +kernel
theorem d38_39 : decode kQ17 39 = .ok (.areturn, 1) := by decide +kernel
theorem d37_0 : decode kQ18 0 = .ok (.aload_n 0, 1) := by decide +kernel
theorem d37_1 : decode kQ18 1 = .ok (.iload_n 1, 1) := by decide +kernel
theorem d37_2 : decode kQ18 2 = .ok (.aload_n 0, 1) := by decide +kernel
theorem Wd238 {Z a0} (hw : HW a0 Z) : ((Cond.methodLink "java/util/Arrays" 86 ⟨"java/lang/Object", "getClass", "()Ljava/lang/Class;"⟩)).before a0 Z = true := wAt hw (i := 238) rfl
theorem Wd239 {Z a0} (hw : HW a0 Z) : ((Cond.declares ⟨"java/lang/Object", "getClass", "()Ljava/lang/Class;"⟩)).before a0 Z = true := wAt hw (i := 239) rfl
theorem Wd241 {Z a0} (hw : HW a0 Z) : ((Cond.selects "[Ljava/lang/Object;" ⟨"java/lang/Object", "getClass", "()Ljava/lang/Class;"⟩ ⟨"java/lang/Object", "getClass", "()Ljava/lang/Class;"⟩)).before a0 Z = true := wAt hw (i := 241) rfl
theorem Wd240 {Z a0} (hw : HW a0 Z) : ((Cond.instanceMethod ⟨"java/lang/Object", "getClass", "()Ljava/lang/Class;"⟩)).before a0 Z = true := wAt hw (i := 240) rfl
theorem Wd242 {Z a0} (hw : HW a0 Z) : ((Cond.native ⟨"java/lang/Object", "getClass", "()Ljava/lang/Class;"⟩)).before a0 Z = true := wAt hw (i := 242) rfl
theorem d37_3 : decode kQ18 3 = .ok (.invokevirtual 86, 3) := by decide +kernel
theorem Wd244 {Z a0} (hw : HW a0 Z) : ((Cond.methodLink "java/util/Arrays" 300 ⟨"java/util/Arrays", "copyOf", zZ16⟩)).before a0 Z = true := wAt hw (i := 244) rfl
theorem Wd246 {Z a0} (hw : HW a0 Z) : ((Cond.code ⟨"java/util/Arrays", "copyOf", zZ16⟩ kQ17 4 (Option.some (FieldType.array (FieldType.object "java/lang/Object"))))).before a0 Z = true := wAt hw (i := 246) rfl
theorem Wd236 {Z a0} (hw : HW a0 Z) : ((Cond.initialized "java/util/Arrays")).before a0 Z = true := wAt hw (i := 236) rfl
theorem pd9 : parseMethodDescriptor "([Ljava/lang/Object;ILjava/lang/Class;)[Ljava/lang/Object;" = some ⟨[(.array (.object "java/lang/Object")), .int, (.object "java/lang/Class")], some (.array (.object "java/lang/Object"))⟩ := by decide +kernel
theorem d37_6 : decode kQ18 6 = .ok (.invokestatic 300, 3) := by decide +kernel
theorem Wd245 {Z a0} (hw : HW a0 Z) : ((Cond.static ⟨"java/util/Arrays", "copyOf", zZ16⟩)).before a0 Z = true := wAt hw (i := 245) rfl
theorem d37_9 : decode kQ18 9 = .ok (.areturn, 1) := by decide +kernel
theorem d36_0 : decode kQ19 0 = .ok (.aload_n 0, 1) := by decide +kernel
theorem d36_1 : decode kQ19 1 = .ok (.getfield 9, 3) := by decide +kernel
theorem d36_4 : decode kQ19 4 = .ok (.aload_n 0, 1) := by decide +kernel
theorem d36_5 : decode kQ19 5 = .ok (.getfield 48, 3) := by decide +kernel
theorem Wd234 {Z a0} (hw : HW a0 Z) : ((Cond.methodLink "java/util/ArrayList" 66 ⟨"java/util/Arrays", "copyOf", zZ17⟩)).before a0 Z = true := wAt hw (i := 234) rfl
theorem Wd237 {Z a0} (hw : HW a0 Z) : ((Cond.code ⟨"java/util/Arrays", "copyOf", zZ17⟩ kQ18 2 (Option.some (FieldType.array (FieldType.object "java/lang/Object"))))).before a0 Z = true := wAt hw (i := 237) rfl
theorem pd10 : parseMethodDescriptor "([Ljava/lang/Object;I)[Ljava/lang/Object;" = some ⟨[(.array (.object "java/lang/Object")), .int], some (.array (.object "java/lang/Object"))⟩ := by decide +kernel
theorem d36_8 : decode kQ19 8 = .ok (.invokestatic 66, 3) := by decide +kernel
theorem Wd235 {Z a0} (hw : HW a0 Z) : ((Cond.static ⟨"java/util/Arrays", "copyOf", zZ17⟩)).before a0 Z = true := wAt hw (i := 235) rfl
theorem d36_11 : decode kQ19 11 = .ok (.areturn, 1) := by decide +kernel
theorem d20_0 : decode kQ20 0 = .ok (.aload_n 0, 1) := by decide +kernel
theorem d20_1 : decode kQ20 1 = .ok (.getfield 48, 3) := by decide +kernel
theorem d20_4 : decode kQ20 4 = .ok (.ifCond .ne 7, 3) := by decide +kernel
theorem d20_7 : decode kQ20 7 = .ok (.iconst 1, 1) := by decide +kernel
theorem d20_8 : decode kQ20 8 = .ok (.goto 4, 3) := by decide +kernel
theorem d20_12 : decode kQ20 12 = .ok (.ireturn, 1) := by decide +kernel
theorem d20_11 : decode kQ20 11 = .ok (.iconst 0, 1) := by decide +kernel
theorem pn10 : plainName "java/util/ImmutableCollections$AbstractImmutableCollection" = true := by first | (simp [plainName, overriddenIn]; done) | decide +kernel
theorem d43_0 : decode kQ21 0 = .ok (.aload_n 0, 1) := by decide +kernel
theorem Wd278 {Z a0} (hw : HW a0 Z) : ((Cond.methodLink zZ18 1 ⟨zZ8, "<init>", "()V"⟩)).before a0 Z = true := wAt hw (i := 278) rfl
theorem d43_1 : decode kQ21 1 = .ok (.invokespecial 1, 3) := by decide +kernel
theorem d43_4 : decode kQ21 4 = .ok (.return_, 1) := by decide +kernel
theorem pn11 : plainName "java/util/ImmutableCollections$AbstractImmutableList" = true := by first | (simp [plainName, overriddenIn]; done) | decide +kernel
theorem d42_0 : decode kQ22 0 = .ok (.aload_n 0, 1) := by decide +kernel
theorem Wd272 {Z a0} (hw : HW a0 Z) : ((Cond.methodLink zZ15 1 ⟨zZ18, "<init>", "()V"⟩)).before a0 Z = true := wAt hw (i := 272) rfl
theorem Wd277 {Z a0} (hw : HW a0 Z) : ((Cond.code ⟨zZ18, "<init>", "()V"⟩ kQ21 1 (Option.none : Option Jvm.ClassFile.FieldType))).before a0 Z = true := wAt hw (i := 277) rfl
theorem Wd276 {Z a0} (hw : HW a0 Z) : ((Cond.initialized zZ18)).before a0 Z = true := wAt hw (i := 276) rfl
theorem d42_1 : decode kQ22 1 = .ok (.invokespecial 1, 3) := by decide +kernel
theorem Wd273 {Z a0} (hw : HW a0 Z) : ((Cond.instanceMethod ⟨zZ18, "<init>", "()V"⟩)).before a0 Z = true := wAt hw (i := 273) rfl
theorem d42_4 : decode kQ22 4 = .ok (.return_, 1) := by decide +kernel
theorem pn12 : plainName "java/util/Objects" = true := by first | (simp [plainName, overriddenIn]; done) | decide +kernel
theorem d44_0 : decode kQ23 0 = .ok (.aload_n 0, 1) := by decide +kernel
theorem d44_1 : decode kQ23 1 = .ok (.ifnonnull 11, 3) := by decide +kernel
theorem d44_12 : decode kQ23 12 = .ok (.aload_n 0, 1) := by decide +kernel
theorem d44_13 : decode kQ23 13 = .ok (.areturn, 1) := by decide +kernel
theorem pn13 : plainName "java/util/ImmutableCollections$List12" = true := by first | (simp [plainName, overriddenIn]; done) | decide +kernel
theorem d41_0 : decode kQ24 0 = .ok (.aload_n 0, 1) := by decide +kernel
theorem Wd266 {Z a0} (hw : HW a0 Z) : ((Cond.methodLink zZ3 1 ⟨zZ15, "<init>", "()V"⟩)).before a0 Z = true := wAt hw (i := 266) rfl
theorem Wd271 {Z a0} (hw : HW a0 Z) : ((Cond.code ⟨zZ15, "<init>", "()V"⟩ kQ22 1 (Option.none : Option Jvm.ClassFile.FieldType))).before a0 Z = true := wAt hw (i := 271) rfl
theorem Wd270 {Z a0} (hw : HW a0 Z) : ((Cond.initialized zZ15)).before a0 Z = true := wAt hw (i := 270) rfl
theorem d41_1 : decode kQ24 1 = .ok (.invokespecial 1, 3) := by decide +kernel
theorem Wd267 {Z a0} (hw : HW a0 Z) : ((Cond.instanceMethod ⟨zZ15, "<init>", "()V"⟩)).before a0 Z = true := wAt hw (i := 267) rfl
theorem d41_4 : decode kQ24 4 = .ok (.aload_n 0, 1) := by decide +kernel
theorem d41_5 : decode kQ24 5 = .ok (.aload_n 1, 1) := by decide +kernel
theorem Wd280 {Z a0} (hw : HW a0 Z) : ((Cond.methodLink zZ3 7 ⟨"java/util/Objects", "requireNonNull", zZ22⟩)).before a0 Z = true := wAt hw (i := 280) rfl
theorem Wd283 {Z a0} (hw : HW a0 Z) : ((Cond.code ⟨"java/util/Objects", "requireNonNull", zZ22⟩ kQ23 1 (Option.some (FieldType.object "java/lang/Object")))).before a0 Z = true := wAt hw (i := 283) rfl
theorem Wd282 {Z a0} (hw : HW a0 Z) : ((Cond.initialized "java/util/Objects")).before a0 Z = true := wAt hw (i := 282) rfl
theorem pd11 : parseMethodDescriptor "(Ljava/lang/Object;)Ljava/lang/Object;" = some ⟨[(.object "java/lang/Object")], some (.object "java/lang/Object")⟩ := by decide +kernel
theorem d41_6 : decode kQ24 6 = .ok (.invokestatic 7, 3) := by decide +kernel
theorem Wd281 {Z a0} (hw : HW a0 Z) : ((Cond.static ⟨"java/util/Objects", "requireNonNull", zZ22⟩)).before a0 Z = true := wAt hw (i := 281) rfl
theorem d41_9 : decode kQ24 9 = .ok (.putfield 13, 3) := by decide +kernel
theorem Wd284 {Z a0} (hw : HW a0 Z) : ((Cond.fieldLink zZ3 13 zZ3 "e0" "Ljava/lang/Object;")).before a0 Z = true := wAt hw (i := 284) rfl
theorem Wd285 {Z a0} (hw : HW a0 Z) : ((Cond.laysFinal zZ3 zZ3 "e0" "Ljava/lang/Object;")).before a0 Z = true := wAt hw (i := 285) rfl
theorem d41_12 : decode kQ24 12 = .ok (.aload_n 0, 1) := by decide +kernel
theorem d41_13 : decode kQ24 13 = .ok (.getstatic 19, 3) := by decide +kernel
theorem Wd286 {Z a0} (hw : HW a0 Z) : ((Cond.fieldLinkNest zZ3 19 zZ6 "EMPTY" "Ljava/lang/Object;" zZ6)).before a0 Z = true := wAt hw (i := 286) rfl
theorem d41_16 : decode kQ24 16 = .ok (.putfield 24, 3) := by decide +kernel
theorem Wd287 {Z a0} (hw : HW a0 Z) : ((Cond.fieldLink zZ3 24 zZ3 "e1" "Ljava/lang/Object;")).before a0 Z = true := wAt hw (i := 287) rfl
theorem Wd288 {Z a0} (hw : HW a0 Z) : ((Cond.laysFinal zZ3 zZ3 "e1" "Ljava/lang/Object;")).before a0 Z = true := wAt hw (i := 288) rfl
theorem d41_19 : decode kQ24 19 = .ok (.return_, 1) := by decide +kernel
theorem ef9 (m : MethodId) (x0 : Addr) (x1 : Addr) (x2 : Addr) : entryFrame m #[(.ref x0), (.ref x1), (.ref x2)] 3 = mkF m 0 #[.val (.ref x0), .val (.ref x1), .val (.ref x2)] [] := by first | (simp [entryFrame, mkF, argsToLocals, Value.category]; done) | rfl
theorem d49_0 : decode kQ25 0 = .ok (.aload_n 0, 1) := by decide +kernel
theorem d49_1 : decode kQ25 1 = .ok (.invokespecial 1, 3) := by decide +kernel
theorem d49_4 : decode kQ25 4 = .ok (.aload_n 0, 1) := by decide +kernel
theorem d49_5 : decode kQ25 5 = .ok (.aload_n 1, 1) := by decide +kernel
theorem d49_6 : decode kQ25 6 = .ok (.invokestatic 7, 3) := by decide +kernel
theorem d49_9 : decode kQ25 9 = .ok (.putfield 13, 3) := by decide +kernel
theorem d49_12 : decode kQ25 12 = .ok (.aload_n 0, 1) := by decide +kernel
theorem d49_13 : decode kQ25 13 = .ok (.aload_n 2, 1) := by decide +kernel
theorem d49_14 : decode kQ25 14 = .ok (.invokestatic 7, 3) := by decide +kernel
theorem d49_17 : decode kQ25 17 = .ok (.putfield 24, 3) := by decide +kernel
theorem d49_20 : decode kQ25 20 = .ok (.return_, 1) := by decide +kernel
theorem ef10 (m : MethodId) (x0 : Addr) : entryFrame m #[(.ref x0)] 2 = mkF m 0 #[.val (.ref x0), .unset] [] := by first | (simp [entryFrame, mkF, argsToLocals, Value.category]; done) | rfl
theorem pn14 : plainName "java/util/List" = true := by first | (simp [plainName, overriddenIn]; done) | decide +kernel
theorem d40_0 : decode kQ26 0 = .ok (.aload_n 0, 1) := by decide +kernel
theorem d40_1 : decode kQ26 1 = .ok (.arraylength, 1) := by decide +kernel
theorem d40_2 : decode kQ26 2 = .ok (.tableswitch 57 0 2 #[26, 32, 43], 26) := by decide +kernel
theorem d40_34 : decode kQ26 34 = .ok (.new 96, 3) := by decide +kernel
theorem Wd259 {Z a0} (hw : HW a0 Z) : ((Cond.classLink "java/util/List" 96 zZ3)).before a0 Z = true := wAt hw (i := 259) rfl
theorem Wd261 {Z a0} (hw : HW a0 Z) : ((Cond.initialized zZ3)).before a0 Z = true := wAt hw (i := 261) rfl
theorem d40_37 : decode kQ26 37 = .ok (.dup, 1) := by decide +kernel
theorem d40_38 : decode kQ26 38 = .ok (.aload_n 0, 1) := by decide +kernel
theorem d40_39 : decode kQ26 39 = .ok (.iconst 0, 1) := by decide +kernel
theorem d40_40 : decode kQ26 40 = .ok (.aaload, 1) := by decide +kernel
theorem Wd262 {Z a0} (hw : HW a0 Z) : ((Cond.methodLink "java/util/List" 98 ⟨zZ3, "<init>", "(Ljava/lang/Object;)V"⟩)).before a0 Z = true := wAt hw (i := 262) rfl
theorem Wd265 {Z a0} (hw : HW a0 Z) : ((Cond.code ⟨zZ3, "<init>", "(Ljava/lang/Object;)V"⟩ kQ24 2 (Option.none : Option Jvm.ClassFile.FieldType))).before a0 Z = true := wAt hw (i := 265) rfl
theorem pd12 : parseMethodDescriptor "(Ljava/lang/Object;)V" = some ⟨[(.object "java/lang/Object")], none⟩ := by decide +kernel
theorem d40_41 : decode kQ26 41 = .ok (.invokespecial 98, 3) := by decide +kernel
theorem Wd263 {Z a0} (hw : HW a0 Z) : ((Cond.instanceMethod ⟨zZ3, "<init>", "(Ljava/lang/Object;)V"⟩)).before a0 Z = true := wAt hw (i := 263) rfl
theorem d40_44 : decode kQ26 44 = .ok (.areturn, 1) := by decide +kernel
theorem d40_45 : decode kQ26 45 = .ok (.new 96, 3) := by decide +kernel
theorem d40_48 : decode kQ26 48 = .ok (.dup, 1) := by decide +kernel
theorem d40_49 : decode kQ26 49 = .ok (.aload_n 0, 1) := by decide +kernel
theorem d40_50 : decode kQ26 50 = .ok (.iconst 0, 1) := by decide +kernel
theorem d40_51 : decode kQ26 51 = .ok (.aaload, 1) := by decide +kernel
theorem d40_52 : decode kQ26 52 = .ok (.aload_n 0, 1) := by decide +kernel
theorem d40_53 : decode kQ26 53 = .ok (.iconst 1, 1) := by decide +kernel
theorem d40_54 : decode kQ26 54 = .ok (.aaload, 1) := by decide +kernel
theorem Wd320 {Z a0} (hw : HW a0 Z) : ((Cond.methodLink "java/util/List" 100 ⟨zZ3, "<init>", zZ25⟩)).before a0 Z = true := wAt hw (i := 320) rfl
theorem Wd322 {Z a0} (hw : HW a0 Z) : ((Cond.code ⟨zZ3, "<init>", zZ25⟩ kQ25 3 (Option.none : Option Jvm.ClassFile.FieldType))).before a0 Z = true := wAt hw (i := 322) rfl
theorem pd13 : parseMethodDescriptor "(Ljava/lang/Object;Ljava/lang/Object;)V" = some ⟨[(.object "java/lang/Object"), (.object "java/lang/Object")], none⟩ := by decide +kernel
theorem d40_55 : decode kQ26 55 = .ok (.invokespecial 100, 3) := by decide +kernel
theorem Wd321 {Z a0} (hw : HW a0 Z) : ((Cond.instanceMethod ⟨zZ3, "<init>", zZ25⟩)).before a0 Z = true := wAt hw (i := 321) rfl
theorem d40_58 : decode kQ26 58 = .ok (.areturn, 1) := by decide +kernel
theorem ef11 (m : MethodId)  : entryFrame m #[] 0 = mkF m 0 #[] [] := by first | (simp [entryFrame, mkF, argsToLocals, Value.category]; done) | rfl
theorem d21_0 : decode kQ27 0 = .ok (.getstatic 90, 3) := by decide +kernel
theorem Wd118 {Z a0} (hw : HW a0 Z) : ((Cond.fieldLink "java/util/List" 90 zZ6 "EMPTY_LIST" zZ12)).before a0 Z = true := wAt hw (i := 118) rfl
theorem d21_3 : decode kQ27 3 = .ok (.areturn, 1) := by decide +kernel
theorem pn15 : plainName "java/util/ImmutableCollections" = true := by first | (simp [plainName, overriddenIn]; done) | decide +kernel
theorem d19_0 : decode kQ28 0 = .ok (.aload_n 0, 1) := by decide +kernel
theorem Wd98 {Z a0} (hw : HW a0 Z) : ((Cond.classLink zZ6 10 zZ3)).before a0 Z = true := wAt hw (i := 98) rfl
theorem d19_1 : decode kQ28 1 = .ok (.instanceof 10, 3) := by decide +kernel
theorem d19_4 : decode kQ28 4 = .ok (.ifCond .ne 22, 3) := by decide +kernel
theorem d19_26 : decode kQ28 26 = .ok (.aload_n 0, 1) := by decide +kernel
theorem d19_27 : decode kQ28 27 = .ok (.checkcast 18, 3) := by decide +kernel
theorem Wd143 {Z a0} (hw : HW a0 Z) : ((Cond.classLink zZ6 18 "java/util/List")).before a0 Z = true := wAt hw (i := 143) rfl
theorem Wd144 {Z a0} (hw : HW a0 Z) : ((Cond.castable zZ11 "java/util/List")).before a0 Z = true := wAt hw (i := 144) rfl
theorem d19_30 : decode kQ28 30 = .ok (.areturn, 1) := by decide +kernel
theorem d19_7 : decode kQ28 7 = .ok (.aload_n 0, 1) := by decide +kernel
theorem Wd103 {Z a0} (hw : HW a0 Z) : ((Cond.classLink zZ6 12 zZ11)).before a0 Z = true := wAt hw (i := 103) rfl
theorem d19_8 : decode kQ28 8 = .ok (.instanceof 12, 3) := by decide +kernel
theorem d19_11 : decode kQ28 11 = .ok (.ifCond .eq 20, 3) := by decide +kernel
theorem d19_14 : decode kQ28 14 = .ok (.aload_n 0, 1) := by decide +kernel
theorem d19_15 : decode kQ28 15 = .ok (.checkcast 12, 3) := by decide +kernel
theorem d19_18 : decode kQ28 18 = .ok (.astore_n 1, 1) := by decide +kernel
theorem d19_19 : decode kQ28 19 = .ok (.aload_n 1, 1) := by decide +kernel
theorem d19_20 : decode kQ28 20 = .ok (.getfield 14, 3) := by decide +kernel
theorem Wd141 {Z a0} (hw : HW a0 Z) : ((Cond.fieldLinkNest zZ6 14 zZ11 "allowNulls" "Z" zZ6)).before a0 Z = true := wAt hw (i := 141) rfl
theorem d19_23 : decode kQ28 23 = .ok (.ifCond .ne 8, 3) := by decide +kernel
theorem Wd289 {Z a0} (hw : HW a0 Z) : ((Cond.castable zZ3 "java/util/List")).before a0 Z = true := wAt hw (i := 289) rfl
theorem d19_31 : decode kQ28 31 = .ok (.aload_n 0, 1) := by decide +kernel
theorem Wd104 {Z a0} (hw : HW a0 Z) : ((Cond.methodLink zZ6 20 ⟨"java/util/Collection", "isEmpty", "()Z"⟩)).before a0 Z = true := wAt hw (i := 104) rfl
theorem Wd107 {Z a0} (hw : HW a0 Z) : ((Cond.selects "java/util/ArrayList" ⟨"java/util/Collection", "isEmpty", "()Z"⟩ ⟨"java/util/ArrayList", "isEmpty", "()Z"⟩)).before a0 Z = true := wAt hw (i := 107) rfl
theorem Wd112 {Z a0} (hw : HW a0 Z) : ((Cond.code ⟨"java/util/ArrayList", "isEmpty", "()Z"⟩ kQ20 1 (Option.some FieldType.boolean))).before a0 Z = true := wAt hw (i := 112) rfl
theorem pd14 : parseMethodDescriptor "()Z" = some ⟨[], some .boolean⟩ := by decide +kernel
theorem d19_32 : decode kQ28 32 = .ok (.invokeinterface 20 1, 5) := by decide +kernel
theorem Wd105 {Z a0} (hw : HW a0 Z) : ((Cond.declares ⟨"java/util/Collection", "isEmpty", "()Z"⟩)).before a0 Z = true := wAt hw (i := 105) rfl
theorem Wd106 {Z a0} (hw : HW a0 Z) : ((Cond.interfaceMethod "java/util/Collection" "java/util/Collection" "isEmpty" "()Z")).before a0 Z = true := wAt hw (i := 106) rfl
theorem Wd108 {Z a0} (hw : HW a0 Z) : ((Cond.instanceMethod ⟨"java/util/ArrayList", "isEmpty", "()Z"⟩)).before a0 Z = true := wAt hw (i := 108) rfl
theorem Wd109 {Z a0} (hw : HW a0 Z) : ((Cond.publicMethod ⟨"java/util/ArrayList", "isEmpty", "()Z"⟩)).before a0 Z = true := wAt hw (i := 109) rfl
theorem Wd110 {Z a0} (hw : HW a0 Z) : ((Cond.unhidden "java/util/ArrayList" "isEmpty" "()Z")).before a0 Z = true := wAt hw (i := 110) rfl
theorem Wd111 {Z a0} (hw : HW a0 Z) : ((Cond.castable "java/util/ArrayList" "java/util/Collection")).before a0 Z = true := wAt hw (i := 111) rfl
theorem d19_37 : decode kQ28 37 = .ok (.ifCond .eq 7, 3) := by decide +kernel
theorem Wd115 {Z a0} (hw : HW a0 Z) : ((Cond.methodLink zZ6 26 ⟨"java/util/List", "of", "()Ljava/util/List;"⟩)).before a0 Z = true := wAt hw (i := 115) rfl
theorem Wd117 {Z a0} (hw : HW a0 Z) : ((Cond.code ⟨"java/util/List", "of", "()Ljava/util/List;"⟩ kQ27 0 (Option.some (FieldType.object "java/util/List")))).before a0 Z = true := wAt hw (i := 117) rfl
theorem Wd92 {Z a0} (hw : HW a0 Z) : ((Cond.initialized "java/util/List")).before a0 Z = true := wAt hw (i := 92) rfl
theorem pd15 : parseMethodDescriptor "()Ljava/util/List;" = some ⟨[], some (.object "java/util/List")⟩ := by decide +kernel
theorem d19_40 : decode kQ28 40 = .ok (.invokestatic 26, 3) := by decide +kernel
theorem Wd116 {Z a0} (hw : HW a0 Z) : ((Cond.static ⟨"java/util/List", "of", "()Ljava/util/List;"⟩)).before a0 Z = true := wAt hw (i := 116) rfl
theorem d19_43 : decode kQ28 43 = .ok (.areturn, 1) := by decide +kernel
theorem d19_44 : decode kQ28 44 = .ok (.aload_n 0, 1) := by decide +kernel
theorem Wd226 {Z a0} (hw : HW a0 Z) : ((Cond.methodLink zZ6 30 ⟨"java/util/Collection", "toArray", "()[Ljava/lang/Object;"⟩)).before a0 Z = true := wAt hw (i := 226) rfl
theorem Wd229 {Z a0} (hw : HW a0 Z) : ((Cond.selects "java/util/ArrayList" ⟨"java/util/Collection", "toArray", "()[Ljava/lang/Object;"⟩ ⟨"java/util/ArrayList", "toArray", "()[Ljava/lang/Object;"⟩)).before a0 Z = true := wAt hw (i := 229) rfl
theorem Wd233 {Z a0} (hw : HW a0 Z) : ((Cond.code ⟨"java/util/ArrayList", "toArray", "()[Ljava/lang/Object;"⟩ kQ19 1 (Option.some (FieldType.array (FieldType.object "java/lang/Object"))))).before a0 Z = true := wAt hw (i := 233) rfl
theorem d19_45 : decode kQ28 45 = .ok (.invokeinterface 30 1, 5) := by decide +kernel
theorem Wd227 {Z a0} (hw : HW a0 Z) : ((Cond.declares ⟨"java/util/Collection", "toArray", "()[Ljava/lang/Object;"⟩)).before a0 Z = true := wAt hw (i := 227) rfl
theorem Wd228 {Z a0} (hw : HW a0 Z) : ((Cond.interfaceMethod "java/util/Collection" "java/util/Collection" "toArray" "()[Ljava/lang/Object;")).before a0 Z = true := wAt hw (i := 228) rfl
theorem Wd230 {Z a0} (hw : HW a0 Z) : ((Cond.instanceMethod ⟨"java/util/ArrayList", "toArray", "()[Ljava/lang/Object;"⟩)).before a0 Z = true := wAt hw (i := 230) rfl
theorem Wd231 {Z a0} (hw : HW a0 Z) : ((Cond.publicMethod ⟨"java/util/ArrayList", "toArray", "()[Ljava/lang/Object;"⟩)).before a0 Z = true := wAt hw (i := 231) rfl
theorem Wd232 {Z a0} (hw : HW a0 Z) : ((Cond.unhidden "java/util/ArrayList" "toArray" "()[Ljava/lang/Object;")).before a0 Z = true := wAt hw (i := 232) rfl
theorem Wd256 {Z a0} (hw : HW a0 Z) : ((Cond.methodLink zZ6 34 ⟨"java/util/List", "of", zZ19⟩)).before a0 Z = true := wAt hw (i := 256) rfl
theorem Wd258 {Z a0} (hw : HW a0 Z) : ((Cond.code ⟨"java/util/List", "of", zZ19⟩ kQ26 2 (Option.some (FieldType.object "java/util/List")))).before a0 Z = true := wAt hw (i := 258) rfl
theorem pd16 : parseMethodDescriptor "([Ljava/lang/Object;)Ljava/util/List;" = some ⟨[(.array (.object "java/lang/Object"))], some (.object "java/util/List")⟩ := by decide +kernel
theorem d19_50 : decode kQ28 50 = .ok (.invokestatic 34, 3) := by decide +kernel
theorem Wd257 {Z a0} (hw : HW a0 Z) : ((Cond.static ⟨"java/util/List", "of", zZ19⟩)).before a0 Z = true := wAt hw (i := 257) rfl
theorem d19_53 : decode kQ28 53 = .ok (.areturn, 1) := by decide +kernel
theorem d18_0 : decode kQ29 0 = .ok (.aload_n 0, 1) := by decide +kernel
theorem Wd94 {Z a0} (hw : HW a0 Z) : ((Cond.methodLink "java/util/List" 112 ⟨zZ6, "listCopy", zZ2⟩)).before a0 Z = true := wAt hw (i := 94) rfl
theorem Wd97 {Z a0} (hw : HW a0 Z) : ((Cond.code ⟨zZ6, "listCopy", zZ2⟩ kQ28 2 (Option.some (FieldType.object "java/util/List")))).before a0 Z = true := wAt hw (i := 97) rfl
theorem Wd96 {Z a0} (hw : HW a0 Z) : ((Cond.initialized zZ6)).before a0 Z = true := wAt hw (i := 96) rfl
theorem pd17 : parseMethodDescriptor "(Ljava/util/Collection;)Ljava/util/List;" = some ⟨[(.object "java/util/Collection")], some (.object "java/util/List")⟩ := by decide +kernel
theorem d18_1 : decode kQ29 1 = .ok (.invokestatic 112, 3) := by decide +kernel
theorem Wd95 {Z a0} (hw : HW a0 Z) : ((Cond.static ⟨zZ6, "listCopy", zZ2⟩)).before a0 Z = true := wAt hw (i := 95) rfl
theorem d18_4 : decode kQ29 4 = .ok (.areturn, 1) := by decide +kernel
theorem ef12 (m : MethodId) (x0 : Addr) (x1 : Int32) (x2 : Value) (rx2 : x2.isRef = true) (x3 : Int32) (x4 : Addr) (x5 : Value) (rx5 : x5.isRef = true) (x6 : Value) (rx6 : x6.isRef = true) : entryFrame m #[(.ref x0), (.int x1), x2, (.int x3), (.ref x4), x5, x6] 7 = mkF m 0 #[.val (.ref x0), .val (.int x1), .val x2, .val (.int x3), .val (.ref x4), .val x5, .val x6] [] := by rcases ref_cases rx2 with rfl | ⟨_, rfl⟩ <;> rcases ref_cases rx5 with rfl | ⟨_, rfl⟩ <;> rcases ref_cases rx6 with rfl | ⟨_, rfl⟩ <;> first | (simp [entryFrame, mkF, argsToLocals, Value.category]; done) | rfl
theorem pn16 : plainName "com/example/echo_panel/echopanel/channel/ChannelState" = true := by first | (simp [plainName, overriddenIn]; done) | decide +kernel
theorem d16_0 : decode kQ30 0 = .ok (.aload_n 0, 1) := by decide +kernel
theorem Wd84 {Z a0} (hw : HW a0 Z) : ((Cond.methodLink zZ0 1 ⟨"java/lang/Record", "<init>", "()V"⟩)).before a0 Z = true := wAt hw (i := 84) rfl
theorem Wd88 {Z a0} (hw : HW a0 Z) : ((Cond.code ⟨"java/lang/Record", "<init>", "()V"⟩ kQ0 1 (Option.none : Option Jvm.ClassFile.FieldType))).before a0 Z = true := wAt hw (i := 88) rfl
theorem Wd87 {Z a0} (hw : HW a0 Z) : ((Cond.initialized "java/lang/Record")).before a0 Z = true := wAt hw (i := 87) rfl
theorem d16_1 : decode kQ30 1 = .ok (.invokespecial 1, 3) := by decide +kernel
theorem Wd85 {Z a0} (hw : HW a0 Z) : ((Cond.instanceMethod ⟨"java/lang/Record", "<init>", "()V"⟩)).before a0 Z = true := wAt hw (i := 85) rfl
theorem d16_4 : decode kQ30 4 = .ok (.aload 4, 2) := by decide +kernel
theorem Wd90 {Z a0} (hw : HW a0 Z) : ((Cond.methodLink zZ0 7 ⟨"java/util/List", "copyOf", zZ2⟩)).before a0 Z = true := wAt hw (i := 90) rfl
theorem Wd93 {Z a0} (hw : HW a0 Z) : ((Cond.code ⟨"java/util/List", "copyOf", zZ2⟩ kQ29 1 (Option.some (FieldType.object "java/util/List")))).before a0 Z = true := wAt hw (i := 93) rfl
theorem d16_6 : decode kQ30 6 = .ok (.invokestatic 7, 3) := by decide +kernel
theorem Wd91 {Z a0} (hw : HW a0 Z) : ((Cond.static ⟨"java/util/List", "copyOf", zZ2⟩)).before a0 Z = true := wAt hw (i := 91) rfl
theorem d16_9 : decode kQ30 9 = .ok (.astore 4, 2) := by decide +kernel
theorem d16_11 : decode kQ30 11 = .ok (.aload_n 0, 1) := by decide +kernel
theorem d16_12 : decode kQ30 12 = .ok (.iload_n 1, 1) := by decide +kernel
theorem d16_13 : decode kQ30 13 = .ok (.putfield 13, 3) := by decide +kernel
theorem Wd119 {Z a0} (hw : HW a0 Z) : ((Cond.fieldLink zZ0 13 zZ0 "connected" "Z")).before a0 Z = true := wAt hw (i := 119) rfl
theorem Wd120 {Z a0} (hw : HW a0 Z) : ((Cond.laysFinal zZ0 zZ0 "connected" "Z")).before a0 Z = true := wAt hw (i := 120) rfl
theorem Wd76 {Z a0} (hw : HW a0 Z) : ((Cond.instantiable zZ0 6)).before a0 Z = true := wAt hw (i := 76) rfl
theorem d16_16 : decode kQ30 16 = .ok (.aload_n 0, 1) := by decide +kernel
theorem d16_17 : decode kQ30 17 = .ok (.aload_n 2, 1) := by decide +kernel
theorem d16_18 : decode kQ30 18 = .ok (.putfield 19, 3) := by decide +kernel
theorem Wd121 {Z a0} (hw : HW a0 Z) : ((Cond.fieldLink zZ0 19 zZ0 "severity" zZ24)).before a0 Z = true := wAt hw (i := 121) rfl
theorem Wd122 {Z a0} (hw : HW a0 Z) : ((Cond.laysFinal zZ0 zZ0 "severity" zZ24)).before a0 Z = true := wAt hw (i := 122) rfl
theorem d16_21 : decode kQ30 21 = .ok (.aload_n 0, 1) := by decide +kernel
theorem d16_22 : decode kQ30 22 = .ok (.iload_n 3, 1) := by decide +kernel
theorem d16_23 : decode kQ30 23 = .ok (.putfield 23, 3) := by decide +kernel
theorem Wd123 {Z a0} (hw : HW a0 Z) : ((Cond.fieldLink zZ0 23 zZ0 "precision" "I")).before a0 Z = true := wAt hw (i := 123) rfl
theorem Wd124 {Z a0} (hw : HW a0 Z) : ((Cond.laysFinal zZ0 zZ0 "precision" "I")).before a0 Z = true := wAt hw (i := 124) rfl
theorem d16_26 : decode kQ30 26 = .ok (.aload_n 0, 1) := by decide +kernel
theorem d16_27 : decode kQ30 27 = .ok (.aload 4, 2) := by decide +kernel
theorem d16_29 : decode kQ30 29 = .ok (.putfield 27, 3) := by decide +kernel
theorem Wd125 {Z a0} (hw : HW a0 Z) : ((Cond.fieldLink zZ0 27 zZ0 "labels" "Ljava/util/List;")).before a0 Z = true := wAt hw (i := 125) rfl
theorem Wd126 {Z a0} (hw : HW a0 Z) : ((Cond.laysFinal zZ0 zZ0 "labels" "Ljava/util/List;")).before a0 Z = true := wAt hw (i := 126) rfl
theorem d16_32 : decode kQ30 32 = .ok (.aload_n 0, 1) := by decide +kernel
theorem d16_33 : decode kQ30 33 = .ok (.aload 5, 2) := by decide +kernel
theorem d16_35 : decode kQ30 35 = .ok (.putfield 31, 3) := by decide +kernel
theorem Wd127 {Z a0} (hw : HW a0 Z) : ((Cond.fieldLink zZ0 31 zZ0 "value" "Ljava/lang/Object;")).before a0 Z = true := wAt hw (i := 127) rfl
theorem Wd128 {Z a0} (hw : HW a0 Z) : ((Cond.laysFinal zZ0 zZ0 "value" "Ljava/lang/Object;")).before a0 Z = true := wAt hw (i := 128) rfl
theorem d16_38 : decode kQ30 38 = .ok (.aload_n 0, 1) := by decide +kernel
theorem d16_39 : decode kQ30 39 = .ok (.aload 6, 2) := by decide +kernel
theorem d16_41 : decode kQ30 41 = .ok (.putfield 35, 3) := by decide +kernel
theorem Wd129 {Z a0} (hw : HW a0 Z) : ((Cond.fieldLink zZ0 35 zZ0 "limits" zZ28)).before a0 Z = true := wAt hw (i := 129) rfl
theorem Wd130 {Z a0} (hw : HW a0 Z) : ((Cond.laysFinal zZ0 zZ0 "limits" zZ28)).before a0 Z = true := wAt hw (i := 130) rfl
theorem d16_44 : decode kQ30 44 = .ok (.return_, 1) := by decide +kernel
theorem ef13 (m : MethodId) (x0 : Addr) (x1 : Int32) (x2 : Value) (rx2 : x2.isRef = true) (x3 : Int32) (x4 : Addr) (x5 : Value) (rx5 : x5.isRef = true) : entryFrame m #[(.ref x0), (.int x1), x2, (.int x3), (.ref x4), x5] 6 = mkF m 0 #[.val (.ref x0), .val (.int x1), .val x2, .val (.int x3), .val (.ref x4), .val x5] [] := by rcases ref_cases rx2 with rfl | ⟨_, rfl⟩ <;> rcases ref_cases rx5 with rfl | ⟨_, rfl⟩ <;> first | (simp [entryFrame, mkF, argsToLocals, Value.category]; done) | rfl
theorem d15_0 : decode kQ31 0 = .ok (.aload_n 0, 1) := by decide +kernel
theorem d15_1 : decode kQ31 1 = .ok (.iload_n 1, 1) := by decide +kernel
theorem d15_2 : decode kQ31 2 = .ok (.aload_n 2, 1) := by decide +kernel
theorem d15_3 : decode kQ31 3 = .ok (.iload_n 3, 1) := by decide +kernel
theorem d15_4 : decode kQ31 4 = .ok (.aload 4, 2) := by decide +kernel
theorem d15_6 : decode kQ31 6 = .ok (.aload 5, 2) := by decide +kernel
theorem d15_8 : decode kQ31 8 = .ok (.aconst_null, 1) := by decide +kernel
theorem Wd81 {Z a0} (hw : HW a0 Z) : ((Cond.methodLink zZ0 39 ⟨zZ0, "<init>", zZ5⟩)).before a0 Z = true := wAt hw (i := 81) rfl
theorem Wd83 {Z a0} (hw : HW a0 Z) : ((Cond.code ⟨zZ0, "<init>", zZ5⟩ kQ30 7 (Option.none : Option Jvm.ClassFile.FieldType))).before a0 Z = true := wAt hw (i := 83) rfl
theorem Wd77 {Z a0} (hw : HW a0 Z) : ((Cond.initialized zZ0)).before a0 Z = true := wAt hw (i := 77) rfl
theorem pd18 : parseMethodDescriptor "(ZLcom/example/echo_panel/echopanel/channel/Severity;ILjava/util/List;Ljava/lang/Object;Lcom/example/echo_panel/echopanel/channel/DisplayLimits;)V" = some ⟨[.boolean, (.object "com/example/echo_panel/echopanel/channel/Severity"), .int, (.object "java/util/List"), (.object "java/lang/Object"), (.object "com/example/echo_panel/echopanel/channel/DisplayLimits")], none⟩ := by decide +kernel
theorem d15_9 : decode kQ31 9 = .ok (.invokespecial 39, 3) := by decide +kernel
theorem Wd82 {Z a0} (hw : HW a0 Z) : ((Cond.instanceMethod ⟨zZ0, "<init>", zZ5⟩)).before a0 Z = true := wAt hw (i := 82) rfl
theorem d15_12 : decode kQ31 12 = .ok (.return_, 1) := by decide +kernel
theorem d22_0 : decode kQ32 0 = .ok (.new 14, 3) := by decide +kernel
theorem Wd136 {Z a0} (hw : HW a0 Z) : ((Cond.classLink zZ0 14 zZ0)).before a0 Z = true := wAt hw (i := 136) rfl
theorem d22_3 : decode kQ32 3 = .ok (.dup, 1) := by decide +kernel
theorem d22_4 : decode kQ32 4 = .ok (.iconst 0, 1) := by decide +kernel
theorem d22_5 : decode kQ32 5 = .ok (.aload_n 0, 1) := by decide +kernel
theorem d22_6 : decode kQ32 6 = .ok (.getfield 19, 3) := by decide +kernel
theorem d22_9 : decode kQ32 9 = .ok (.aload_n 0, 1) := by decide +kernel
theorem d22_10 : decode kQ32 10 = .ok (.getfield 23, 3) := by decide +kernel
theorem d22_13 : decode kQ32 13 = .ok (.aload_n 0, 1) := by decide +kernel
theorem d22_14 : decode kQ32 14 = .ok (.getfield 27, 3) := by decide +kernel
theorem d22_17 : decode kQ32 17 = .ok (.aload_n 0, 1) := by decide +kernel
theorem d22_18 : decode kQ32 18 = .ok (.getfield 31, 3) := by decide +kernel
theorem d22_21 : decode kQ32 21 = .ok (.aload_n 0, 1) := by decide +kernel
theorem d22_22 : decode kQ32 22 = .ok (.getfield 35, 3) := by decide +kernel
theorem d22_25 : decode kQ32 25 = .ok (.invokespecial 39, 3) := by decide +kernel
theorem d22_28 : decode kQ32 28 = .ok (.areturn, 1) := by decide +kernel
theorem d23_0 : decode kQ33 0 = .ok (.aload_n 0, 1) := by decide +kernel
theorem d23_1 : decode kQ33 1 = .ok (.getfield 13, 3) := by decide +kernel
theorem d23_4 : decode kQ33 4 = .ok (.ireturn, 1) := by decide +kernel
theorem d24_0 : decode kQ34 0 = .ok (.aload_n 0, 1) := by decide +kernel
theorem d24_1 : decode kQ34 1 = .ok (.getfield 19, 3) := by decide +kernel
theorem d24_4 : decode kQ34 4 = .ok (.areturn, 1) := by decide +kernel
theorem d25_0 : decode kQ35 0 = .ok (.aload_n 0, 1) := by decide +kernel
theorem d25_1 : decode kQ35 1 = .ok (.getfield 23, 3) := by decide +kernel
theorem d25_4 : decode kQ35 4 = .ok (.ireturn, 1) := by decide +kernel
theorem d27_0 : decode kQ36 0 = .ok (.aload_n 0, 1) := by decide +kernel
theorem d27_1 : decode kQ36 1 = .ok (.getfield 27, 3) := by decide +kernel
theorem d27_4 : decode kQ36 4 = .ok (.areturn, 1) := by decide +kernel
theorem d26_0 : decode kQ37 0 = .ok (.aload_n 0, 1) := by decide +kernel
theorem d26_1 : decode kQ37 1 = .ok (.getfield 31, 3) := by decide +kernel
theorem d26_4 : decode kQ37 4 = .ok (.areturn, 1) := by decide +kernel
theorem d29_0 : decode kQ38 0 = .ok (.aload_n 0, 1) := by decide +kernel
theorem d29_1 : decode kQ38 1 = .ok (.getfield 35, 3) := by decide +kernel
theorem d29_4 : decode kQ38 4 = .ok (.areturn, 1) := by decide +kernel
theorem ef14 (m : MethodId) (x0 : Addr) (x1 : UInt64) (x2 : UInt64) : entryFrame m #[(.ref x0), (.double x1), (.double x2)] 5 = mkF m 0 #[.val (.ref x0), .val (.double x1), .second, .val (.double x2), .second] [] := by first | (simp [entryFrame, mkF, argsToLocals, Value.category]; done) | rfl
theorem pn17 : plainName "com/example/echo_panel/echopanel/channel/DisplayLimits" = true := by first | (simp [plainName, overriddenIn]; done) | decide +kernel
theorem d48_0 : decode kQ39 0 = .ok (.aload_n 0, 1) := by decide +kernel
theorem Wd314 {Z a0} (hw : HW a0 Z) : ((Cond.methodLink zZ4 1 ⟨"java/lang/Record", "<init>", "()V"⟩)).before a0 Z = true := wAt hw (i := 314) rfl
theorem d48_1 : decode kQ39 1 = .ok (.invokespecial 1, 3) := by decide +kernel
theorem d48_4 : decode kQ39 4 = .ok (.aload_n 0, 1) := by decide +kernel
theorem d48_5 : decode kQ39 5 = .ok (.dload_n 1, 1) := by decide +kernel
theorem d48_6 : decode kQ39 6 = .ok (.putfield 7, 3) := by decide +kernel
theorem Wd315 {Z a0} (hw : HW a0 Z) : ((Cond.fieldLink zZ4 7 zZ4 "lower" "D")).before a0 Z = true := wAt hw (i := 315) rfl
theorem Wd316 {Z a0} (hw : HW a0 Z) : ((Cond.laysFinal zZ4 zZ4 "lower" "D")).before a0 Z = true := wAt hw (i := 316) rfl
theorem Wd309 {Z a0} (hw : HW a0 Z) : ((Cond.instantiable zZ4 2)).before a0 Z = true := wAt hw (i := 309) rfl
theorem d48_9 : decode kQ39 9 = .ok (.aload_n 0, 1) := by decide +kernel
theorem d48_10 : decode kQ39 10 = .ok (.dload_n 3, 1) := by decide +kernel
theorem d48_11 : decode kQ39 11 = .ok (.putfield 13, 3) := by decide +kernel
theorem Wd317 {Z a0} (hw : HW a0 Z) : ((Cond.fieldLink zZ4 13 zZ4 "upper" "D")).before a0 Z = true := wAt hw (i := 317) rfl
theorem Wd318 {Z a0} (hw : HW a0 Z) : ((Cond.laysFinal zZ4 zZ4 "upper" "D")).before a0 Z = true := wAt hw (i := 318) rfl
theorem d48_14 : decode kQ39 14 = .ok (.return_, 1) := by decide +kernel
theorem d50_0 : decode kQ40 0 = .ok (.aload_n 0, 1) := by decide +kernel
theorem d50_1 : decode kQ40 1 = .ok (.getfield 7, 3) := by decide +kernel
theorem d50_4 : decode kQ40 4 = .ok (.dreturn, 1) := by decide +kernel
theorem d51_0 : decode kQ41 0 = .ok (.aload_n 0, 1) := by decide +kernel
theorem d51_1 : decode kQ41 1 = .ok (.getfield 13, 3) := by decide +kernel
theorem d51_4 : decode kQ41 4 = .ok (.dreturn, 1) := by decide +kernel
theorem pn18 : plainName "java/util/ImmutableCollections$ListN" = true := by first | (simp [plainName, overriddenIn]; done) | decide +kernel
theorem d28_0 : decode kQ42 0 = .ok (.aload_n 0, 1) := by decide +kernel
theorem d28_1 : decode kQ42 1 = .ok (.getfield 7, 3) := by decide +kernel
theorem Wd179 {Z a0} (hw : HW a0 Z) : ((Cond.fieldLink zZ11 7 zZ11 "elements" "[Ljava/lang/Object;")).before a0 Z = true := wAt hw (i := 179) rfl
theorem d28_4 : decode kQ42 4 = .ok (.arraylength, 1) := by decide +kernel
theorem d28_5 : decode kQ42 5 = .ok (.ireturn, 1) := by decide +kernel
theorem d45_0 : decode kQ43 0 = .ok (.aload_n 0, 1) := by decide +kernel
theorem d45_1 : decode kQ43 1 = .ok (.getfield 24, 3) := by decide +kernel
theorem d45_4 : decode kQ43 4 = .ok (.getstatic 19, 3) := by decide +kernel
theorem d45_7 : decode kQ43 7 = .ok (.if_acmp .eq 7, 3) := by decide +kernel
theorem d45_14 : decode kQ43 14 = .ok (.iconst 1, 1) := by decide +kernel
theorem d45_15 : decode kQ43 15 = .ok (.ireturn, 1) := by decide +kernel
theorem d46_0 : decode kQ44 0 = .ok (.iload_n 1, 1) := by decide +kernel
theorem d46_1 : decode kQ44 1 = .ok (.ifCond .ne 8, 3) := by decide +kernel
theorem d46_4 : decode kQ44 4 = .ok (.aload_n 0, 1) := by decide +kernel
theorem d46_5 : decode kQ44 5 = .ok (.getfield 13, 3) := by decide +kernel
theorem d46_8 : decode kQ44 8 = .ok (.areturn, 1) := by decide +kernel
theorem d45_10 : decode kQ43 10 = .ok (.iconst 2, 1) := by decide +kernel
theorem d45_11 : decode kQ43 11 = .ok (.goto 4, 3) := by decide +kernel
theorem d46_9 : decode kQ44 9 = .ok (.iload_n 1, 1) := by decide +kernel
theorem d46_10 : decode kQ44 10 = .ok (.iconst 1, 1) := by decide +kernel
theorem d46_11 : decode kQ44 11 = .ok (.if_icmp .ne 18, 3) := by decide +kernel
theorem d46_14 : decode kQ44 14 = .ok (.aload_n 0, 1) := by decide +kernel
theorem d46_15 : decode kQ44 15 = .ok (.getfield 24, 3) := by decide +kernel
theorem d46_18 : decode kQ44 18 = .ok (.getstatic 19, 3) := by decide +kernel
theorem d46_21 : decode kQ44 21 = .ok (.if_acmp .eq 8, 3) := by decide +kernel
theorem d46_24 : decode kQ44 24 = .ok (.aload_n 0, 1) := by decide +kernel
theorem d46_25 : decode kQ44 25 = .ok (.getfield 24, 3) := by decide +kernel
theorem d46_28 : decode kQ44 28 = .ok (.areturn, 1) := by decide +kernel
theorem ef15 (m : MethodId) (x0 : Addr) (x1 : Addr) : entryFrame m #[(.ref x0), (.ref x1)] 3 = mkF m 0 #[.val (.ref x0), .val (.ref x1), .unset] [] := by first | (simp [entryFrame, mkF, argsToLocals, Value.category]; done) | rfl
theorem d47_0 : decode kQ45 0 = .ok (.aload_n 0, 1) := by decide +kernel
theorem d47_1 : decode kQ45 1 = .ok (.aload_n 1, 1) := by decide +kernel
theorem d47_2 : decode kQ45 2 = .ok (.if_acmp .ne 5, 3) := by decide +kernel
theorem d47_5 : decode kQ45 5 = .ok (.iconst 1, 1) := by decide +kernel
theorem d47_6 : decode kQ45 6 = .ok (.ireturn, 1) := by decide +kernel
theorem ef16 (m : MethodId) (x0 : Int32) (x1 : Int32) (x2 : Int32) (x3 : Int32) (x4 : Int32) (x5 : Int32) : entryFrame m #[(.int x0), (.int x1), (.int x2), (.int x3), (.int x4), (.int x5)] maxLocals = mkF m 0 #[.val (.int x0), .val (.int x1), .val (.int x2), .val (.int x3), .val (.int x4), .val (.int x5), .unset, .unset, .unset, .unset, .unset, .unset, .unset, .unset, .unset, .unset, .unset, .unset, .unset, .unset] [] := by first | (simp [entryFrame, mkF, argsToLocals, Value.category, maxLocals]; done) | rfl
theorem Wd0 {Z a0} (hw : HW a0 Z) : ((Cond.methodLink zZ1 22 ⟨zZ1, "severityOf", zZ26⟩)).before a0 Z = true := wAt hw (i := 0) rfl
theorem Wd3 {Z a0} (hw : HW a0 Z) : ((Cond.code ⟨zZ1, "severityOf", zZ26⟩ method_2_code 1 (Option.some (FieldType.object zZ23)))).before a0 Z = true := wAt hw (i := 3) rfl
theorem Wd2 {Z a0} (hw : HW a0 Z) : ((Cond.initialized zZ1)).before a0 Z = true := wAt hw (i := 2) rfl
theorem pd19 : parseMethodDescriptor "(I)Lcom/example/echo_panel/echopanel/channel/Severity;" = some ⟨[.int], some (.object "com/example/echo_panel/echopanel/channel/Severity")⟩ := by decide +kernel
theorem Wd1 {Z a0} (hw : HW a0 Z) : ((Cond.static ⟨zZ1, "severityOf", zZ26⟩)).before a0 Z = true := wAt hw (i := 1) rfl
theorem Wd7 {Z a0} (hw : HW a0 Z) : ((Cond.classLink zZ1 28 "java/lang/String")).before a0 Z = true := wAt hw (i := 7) rfl
theorem Wd10 {Z a0} (hw : HW a0 Z) : ((Cond.arrayClass FieldType.char)).before a0 Z = true := wAt hw (i := 10) rfl
theorem Wd11 {Z a0} (hw : HW a0 Z) : ((Cond.methodLink zZ1 30 ⟨"java/lang/String", "<init>", "([C)V"⟩)).before a0 Z = true := wAt hw (i := 11) rfl
theorem Wd13 {Z a0} (hw : HW a0 Z) : ((Cond.code ⟨"java/lang/String", "<init>", "([C)V"⟩ kQ46 2 (Option.none : Option Jvm.ClassFile.FieldType))).before a0 Z = true := wAt hw (i := 13) rfl
theorem pd20 : parseMethodDescriptor "([C)V" = some ⟨[(.array .char)], none⟩ := by decide +kernel
theorem Wd12 {Z a0} (hw : HW a0 Z) : ((Cond.instanceMethod ⟨"java/lang/String", "<init>", "([C)V"⟩)).before a0 Z = true := wAt hw (i := 12) rfl
theorem Wd37 {Z a0} (hw : HW a0 Z) : ((Cond.methodLink zZ1 33 ⟨"java/lang/String", "valueOf", "(C)Ljava/lang/String;"⟩)).before a0 Z = true := wAt hw (i := 37) rfl
theorem Wd39 {Z a0} (hw : HW a0 Z) : ((Cond.code ⟨"java/lang/String", "valueOf", "(C)Ljava/lang/String;"⟩ kQ15 1 (Option.some (FieldType.object "java/lang/String")))).before a0 Z = true := wAt hw (i := 39) rfl
theorem pd21 : parseMethodDescriptor "(C)Ljava/lang/String;" = some ⟨[.char], some (.object "java/lang/String")⟩ := by decide +kernel
theorem Wd38 {Z a0} (hw : HW a0 Z) : ((Cond.static ⟨"java/lang/String", "valueOf", "(C)Ljava/lang/String;"⟩)).before a0 Z = true := wAt hw (i := 38) rfl
theorem Wd51 {Z a0} (hw : HW a0 Z) : ((Cond.classLink zZ1 37 "java/util/ArrayList")).before a0 Z = true := wAt hw (i := 51) rfl
theorem Wd54 {Z a0} (hw : HW a0 Z) : ((Cond.methodLink zZ1 39 ⟨"java/util/ArrayList", "<init>", "()V"⟩)).before a0 Z = true := wAt hw (i := 54) rfl
theorem Wd56 {Z a0} (hw : HW a0 Z) : ((Cond.code ⟨"java/util/ArrayList", "<init>", "()V"⟩ kQ6 1 (Option.none : Option Jvm.ClassFile.FieldType))).before a0 Z = true := wAt hw (i := 56) rfl
theorem Wd55 {Z a0} (hw : HW a0 Z) : ((Cond.instanceMethod ⟨"java/util/ArrayList", "<init>", "()V"⟩)).before a0 Z = true := wAt hw (i := 55) rfl
theorem Wd131 {Z a0} (hw : HW a0 Z) : ((Cond.methodLink zZ1 62 ⟨zZ0, "lost", zZ7⟩)).before a0 Z = true := wAt hw (i := 131) rfl
theorem Wd134 {Z a0} (hw : HW a0 Z) : ((Cond.selects zZ0 ⟨zZ0, "lost", zZ7⟩ ⟨zZ0, "lost", zZ7⟩)).before a0 Z = true := wAt hw (i := 134) rfl
theorem Wd135 {Z a0} (hw : HW a0 Z) : ((Cond.code ⟨zZ0, "lost", zZ7⟩ kQ32 1 (Option.some (FieldType.object zZ0)))).before a0 Z = true := wAt hw (i := 135) rfl
theorem pd22 : parseMethodDescriptor "()Lcom/example/echo_panel/echopanel/channel/ChannelState;" = some ⟨[], some (.object "com/example/echo_panel/echopanel/channel/ChannelState")⟩ := by decide +kernel
theorem Wd132 {Z a0} (hw : HW a0 Z) : ((Cond.declares ⟨zZ0, "lost", zZ7⟩)).before a0 Z = true := wAt hw (i := 132) rfl
theorem Wd133 {Z a0} (hw : HW a0 Z) : ((Cond.instanceMethod ⟨zZ0, "lost", zZ7⟩)).before a0 Z = true := wAt hw (i := 133) rfl
theorem Wd145 {Z a0} (hw : HW a0 Z) : ((Cond.methodLink zZ1 66 ⟨zZ0, "connected", "()Z"⟩)).before a0 Z = true := wAt hw (i := 145) rfl
theorem Wd148 {Z a0} (hw : HW a0 Z) : ((Cond.selects zZ0 ⟨zZ0, "connected", "()Z"⟩ ⟨zZ0, "connected", "()Z"⟩)).before a0 Z = true := wAt hw (i := 148) rfl
theorem Wd149 {Z a0} (hw : HW a0 Z) : ((Cond.code ⟨zZ0, "connected", "()Z"⟩ kQ33 1 (Option.some FieldType.boolean))).before a0 Z = true := wAt hw (i := 149) rfl
theorem Wd146 {Z a0} (hw : HW a0 Z) : ((Cond.declares ⟨zZ0, "connected", "()Z"⟩)).before a0 Z = true := wAt hw (i := 146) rfl
theorem Wd147 {Z a0} (hw : HW a0 Z) : ((Cond.instanceMethod ⟨zZ0, "connected", "()Z"⟩)).before a0 Z = true := wAt hw (i := 147) rfl
theorem Wd150 {Z a0} (hw : HW a0 Z) : ((Cond.methodLink zZ1 70 ⟨zZ0, "severity", zZ9⟩)).before a0 Z = true := wAt hw (i := 150) rfl
theorem Wd153 {Z a0} (hw : HW a0 Z) : ((Cond.selects zZ0 ⟨zZ0, "severity", zZ9⟩ ⟨zZ0, "severity", zZ9⟩)).before a0 Z = true := wAt hw (i := 153) rfl
theorem Wd154 {Z a0} (hw : HW a0 Z) : ((Cond.code ⟨zZ0, "severity", zZ9⟩ kQ34 1 (Option.some (FieldType.object zZ23)))).before a0 Z = true := wAt hw (i := 154) rfl
theorem pd23 : parseMethodDescriptor "()Lcom/example/echo_panel/echopanel/channel/Severity;" = some ⟨[], some (.object "com/example/echo_panel/echopanel/channel/Severity")⟩ := by decide +kernel
theorem Wd151 {Z a0} (hw : HW a0 Z) : ((Cond.declares ⟨zZ0, "severity", zZ9⟩)).before a0 Z = true := wAt hw (i := 151) rfl
theorem Wd152 {Z a0} (hw : HW a0 Z) : ((Cond.instanceMethod ⟨zZ0, "severity", zZ9⟩)).before a0 Z = true := wAt hw (i := 152) rfl
theorem Wd155 {Z a0} (hw : HW a0 Z) : ((Cond.methodLink zZ1 74 ⟨zZ0, "precision", "()I"⟩)).before a0 Z = true := wAt hw (i := 155) rfl
theorem Wd158 {Z a0} (hw : HW a0 Z) : ((Cond.selects zZ0 ⟨zZ0, "precision", "()I"⟩ ⟨zZ0, "precision", "()I"⟩)).before a0 Z = true := wAt hw (i := 158) rfl
theorem Wd159 {Z a0} (hw : HW a0 Z) : ((Cond.code ⟨zZ0, "precision", "()I"⟩ kQ35 1 (Option.some FieldType.int))).before a0 Z = true := wAt hw (i := 159) rfl
theorem pd24 : parseMethodDescriptor "()I" = some ⟨[], some .int⟩ := by decide +kernel
theorem Wd156 {Z a0} (hw : HW a0 Z) : ((Cond.declares ⟨zZ0, "precision", "()I"⟩)).before a0 Z = true := wAt hw (i := 156) rfl
theorem Wd157 {Z a0} (hw : HW a0 Z) : ((Cond.instanceMethod ⟨zZ0, "precision", "()I"⟩)).before a0 Z = true := wAt hw (i := 157) rfl
theorem Wd160 {Z a0} (hw : HW a0 Z) : ((Cond.methodLink zZ1 78 ⟨zZ0, "value", "()Ljava/lang/Object;"⟩)).before a0 Z = true := wAt hw (i := 160) rfl
theorem Wd163 {Z a0} (hw : HW a0 Z) : ((Cond.selects zZ0 ⟨zZ0, "value", "()Ljava/lang/Object;"⟩ ⟨zZ0, "value", "()Ljava/lang/Object;"⟩)).before a0 Z = true := wAt hw (i := 163) rfl
theorem Wd164 {Z a0} (hw : HW a0 Z) : ((Cond.code ⟨zZ0, "value", "()Ljava/lang/Object;"⟩ kQ37 1 (Option.some (FieldType.object "java/lang/Object")))).before a0 Z = true := wAt hw (i := 164) rfl
theorem pd25 : parseMethodDescriptor "()Ljava/lang/Object;" = some ⟨[], some (.object "java/lang/Object")⟩ := by decide +kernel
theorem Wd161 {Z a0} (hw : HW a0 Z) : ((Cond.declares ⟨zZ0, "value", "()Ljava/lang/Object;"⟩)).before a0 Z = true := wAt hw (i := 161) rfl
theorem Wd162 {Z a0} (hw : HW a0 Z) : ((Cond.instanceMethod ⟨zZ0, "value", "()Ljava/lang/Object;"⟩)).before a0 Z = true := wAt hw (i := 162) rfl
theorem Wd165 {Z a0} (hw : HW a0 Z) : ((Cond.methodLink zZ1 82 ⟨zZ0, "labels", "()Ljava/util/List;"⟩)).before a0 Z = true := wAt hw (i := 165) rfl
theorem Wd168 {Z a0} (hw : HW a0 Z) : ((Cond.selects zZ0 ⟨zZ0, "labels", "()Ljava/util/List;"⟩ ⟨zZ0, "labels", "()Ljava/util/List;"⟩)).before a0 Z = true := wAt hw (i := 168) rfl
theorem Wd169 {Z a0} (hw : HW a0 Z) : ((Cond.code ⟨zZ0, "labels", "()Ljava/util/List;"⟩ kQ36 1 (Option.some (FieldType.object "java/util/List")))).before a0 Z = true := wAt hw (i := 169) rfl
theorem Wd166 {Z a0} (hw : HW a0 Z) : ((Cond.declares ⟨zZ0, "labels", "()Ljava/util/List;"⟩)).before a0 Z = true := wAt hw (i := 166) rfl
theorem Wd167 {Z a0} (hw : HW a0 Z) : ((Cond.instanceMethod ⟨zZ0, "labels", "()Ljava/util/List;"⟩)).before a0 Z = true := wAt hw (i := 167) rfl
theorem Wd170 {Z a0} (hw : HW a0 Z) : ((Cond.methodLink zZ1 86 ⟨"java/util/List", "size", "()I"⟩)).before a0 Z = true := wAt hw (i := 170) rfl
theorem Wd173 {Z a0} (hw : HW a0 Z) : ((Cond.selects zZ11 ⟨"java/util/List", "size", "()I"⟩ ⟨zZ11, "size", "()I"⟩)).before a0 Z = true := wAt hw (i := 173) rfl
theorem Wd178 {Z a0} (hw : HW a0 Z) : ((Cond.code ⟨zZ11, "size", "()I"⟩ kQ42 1 (Option.some FieldType.int))).before a0 Z = true := wAt hw (i := 178) rfl
theorem Wd177 {Z a0} (hw : HW a0 Z) : ((Cond.initialized zZ11)).before a0 Z = true := wAt hw (i := 177) rfl
theorem Wd171 {Z a0} (hw : HW a0 Z) : ((Cond.declares ⟨"java/util/List", "size", "()I"⟩)).before a0 Z = true := wAt hw (i := 171) rfl
theorem Wd172 {Z a0} (hw : HW a0 Z) : ((Cond.interfaceMethod "java/util/List" "java/util/List" "size" "()I")).before a0 Z = true := wAt hw (i := 172) rfl
theorem Wd174 {Z a0} (hw : HW a0 Z) : ((Cond.instanceMethod ⟨zZ11, "size", "()I"⟩)).before a0 Z = true := wAt hw (i := 174) rfl
theorem Wd175 {Z a0} (hw : HW a0 Z) : ((Cond.publicMethod ⟨zZ11, "size", "()I"⟩)).before a0 Z = true := wAt hw (i := 175) rfl
theorem Wd176 {Z a0} (hw : HW a0 Z) : ((Cond.unhidden zZ11 "size" "()I")).before a0 Z = true := wAt hw (i := 176) rfl
theorem Wd181 {Z a0} (hw : HW a0 Z) : ((Cond.methodLink zZ1 98 ⟨zZ0, "limits", zZ10⟩)).before a0 Z = true := wAt hw (i := 181) rfl
theorem Wd184 {Z a0} (hw : HW a0 Z) : ((Cond.selects zZ0 ⟨zZ0, "limits", zZ10⟩ ⟨zZ0, "limits", zZ10⟩)).before a0 Z = true := wAt hw (i := 184) rfl
theorem Wd185 {Z a0} (hw : HW a0 Z) : ((Cond.code ⟨zZ0, "limits", zZ10⟩ kQ38 1 (Option.some (FieldType.object zZ4)))).before a0 Z = true := wAt hw (i := 185) rfl
theorem pd26 : parseMethodDescriptor "()Lcom/example/echo_panel/echopanel/channel/DisplayLimits;" = some ⟨[], some (.object "com/example/echo_panel/echopanel/channel/DisplayLimits")⟩ := by decide +kernel
theorem Wd182 {Z a0} (hw : HW a0 Z) : ((Cond.declares ⟨zZ0, "limits", zZ10⟩)).before a0 Z = true := wAt hw (i := 182) rfl
theorem Wd183 {Z a0} (hw : HW a0 Z) : ((Cond.instanceMethod ⟨zZ0, "limits", zZ10⟩)).before a0 Z = true := wAt hw (i := 183) rfl
theorem Wd323 {Z a0} (hw : HW a0 Z) : ((Cond.methodLink zZ1 102 ⟨zZ4, "lower", "()D"⟩)).before a0 Z = true := wAt hw (i := 323) rfl
theorem Wd326 {Z a0} (hw : HW a0 Z) : ((Cond.selects zZ4 ⟨zZ4, "lower", "()D"⟩ ⟨zZ4, "lower", "()D"⟩)).before a0 Z = true := wAt hw (i := 326) rfl
theorem Wd327 {Z a0} (hw : HW a0 Z) : ((Cond.code ⟨zZ4, "lower", "()D"⟩ kQ40 1 (Option.some FieldType.double))).before a0 Z = true := wAt hw (i := 327) rfl
theorem Wd310 {Z a0} (hw : HW a0 Z) : ((Cond.initialized zZ4)).before a0 Z = true := wAt hw (i := 310) rfl
theorem pd27 : parseMethodDescriptor "()D" = some ⟨[], some .double⟩ := by decide +kernel
theorem Wd324 {Z a0} (hw : HW a0 Z) : ((Cond.declares ⟨zZ4, "lower", "()D"⟩)).before a0 Z = true := wAt hw (i := 324) rfl
theorem Wd325 {Z a0} (hw : HW a0 Z) : ((Cond.instanceMethod ⟨zZ4, "lower", "()D"⟩)).before a0 Z = true := wAt hw (i := 325) rfl
theorem Wd328 {Z a0} (hw : HW a0 Z) : ((Cond.methodLink zZ1 106 ⟨zZ4, "upper", "()D"⟩)).before a0 Z = true := wAt hw (i := 328) rfl
theorem Wd331 {Z a0} (hw : HW a0 Z) : ((Cond.selects zZ4 ⟨zZ4, "upper", "()D"⟩ ⟨zZ4, "upper", "()D"⟩)).before a0 Z = true := wAt hw (i := 331) rfl
theorem Wd332 {Z a0} (hw : HW a0 Z) : ((Cond.code ⟨zZ4, "upper", "()D"⟩ kQ41 1 (Option.some FieldType.double))).before a0 Z = true := wAt hw (i := 332) rfl
theorem Wd329 {Z a0} (hw : HW a0 Z) : ((Cond.declares ⟨zZ4, "upper", "()D"⟩)).before a0 Z = true := wAt hw (i := 329) rfl
theorem Wd330 {Z a0} (hw : HW a0 Z) : ((Cond.instanceMethod ⟨zZ4, "upper", "()D"⟩)).before a0 Z = true := wAt hw (i := 330) rfl
theorem Wd75 {Z a0} (hw : HW a0 Z) : ((Cond.classLink zZ1 54 zZ0)).before a0 Z = true := wAt hw (i := 75) rfl
theorem Wd78 {Z a0} (hw : HW a0 Z) : ((Cond.methodLink zZ1 59 ⟨zZ0, "<init>", zZ14⟩)).before a0 Z = true := wAt hw (i := 78) rfl
theorem Wd80 {Z a0} (hw : HW a0 Z) : ((Cond.code ⟨zZ0, "<init>", zZ14⟩ kQ31 6 (Option.none : Option Jvm.ClassFile.FieldType))).before a0 Z = true := wAt hw (i := 80) rfl
theorem pd28 : parseMethodDescriptor "(ZLcom/example/echo_panel/echopanel/channel/Severity;ILjava/util/List;Ljava/lang/Object;)V" = some ⟨[.boolean, (.object "com/example/echo_panel/echopanel/channel/Severity"), .int, (.object "java/util/List"), (.object "java/lang/Object")], none⟩ := by decide +kernel
theorem Wd79 {Z a0} (hw : HW a0 Z) : ((Cond.instanceMethod ⟨zZ0, "<init>", zZ14⟩)).before a0 Z = true := wAt hw (i := 79) rfl
theorem Wd308 {Z a0} (hw : HW a0 Z) : ((Cond.classLink zZ1 49 zZ4)).before a0 Z = true := wAt hw (i := 308) rfl
theorem Wd311 {Z a0} (hw : HW a0 Z) : ((Cond.methodLink zZ1 51 ⟨zZ4, "<init>", "(DD)V"⟩)).before a0 Z = true := wAt hw (i := 311) rfl
theorem Wd313 {Z a0} (hw : HW a0 Z) : ((Cond.code ⟨zZ4, "<init>", "(DD)V"⟩ kQ39 5 (Option.none : Option Jvm.ClassFile.FieldType))).before a0 Z = true := wAt hw (i := 313) rfl
theorem pd29 : parseMethodDescriptor "(DD)V" = some ⟨[.double, .double], none⟩ := by decide +kernel
theorem Wd312 {Z a0} (hw : HW a0 Z) : ((Cond.instanceMethod ⟨zZ4, "<init>", "(DD)V"⟩)).before a0 Z = true := wAt hw (i := 312) rfl
theorem Wd319 {Z a0} (hw : HW a0 Z) : ((Cond.methodLink zZ1 56 ⟨zZ0, "<init>", zZ5⟩)).before a0 Z = true := wAt hw (i := 319) rfl
theorem Wd219 {Z a0} (hw : HW a0 Z) : ((Cond.methodLink zZ1 44 ⟨"java/lang/Integer", "valueOf", "(I)Ljava/lang/Integer;"⟩)).before a0 Z = true := wAt hw (i := 219) rfl
theorem Wd222 {Z a0} (hw : HW a0 Z) : ((Cond.code ⟨"java/lang/Integer", "valueOf", "(I)Ljava/lang/Integer;"⟩ kQ3 1 (Option.some (FieldType.object "java/lang/Integer")))).before a0 Z = true := wAt hw (i := 222) rfl
theorem pd30 : parseMethodDescriptor "(I)Ljava/lang/Integer;" = some ⟨[.int], some (.object "java/lang/Integer")⟩ := by decide +kernel
theorem Wd220 {Z a0} (hw : HW a0 Z) : ((Cond.static ⟨"java/lang/Integer", "valueOf", "(I)Ljava/lang/Integer;"⟩)).before a0 Z = true := wAt hw (i := 220) rfl
theorem Wd190 {Z a0} (hw : HW a0 Z) : ((Cond.methodLink zZ1 40 ⟨"java/util/ArrayList", "add", "(Ljava/lang/Object;)Z"⟩)).before a0 Z = true := wAt hw (i := 190) rfl
theorem Wd193 {Z a0} (hw : HW a0 Z) : ((Cond.selects "java/util/ArrayList" ⟨"java/util/ArrayList", "add", "(Ljava/lang/Object;)Z"⟩ ⟨"java/util/ArrayList", "add", "(Ljava/lang/Object;)Z"⟩)).before a0 Z = true := wAt hw (i := 193) rfl
theorem Wd194 {Z a0} (hw : HW a0 Z) : ((Cond.code ⟨"java/util/ArrayList", "add", "(Ljava/lang/Object;)Z"⟩ kQ11 2 (Option.some FieldType.boolean))).before a0 Z = true := wAt hw (i := 194) rfl
theorem pd31 : parseMethodDescriptor "(Ljava/lang/Object;)Z" = some ⟨[(.object "java/lang/Object")], some .boolean⟩ := by decide +kernel
theorem Wd191 {Z a0} (hw : HW a0 Z) : ((Cond.declares ⟨"java/util/ArrayList", "add", "(Ljava/lang/Object;)Z"⟩)).before a0 Z = true := wAt hw (i := 191) rfl
theorem Wd192 {Z a0} (hw : HW a0 Z) : ((Cond.instanceMethod ⟨"java/util/ArrayList", "add", "(Ljava/lang/Object;)Z"⟩)).before a0 Z = true := wAt hw (i := 192) rfl
theorem Wd290 {Z a0} (hw : HW a0 Z) : ((Cond.selects zZ3 ⟨"java/util/List", "size", "()I"⟩ ⟨zZ3, "size", "()I"⟩)).before a0 Z = true := wAt hw (i := 290) rfl
theorem Wd294 {Z a0} (hw : HW a0 Z) : ((Cond.code ⟨zZ3, "size", "()I"⟩ kQ43 1 (Option.some FieldType.int))).before a0 Z = true := wAt hw (i := 294) rfl
theorem Wd291 {Z a0} (hw : HW a0 Z) : ((Cond.instanceMethod ⟨zZ3, "size", "()I"⟩)).before a0 Z = true := wAt hw (i := 291) rfl
theorem Wd292 {Z a0} (hw : HW a0 Z) : ((Cond.publicMethod ⟨zZ3, "size", "()I"⟩)).before a0 Z = true := wAt hw (i := 292) rfl
theorem Wd293 {Z a0} (hw : HW a0 Z) : ((Cond.unhidden zZ3 "size" "()I")).before a0 Z = true := wAt hw (i := 293) rfl
theorem Wd295 {Z a0} (hw : HW a0 Z) : ((Cond.methodLink zZ1 91 ⟨"java/util/List", "get", "(I)Ljava/lang/Object;"⟩)).before a0 Z = true := wAt hw (i := 295) rfl
theorem Wd298 {Z a0} (hw : HW a0 Z) : ((Cond.selects zZ3 ⟨"java/util/List", "get", "(I)Ljava/lang/Object;"⟩ ⟨zZ3, "get", "(I)Ljava/lang/Object;"⟩)).before a0 Z = true := wAt hw (i := 298) rfl
theorem Wd302 {Z a0} (hw : HW a0 Z) : ((Cond.code ⟨zZ3, "get", "(I)Ljava/lang/Object;"⟩ kQ44 2 (Option.some (FieldType.object "java/lang/Object")))).before a0 Z = true := wAt hw (i := 302) rfl
theorem pd32 : parseMethodDescriptor "(I)Ljava/lang/Object;" = some ⟨[.int], some (.object "java/lang/Object")⟩ := by decide +kernel
theorem Wd296 {Z a0} (hw : HW a0 Z) : ((Cond.declares ⟨"java/util/List", "get", "(I)Ljava/lang/Object;"⟩)).before a0 Z = true := wAt hw (i := 296) rfl
theorem Wd297 {Z a0} (hw : HW a0 Z) : ((Cond.interfaceMethod "java/util/List" "java/util/List" "get" "(I)Ljava/lang/Object;")).before a0 Z = true := wAt hw (i := 297) rfl
theorem Wd299 {Z a0} (hw : HW a0 Z) : ((Cond.instanceMethod ⟨zZ3, "get", "(I)Ljava/lang/Object;"⟩)).before a0 Z = true := wAt hw (i := 299) rfl
theorem Wd300 {Z a0} (hw : HW a0 Z) : ((Cond.publicMethod ⟨zZ3, "get", "(I)Ljava/lang/Object;"⟩)).before a0 Z = true := wAt hw (i := 300) rfl
theorem Wd301 {Z a0} (hw : HW a0 Z) : ((Cond.unhidden zZ3 "get" "(I)Ljava/lang/Object;")).before a0 Z = true := wAt hw (i := 301) rfl
theorem Wd303 {Z a0} (hw : HW a0 Z) : ((Cond.methodLink zZ1 95 ⟨"java/lang/String", "equals", "(Ljava/lang/Object;)Z"⟩)).before a0 Z = true := wAt hw (i := 303) rfl
theorem Wd306 {Z a0} (hw : HW a0 Z) : ((Cond.selects "java/lang/String" ⟨"java/lang/String", "equals", "(Ljava/lang/Object;)Z"⟩ ⟨"java/lang/String", "equals", "(Ljava/lang/Object;)Z"⟩)).before a0 Z = true := wAt hw (i := 306) rfl
theorem Wd307 {Z a0} (hw : HW a0 Z) : ((Cond.code ⟨"java/lang/String", "equals", "(Ljava/lang/Object;)Z"⟩ kQ45 3 (Option.some FieldType.boolean))).before a0 Z = true := wAt hw (i := 307) rfl
theorem Wd304 {Z a0} (hw : HW a0 Z) : ((Cond.declares ⟨"java/lang/String", "equals", "(Ljava/lang/Object;)Z"⟩)).before a0 Z = true := wAt hw (i := 304) rfl
theorem Wd305 {Z a0} (hw : HW a0 Z) : ((Cond.instanceMethod ⟨"java/lang/String", "equals", "(Ljava/lang/Object;)Z"⟩)).before a0 Z = true := wAt hw (i := 305) rfl
theorem own_noAL {Z : State} {a0 : Array Value} (hw : HW a0 Z) {K : String} (hk : OrdC Z K) (h1 : "java/util/ArrayList" ≠ K) (h2 : "java/util/AbstractList" ≠ K) (h3 : zZ8 ≠ K) (h4 : "java/lang/Object" ≠ K) : ∃ c t, Z.vm.findClass "java/util/ArrayList" = some c ∧ Z.vm.findClass K = some t ∧ Z.vm.assignable c t = false :=
  own_nsNo (Wd99 hw) hk (NS.step (Wd99 hw) (NS.step (Wd100 hw) (NS.step (Wd101 hw) (own_nsRoot (Wd102 hw) hk h4) h3) h2) h1) h1
def Q_rmR (Z : State) (a1 : Addr) (h0 : Heap) (v : Option Value) (h : Heap) (L : List Loc) : Prop := v = none ∧ L = [] ∧ h = h0
set_option maxRecDepth 65536 in
set_option maxHeartbeats 40000000 in
theorem rmR (l : Launch) (Z : State) (a0 : Array Value) (hw : HW a0 Z) (ws : List Jvm.Cond) (a1 : Addr) (h0 : Heap)  :
    MetFree l (⟨"java/lang/Record", "<init>", "()V"⟩ : MethodName) (head1 (Jvm.Cond.code (⟨"java/lang/Record", "<init>", "()V"⟩ : MethodName) kQ0 1 none :: ws) (rO 1 0 0 12)) (fun a U => a = #[(.ref a1)] ∧ Z.Warmed39 U.vm ∧ U.heap = h0) (fun _ _ _ _ _ => True) (fun _ U o U' => ∃ v L, o = .returned v ∧ Q_rmR Z a1 h0 v U'.heap L ∧ FrameEnd U o U' L (rO 1 0 0 12).cells (rO 1 0 0 12).slots) := by
  refine MetFree.of_bodySF (plainFor_of_name pn0) hisR ?_
  intro p e s m args below meth c s₁ Bd hml0 hP hK
  obtain ⟨rfl, hZ, hh⟩ := hP
  have hx := Bd.exec
  have hby := Bd.bytes
  have bd : ∀ {pc r}, decode kQ0 pc = r → decode c.code pc = r := fun q => hb hby q
  have hlk : meth.locks = false := Bd.notSynchronized
  have hml : c.maxLocals = 1 := hml0
  have hown : s.vm.findClass "java/lang/Record" = some m.cls := findClass_of_methodNamed Bd.named
  have hnm := (name_of_methodNamed Bd.named Bd.method).1
  have X0 : Stand p l e (rO 1 0 0 12) s m #[(.ref a1)] below meth c s₁ [] 0 0 := Stand.of_body Bd
  have e0 : s₁.heap = h0 := by rw [← hh, Bd.state]; rfl
  suffices hgo : OD p e s below (Q_rmR Z a1 h0) (rO 1 0 0 12).cells (rO 1 0 0 12).slots (s₁.setTop (mkF m 0 #[.val (.ref a1)] [])) by
    obtain ⟨s₂, o, hgo1, hgo2⟩ := hgo
    exact ⟨s₂, o, castTop (ef0 m a1) hgo1, hgo2⟩
  refine OD.go (B := (s₁.setTop (mkF m 1 #[.val (.ref a1)] [(.ref a1)]))) (fun t k => XS.aloadN X0.here hx rfl (bd d17_0) rfl rfl k) ?_
  obtain ⟨T1, X1, e1, st1⟩ := initO X0 hx hZ hown (Wd89 hw) (Wd19 hw) (Wd20 hw) e0 (g := (mkF m 1 #[.val (.ref a1)] [(.ref a1)])) rfl (by rw [hml]; rfl) rfl (bd d17_1) (by decide) (W := 0) (by show 2 * 0 + _ ≤ _; exact Nat.le_of_eq rfl) (by decide)
  refine OD.go (B := (T1.setTop (mkF m 4 #[.val (.ref a1)] []))) st1 ?_
  exact OD.retV X1 hx hlk Bd.returns (bd d17_4) (nl rfl) (nl rfl) ⟨rfl, rfl, e1⟩
def Q_rmNu (Z : State) (a1 : Addr) (h0 : Heap) (v : Option Value) (h : Heap) (L : List Loc) : Prop := v = none ∧ L = [] ∧ h = h0
set_option maxRecDepth 65536 in
set_option maxHeartbeats 40000000 in
theorem rmNu (l : Launch) (Z : State) (a0 : Array Value) (hw : HW a0 Z) (ws : List Jvm.Cond) (a1 : Addr) (h0 : Heap)  :
    MetFree l (⟨"java/lang/Number", "<init>", "()V"⟩ : MethodName) (head1 (Jvm.Cond.code (⟨"java/lang/Number", "<init>", "()V"⟩ : MethodName) kQ1 1 none :: ws) (rO 1 0 0 12)) (fun a U => a = #[(.ref a1)] ∧ Z.Warmed39 U.vm ∧ U.heap = h0) (fun _ _ _ _ _ => True) (fun _ U o U' => ∃ v L, o = .returned v ∧ Q_rmNu Z a1 h0 v U'.heap L ∧ FrameEnd U o U' L (rO 1 0 0 12).cells (rO 1 0 0 12).slots) := by
  refine MetFree.of_bodySF (plainFor_of_name pn1) hisR ?_
  intro p e s m args below meth c s₁ Bd hml0 hP hK
  obtain ⟨rfl, hZ, hh⟩ := hP
  have hx := Bd.exec
  have hby := Bd.bytes
  have bd : ∀ {pc r}, decode kQ1 pc = r → decode c.code pc = r := fun q => hb hby q
  have hlk : meth.locks = false := Bd.notSynchronized
  have hml : c.maxLocals = 1 := hml0
  have hown : s.vm.findClass "java/lang/Number" = some m.cls := findClass_of_methodNamed Bd.named
  have hnm := (name_of_methodNamed Bd.named Bd.method).1
  have X0 : Stand p l e (rO 1 0 0 12) s m #[(.ref a1)] below meth c s₁ [] 0 0 := Stand.of_body Bd
  have e0 : s₁.heap = h0 := by rw [← hh, Bd.state]; rfl
  suffices hgo : OD p e s below (Q_rmNu Z a1 h0) (rO 1 0 0 12).cells (rO 1 0 0 12).slots (s₁.setTop (mkF m 0 #[.val (.ref a1)] [])) by
    obtain ⟨s₂, o, hgo1, hgo2⟩ := hgo
    exact ⟨s₂, o, castTop (ef0 m a1) hgo1, hgo2⟩
  refine OD.go (B := (s₁.setTop (mkF m 1 #[.val (.ref a1)] [(.ref a1)]))) (fun t k => XS.aloadN X0.here hx rfl (bd d53_0) rfl rfl k) ?_
  obtain ⟨T1, X1, e1, st1⟩ := initO X0 hx hZ hown (Wd347 hw) (Wd19 hw) (Wd20 hw) e0 (g := (mkF m 1 #[.val (.ref a1)] [(.ref a1)])) rfl (by rw [hml]; rfl) rfl (bd d53_1) (by decide) (W := 0) (by show 2 * 0 + _ ≤ _; exact Nat.le_of_eq rfl) (by decide)
  refine OD.go (B := (T1.setTop (mkF m 4 #[.val (.ref a1)] []))) st1 ?_
  exact OD.retV X1 hx hlk Bd.returns (bd d53_4) (nl rfl) (nl rfl) ⟨rfl, rfl, e1⟩
def Q_rmIi (Z : State) (a1 : Addr) (p1 : Int32) (h0 : Heap) (n0 : Nat) (v : Option Value) (h : Heap) (L : List Loc) : Prop := v = none ∧ Fr n0 L ∧ Keep h0 h [a1] ∧ Fld Z h a1 "java/lang/Integer" "value" "I" (.int p1)
set_option maxRecDepth 65536 in
set_option maxHeartbeats 40000000 in
theorem rmIi (l : Launch) (Z : State) (a0 : Array Value) (hw : HW a0 Z) (ws : List Jvm.Cond) (a1 : Addr) (p1 : Int32) (h0 : Heap) (n0 : Nat) (Z0 : n0 ≤ h0.size) (E1 : Exa Z h0 a1 "java/lang/Integer") (F0 : Fld Z h0 a1 "java/lang/Integer" "value" "I" (.int 0)) (g1 : n0 ≤ a1) :
    MetFree l (⟨"java/lang/Integer", "<init>", "(I)V"⟩ : MethodName) (head1 (Jvm.Cond.code (⟨"java/lang/Integer", "<init>", "(I)V"⟩ : MethodName) kQ2 2 none :: ws) (rO 2 0 0 24)) (fun a U => a = #[(.ref a1), (.int p1)] ∧ Z.Warmed39 U.vm ∧ U.heap = h0) (fun _ _ _ _ _ => True) (fun _ U o U' => ∃ v L, o = .returned v ∧ Q_rmIi Z a1 p1 h0 n0 v U'.heap L ∧ FrameEnd U o U' L (rO 2 0 0 24).cells (rO 2 0 0 24).slots) := by
  refine MetFree.of_bodySF (plainFor_of_name pn2) hisR ?_
  intro p e s m args below meth c s₁ Bd hml0 hP hK
  obtain ⟨rfl, hZ, hh⟩ := hP
  have hx := Bd.exec
  have hby := Bd.bytes
  have bd : ∀ {pc r}, decode kQ2 pc = r → decode c.code pc = r := fun q => hb hby q
  have hlk : meth.locks = false := Bd.notSynchronized
  have hml : c.maxLocals = 2 := hml0
  have hown : s.vm.findClass "java/lang/Integer" = some m.cls := findClass_of_methodNamed Bd.named
  have hnm := (name_of_methodNamed Bd.named Bd.method).1
  have X0 : Stand p l e (rO 2 0 0 24) s m #[(.ref a1), (.int p1)] below meth c s₁ [] 0 0 := Stand.of_body Bd
  have e0 : s₁.heap = h0 := by rw [← hh, Bd.state]; rfl
  have N0 := Fr.nil n0
  suffices hgo : OD p e s below (Q_rmIi Z a1 p1 h0 n0) (rO 2 0 0 24).cells (rO 2 0 0 24).slots (s₁.setTop (mkF m 0 #[.val (.ref a1), .val (.int p1)] [])) by
    obtain ⟨s₂, o, hgo1, hgo2⟩ := hgo
    exact ⟨s₂, o, castTop (ef1 m a1 p1) hgo1, hgo2⟩
  refine OD.go (B := (s₁.setTop (mkF m 1 #[.val (.ref a1), .val (.int p1)] [(.ref a1)]))) (fun t k => XS.aloadN X0.here hx rfl (bd d52_0) rfl rfl k) ?_
  obtain ⟨_, _, ⟨T1, L1, k1, n1⟩, -, X1, ⟨Lc1, hQ1, l1, y1, z1⟩, st1⟩ := X0.specialBack hx (y := (⟨"java/lang/Number", "<init>", "()V"⟩ : MethodName)) rfl hown (mvT hZ (Wd341 hw)) (mvT hZ (Wd342 hw)) (mvT hZ (Wd346 hw)) (by decide) (backOf (W := 0) (rmNu l Z a0 hw [] a1 h0) hZ (Wd346 hw) (Wd345 hw) (by decide) (by decide)) (g := (mkF m 1 #[.val (.ref a1), .val (.int p1)] [(.ref a1)])) rfl (by rw [hml]; rfl) (Steps.refl _) (a := a1) (argsL := []) (rest := []) (lenOf pd0 rfl) rfl (by show 2 * 0 + _ ≤ _; exact Nat.le_of_eq rfl) (bd d52_1) (fun _ _ => ⟨rfl, e0, (nl rfl), (nl rfl)⟩)
  dsimp only [Pt.U, Pt.locs, Pt.cells, Pt.slots] at X1 l1 y1 z1 st1 hQ1
  subst l1 y1 z1
  obtain ⟨rfl, rfl, e1⟩ := hQ1
  have N1 := Fr.app N0 (Fr.nil _)
  refine OD.via st1 ?_
  refine OD.go (B := (T1.setTop (mkF m 6 #[.val (.ref a1), .val (.int p1)] [(.int p1), (.ref a1)]))) (fun t k => XS.aloadN X1.here hx rfl (bd d52_4) rfl rfl (XS.iloadN X1.here hx rfl (bd d52_5) rfl k)) ?_
  obtain ⟨T2, h2, X2, e2, W2, st2⟩ := putF X1 hx hZ hown (host := "") (Or.inl (Wd348 hw)) Via.refl e1 F0 E1 (Or.inr ⟨(Wd349 hw), rfl, hnm⟩) (Wd336 hw) (ty := .int) (by decide) rfl rfl (g := (mkF m 6 #[.val (.ref a1), .val (.int p1)] [(.int p1), (.ref a1)])) rfl rfl (bd d52_6)
  have Fx2 := F0.same W2
  have N2 := Fr.snoc X2 N1 g1
  refine OD.go (B := (T2.setTop (mkF m 9 #[.val (.ref a1), .val (.int p1)] []))) st2 ?_
  exact OD.retV X2 hx hlk Bd.returns (bd d52_9) (nl rfl) (nl rfl) ⟨rfl, N2, by rw [e2]; exact ((Keep.refl h0 [a1]).wr W2 (Or.inl (List.mem_of_getElem? (i := 0) rfl))), by rw [e2]; exact Fx2⟩
def Q_rmIV (Z : State) (x0 : Int32) (h0 : Heap) (n0 : Nat) (v : Option Value) (h : Heap) (L : List Loc) : Prop := ∃ w, v = some w ∧ w.isRef = true ∧ Fr n0 L ∧ Keep h0 h []
set_option maxRecDepth 65536 in
set_option maxHeartbeats 40000000 in
theorem rmIV (l : Launch) (Z : State) (a0 : Array Value) (hw : HW a0 Z) (ws : List Jvm.Cond) (x0 : Int32) (h0 : Heap) (n0 : Nat) (Z0 : n0 ≤ h0.size) (X00 : Old Z n0 h0) (ca : Addr) (Sh : Sta Z Z.heap zZ20 "high" "I" (.int 127)) (Sc : Sta Z Z.heap zZ20 "cache" "[Ljava/lang/Integer;" (.ref ca)) (Cc : OCach Z ca "java/lang/Integer") :
    MetFree l (⟨"java/lang/Integer", "valueOf", "(I)Ljava/lang/Integer;"⟩ : MethodName) (head1 (Jvm.Cond.code (⟨"java/lang/Integer", "valueOf", "(I)Ljava/lang/Integer;"⟩ : MethodName) kQ3 1 (some (.object "java/lang/Integer")) :: ws) (rO 3 1 1 38)) (fun a U => a = #[(.int x0)] ∧ Z.Warmed39 U.vm ∧ U.heap = h0) (fun _ _ _ _ _ => True) (fun _ U o U' => ∃ v L, o = .returned v ∧ Q_rmIV Z x0 h0 n0 v U'.heap L ∧ FrameEnd U o U' L (rO 3 1 1 38).cells (rO 3 1 1 38).slots) := by
  refine MetFree.of_bodySF (plainFor_of_name pn2) hisR ?_
  intro p e s m args below meth c s₁ Bd hml0 hP hK
  obtain ⟨rfl, hZ, hh⟩ := hP
  have hx := Bd.exec
  have hby := Bd.bytes
  have bd : ∀ {pc r}, decode kQ3 pc = r → decode c.code pc = r := fun q => hb hby q
  have hlk : meth.locks = false := Bd.notSynchronized
  have hml : c.maxLocals = 1 := hml0
  have hown : s.vm.findClass "java/lang/Integer" = some m.cls := findClass_of_methodNamed Bd.named
  have hnm := (name_of_methodNamed Bd.named Bd.method).1
  have X0 : Stand p l e (rO 3 1 1 38) s m #[(.int x0)] below meth c s₁ [] 0 0 := Stand.of_body Bd
  have e0 : s₁.heap = h0 := by rw [← hh, Bd.state]; rfl
  have N0 := Fr.nil n0
  suffices hgo : OD p e s below (Q_rmIV Z x0 h0 n0) (rO 3 1 1 38).cells (rO 3 1 1 38).slots (s₁.setTop (mkF m 0 #[.val (.int x0)] [])) by
    obtain ⟨s₂, o, hgo1, hgo2⟩ := hgo
    exact ⟨s₂, o, castTop (ef2 m x0) hgo1, hgo2⟩
  refine OD.go (B := (s₁.setTop (mkF m 3 #[.val (.int x0)] [(.int (-128 : Int32)), (.int x0)]))) (fun t k => XS.iloadN X0.here hx rfl (bd d35_0) rfl (XS.bipush X0.here hx rfl (bd d35_1) k)) ?_
  by_cases c3_1 : x0 < (-128 : Int32)
  · refine OD.go (B := (s₁.setTop (mkF m 23 #[.val (.int x0)] []))) (fun t k => XS.icmpYes X0.here hx rfl (pc0 := 3) (pc' := 23) rfl (bd d35_3) rfl (tlt c3_1).1 (by decide) (by decide) k) ?_
    obtain ⟨T2, h2, X2, e2, E2, A2, D2, -, st2⟩ := newO X0 hx hZ hown (Wd335 hw) (Wd336 hw) (Wd221 hw) e0 (g := (mkF m 23 #[.val (.int x0)] [])) rfl (bd d35_23) (nl rfl) (nl rfl)
    obtain ⟨b2, g2⟩ : ∃ z, z = h0.size := ⟨_, rfl⟩
    rw [← g2] at A2 D2 st2
    have Fn3 : Fld Z h2 b2 "java/lang/Integer" "value" "I" (.int 0) := D2 (Or.inr (Wd349 hw)) (ty := .int) (by decide)
    refine OD.go st2 ?_
    refine OD.go (B := (T2.setTop (mkF m 28 #[.val (.int x0)] [(.int x0), (.ref b2), (.ref b2)]))) (fun t k => XS.dup X2.here hx rfl (bd d35_26) rfl rfl (XS.iloadN X2.here hx rfl (bd d35_27) rfl k)) ?_
    obtain ⟨_, _, ⟨T4, L4, k4, n4⟩, -, X4, ⟨Lc4, hQ4, l4, y4, z4⟩, st4⟩ := X2.specialBack hx (y := (⟨"java/lang/Integer", "<init>", "(I)V"⟩ : MethodName)) rfl hown (mvT hZ (Wd337 hw)) (mvT hZ (Wd338 hw)) (mvT hZ (Wd340 hw)) (by decide) (backOf (W := 1) (rmIi l Z a0 hw [] b2 x0 h2 n0 (Nat.le_trans Z0 E2.1) A2 Fn3 (Nat.le_trans Z0 (Nat.le_of_eq g2.symm))) hZ (Wd340 hw) (Wd221 hw) (by decide) (by decide)) (g := (mkF m 28 #[.val (.int x0)] [(.int x0), (.ref b2), (.ref b2)])) rfl (by rw [hml]; rfl) (Steps.refl _) (a := b2) (argsL := [(.int x0)]) (rest := [(.ref b2)]) (lenOf pd1 rfl) rfl (by show 2 * 0 + _ ≤ _; exact Nat.le_of_eq rfl) (bd d35_28) (fun _ _ => ⟨rfl, e2, (nl rfl), (nl rfl)⟩)
    dsimp only [Pt.U, Pt.locs, Pt.cells, Pt.slots] at X4 l4 y4 z4 st4 hQ4
    subst l4 y4 z4
    obtain ⟨rfl, Nq4, K4, G0_4⟩ := hQ4
    have N4 := Fr.app N0 Nq4
    refine OD.via (B := (T4.setTop (mkF m 31 #[.val (.int x0)] [(.ref b2)]))) st4 ?_
    exact OD.ret X4 hx hlk (t := (.object "java/lang/Integer")) Bd.returns rfl (Or.inr (Or.inr (Or.inr (Or.inr ⟨rfl, rfl, rfl⟩)))) (bd d35_31) (nl rfl) (nl rfl) ⟨_, rfl, rfl, N4, by exact (((Keep.refl h0 []).ext E2).trans K4 (allS (Or.inr (Nat.le_trans (Nat.le_refl _) (Nat.le_of_eq g2.symm))) all0))⟩
  · refine OD.go (B := (s₁.setTop (mkF m 7 #[.val (.int x0)] [(.int x0)]))) (fun t k => XS.icmpNo X0.here hx rfl (bd d35_3) rfl (flt c3_1).1 (XS.iloadN X0.here hx rfl (bd d35_6) rfl k)) ?_
    have f5 := (Sh.ext X00.2)
    obtain ⟨T6, X6, e6, st6⟩ := getS2 X0 hx hZ hown (host := "") (Or.inl (Wd223 hw)) Via.refl e0 f5 (g := (mkF m 7 #[.val (.int x0)] [(.int x0)])) rfl (bd d35_7)
    refine OD.go (B := (T6.setTop (mkF m 10 #[.val (.int x0)] [(.int 127), (.int x0)]))) st6 ?_
    by_cases c10_7 : (127 : Int32) < x0
    · refine OD.go (B := (T6.setTop (mkF m 23 #[.val (.int x0)] []))) (fun t k => XS.icmpYes X6.here hx rfl (pc0 := 10) (pc' := 23) rfl (bd d35_10) rfl (tlt c10_7).2.2.1 (by decide) (by decide) k) ?_
      obtain ⟨T8, h8, X8, e8, E8, A8, D8, -, st8⟩ := newO X6 hx hZ hown (Wd335 hw) (Wd336 hw) (Wd221 hw) e6 (g := (mkF m 23 #[.val (.int x0)] [])) rfl (bd d35_23) (nl rfl) (nl rfl)
      obtain ⟨b8, g8⟩ : ∃ z, z = h0.size := ⟨_, rfl⟩
      rw [← g8] at A8 D8 st8
      have Fn9 : Fld Z h8 b8 "java/lang/Integer" "value" "I" (.int 0) := D8 (Or.inr (Wd349 hw)) (ty := .int) (by decide)
      refine OD.go st8 ?_
      refine OD.go (B := (T8.setTop (mkF m 28 #[.val (.int x0)] [(.int x0), (.ref b8), (.ref b8)]))) (fun t k => XS.dup X8.here hx rfl (bd d35_26) rfl rfl (XS.iloadN X8.here hx rfl (bd d35_27) rfl k)) ?_
      obtain ⟨_, _, ⟨T10, L10, k10, n10⟩, -, X10, ⟨Lc10, hQ10, l10, y10, z10⟩, st10⟩ := X8.specialBack hx (y := (⟨"java/lang/Integer", "<init>", "(I)V"⟩ : MethodName)) rfl hown (mvT hZ (Wd337 hw)) (mvT hZ (Wd338 hw)) (mvT hZ (Wd340 hw)) (by decide) (backOf (W := 1) (rmIi l Z a0 hw [] b8 x0 h8 n0 (Nat.le_trans Z0 E8.1) A8 Fn9 (Nat.le_trans Z0 (Nat.le_of_eq g8.symm))) hZ (Wd340 hw) (Wd221 hw) (by decide) (by decide)) (g := (mkF m 28 #[.val (.int x0)] [(.int x0), (.ref b8), (.ref b8)])) rfl (by rw [hml]; rfl) (Steps.refl _) (a := b8) (argsL := [(.int x0)]) (rest := [(.ref b8)]) (lenOf pd1 rfl) rfl (by show 2 * 0 + _ ≤ _; exact Nat.le_of_eq rfl) (bd d35_28) (fun _ _ => ⟨rfl, e8, (nl rfl), (nl rfl)⟩)
      dsimp only [Pt.U, Pt.locs, Pt.cells, Pt.slots] at X10 l10 y10 z10 st10 hQ10
      subst l10 y10 z10
      obtain ⟨rfl, Nq10, K10, G0_10⟩ := hQ10
      have N10 := Fr.app N0 Nq10
      refine OD.via (B := (T10.setTop (mkF m 31 #[.val (.int x0)] [(.ref b8)]))) st10 ?_
      exact OD.ret X10 hx hlk (t := (.object "java/lang/Integer")) Bd.returns rfl (Or.inr (Or.inr (Or.inr (Or.inr ⟨rfl, rfl, rfl⟩)))) (bd d35_31) (nl rfl) (nl rfl) ⟨_, rfl, rfl, N10, by exact (((Keep.refl h0 []).ext E8).trans K10 (allS (Or.inr (Nat.le_trans (Nat.le_refl _) (Nat.le_of_eq g8.symm))) all0))⟩
    · refine OD.go (B := (T6.setTop (mkF m 13 #[.val (.int x0)] []))) (fun t k => XS.icmpNo X6.here hx rfl (bd d35_10) rfl (flt c10_7).2.2.1 k) ?_
      have f11 := (Sc.ext X00.2)
      obtain ⟨T12, X12, e12, st12⟩ := getS2 X6 hx hZ hown (host := "") (Or.inl (Wd225 hw)) Via.refl e6 f11 (g := (mkF m 13 #[.val (.int x0)] [])) rfl (bd d35_13)
      refine OD.go st12 ?_
      refine OD.go (B := (T12.setTop (mkF m 21 #[.val (.int x0)] [(.int (x0 + (128 : Int32))), (.ref ca)]))) (fun t k => XS.iloadN X12.here hx rfl (bd d35_16) rfl (XS.sipush X12.here hx rfl (bd d35_17) (XS.iadd X12.here hx rfl (bd d35_20) rfl k))) ?_
      obtain ⟨cl13, Ar13, hj13⟩ := Cc
      obtain ⟨hi13, w13, ha13, rw13⟩ := hj13 (x0 + (128 : Int32)) (own_ci c3_1 c10_7)
      refine OD.go (B := (T12.setTop (mkF m 22 #[.val (.int x0)] [w13]))) (fun t k => X12.aaload hx (j := (x0 + (128 : Int32))) (v := w13) (by rw [e12]; exact (Ar13.ext X00.2).1) (State.isArrayOf_alike hZ.alike Ar13.2.1) rfl Ar13.2.2 hi13 ha13 (g := (mkF m 21 #[.val (.int x0)] [(.int (x0 + (128 : Int32))), (.ref ca)])) rfl rfl (bd d35_21) _ k) ?_
      exact OD.ret X12 hx hlk (t := (.object "java/lang/Integer")) Bd.returns (own_narR rw13) (Or.inr (Or.inr (Or.inr (Or.inr ⟨rfl, rfl, rw13⟩)))) (bd d35_22) (nl rfl) (nl rfl) ⟨_, rfl, rw13, N0, by rw [e12]; exact (Keep.refl h0 [])⟩
def Q_rmAC (Z : State) (a1 : Addr) (h0 : Heap) (v : Option Value) (h : Heap) (L : List Loc) : Prop := v = none ∧ L = [] ∧ h = h0
set_option maxRecDepth 65536 in
set_option maxHeartbeats 40000000 in
theorem rmAC (l : Launch) (Z : State) (a0 : Array Value) (hw : HW a0 Z) (ws : List Jvm.Cond) (a1 : Addr) (h0 : Heap)  :
    MetFree l (⟨zZ8, "<init>", "()V"⟩ : MethodName) (head1 (Jvm.Cond.code (⟨zZ8, "<init>", "()V"⟩ : MethodName) kQ4 1 none :: ws) (rO 1 0 0 12)) (fun a U => a = #[(.ref a1)] ∧ Z.Warmed39 U.vm ∧ U.heap = h0) (fun _ _ _ _ _ => True) (fun _ U o U' => ∃ v L, o = .returned v ∧ Q_rmAC Z a1 h0 v U'.heap L ∧ FrameEnd U o U' L (rO 1 0 0 12).cells (rO 1 0 0 12).slots) := by
  refine MetFree.of_bodySF (plainFor_of_name pn3) hisR ?_
  intro p e s m args below meth c s₁ Bd hml0 hP hK
  obtain ⟨rfl, hZ, hh⟩ := hP
  have hx := Bd.exec
  have hby := Bd.bytes
  have bd : ∀ {pc r}, decode kQ4 pc = r → decode c.code pc = r := fun q => hb hby q
  have hlk : meth.locks = false := Bd.notSynchronized
  have hml : c.maxLocals = 1 := hml0
  have hown : s.vm.findClass zZ8 = some m.cls := findClass_of_methodNamed Bd.named
  have hnm := (name_of_methodNamed Bd.named Bd.method).1
  have X0 : Stand p l e (rO 1 0 0 12) s m #[(.ref a1)] below meth c s₁ [] 0 0 := Stand.of_body Bd
  have e0 : s₁.heap = h0 := by rw [← hh, Bd.state]; rfl
  suffices hgo : OD p e s below (Q_rmAC Z a1 h0) (rO 1 0 0 12).cells (rO 1 0 0 12).slots (s₁.setTop (mkF m 0 #[.val (.ref a1)] [])) by
    obtain ⟨s₂, o, hgo1, hgo2⟩ := hgo
    exact ⟨s₂, o, castTop (ef0 m a1) hgo1, hgo2⟩
  refine OD.go (B := (s₁.setTop (mkF m 1 #[.val (.ref a1)] [(.ref a1)]))) (fun t k => XS.aloadN X0.here hx rfl (bd d14_0) rfl rfl k) ?_
  obtain ⟨T1, X1, e1, st1⟩ := initO X0 hx hZ hown (Wd69 hw) (Wd19 hw) (Wd20 hw) e0 (g := (mkF m 1 #[.val (.ref a1)] [(.ref a1)])) rfl (by rw [hml]; rfl) rfl (bd d14_1) (by decide) (W := 0) (by show 2 * 0 + _ ≤ _; exact Nat.le_of_eq rfl) (by decide)
  refine OD.go (B := (T1.setTop (mkF m 4 #[.val (.ref a1)] []))) st1 ?_
  exact OD.retV X1 hx hlk Bd.returns (bd d14_4) (nl rfl) (nl rfl) ⟨rfl, rfl, e1⟩
def Q_rmABL (Z : State) (a1 : Addr) (h0 : Heap) (n0 : Nat) (v : Option Value) (h : Heap) (L : List Loc) : Prop := v = none ∧ Fr n0 L ∧ Keep h0 h [a1] ∧ Fld Z h a1 "java/util/AbstractList" "modCount" "I" (.int 0) ∧ Fld Z h a1 cA "elementData" "[Ljava/lang/Object;" .null ∧ Fld Z h a1 cA "size" "I" (.int 0)
set_option maxRecDepth 65536 in
set_option maxHeartbeats 40000000 in
theorem rmABL (l : Launch) (Z : State) (a0 : Array Value) (hw : HW a0 Z) (ws : List Jvm.Cond) (a1 : Addr) (h0 : Heap) (n0 : Nat) (Z0 : n0 ≤ h0.size) (E1 : Exa Z h0 a1 cA) (F0 : Fld Z h0 a1 "java/util/AbstractList" "modCount" "I" (.int 0)) (F1 : Fld Z h0 a1 cA "elementData" "[Ljava/lang/Object;" .null) (F2 : Fld Z h0 a1 cA "size" "I" (.int 0)) (g1 : n0 ≤ a1) :
    MetFree l (⟨"java/util/AbstractList", "<init>", "()V"⟩ : MethodName) (head1 (Jvm.Cond.code (⟨"java/util/AbstractList", "<init>", "()V"⟩ : MethodName) kQ5 1 none :: ws) (rO 2 0 0 24)) (fun a U => a = #[(.ref a1)] ∧ Z.Warmed39 U.vm ∧ U.heap = h0) (fun _ _ _ _ _ => True) (fun _ U o U' => ∃ v L, o = .returned v ∧ Q_rmABL Z a1 h0 n0 v U'.heap L ∧ FrameEnd U o U' L (rO 2 0 0 24).cells (rO 2 0 0 24).slots) := by
  refine MetFree.of_bodySF (plainFor_of_name pn4) hisR ?_
  intro p e s m args below meth c s₁ Bd hml0 hP hK
  obtain ⟨rfl, hZ, hh⟩ := hP
  have hx := Bd.exec
  have hby := Bd.bytes
  have bd : ∀ {pc r}, decode kQ5 pc = r → decode c.code pc = r := fun q => hb hby q
  have hlk : meth.locks = false := Bd.notSynchronized
  have hml : c.maxLocals = 1 := hml0
  have hown : s.vm.findClass "java/util/AbstractList" = some m.cls := findClass_of_methodNamed Bd.named
  have hnm := (name_of_methodNamed Bd.named Bd.method).1
  have X0 : Stand p l e (rO 2 0 0 24) s m #[(.ref a1)] below meth c s₁ [] 0 0 := Stand.of_body Bd
  have e0 : s₁.heap = h0 := by rw [← hh, Bd.state]; rfl
  have N0 := Fr.nil n0
  suffices hgo : OD p e s below (Q_rmABL Z a1 h0 n0) (rO 2 0 0 24).cells (rO 2 0 0 24).slots (s₁.setTop (mkF m 0 #[.val (.ref a1)] [])) by
    obtain ⟨s₂, o, hgo1, hgo2⟩ := hgo
    exact ⟨s₂, o, castTop (ef0 m a1) hgo1, hgo2⟩
  refine OD.go (B := (s₁.setTop (mkF m 1 #[.val (.ref a1)] [(.ref a1)]))) (fun t k => XS.aloadN X0.here hx rfl (bd d13_0) rfl rfl k) ?_
  obtain ⟨_, _, ⟨T1, L1, k1, n1⟩, -, X1, ⟨Lc1, hQ1, l1, y1, z1⟩, st1⟩ := X0.specialBack hx (y := (⟨zZ8, "<init>", "()V"⟩ : MethodName)) rfl hown (mvT hZ (Wd63 hw)) (mvT hZ (Wd64 hw)) (mvT hZ (Wd68 hw)) (by decide) (backOf (W := 0) (rmAC l Z a0 hw [] a1 h0) hZ (Wd68 hw) (Wd67 hw) (by decide) (by decide)) (g := (mkF m 1 #[.val (.ref a1)] [(.ref a1)])) rfl (by rw [hml]; rfl) (Steps.refl _) (a := a1) (argsL := []) (rest := []) (lenOf pd0 rfl) rfl (by show 2 * 0 + _ ≤ _; exact Nat.le_of_eq rfl) (bd d13_1) (fun _ _ => ⟨rfl, e0, (nl rfl), (nl rfl)⟩)
  dsimp only [Pt.U, Pt.locs, Pt.cells, Pt.slots] at X1 l1 y1 z1 st1 hQ1
  subst l1 y1 z1
  obtain ⟨rfl, rfl, e1⟩ := hQ1
  have N1 := Fr.app N0 (Fr.nil _)
  refine OD.via st1 ?_
  refine OD.go (B := (T1.setTop (mkF m 6 #[.val (.ref a1)] [(.int 0), (.ref a1)]))) (fun t k => XS.aloadN X1.here hx rfl (bd d13_4) rfl rfl (XS.iconst X1.here hx rfl (bd d13_5) k)) ?_
  obtain ⟨T2, h2, X2, e2, W2, st2⟩ := putF X1 hx hZ hown (host := "") (Or.inl (Wd70 hw)) Via.refl e1 F0 E1 (Or.inl (Wd71 hw)) (Wd52 hw) (ty := .int) (by decide) rfl rfl (g := (mkF m 6 #[.val (.ref a1)] [(.int 0), (.ref a1)])) rfl rfl (bd d13_6)
  have Fx2 := F0.same W2
  have N2 := Fr.snoc X2 N1 g1
  refine OD.go (B := (T2.setTop (mkF m 9 #[.val (.ref a1)] []))) st2 ?_
  exact OD.retV X2 hx hlk Bd.returns (bd d13_9) (nl rfl) (nl rfl) ⟨rfl, N2, by rw [e2]; exact ((Keep.refl h0 [a1]).wr W2 (Or.inl (List.mem_of_getElem? (i := 0) rfl))), by rw [e2]; exact Fx2, by rw [e2]; exact (F1.other W2 (Or.inr (slot_ne (Or.inl (Wd74 hw)) (Or.inl (Wd71 hw)) (by decide) (t := (.array (.object cO))) (t' := .int) (by decide) (by decide)))), by rw [e2]; exact (F2.other W2 (Or.inr (slot_ne (Or.inl (Wd114 hw)) (Or.inl (Wd71 hw)) (by decide) (t := .int) (t' := .int) (by decide) (by decide))))⟩
def Q_rmAL (Z : State) (a1 : Addr) (h0 : Heap) (n0 : Nat) (dc : Addr) (v : Option Value) (h : Heap) (L : List Loc) : Prop := v = none ∧ Fr n0 L ∧ Keep h0 h [a1] ∧ Fld Z h a1 "java/util/AbstractList" "modCount" "I" (.int 0) ∧ Fld Z h a1 cA "elementData" "[Ljava/lang/Object;" (.ref dc) ∧ Fld Z h a1 cA "size" "I" (.int 0)
set_option maxRecDepth 65536 in
set_option maxHeartbeats 40000000 in
theorem rmAL (l : Launch) (Z : State) (a0 : Array Value) (hw : HW a0 Z) (ws : List Jvm.Cond) (a1 : Addr) (h0 : Heap) (n0 : Nat) (Z0 : n0 ≤ h0.size) (E1 : Exa Z h0 a1 cA) (F0 : Fld Z h0 a1 "java/util/AbstractList" "modCount" "I" (.int 0)) (F1 : Fld Z h0 a1 cA "elementData" "[Ljava/lang/Object;" .null) (F2 : Fld Z h0 a1 cA "size" "I" (.int 0)) (g1 : n0 ≤ a1) (dc : Addr) (kd : ClassId) (X00 : Old Z n0 h0) (Odc : Sta Z Z.heap cA zZ21 "[Ljava/lang/Object;" (.ref dc)) (Adc : Arv Z Z.heap dc kd (.object cO) (0 : Int32) [] .null) :
    MetFree l (⟨cA, "<init>", "()V"⟩ : MethodName) (head1 (Jvm.Cond.code (⟨cA, "<init>", "()V"⟩ : MethodName) kQ6 1 none :: ws) (rO 3 0 0 36)) (fun a U => a = #[(.ref a1)] ∧ Z.Warmed39 U.vm ∧ U.heap = h0) (fun _ _ _ _ _ => True) (fun _ U o U' => ∃ v L, o = .returned v ∧ Q_rmAL Z a1 h0 n0 dc v U'.heap L ∧ FrameEnd U o U' L (rO 3 0 0 36).cells (rO 3 0 0 36).slots) := by
  refine MetFree.of_bodySF (plainFor_of_name pn5) hisR ?_
  intro p e s m args below meth c s₁ Bd hml0 hP hK
  obtain ⟨rfl, hZ, hh⟩ := hP
  have hx := Bd.exec
  have hby := Bd.bytes
  have bd : ∀ {pc r}, decode kQ6 pc = r → decode c.code pc = r := fun q => hb hby q
  have hlk : meth.locks = false := Bd.notSynchronized
  have hml : c.maxLocals = 1 := hml0
  have hown : s.vm.findClass cA = some m.cls := findClass_of_methodNamed Bd.named
  have hnm := (name_of_methodNamed Bd.named Bd.method).1
  have X0 : Stand p l e (rO 3 0 0 36) s m #[(.ref a1)] below meth c s₁ [] 0 0 := Stand.of_body Bd
  have e0 : s₁.heap = h0 := by rw [← hh, Bd.state]; rfl
  have N0 := Fr.nil n0
  suffices hgo : OD p e s below (Q_rmAL Z a1 h0 n0 dc) (rO 3 0 0 36).cells (rO 3 0 0 36).slots (s₁.setTop (mkF m 0 #[.val (.ref a1)] [])) by
    obtain ⟨s₂, o, hgo1, hgo2⟩ := hgo
    exact ⟨s₂, o, castTop (ef0 m a1) hgo1, hgo2⟩
  refine OD.go (B := (s₁.setTop (mkF m 1 #[.val (.ref a1)] [(.ref a1)]))) (fun t k => XS.aloadN X0.here hx rfl (bd d12_0) rfl rfl k) ?_
  obtain ⟨_, _, ⟨T1, L1, k1, n1⟩, -, X1, ⟨Lc1, hQ1, l1, y1, z1⟩, st1⟩ := X0.specialBack hx (y := (⟨"java/util/AbstractList", "<init>", "()V"⟩ : MethodName)) rfl hown (mvT hZ (Wd57 hw)) (mvT hZ (Wd58 hw)) (mvT hZ (Wd62 hw)) (by decide) (backOf (W := 0) (rmABL l Z a0 hw [] a1  h0 n0 Z0 E1 F0 F1 F2 g1) hZ (Wd62 hw) (Wd61 hw) (by decide) (by decide)) (g := (mkF m 1 #[.val (.ref a1)] [(.ref a1)])) rfl (by rw [hml]; rfl) (Steps.refl _) (a := a1) (argsL := []) (rest := []) (lenOf pd0 rfl) rfl (by show 2 * 0 + _ ≤ _; exact Nat.le_of_eq rfl) (bd d12_1) (fun _ _ => ⟨rfl, e0, (nl rfl), (nl rfl)⟩)
  dsimp only [Pt.U, Pt.locs, Pt.cells, Pt.slots] at X1 l1 y1 z1 st1 hQ1
  subst l1 y1 z1
  obtain ⟨rfl, Nq1, K1, G0_1, G1_1, G2_1⟩ := hQ1
  have N1 := Fr.app N0 Nq1
  refine OD.via st1 ?_
  refine OD.go (B := (T1.setTop (mkF m 5 #[.val (.ref a1)] [(.ref a1)]))) (fun t k => XS.aloadN X1.here hx rfl (bd d12_4) rfl rfl k) ?_
  have f2 := (Odc.ext (X00.keep K1 (allS g1 all0)).2)
  obtain ⟨T3, X3, e3, st3⟩ := getS2 X1 hx hZ hown (host := "") (Or.inl (Wd72 hw)) Via.refl rfl f2 (g := (mkF m 5 #[.val (.ref a1)] [(.ref a1)])) rfl (bd d12_5)
  refine OD.go (B := (T3.setTop (mkF m 8 #[.val (.ref a1)] [(.ref dc), (.ref a1)]))) st3 ?_
  have f4 := (E1.keep K1)
  obtain ⟨T5, h5, X5, e5, W5, st5⟩ := putF X3 hx hZ hown (host := "") (Or.inl (Wd73 hw)) Via.refl e3 G1_1 f4 (Or.inl (Wd74 hw)) (Wd52 hw) (ty := (.array (.object cO))) (by decide) rfl rfl (g := (mkF m 8 #[.val (.ref a1)] [(.ref dc), (.ref a1)])) rfl rfl (bd d12_8)
  have Fx5 := G1_1.same W5
  have N5 := Fr.snoc X5 N1 g1
  refine OD.go (B := (T5.setTop (mkF m 11 #[.val (.ref a1)] []))) st5 ?_
  exact OD.retV X5 hx hlk Bd.returns (bd d12_11) (nl rfl) (nl rfl) ⟨rfl, N5, by rw [e5]; exact (((Keep.refl h0 [a1]).trans K1 (allS (Or.inl (List.mem_of_getElem? (i := 0) rfl)) all0)).wr W5 (Or.inl (List.mem_of_getElem? (i := 0) rfl))), by rw [e5]; exact (G0_1.other W5 (Or.inr (slot_ne (Or.inl (Wd71 hw)) (Or.inl (Wd74 hw)) (by decide) (t := .int) (t' := (.array (.object cO))) (by decide) (by decide)))), by rw [e5]; exact Fx5, by rw [e5]; exact (G2_1.other W5 (Or.inr (slot_ne (Or.inl (Wd114 hw)) (Or.inl (Wd74 hw)) (by decide) (t := .int) (t' := (.array (.object cO))) (by decide) (by decide))))⟩
def Q_rmMx (Z : State) (x0 : Int32) (x1 : Int32) (h0 : Heap) (v : Option Value) (h : Heap) (L : List Loc) : Prop := v = some (.int (own_imax x0 x1)) ∧ L = [] ∧ h = h0
set_option maxRecDepth 65536 in
set_option maxHeartbeats 40000000 in
theorem rmMx (l : Launch) (Z : State) (a0 : Array Value) (hw : HW a0 Z) (ws : List Jvm.Cond) (x0 : Int32) (x1 : Int32) (h0 : Heap)  :
    MetFree l (⟨"java/lang/Math", "max", "(II)I"⟩ : MethodName) (head1 (Jvm.Cond.code (⟨"java/lang/Math", "max", "(II)I"⟩ : MethodName) kQ7 2 (some .int) :: ws) (rO 0 0 0 0)) (fun a U => a = #[(.int x0), (.int x1)] ∧ Z.Warmed39 U.vm ∧ U.heap = h0) (fun _ _ _ _ _ => True) (fun _ U o U' => ∃ v L, o = .returned v ∧ Q_rmMx Z x0 x1 h0 v U'.heap L ∧ FrameEnd U o U' L (rO 0 0 0 0).cells (rO 0 0 0 0).slots) := by
  refine MetFree.of_bodySF (by decide +kernel) hisR ?_
  intro p e s m args below meth c s₁ Bd hml0 hP hK
  obtain ⟨rfl, hZ, hh⟩ := hP
  have hx := Bd.exec
  have hby := Bd.bytes
  have bd : ∀ {pc r}, decode kQ7 pc = r → decode c.code pc = r := fun q => hb hby q
  have hlk : meth.locks = false := Bd.notSynchronized
  have hml : c.maxLocals = 2 := hml0
  have hown : s.vm.findClass "java/lang/Math" = some m.cls := findClass_of_methodNamed Bd.named
  have hnm := (name_of_methodNamed Bd.named Bd.method).1
  have X0 : Stand p l e (rO 0 0 0 0) s m #[(.int x0), (.int x1)] below meth c s₁ [] 0 0 := Stand.of_body Bd
  have e0 : s₁.heap = h0 := by rw [← hh, Bd.state]; rfl
  suffices hgo : OD p e s below (Q_rmMx Z x0 x1 h0) (rO 0 0 0 0).cells (rO 0 0 0 0).slots (s₁.setTop (mkF m 0 #[.val (.int x0), .val (.int x1)] [])) by
    obtain ⟨s₂, o, hgo1, hgo2⟩ := hgo
    exact ⟨s₂, o, castTop (ef3 m x0 x1) hgo1, hgo2⟩
  refine OD.go (B := (s₁.setTop (mkF m 2 #[.val (.int x0), .val (.int x1)] [(.int x1), (.int x0)]))) (fun t k => XS.iloadN X0.here hx rfl (bd d34_0) rfl (XS.iloadN X0.here hx rfl (bd d34_1) rfl k)) ?_
  obtain ⟨v10_1, hv10_1⟩ : ∃ z : Int32, z = (if x0 < x1 then x1 else x0) := ⟨_, rfl⟩
  refine OD.cut (B := (s₁.setTop (mkF m 10 #[.val (.int x0), .val (.int x1)] [(.int v10_1)]))) (fun J10_2 => ?_) ?_
  · skip
    by_cases c2_3 : x0 < x1
    · refine OD.go (B := (s₁.setTop (mkF m 10 #[.val (.int x0), .val (.int x1)] [(.int x1)]))) (fun t k => XS.icmpYes X0.here hx rfl (pc0 := 2) (pc' := 9) rfl (bd d34_2) rfl (tlt c2_3).1 (by decide) (by decide) (XS.iloadN X0.here hx rfl (bd d34_9) rfl k)) ?_
      rw [if_pos c2_3] at hv10_1
      rw [hv10_1] at J10_2
      exact J10_2
    · refine OD.go (B := (s₁.setTop (mkF m 10 #[.val (.int x0), .val (.int x1)] [(.int x0)]))) (fun t k => XS.icmpNo X0.here hx rfl (bd d34_2) rfl (flt c2_3).1 (XS.iloadN X0.here hx rfl (bd d34_5) rfl (XS.goto X0.here hx rfl (pc0 := 6) (pc' := 10) rfl (bd d34_6) (by decide) (by decide) k))) ?_
      rw [if_neg c2_3] at hv10_1
      rw [hv10_1] at J10_2
      exact J10_2
  exact OD.ret X0 hx hlk (t := .int) Bd.returns rfl (Or.inl ⟨rfl, Or.inl rfl, _, rfl⟩) (bd d34_10) (nl rfl) (nl rfl) ⟨(show some (Value.int v10_1) = some (Value.int (own_imax x0 x1)) from by rw [hv10_1]; rfl), rfl, e0⟩
def Q_rmG1 (Z : State) (a1 : Addr) (h0 : Heap) (n0 : Nat) (mc : Int32) (v : Option Value) (h : Heap) (L : List Loc) : Prop := ∃ (b : Addr) (k : ClassId), v = some (.ref b) ∧ Fr n0 L ∧ Keep h0 h [a1] ∧ h0.size ≤ b ∧ Fld Z h a1 cA "elementData" "[Ljava/lang/Object;" (.ref b) ∧ Arv Z h b k (.object cO) (10 : Int32) [.null, .null, .null, .null, .null, .null, .null, .null, .null, .null] .null ∧ OvO Z k ∧ Fld Z h a1 cA "size" "I" (.int 0) ∧ Fld Z h a1 "java/util/AbstractList" "modCount" "I" (.int mc)
set_option maxRecDepth 65536 in
set_option maxHeartbeats 40000000 in
theorem rmG1 (l : Launch) (Z : State) (a0 : Array Value) (hw : HW a0 Z) (ws : List Jvm.Cond) (a1 : Addr) (h0 : Heap) (dc : Addr) (kd : ClassId) (n0 : Nat) (Z0 : n0 ≤ h0.size) (E1 : Exa Z h0 a1 cA) (g1 : n0 ≤ a1) (Fe : Fld Z h0 a1 cA "elementData" "[Ljava/lang/Object;" (.ref dc)) (Fs : Fld Z h0 a1 cA "size" "I" (.int 0)) (mc : Int32) (Fm : Fld Z h0 a1 "java/util/AbstractList" "modCount" "I" (.int mc)) (X00 : Old Z n0 h0) (Odc : Sta Z Z.heap cA zZ21 "[Ljava/lang/Object;" (.ref dc)) (Adc : Arv Z Z.heap dc kd (.object cO) (0 : Int32) [] .null) :
    MetFree l (⟨cA, "grow", "(I)[Ljava/lang/Object;"⟩ : MethodName) (head1 (Jvm.Cond.code (⟨cA, "grow", "(I)[Ljava/lang/Object;"⟩ : MethodName) kQ8 4 (some (.array (.object cO))) :: ws) (rO 1 1 10 14)) (fun a U => a = #[(.ref a1), (.int 1)] ∧ Z.Warmed39 U.vm ∧ U.heap = h0) (fun _ _ _ _ _ => True) (fun _ U o U' => ∃ v L, o = .returned v ∧ Q_rmG1 Z a1 h0 n0 mc v U'.heap L ∧ FrameEnd U o U' L (rO 1 1 10 14).cells (rO 1 1 10 14).slots) := by
  refine MetFree.of_bodySF (plainFor_of_name pn5) hisR ?_
  intro p e s m args below meth c s₁ Bd hml0 hP hK
  obtain ⟨rfl, hZ, hh⟩ := hP
  have hx := Bd.exec
  have hby := Bd.bytes
  have bd : ∀ {pc r}, decode kQ8 pc = r → decode c.code pc = r := fun q => hb hby q
  have hlk : meth.locks = false := Bd.notSynchronized
  have hml : c.maxLocals = 4 := hml0
  have hown : s.vm.findClass cA = some m.cls := findClass_of_methodNamed Bd.named
  have hnm := (name_of_methodNamed Bd.named Bd.method).1
  have X0 : Stand p l e (rO 1 1 10 14) s m #[(.ref a1), (.int 1)] below meth c s₁ [] 0 0 := Stand.of_body Bd
  have e0 : s₁.heap = h0 := by rw [← hh, Bd.state]; rfl
  have N0 := Fr.nil n0
  suffices hgo : OD p e s below (Q_rmG1 Z a1 h0 n0 mc) (rO 1 1 10 14).cells (rO 1 1 10 14).slots (s₁.setTop (mkF m 0 #[.val (.ref a1), .val (.int 1), .unset, .unset] [])) by
    obtain ⟨s₂, o, hgo1, hgo2⟩ := hgo
    exact ⟨s₂, o, castTop (ef4 m a1 (1 : Int32)) hgo1, hgo2⟩
  refine OD.go (B := (s₁.setTop (mkF m 1 #[.val (.ref a1), .val (.int 1), .unset, .unset] [(.ref a1)]))) (fun t k => XS.aloadN X0.here hx rfl (bd d33_0) rfl rfl k) ?_
  obtain ⟨T1, X1, e1, st1⟩ := getF X0 hx hZ hown (host := "") (Or.inl (Wd73 hw)) Via.refl e0 Fe (g := (mkF m 1 #[.val (.ref a1), .val (.int 1), .unset, .unset] [(.ref a1)])) rfl rfl (bd d33_1)
  refine OD.go (B := (T1.setTop (mkF m 4 #[.val (.ref a1), .val (.int 1), .unset, .unset] [(.ref dc)]))) st1 ?_
  have f2 := (Adc.ext X00.2)
  obtain ⟨cl3, Ar3, hl3⟩ := own_len f2
  refine OD.go (B := (T1.setTop (mkF m 5 #[.val (.ref a1), .val (.int 1), .unset, .unset] [(.int 0)]))) (fun t k => X1.arraylength hx (by rw [e1]; exact Ar3.1) (State.isArrayOf_alike hZ.alike Ar3.2.1) (g := (mkF m 4 #[.val (.ref a1), .val (.int 1), .unset, .unset] [(.ref dc)])) rfl rfl (bd d33_4) _ (by rw [hl3]; exact k)) ?_
  refine OD.go (B := (T1.setTop (mkF m 11 #[.val (.ref a1), .val (.int 1), .val (.int 0), .unset] [(.ref a1)]))) (fun t k => XS.istoreN X1.here hx rfl (bd d33_5) rfl (l' := #[.val (.ref a1), .val (.int 1), .val (.int 0), .unset]) rfl (XS.iloadN X1.here hx rfl (bd d33_6) rfl (XS.ifNo X1.here hx rfl (bd d33_7) rfl (by rw [if0]; exact (flt (by decide : ¬ (0 : Int32) < (0 : Int32))).2.2.1) (XS.aloadN X1.here hx rfl (bd d33_10) rfl rfl k)))) ?_
  obtain ⟨T4, X4, e4, st4⟩ := getF X1 hx hZ hown (host := "") (Or.inl (Wd73 hw)) Via.refl e1 Fe (g := (mkF m 11 #[.val (.ref a1), .val (.int 1), .val (.int 0), .unset] [(.ref a1)])) rfl rfl (bd d33_11)
  refine OD.go (B := (T4.setTop (mkF m 14 #[.val (.ref a1), .val (.int 1), .val (.int 0), .unset] [(.ref dc)]))) st4 ?_
  have f5 := (Odc.ext X00.2)
  obtain ⟨T6, X6, e6, st6⟩ := getS2 X4 hx hZ hown (host := "") (Or.inl (Wd72 hw)) Via.refl e4 f5 (g := (mkF m 14 #[.val (.ref a1), .val (.int 1), .val (.int 0), .unset] [(.ref dc)])) rfl (bd d33_14)
  refine OD.go st6 ?_
  refine OD.go (B := (T6.setTop (mkF m 49 #[.val (.ref a1), .val (.int 1), .val (.int 0), .unset] [(.int 1), (.int 10), (.ref a1)]))) (fun t k => XS.acmpYes X6.here hx rfl (pc0 := 17) (pc' := 45) rfl (bd d33_17) rfl (by simp [if_acmp.holds]) (by decide) (by decide) (XS.aloadN X6.here hx rfl (bd d33_45) rfl rfl (XS.bipush X6.here hx rfl (bd d33_46) (XS.iloadN X6.here hx rfl (bd d33_48) rfl k)))) ?_
  obtain ⟨_, _, ⟨T7, L7, k7, n7⟩, -, X7, ⟨Lc7, hQ7, l7, y7, z7⟩, st7⟩ := Jvm.LawKit.callS X6 hx (y := (⟨"java/lang/Math", "max", "(II)I"⟩ : MethodName)) hown (mvT hZ (Wd212 hw)) (mvT hZ (Wd213 hw)) (mvT hZ (Wd214 hw)) (mvT hZ (Wd215 hw)) (by decide) (backOf (W := 1) (rmMx l Z a0 hw [] (10 : Int32) (1 : Int32) h0) hZ (Wd215 hw) (Wd214 hw) (by decide) (by decide)) (g := (mkF m 49 #[.val (.ref a1), .val (.int 1), .val (.int 0), .unset] [(.int 1), (.int 10), (.ref a1)])) rfl (by rw [hml]; rfl) (argsL := [(.int 10), (.int 1)]) (rest := [(.ref a1)]) (lenOf pd2 rfl) rfl (by show 2 * 0 + _ ≤ _; exact Nat.le_of_eq rfl) (bd d33_49) (fun _ _ => ⟨rfl, e6, (nl rfl), (nl rfl)⟩)
  dsimp only [Pt.U, Pt.locs, Pt.cells, Pt.slots] at X7 l7 y7 z7 st7 hQ7
  subst l7 y7 z7
  obtain ⟨rfl, rfl, e7⟩ := hQ7
  have N7 := Fr.app N0 (Fr.nil _)
  rw [(by decide : own_imax (10 : Int32) (1 : Int32) = (10 : Int32))] at st7
  refine OD.go (B := (T7.setTop (mkF m 52 #[.val (.ref a1), .val (.int 1), .val (.int 0), .unset] [(.int 10), (.ref a1)]))) st7 ?_
  obtain ⟨T8, h8, k8, X8, e8, E8, A8, O8, st8⟩ := own_newR X7 hx hZ hown (Wd216 hw) (Wd217 hw) e7 (g := (mkF m 52 #[.val (.ref a1), .val (.int 1), .val (.int 0), .unset] [(.int 10), (.ref a1)])) rfl (bd d33_52) rfl (by decide) (cap := 10) (by decide) (by decide) (nl rfl) (nl rfl)
  obtain ⟨b8, g8⟩ : ∃ z, z = h0.size := ⟨_, rfl⟩
  rw [← g8] at A8 st8
  have V8 : Arv Z h8 b8 k8 (.object cO) (10 : Int32) [.null, .null, .null, .null, .null, .null, .null, .null, .null, .null] .null := (Arv.new A8 (by decide)).pad (pad_rep [] .null 10)
  refine OD.go st8 ?_
  refine OD.go (B := (T8.setTop (mkF m 56 #[.val (.ref a1), .val (.int 1), .val (.int 0), .unset] [(.ref b8), (.ref a1), (.ref b8)]))) (fun t k => XS.dupX1 X8.here hx rfl (bd d33_55) rfl rfl rfl k) ?_
  have f9 := (Fe.ext E8)
  have f10 := (E1.ext E8)
  obtain ⟨T11, h11, X11, e11, W11, st11⟩ := putF X8 hx hZ hown (host := "") (Or.inl (Wd73 hw)) Via.refl e8 f9 f10 (Or.inl (Wd74 hw)) (Wd52 hw) (ty := (.array (.object cO))) (by decide) rfl rfl (g := (mkF m 56 #[.val (.ref a1), .val (.int 1), .val (.int 0), .unset] [(.ref b8), (.ref a1), (.ref b8)])) rfl rfl (bd d33_56)
  have Fx11 := f9.same W11
  have N11 := Fr.snoc X11 N7 g1
  refine OD.go (B := (T11.setTop (mkF m 59 #[.val (.ref a1), .val (.int 1), .val (.int 0), .unset] [(.ref b8)]))) st11 ?_
  exact OD.ret X11 hx hlk (t := (.array (.object cO))) Bd.returns rfl (Or.inr (Or.inr (Or.inr (Or.inr ⟨rfl, rfl, rfl⟩)))) (bd d33_59) (nl rfl) (nl rfl) ⟨_, _, rfl, N11, by rw [e11]; exact (((Keep.refl h0 [a1]).ext E8).wr W11 (Or.inl (List.mem_of_getElem? (i := 0) rfl))), (Nat.le_trans (Nat.le_refl _) (Nat.le_of_eq g8.symm)), by rw [e11]; exact Fx11, by rw [e11]; exact (V8.other W11 (Ne.symm (Nat.ne_of_lt (Nat.lt_of_lt_of_le Fm.lt (Nat.le_of_eq g8.symm))))), O8, by rw [e11]; exact ((Fs.ext E8).other W11 (Or.inr (slot_ne (Or.inl (Wd114 hw)) (Or.inl (Wd74 hw)) (by decide) (t := .int) (t' := (.array (.object cO))) (by decide) (by decide)))), by rw [e11]; exact ((Fm.ext E8).other W11 (Or.inr (slot_ne (Or.inl (Wd71 hw)) (Or.inl (Wd74 hw)) (by decide) (t := .int) (t' := (.array (.object cO))) (by decide) (by decide))))⟩
def Q_rmG0 (Z : State) (a1 : Addr) (h0 : Heap) (n0 : Nat) (mc : Int32) (v : Option Value) (h : Heap) (L : List Loc) : Prop := ∃ (b : Addr) (k : ClassId), v = some (.ref b) ∧ Fr n0 L ∧ Keep h0 h [a1] ∧ h0.size ≤ b ∧ Fld Z h a1 cA "elementData" "[Ljava/lang/Object;" (.ref b) ∧ Arv Z h b k (.object cO) (10 : Int32) [.null, .null, .null, .null, .null, .null, .null, .null, .null, .null] .null ∧ OvO Z k ∧ Fld Z h a1 cA "size" "I" (.int 0) ∧ Fld Z h a1 "java/util/AbstractList" "modCount" "I" (.int mc)
set_option maxRecDepth 65536 in
set_option maxHeartbeats 40000000 in
theorem rmG0 (l : Launch) (Z : State) (a0 : Array Value) (hw : HW a0 Z) (ws : List Jvm.Cond) (a1 : Addr) (h0 : Heap) (dc : Addr) (kd : ClassId) (n0 : Nat) (Z0 : n0 ≤ h0.size) (E1 : Exa Z h0 a1 cA) (g1 : n0 ≤ a1) (Fe : Fld Z h0 a1 cA "elementData" "[Ljava/lang/Object;" (.ref dc)) (Fs : Fld Z h0 a1 cA "size" "I" (.int 0)) (mc : Int32) (Fm : Fld Z h0 a1 "java/util/AbstractList" "modCount" "I" (.int mc)) (X00 : Old Z n0 h0) (Odc : Sta Z Z.heap cA zZ21 "[Ljava/lang/Object;" (.ref dc)) (Adc : Arv Z Z.heap dc kd (.object cO) (0 : Int32) [] .null) :
    MetFree l (⟨cA, "grow", "()[Ljava/lang/Object;"⟩ : MethodName) (head1 (Jvm.Cond.code (⟨cA, "grow", "()[Ljava/lang/Object;"⟩ : MethodName) kQ9 1 (some (.array (.object cO))) :: ws) (rO 2 1 10 29)) (fun a U => a = #[(.ref a1)] ∧ Z.Warmed39 U.vm ∧ U.heap = h0) (fun _ _ _ _ _ => True) (fun _ U o U' => ∃ v L, o = .returned v ∧ Q_rmG0 Z a1 h0 n0 mc v U'.heap L ∧ FrameEnd U o U' L (rO 2 1 10 29).cells (rO 2 1 10 29).slots) := by
  refine MetFree.of_bodySF (plainFor_of_name pn5) hisR ?_
  intro p e s m args below meth c s₁ Bd hml0 hP hK
  obtain ⟨rfl, hZ, hh⟩ := hP
  have hx := Bd.exec
  have hby := Bd.bytes
  have bd : ∀ {pc r}, decode kQ9 pc = r → decode c.code pc = r := fun q => hb hby q
  have hlk : meth.locks = false := Bd.notSynchronized
  have hml : c.maxLocals = 1 := hml0
  have hown : s.vm.findClass cA = some m.cls := findClass_of_methodNamed Bd.named
  have hnm := (name_of_methodNamed Bd.named Bd.method).1
  have X0 : Stand p l e (rO 2 1 10 29) s m #[(.ref a1)] below meth c s₁ [] 0 0 := Stand.of_body Bd
  have e0 : s₁.heap = h0 := by rw [← hh, Bd.state]; rfl
  have N0 := Fr.nil n0
  suffices hgo : OD p e s below (Q_rmG0 Z a1 h0 n0 mc) (rO 2 1 10 29).cells (rO 2 1 10 29).slots (s₁.setTop (mkF m 0 #[.val (.ref a1)] [])) by
    obtain ⟨s₂, o, hgo1, hgo2⟩ := hgo
    exact ⟨s₂, o, castTop (ef0 m a1) hgo1, hgo2⟩
  refine OD.go (B := (s₁.setTop (mkF m 2 #[.val (.ref a1)] [(.ref a1), (.ref a1)]))) (fun t k => XS.aloadN X0.here hx rfl (bd d32_0) rfl rfl (XS.aloadN X0.here hx rfl (bd d32_1) rfl rfl k)) ?_
  obtain ⟨T1, X1, e1, st1⟩ := getF X0 hx hZ hown (host := "") (Or.inl (Wd113 hw)) Via.refl e0 Fs (g := (mkF m 2 #[.val (.ref a1)] [(.ref a1), (.ref a1)])) rfl rfl (bd d32_2)
  refine OD.go st1 ?_
  refine OD.go (B := (T1.setTop (mkF m 7 #[.val (.ref a1)] [(.int 1), (.ref a1)]))) (fun t k => XS.iconst X1.here hx rfl (bd d32_5) (XS.iadd X1.here hx rfl (bd d32_6) rfl k)) ?_
  obtain ⟨cq2, qa2, qb2⟩ := E1.cell
  obtain ⟨_, _, ⟨T2, L2, k2, n2⟩, -, X2, ⟨Lc2, hQ2, l2, y2, z2⟩, st2⟩ := X1.privateBack hx (y := (⟨cA, "grow", "(I)[Ljava/lang/Object;"⟩ : MethodName)) hown (mvT hZ (Wd207 hw)) (mvT hZ (Wd208 hw)) (mvT hZ (Wd210 hw)) (Cond.privateMethod_at (mvP hZ (Wd209 hw) (args := #[]))) (mvT hZ (Wd211 hw)) (by decide) (backOf (W := 0) (rmG1 l Z a0 hw [] a1 h0 dc kd n0 Z0 E1 g1 Fe Fs mc Fm X00 Odc Adc) hZ (Wd211 hw) (Wd53 hw) (by decide) (by decide)) (g := (mkF m 7 #[.val (.ref a1)] [(.int 1), (.ref a1)])) rfl (by rw [hml]; rfl) (Steps.refl _) (a := a1) (by rw [e1]; exact qa2) qb2 (argsL := [(.int 1)]) (rest := []) (lenOf pd3 rfl) rfl (by show 2 * 0 + _ ≤ _; exact Nat.le_of_eq rfl) (bd d32_7) (fun _ _ => ⟨rfl, e1, (nl rfl), (nl rfl)⟩)
  dsimp only [Pt.U, Pt.locs, Pt.cells, Pt.slots] at X2 l2 y2 z2 st2 hQ2
  subst l2 y2 z2
  obtain ⟨b2, k2', rfl, Nq2, K2, ob2, G2, A2, O2, S2, M2⟩ := hQ2
  have N2 := Fr.app N0 Nq2
  have gb2 : n0 ≤ b2 := Nat.le_trans Z0 ob2
  have nb2_a1 : a1 ≠ b2 := Nat.ne_of_lt (Nat.lt_of_lt_of_le Fm.lt ob2)
  refine OD.via (B := (T2.setTop (mkF m 10 #[.val (.ref a1)] [(.ref b2)]))) st2 ?_
  exact OD.ret X2 hx hlk (t := (.array (.object cO))) Bd.returns rfl (Or.inr (Or.inr (Or.inr (Or.inr ⟨rfl, rfl, rfl⟩)))) (bd d32_10) (nl rfl) (nl rfl) ⟨_, _, rfl, N2, by exact ((Keep.refl h0 [a1]).trans K2 (allS (Or.inl (List.mem_of_getElem? (i := 0) rfl)) all0)), (Nat.le_trans (Nat.le_refl _) ob2), by exact G2, by exact A2, O2, by exact S2, by exact M2⟩
def Q_rmA3_0 (Z : State) (a1 : Addr) (x0 : Addr) (dc : Addr) (h0 : Heap) (n0 : Nat) (mc : Int32) (v : Option Value) (h : Heap) (L : List Loc) : Prop := ∃ (b : Addr) (k : ClassId), v = none ∧ Fr n0 L ∧ Keep h0 h [a1] ∧ h0.size ≤ b ∧ Fld Z h a1 cA "elementData" "[Ljava/lang/Object;" (.ref b) ∧ Fld Z h a1 cA "size" "I" (.int 1) ∧ Arv Z h b k (.object cO) (10 : Int32) [(.ref x0), .null, .null, .null, .null, .null, .null, .null, .null, .null] .null ∧ OvO Z k ∧ Fld Z h a1 "java/util/AbstractList" "modCount" "I" (.int mc)
set_option maxRecDepth 65536 in
set_option maxHeartbeats 40000000 in
theorem rmA3_0 (l : Launch) (Z : State) (a0 : Array Value) (hw : HW a0 Z) (ws : List Jvm.Cond) (a1 : Addr) (x0 : Addr) (dc : Addr) (h0 : Heap) (kd : ClassId) (n0 : Nat) (Z0 : n0 ≤ h0.size) (E1 : Exa Z h0 a1 cA) (g1 : n0 ≤ a1) (Fe : Fld Z h0 a1 cA "elementData" "[Ljava/lang/Object;" (.ref dc)) (Fs : Fld Z h0 a1 cA "size" "I" (.int 0)) (mc : Int32) (Fm : Fld Z h0 a1 "java/util/AbstractList" "modCount" "I" (.int mc)) (Ex : Exa Z h0 x0 "java/lang/String") (X00 : Old Z n0 h0) (Odc : Sta Z Z.heap cA zZ21 "[Ljava/lang/Object;" (.ref dc)) (Adc : Arv Z Z.heap dc kd (.object cO) (0 : Int32) [] .null) :
    MetFree l (⟨cA, "add", zZ13⟩ : MethodName) (head1 (Jvm.Cond.code (⟨cA, "add", zZ13⟩ : MethodName) kQ10 4 none :: ws) (rO 3 1 10 41)) (fun a U => a = #[(.ref a1), (.ref x0), (.ref dc), (.int 0)] ∧ Z.Warmed39 U.vm ∧ U.heap = h0) (fun _ _ _ _ _ => True) (fun _ U o U' => ∃ v L, o = .returned v ∧ Q_rmA3_0 Z a1 x0 dc h0 n0 mc v U'.heap L ∧ FrameEnd U o U' L (rO 3 1 10 41).cells (rO 3 1 10 41).slots) := by
  refine MetFree.of_bodySF (plainFor_of_name pn5) hisR ?_
  intro p e s m args below meth c s₁ Bd hml0 hP hK
  obtain ⟨rfl, hZ, hh⟩ := hP
  have hx := Bd.exec
  have hby := Bd.bytes
  have bd : ∀ {pc r}, decode kQ10 pc = r → decode c.code pc = r := fun q => hb hby q
  have hlk : meth.locks = false := Bd.notSynchronized
  have hml : c.maxLocals = 4 := hml0
  have hown : s.vm.findClass cA = some m.cls := findClass_of_methodNamed Bd.named
  have hnm := (name_of_methodNamed Bd.named Bd.method).1
  have X0 : Stand p l e (rO 3 1 10 41) s m #[(.ref a1), (.ref x0), (.ref dc), (.int 0)] below meth c s₁ [] 0 0 := Stand.of_body Bd
  have e0 : s₁.heap = h0 := by rw [← hh, Bd.state]; rfl
  have N0 := Fr.nil n0
  suffices hgo : OD p e s below (Q_rmA3_0 Z a1 x0 dc h0 n0 mc) (rO 3 1 10 41).cells (rO 3 1 10 41).slots (s₁.setTop (mkF m 0 #[.val (.ref a1), .val (.ref x0), .val (.ref dc), .val (.int 0)] [])) by
    obtain ⟨s₂, o, hgo1, hgo2⟩ := hgo
    exact ⟨s₂, o, castTop (ef5 m a1 x0 dc (0 : Int32)) hgo1, hgo2⟩
  refine OD.go (B := (s₁.setTop (mkF m 2 #[.val (.ref a1), .val (.ref x0), .val (.ref dc), .val (.int 0)] [(.ref dc), (.int 0)]))) (fun t k => XS.iloadN X0.here hx rfl (bd d31_0) rfl (XS.aloadN X0.here hx rfl (bd d31_1) rfl rfl k)) ?_
  have f1 := (Adc.ext X00.2)
  obtain ⟨cl2, Ar2, hl2⟩ := own_len f1
  refine OD.go (B := (s₁.setTop (mkF m 3 #[.val (.ref a1), .val (.ref x0), .val (.ref dc), .val (.int 0)] [(.int 0), (.int 0)]))) (fun t k => X0.arraylength hx (by rw [e0]; exact Ar2.1) (State.isArrayOf_alike hZ.alike Ar2.2.1) (g := (mkF m 2 #[.val (.ref a1), .val (.ref x0), .val (.ref dc), .val (.int 0)] [(.ref dc), (.int 0)])) rfl rfl (bd d31_2) _ (by rw [hl2]; exact k)) ?_
  refine OD.go (B := (s₁.setTop (mkF m 7 #[.val (.ref a1), .val (.ref x0), .val (.ref dc), .val (.int 0)] [(.ref a1)]))) (fun t k => XS.icmpNo X0.here hx rfl (bd d31_3) rfl (teq (by decide : (0 : Int32) = (0 : Int32))).2 (XS.aloadN X0.here hx rfl (bd d31_6) rfl rfl k)) ?_
  obtain ⟨cq3, qa3, qb3⟩ := E1.cell
  obtain ⟨_, _, ⟨T3, L3, k3, n3⟩, -, X3, ⟨Lc3, hQ3, l3, y3, z3⟩, st3⟩ := X0.privateBack hx (y := (⟨cA, "grow", "()[Ljava/lang/Object;"⟩ : MethodName)) hown (mvT hZ (Wd202 hw)) (mvT hZ (Wd203 hw)) (mvT hZ (Wd205 hw)) (Cond.privateMethod_at (mvP hZ (Wd204 hw) (args := #[]))) (mvT hZ (Wd206 hw)) (by decide) (backOf (W := 0) (rmG0 l Z a0 hw [] a1 h0 dc kd n0 Z0 E1 g1 Fe Fs mc Fm X00 Odc Adc) hZ (Wd206 hw) (Wd53 hw) (by decide) (by decide)) (g := (mkF m 7 #[.val (.ref a1), .val (.ref x0), .val (.ref dc), .val (.int 0)] [(.ref a1)])) rfl (by rw [hml]; rfl) (Steps.refl _) (a := a1) (by rw [e0]; exact qa3) qb3 (argsL := []) (rest := []) (lenOf pd4 rfl) rfl (by show 2 * 0 + _ ≤ _; exact Nat.le_of_eq rfl) (bd d31_7) (fun _ _ => ⟨rfl, e0, (nl rfl), (nl rfl)⟩)
  dsimp only [Pt.U, Pt.locs, Pt.cells, Pt.slots] at X3 l3 y3 z3 st3 hQ3
  subst l3 y3 z3
  obtain ⟨b3, k3', rfl, Nq3, K3, ob3, G3, A3, O3, S3, M3⟩ := hQ3
  have N3 := Fr.app N0 Nq3
  have gb3 : n0 ≤ b3 := Nat.le_trans Z0 ob3
  have nb3_a1 : a1 ≠ b3 := Nat.ne_of_lt (Nat.lt_of_lt_of_le Fm.lt ob3)
  have nb3_x0 : x0 ≠ b3 := Nat.ne_of_lt (Nat.lt_of_lt_of_le Ex.lt ob3)
  refine OD.via st3 ?_
  refine OD.go (B := (T3.setTop (mkF m 14 #[.val (.ref a1), .val (.ref x0), .val (.ref b3), .val (.int 0)] [(.ref x0), (.int 0), (.ref b3)]))) (fun t k => XS.astoreN X3.here hx rfl (bd d31_10) rfl rfl (l' := #[.val (.ref a1), .val (.ref x0), .val (.ref b3), .val (.int 0)]) rfl (XS.aloadN X3.here hx rfl (bd d31_11) rfl rfl (XS.iloadN X3.here hx rfl (bd d31_12) rfl (XS.aloadN X3.here hx rfl (bd d31_13) rfl rfl k)))) ?_
  have f4 := (Ex.keep K3)
  obtain ⟨cl5, Ar5, q5, S5, M5, H5, G5⟩ := id A3
  obtain ⟨T5, h5, X5, e5, W5, st5⟩ := stR X3 hx hZ rfl Ar5 (j := (0 : Int32)) (inb_of S5 ⟨by decide, by decide⟩) rfl (Sto.ofV Ar5 q5 O3.1 (Ins.of_exa f4 (Wd218 hw))) (g := (mkF m 14 #[.val (.ref a1), .val (.ref x0), .val (.ref b3), .val (.int 0)] [(.ref x0), (.int 0), (.ref b3)])) rfl rfl (bd d31_14)
  have V5 : Arv Z h5 b3 k3' (.object cO) (10 : Int32) [(.ref x0), .null, .null, .null, .null, .null, .null, .null, .null, .null] .null := Arv.set Ar5 q5 S5 M5 H5 G5 rfl W5 0 rfl (nl rfl)
  have N5 := Fr.snoc X5 N3 gb3
  refine OD.go st5 ?_
  refine OD.go (B := (T5.setTop (mkF m 19 #[.val (.ref a1), .val (.ref x0), .val (.ref b3), .val (.int 0)] [(.int 1), (.ref a1)]))) (fun t k => XS.aloadN X5.here hx rfl (bd d31_15) rfl rfl (XS.iloadN X5.here hx rfl (bd d31_16) rfl (XS.iconst X5.here hx rfl (bd d31_17) (XS.iadd X5.here hx rfl (bd d31_18) rfl k)))) ?_
  have f6 := (S3.other W5 (Or.inl nb3_a1))
  have f7 := ((E1.keep K3).wr W5)
  obtain ⟨T8, h8, X8, e8, W8, st8⟩ := putF X5 hx hZ hown (host := "") (Or.inl (Wd113 hw)) Via.refl e5 f6 f7 (Or.inl (Wd114 hw)) (Wd52 hw) (ty := .int) (by decide) rfl rfl (g := (mkF m 19 #[.val (.ref a1), .val (.ref x0), .val (.ref b3), .val (.int 0)] [(.int 1), (.ref a1)])) rfl rfl (bd d31_19)
  have Fx8 := f6.same W8
  have N8 := Fr.snoc X8 N5 g1
  refine OD.go (B := (T8.setTop (mkF m 22 #[.val (.ref a1), .val (.ref x0), .val (.ref b3), .val (.int 0)] []))) st8 ?_
  exact OD.retV X8 hx hlk Bd.returns (bd d31_22) (nl rfl) (nl rfl) ⟨_, _, rfl, N8, by rw [e8]; exact ((((Keep.refl h0 [a1]).trans K3 (allS (Or.inl (List.mem_of_getElem? (i := 0) rfl)) all0)).wr W5 (Or.inr (Nat.le_trans (Nat.le_refl _) ob3))).wr W8 (Or.inl (List.mem_of_getElem? (i := 0) rfl))), (Nat.le_trans (Nat.le_refl _) ob3), by rw [e8]; exact ((G3.other W5 (Or.inl nb3_a1)).other W8 (Or.inr (slot_ne (Or.inl (Wd74 hw)) (Or.inl (Wd114 hw)) (by decide) (t := (.array (.object cO))) (t' := .int) (by decide) (by decide)))), by rw [e8]; exact Fx8, by rw [e8]; exact (V5.other W8 (Ne.symm nb3_a1)), O3, by rw [e8]; exact ((M3.other W5 (Or.inl nb3_a1)).other W8 (Or.inr (slot_ne (Or.inl (Wd71 hw)) (Or.inl (Wd114 hw)) (by decide) (t := .int) (t' := .int) (by decide) (by decide))))⟩
def Q_rmA3_1 (Z : State) (a1 : Addr) (x1 : Addr) (ar : Addr) (h0 : Heap) (n0 : Nat) (x0 : Addr) (ka : ClassId) (mc : Int32) (v : Option Value) (h : Heap) (L : List Loc) : Prop := v = none ∧ Fr n0 L ∧ Keep h0 h [a1, ar] ∧ Fld Z h a1 cA "size" "I" (.int 2) ∧ Arv Z h ar ka (.object cO) (10 : Int32) [(.ref x0), (.ref x1), .null, .null, .null, .null, .null, .null, .null, .null] .null ∧ Fld Z h a1 cA "elementData" "[Ljava/lang/Object;" (.ref ar) ∧ Fld Z h a1 "java/util/AbstractList" "modCount" "I" (.int mc)
set_option maxRecDepth 65536 in
set_option maxHeartbeats 40000000 in
theorem rmA3_1 (l : Launch) (Z : State) (a0 : Array Value) (hw : HW a0 Z) (ws : List Jvm.Cond) (a1 : Addr) (x1 : Addr) (ar : Addr) (h0 : Heap) (n0 : Nat) (Z0 : n0 ≤ h0.size) (E1 : Exa Z h0 a1 cA) (g1 : n0 ≤ a1) (Fs : Fld Z h0 a1 cA "size" "I" (.int 1)) (Ex : Exa Z h0 x1 "java/lang/String") (x0 : Addr) (ka : ClassId) (Aa : Arv Z h0 ar ka (.object cO) (10 : Int32) [(.ref x0), .null, .null, .null, .null, .null, .null, .null, .null, .null] .null) (Oa : OvO Z ka) (g2 : n0 ≤ ar) (na : a1 ≠ ar) (Fe : Fld Z h0 a1 cA "elementData" "[Ljava/lang/Object;" (.ref ar)) (mc : Int32) (Fm : Fld Z h0 a1 "java/util/AbstractList" "modCount" "I" (.int mc)) :
    MetFree l (⟨cA, "add", zZ13⟩ : MethodName) (head1 (Jvm.Cond.code (⟨cA, "add", zZ13⟩ : MethodName) kQ10 4 none :: ws) (rO 0 0 0 0)) (fun a U => a = #[(.ref a1), (.ref x1), (.ref ar), (.int 1)] ∧ Z.Warmed39 U.vm ∧ U.heap = h0) (fun _ _ _ _ _ => True) (fun _ U o U' => ∃ v L, o = .returned v ∧ Q_rmA3_1 Z a1 x1 ar h0 n0 x0 ka mc v U'.heap L ∧ FrameEnd U o U' L (rO 0 0 0 0).cells (rO 0 0 0 0).slots) := by
  refine MetFree.of_bodySF (plainFor_of_name pn5) hisR ?_
  intro p e s m args below meth c s₁ Bd hml0 hP hK
  obtain ⟨rfl, hZ, hh⟩ := hP
  have hx := Bd.exec
  have hby := Bd.bytes
  have bd : ∀ {pc r}, decode kQ10 pc = r → decode c.code pc = r := fun q => hb hby q
  have hlk : meth.locks = false := Bd.notSynchronized
  have hml : c.maxLocals = 4 := hml0
  have hown : s.vm.findClass cA = some m.cls := findClass_of_methodNamed Bd.named
  have hnm := (name_of_methodNamed Bd.named Bd.method).1
  have X0 : Stand p l e (rO 0 0 0 0) s m #[(.ref a1), (.ref x1), (.ref ar), (.int 1)] below meth c s₁ [] 0 0 := Stand.of_body Bd
  have e0 : s₁.heap = h0 := by rw [← hh, Bd.state]; rfl
  have N0 := Fr.nil n0
  suffices hgo : OD p e s below (Q_rmA3_1 Z a1 x1 ar h0 n0 x0 ka mc) (rO 0 0 0 0).cells (rO 0 0 0 0).slots (s₁.setTop (mkF m 0 #[.val (.ref a1), .val (.ref x1), .val (.ref ar), .val (.int 1)] [])) by
    obtain ⟨s₂, o, hgo1, hgo2⟩ := hgo
    exact ⟨s₂, o, castTop (ef5 m a1 x1 ar (1 : Int32)) hgo1, hgo2⟩
  refine OD.go (B := (s₁.setTop (mkF m 2 #[.val (.ref a1), .val (.ref x1), .val (.ref ar), .val (.int 1)] [(.ref ar), (.int 1)]))) (fun t k => XS.iloadN X0.here hx rfl (bd d31_0) rfl (XS.aloadN X0.here hx rfl (bd d31_1) rfl rfl k)) ?_
  obtain ⟨cl1, Ar1, hl1⟩ := own_len Aa
  refine OD.go (B := (s₁.setTop (mkF m 3 #[.val (.ref a1), .val (.ref x1), .val (.ref ar), .val (.int 1)] [(.int 10), (.int 1)]))) (fun t k => X0.arraylength hx (by rw [e0]; exact Ar1.1) (State.isArrayOf_alike hZ.alike Ar1.2.1) (g := (mkF m 2 #[.val (.ref a1), .val (.ref x1), .val (.ref ar), .val (.int 1)] [(.ref ar), (.int 1)])) rfl rfl (bd d31_2) _ (by rw [hl1]; exact k)) ?_
  refine OD.go (B := (s₁.setTop (mkF m 14 #[.val (.ref a1), .val (.ref x1), .val (.ref ar), .val (.int 1)] [(.ref x1), (.int 1), (.ref ar)]))) (fun t k => XS.icmpYes X0.here hx rfl (pc0 := 3) (pc' := 11) rfl (bd d31_3) rfl (feq (by decide : ¬ (1 : Int32) = (10 : Int32))).2 (by decide) (by decide) (XS.aloadN X0.here hx rfl (bd d31_11) rfl rfl (XS.iloadN X0.here hx rfl (bd d31_12) rfl (XS.aloadN X0.here hx rfl (bd d31_13) rfl rfl k)))) ?_
  obtain ⟨cl2, Ar2, q2, S2, M2, H2, G2⟩ := id Aa
  obtain ⟨T2, h2, X2, e2, W2, st2⟩ := stR X0 hx hZ e0 Ar2 (j := (1 : Int32)) (inb_of S2 ⟨by decide, by decide⟩) rfl (Sto.ofV Ar2 q2 Oa.1 (Ins.of_exa Ex (Wd218 hw))) (g := (mkF m 14 #[.val (.ref a1), .val (.ref x1), .val (.ref ar), .val (.int 1)] [(.ref x1), (.int 1), (.ref ar)])) rfl rfl (bd d31_14)
  have V2 : Arv Z h2 ar ka (.object cO) (10 : Int32) [(.ref x0), (.ref x1), .null, .null, .null, .null, .null, .null, .null, .null] .null := Arv.set Ar2 q2 S2 M2 H2 G2 rfl W2 1 rfl (nl rfl)
  have N2 := Fr.snoc X2 N0 g2
  refine OD.go st2 ?_
  refine OD.go (B := (T2.setTop (mkF m 19 #[.val (.ref a1), .val (.ref x1), .val (.ref ar), .val (.int 1)] [(.int 2), (.ref a1)]))) (fun t k => XS.aloadN X2.here hx rfl (bd d31_15) rfl rfl (XS.iloadN X2.here hx rfl (bd d31_16) rfl (XS.iconst X2.here hx rfl (bd d31_17) (XS.iadd X2.here hx rfl (bd d31_18) rfl k)))) ?_
  have f3 := (Fs.other W2 (Or.inl na))
  have f4 := (E1.wr W2)
  obtain ⟨T5, h5, X5, e5, W5, st5⟩ := putF X2 hx hZ hown (host := "") (Or.inl (Wd113 hw)) Via.refl e2 f3 f4 (Or.inl (Wd114 hw)) (Wd52 hw) (ty := .int) (by decide) rfl rfl (g := (mkF m 19 #[.val (.ref a1), .val (.ref x1), .val (.ref ar), .val (.int 1)] [(.int 2), (.ref a1)])) rfl rfl (bd d31_19)
  have Fx5 := f3.same W5
  have N5 := Fr.snoc X5 N2 g1
  refine OD.go (B := (T5.setTop (mkF m 22 #[.val (.ref a1), .val (.ref x1), .val (.ref ar), .val (.int 1)] []))) st5 ?_
  exact OD.retV X5 hx hlk Bd.returns (bd d31_22) (nl rfl) (nl rfl) ⟨rfl, N5, by rw [e5]; exact (((Keep.refl h0 [a1, ar]).wr W2 (Or.inl (List.mem_of_getElem? (i := 1) rfl))).wr W5 (Or.inl (List.mem_of_getElem? (i := 0) rfl))), by rw [e5]; exact Fx5, by rw [e5]; exact (V2.other W5 (Ne.symm na)), by rw [e5]; exact ((Fe.other W2 (Or.inl na)).other W5 (Or.inr (slot_ne (Or.inl (Wd74 hw)) (Or.inl (Wd114 hw)) (by decide) (t := (.array (.object cO))) (t' := .int) (by decide) (by decide)))), by rw [e5]; exact ((Fm.other W2 (Or.inl na)).other W5 (Or.inr (slot_ne (Or.inl (Wd71 hw)) (Or.inl (Wd114 hw)) (by decide) (t := .int) (t' := .int) (by decide) (by decide))))⟩
def Q_rmA1_0 (Z : State) (a1 : Addr) (x0 : Addr) (h0 : Heap) (n0 : Nat) (v : Option Value) (h : Heap) (L : List Loc) : Prop := ∃ (b : Addr) (k : ClassId), v = some (.int 1) ∧ Fr n0 L ∧ Keep h0 h [a1] ∧ h0.size ≤ b ∧ Fld Z h a1 cA "elementData" "[Ljava/lang/Object;" (.ref b) ∧ Fld Z h a1 cA "size" "I" (.int 1) ∧ Arv Z h b k (.object cO) (10 : Int32) [(.ref x0), .null, .null, .null, .null, .null, .null, .null, .null, .null] .null ∧ OvO Z k ∧ Fld Z h a1 "java/util/AbstractList" "modCount" "I" (.int 1)
set_option maxRecDepth 65536 in
set_option maxHeartbeats 40000000 in
theorem rmA1_0 (l : Launch) (Z : State) (a0 : Array Value) (hw : HW a0 Z) (ws : List Jvm.Cond) (a1 : Addr) (x0 : Addr) (h0 : Heap) (dc : Addr) (kd : ClassId) (n0 : Nat) (Z0 : n0 ≤ h0.size) (E1 : Exa Z h0 a1 cA) (g1 : n0 ≤ a1) (Fe : Fld Z h0 a1 cA "elementData" "[Ljava/lang/Object;" (.ref dc)) (Fs : Fld Z h0 a1 cA "size" "I" (.int 0)) (Ex : Exa Z h0 x0 "java/lang/String") (Fm : Fld Z h0 a1 "java/util/AbstractList" "modCount" "I" (.int 0)) (X00 : Old Z n0 h0) (Odc : Sta Z Z.heap cA zZ21 "[Ljava/lang/Object;" (.ref dc)) (Adc : Arv Z Z.heap dc kd (.object cO) (0 : Int32) [] .null) :
    MetFree l (⟨cA, "add", "(Ljava/lang/Object;)Z"⟩ : MethodName) (head1 (Jvm.Cond.code (⟨cA, "add", "(Ljava/lang/Object;)Z"⟩ : MethodName) kQ11 2 (some .boolean) :: ws) (rO 4 1 10 57)) (fun a U => a = #[(.ref a1), (.ref x0)] ∧ Z.Warmed39 U.vm ∧ U.heap = h0) (fun _ _ _ _ _ => True) (fun _ U o U' => ∃ v L, o = .returned v ∧ Q_rmA1_0 Z a1 x0 h0 n0 v U'.heap L ∧ FrameEnd U o U' L (rO 4 1 10 57).cells (rO 4 1 10 57).slots) := by
  refine MetFree.of_bodySF (plainFor_of_name pn5) hisR ?_
  intro p e s m args below meth c s₁ Bd hml0 hP hK
  obtain ⟨rfl, hZ, hh⟩ := hP
  have hx := Bd.exec
  have hby := Bd.bytes
  have bd : ∀ {pc r}, decode kQ11 pc = r → decode c.code pc = r := fun q => hb hby q
  have hlk : meth.locks = false := Bd.notSynchronized
  have hml : c.maxLocals = 2 := hml0
  have hown : s.vm.findClass cA = some m.cls := findClass_of_methodNamed Bd.named
  have hnm := (name_of_methodNamed Bd.named Bd.method).1
  have X0 : Stand p l e (rO 4 1 10 57) s m #[(.ref a1), (.ref x0)] below meth c s₁ [] 0 0 := Stand.of_body Bd
  have e0 : s₁.heap = h0 := by rw [← hh, Bd.state]; rfl
  have N0 := Fr.nil n0
  suffices hgo : OD p e s below (Q_rmA1_0 Z a1 x0 h0 n0) (rO 4 1 10 57).cells (rO 4 1 10 57).slots (s₁.setTop (mkF m 0 #[.val (.ref a1), .val (.ref x0)] [])) by
    obtain ⟨s₂, o, hgo1, hgo2⟩ := hgo
    exact ⟨s₂, o, castTop (ef6 m a1 x0) hgo1, hgo2⟩
  refine OD.go (B := (s₁.setTop (mkF m 2 #[.val (.ref a1), .val (.ref x0)] [(.ref a1), (.ref a1)]))) (fun t k => XS.aloadN X0.here hx rfl (bd d30_0) rfl rfl (XS.dup X0.here hx rfl (bd d30_1) rfl rfl k)) ?_
  obtain ⟨T1, X1, e1, st1⟩ := getF X0 hx hZ hown (host := "") (Or.inl (Wd195 hw)) (Via.of (Wd196 hw)) e0 Fm (g := (mkF m 2 #[.val (.ref a1), .val (.ref x0)] [(.ref a1), (.ref a1)])) rfl rfl (bd d30_2)
  refine OD.go st1 ?_
  refine OD.go (B := (T1.setTop (mkF m 7 #[.val (.ref a1), .val (.ref x0)] [(.int 1), (.ref a1)]))) (fun t k => XS.iconst X1.here hx rfl (bd d30_5) (XS.iadd X1.here hx rfl (bd d30_6) rfl k)) ?_
  obtain ⟨T2, h2, X2, e2, W2, st2⟩ := putF X1 hx hZ hown (host := "") (Or.inl (Wd195 hw)) (Via.of (Wd196 hw)) e1 Fm E1 (Or.inl (Wd71 hw)) (Wd52 hw) (ty := .int) (by decide) rfl rfl (g := (mkF m 7 #[.val (.ref a1), .val (.ref x0)] [(.int 1), (.ref a1)])) rfl rfl (bd d30_7)
  have Fx2 := Fm.same W2
  have N2 := Fr.snoc X2 N0 g1
  refine OD.go st2 ?_
  refine OD.go (B := (T2.setTop (mkF m 13 #[.val (.ref a1), .val (.ref x0)] [(.ref a1), (.ref x0), (.ref a1)]))) (fun t k => XS.aloadN X2.here hx rfl (bd d30_10) rfl rfl (XS.aloadN X2.here hx rfl (bd d30_11) rfl rfl (XS.aloadN X2.here hx rfl (bd d30_12) rfl rfl k))) ?_
  have f3 := (Fe.other W2 (Or.inr (slot_ne (Or.inl (Wd74 hw)) (Or.inl (Wd71 hw)) (by decide) (t := (.array (.object cO))) (t' := .int) (by decide) (by decide))))
  obtain ⟨T4, X4, e4, st4⟩ := getF X2 hx hZ hown (host := "") (Or.inl (Wd73 hw)) Via.refl e2 f3 (g := (mkF m 13 #[.val (.ref a1), .val (.ref x0)] [(.ref a1), (.ref x0), (.ref a1)])) rfl rfl (bd d30_13)
  refine OD.go st4 ?_
  refine OD.go (B := (T4.setTop (mkF m 17 #[.val (.ref a1), .val (.ref x0)] [(.ref a1), (.ref dc), (.ref x0), (.ref a1)]))) (fun t k => XS.aloadN X4.here hx rfl (bd d30_16) rfl rfl k) ?_
  have f5 := (Fs.other W2 (Or.inr (slot_ne (Or.inl (Wd114 hw)) (Or.inl (Wd71 hw)) (by decide) (t := .int) (t' := .int) (by decide) (by decide))))
  obtain ⟨T6, X6, e6, st6⟩ := getF X4 hx hZ hown (host := "") (Or.inl (Wd113 hw)) Via.refl e4 f5 (g := (mkF m 17 #[.val (.ref a1), .val (.ref x0)] [(.ref a1), (.ref dc), (.ref x0), (.ref a1)])) rfl rfl (bd d30_17)
  refine OD.go (B := (T6.setTop (mkF m 20 #[.val (.ref a1), .val (.ref x0)] [(.int 0), (.ref dc), (.ref x0), (.ref a1)]))) st6 ?_
  have f7 := (E1.wr W2)
  have f8 := (Ex.wr W2)
  obtain ⟨cq9, qa9, qb9⟩ := f7.cell
  obtain ⟨_, _, ⟨T9, L9, k9, n9⟩, -, X9, ⟨Lc9, hQ9, l9, y9, z9⟩, st9⟩ := X6.privateBack hx (y := (⟨cA, "add", zZ13⟩ : MethodName)) hown (mvT hZ (Wd197 hw)) (mvT hZ (Wd198 hw)) (mvT hZ (Wd200 hw)) (Cond.privateMethod_at (mvP hZ (Wd199 hw) (args := #[]))) (mvT hZ (Wd201 hw)) (by decide) (backOf (W := 0) (rmA3_0 l Z a0 hw [] a1 x0 dc h2 kd n0 (Nat.le_trans Z0 (Keep.of_wr W2).1) f7 g1 f3 f5 (1 : Int32) Fx2 f8 (X00.wr W2 g1) Odc Adc) hZ (Wd201 hw) (Wd53 hw) (by decide) (by decide)) (g := (mkF m 20 #[.val (.ref a1), .val (.ref x0)] [(.int 0), (.ref dc), (.ref x0), (.ref a1)])) rfl (by rw [hml]; rfl) (Steps.refl _) (a := a1) (by rw [e6]; exact qa9) qb9 (argsL := [(.ref x0), (.ref dc), (.int 0)]) (rest := []) (lenOf pd5 rfl) rfl (by show 2 * 0 + _ ≤ _; exact Nat.le_of_eq rfl) (bd d30_20) (fun _ _ => ⟨rfl, e6, (nl rfl), (nl rfl)⟩)
  dsimp only [Pt.U, Pt.locs, Pt.cells, Pt.slots] at X9 l9 y9 z9 st9 hQ9
  subst l9 y9 z9
  obtain ⟨b9, k9', rfl, Nq9, K9, ob9, G9, S9, A9, O9, M9⟩ := hQ9
  have N9 := Fr.app N2 Nq9
  have gb9 : n0 ≤ b9 := Nat.le_trans (Nat.le_trans Z0 (Keep.of_wr W2).1) ob9
  have nb9_a1 : a1 ≠ b9 := Nat.ne_of_lt (Nat.lt_of_lt_of_le (Nat.lt_of_lt_of_le Fm.lt (Keep.of_wr W2).1) ob9)
  have nb9_x0 : x0 ≠ b9 := Nat.ne_of_lt (Nat.lt_of_lt_of_le (Nat.lt_of_lt_of_le Ex.lt (Keep.of_wr W2).1) ob9)
  refine OD.via st9 ?_
  refine OD.go (B := (T9.setTop (mkF m 24 #[.val (.ref a1), .val (.ref x0)] [(.int 1)]))) (fun t k => XS.iconst X9.here hx rfl (bd d30_23) k) ?_
  exact OD.ret X9 hx hlk (t := .boolean) Bd.returns rfl (Or.inl ⟨rfl, Or.inr (Or.inl rfl), _, rfl⟩) (bd d30_24) (nl rfl) (nl rfl) ⟨_, _, rfl, N9, by exact (((Keep.refl h0 [a1]).wr W2 (Or.inl (List.mem_of_getElem? (i := 0) rfl))).trans K9 (allS (Or.inl (List.mem_of_getElem? (i := 0) rfl)) all0)), (Nat.le_trans (Nat.le_trans (Nat.le_refl _) (Keep.of_wr W2).1) ob9), by exact G9, by exact S9, by exact A9, O9, by exact M9⟩
def Q_rmA1_1 (Z : State) (a1 : Addr) (x1 : Addr) (h0 : Heap) (n0 : Nat) (x0 : Addr) (ar : Addr) (ka : ClassId) (v : Option Value) (h : Heap) (L : List Loc) : Prop := v = some (.int 1) ∧ Fr n0 L ∧ Keep h0 h [a1, ar] ∧ Fld Z h a1 cA "size" "I" (.int 2) ∧ Arv Z h ar ka (.object cO) (10 : Int32) [(.ref x0), (.ref x1), .null, .null, .null, .null, .null, .null, .null, .null] .null ∧ Fld Z h a1 cA "elementData" "[Ljava/lang/Object;" (.ref ar) ∧ Fld Z h a1 "java/util/AbstractList" "modCount" "I" (.int 2)
set_option maxRecDepth 65536 in
set_option maxHeartbeats 40000000 in
theorem rmA1_1 (l : Launch) (Z : State) (a0 : Array Value) (hw : HW a0 Z) (ws : List Jvm.Cond) (a1 : Addr) (x1 : Addr) (h0 : Heap) (n0 : Nat) (Z0 : n0 ≤ h0.size) (E1 : Exa Z h0 a1 cA) (g1 : n0 ≤ a1) (Fs : Fld Z h0 a1 cA "size" "I" (.int 1)) (Ex : Exa Z h0 x1 "java/lang/String") (x0 : Addr) (ar : Addr) (ka : ClassId) (Aa : Arv Z h0 ar ka (.object cO) (10 : Int32) [(.ref x0), .null, .null, .null, .null, .null, .null, .null, .null, .null] .null) (Oa : OvO Z ka) (g2 : n0 ≤ ar) (na : a1 ≠ ar) (Fe : Fld Z h0 a1 cA "elementData" "[Ljava/lang/Object;" (.ref ar)) (Fm : Fld Z h0 a1 "java/util/AbstractList" "modCount" "I" (.int 1)) :
    MetFree l (⟨cA, "add", "(Ljava/lang/Object;)Z"⟩ : MethodName) (head1 (Jvm.Cond.code (⟨cA, "add", "(Ljava/lang/Object;)Z"⟩ : MethodName) kQ11 2 (some .boolean) :: ws) (rO 1 0 0 16)) (fun a U => a = #[(.ref a1), (.ref x1)] ∧ Z.Warmed39 U.vm ∧ U.heap = h0) (fun _ _ _ _ _ => True) (fun _ U o U' => ∃ v L, o = .returned v ∧ Q_rmA1_1 Z a1 x1 h0 n0 x0 ar ka v U'.heap L ∧ FrameEnd U o U' L (rO 1 0 0 16).cells (rO 1 0 0 16).slots) := by
  refine MetFree.of_bodySF (plainFor_of_name pn5) hisR ?_
  intro p e s m args below meth c s₁ Bd hml0 hP hK
  obtain ⟨rfl, hZ, hh⟩ := hP
  have hx := Bd.exec
  have hby := Bd.bytes
  have bd : ∀ {pc r}, decode kQ11 pc = r → decode c.code pc = r := fun q => hb hby q
  have hlk : meth.locks = false := Bd.notSynchronized
  have hml : c.maxLocals = 2 := hml0
  have hown : s.vm.findClass cA = some m.cls := findClass_of_methodNamed Bd.named
  have hnm := (name_of_methodNamed Bd.named Bd.method).1
  have X0 : Stand p l e (rO 1 0 0 16) s m #[(.ref a1), (.ref x1)] below meth c s₁ [] 0 0 := Stand.of_body Bd
  have e0 : s₁.heap = h0 := by rw [← hh, Bd.state]; rfl
  have N0 := Fr.nil n0
  suffices hgo : OD p e s below (Q_rmA1_1 Z a1 x1 h0 n0 x0 ar ka) (rO 1 0 0 16).cells (rO 1 0 0 16).slots (s₁.setTop (mkF m 0 #[.val (.ref a1), .val (.ref x1)] [])) by
    obtain ⟨s₂, o, hgo1, hgo2⟩ := hgo
    exact ⟨s₂, o, castTop (ef6 m a1 x1) hgo1, hgo2⟩
  refine OD.go (B := (s₁.setTop (mkF m 2 #[.val (.ref a1), .val (.ref x1)] [(.ref a1), (.ref a1)]))) (fun t k => XS.aloadN X0.here hx rfl (bd d30_0) rfl rfl (XS.dup X0.here hx rfl (bd d30_1) rfl rfl k)) ?_
  obtain ⟨T1, X1, e1, st1⟩ := getF X0 hx hZ hown (host := "") (Or.inl (Wd195 hw)) (Via.of (Wd196 hw)) e0 Fm (g := (mkF m 2 #[.val (.ref a1), .val (.ref x1)] [(.ref a1), (.ref a1)])) rfl rfl (bd d30_2)
  refine OD.go st1 ?_
  refine OD.go (B := (T1.setTop (mkF m 7 #[.val (.ref a1), .val (.ref x1)] [(.int 2), (.ref a1)]))) (fun t k => XS.iconst X1.here hx rfl (bd d30_5) (XS.iadd X1.here hx rfl (bd d30_6) rfl k)) ?_
  obtain ⟨T2, h2, X2, e2, W2, st2⟩ := putF X1 hx hZ hown (host := "") (Or.inl (Wd195 hw)) (Via.of (Wd196 hw)) e1 Fm E1 (Or.inl (Wd71 hw)) (Wd52 hw) (ty := .int) (by decide) rfl rfl (g := (mkF m 7 #[.val (.ref a1), .val (.ref x1)] [(.int 2), (.ref a1)])) rfl rfl (bd d30_7)
  have Fx2 := Fm.same W2
  have N2 := Fr.snoc X2 N0 g1
  refine OD.go st2 ?_
  refine OD.go (B := (T2.setTop (mkF m 13 #[.val (.ref a1), .val (.ref x1)] [(.ref a1), (.ref x1), (.ref a1)]))) (fun t k => XS.aloadN X2.here hx rfl (bd d30_10) rfl rfl (XS.aloadN X2.here hx rfl (bd d30_11) rfl rfl (XS.aloadN X2.here hx rfl (bd d30_12) rfl rfl k))) ?_
  have f3 := (Fe.other W2 (Or.inr (slot_ne (Or.inl (Wd74 hw)) (Or.inl (Wd71 hw)) (by decide) (t := (.array (.object cO))) (t' := .int) (by decide) (by decide))))
  obtain ⟨T4, X4, e4, st4⟩ := getF X2 hx hZ hown (host := "") (Or.inl (Wd73 hw)) Via.refl e2 f3 (g := (mkF m 13 #[.val (.ref a1), .val (.ref x1)] [(.ref a1), (.ref x1), (.ref a1)])) rfl rfl (bd d30_13)
  refine OD.go st4 ?_
  refine OD.go (B := (T4.setTop (mkF m 17 #[.val (.ref a1), .val (.ref x1)] [(.ref a1), (.ref ar), (.ref x1), (.ref a1)]))) (fun t k => XS.aloadN X4.here hx rfl (bd d30_16) rfl rfl k) ?_
  have f5 := (Fs.other W2 (Or.inr (slot_ne (Or.inl (Wd114 hw)) (Or.inl (Wd71 hw)) (by decide) (t := .int) (t' := .int) (by decide) (by decide))))
  obtain ⟨T6, X6, e6, st6⟩ := getF X4 hx hZ hown (host := "") (Or.inl (Wd113 hw)) Via.refl e4 f5 (g := (mkF m 17 #[.val (.ref a1), .val (.ref x1)] [(.ref a1), (.ref ar), (.ref x1), (.ref a1)])) rfl rfl (bd d30_17)
  refine OD.go (B := (T6.setTop (mkF m 20 #[.val (.ref a1), .val (.ref x1)] [(.int 1), (.ref ar), (.ref x1), (.ref a1)]))) st6 ?_
  have f7 := (E1.wr W2)
  have f8 := (Ex.wr W2)
  have f9 := (Aa.other W2 (Ne.symm na))
  obtain ⟨cq10, qa10, qb10⟩ := f7.cell
  obtain ⟨_, _, ⟨T10, L10, k10, n10⟩, -, X10, ⟨Lc10, hQ10, l10, y10, z10⟩, st10⟩ := X6.privateBack hx (y := (⟨cA, "add", zZ13⟩ : MethodName)) hown (mvT hZ (Wd197 hw)) (mvT hZ (Wd198 hw)) (mvT hZ (Wd200 hw)) (Cond.privateMethod_at (mvP hZ (Wd199 hw) (args := #[]))) (mvT hZ (Wd201 hw)) (by decide) (backOf (W := 0) (rmA3_1 l Z a0 hw [] a1 x1 ar h2 n0 (Nat.le_trans Z0 (Keep.of_wr W2).1) f7 g1 f5 f8 x0 ka f9 Oa g2 na f3 (2 : Int32) Fx2) hZ (Wd201 hw) (Wd53 hw) (by decide) (by decide)) (g := (mkF m 20 #[.val (.ref a1), .val (.ref x1)] [(.int 1), (.ref ar), (.ref x1), (.ref a1)])) rfl (by rw [hml]; rfl) (Steps.refl _) (a := a1) (by rw [e6]; exact qa10) qb10 (argsL := [(.ref x1), (.ref ar), (.int 1)]) (rest := []) (lenOf pd5 rfl) rfl (by show 2 * 0 + _ ≤ _; exact Nat.le_of_eq rfl) (bd d30_20) (fun _ _ => ⟨rfl, e6, (nl rfl), (nl rfl)⟩)
  dsimp only [Pt.U, Pt.locs, Pt.cells, Pt.slots] at X10 l10 y10 z10 st10 hQ10
  subst l10 y10 z10
  obtain ⟨rfl, Nq10, K10, S10, A10, G10, M10⟩ := hQ10
  have N10 := Fr.app N2 Nq10
  refine OD.via st10 ?_
  refine OD.go (B := (T10.setTop (mkF m 24 #[.val (.ref a1), .val (.ref x1)] [(.int 1)]))) (fun t k => XS.iconst X10.here hx rfl (bd d30_23) k) ?_
  exact OD.ret X10 hx hlk (t := .boolean) Bd.returns rfl (Or.inl ⟨rfl, Or.inr (Or.inl rfl), _, rfl⟩) (bd d30_24) (nl rfl) (nl rfl) ⟨rfl, N10, by exact (((Keep.refl h0 [a1, ar]).wr W2 (Or.inl (List.mem_of_getElem? (i := 0) rfl))).trans K10 (allS (Or.inl (List.mem_of_getElem? (i := 0) rfl)) (allS (Or.inl (List.mem_of_getElem? (i := 1) rfl)) all0))), by exact S10, by exact A10, by exact G10, by exact M10⟩
def Q_rmCE (Z : State) (x0 : Int32) (h0 : Heap) (v : Option Value) (h : Heap) (L : List Loc) : Prop := v = some (.int 1) ∧ L = [] ∧ h = h0
set_option maxRecDepth 65536 in
set_option maxHeartbeats 40000000 in
theorem rmCE (l : Launch) (Z : State) (a0 : Array Value) (hw : HW a0 Z) (ws : List Jvm.Cond) (x0 : Int32) (h0 : Heap) (hb255 : ¬ (255 : Int32) < x0) :
    MetFree l (⟨"java/lang/StringLatin1", "canEncode", "(C)Z"⟩ : MethodName) (head1 (Jvm.Cond.code (⟨"java/lang/StringLatin1", "canEncode", "(C)Z"⟩ : MethodName) kQ12 1 (some .boolean) :: ws) (rO 0 0 0 0)) (fun a U => a = #[(.int x0)] ∧ Z.Warmed39 U.vm ∧ U.heap = h0) (fun _ _ _ _ _ => True) (fun _ U o U' => ∃ v L, o = .returned v ∧ Q_rmCE Z x0 h0 v U'.heap L ∧ FrameEnd U o U' L (rO 0 0 0 0).cells (rO 0 0 0 0).slots) := by
  refine MetFree.of_bodySF (plainFor_of_name pn6) hisR ?_
  intro p e s m args below meth c s₁ Bd hml0 hP hK
  obtain ⟨rfl, hZ, hh⟩ := hP
  have hx := Bd.exec
  have hby := Bd.bytes
  have bd : ∀ {pc r}, decode kQ12 pc = r → decode c.code pc = r := fun q => hb hby q
  have hlk : meth.locks = false := Bd.notSynchronized
  have hml : c.maxLocals = 1 := hml0
  have hown : s.vm.findClass "java/lang/StringLatin1" = some m.cls := findClass_of_methodNamed Bd.named
  have hnm := (name_of_methodNamed Bd.named Bd.method).1
  have X0 : Stand p l e (rO 0 0 0 0) s m #[(.int x0)] below meth c s₁ [] 0 0 := Stand.of_body Bd
  have e0 : s₁.heap = h0 := by rw [← hh, Bd.state]; rfl
  suffices hgo : OD p e s below (Q_rmCE Z x0 h0) (rO 0 0 0 0).cells (rO 0 0 0 0).slots (s₁.setTop (mkF m 0 #[.val (.int x0)] [])) by
    obtain ⟨s₂, o, hgo1, hgo2⟩ := hgo
    exact ⟨s₂, o, castTop (ef2 m x0) hgo1, hgo2⟩
  refine OD.go (B := (s₁.setTop (mkF m 12 #[.val (.int x0)] [(.int 1)]))) (fun t k => XS.iloadN X0.here hx rfl (bd d9_0) rfl (XS.sipush X0.here hx rfl (bd d9_1) (XS.icmpNo X0.here hx rfl (bd d9_4) rfl (flt hb255).2.2.1 (XS.iconst X0.here hx rfl (bd d9_7) (XS.goto X0.here hx rfl (pc0 := 8) (pc' := 12) rfl (bd d9_8) (by decide) (by decide) k))))) ?_
  exact OD.ret X0 hx hlk (t := .boolean) Bd.returns rfl (Or.inl ⟨rfl, Or.inr (Or.inl rfl), _, rfl⟩) (bd d9_12) (nl rfl) (nl rfl) ⟨rfl, rfl, e0⟩
def Q_rmTB (Z : State) (x0 : Int32) (h0 : Heap) (n0 : Nat) (v : Option Value) (h : Heap) (L : List Loc) : Prop := ∃ (b : Addr) (k : ClassId), v = some (.ref b) ∧ Fr n0 L ∧ Keep h0 h [] ∧ h0.size ≤ b ∧ Arv Z h b k .byte (1 : Int32) [(.int x0.toInt8.toInt32.toInt8.toInt32)] (.int 0)
set_option maxRecDepth 65536 in
set_option maxHeartbeats 40000000 in
theorem rmTB (l : Launch) (Z : State) (a0 : Array Value) (hw : HW a0 Z) (ws : List Jvm.Cond) (x0 : Int32) (h0 : Heap) (n0 : Nat) (Z0 : n0 ≤ h0.size) :
    MetFree l (⟨"java/lang/StringLatin1", "toBytes", "(C)[B"⟩ : MethodName) (head1 (Jvm.Cond.code (⟨"java/lang/StringLatin1", "toBytes", "(C)[B"⟩ : MethodName) kQ13 1 (some (.array .byte)) :: ws) (rO 0 1 1 0)) (fun a U => a = #[(.int x0)] ∧ Z.Warmed39 U.vm ∧ U.heap = h0) (fun _ _ _ _ _ => True) (fun _ U o U' => ∃ v L, o = .returned v ∧ Q_rmTB Z x0 h0 n0 v U'.heap L ∧ FrameEnd U o U' L (rO 0 1 1 0).cells (rO 0 1 1 0).slots) := by
  refine MetFree.of_bodySF (plainFor_of_name pn6) hisR ?_
  intro p e s m args below meth c s₁ Bd hml0 hP hK
  obtain ⟨rfl, hZ, hh⟩ := hP
  have hx := Bd.exec
  have hby := Bd.bytes
  have bd : ∀ {pc r}, decode kQ13 pc = r → decode c.code pc = r := fun q => hb hby q
  have hlk : meth.locks = false := Bd.notSynchronized
  have hml : c.maxLocals = 1 := hml0
  have hown : s.vm.findClass "java/lang/StringLatin1" = some m.cls := findClass_of_methodNamed Bd.named
  have hnm := (name_of_methodNamed Bd.named Bd.method).1
  have X0 : Stand p l e (rO 0 1 1 0) s m #[(.int x0)] below meth c s₁ [] 0 0 := Stand.of_body Bd
  have e0 : s₁.heap = h0 := by rw [← hh, Bd.state]; rfl
  have N0 := Fr.nil n0
  suffices hgo : OD p e s below (Q_rmTB Z x0 h0 n0) (rO 0 1 1 0).cells (rO 0 1 1 0).slots (s₁.setTop (mkF m 0 #[.val (.int x0)] [])) by
    obtain ⟨s₂, o, hgo1, hgo2⟩ := hgo
    exact ⟨s₂, o, castTop (ef2 m x0) hgo1, hgo2⟩
  refine OD.go (B := (s₁.setTop (mkF m 1 #[.val (.int x0)] [(.int 1)]))) (fun t k => XS.iconst X0.here hx rfl (bd d10_0) k) ?_
  obtain ⟨T1, h1, k1, X1, e1, E1, A1, st1⟩ := newP X0 hx hZ (aty := .byte) (Wd26 hw) e0 (g := (mkF m 1 #[.val (.int x0)] [(.int 1)])) rfl (bd d10_1) rfl (by decide) (cap := 1) (by decide) (by decide) (nl rfl) (nl rfl)
  obtain ⟨b1, g1⟩ : ∃ z, z = h0.size := ⟨_, rfl⟩
  rw [← g1] at A1 st1
  have V1 : Arv Z h1 b1 k1 .byte (1 : Int32) [(.int 0)] (.int 0) := (Arv.new A1 (by decide)).pad (pad_rep [] (.int 0) 1)
  refine OD.go st1 ?_
  refine OD.go (B := (T1.setTop (mkF m 7 #[.val (.int x0)] [(.int x0.toInt8.toInt32), (.int 0), (.ref b1), (.ref b1)]))) (fun t k => XS.dup X1.here hx rfl (bd d10_3) rfl rfl (XS.iconst X1.here hx rfl (bd d10_4) (XS.iloadN X1.here hx rfl (bd d10_5) rfl (XS.i2b X1.here hx rfl (bd d10_6) rfl k)))) ?_
  obtain ⟨cl2, Ar2, q2, S2, M2, H2, G2⟩ := id V1
  obtain ⟨T2, h2, X2, e2, W2, st2⟩ := stB X1 hx hZ e1 Ar2 (j := (0 : Int32)) (inb_of S2 ⟨by decide, by decide⟩) (g := (mkF m 7 #[.val (.int x0)] [(.int x0.toInt8.toInt32), (.int 0), (.ref b1), (.ref b1)])) rfl rfl (bd d10_7)
  have V2 : Arv Z h2 b1 k1 .byte (1 : Int32) [(.int x0.toInt8.toInt32.toInt8.toInt32)] (.int 0) := Arv.set Ar2 q2 S2 M2 H2 G2 (fits_nar_byte _) W2 0 rfl (nl rfl)
  have N2 := Fr.snoc X2 N0 (Nat.le_trans Z0 (Nat.le_of_eq g1.symm))
  refine OD.go (B := (T2.setTop (mkF m 8 #[.val (.int x0)] [(.ref b1)]))) st2 ?_
  exact OD.ret X2 hx hlk (t := (.array .byte)) Bd.returns rfl (Or.inr (Or.inr (Or.inr (Or.inr ⟨rfl, rfl, rfl⟩)))) (bd d10_8) (nl rfl) (nl rfl) ⟨_, _, rfl, N2, by rw [e2]; exact (((Keep.refl h0 []).ext E1).wr W2 (Or.inr (Nat.le_trans (Nat.le_refl _) (Nat.le_of_eq g1.symm)))), (Nat.le_trans (Nat.le_refl _) (Nat.le_of_eq g1.symm)), by rw [e2]; exact V2⟩
def Q_rmSB (Z : State) (a1 : Addr) (a2 : Addr) (h0 : Heap) (n0 : Nat) (v : Option Value) (h : Heap) (L : List Loc) : Prop := v = none ∧ Fr n0 L ∧ Keep h0 h [a1] ∧ Fld Z h a1 "java/lang/String" "value" "[B" (.ref a2) ∧ Fld Z h a1 "java/lang/String" "coder" "B" (.int 0)
set_option maxRecDepth 65536 in
set_option maxHeartbeats 40000000 in
theorem rmSB (l : Launch) (Z : State) (a0 : Array Value) (hw : HW a0 Z) (ws : List Jvm.Cond) (a1 : Addr) (a2 : Addr) (h0 : Heap) (n0 : Nat) (Z0 : n0 ≤ h0.size) (E1 : Exa Z h0 a1 "java/lang/String") (F0 : Fld Z h0 a1 "java/lang/String" "value" "[B" .null) (F1 : Fld Z h0 a1 "java/lang/String" "coder" "B" (.int 0)) (g1 : n0 ≤ a1) :
    MetFree l (⟨"java/lang/String", "<init>", "([BB)V"⟩ : MethodName) (head1 (Jvm.Cond.code (⟨"java/lang/String", "<init>", "([BB)V"⟩ : MethodName) kQ14 3 none :: ws) (rO 1 0 0 12)) (fun a U => a = #[(.ref a1), (.ref a2), (.int 0)] ∧ Z.Warmed39 U.vm ∧ U.heap = h0) (fun _ _ _ _ _ => True) (fun _ U o U' => ∃ v L, o = .returned v ∧ Q_rmSB Z a1 a2 h0 n0 v U'.heap L ∧ FrameEnd U o U' L (rO 1 0 0 12).cells (rO 1 0 0 12).slots) := by
  refine MetFree.of_bodySF (plainFor_of_name pn7) hisR ?_
  intro p e s m args below meth c s₁ Bd hml0 hP hK
  obtain ⟨rfl, hZ, hh⟩ := hP
  have hx := Bd.exec
  have hby := Bd.bytes
  have bd : ∀ {pc r}, decode kQ14 pc = r → decode c.code pc = r := fun q => hb hby q
  have hlk : meth.locks = false := Bd.notSynchronized
  have hml : c.maxLocals = 3 := hml0
  have hown : s.vm.findClass "java/lang/String" = some m.cls := findClass_of_methodNamed Bd.named
  have hnm := (name_of_methodNamed Bd.named Bd.method).1
  have X0 : Stand p l e (rO 1 0 0 12) s m #[(.ref a1), (.ref a2), (.int 0)] below meth c s₁ [] 0 0 := Stand.of_body Bd
  have e0 : s₁.heap = h0 := by rw [← hh, Bd.state]; rfl
  have N0 := Fr.nil n0
  suffices hgo : OD p e s below (Q_rmSB Z a1 a2 h0 n0) (rO 1 0 0 12).cells (rO 1 0 0 12).slots (s₁.setTop (mkF m 0 #[.val (.ref a1), .val (.ref a2), .val (.int 0)] [])) by
    obtain ⟨s₂, o, hgo1, hgo2⟩ := hgo
    exact ⟨s₂, o, castTop (ef7 m a1 a2 (0 : Int32)) hgo1, hgo2⟩
  refine OD.go (B := (s₁.setTop (mkF m 1 #[.val (.ref a1), .val (.ref a2), .val (.int 0)] [(.ref a1)]))) (fun t k => XS.aloadN X0.here hx rfl (bd d11_0) rfl rfl k) ?_
  obtain ⟨T1, X1, e1, st1⟩ := initO X0 hx hZ hown (Wd18 hw) (Wd19 hw) (Wd20 hw) e0 (g := (mkF m 1 #[.val (.ref a1), .val (.ref a2), .val (.int 0)] [(.ref a1)])) rfl (by rw [hml]; rfl) rfl (bd d11_1) (by decide) (W := 0) (by show 2 * 0 + _ ≤ _; exact Nat.le_of_eq rfl) (by decide)
  refine OD.go st1 ?_
  refine OD.go (B := (T1.setTop (mkF m 6 #[.val (.ref a1), .val (.ref a2), .val (.int 0)] [(.ref a2), (.ref a1)]))) (fun t k => XS.aloadN X1.here hx rfl (bd d11_4) rfl rfl (XS.aloadN X1.here hx rfl (bd d11_5) rfl rfl k)) ?_
  obtain ⟨T2, h2, X2, e2, W2, st2⟩ := putF X1 hx hZ hown (host := "") (Or.inl (Wd35 hw)) Via.refl e1 F0 E1 (Or.inr ⟨(Wd36 hw), rfl, hnm⟩) (Wd8 hw) (ty := (.array .byte)) (by decide) rfl rfl (g := (mkF m 6 #[.val (.ref a1), .val (.ref a2), .val (.int 0)] [(.ref a2), (.ref a1)])) rfl rfl (bd d11_6)
  have Fx2 := F0.same W2
  have N2 := Fr.snoc X2 N0 g1
  refine OD.go st2 ?_
  refine OD.go (B := (T2.setTop (mkF m 11 #[.val (.ref a1), .val (.ref a2), .val (.int 0)] [(.int 0), (.ref a1)]))) (fun t k => XS.aloadN X2.here hx rfl (bd d11_9) rfl rfl (XS.iloadN X2.here hx rfl (bd d11_10) rfl k)) ?_
  have f3 := (F1.other W2 (Or.inr (slot_ne (Or.inr (Wd34 hw)) (Or.inr (Wd36 hw)) (by decide) (t := .byte) (t' := (.array .byte)) (by decide) (by decide))))
  have f4 := (E1.wr W2)
  obtain ⟨T5, h5, X5, e5, W5, st5⟩ := putFN X2 hx hZ hown (Wd33 hw) Via.refl e2 f3 f4 (Or.inr ⟨(Wd34 hw), rfl, hnm⟩) (Wd8 hw) (ty := .byte) (v' := (.int 0)) (by decide) rfl (by decide) (g := (mkF m 11 #[.val (.ref a1), .val (.ref a2), .val (.int 0)] [(.int 0), (.ref a1)])) rfl rfl (bd d11_11)
  have Fx5 := f3.same W5
  have N5 := Fr.snoc X5 N2 g1
  refine OD.go (B := (T5.setTop (mkF m 14 #[.val (.ref a1), .val (.ref a2), .val (.int 0)] []))) st5 ?_
  exact OD.retV X5 hx hlk Bd.returns (bd d11_14) (nl rfl) (nl rfl) ⟨rfl, N5, by rw [e5]; exact (((Keep.refl h0 [a1]).wr W2 (Or.inl (List.mem_of_getElem? (i := 0) rfl))).wr W5 (Or.inl (List.mem_of_getElem? (i := 0) rfl))), by rw [e5]; exact (Fx2.other W5 (Or.inr (slot_ne (Or.inr (Wd36 hw)) (Or.inr (Wd34 hw)) (by decide) (t := (.array .byte)) (t' := .byte) (by decide) (by decide)))), by rw [e5]; exact Fx5⟩
def Q_rmVO (Z : State) (x0 : Int32) (h0 : Heap) (n0 : Nat) (v : Option Value) (h : Heap) (L : List Loc) : Prop := ∃ (b t : Addr) (k : ClassId), v = some (.ref b) ∧ Fr n0 L ∧ Keep h0 h [] ∧ h0.size ≤ b ∧ Exa Z h b "java/lang/String" ∧ Fld Z h b "java/lang/String" "value" "[B" (.ref t) ∧ Fld Z h b "java/lang/String" "coder" "B" (.int 0) ∧ Arv Z h t k .byte (1 : Int32) [(.int x0.toInt8.toInt32.toInt8.toInt32)] (.int 0) ∧ t ≠ b ∧ h0.size ≤ t
set_option maxRecDepth 65536 in
set_option maxHeartbeats 40000000 in
theorem rmVO (l : Launch) (Z : State) (a0 : Array Value) (hw : HW a0 Z) (ws : List Jvm.Cond) (x0 : Int32) (h0 : Heap) (n0 : Nat) (Z0 : n0 ≤ h0.size) (X00 : Old Z n0 h0) (hb255 : ¬ (255 : Int32) < x0) (zc : Int32) (O2 : Sta Z Z.heap "java/lang/String" "COMPACT_STRINGS" "Z" (.int zc)) (P5 : ¬ zc = 0) :
    MetFree l (⟨"java/lang/String", "valueOf", "(C)Ljava/lang/String;"⟩ : MethodName) (head1 (Jvm.Cond.code (⟨"java/lang/String", "valueOf", "(C)Ljava/lang/String;"⟩ : MethodName) kQ15 1 (some (.object "java/lang/String")) :: ws) (rO 2 2 5 27)) (fun a U => a = #[(.int x0)] ∧ Z.Warmed39 U.vm ∧ U.heap = h0) (fun _ _ _ _ _ => True) (fun _ U o U' => ∃ v L, o = .returned v ∧ Q_rmVO Z x0 h0 n0 v U'.heap L ∧ FrameEnd U o U' L (rO 2 2 5 27).cells (rO 2 2 5 27).slots) := by
  refine MetFree.of_bodySF (plainFor_of_name pn7) hisR ?_
  intro p e s m args below meth c s₁ Bd hml0 hP hK
  obtain ⟨rfl, hZ, hh⟩ := hP
  have hx := Bd.exec
  have hby := Bd.bytes
  have bd : ∀ {pc r}, decode kQ15 pc = r → decode c.code pc = r := fun q => hb hby q
  have hlk : meth.locks = false := Bd.notSynchronized
  have hml : c.maxLocals = 1 := hml0
  have hown : s.vm.findClass "java/lang/String" = some m.cls := findClass_of_methodNamed Bd.named
  have hnm := (name_of_methodNamed Bd.named Bd.method).1
  have X0 : Stand p l e (rO 2 2 5 27) s m #[(.int x0)] below meth c s₁ [] 0 0 := Stand.of_body Bd
  have e0 : s₁.heap = h0 := by rw [← hh, Bd.state]; rfl
  have N0 := Fr.nil n0
  suffices hgo : OD p e s below (Q_rmVO Z x0 h0 n0) (rO 2 2 5 27).cells (rO 2 2 5 27).slots (s₁.setTop (mkF m 0 #[.val (.int x0)] [])) by
    obtain ⟨s₂, o, hgo1, hgo2⟩ := hgo
    exact ⟨s₂, o, castTop (ef2 m x0) hgo1, hgo2⟩
  have f1 := (O2.ext X00.2)
  obtain ⟨T2, X2, e2, st2⟩ := getS2 X0 hx hZ hown (host := "") (Or.inl (Wd21 hw)) Via.refl e0 f1 (g := (mkF m 0 #[.val (.int x0)] [])) rfl (bd d8_0)
  refine OD.go st2 ?_
  refine OD.go (B := (T2.setTop (mkF m 7 #[.val (.int x0)] [(.int x0)]))) (fun t k => XS.ifNo X2.here hx rfl (bd d8_3) rfl (by rw [if0]; exact (feq P5).1) (XS.iloadN X2.here hx rfl (bd d8_6) rfl k)) ?_
  obtain ⟨_, _, ⟨T3, L3, k3, n3⟩, -, X3, ⟨Lc3, hQ3, l3, y3, z3⟩, st3⟩ := Jvm.LawKit.callS X2 hx (y := (⟨"java/lang/StringLatin1", "canEncode", "(C)Z"⟩ : MethodName)) hown (mvT hZ (Wd40 hw)) (mvT hZ (Wd41 hw)) (mvT hZ (Wd42 hw)) (mvT hZ (Wd43 hw)) (by decide) (backOf (W := 0) (rmCE l Z a0 hw [] x0 h0 hb255) hZ (Wd43 hw) (Wd42 hw) (by decide) (by decide)) (g := (mkF m 7 #[.val (.int x0)] [(.int x0)])) rfl (by rw [hml]; rfl) (argsL := [(.int x0)]) (rest := []) (lenOf pd6 rfl) rfl (by show 2 * 0 + _ ≤ _; exact Nat.le_of_eq rfl) (bd d8_7) (fun _ _ => ⟨rfl, e2, (nl rfl), (nl rfl)⟩)
  dsimp only [Pt.U, Pt.locs, Pt.cells, Pt.slots] at X3 l3 y3 z3 st3 hQ3
  subst l3 y3 z3
  obtain ⟨rfl, rfl, e3⟩ := hQ3
  have N3 := Fr.app N0 (Fr.nil _)
  refine OD.go st3 ?_
  refine OD.go (B := (T3.setTop (mkF m 13 #[.val (.int x0)] []))) (fun t k => XS.ifNo X3.here hx rfl (bd d8_10) rfl (by rw [if0]; exact (feq (by decide : ¬ (1 : Int32) = (0 : Int32))).1) k) ?_
  obtain ⟨T4, h4, X4, e4, E4, A4, D4, -, st4⟩ := newO X3 hx hZ hown (Wd44 hw) (Wd8 hw) (Wd9 hw) e3 (g := (mkF m 13 #[.val (.int x0)] [])) rfl (bd d8_13) (nl rfl) (nl rfl)
  obtain ⟨b4, g4⟩ : ∃ z, z = h0.size := ⟨_, rfl⟩
  rw [← g4] at A4 D4 st4
  have Fn5 : Fld Z h4 b4 "java/lang/String" "coder" "B" (.int 0) := D4 (Or.inr (Wd34 hw)) (ty := .byte) (by decide)
  have Fn6 : Fld Z h4 b4 "java/lang/String" "value" "[B" .null := D4 (Or.inr (Wd36 hw)) (ty := (.array .byte)) (by decide)
  refine OD.go st4 ?_
  refine OD.go (B := (T4.setTop (mkF m 18 #[.val (.int x0)] [(.int x0), (.ref b4), (.ref b4)]))) (fun t k => XS.dup X4.here hx rfl (bd d8_16) rfl rfl (XS.iloadN X4.here hx rfl (bd d8_17) rfl k)) ?_
  obtain ⟨_, _, ⟨T7, L7, k7, n7⟩, -, X7, ⟨Lc7, hQ7, l7, y7, z7⟩, st7⟩ := Jvm.LawKit.callS X4 hx (y := (⟨"java/lang/StringLatin1", "toBytes", "(C)[B"⟩ : MethodName)) hown (mvT hZ (Wd45 hw)) (mvT hZ (Wd46 hw)) (mvT hZ (Wd42 hw)) (mvT hZ (Wd47 hw)) (by decide) (backOf (W := 2) (rmTB l Z a0 hw [] x0 h4 n0 (Nat.le_trans Z0 E4.1)) hZ (Wd47 hw) (Wd42 hw) (by decide) (by decide)) (g := (mkF m 18 #[.val (.int x0)] [(.int x0), (.ref b4), (.ref b4)])) rfl (by rw [hml]; rfl) (argsL := [(.int x0)]) (rest := [(.ref b4), (.ref b4)]) (lenOf pd7 rfl) rfl (by show 2 * 0 + _ ≤ _; exact Nat.le_of_eq rfl) (bd d8_18) (fun _ _ => ⟨rfl, e4, (nl rfl), (nl rfl)⟩)
  dsimp only [Pt.U, Pt.locs, Pt.cells, Pt.slots] at X7 l7 y7 z7 st7 hQ7
  subst l7 y7 z7
  obtain ⟨b7, k7', rfl, Nq7, K7, ob7, A7⟩ := hQ7
  have N7 := Fr.app N3 Nq7
  have gb7 : n0 ≤ b7 := Nat.le_trans (Nat.le_trans Z0 E4.1) ob7
  have nb7_b4 : b4 ≠ b7 := Nat.ne_of_lt (Nat.lt_of_lt_of_le A4.lt ob7)
  refine OD.go st7 ?_
  refine OD.go (B := (T7.setTop (mkF m 22 #[.val (.int x0)] [(.int 0), (.ref b7), (.ref b4), (.ref b4)]))) (fun t k => XS.iconst X7.here hx rfl (bd d8_21) k) ?_
  have f8 := (A4.keep K7)
  have f9 := (Fn6.keep K7 nin0)
  have f10 := (Fn5.keep K7 nin0)
  obtain ⟨_, _, ⟨T11, L11, k11, n11⟩, -, X11, ⟨Lc11, hQ11, l11, y11, z11⟩, st11⟩ := X7.specialBack hx (y := (⟨"java/lang/String", "<init>", "([BB)V"⟩ : MethodName)) rfl hown (mvT hZ (Wd48 hw)) (mvT hZ (Wd49 hw)) (mvT hZ (Wd50 hw)) (by decide) (backOf (W := 1) (rmSB l Z a0 hw [] b4 b7 T7.heap n0 (Nat.le_trans (Nat.le_trans Z0 E4.1) K7.1) f8 f9 f10 (Nat.le_trans Z0 (Nat.le_of_eq g4.symm))) hZ (Wd50 hw) (Wd9 hw) (by decide) (by decide)) (g := (mkF m 22 #[.val (.int x0)] [(.int 0), (.ref b7), (.ref b4), (.ref b4)])) rfl (by rw [hml]; rfl) (Steps.refl _) (a := b4) (argsL := [(.ref b7), (.int 0)]) (rest := [(.ref b4)]) (lenOf pd8 rfl) rfl (by show 2 * 0 + _ ≤ _; exact Nat.le_of_eq rfl) (bd d8_22) (fun _ _ => ⟨rfl, rfl, (nl rfl), (nl rfl)⟩)
  dsimp only [Pt.U, Pt.locs, Pt.cells, Pt.slots] at X11 l11 y11 z11 st11 hQ11
  subst l11 y11 z11
  obtain ⟨rfl, Nq11, K11, G0_11, G1_11⟩ := hQ11
  have N11 := Fr.app N7 Nq11
  refine OD.via (B := (T11.setTop (mkF m 25 #[.val (.int x0)] [(.ref b4)]))) st11 ?_
  exact OD.ret X11 hx hlk (t := (.object "java/lang/String")) Bd.returns rfl (Or.inr (Or.inr (Or.inr (Or.inr ⟨rfl, rfl, rfl⟩)))) (bd d8_25) (nl rfl) (nl rfl) ⟨_, _, _, rfl, N11, by exact ((((Keep.refl h0 []).ext E4).trans K7 all0).trans K11 (allS (Or.inr (Nat.le_trans (Nat.le_refl _) (Nat.le_of_eq g4.symm))) all0)), (Nat.le_trans (Nat.le_refl _) (Nat.le_of_eq g4.symm)), by exact (f8.keep K11), by exact G0_11, by exact G1_11, by exact (A7.keep K11 (ninS (Ne.symm nb7_b4) nin0)), (Ne.symm nb7_b4), (Nat.le_trans (Nat.le_trans (Nat.le_refl _) E4.1) ob7)⟩
def Q_rmSv (Z : State) (x0 : Int32) (h0 : Heap) (v : Option Value) (h : Heap) (L : List Loc) : Prop := ∃ w, v = some w ∧ w.isRef = true ∧ L = [] ∧ h = h0
set_option maxRecDepth 65536 in
set_option maxHeartbeats 40000000 in
theorem rmSv (l : Launch) (Z : State) (a0 : Array Value) (hw : HW a0 Z) (ws : List Jvm.Cond) (x0 : Int32) (h0 : Heap) (n0 : Nat) (X00 : Old Z n0 h0) (s0 : Addr) (Ss0 : Sta Z Z.heap cV "NO_ALARM" dV (.ref s0)) (s1 : Addr) (Ss1 : Sta Z Z.heap cV "MINOR" dV (.ref s1)) (s2 : Addr) (Ss2 : Sta Z Z.heap cV "MAJOR" dV (.ref s2)) (s3 : Addr) (Ss3 : Sta Z Z.heap cV "INVALID" dV (.ref s3)) :
    MetFree l (⟨zZ1, "severityOf", zZ26⟩ : MethodName) (head1 (Jvm.Cond.code (⟨zZ1, "severityOf", zZ26⟩ : MethodName) method_2_code 1 (some (.object cV)) :: ws) (rO 0 0 0 0)) (fun a U => a = #[(.int x0)] ∧ Z.Warmed39 U.vm ∧ U.heap = h0) (fun _ _ _ _ _ => True) (fun _ U o U' => ∃ v L, o = .returned v ∧ Q_rmSv Z x0 h0 v U'.heap L ∧ FrameEnd U o U' L (rO 0 0 0 0).cells (rO 0 0 0 0).slots) := by
  refine MetFree.of_bodySF (plainFor_of_name pn8) hisR ?_
  intro p e s m args below meth c s₁ Bd hml0 hP hK
  obtain ⟨rfl, hZ, hh⟩ := hP
  have hx := Bd.exec
  have hby := Bd.bytes
  have bd : ∀ {pc r}, decode method_2_code pc = r → decode c.code pc = r := fun q => hb hby q
  have hlk : meth.locks = false := Bd.notSynchronized
  have hml : c.maxLocals = 1 := hml0
  have hown : s.vm.findClass zZ1 = some m.cls := findClass_of_methodNamed Bd.named
  have hnm := (name_of_methodNamed Bd.named Bd.method).1
  have X0 : Stand p l e (rO 0 0 0 0) s m #[(.int x0)] below meth c s₁ [] 0 0 := Stand.of_body Bd
  have e0 : s₁.heap = h0 := by rw [← hh, Bd.state]; rfl
  suffices hgo : OD p e s below (Q_rmSv Z x0 h0) (rO 0 0 0 0).cells (rO 0 0 0 0).slots (s₁.setTop (mkF m 0 #[.val (.int x0)] [])) by
    obtain ⟨s₂, o, hgo1, hgo2⟩ := hgo
    exact ⟨s₂, o, castTop (ef2 m x0) hgo1, hgo2⟩
  refine OD.go (B := (s₁.setTop (mkF m 1 #[.val (.int x0)] [(.int x0)]))) (fun t k => XS.iloadN X0.here hx rfl (bd d1_0) rfl k) ?_
  by_cases c1_1 : x0 = (0 : Int32)
  · refine OD.go (B := (s₁.setTop (mkF m 4 #[.val (.int x0)] []))) (fun t k => XS.ifNo X0.here hx rfl (bd d1_1) rfl (by rw [if0]; exact (teq c1_1).2) k) ?_
    have f2 := (Ss0.ext X00.2)
    obtain ⟨T3, X3, e3, st3⟩ := getS2 X0 hx hZ hown (host := "") (Or.inl (Wd4 hw)) Via.refl e0 f2 (g := (mkF m 4 #[.val (.int x0)] [])) rfl (bd d1_4)
    refine OD.go (B := (T3.setTop (mkF m 7 #[.val (.int x0)] [(.ref s0)]))) st3 ?_
    exact OD.ret X3 hx hlk (t := (.object cV)) Bd.returns rfl (Or.inr (Or.inr (Or.inr (Or.inr ⟨rfl, rfl, rfl⟩)))) (bd d1_7) (nl rfl) (nl rfl) ⟨_, rfl, rfl, rfl, e3⟩
  · refine OD.go (B := (s₁.setTop (mkF m 10 #[.val (.int x0)] [(.int 1), (.int x0)]))) (fun t k => XS.ifYes X0.here hx rfl (pc0 := 1) (pc' := 8) rfl (bd d1_1) rfl (by rw [if0]; exact (feq c1_1).2) (by decide) (by decide) (XS.iloadN X0.here hx rfl (bd d1_8) rfl (XS.iconst X0.here hx rfl (bd d1_9) k))) ?_
    by_cases c10_4 : x0 = (1 : Int32)
    · refine OD.go (B := (s₁.setTop (mkF m 13 #[.val (.int x0)] []))) (fun t k => XS.icmpNo X0.here hx rfl (bd d1_10) rfl (teq c10_4).2 k) ?_
      have f5 := (Ss1.ext X00.2)
      obtain ⟨T6, X6, e6, st6⟩ := getS2 X0 hx hZ hown (host := "") (Or.inl (Wd188 hw)) Via.refl e0 f5 (g := (mkF m 13 #[.val (.int x0)] [])) rfl (bd d1_13)
      refine OD.go (B := (T6.setTop (mkF m 16 #[.val (.int x0)] [(.ref s1)]))) st6 ?_
      exact OD.ret X6 hx hlk (t := (.object cV)) Bd.returns rfl (Or.inr (Or.inr (Or.inr (Or.inr ⟨rfl, rfl, rfl⟩)))) (bd d1_16) (nl rfl) (nl rfl) ⟨_, rfl, rfl, rfl, e6⟩
    · refine OD.go (B := (s₁.setTop (mkF m 19 #[.val (.int x0)] [(.int 2), (.int x0)]))) (fun t k => XS.icmpYes X0.here hx rfl (pc0 := 10) (pc' := 17) rfl (bd d1_10) rfl (feq c10_4).2 (by decide) (by decide) (XS.iloadN X0.here hx rfl (bd d1_17) rfl (XS.iconst X0.here hx rfl (bd d1_18) k))) ?_
      by_cases c19_7 : x0 = (2 : Int32)
      · refine OD.go (B := (s₁.setTop (mkF m 22 #[.val (.int x0)] []))) (fun t k => XS.icmpNo X0.here hx rfl (bd d1_19) rfl (teq c19_7).2 k) ?_
        have f8 := (Ss2.ext X00.2)
        obtain ⟨T9, X9, e9, st9⟩ := getS2 X0 hx hZ hown (host := "") (Or.inl (Wd186 hw)) Via.refl e0 f8 (g := (mkF m 22 #[.val (.int x0)] [])) rfl (bd d1_22)
        refine OD.go (B := (T9.setTop (mkF m 25 #[.val (.int x0)] [(.ref s2)]))) st9 ?_
        exact OD.ret X9 hx hlk (t := (.object cV)) Bd.returns rfl (Or.inr (Or.inr (Or.inr (Or.inr ⟨rfl, rfl, rfl⟩)))) (bd d1_25) (nl rfl) (nl rfl) ⟨_, rfl, rfl, rfl, e9⟩
      · refine OD.go (B := (s₁.setTop (mkF m 28 #[.val (.int x0)] [(.int 3), (.int x0)]))) (fun t k => XS.icmpYes X0.here hx rfl (pc0 := 19) (pc' := 26) rfl (bd d1_19) rfl (feq c19_7).2 (by decide) (by decide) (XS.iloadN X0.here hx rfl (bd d1_26) rfl (XS.iconst X0.here hx rfl (bd d1_27) k))) ?_
        by_cases c28_10 : x0 = (3 : Int32)
        · refine OD.go (B := (s₁.setTop (mkF m 31 #[.val (.int x0)] []))) (fun t k => XS.icmpNo X0.here hx rfl (bd d1_28) rfl (teq c28_10).2 k) ?_
          have f11 := (Ss3.ext X00.2)
          obtain ⟨T12, X12, e12, st12⟩ := getS2 X0 hx hZ hown (host := "") (Or.inl (Wd333 hw)) Via.refl e0 f11 (g := (mkF m 31 #[.val (.int x0)] [])) rfl (bd d1_31)
          refine OD.go (B := (T12.setTop (mkF m 34 #[.val (.int x0)] [(.ref s3)]))) st12 ?_
          exact OD.ret X12 hx hlk (t := (.object cV)) Bd.returns rfl (Or.inr (Or.inr (Or.inr (Or.inr ⟨rfl, rfl, rfl⟩)))) (bd d1_34) (nl rfl) (nl rfl) ⟨_, rfl, rfl, rfl, e12⟩
        · refine OD.go (B := (s₁.setTop (mkF m 36 #[.val (.int x0)] [.null]))) (fun t k => XS.icmpYes X0.here hx rfl (pc0 := 28) (pc' := 35) rfl (bd d1_28) rfl (feq c28_10).2 (by decide) (by decide) (XS.aconstNull X0.here hx rfl (bd d1_35) k)) ?_
          exact OD.ret X0 hx hlk (t := (.object cV)) Bd.returns rfl (Or.inr (Or.inr (Or.inr (Or.inr ⟨rfl, rfl, rfl⟩)))) (bd d1_36) (nl rfl) (nl rfl) ⟨_, rfl, rfl, rfl, e0⟩
def Q_rmMin1 (Z : State) (h0 : Heap) (v : Option Value) (h : Heap) (L : List Loc) : Prop := v = some (.int 1) ∧ L = [] ∧ h = h0
set_option maxRecDepth 65536 in
set_option maxHeartbeats 40000000 in
theorem rmMin1 (l : Launch) (Z : State) (a0 : Array Value) (hw : HW a0 Z) (ws : List Jvm.Cond)  (h0 : Heap)  :
    MetFree l (⟨"java/lang/Math", "min", "(II)I"⟩ : MethodName) (head1 (Jvm.Cond.code (⟨"java/lang/Math", "min", "(II)I"⟩ : MethodName) kQ16 2 (some .int) :: ws) (rO 0 0 0 0)) (fun a U => a = #[(.int 10), (.int 1)] ∧ Z.Warmed39 U.vm ∧ U.heap = h0) (fun _ _ _ _ _ => True) (fun _ U o U' => ∃ v L, o = .returned v ∧ Q_rmMin1 Z h0 v U'.heap L ∧ FrameEnd U o U' L (rO 0 0 0 0).cells (rO 0 0 0 0).slots) := by
  refine MetFree.of_bodySF (by decide +kernel) hisR ?_
  intro p e s m args below meth c s₁ Bd hml0 hP hK
  obtain ⟨rfl, hZ, hh⟩ := hP
  have hx := Bd.exec
  have hby := Bd.bytes
  have bd : ∀ {pc r}, decode kQ16 pc = r → decode c.code pc = r := fun q => hb hby q
  have hlk : meth.locks = false := Bd.notSynchronized
  have hml : c.maxLocals = 2 := hml0
  have hown : s.vm.findClass "java/lang/Math" = some m.cls := findClass_of_methodNamed Bd.named
  have hnm := (name_of_methodNamed Bd.named Bd.method).1
  have X0 : Stand p l e (rO 0 0 0 0) s m #[(.int 10), (.int 1)] below meth c s₁ [] 0 0 := Stand.of_body Bd
  have e0 : s₁.heap = h0 := by rw [← hh, Bd.state]; rfl
  suffices hgo : OD p e s below (Q_rmMin1 Z h0) (rO 0 0 0 0).cells (rO 0 0 0 0).slots (s₁.setTop (mkF m 0 #[.val (.int 10), .val (.int 1)] [])) by
    obtain ⟨s₂, o, hgo1, hgo2⟩ := hgo
    exact ⟨s₂, o, castTop (ef3 m (10 : Int32) (1 : Int32)) hgo1, hgo2⟩
  refine OD.go (B := (s₁.setTop (mkF m 10 #[.val (.int 10), .val (.int 1)] [(.int 1)]))) (fun t k => XS.iloadN X0.here hx rfl (bd d39_0) rfl (XS.iloadN X0.here hx rfl (bd d39_1) rfl (XS.icmpYes X0.here hx rfl (pc0 := 2) (pc' := 9) rfl (bd d39_2) rfl (tlt (by decide : (1 : Int32) < (10 : Int32))).2.2.1 (by decide) (by decide) (XS.iloadN X0.here hx rfl (bd d39_9) rfl k)))) ?_
  exact OD.ret X0 hx hlk (t := .int) Bd.returns rfl (Or.inl ⟨rfl, Or.inl rfl, _, rfl⟩) (bd d39_10) (nl rfl) (nl rfl) ⟨rfl, rfl, e0⟩
def Q_rmMin2 (Z : State) (h0 : Heap) (v : Option Value) (h : Heap) (L : List Loc) : Prop := v = some (.int 2) ∧ L = [] ∧ h = h0
set_option maxRecDepth 65536 in
set_option maxHeartbeats 40000000 in
theorem rmMin2 (l : Launch) (Z : State) (a0 : Array Value) (hw : HW a0 Z) (ws : List Jvm.Cond)  (h0 : Heap)  :
    MetFree l (⟨"java/lang/Math", "min", "(II)I"⟩ : MethodName) (head1 (Jvm.Cond.code (⟨"java/lang/Math", "min", "(II)I"⟩ : MethodName) kQ16 2 (some .int) :: ws) (rO 0 0 0 0)) (fun a U => a = #[(.int 10), (.int 2)] ∧ Z.Warmed39 U.vm ∧ U.heap = h0) (fun _ _ _ _ _ => True) (fun _ U o U' => ∃ v L, o = .returned v ∧ Q_rmMin2 Z h0 v U'.heap L ∧ FrameEnd U o U' L (rO 0 0 0 0).cells (rO 0 0 0 0).slots) := by
  refine MetFree.of_bodySF (by decide +kernel) hisR ?_
  intro p e s m args below meth c s₁ Bd hml0 hP hK
  obtain ⟨rfl, hZ, hh⟩ := hP
  have hx := Bd.exec
  have hby := Bd.bytes
  have bd : ∀ {pc r}, decode kQ16 pc = r → decode c.code pc = r := fun q => hb hby q
  have hlk : meth.locks = false := Bd.notSynchronized
  have hml : c.maxLocals = 2 := hml0
  have hown : s.vm.findClass "java/lang/Math" = some m.cls := findClass_of_methodNamed Bd.named
  have hnm := (name_of_methodNamed Bd.named Bd.method).1
  have X0 : Stand p l e (rO 0 0 0 0) s m #[(.int 10), (.int 2)] below meth c s₁ [] 0 0 := Stand.of_body Bd
  have e0 : s₁.heap = h0 := by rw [← hh, Bd.state]; rfl
  suffices hgo : OD p e s below (Q_rmMin2 Z h0) (rO 0 0 0 0).cells (rO 0 0 0 0).slots (s₁.setTop (mkF m 0 #[.val (.int 10), .val (.int 2)] [])) by
    obtain ⟨s₂, o, hgo1, hgo2⟩ := hgo
    exact ⟨s₂, o, castTop (ef3 m (10 : Int32) (2 : Int32)) hgo1, hgo2⟩
  refine OD.go (B := (s₁.setTop (mkF m 10 #[.val (.int 10), .val (.int 2)] [(.int 2)]))) (fun t k => XS.iloadN X0.here hx rfl (bd d39_0) rfl (XS.iloadN X0.here hx rfl (bd d39_1) rfl (XS.icmpYes X0.here hx rfl (pc0 := 2) (pc' := 9) rfl (bd d39_2) rfl (tlt (by decide : (2 : Int32) < (10 : Int32))).2.2.1 (by decide) (by decide) (XS.iloadN X0.here hx rfl (bd d39_9) rfl k)))) ?_
  exact OD.ret X0 hx hlk (t := .int) Bd.returns rfl (Or.inl ⟨rfl, Or.inl rfl, _, rfl⟩) (bd d39_10) (nl rfl) (nl rfl) ⟨rfl, rfl, e0⟩
def Q_rmK3_1 (Z : State) (ar : Addr) (mr : Addr) (h0 : Heap) (n0 : Nat) (x0 : Addr) (v : Option Value) (h : Heap) (L : List Loc) : Prop := ∃ (b : Addr) (k : ClassId), v = some (.ref b) ∧ Fr n0 L ∧ Keep h0 h [] ∧ h0.size ≤ b ∧ Arv Z h b k (.object cO) (1 : Int32) [(.ref x0)] .null ∧ OvO Z k
set_option maxRecDepth 65536 in
set_option maxHeartbeats 40000000 in
theorem rmK3_1 (l : Launch) (Z : State) (a0 : Array Value) (hw : HW a0 Z) (ws : List Jvm.Cond) (ar : Addr) (mr : Addr) (h0 : Heap) (n0 : Nat) (Z0 : n0 ≤ h0.size) (X00 : Old Z n0 h0) (x0 : Addr) (Ex0 : Exa Z h0 x0 "java/lang/String") (ka : ClassId) (Aa : Arv Z h0 ar ka (.object cO) (10 : Int32) [(.ref x0), .null, .null, .null, .null, .null, .null, .null, .null, .null] .null) (Oa : OvO Z ka) (Mr : MirM Z mr) :
    MetFree l (⟨"java/util/Arrays", "copyOf", zZ16⟩ : MethodName) (head1 (Jvm.Cond.code (⟨"java/util/Arrays", "copyOf", zZ16⟩ : MethodName) kQ17 4 (some (.array (.object cO))) :: ws) (rO 1 1 1 45)) (fun a U => a = #[(.ref ar), (.int 1), (.ref mr)] ∧ Z.Warmed39 U.vm ∧ U.heap = h0) (fun _ _ _ _ _ => True) (fun _ U o U' => ∃ v L, o = .returned v ∧ Q_rmK3_1 Z ar mr h0 n0 x0 v U'.heap L ∧ FrameEnd U o U' L (rO 1 1 1 45).cells (rO 1 1 1 45).slots) := by
  refine MetFree.of_bodySF (plainFor_of_name pn9) hisR ?_
  intro p e s m args below meth c s₁ Bd hml0 hP hK
  obtain ⟨rfl, hZ, hh⟩ := hP
  have hx := Bd.exec
  have hby := Bd.bytes
  have bd : ∀ {pc r}, decode kQ17 pc = r → decode c.code pc = r := fun q => hb hby q
  have hlk : meth.locks = false := Bd.notSynchronized
  have hml : c.maxLocals = 4 := hml0
  have hown : s.vm.findClass "java/util/Arrays" = some m.cls := findClass_of_methodNamed Bd.named
  have hnm := (name_of_methodNamed Bd.named Bd.method).1
  have X0 : Stand p l e (rO 1 1 1 45) s m #[(.ref ar), (.int 1), (.ref mr)] below meth c s₁ [] 0 0 := Stand.of_body Bd
  have e0 : s₁.heap = h0 := by rw [← hh, Bd.state]; rfl
  have N0 := Fr.nil n0
  suffices hgo : OD p e s below (Q_rmK3_1 Z ar mr h0 n0 x0) (rO 1 1 1 45).cells (rO 1 1 1 45).slots (s₁.setTop (mkF m 0 #[.val (.ref ar), .val (.int 1), .val (.ref mr), .unset] [])) by
    obtain ⟨s₂, o, hgo1, hgo2⟩ := hgo
    exact ⟨s₂, o, castTop (ef8 m ar (1 : Int32) mr) hgo1, hgo2⟩
  refine OD.go (B := (s₁.setTop (mkF m 1 #[.val (.ref ar), .val (.int 1), .val (.ref mr), .unset] [(.ref mr)]))) (fun t k => XS.aloadN X0.here hx rfl (bd d38_0) rfl rfl k) ?_
  obtain ⟨T1, X1, e1, st1⟩ := own_ldcM X0 hx hZ hown (Wd247 hw) e0 Mr (g := (mkF m 1 #[.val (.ref ar), .val (.int 1), .val (.ref mr), .unset] [(.ref mr)])) rfl (bd d38_1)
  refine OD.go st1 ?_
  refine OD.go (B := (T1.setTop (mkF m 7 #[.val (.ref ar), .val (.int 1), .val (.ref mr), .unset] [(.int 1)]))) (fun t k => RoadKit.acmp X1 hx rfl (x := (.ref mr)) (y := (.ref mr)) rfl rfl (pc0 := 3) (pc' := 6) (same := true) rfl (bd d38_3) rfl (by simp) (by decide) (by decide) (XS.iloadN X1.here hx rfl (bd d38_6) rfl k)) ?_
  obtain ⟨T2, h2, k2, X2, e2, E2, A2, O2, st2⟩ := own_newR X1 hx hZ hown (Wd248 hw) (Wd217 hw) e1 (g := (mkF m 7 #[.val (.ref ar), .val (.int 1), .val (.ref mr), .unset] [(.int 1)])) rfl (bd d38_7) rfl (by decide) (cap := 1) (by decide) (by decide) (nl rfl) (nl rfl)
  obtain ⟨b2, g2⟩ : ∃ z, z = h0.size := ⟨_, rfl⟩
  rw [← g2] at A2 st2
  have V2 : Arv Z h2 b2 k2 (.object cO) (1 : Int32) [.null] .null := (Arv.new A2 (by decide)).pad (pad_rep [] .null 1)
  refine OD.go st2 ?_
  refine OD.go (B := (T2.setTop (mkF m 30 #[.val (.ref ar), .val (.int 1), .val (.ref mr), .val (.ref b2)] [(.ref ar), (.int 0), (.ref b2), (.int 0), (.ref ar)]))) (fun t k => XS.goto X2.here hx rfl (pc0 := 10) (pc' := 24) rfl (bd d38_10) (by decide) (by decide) (XS.astoreN X2.here hx rfl (bd d38_24) rfl rfl (l' := #[.val (.ref ar), .val (.int 1), .val (.ref mr), .val (.ref b2)]) rfl (XS.aloadN X2.here hx rfl (bd d38_25) rfl rfl (XS.iconst X2.here hx rfl (bd d38_26) (XS.aloadN X2.here hx rfl (bd d38_27) rfl rfl (XS.iconst X2.here hx rfl (bd d38_28) (XS.aloadN X2.here hx rfl (bd d38_29) rfl rfl k))))))) ?_
  have f3 := (Aa.ext E2)
  obtain ⟨cl4, Ar4, hl4⟩ := own_len f3
  refine OD.go (B := (T2.setTop (mkF m 31 #[.val (.ref ar), .val (.int 1), .val (.ref mr), .val (.ref b2)] [(.int 10), (.int 0), (.ref b2), (.int 0), (.ref ar)]))) (fun t k => X2.arraylength hx (by rw [e2]; exact Ar4.1) (State.isArrayOf_alike hZ.alike Ar4.2.1) (g := (mkF m 30 #[.val (.ref ar), .val (.int 1), .val (.ref mr), .val (.ref b2)] [(.ref ar), (.int 0), (.ref b2), (.int 0), (.ref ar)])) rfl rfl (bd d38_30) _ (by rw [hl4]; exact k)) ?_
  refine OD.go (B := (T2.setTop (mkF m 32 #[.val (.ref ar), .val (.int 1), .val (.ref mr), .val (.ref b2)] [(.int 1), (.int 10), (.int 0), (.ref b2), (.int 0), (.ref ar)]))) (fun t k => XS.iloadN X2.here hx rfl (bd d38_31) rfl k) ?_
  obtain ⟨_, _, ⟨T5, L5, k5, n5⟩, -, X5, ⟨Lc5, hQ5, l5, y5, z5⟩, st5⟩ := Jvm.LawKit.callS X2 hx (y := (⟨"java/lang/Math", "min", "(II)I"⟩ : MethodName)) hown (mvT hZ (Wd249 hw)) (mvT hZ (Wd250 hw)) (mvT hZ (Wd214 hw)) (mvT hZ (Wd251 hw)) (by decide) (backOf (W := 4) (rmMin1 l Z a0 hw [] h2) hZ (Wd251 hw) (Wd214 hw) (by decide) (by decide)) (g := (mkF m 32 #[.val (.ref ar), .val (.int 1), .val (.ref mr), .val (.ref b2)] [(.int 1), (.int 10), (.int 0), (.ref b2), (.int 0), (.ref ar)])) rfl (by rw [hml]; rfl) (argsL := [(.int 10), (.int 1)]) (rest := [(.int 0), (.ref b2), (.int 0), (.ref ar)]) (lenOf pd2 rfl) rfl (by show 2 * 0 + _ ≤ _; exact Nat.le_of_eq rfl) (bd d38_32) (fun _ _ => ⟨rfl, e2, (nl rfl), (nl rfl)⟩)
  dsimp only [Pt.U, Pt.locs, Pt.cells, Pt.slots] at X5 l5 y5 z5 st5 hQ5
  subst l5 y5 z5
  obtain ⟨rfl, rfl, e5⟩ := hQ5
  have N5 := Fr.app N0 (Fr.nil _)
  refine OD.go (B := (T5.setTop (mkF m 35 #[.val (.ref ar), .val (.int 1), .val (.ref mr), .val (.ref b2)] [(.int 1), (.int 0), (.ref b2), (.int 0), (.ref ar)]))) st5 ?_
  obtain ⟨cz6, Az6, qz6, -⟩ := id V2
  have f7 := (Ex0.ext E2)
  obtain ⟨T6, h6, L6, X6, e6, N6, K6, A6, st6⟩ := cpA X5 hx hZ hown (Wd252 hw) (Wd255 hw) (Wd253 hw) (Wd254 hw) e5 f3 V2 (us := [(.ref x0)]) (Or.inr ⟨rfl, rfl, ⟨Sto.ofV Az6 qz6 O2.1 (Ins.of_exa f7 (Wd218 hw)), trivial⟩⟩) (sp := (0 : Int32)) (dp := (0 : Int32)) (nn := (1 : Int32)) (by decide) (by decide) (by decide) (by decide) (by decide) rfl (by decide) N5 (Nat.le_trans Z0 (Nat.le_of_eq g2.symm)) (g := (mkF m 35 #[.val (.ref ar), .val (.int 1), .val (.ref mr), .val (.ref b2)] [(.int 1), (.int 0), (.ref b2), (.int 0), (.ref ar)])) rfl (by rw [hml]; rfl) rfl (bd d38_35) (by decide) (W := 0) (by show 2 * 0 + _ ≤ _; exact Nat.le_of_eq rfl) (by decide)
  have A6 : Arv Z h6 b2 k2 (.object cO) (1 : Int32) [(.ref x0)] .null := A6
  refine OD.go st6 ?_
  refine OD.go (B := (T6.setTop (mkF m 39 #[.val (.ref ar), .val (.int 1), .val (.ref mr), .val (.ref b2)] [(.ref b2)]))) (fun t k => XS.aloadN X6.here hx rfl (bd d38_38) rfl rfl k) ?_
  exact OD.ret X6 hx hlk (t := (.array (.object cO))) Bd.returns rfl (Or.inr (Or.inr (Or.inr (Or.inr ⟨rfl, rfl, rfl⟩)))) (bd d38_39) (nl rfl) (nl rfl) ⟨_, _, rfl, N6, by rw [e6]; exact (((Keep.refl h0 []).ext E2).trans K6 (allS (Or.inr (Nat.le_trans (Nat.le_refl _) (Nat.le_of_eq g2.symm))) all0)), (Nat.le_trans (Nat.le_refl _) (Nat.le_of_eq g2.symm)), by rw [e6]; exact A6, O2⟩
def Q_rmK3_2 (Z : State) (ar : Addr) (mr : Addr) (h0 : Heap) (n0 : Nat) (x0 : Addr) (x1 : Addr) (v : Option Value) (h : Heap) (L : List Loc) : Prop := ∃ (b : Addr) (k : ClassId), v = some (.ref b) ∧ Fr n0 L ∧ Keep h0 h [] ∧ h0.size ≤ b ∧ Arv Z h b k (.object cO) (2 : Int32) [(.ref x0), (.ref x1)] .null ∧ OvO Z k
set_option maxRecDepth 65536 in
set_option maxHeartbeats 40000000 in
theorem rmK3_2 (l : Launch) (Z : State) (a0 : Array Value) (hw : HW a0 Z) (ws : List Jvm.Cond) (ar : Addr) (mr : Addr) (h0 : Heap) (n0 : Nat) (Z0 : n0 ≤ h0.size) (X00 : Old Z n0 h0) (x0 : Addr) (Ex0 : Exa Z h0 x0 "java/lang/String") (x1 : Addr) (Ex1 : Exa Z h0 x1 "java/lang/String") (ka : ClassId) (Aa : Arv Z h0 ar ka (.object cO) (10 : Int32) [(.ref x0), (.ref x1), .null, .null, .null, .null, .null, .null, .null, .null] .null) (Oa : OvO Z ka) (Mr : MirM Z mr) :
    MetFree l (⟨"java/util/Arrays", "copyOf", zZ16⟩ : MethodName) (head1 (Jvm.Cond.code (⟨"java/util/Arrays", "copyOf", zZ16⟩ : MethodName) kQ17 4 (some (.array (.object cO))) :: ws) (rO 1 1 2 45)) (fun a U => a = #[(.ref ar), (.int 2), (.ref mr)] ∧ Z.Warmed39 U.vm ∧ U.heap = h0) (fun _ _ _ _ _ => True) (fun _ U o U' => ∃ v L, o = .returned v ∧ Q_rmK3_2 Z ar mr h0 n0 x0 x1 v U'.heap L ∧ FrameEnd U o U' L (rO 1 1 2 45).cells (rO 1 1 2 45).slots) := by
  refine MetFree.of_bodySF (plainFor_of_name pn9) hisR ?_
  intro p e s m args below meth c s₁ Bd hml0 hP hK
  obtain ⟨rfl, hZ, hh⟩ := hP
  have hx := Bd.exec
  have hby := Bd.bytes
  have bd : ∀ {pc r}, decode kQ17 pc = r → decode c.code pc = r := fun q => hb hby q
  have hlk : meth.locks = false := Bd.notSynchronized
  have hml : c.maxLocals = 4 := hml0
  have hown : s.vm.findClass "java/util/Arrays" = some m.cls := findClass_of_methodNamed Bd.named
  have hnm := (name_of_methodNamed Bd.named Bd.method).1
  have X0 : Stand p l e (rO 1 1 2 45) s m #[(.ref ar), (.int 2), (.ref mr)] below meth c s₁ [] 0 0 := Stand.of_body Bd
  have e0 : s₁.heap = h0 := by rw [← hh, Bd.state]; rfl
  have N0 := Fr.nil n0
  suffices hgo : OD p e s below (Q_rmK3_2 Z ar mr h0 n0 x0 x1) (rO 1 1 2 45).cells (rO 1 1 2 45).slots (s₁.setTop (mkF m 0 #[.val (.ref ar), .val (.int 2), .val (.ref mr), .unset] [])) by
    obtain ⟨s₂, o, hgo1, hgo2⟩ := hgo
    exact ⟨s₂, o, castTop (ef8 m ar (2 : Int32) mr) hgo1, hgo2⟩
  refine OD.go (B := (s₁.setTop (mkF m 1 #[.val (.ref ar), .val (.int 2), .val (.ref mr), .unset] [(.ref mr)]))) (fun t k => XS.aloadN X0.here hx rfl (bd d38_0) rfl rfl k) ?_
  obtain ⟨T1, X1, e1, st1⟩ := own_ldcM X0 hx hZ hown (Wd247 hw) e0 Mr (g := (mkF m 1 #[.val (.ref ar), .val (.int 2), .val (.ref mr), .unset] [(.ref mr)])) rfl (bd d38_1)
  refine OD.go st1 ?_
  refine OD.go (B := (T1.setTop (mkF m 7 #[.val (.ref ar), .val (.int 2), .val (.ref mr), .unset] [(.int 2)]))) (fun t k => RoadKit.acmp X1 hx rfl (x := (.ref mr)) (y := (.ref mr)) rfl rfl (pc0 := 3) (pc' := 6) (same := true) rfl (bd d38_3) rfl (by simp) (by decide) (by decide) (XS.iloadN X1.here hx rfl (bd d38_6) rfl k)) ?_
  obtain ⟨T2, h2, k2, X2, e2, E2, A2, O2, st2⟩ := own_newR X1 hx hZ hown (Wd248 hw) (Wd217 hw) e1 (g := (mkF m 7 #[.val (.ref ar), .val (.int 2), .val (.ref mr), .unset] [(.int 2)])) rfl (bd d38_7) rfl (by decide) (cap := 2) (by decide) (by decide) (nl rfl) (nl rfl)
  obtain ⟨b2, g2⟩ : ∃ z, z = h0.size := ⟨_, rfl⟩
  rw [← g2] at A2 st2
  have V2 : Arv Z h2 b2 k2 (.object cO) (2 : Int32) [.null, .null] .null := (Arv.new A2 (by decide)).pad (pad_rep [] .null 2)
  refine OD.go st2 ?_
  refine OD.go (B := (T2.setTop (mkF m 30 #[.val (.ref ar), .val (.int 2), .val (.ref mr), .val (.ref b2)] [(.ref ar), (.int 0), (.ref b2), (.int 0), (.ref ar)]))) (fun t k => XS.goto X2.here hx rfl (pc0 := 10) (pc' := 24) rfl (bd d38_10) (by decide) (by decide) (XS.astoreN X2.here hx rfl (bd d38_24) rfl rfl (l' := #[.val (.ref ar), .val (.int 2), .val (.ref mr), .val (.ref b2)]) rfl (XS.aloadN X2.here hx rfl (bd d38_25) rfl rfl (XS.iconst X2.here hx rfl (bd d38_26) (XS.aloadN X2.here hx rfl (bd d38_27) rfl rfl (XS.iconst X2.here hx rfl (bd d38_28) (XS.aloadN X2.here hx rfl (bd d38_29) rfl rfl k))))))) ?_
  have f3 := (Aa.ext E2)
  obtain ⟨cl4, Ar4, hl4⟩ := own_len f3
  refine OD.go (B := (T2.setTop (mkF m 31 #[.val (.ref ar), .val (.int 2), .val (.ref mr), .val (.ref b2)] [(.int 10), (.int 0), (.ref b2), (.int 0), (.ref ar)]))) (fun t k => X2.arraylength hx (by rw [e2]; exact Ar4.1) (State.isArrayOf_alike hZ.alike Ar4.2.1) (g := (mkF m 30 #[.val (.ref ar), .val (.int 2), .val (.ref mr), .val (.ref b2)] [(.ref ar), (.int 0), (.ref b2), (.int 0), (.ref ar)])) rfl rfl (bd d38_30) _ (by rw [hl4]; exact k)) ?_
  refine OD.go (B := (T2.setTop (mkF m 32 #[.val (.ref ar), .val (.int 2), .val (.ref mr), .val (.ref b2)] [(.int 2), (.int 10), (.int 0), (.ref b2), (.int 0), (.ref ar)]))) (fun t k => XS.iloadN X2.here hx rfl (bd d38_31) rfl k) ?_
  obtain ⟨_, _, ⟨T5, L5, k5, n5⟩, -, X5, ⟨Lc5, hQ5, l5, y5, z5⟩, st5⟩ := Jvm.LawKit.callS X2 hx (y := (⟨"java/lang/Math", "min", "(II)I"⟩ : MethodName)) hown (mvT hZ (Wd249 hw)) (mvT hZ (Wd250 hw)) (mvT hZ (Wd214 hw)) (mvT hZ (Wd251 hw)) (by decide) (backOf (W := 4) (rmMin2 l Z a0 hw [] h2) hZ (Wd251 hw) (Wd214 hw) (by decide) (by decide)) (g := (mkF m 32 #[.val (.ref ar), .val (.int 2), .val (.ref mr), .val (.ref b2)] [(.int 2), (.int 10), (.int 0), (.ref b2), (.int 0), (.ref ar)])) rfl (by rw [hml]; rfl) (argsL := [(.int 10), (.int 2)]) (rest := [(.int 0), (.ref b2), (.int 0), (.ref ar)]) (lenOf pd2 rfl) rfl (by show 2 * 0 + _ ≤ _; exact Nat.le_of_eq rfl) (bd d38_32) (fun _ _ => ⟨rfl, e2, (nl rfl), (nl rfl)⟩)
  dsimp only [Pt.U, Pt.locs, Pt.cells, Pt.slots] at X5 l5 y5 z5 st5 hQ5
  subst l5 y5 z5
  obtain ⟨rfl, rfl, e5⟩ := hQ5
  have N5 := Fr.app N0 (Fr.nil _)
  refine OD.go (B := (T5.setTop (mkF m 35 #[.val (.ref ar), .val (.int 2), .val (.ref mr), .val (.ref b2)] [(.int 2), (.int 0), (.ref b2), (.int 0), (.ref ar)]))) st5 ?_
  obtain ⟨cz6, Az6, qz6, -⟩ := id V2
  have f7 := (Ex0.ext E2)
  have f8 := (Ex1.ext E2)
  obtain ⟨T6, h6, L6, X6, e6, N6, K6, A6, st6⟩ := cpA X5 hx hZ hown (Wd252 hw) (Wd255 hw) (Wd253 hw) (Wd254 hw) e5 f3 V2 (us := [(.ref x0), (.ref x1)]) (Or.inr ⟨rfl, rfl, ⟨Sto.ofV Az6 qz6 O2.1 (Ins.of_exa f7 (Wd218 hw)), ⟨Sto.ofV Az6 qz6 O2.1 (Ins.of_exa f8 (Wd218 hw)), trivial⟩⟩⟩) (sp := (0 : Int32)) (dp := (0 : Int32)) (nn := (2 : Int32)) (by decide) (by decide) (by decide) (by decide) (by decide) rfl (by decide) N5 (Nat.le_trans Z0 (Nat.le_of_eq g2.symm)) (g := (mkF m 35 #[.val (.ref ar), .val (.int 2), .val (.ref mr), .val (.ref b2)] [(.int 2), (.int 0), (.ref b2), (.int 0), (.ref ar)])) rfl (by rw [hml]; rfl) rfl (bd d38_35) (by decide) (W := 0) (by show 2 * 0 + _ ≤ _; exact Nat.le_of_eq rfl) (by decide)
  have A6 : Arv Z h6 b2 k2 (.object cO) (2 : Int32) [(.ref x0), (.ref x1)] .null := A6
  refine OD.go st6 ?_
  refine OD.go (B := (T6.setTop (mkF m 39 #[.val (.ref ar), .val (.int 2), .val (.ref mr), .val (.ref b2)] [(.ref b2)]))) (fun t k => XS.aloadN X6.here hx rfl (bd d38_38) rfl rfl k) ?_
  exact OD.ret X6 hx hlk (t := (.array (.object cO))) Bd.returns rfl (Or.inr (Or.inr (Or.inr (Or.inr ⟨rfl, rfl, rfl⟩)))) (bd d38_39) (nl rfl) (nl rfl) ⟨_, _, rfl, N6, by rw [e6]; exact (((Keep.refl h0 []).ext E2).trans K6 (allS (Or.inr (Nat.le_trans (Nat.le_refl _) (Nat.le_of_eq g2.symm))) all0)), (Nat.le_trans (Nat.le_refl _) (Nat.le_of_eq g2.symm)), by rw [e6]; exact A6, O2⟩
def Q_rmK2_1 (Z : State) (ar : Addr) (h0 : Heap) (n0 : Nat) (x0 : Addr) (v : Option Value) (h : Heap) (L : List Loc) : Prop := ∃ (b : Addr) (k : ClassId), v = some (.ref b) ∧ Fr n0 L ∧ Keep h0 h [] ∧ h0.size ≤ b ∧ Arv Z h b k (.object cO) (1 : Int32) [(.ref x0)] .null ∧ OvO Z k
set_option maxRecDepth 65536 in
set_option maxHeartbeats 40000000 in
theorem rmK2_1 (l : Launch) (Z : State) (a0 : Array Value) (hw : HW a0 Z) (ws : List Jvm.Cond) (ar : Addr) (h0 : Heap) (n0 : Nat) (Z0 : n0 ≤ h0.size) (X00 : Old Z n0 h0) (x0 : Addr) (Ex0 : Exa Z h0 x0 "java/lang/String") (ka : ClassId) (Aa : Arv Z h0 ar ka (.object cO) (10 : Int32) [(.ref x0), .null, .null, .null, .null, .null, .null, .null, .null, .null] .null) (Oa : OvO Z ka) (mr : Addr) (Mr : MirM Z mr) :
    MetFree l (⟨"java/util/Arrays", "copyOf", zZ17⟩ : MethodName) (head1 (Jvm.Cond.code (⟨"java/util/Arrays", "copyOf", zZ17⟩ : MethodName) kQ18 2 (some (.array (.object cO))) :: ws) (rO 2 1 1 60)) (fun a U => a = #[(.ref ar), (.int 1)] ∧ Z.Warmed39 U.vm ∧ U.heap = h0) (fun _ _ _ _ _ => True) (fun _ U o U' => ∃ v L, o = .returned v ∧ Q_rmK2_1 Z ar h0 n0 x0 v U'.heap L ∧ FrameEnd U o U' L (rO 2 1 1 60).cells (rO 2 1 1 60).slots) := by
  refine MetFree.of_bodySF (plainFor_of_name pn9) hisR ?_
  intro p e s m args below meth c s₁ Bd hml0 hP hK
  obtain ⟨rfl, hZ, hh⟩ := hP
  have hx := Bd.exec
  have hby := Bd.bytes
  have bd : ∀ {pc r}, decode kQ18 pc = r → decode c.code pc = r := fun q => hb hby q
  have hlk : meth.locks = false := Bd.notSynchronized
  have hml : c.maxLocals = 2 := hml0
  have hown : s.vm.findClass "java/util/Arrays" = some m.cls := findClass_of_methodNamed Bd.named
  have hnm := (name_of_methodNamed Bd.named Bd.method).1
  have X0 : Stand p l e (rO 2 1 1 60) s m #[(.ref ar), (.int 1)] below meth c s₁ [] 0 0 := Stand.of_body Bd
  have e0 : s₁.heap = h0 := by rw [← hh, Bd.state]; rfl
  have N0 := Fr.nil n0
  suffices hgo : OD p e s below (Q_rmK2_1 Z ar h0 n0 x0) (rO 2 1 1 60).cells (rO 2 1 1 60).slots (s₁.setTop (mkF m 0 #[.val (.ref ar), .val (.int 1)] [])) by
    obtain ⟨s₂, o, hgo1, hgo2⟩ := hgo
    exact ⟨s₂, o, castTop (ef1 m ar (1 : Int32)) hgo1, hgo2⟩
  refine OD.go (B := (s₁.setTop (mkF m 3 #[.val (.ref ar), .val (.int 1)] [(.ref ar), (.int 1), (.ref ar)]))) (fun t k => XS.aloadN X0.here hx rfl (bd d37_0) rfl rfl (XS.iloadN X0.here hx rfl (bd d37_1) rfl (XS.aloadN X0.here hx rfl (bd d37_2) rfl rfl k))) ?_
  obtain ⟨T1, X1, e1, st1⟩ := own_gcls X0 hx hZ hown (Wd238 hw) (Wd239 hw) (Wd102 hw) (Wd241 hw) (Wd240 hw) (Wd242 hw) e0 Aa Oa Mr (g := (mkF m 3 #[.val (.ref ar), .val (.int 1)] [(.ref ar), (.int 1), (.ref ar)])) rfl (by rw [hml]; rfl) rfl (bd d37_3) (by decide) (W := 2) (by show 2 * 0 + _ ≤ _; exact Nat.le_of_eq rfl) (by decide)
  refine OD.go (B := (T1.setTop (mkF m 6 #[.val (.ref ar), .val (.int 1)] [(.ref mr), (.int 1), (.ref ar)]))) st1 ?_
  obtain ⟨_, _, ⟨T2, L2, k2, n2⟩, -, X2, ⟨Lc2, hQ2, l2, y2, z2⟩, st2⟩ := Jvm.LawKit.callS X1 hx (y := (⟨"java/util/Arrays", "copyOf", zZ16⟩ : MethodName)) hown (mvT hZ (Wd244 hw)) (mvT hZ (Wd245 hw)) (mvT hZ (Wd236 hw)) (mvT hZ (Wd246 hw)) (by decide) (backOf (W := 0) (rmK3_1 l Z a0 hw [] ar mr h0 n0 Z0 X00 x0 Ex0 ka Aa Oa Mr) hZ (Wd246 hw) (Wd236 hw) (by decide) (by decide)) (g := (mkF m 6 #[.val (.ref ar), .val (.int 1)] [(.ref mr), (.int 1), (.ref ar)])) rfl (by rw [hml]; rfl) (argsL := [(.ref ar), (.int 1), (.ref mr)]) (rest := []) (lenOf pd9 rfl) rfl (by show 2 * 0 + _ ≤ _; exact Nat.le_of_eq rfl) (bd d37_6) (fun _ _ => ⟨rfl, e1, (nl rfl), (nl rfl)⟩)
  dsimp only [Pt.U, Pt.locs, Pt.cells, Pt.slots] at X2 l2 y2 z2 st2 hQ2
  subst l2 y2 z2
  obtain ⟨b2, k2', rfl, Nq2, K2, ob2, A2, O2⟩ := hQ2
  have N2 := Fr.app N0 Nq2
  have gb2 : n0 ≤ b2 := Nat.le_trans Z0 ob2
  refine OD.go (B := (T2.setTop (mkF m 9 #[.val (.ref ar), .val (.int 1)] [(.ref b2)]))) st2 ?_
  exact OD.ret X2 hx hlk (t := (.array (.object cO))) Bd.returns rfl (Or.inr (Or.inr (Or.inr (Or.inr ⟨rfl, rfl, rfl⟩)))) (bd d37_9) (nl rfl) (nl rfl) ⟨_, _, rfl, N2, by exact ((Keep.refl h0 []).trans K2 all0), (Nat.le_trans (Nat.le_refl _) ob2), by exact A2, O2⟩
def Q_rmK2_2 (Z : State) (ar : Addr) (h0 : Heap) (n0 : Nat) (x0 : Addr) (x1 : Addr) (v : Option Value) (h : Heap) (L : List Loc) : Prop := ∃ (b : Addr) (k : ClassId), v = some (.ref b) ∧ Fr n0 L ∧ Keep h0 h [] ∧ h0.size ≤ b ∧ Arv Z h b k (.object cO) (2 : Int32) [(.ref x0), (.ref x1)] .null ∧ OvO Z k
set_option maxRecDepth 65536 in
set_option maxHeartbeats 40000000 in
theorem rmK2_2 (l : Launch) (Z : State) (a0 : Array Value) (hw : HW a0 Z) (ws : List Jvm.Cond) (ar : Addr) (h0 : Heap) (n0 : Nat) (Z0 : n0 ≤ h0.size) (X00 : Old Z n0 h0) (x0 : Addr) (Ex0 : Exa Z h0 x0 "java/lang/String") (x1 : Addr) (Ex1 : Exa Z h0 x1 "java/lang/String") (ka : ClassId) (Aa : Arv Z h0 ar ka (.object cO) (10 : Int32) [(.ref x0), (.ref x1), .null, .null, .null, .null, .null, .null, .null, .null] .null) (Oa : OvO Z ka) (mr : Addr) (Mr : MirM Z mr) :
    MetFree l (⟨"java/util/Arrays", "copyOf", zZ17⟩ : MethodName) (head1 (Jvm.Cond.code (⟨"java/util/Arrays", "copyOf", zZ17⟩ : MethodName) kQ18 2 (some (.array (.object cO))) :: ws) (rO 2 1 2 60)) (fun a U => a = #[(.ref ar), (.int 2)] ∧ Z.Warmed39 U.vm ∧ U.heap = h0) (fun _ _ _ _ _ => True) (fun _ U o U' => ∃ v L, o = .returned v ∧ Q_rmK2_2 Z ar h0 n0 x0 x1 v U'.heap L ∧ FrameEnd U o U' L (rO 2 1 2 60).cells (rO 2 1 2 60).slots) := by
  refine MetFree.of_bodySF (plainFor_of_name pn9) hisR ?_
  intro p e s m args below meth c s₁ Bd hml0 hP hK
  obtain ⟨rfl, hZ, hh⟩ := hP
  have hx := Bd.exec
  have hby := Bd.bytes
  have bd : ∀ {pc r}, decode kQ18 pc = r → decode c.code pc = r := fun q => hb hby q
  have hlk : meth.locks = false := Bd.notSynchronized
  have hml : c.maxLocals = 2 := hml0
  have hown : s.vm.findClass "java/util/Arrays" = some m.cls := findClass_of_methodNamed Bd.named
  have hnm := (name_of_methodNamed Bd.named Bd.method).1
  have X0 : Stand p l e (rO 2 1 2 60) s m #[(.ref ar), (.int 2)] below meth c s₁ [] 0 0 := Stand.of_body Bd
  have e0 : s₁.heap = h0 := by rw [← hh, Bd.state]; rfl
  have N0 := Fr.nil n0
  suffices hgo : OD p e s below (Q_rmK2_2 Z ar h0 n0 x0 x1) (rO 2 1 2 60).cells (rO 2 1 2 60).slots (s₁.setTop (mkF m 0 #[.val (.ref ar), .val (.int 2)] [])) by
    obtain ⟨s₂, o, hgo1, hgo2⟩ := hgo
    exact ⟨s₂, o, castTop (ef1 m ar (2 : Int32)) hgo1, hgo2⟩
  refine OD.go (B := (s₁.setTop (mkF m 3 #[.val (.ref ar), .val (.int 2)] [(.ref ar), (.int 2), (.ref ar)]))) (fun t k => XS.aloadN X0.here hx rfl (bd d37_0) rfl rfl (XS.iloadN X0.here hx rfl (bd d37_1) rfl (XS.aloadN X0.here hx rfl (bd d37_2) rfl rfl k))) ?_
  obtain ⟨T1, X1, e1, st1⟩ := own_gcls X0 hx hZ hown (Wd238 hw) (Wd239 hw) (Wd102 hw) (Wd241 hw) (Wd240 hw) (Wd242 hw) e0 Aa Oa Mr (g := (mkF m 3 #[.val (.ref ar), .val (.int 2)] [(.ref ar), (.int 2), (.ref ar)])) rfl (by rw [hml]; rfl) rfl (bd d37_3) (by decide) (W := 2) (by show 2 * 0 + _ ≤ _; exact Nat.le_of_eq rfl) (by decide)
  refine OD.go (B := (T1.setTop (mkF m 6 #[.val (.ref ar), .val (.int 2)] [(.ref mr), (.int 2), (.ref ar)]))) st1 ?_
  obtain ⟨_, _, ⟨T2, L2, k2, n2⟩, -, X2, ⟨Lc2, hQ2, l2, y2, z2⟩, st2⟩ := Jvm.LawKit.callS X1 hx (y := (⟨"java/util/Arrays", "copyOf", zZ16⟩ : MethodName)) hown (mvT hZ (Wd244 hw)) (mvT hZ (Wd245 hw)) (mvT hZ (Wd236 hw)) (mvT hZ (Wd246 hw)) (by decide) (backOf (W := 0) (rmK3_2 l Z a0 hw [] ar mr h0 n0 Z0 X00 x0 Ex0 x1 Ex1 ka Aa Oa Mr) hZ (Wd246 hw) (Wd236 hw) (by decide) (by decide)) (g := (mkF m 6 #[.val (.ref ar), .val (.int 2)] [(.ref mr), (.int 2), (.ref ar)])) rfl (by rw [hml]; rfl) (argsL := [(.ref ar), (.int 2), (.ref mr)]) (rest := []) (lenOf pd9 rfl) rfl (by show 2 * 0 + _ ≤ _; exact Nat.le_of_eq rfl) (bd d37_6) (fun _ _ => ⟨rfl, e1, (nl rfl), (nl rfl)⟩)
  dsimp only [Pt.U, Pt.locs, Pt.cells, Pt.slots] at X2 l2 y2 z2 st2 hQ2
  subst l2 y2 z2
  obtain ⟨b2, k2', rfl, Nq2, K2, ob2, A2, O2⟩ := hQ2
  have N2 := Fr.app N0 Nq2
  have gb2 : n0 ≤ b2 := Nat.le_trans Z0 ob2
  refine OD.go (B := (T2.setTop (mkF m 9 #[.val (.ref ar), .val (.int 2)] [(.ref b2)]))) st2 ?_
  exact OD.ret X2 hx hlk (t := (.array (.object cO))) Bd.returns rfl (Or.inr (Or.inr (Or.inr (Or.inr ⟨rfl, rfl, rfl⟩)))) (bd d37_9) (nl rfl) (nl rfl) ⟨_, _, rfl, N2, by exact ((Keep.refl h0 []).trans K2 all0), (Nat.le_trans (Nat.le_refl _) ob2), by exact A2, O2⟩
def Q_rmTA_1 (Z : State) (la : Addr) (h0 : Heap) (n0 : Nat) (x0 : Addr) (v : Option Value) (h : Heap) (L : List Loc) : Prop := ∃ (b : Addr) (k : ClassId), v = some (.ref b) ∧ Fr n0 L ∧ Keep h0 h [] ∧ h0.size ≤ b ∧ Arv Z h b k (.object cO) (1 : Int32) [(.ref x0)] .null ∧ OvO Z k
set_option maxRecDepth 65536 in
set_option maxHeartbeats 40000000 in
theorem rmTA_1 (l : Launch) (Z : State) (a0 : Array Value) (hw : HW a0 Z) (ws : List Jvm.Cond) (la : Addr) (h0 : Heap) (n0 : Nat) (Z0 : n0 ≤ h0.size) (X00 : Old Z n0 h0) (Ela : Exa Z h0 la cA) (Fsz : Fld Z h0 la cA "size" "I" (.int 1)) (ar : Addr) (Fed : Fld Z h0 la cA "elementData" "[Ljava/lang/Object;" (.ref ar)) (x0 : Addr) (Ex0 : Exa Z h0 x0 "java/lang/String") (ka : ClassId) (Aa : Arv Z h0 ar ka (.object cO) (10 : Int32) [(.ref x0), .null, .null, .null, .null, .null, .null, .null, .null, .null] .null) (Oa : OvO Z ka) (mr : Addr) (Mr : MirM Z mr) :
    MetFree l (⟨cA, "toArray", "()[Ljava/lang/Object;"⟩ : MethodName) (head1 (Jvm.Cond.code (⟨cA, "toArray", "()[Ljava/lang/Object;"⟩ : MethodName) kQ19 1 (some (.array (.object cO))) :: ws) (rO 3 1 1 73)) (fun a U => a = #[(.ref la)] ∧ Z.Warmed39 U.vm ∧ U.heap = h0) (fun _ _ _ _ _ => True) (fun _ U o U' => ∃ v L, o = .returned v ∧ Q_rmTA_1 Z la h0 n0 x0 v U'.heap L ∧ FrameEnd U o U' L (rO 3 1 1 73).cells (rO 3 1 1 73).slots) := by
  refine MetFree.of_bodySF (plainFor_of_name pn5) hisR ?_
  intro p e s m args below meth c s₁ Bd hml0 hP hK
  obtain ⟨rfl, hZ, hh⟩ := hP
  have hx := Bd.exec
  have hby := Bd.bytes
  have bd : ∀ {pc r}, decode kQ19 pc = r → decode c.code pc = r := fun q => hb hby q
  have hlk : meth.locks = false := Bd.notSynchronized
  have hml : c.maxLocals = 1 := hml0
  have hown : s.vm.findClass cA = some m.cls := findClass_of_methodNamed Bd.named
  have hnm := (name_of_methodNamed Bd.named Bd.method).1
  have X0 : Stand p l e (rO 3 1 1 73) s m #[(.ref la)] below meth c s₁ [] 0 0 := Stand.of_body Bd
  have e0 : s₁.heap = h0 := by rw [← hh, Bd.state]; rfl
  have N0 := Fr.nil n0
  suffices hgo : OD p e s below (Q_rmTA_1 Z la h0 n0 x0) (rO 3 1 1 73).cells (rO 3 1 1 73).slots (s₁.setTop (mkF m 0 #[.val (.ref la)] [])) by
    obtain ⟨s₂, o, hgo1, hgo2⟩ := hgo
    exact ⟨s₂, o, castTop (ef0 m la) hgo1, hgo2⟩
  refine OD.go (B := (s₁.setTop (mkF m 1 #[.val (.ref la)] [(.ref la)]))) (fun t k => XS.aloadN X0.here hx rfl (bd d36_0) rfl rfl k) ?_
  obtain ⟨T1, X1, e1, st1⟩ := getF X0 hx hZ hown (host := "") (Or.inl (Wd73 hw)) Via.refl e0 Fed (g := (mkF m 1 #[.val (.ref la)] [(.ref la)])) rfl rfl (bd d36_1)
  refine OD.go st1 ?_
  refine OD.go (B := (T1.setTop (mkF m 5 #[.val (.ref la)] [(.ref la), (.ref ar)]))) (fun t k => XS.aloadN X1.here hx rfl (bd d36_4) rfl rfl k) ?_
  obtain ⟨T2, X2, e2, st2⟩ := getF X1 hx hZ hown (host := "") (Or.inl (Wd113 hw)) Via.refl e1 Fsz (g := (mkF m 5 #[.val (.ref la)] [(.ref la), (.ref ar)])) rfl rfl (bd d36_5)
  refine OD.go (B := (T2.setTop (mkF m 8 #[.val (.ref la)] [(.int 1), (.ref ar)]))) st2 ?_
  obtain ⟨_, _, ⟨T3, L3, k3, n3⟩, -, X3, ⟨Lc3, hQ3, l3, y3, z3⟩, st3⟩ := Jvm.LawKit.callS X2 hx (y := (⟨"java/util/Arrays", "copyOf", zZ17⟩ : MethodName)) hown (mvT hZ (Wd234 hw)) (mvT hZ (Wd235 hw)) (mvT hZ (Wd236 hw)) (mvT hZ (Wd237 hw)) (by decide) (backOf (W := 0) (rmK2_1 l Z a0 hw [] ar h0 n0 Z0 X00 x0 Ex0 ka Aa Oa mr Mr) hZ (Wd237 hw) (Wd236 hw) (by decide) (by decide)) (g := (mkF m 8 #[.val (.ref la)] [(.int 1), (.ref ar)])) rfl (by rw [hml]; rfl) (argsL := [(.ref ar), (.int 1)]) (rest := []) (lenOf pd10 rfl) rfl (by show 2 * 0 + _ ≤ _; exact Nat.le_of_eq rfl) (bd d36_8) (fun _ _ => ⟨rfl, e2, (nl rfl), (nl rfl)⟩)
  dsimp only [Pt.U, Pt.locs, Pt.cells, Pt.slots] at X3 l3 y3 z3 st3 hQ3
  subst l3 y3 z3
  obtain ⟨b3, k3', rfl, Nq3, K3, ob3, A3, O3⟩ := hQ3
  have N3 := Fr.app N0 Nq3
  have gb3 : n0 ≤ b3 := Nat.le_trans Z0 ob3
  refine OD.go (B := (T3.setTop (mkF m 11 #[.val (.ref la)] [(.ref b3)]))) st3 ?_
  exact OD.ret X3 hx hlk (t := (.array (.object cO))) Bd.returns rfl (Or.inr (Or.inr (Or.inr (Or.inr ⟨rfl, rfl, rfl⟩)))) (bd d36_11) (nl rfl) (nl rfl) ⟨_, _, rfl, N3, by exact ((Keep.refl h0 []).trans K3 all0), (Nat.le_trans (Nat.le_refl _) ob3), by exact A3, O3⟩
def Q_rmTA_2 (Z : State) (la : Addr) (h0 : Heap) (n0 : Nat) (x0 : Addr) (x1 : Addr) (v : Option Value) (h : Heap) (L : List Loc) : Prop := ∃ (b : Addr) (k : ClassId), v = some (.ref b) ∧ Fr n0 L ∧ Keep h0 h [] ∧ h0.size ≤ b ∧ Arv Z h b k (.object cO) (2 : Int32) [(.ref x0), (.ref x1)] .null ∧ OvO Z k
set_option maxRecDepth 65536 in
set_option maxHeartbeats 40000000 in
theorem rmTA_2 (l : Launch) (Z : State) (a0 : Array Value) (hw : HW a0 Z) (ws : List Jvm.Cond) (la : Addr) (h0 : Heap) (n0 : Nat) (Z0 : n0 ≤ h0.size) (X00 : Old Z n0 h0) (Ela : Exa Z h0 la cA) (Fsz : Fld Z h0 la cA "size" "I" (.int 2)) (ar : Addr) (Fed : Fld Z h0 la cA "elementData" "[Ljava/lang/Object;" (.ref ar)) (x0 : Addr) (Ex0 : Exa Z h0 x0 "java/lang/String") (x1 : Addr) (Ex1 : Exa Z h0 x1 "java/lang/String") (ka : ClassId) (Aa : Arv Z h0 ar ka (.object cO) (10 : Int32) [(.ref x0), (.ref x1), .null, .null, .null, .null, .null, .null, .null, .null] .null) (Oa : OvO Z ka) (mr : Addr) (Mr : MirM Z mr) :
    MetFree l (⟨cA, "toArray", "()[Ljava/lang/Object;"⟩ : MethodName) (head1 (Jvm.Cond.code (⟨cA, "toArray", "()[Ljava/lang/Object;"⟩ : MethodName) kQ19 1 (some (.array (.object cO))) :: ws) (rO 3 1 2 73)) (fun a U => a = #[(.ref la)] ∧ Z.Warmed39 U.vm ∧ U.heap = h0) (fun _ _ _ _ _ => True) (fun _ U o U' => ∃ v L, o = .returned v ∧ Q_rmTA_2 Z la h0 n0 x0 x1 v U'.heap L ∧ FrameEnd U o U' L (rO 3 1 2 73).cells (rO 3 1 2 73).slots) := by
  refine MetFree.of_bodySF (plainFor_of_name pn5) hisR ?_
  intro p e s m args below meth c s₁ Bd hml0 hP hK
  obtain ⟨rfl, hZ, hh⟩ := hP
  have hx := Bd.exec
  have hby := Bd.bytes
  have bd : ∀ {pc r}, decode kQ19 pc = r → decode c.code pc = r := fun q => hb hby q
  have hlk : meth.locks = false := Bd.notSynchronized
  have hml : c.maxLocals = 1 := hml0
  have hown : s.vm.findClass cA = some m.cls := findClass_of_methodNamed Bd.named
  have hnm := (name_of_methodNamed Bd.named Bd.method).1
  have X0 : Stand p l e (rO 3 1 2 73) s m #[(.ref la)] below meth c s₁ [] 0 0 := Stand.of_body Bd
  have e0 : s₁.heap = h0 := by rw [← hh, Bd.state]; rfl
  have N0 := Fr.nil n0
  suffices hgo : OD p e s below (Q_rmTA_2 Z la h0 n0 x0 x1) (rO 3 1 2 73).cells (rO 3 1 2 73).slots (s₁.setTop (mkF m 0 #[.val (.ref la)] [])) by
    obtain ⟨s₂, o, hgo1, hgo2⟩ := hgo
    exact ⟨s₂, o, castTop (ef0 m la) hgo1, hgo2⟩
  refine OD.go (B := (s₁.setTop (mkF m 1 #[.val (.ref la)] [(.ref la)]))) (fun t k => XS.aloadN X0.here hx rfl (bd d36_0) rfl rfl k) ?_
  obtain ⟨T1, X1, e1, st1⟩ := getF X0 hx hZ hown (host := "") (Or.inl (Wd73 hw)) Via.refl e0 Fed (g := (mkF m 1 #[.val (.ref la)] [(.ref la)])) rfl rfl (bd d36_1)
  refine OD.go st1 ?_
  refine OD.go (B := (T1.setTop (mkF m 5 #[.val (.ref la)] [(.ref la), (.ref ar)]))) (fun t k => XS.aloadN X1.here hx rfl (bd d36_4) rfl rfl k) ?_
  obtain ⟨T2, X2, e2, st2⟩ := getF X1 hx hZ hown (host := "") (Or.inl (Wd113 hw)) Via.refl e1 Fsz (g := (mkF m 5 #[.val (.ref la)] [(.ref la), (.ref ar)])) rfl rfl (bd d36_5)
  refine OD.go (B := (T2.setTop (mkF m 8 #[.val (.ref la)] [(.int 2), (.ref ar)]))) st2 ?_
  obtain ⟨_, _, ⟨T3, L3, k3, n3⟩, -, X3, ⟨Lc3, hQ3, l3, y3, z3⟩, st3⟩ := Jvm.LawKit.callS X2 hx (y := (⟨"java/util/Arrays", "copyOf", zZ17⟩ : MethodName)) hown (mvT hZ (Wd234 hw)) (mvT hZ (Wd235 hw)) (mvT hZ (Wd236 hw)) (mvT hZ (Wd237 hw)) (by decide) (backOf (W := 0) (rmK2_2 l Z a0 hw [] ar h0 n0 Z0 X00 x0 Ex0 x1 Ex1 ka Aa Oa mr Mr) hZ (Wd237 hw) (Wd236 hw) (by decide) (by decide)) (g := (mkF m 8 #[.val (.ref la)] [(.int 2), (.ref ar)])) rfl (by rw [hml]; rfl) (argsL := [(.ref ar), (.int 2)]) (rest := []) (lenOf pd10 rfl) rfl (by show 2 * 0 + _ ≤ _; exact Nat.le_of_eq rfl) (bd d36_8) (fun _ _ => ⟨rfl, e2, (nl rfl), (nl rfl)⟩)
  dsimp only [Pt.U, Pt.locs, Pt.cells, Pt.slots] at X3 l3 y3 z3 st3 hQ3
  subst l3 y3 z3
  obtain ⟨b3, k3', rfl, Nq3, K3, ob3, A3, O3⟩ := hQ3
  have N3 := Fr.app N0 Nq3
  have gb3 : n0 ≤ b3 := Nat.le_trans Z0 ob3
  refine OD.go (B := (T3.setTop (mkF m 11 #[.val (.ref la)] [(.ref b3)]))) st3 ?_
  exact OD.ret X3 hx hlk (t := (.array (.object cO))) Bd.returns rfl (Or.inr (Or.inr (Or.inr (Or.inr ⟨rfl, rfl, rfl⟩)))) (bd d36_11) (nl rfl) (nl rfl) ⟨_, _, rfl, N3, by exact ((Keep.refl h0 []).trans K3 all0), (Nat.le_trans (Nat.le_refl _) ob3), by exact A3, O3⟩
def Q_rmIE_0 (Z : State) (la : Addr) (h0 : Heap) (v : Option Value) (h : Heap) (L : List Loc) : Prop := v = some (.int 1) ∧ L = [] ∧ h = h0
set_option maxRecDepth 65536 in
set_option maxHeartbeats 40000000 in
theorem rmIE_0 (l : Launch) (Z : State) (a0 : Array Value) (hw : HW a0 Z) (ws : List Jvm.Cond) (la : Addr) (h0 : Heap) (Fsz : Fld Z h0 la cA "size" "I" (.int 0)) (Ela : Exa Z h0 la cA) :
    MetFree l (⟨cA, "isEmpty", "()Z"⟩ : MethodName) (head1 (Jvm.Cond.code (⟨cA, "isEmpty", "()Z"⟩ : MethodName) kQ20 1 (some .boolean) :: ws) (rO 0 0 0 0)) (fun a U => a = #[(.ref la)] ∧ Z.Warmed39 U.vm ∧ U.heap = h0) (fun _ _ _ _ _ => True) (fun _ U o U' => ∃ v L, o = .returned v ∧ Q_rmIE_0 Z la h0 v U'.heap L ∧ FrameEnd U o U' L (rO 0 0 0 0).cells (rO 0 0 0 0).slots) := by
  refine MetFree.of_bodySF (plainFor_of_name pn5) hisR ?_
  intro p e s m args below meth c s₁ Bd hml0 hP hK
  obtain ⟨rfl, hZ, hh⟩ := hP
  have hx := Bd.exec
  have hby := Bd.bytes
  have bd : ∀ {pc r}, decode kQ20 pc = r → decode c.code pc = r := fun q => hb hby q
  have hlk : meth.locks = false := Bd.notSynchronized
  have hml : c.maxLocals = 1 := hml0
  have hown : s.vm.findClass cA = some m.cls := findClass_of_methodNamed Bd.named
  have hnm := (name_of_methodNamed Bd.named Bd.method).1
  have X0 : Stand p l e (rO 0 0 0 0) s m #[(.ref la)] below meth c s₁ [] 0 0 := Stand.of_body Bd
  have e0 : s₁.heap = h0 := by rw [← hh, Bd.state]; rfl
  suffices hgo : OD p e s below (Q_rmIE_0 Z la h0) (rO 0 0 0 0).cells (rO 0 0 0 0).slots (s₁.setTop (mkF m 0 #[.val (.ref la)] [])) by
    obtain ⟨s₂, o, hgo1, hgo2⟩ := hgo
    exact ⟨s₂, o, castTop (ef0 m la) hgo1, hgo2⟩
  refine OD.go (B := (s₁.setTop (mkF m 1 #[.val (.ref la)] [(.ref la)]))) (fun t k => XS.aloadN X0.here hx rfl (bd d20_0) rfl rfl k) ?_
  obtain ⟨T1, X1, e1, st1⟩ := getF X0 hx hZ hown (host := "") (Or.inl (Wd113 hw)) Via.refl e0 Fsz (g := (mkF m 1 #[.val (.ref la)] [(.ref la)])) rfl rfl (bd d20_1)
  refine OD.go st1 ?_
  refine OD.go (B := (T1.setTop (mkF m 12 #[.val (.ref la)] [(.int 1)]))) (fun t k => XS.ifNo X1.here hx rfl (bd d20_4) rfl (by rw [if0]; exact (teq (by decide : (0 : Int32) = (0 : Int32))).2) (XS.iconst X1.here hx rfl (bd d20_7) (XS.goto X1.here hx rfl (pc0 := 8) (pc' := 12) rfl (bd d20_8) (by decide) (by decide) k))) ?_
  exact OD.ret X1 hx hlk (t := .boolean) Bd.returns rfl (Or.inl ⟨rfl, Or.inr (Or.inl rfl), _, rfl⟩) (bd d20_12) (nl rfl) (nl rfl) ⟨rfl, rfl, e1⟩
def Q_rmIE_1 (Z : State) (la : Addr) (h0 : Heap) (v : Option Value) (h : Heap) (L : List Loc) : Prop := v = some (.int 0) ∧ L = [] ∧ h = h0
set_option maxRecDepth 65536 in
set_option maxHeartbeats 40000000 in
theorem rmIE_1 (l : Launch) (Z : State) (a0 : Array Value) (hw : HW a0 Z) (ws : List Jvm.Cond) (la : Addr) (h0 : Heap) (Fsz : Fld Z h0 la cA "size" "I" (.int 1)) (Ela : Exa Z h0 la cA) :
    MetFree l (⟨cA, "isEmpty", "()Z"⟩ : MethodName) (head1 (Jvm.Cond.code (⟨cA, "isEmpty", "()Z"⟩ : MethodName) kQ20 1 (some .boolean) :: ws) (rO 0 0 0 0)) (fun a U => a = #[(.ref la)] ∧ Z.Warmed39 U.vm ∧ U.heap = h0) (fun _ _ _ _ _ => True) (fun _ U o U' => ∃ v L, o = .returned v ∧ Q_rmIE_1 Z la h0 v U'.heap L ∧ FrameEnd U o U' L (rO 0 0 0 0).cells (rO 0 0 0 0).slots) := by
  refine MetFree.of_bodySF (plainFor_of_name pn5) hisR ?_
  intro p e s m args below meth c s₁ Bd hml0 hP hK
  obtain ⟨rfl, hZ, hh⟩ := hP
  have hx := Bd.exec
  have hby := Bd.bytes
  have bd : ∀ {pc r}, decode kQ20 pc = r → decode c.code pc = r := fun q => hb hby q
  have hlk : meth.locks = false := Bd.notSynchronized
  have hml : c.maxLocals = 1 := hml0
  have hown : s.vm.findClass cA = some m.cls := findClass_of_methodNamed Bd.named
  have hnm := (name_of_methodNamed Bd.named Bd.method).1
  have X0 : Stand p l e (rO 0 0 0 0) s m #[(.ref la)] below meth c s₁ [] 0 0 := Stand.of_body Bd
  have e0 : s₁.heap = h0 := by rw [← hh, Bd.state]; rfl
  suffices hgo : OD p e s below (Q_rmIE_1 Z la h0) (rO 0 0 0 0).cells (rO 0 0 0 0).slots (s₁.setTop (mkF m 0 #[.val (.ref la)] [])) by
    obtain ⟨s₂, o, hgo1, hgo2⟩ := hgo
    exact ⟨s₂, o, castTop (ef0 m la) hgo1, hgo2⟩
  refine OD.go (B := (s₁.setTop (mkF m 1 #[.val (.ref la)] [(.ref la)]))) (fun t k => XS.aloadN X0.here hx rfl (bd d20_0) rfl rfl k) ?_
  obtain ⟨T1, X1, e1, st1⟩ := getF X0 hx hZ hown (host := "") (Or.inl (Wd113 hw)) Via.refl e0 Fsz (g := (mkF m 1 #[.val (.ref la)] [(.ref la)])) rfl rfl (bd d20_1)
  refine OD.go st1 ?_
  refine OD.go (B := (T1.setTop (mkF m 12 #[.val (.ref la)] [(.int 0)]))) (fun t k => XS.ifYes X1.here hx rfl (pc0 := 4) (pc' := 11) rfl (bd d20_4) rfl (by rw [if0]; exact (feq (by decide : ¬ (1 : Int32) = (0 : Int32))).2) (by decide) (by decide) (XS.iconst X1.here hx rfl (bd d20_11) k)) ?_
  exact OD.ret X1 hx hlk (t := .boolean) Bd.returns rfl (Or.inl ⟨rfl, Or.inr (Or.inl rfl), _, rfl⟩) (bd d20_12) (nl rfl) (nl rfl) ⟨rfl, rfl, e1⟩
def Q_rmIE_2 (Z : State) (la : Addr) (h0 : Heap) (v : Option Value) (h : Heap) (L : List Loc) : Prop := v = some (.int 0) ∧ L = [] ∧ h = h0
set_option maxRecDepth 65536 in
set_option maxHeartbeats 40000000 in
theorem rmIE_2 (l : Launch) (Z : State) (a0 : Array Value) (hw : HW a0 Z) (ws : List Jvm.Cond) (la : Addr) (h0 : Heap) (Fsz : Fld Z h0 la cA "size" "I" (.int 2)) (Ela : Exa Z h0 la cA) :
    MetFree l (⟨cA, "isEmpty", "()Z"⟩ : MethodName) (head1 (Jvm.Cond.code (⟨cA, "isEmpty", "()Z"⟩ : MethodName) kQ20 1 (some .boolean) :: ws) (rO 0 0 0 0)) (fun a U => a = #[(.ref la)] ∧ Z.Warmed39 U.vm ∧ U.heap = h0) (fun _ _ _ _ _ => True) (fun _ U o U' => ∃ v L, o = .returned v ∧ Q_rmIE_2 Z la h0 v U'.heap L ∧ FrameEnd U o U' L (rO 0 0 0 0).cells (rO 0 0 0 0).slots) := by
  refine MetFree.of_bodySF (plainFor_of_name pn5) hisR ?_
  intro p e s m args below meth c s₁ Bd hml0 hP hK
  obtain ⟨rfl, hZ, hh⟩ := hP
  have hx := Bd.exec
  have hby := Bd.bytes
  have bd : ∀ {pc r}, decode kQ20 pc = r → decode c.code pc = r := fun q => hb hby q
  have hlk : meth.locks = false := Bd.notSynchronized
  have hml : c.maxLocals = 1 := hml0
  have hown : s.vm.findClass cA = some m.cls := findClass_of_methodNamed Bd.named
  have hnm := (name_of_methodNamed Bd.named Bd.method).1
  have X0 : Stand p l e (rO 0 0 0 0) s m #[(.ref la)] below meth c s₁ [] 0 0 := Stand.of_body Bd
  have e0 : s₁.heap = h0 := by rw [← hh, Bd.state]; rfl
  suffices hgo : OD p e s below (Q_rmIE_2 Z la h0) (rO 0 0 0 0).cells (rO 0 0 0 0).slots (s₁.setTop (mkF m 0 #[.val (.ref la)] [])) by
    obtain ⟨s₂, o, hgo1, hgo2⟩ := hgo
    exact ⟨s₂, o, castTop (ef0 m la) hgo1, hgo2⟩
  refine OD.go (B := (s₁.setTop (mkF m 1 #[.val (.ref la)] [(.ref la)]))) (fun t k => XS.aloadN X0.here hx rfl (bd d20_0) rfl rfl k) ?_
  obtain ⟨T1, X1, e1, st1⟩ := getF X0 hx hZ hown (host := "") (Or.inl (Wd113 hw)) Via.refl e0 Fsz (g := (mkF m 1 #[.val (.ref la)] [(.ref la)])) rfl rfl (bd d20_1)
  refine OD.go st1 ?_
  refine OD.go (B := (T1.setTop (mkF m 12 #[.val (.ref la)] [(.int 0)]))) (fun t k => XS.ifYes X1.here hx rfl (pc0 := 4) (pc' := 11) rfl (bd d20_4) rfl (by rw [if0]; exact (feq (by decide : ¬ (2 : Int32) = (0 : Int32))).2) (by decide) (by decide) (XS.iconst X1.here hx rfl (bd d20_11) k)) ?_
  exact OD.ret X1 hx hlk (t := .boolean) Bd.returns rfl (Or.inl ⟨rfl, Or.inr (Or.inl rfl), _, rfl⟩) (bd d20_12) (nl rfl) (nl rfl) ⟨rfl, rfl, e1⟩
def Q_rmAIC (Z : State) (a1 : Addr) (h0 : Heap) (v : Option Value) (h : Heap) (L : List Loc) : Prop := v = none ∧ L = [] ∧ h = h0
set_option maxRecDepth 65536 in
set_option maxHeartbeats 40000000 in
theorem rmAIC (l : Launch) (Z : State) (a0 : Array Value) (hw : HW a0 Z) (ws : List Jvm.Cond) (a1 : Addr) (h0 : Heap)  :
    MetFree l (⟨zZ18, "<init>", "()V"⟩ : MethodName) (head1 (Jvm.Cond.code (⟨zZ18, "<init>", "()V"⟩ : MethodName) kQ21 1 none :: ws) (rO 2 0 0 24)) (fun a U => a = #[(.ref a1)] ∧ Z.Warmed39 U.vm ∧ U.heap = h0) (fun _ _ _ _ _ => True) (fun _ U o U' => ∃ v L, o = .returned v ∧ Q_rmAIC Z a1 h0 v U'.heap L ∧ FrameEnd U o U' L (rO 2 0 0 24).cells (rO 2 0 0 24).slots) := by
  refine MetFree.of_bodySF (plainFor_of_name pn10) hisR ?_
  intro p e s m args below meth c s₁ Bd hml0 hP hK
  obtain ⟨rfl, hZ, hh⟩ := hP
  have hx := Bd.exec
  have hby := Bd.bytes
  have bd : ∀ {pc r}, decode kQ21 pc = r → decode c.code pc = r := fun q => hb hby q
  have hlk : meth.locks = false := Bd.notSynchronized
  have hml : c.maxLocals = 1 := hml0
  have hown : s.vm.findClass zZ18 = some m.cls := findClass_of_methodNamed Bd.named
  have hnm := (name_of_methodNamed Bd.named Bd.method).1
  have X0 : Stand p l e (rO 2 0 0 24) s m #[(.ref a1)] below meth c s₁ [] 0 0 := Stand.of_body Bd
  have e0 : s₁.heap = h0 := by rw [← hh, Bd.state]; rfl
  suffices hgo : OD p e s below (Q_rmAIC Z a1 h0) (rO 2 0 0 24).cells (rO 2 0 0 24).slots (s₁.setTop (mkF m 0 #[.val (.ref a1)] [])) by
    obtain ⟨s₂, o, hgo1, hgo2⟩ := hgo
    exact ⟨s₂, o, castTop (ef0 m a1) hgo1, hgo2⟩
  refine OD.go (B := (s₁.setTop (mkF m 1 #[.val (.ref a1)] [(.ref a1)]))) (fun t k => XS.aloadN X0.here hx rfl (bd d43_0) rfl rfl k) ?_
  obtain ⟨_, _, ⟨T1, L1, k1, n1⟩, -, X1, ⟨Lc1, hQ1, l1, y1, z1⟩, st1⟩ := X0.specialBack hx (y := (⟨zZ8, "<init>", "()V"⟩ : MethodName)) rfl hown (mvT hZ (Wd278 hw)) (mvT hZ (Wd64 hw)) (mvT hZ (Wd68 hw)) (by decide) (backOf (W := 0) (rmAC l Z a0 hw [] a1 h0) hZ (Wd68 hw) (Wd67 hw) (by decide) (by decide)) (g := (mkF m 1 #[.val (.ref a1)] [(.ref a1)])) rfl (by rw [hml]; rfl) (Steps.refl _) (a := a1) (argsL := []) (rest := []) (lenOf pd0 rfl) rfl (by show 2 * 0 + _ ≤ _; exact Nat.le_of_eq rfl) (bd d43_1) (fun _ _ => ⟨rfl, e0, (nl rfl), (nl rfl)⟩)
  dsimp only [Pt.U, Pt.locs, Pt.cells, Pt.slots] at X1 l1 y1 z1 st1 hQ1
  subst l1 y1 z1
  obtain ⟨rfl, rfl, e1⟩ := hQ1
  refine OD.via (B := (T1.setTop (mkF m 4 #[.val (.ref a1)] []))) st1 ?_
  exact OD.retV X1 hx hlk Bd.returns (bd d43_4) (nl rfl) (nl rfl) ⟨rfl, rfl, e1⟩
def Q_rmAIL (Z : State) (a1 : Addr) (h0 : Heap) (v : Option Value) (h : Heap) (L : List Loc) : Prop := v = none ∧ L = [] ∧ h = h0
set_option maxRecDepth 65536 in
set_option maxHeartbeats 40000000 in
theorem rmAIL (l : Launch) (Z : State) (a0 : Array Value) (hw : HW a0 Z) (ws : List Jvm.Cond) (a1 : Addr) (h0 : Heap)  :
    MetFree l (⟨zZ15, "<init>", "()V"⟩ : MethodName) (head1 (Jvm.Cond.code (⟨zZ15, "<init>", "()V"⟩ : MethodName) kQ22 1 none :: ws) (rO 3 0 0 36)) (fun a U => a = #[(.ref a1)] ∧ Z.Warmed39 U.vm ∧ U.heap = h0) (fun _ _ _ _ _ => True) (fun _ U o U' => ∃ v L, o = .returned v ∧ Q_rmAIL Z a1 h0 v U'.heap L ∧ FrameEnd U o U' L (rO 3 0 0 36).cells (rO 3 0 0 36).slots) := by
  refine MetFree.of_bodySF (plainFor_of_name pn11) hisR ?_
  intro p e s m args below meth c s₁ Bd hml0 hP hK
  obtain ⟨rfl, hZ, hh⟩ := hP
  have hx := Bd.exec
  have hby := Bd.bytes
  have bd : ∀ {pc r}, decode kQ22 pc = r → decode c.code pc = r := fun q => hb hby q
  have hlk : meth.locks = false := Bd.notSynchronized
  have hml : c.maxLocals = 1 := hml0
  have hown : s.vm.findClass zZ15 = some m.cls := findClass_of_methodNamed Bd.named
  have hnm := (name_of_methodNamed Bd.named Bd.method).1
  have X0 : Stand p l e (rO 3 0 0 36) s m #[(.ref a1)] below meth c s₁ [] 0 0 := Stand.of_body Bd
  have e0 : s₁.heap = h0 := by rw [← hh, Bd.state]; rfl
  suffices hgo : OD p e s below (Q_rmAIL Z a1 h0) (rO 3 0 0 36).cells (rO 3 0 0 36).slots (s₁.setTop (mkF m 0 #[.val (.ref a1)] [])) by
    obtain ⟨s₂, o, hgo1, hgo2⟩ := hgo
    exact ⟨s₂, o, castTop (ef0 m a1) hgo1, hgo2⟩
  refine OD.go (B := (s₁.setTop (mkF m 1 #[.val (.ref a1)] [(.ref a1)]))) (fun t k => XS.aloadN X0.here hx rfl (bd d42_0) rfl rfl k) ?_
  obtain ⟨_, _, ⟨T1, L1, k1, n1⟩, -, X1, ⟨Lc1, hQ1, l1, y1, z1⟩, st1⟩ := X0.specialBack hx (y := (⟨zZ18, "<init>", "()V"⟩ : MethodName)) rfl hown (mvT hZ (Wd272 hw)) (mvT hZ (Wd273 hw)) (mvT hZ (Wd277 hw)) (by decide) (backOf (W := 0) (rmAIC l Z a0 hw [] a1 h0) hZ (Wd277 hw) (Wd276 hw) (by decide) (by decide)) (g := (mkF m 1 #[.val (.ref a1)] [(.ref a1)])) rfl (by rw [hml]; rfl) (Steps.refl _) (a := a1) (argsL := []) (rest := []) (lenOf pd0 rfl) rfl (by show 2 * 0 + _ ≤ _; exact Nat.le_of_eq rfl) (bd d42_1) (fun _ _ => ⟨rfl, e0, (nl rfl), (nl rfl)⟩)
  dsimp only [Pt.U, Pt.locs, Pt.cells, Pt.slots] at X1 l1 y1 z1 st1 hQ1
  subst l1 y1 z1
  obtain ⟨rfl, rfl, e1⟩ := hQ1
  refine OD.via (B := (T1.setTop (mkF m 4 #[.val (.ref a1)] []))) st1 ?_
  exact OD.retV X1 hx hlk Bd.returns (bd d42_4) (nl rfl) (nl rfl) ⟨rfl, rfl, e1⟩
def Q_rmRN (Z : State) (a1 : Addr) (h0 : Heap) (v : Option Value) (h : Heap) (L : List Loc) : Prop := v = some (.ref a1) ∧ L = [] ∧ h = h0
set_option maxRecDepth 65536 in
set_option maxHeartbeats 40000000 in
theorem rmRN (l : Launch) (Z : State) (a0 : Array Value) (hw : HW a0 Z) (ws : List Jvm.Cond) (a1 : Addr) (h0 : Heap)  :
    MetFree l (⟨"java/util/Objects", "requireNonNull", zZ22⟩ : MethodName) (head1 (Jvm.Cond.code (⟨"java/util/Objects", "requireNonNull", zZ22⟩ : MethodName) kQ23 1 (some (.object cO)) :: ws) (rO 0 0 0 0)) (fun a U => a = #[(.ref a1)] ∧ Z.Warmed39 U.vm ∧ U.heap = h0) (fun _ _ _ _ _ => True) (fun _ U o U' => ∃ v L, o = .returned v ∧ Q_rmRN Z a1 h0 v U'.heap L ∧ FrameEnd U o U' L (rO 0 0 0 0).cells (rO 0 0 0 0).slots) := by
  refine MetFree.of_bodySF (plainFor_of_name pn12) hisR ?_
  intro p e s m args below meth c s₁ Bd hml0 hP hK
  obtain ⟨rfl, hZ, hh⟩ := hP
  have hx := Bd.exec
  have hby := Bd.bytes
  have bd : ∀ {pc r}, decode kQ23 pc = r → decode c.code pc = r := fun q => hb hby q
  have hlk : meth.locks = false := Bd.notSynchronized
  have hml : c.maxLocals = 1 := hml0
  have hown : s.vm.findClass "java/util/Objects" = some m.cls := findClass_of_methodNamed Bd.named
  have hnm := (name_of_methodNamed Bd.named Bd.method).1
  have X0 : Stand p l e (rO 0 0 0 0) s m #[(.ref a1)] below meth c s₁ [] 0 0 := Stand.of_body Bd
  have e0 : s₁.heap = h0 := by rw [← hh, Bd.state]; rfl
  suffices hgo : OD p e s below (Q_rmRN Z a1 h0) (rO 0 0 0 0).cells (rO 0 0 0 0).slots (s₁.setTop (mkF m 0 #[.val (.ref a1)] [])) by
    obtain ⟨s₂, o, hgo1, hgo2⟩ := hgo
    exact ⟨s₂, o, castTop (ef0 m a1) hgo1, hgo2⟩
  refine OD.go (B := (s₁.setTop (mkF m 13 #[.val (.ref a1)] [(.ref a1)]))) (fun t k => XS.aloadN X0.here hx rfl (bd d44_0) rfl rfl (XS.ifnonnullYes X0.here hx rfl (pc0 := 1) (pc' := 12) rfl (bd d44_1) rfl (by decide) (by decide) (XS.aloadN X0.here hx rfl (bd d44_12) rfl rfl k))) ?_
  exact OD.ret X0 hx hlk (t := (.object cO)) Bd.returns rfl (Or.inr (Or.inr (Or.inr (Or.inr ⟨rfl, rfl, rfl⟩)))) (bd d44_13) (nl rfl) (nl rfl) ⟨rfl, rfl, e0⟩
def Q_rm12a (Z : State) (a1 : Addr) (x0 : Addr) (h0 : Heap) (n0 : Nat) (em : Addr) (v : Option Value) (h : Heap) (L : List Loc) : Prop := v = none ∧ Fr n0 L ∧ Keep h0 h [a1] ∧ Fld Z h a1 c2 "e0" oO (.ref x0) ∧ Fld Z h a1 c2 "e1" oO (.ref em)
set_option maxRecDepth 65536 in
set_option maxHeartbeats 40000000 in
theorem rm12a (l : Launch) (Z : State) (a0 : Array Value) (hw : HW a0 Z) (ws : List Jvm.Cond) (a1 : Addr) (x0 : Addr) (h0 : Heap) (n0 : Nat) (Z0 : n0 ≤ h0.size) (E1 : Exa Z h0 a1 c2) (F0 : Fld Z h0 a1 c2 "e0" oO .null) (F1 : Fld Z h0 a1 c2 "e1" oO .null) (g1 : n0 ≤ a1) (X00 : Old Z n0 h0) (em : Addr) (Sm : Sta Z Z.heap cI "EMPTY" oO (.ref em)) :
    MetFree l (⟨c2, "<init>", "(Ljava/lang/Object;)V"⟩ : MethodName) (head1 (Jvm.Cond.code (⟨c2, "<init>", "(Ljava/lang/Object;)V"⟩ : MethodName) kQ24 2 none :: ws) (rO 4 0 0 48)) (fun a U => a = #[(.ref a1), (.ref x0)] ∧ Z.Warmed39 U.vm ∧ U.heap = h0) (fun _ _ _ _ _ => True) (fun _ U o U' => ∃ v L, o = .returned v ∧ Q_rm12a Z a1 x0 h0 n0 em v U'.heap L ∧ FrameEnd U o U' L (rO 4 0 0 48).cells (rO 4 0 0 48).slots) := by
  refine MetFree.of_bodySF (plainFor_of_name pn13) hisR ?_
  intro p e s m args below meth c s₁ Bd hml0 hP hK
  obtain ⟨rfl, hZ, hh⟩ := hP
  have hx := Bd.exec
  have hby := Bd.bytes
  have bd : ∀ {pc r}, decode kQ24 pc = r → decode c.code pc = r := fun q => hb hby q
  have hlk : meth.locks = false := Bd.notSynchronized
  have hml : c.maxLocals = 2 := hml0
  have hown : s.vm.findClass c2 = some m.cls := findClass_of_methodNamed Bd.named
  have hnm := (name_of_methodNamed Bd.named Bd.method).1
  have X0 : Stand p l e (rO 4 0 0 48) s m #[(.ref a1), (.ref x0)] below meth c s₁ [] 0 0 := Stand.of_body Bd
  have e0 : s₁.heap = h0 := by rw [← hh, Bd.state]; rfl
  have N0 := Fr.nil n0
  suffices hgo : OD p e s below (Q_rm12a Z a1 x0 h0 n0 em) (rO 4 0 0 48).cells (rO 4 0 0 48).slots (s₁.setTop (mkF m 0 #[.val (.ref a1), .val (.ref x0)] [])) by
    obtain ⟨s₂, o, hgo1, hgo2⟩ := hgo
    exact ⟨s₂, o, castTop (ef6 m a1 x0) hgo1, hgo2⟩
  refine OD.go (B := (s₁.setTop (mkF m 1 #[.val (.ref a1), .val (.ref x0)] [(.ref a1)]))) (fun t k => XS.aloadN X0.here hx rfl (bd d41_0) rfl rfl k) ?_
  obtain ⟨_, _, ⟨T1, L1, k1, n1⟩, -, X1, ⟨Lc1, hQ1, l1, y1, z1⟩, st1⟩ := X0.specialBack hx (y := (⟨zZ15, "<init>", "()V"⟩ : MethodName)) rfl hown (mvT hZ (Wd266 hw)) (mvT hZ (Wd267 hw)) (mvT hZ (Wd271 hw)) (by decide) (backOf (W := 0) (rmAIL l Z a0 hw [] a1 h0) hZ (Wd271 hw) (Wd270 hw) (by decide) (by decide)) (g := (mkF m 1 #[.val (.ref a1), .val (.ref x0)] [(.ref a1)])) rfl (by rw [hml]; rfl) (Steps.refl _) (a := a1) (argsL := []) (rest := []) (lenOf pd0 rfl) rfl (by show 2 * 0 + _ ≤ _; exact Nat.le_of_eq rfl) (bd d41_1) (fun _ _ => ⟨rfl, e0, (nl rfl), (nl rfl)⟩)
  dsimp only [Pt.U, Pt.locs, Pt.cells, Pt.slots] at X1 l1 y1 z1 st1 hQ1
  subst l1 y1 z1
  obtain ⟨rfl, rfl, e1⟩ := hQ1
  have N1 := Fr.app N0 (Fr.nil _)
  refine OD.via st1 ?_
  refine OD.go (B := (T1.setTop (mkF m 6 #[.val (.ref a1), .val (.ref x0)] [(.ref x0), (.ref a1)]))) (fun t k => XS.aloadN X1.here hx rfl (bd d41_4) rfl rfl (XS.aloadN X1.here hx rfl (bd d41_5) rfl rfl k)) ?_
  obtain ⟨_, _, ⟨T2, L2, k2, n2⟩, -, X2, ⟨Lc2, hQ2, l2, y2, z2⟩, st2⟩ := Jvm.LawKit.callS X1 hx (y := (⟨"java/util/Objects", "requireNonNull", zZ22⟩ : MethodName)) hown (mvT hZ (Wd280 hw)) (mvT hZ (Wd281 hw)) (mvT hZ (Wd282 hw)) (mvT hZ (Wd283 hw)) (by decide) (backOf (W := 1) (rmRN l Z a0 hw [] x0 h0) hZ (Wd283 hw) (Wd282 hw) (by decide) (by decide)) (g := (mkF m 6 #[.val (.ref a1), .val (.ref x0)] [(.ref x0), (.ref a1)])) rfl (by rw [hml]; rfl) (argsL := [(.ref x0)]) (rest := [(.ref a1)]) (lenOf pd11 rfl) rfl (by show 2 * 0 + _ ≤ _; exact Nat.le_of_eq rfl) (bd d41_6) (fun _ _ => ⟨rfl, e1, (nl rfl), (nl rfl)⟩)
  dsimp only [Pt.U, Pt.locs, Pt.cells, Pt.slots] at X2 l2 y2 z2 st2 hQ2
  subst l2 y2 z2
  obtain ⟨rfl, rfl, e2⟩ := hQ2
  have N2 := Fr.app N1 (Fr.nil _)
  refine OD.go (B := (T2.setTop (mkF m 9 #[.val (.ref a1), .val (.ref x0)] [(.ref x0), (.ref a1)]))) st2 ?_
  obtain ⟨T3, h3, X3, e3, W3, st3⟩ := putF X2 hx hZ hown (host := "") (Or.inl (Wd284 hw)) Via.refl e2 F0 E1 (Or.inr ⟨(Wd285 hw), rfl, hnm⟩) (Wd260 hw) (ty := (.object cO)) (by decide) rfl rfl (g := (mkF m 9 #[.val (.ref a1), .val (.ref x0)] [(.ref x0), (.ref a1)])) rfl rfl (bd d41_9)
  have Fx3 := F0.same W3
  have N3 := Fr.snoc X3 N2 g1
  refine OD.go st3 ?_
  refine OD.go (B := (T3.setTop (mkF m 13 #[.val (.ref a1), .val (.ref x0)] [(.ref a1)]))) (fun t k => XS.aloadN X3.here hx rfl (bd d41_12) rfl rfl k) ?_
  have f4 := (Sm.ext (X00.wr W3 g1).2)
  obtain ⟨T5, X5, e5, st5⟩ := getS2 X3 hx hZ hown (Or.inr (Wd286 hw)) Via.refl e3 f4 (g := (mkF m 13 #[.val (.ref a1), .val (.ref x0)] [(.ref a1)])) rfl (bd d41_13)
  refine OD.go (B := (T5.setTop (mkF m 16 #[.val (.ref a1), .val (.ref x0)] [(.ref em), (.ref a1)]))) st5 ?_
  have f6 := (F1.other W3 (Or.inr (slot_ne (Or.inr (Wd288 hw)) (Or.inr (Wd285 hw)) (by decide) (t := (.object cO)) (t' := (.object cO)) (by decide) (by decide))))
  have f7 := (E1.wr W3)
  obtain ⟨T8, h8, X8, e8, W8, st8⟩ := putF X5 hx hZ hown (host := "") (Or.inl (Wd287 hw)) Via.refl e5 f6 f7 (Or.inr ⟨(Wd288 hw), rfl, hnm⟩) (Wd260 hw) (ty := (.object cO)) (by decide) rfl rfl (g := (mkF m 16 #[.val (.ref a1), .val (.ref x0)] [(.ref em), (.ref a1)])) rfl rfl (bd d41_16)
  have Fx8 := f6.same W8
  have N8 := Fr.snoc X8 N3 g1
  refine OD.go (B := (T8.setTop (mkF m 19 #[.val (.ref a1), .val (.ref x0)] []))) st8 ?_
  exact OD.retV X8 hx hlk Bd.returns (bd d41_19) (nl rfl) (nl rfl) ⟨rfl, N8, by rw [e8]; exact (((Keep.refl h0 [a1]).wr W3 (Or.inl (List.mem_of_getElem? (i := 0) rfl))).wr W8 (Or.inl (List.mem_of_getElem? (i := 0) rfl))), by rw [e8]; exact (Fx3.other W8 (Or.inr (slot_ne (Or.inr (Wd285 hw)) (Or.inr (Wd288 hw)) (by decide) (t := (.object cO)) (t' := (.object cO)) (by decide) (by decide)))), by rw [e8]; exact Fx8⟩
def Q_rm12b (Z : State) (a1 : Addr) (x0 : Addr) (x1 : Addr) (h0 : Heap) (n0 : Nat) (v : Option Value) (h : Heap) (L : List Loc) : Prop := v = none ∧ Fr n0 L ∧ Keep h0 h [a1] ∧ Fld Z h a1 c2 "e0" oO (.ref x0) ∧ Fld Z h a1 c2 "e1" oO (.ref x1)
set_option maxRecDepth 65536 in
set_option maxHeartbeats 40000000 in
theorem rm12b (l : Launch) (Z : State) (a0 : Array Value) (hw : HW a0 Z) (ws : List Jvm.Cond) (a1 : Addr) (x0 : Addr) (x1 : Addr) (h0 : Heap) (n0 : Nat) (Z0 : n0 ≤ h0.size) (E1 : Exa Z h0 a1 c2) (F0 : Fld Z h0 a1 c2 "e0" oO .null) (F1 : Fld Z h0 a1 c2 "e1" oO .null) (g1 : n0 ≤ a1) :
    MetFree l (⟨c2, "<init>", zZ25⟩ : MethodName) (head1 (Jvm.Cond.code (⟨c2, "<init>", zZ25⟩ : MethodName) kQ25 3 none :: ws) (rO 4 0 0 48)) (fun a U => a = #[(.ref a1), (.ref x0), (.ref x1)] ∧ Z.Warmed39 U.vm ∧ U.heap = h0) (fun _ _ _ _ _ => True) (fun _ U o U' => ∃ v L, o = .returned v ∧ Q_rm12b Z a1 x0 x1 h0 n0 v U'.heap L ∧ FrameEnd U o U' L (rO 4 0 0 48).cells (rO 4 0 0 48).slots) := by
  refine MetFree.of_bodySF (plainFor_of_name pn13) hisR ?_
  intro p e s m args below meth c s₁ Bd hml0 hP hK
  obtain ⟨rfl, hZ, hh⟩ := hP
  have hx := Bd.exec
  have hby := Bd.bytes
  have bd : ∀ {pc r}, decode kQ25 pc = r → decode c.code pc = r := fun q => hb hby q
  have hlk : meth.locks = false := Bd.notSynchronized
  have hml : c.maxLocals = 3 := hml0
  have hown : s.vm.findClass c2 = some m.cls := findClass_of_methodNamed Bd.named
  have hnm := (name_of_methodNamed Bd.named Bd.method).1
  have X0 : Stand p l e (rO 4 0 0 48) s m #[(.ref a1), (.ref x0), (.ref x1)] below meth c s₁ [] 0 0 := Stand.of_body Bd
  have e0 : s₁.heap = h0 := by rw [← hh, Bd.state]; rfl
  have N0 := Fr.nil n0
  suffices hgo : OD p e s below (Q_rm12b Z a1 x0 x1 h0 n0) (rO 4 0 0 48).cells (rO 4 0 0 48).slots (s₁.setTop (mkF m 0 #[.val (.ref a1), .val (.ref x0), .val (.ref x1)] [])) by
    obtain ⟨s₂, o, hgo1, hgo2⟩ := hgo
    exact ⟨s₂, o, castTop (ef9 m a1 x0 x1) hgo1, hgo2⟩
  refine OD.go (B := (s₁.setTop (mkF m 1 #[.val (.ref a1), .val (.ref x0), .val (.ref x1)] [(.ref a1)]))) (fun t k => XS.aloadN X0.here hx rfl (bd d49_0) rfl rfl k) ?_
  obtain ⟨_, _, ⟨T1, L1, k1, n1⟩, -, X1, ⟨Lc1, hQ1, l1, y1, z1⟩, st1⟩ := X0.specialBack hx (y := (⟨zZ15, "<init>", "()V"⟩ : MethodName)) rfl hown (mvT hZ (Wd266 hw)) (mvT hZ (Wd267 hw)) (mvT hZ (Wd271 hw)) (by decide) (backOf (W := 0) (rmAIL l Z a0 hw [] a1 h0) hZ (Wd271 hw) (Wd270 hw) (by decide) (by decide)) (g := (mkF m 1 #[.val (.ref a1), .val (.ref x0), .val (.ref x1)] [(.ref a1)])) rfl (by rw [hml]; rfl) (Steps.refl _) (a := a1) (argsL := []) (rest := []) (lenOf pd0 rfl) rfl (by show 2 * 0 + _ ≤ _; exact Nat.le_of_eq rfl) (bd d49_1) (fun _ _ => ⟨rfl, e0, (nl rfl), (nl rfl)⟩)
  dsimp only [Pt.U, Pt.locs, Pt.cells, Pt.slots] at X1 l1 y1 z1 st1 hQ1
  subst l1 y1 z1
  obtain ⟨rfl, rfl, e1⟩ := hQ1
  have N1 := Fr.app N0 (Fr.nil _)
  refine OD.via st1 ?_
  refine OD.go (B := (T1.setTop (mkF m 6 #[.val (.ref a1), .val (.ref x0), .val (.ref x1)] [(.ref x0), (.ref a1)]))) (fun t k => XS.aloadN X1.here hx rfl (bd d49_4) rfl rfl (XS.aloadN X1.here hx rfl (bd d49_5) rfl rfl k)) ?_
  obtain ⟨_, _, ⟨T2, L2, k2, n2⟩, -, X2, ⟨Lc2, hQ2, l2, y2, z2⟩, st2⟩ := Jvm.LawKit.callS X1 hx (y := (⟨"java/util/Objects", "requireNonNull", zZ22⟩ : MethodName)) hown (mvT hZ (Wd280 hw)) (mvT hZ (Wd281 hw)) (mvT hZ (Wd282 hw)) (mvT hZ (Wd283 hw)) (by decide) (backOf (W := 1) (rmRN l Z a0 hw [] x0 h0) hZ (Wd283 hw) (Wd282 hw) (by decide) (by decide)) (g := (mkF m 6 #[.val (.ref a1), .val (.ref x0), .val (.ref x1)] [(.ref x0), (.ref a1)])) rfl (by rw [hml]; rfl) (argsL := [(.ref x0)]) (rest := [(.ref a1)]) (lenOf pd11 rfl) rfl (by show 2 * 0 + _ ≤ _; exact Nat.le_of_eq rfl) (bd d49_6) (fun _ _ => ⟨rfl, e1, (nl rfl), (nl rfl)⟩)
  dsimp only [Pt.U, Pt.locs, Pt.cells, Pt.slots] at X2 l2 y2 z2 st2 hQ2
  subst l2 y2 z2
  obtain ⟨rfl, rfl, e2⟩ := hQ2
  have N2 := Fr.app N1 (Fr.nil _)
  refine OD.go (B := (T2.setTop (mkF m 9 #[.val (.ref a1), .val (.ref x0), .val (.ref x1)] [(.ref x0), (.ref a1)]))) st2 ?_
  obtain ⟨T3, h3, X3, e3, W3, st3⟩ := putF X2 hx hZ hown (host := "") (Or.inl (Wd284 hw)) Via.refl e2 F0 E1 (Or.inr ⟨(Wd285 hw), rfl, hnm⟩) (Wd260 hw) (ty := (.object cO)) (by decide) rfl rfl (g := (mkF m 9 #[.val (.ref a1), .val (.ref x0), .val (.ref x1)] [(.ref x0), (.ref a1)])) rfl rfl (bd d49_9)
  have Fx3 := F0.same W3
  have N3 := Fr.snoc X3 N2 g1
  refine OD.go st3 ?_
  refine OD.go (B := (T3.setTop (mkF m 14 #[.val (.ref a1), .val (.ref x0), .val (.ref x1)] [(.ref x1), (.ref a1)]))) (fun t k => XS.aloadN X3.here hx rfl (bd d49_12) rfl rfl (XS.aloadN X3.here hx rfl (bd d49_13) rfl rfl k)) ?_
  obtain ⟨_, _, ⟨T4, L4, k4, n4⟩, -, X4, ⟨Lc4, hQ4, l4, y4, z4⟩, st4⟩ := Jvm.LawKit.callS X3 hx (y := (⟨"java/util/Objects", "requireNonNull", zZ22⟩ : MethodName)) hown (mvT hZ (Wd280 hw)) (mvT hZ (Wd281 hw)) (mvT hZ (Wd282 hw)) (mvT hZ (Wd283 hw)) (by decide) (backOf (W := 1) (rmRN l Z a0 hw [] x1 h3) hZ (Wd283 hw) (Wd282 hw) (by decide) (by decide)) (g := (mkF m 14 #[.val (.ref a1), .val (.ref x0), .val (.ref x1)] [(.ref x1), (.ref a1)])) rfl (by rw [hml]; rfl) (argsL := [(.ref x1)]) (rest := [(.ref a1)]) (lenOf pd11 rfl) rfl (by show 2 * 0 + _ ≤ _; exact Nat.le_of_eq rfl) (bd d49_14) (fun _ _ => ⟨rfl, e3, (nl rfl), (nl rfl)⟩)
  dsimp only [Pt.U, Pt.locs, Pt.cells, Pt.slots] at X4 l4 y4 z4 st4 hQ4
  subst l4 y4 z4
  obtain ⟨rfl, rfl, e4⟩ := hQ4
  have N4 := Fr.app N3 (Fr.nil _)
  refine OD.go (B := (T4.setTop (mkF m 17 #[.val (.ref a1), .val (.ref x0), .val (.ref x1)] [(.ref x1), (.ref a1)]))) st4 ?_
  have f5 := (F1.other W3 (Or.inr (slot_ne (Or.inr (Wd288 hw)) (Or.inr (Wd285 hw)) (by decide) (t := (.object cO)) (t' := (.object cO)) (by decide) (by decide))))
  have f6 := (E1.wr W3)
  obtain ⟨T7, h7, X7, e7, W7, st7⟩ := putF X4 hx hZ hown (host := "") (Or.inl (Wd287 hw)) Via.refl e4 f5 f6 (Or.inr ⟨(Wd288 hw), rfl, hnm⟩) (Wd260 hw) (ty := (.object cO)) (by decide) rfl rfl (g := (mkF m 17 #[.val (.ref a1), .val (.ref x0), .val (.ref x1)] [(.ref x1), (.ref a1)])) rfl rfl (bd d49_17)
  have Fx7 := f5.same W7
  have N7 := Fr.snoc X7 N4 g1
  refine OD.go (B := (T7.setTop (mkF m 20 #[.val (.ref a1), .val (.ref x0), .val (.ref x1)] []))) st7 ?_
  exact OD.retV X7 hx hlk Bd.returns (bd d49_20) (nl rfl) (nl rfl) ⟨rfl, N7, by rw [e7]; exact (((Keep.refl h0 [a1]).wr W3 (Or.inl (List.mem_of_getElem? (i := 0) rfl))).wr W7 (Or.inl (List.mem_of_getElem? (i := 0) rfl))), by rw [e7]; exact (Fx3.other W7 (Or.inr (slot_ne (Or.inr (Wd285 hw)) (Or.inr (Wd288 hw)) (by decide) (t := (.object cO)) (t' := (.object cO)) (by decide) (by decide)))), by rw [e7]; exact Fx7⟩
def Q_rmLO_1 (Z : State) (ar : Addr) (h0 : Heap) (n0 : Nat) (x0 : Addr) (em : Addr) (v : Option Value) (h : Heap) (L : List Loc) : Prop := ∃ b, v = some (.ref b) ∧ Fr n0 L ∧ Keep h0 h [] ∧ h0.size ≤ b ∧ Exa Z h b c2 ∧ Fld Z h b c2 "e0" oO (.ref x0) ∧ Fld Z h b c2 "e1" oO (.ref em)
set_option maxRecDepth 65536 in
set_option maxHeartbeats 40000000 in
theorem rmLO_1 (l : Launch) (Z : State) (a0 : Array Value) (hw : HW a0 Z) (ws : List Jvm.Cond) (ar : Addr) (h0 : Heap) (n0 : Nat) (Z0 : n0 ≤ h0.size) (X00 : Old Z n0 h0) (x0 : Addr) (Ex0 : Exa Z h0 x0 "java/lang/String") (ka : ClassId) (Aa : Arv Z h0 ar ka (.object cO) (1 : Int32) [(.ref x0)] .null) (Oa : OvO Z ka) (em : Addr) (Sm : Sta Z Z.heap cI "EMPTY" oO (.ref em)) :
    MetFree l (⟨"java/util/List", "of", zZ19⟩ : MethodName) (head1 (Jvm.Cond.code (⟨"java/util/List", "of", zZ19⟩ : MethodName) kQ26 2 (some (.object "java/util/List")) :: ws) (rO 5 1 2 63)) (fun a U => a = #[(.ref ar)] ∧ Z.Warmed39 U.vm ∧ U.heap = h0) (fun _ _ _ _ _ => True) (fun _ U o U' => ∃ v L, o = .returned v ∧ Q_rmLO_1 Z ar h0 n0 x0 em v U'.heap L ∧ FrameEnd U o U' L (rO 5 1 2 63).cells (rO 5 1 2 63).slots) := by
  refine MetFree.of_bodySF (plainFor_of_name pn14) hisR ?_
  intro p e s m args below meth c s₁ Bd hml0 hP hK
  obtain ⟨rfl, hZ, hh⟩ := hP
  have hx := Bd.exec
  have hby := Bd.bytes
  have bd : ∀ {pc r}, decode kQ26 pc = r → decode c.code pc = r := fun q => hb hby q
  have hlk : meth.locks = false := Bd.notSynchronized
  have hml : c.maxLocals = 2 := hml0
  have hown : s.vm.findClass "java/util/List" = some m.cls := findClass_of_methodNamed Bd.named
  have hnm := (name_of_methodNamed Bd.named Bd.method).1
  have X0 : Stand p l e (rO 5 1 2 63) s m #[(.ref ar)] below meth c s₁ [] 0 0 := Stand.of_body Bd
  have e0 : s₁.heap = h0 := by rw [← hh, Bd.state]; rfl
  have N0 := Fr.nil n0
  suffices hgo : OD p e s below (Q_rmLO_1 Z ar h0 n0 x0 em) (rO 5 1 2 63).cells (rO 5 1 2 63).slots (s₁.setTop (mkF m 0 #[.val (.ref ar), .unset] [])) by
    obtain ⟨s₂, o, hgo1, hgo2⟩ := hgo
    exact ⟨s₂, o, castTop (ef10 m ar) hgo1, hgo2⟩
  refine OD.go (B := (s₁.setTop (mkF m 1 #[.val (.ref ar), .unset] [(.ref ar)]))) (fun t k => XS.aloadN X0.here hx rfl (bd d40_0) rfl rfl k) ?_
  obtain ⟨cl1, Ar1, hl1⟩ := own_len Aa
  refine OD.go (B := (s₁.setTop (mkF m 2 #[.val (.ref ar), .unset] [(.int 1)]))) (fun t k => X0.arraylength hx (by rw [e0]; exact Ar1.1) (State.isArrayOf_alike hZ.alike Ar1.2.1) (g := (mkF m 1 #[.val (.ref ar), .unset] [(.ref ar)])) rfl rfl (bd d40_1) _ (by rw [hl1]; exact k)) ?_
  refine OD.go (B := (s₁.setTop (mkF m 34 #[.val (.ref ar), .unset] []))) (fun t k => XS.tswIn X0.here hx rfl (o := 32) (pc0 := 2) (pc' := 34) rfl (bd d40_2) rfl (by decide) (by decide) (by decide) (by decide) k) ?_
  obtain ⟨T2, h2, X2, e2, E2, A2, D2, -, st2⟩ := newO X0 hx hZ hown (Wd259 hw) (Wd260 hw) (Wd261 hw) e0 (g := (mkF m 34 #[.val (.ref ar), .unset] [])) rfl (bd d40_34) (nl rfl) (nl rfl)
  obtain ⟨b2, g2⟩ : ∃ z, z = h0.size := ⟨_, rfl⟩
  rw [← g2] at A2 D2 st2
  have Fn3 : Fld Z h2 b2 c2 "e0" oO .null := D2 (Or.inr (Wd285 hw)) (ty := (.object cO)) (by decide)
  have Fn4 : Fld Z h2 b2 c2 "e1" oO .null := D2 (Or.inr (Wd288 hw)) (ty := (.object cO)) (by decide)
  refine OD.go st2 ?_
  refine OD.go (B := (T2.setTop (mkF m 40 #[.val (.ref ar), .unset] [(.int 0), (.ref ar), (.ref b2), (.ref b2)]))) (fun t k => XS.dup X2.here hx rfl (bd d40_37) rfl rfl (XS.aloadN X2.here hx rfl (bd d40_38) rfl rfl (XS.iconst X2.here hx rfl (bd d40_39) k))) ?_
  have f5 := (Aa.ext E2)
  obtain ⟨cl6, Ar6, hi6, ha6⟩ := own_at f5 (j := (0 : Int32)) (v := (.ref x0)) ⟨by decide, by decide⟩ rfl
  refine OD.go (B := (T2.setTop (mkF m 41 #[.val (.ref ar), .unset] [(.ref x0), (.ref b2), (.ref b2)]))) (fun t k => X2.aaload hx (j := (0 : Int32)) (v := (.ref x0)) (by rw [e2]; exact Ar6.1) (State.isArrayOf_alike hZ.alike Ar6.2.1) rfl Ar6.2.2 hi6 ha6 (g := (mkF m 40 #[.val (.ref ar), .unset] [(.int 0), (.ref ar), (.ref b2), (.ref b2)])) rfl rfl (bd d40_40) _ k) ?_
  obtain ⟨_, _, ⟨T7, L7, k7, n7⟩, -, X7, ⟨Lc7, hQ7, l7, y7, z7⟩, st7⟩ := X2.specialBack hx (y := (⟨c2, "<init>", "(Ljava/lang/Object;)V"⟩ : MethodName)) rfl hown (mvT hZ (Wd262 hw)) (mvT hZ (Wd263 hw)) (mvT hZ (Wd265 hw)) (by decide) (backOf (W := 1) (rm12a l Z a0 hw [] b2 x0 h2 n0 (Nat.le_trans Z0 E2.1) A2 Fn3 Fn4 (Nat.le_trans Z0 (Nat.le_of_eq g2.symm)) (X00.ext E2) em Sm) hZ (Wd265 hw) (Wd261 hw) (by decide) (by decide)) (g := (mkF m 41 #[.val (.ref ar), .unset] [(.ref x0), (.ref b2), (.ref b2)])) rfl (by rw [hml]; rfl) (Steps.refl _) (a := b2) (argsL := [(.ref x0)]) (rest := [(.ref b2)]) (lenOf pd12 rfl) rfl (by show 2 * 0 + _ ≤ _; exact Nat.le_of_eq rfl) (bd d40_41) (fun _ _ => ⟨rfl, e2, (nl rfl), (nl rfl)⟩)
  dsimp only [Pt.U, Pt.locs, Pt.cells, Pt.slots] at X7 l7 y7 z7 st7 hQ7
  subst l7 y7 z7
  obtain ⟨rfl, Nq7, K7, G0_7, G1_7⟩ := hQ7
  have N7 := Fr.app N0 Nq7
  refine OD.via (B := (T7.setTop (mkF m 44 #[.val (.ref ar), .unset] [(.ref b2)]))) st7 ?_
  exact OD.ret X7 hx hlk (t := (.object "java/util/List")) Bd.returns rfl (Or.inr (Or.inr (Or.inr (Or.inr ⟨rfl, rfl, rfl⟩)))) (bd d40_44) (nl rfl) (nl rfl) ⟨_, rfl, N7, by exact (((Keep.refl h0 []).ext E2).trans K7 (allS (Or.inr (Nat.le_trans (Nat.le_refl _) (Nat.le_of_eq g2.symm))) all0)), (Nat.le_trans (Nat.le_refl _) (Nat.le_of_eq g2.symm)), by exact (A2.keep K7), by exact G0_7, by exact G1_7⟩
def Q_rmLO_2 (Z : State) (ar : Addr) (h0 : Heap) (n0 : Nat) (x0 : Addr) (x1 : Addr) (v : Option Value) (h : Heap) (L : List Loc) : Prop := ∃ b, v = some (.ref b) ∧ Fr n0 L ∧ Keep h0 h [] ∧ h0.size ≤ b ∧ Exa Z h b c2 ∧ Fld Z h b c2 "e0" oO (.ref x0) ∧ Fld Z h b c2 "e1" oO (.ref x1)
set_option maxRecDepth 65536 in
set_option maxHeartbeats 40000000 in
theorem rmLO_2 (l : Launch) (Z : State) (a0 : Array Value) (hw : HW a0 Z) (ws : List Jvm.Cond) (ar : Addr) (h0 : Heap) (n0 : Nat) (Z0 : n0 ≤ h0.size) (X00 : Old Z n0 h0) (x0 : Addr) (Ex0 : Exa Z h0 x0 "java/lang/String") (x1 : Addr) (Ex1 : Exa Z h0 x1 "java/lang/String") (ka : ClassId) (Aa : Arv Z h0 ar ka (.object cO) (2 : Int32) [(.ref x0), (.ref x1)] .null) (Oa : OvO Z ka) (em : Addr) (Sm : Sta Z Z.heap cI "EMPTY" oO (.ref em)) :
    MetFree l (⟨"java/util/List", "of", zZ19⟩ : MethodName) (head1 (Jvm.Cond.code (⟨"java/util/List", "of", zZ19⟩ : MethodName) kQ26 2 (some (.object "java/util/List")) :: ws) (rO 5 1 2 63)) (fun a U => a = #[(.ref ar)] ∧ Z.Warmed39 U.vm ∧ U.heap = h0) (fun _ _ _ _ _ => True) (fun _ U o U' => ∃ v L, o = .returned v ∧ Q_rmLO_2 Z ar h0 n0 x0 x1 v U'.heap L ∧ FrameEnd U o U' L (rO 5 1 2 63).cells (rO 5 1 2 63).slots) := by
  refine MetFree.of_bodySF (plainFor_of_name pn14) hisR ?_
  intro p e s m args below meth c s₁ Bd hml0 hP hK
  obtain ⟨rfl, hZ, hh⟩ := hP
  have hx := Bd.exec
  have hby := Bd.bytes
  have bd : ∀ {pc r}, decode kQ26 pc = r → decode c.code pc = r := fun q => hb hby q
  have hlk : meth.locks = false := Bd.notSynchronized
  have hml : c.maxLocals = 2 := hml0
  have hown : s.vm.findClass "java/util/List" = some m.cls := findClass_of_methodNamed Bd.named
  have hnm := (name_of_methodNamed Bd.named Bd.method).1
  have X0 : Stand p l e (rO 5 1 2 63) s m #[(.ref ar)] below meth c s₁ [] 0 0 := Stand.of_body Bd
  have e0 : s₁.heap = h0 := by rw [← hh, Bd.state]; rfl
  have N0 := Fr.nil n0
  suffices hgo : OD p e s below (Q_rmLO_2 Z ar h0 n0 x0 x1) (rO 5 1 2 63).cells (rO 5 1 2 63).slots (s₁.setTop (mkF m 0 #[.val (.ref ar), .unset] [])) by
    obtain ⟨s₂, o, hgo1, hgo2⟩ := hgo
    exact ⟨s₂, o, castTop (ef10 m ar) hgo1, hgo2⟩
  refine OD.go (B := (s₁.setTop (mkF m 1 #[.val (.ref ar), .unset] [(.ref ar)]))) (fun t k => XS.aloadN X0.here hx rfl (bd d40_0) rfl rfl k) ?_
  obtain ⟨cl1, Ar1, hl1⟩ := own_len Aa
  refine OD.go (B := (s₁.setTop (mkF m 2 #[.val (.ref ar), .unset] [(.int 2)]))) (fun t k => X0.arraylength hx (by rw [e0]; exact Ar1.1) (State.isArrayOf_alike hZ.alike Ar1.2.1) (g := (mkF m 1 #[.val (.ref ar), .unset] [(.ref ar)])) rfl rfl (bd d40_1) _ (by rw [hl1]; exact k)) ?_
  refine OD.go (B := (s₁.setTop (mkF m 45 #[.val (.ref ar), .unset] []))) (fun t k => XS.tswIn X0.here hx rfl (o := 43) (pc0 := 2) (pc' := 45) rfl (bd d40_2) rfl (by decide) (by decide) (by decide) (by decide) k) ?_
  obtain ⟨T2, h2, X2, e2, E2, A2, D2, -, st2⟩ := newO X0 hx hZ hown (Wd259 hw) (Wd260 hw) (Wd261 hw) e0 (g := (mkF m 45 #[.val (.ref ar), .unset] [])) rfl (bd d40_45) (nl rfl) (nl rfl)
  obtain ⟨b2, g2⟩ : ∃ z, z = h0.size := ⟨_, rfl⟩
  rw [← g2] at A2 D2 st2
  have Fn3 : Fld Z h2 b2 c2 "e0" oO .null := D2 (Or.inr (Wd285 hw)) (ty := (.object cO)) (by decide)
  have Fn4 : Fld Z h2 b2 c2 "e1" oO .null := D2 (Or.inr (Wd288 hw)) (ty := (.object cO)) (by decide)
  refine OD.go st2 ?_
  refine OD.go (B := (T2.setTop (mkF m 51 #[.val (.ref ar), .unset] [(.int 0), (.ref ar), (.ref b2), (.ref b2)]))) (fun t k => XS.dup X2.here hx rfl (bd d40_48) rfl rfl (XS.aloadN X2.here hx rfl (bd d40_49) rfl rfl (XS.iconst X2.here hx rfl (bd d40_50) k))) ?_
  have f5 := (Aa.ext E2)
  obtain ⟨cl6, Ar6, hi6, ha6⟩ := own_at f5 (j := (0 : Int32)) (v := (.ref x0)) ⟨by decide, by decide⟩ rfl
  refine OD.go (B := (T2.setTop (mkF m 54 #[.val (.ref ar), .unset] [(.int 1), (.ref ar), (.ref x0), (.ref b2), (.ref b2)]))) (fun t k => X2.aaload hx (j := (0 : Int32)) (v := (.ref x0)) (by rw [e2]; exact Ar6.1) (State.isArrayOf_alike hZ.alike Ar6.2.1) rfl Ar6.2.2 hi6 ha6 (g := (mkF m 51 #[.val (.ref ar), .unset] [(.int 0), (.ref ar), (.ref b2), (.ref b2)])) rfl rfl (bd d40_51) _ (XS.aloadN X2.here hx rfl (bd d40_52) rfl rfl (XS.iconst X2.here hx rfl (bd d40_53) k))) ?_
  obtain ⟨cl7, Ar7, hi7, ha7⟩ := own_at f5 (j := (1 : Int32)) (v := (.ref x1)) ⟨by decide, by decide⟩ rfl
  refine OD.go (B := (T2.setTop (mkF m 55 #[.val (.ref ar), .unset] [(.ref x1), (.ref x0), (.ref b2), (.ref b2)]))) (fun t k => X2.aaload hx (j := (1 : Int32)) (v := (.ref x1)) (by rw [e2]; exact Ar7.1) (State.isArrayOf_alike hZ.alike Ar7.2.1) rfl Ar7.2.2 hi7 ha7 (g := (mkF m 54 #[.val (.ref ar), .unset] [(.int 1), (.ref ar), (.ref x0), (.ref b2), (.ref b2)])) rfl rfl (bd d40_54) _ k) ?_
  obtain ⟨_, _, ⟨T8, L8, k8, n8⟩, -, X8, ⟨Lc8, hQ8, l8, y8, z8⟩, st8⟩ := X2.specialBack hx (y := (⟨c2, "<init>", zZ25⟩ : MethodName)) rfl hown (mvT hZ (Wd320 hw)) (mvT hZ (Wd321 hw)) (mvT hZ (Wd322 hw)) (by decide) (backOf (W := 1) (rm12b l Z a0 hw [] b2 x0 x1 h2 n0 (Nat.le_trans Z0 E2.1) A2 Fn3 Fn4 (Nat.le_trans Z0 (Nat.le_of_eq g2.symm))) hZ (Wd322 hw) (Wd261 hw) (by decide) (by decide)) (g := (mkF m 55 #[.val (.ref ar), .unset] [(.ref x1), (.ref x0), (.ref b2), (.ref b2)])) rfl (by rw [hml]; rfl) (Steps.refl _) (a := b2) (argsL := [(.ref x0), (.ref x1)]) (rest := [(.ref b2)]) (lenOf pd13 rfl) rfl (by show 2 * 0 + _ ≤ _; exact Nat.le_of_eq rfl) (bd d40_55) (fun _ _ => ⟨rfl, e2, (nl rfl), (nl rfl)⟩)
  dsimp only [Pt.U, Pt.locs, Pt.cells, Pt.slots] at X8 l8 y8 z8 st8 hQ8
  subst l8 y8 z8
  obtain ⟨rfl, Nq8, K8, G0_8, G1_8⟩ := hQ8
  have N8 := Fr.app N0 Nq8
  refine OD.via (B := (T8.setTop (mkF m 58 #[.val (.ref ar), .unset] [(.ref b2)]))) st8 ?_
  exact OD.ret X8 hx hlk (t := (.object "java/util/List")) Bd.returns rfl (Or.inr (Or.inr (Or.inr (Or.inr ⟨rfl, rfl, rfl⟩)))) (bd d40_58) (nl rfl) (nl rfl) ⟨_, rfl, N8, by exact (((Keep.refl h0 []).ext E2).trans K8 (allS (Or.inr (Nat.le_trans (Nat.le_refl _) (Nat.le_of_eq g2.symm))) all0)), (Nat.le_trans (Nat.le_refl _) (Nat.le_of_eq g2.symm)), by exact (A2.keep K8), by exact G0_8, by exact G1_8⟩
def Q_rmLO0 (Z : State) (h0 : Heap) (el : Addr) (v : Option Value) (h : Heap) (L : List Loc) : Prop := v = some (.ref el) ∧ L = [] ∧ h = h0
set_option maxRecDepth 65536 in
set_option maxHeartbeats 40000000 in
theorem rmLO0 (l : Launch) (Z : State) (a0 : Array Value) (hw : HW a0 Z) (ws : List Jvm.Cond)  (h0 : Heap) (n0 : Nat) (X00 : Old Z n0 h0) (el ea : Addr) (kE : ClassId) (Se : Sta Z Z.heap cI "EMPTY_LIST" zZ12 (.ref el)) (Ee : Exa Z Z.heap el cN) (Fa : Fld Z Z.heap el cN "allowNulls" "Z" (.int 0)) (Fel : Fld Z Z.heap el cN "elements" "[Ljava/lang/Object;" (.ref ea)) (Ae : Arv Z Z.heap ea kE (.object cO) (0 : Int32) [] .null) :
    MetFree l (⟨"java/util/List", "of", "()Ljava/util/List;"⟩ : MethodName) (head1 (Jvm.Cond.code (⟨"java/util/List", "of", "()Ljava/util/List;"⟩ : MethodName) kQ27 0 (some (.object "java/util/List")) :: ws) (rO 0 0 0 0)) (fun a U => a = #[] ∧ Z.Warmed39 U.vm ∧ U.heap = h0) (fun _ _ _ _ _ => True) (fun _ U o U' => ∃ v L, o = .returned v ∧ Q_rmLO0 Z h0 el v U'.heap L ∧ FrameEnd U o U' L (rO 0 0 0 0).cells (rO 0 0 0 0).slots) := by
  refine MetFree.of_bodySF (plainFor_of_name pn14) hisR ?_
  intro p e s m args below meth c s₁ Bd hml0 hP hK
  obtain ⟨rfl, hZ, hh⟩ := hP
  have hx := Bd.exec
  have hby := Bd.bytes
  have bd : ∀ {pc r}, decode kQ27 pc = r → decode c.code pc = r := fun q => hb hby q
  have hlk : meth.locks = false := Bd.notSynchronized
  have hml : c.maxLocals = 0 := hml0
  have hown : s.vm.findClass "java/util/List" = some m.cls := findClass_of_methodNamed Bd.named
  have hnm := (name_of_methodNamed Bd.named Bd.method).1
  have X0 : Stand p l e (rO 0 0 0 0) s m #[] below meth c s₁ [] 0 0 := Stand.of_body Bd
  have e0 : s₁.heap = h0 := by rw [← hh, Bd.state]; rfl
  suffices hgo : OD p e s below (Q_rmLO0 Z h0 el) (rO 0 0 0 0).cells (rO 0 0 0 0).slots (s₁.setTop (mkF m 0 #[] [])) by
    obtain ⟨s₂, o, hgo1, hgo2⟩ := hgo
    exact ⟨s₂, o, castTop (ef11 m ) hgo1, hgo2⟩
  have f1 := (Se.ext X00.2)
  obtain ⟨T2, X2, e2, st2⟩ := getS2 X0 hx hZ hown (host := "") (Or.inl (Wd118 hw)) Via.refl e0 f1 (g := (mkF m 0 #[] [])) rfl (bd d21_0)
  refine OD.go (B := (T2.setTop (mkF m 3 #[] [(.ref el)]))) st2 ?_
  exact OD.ret X2 hx hlk (t := (.object "java/util/List")) Bd.returns rfl (Or.inr (Or.inr (Or.inr (Or.inr ⟨rfl, rfl, rfl⟩)))) (bd d21_3) (nl rfl) (nl rfl) ⟨rfl, rfl, e2⟩
def Q_rmLC_E (Z : State) (el : Addr) (h0 : Heap) (v : Option Value) (h : Heap) (L : List Loc) : Prop := v = some (.ref el) ∧ L = [] ∧ h = h0
set_option maxRecDepth 65536 in
set_option maxHeartbeats 40000000 in
theorem rmLC_E (l : Launch) (Z : State) (a0 : Array Value) (hw : HW a0 Z) (ws : List Jvm.Cond) (el : Addr) (h0 : Heap) (n0 : Nat) (Z0 : n0 ≤ h0.size) (X00 : Old Z n0 h0) (ea : Addr) (kE : ClassId) (Se : Sta Z Z.heap cI "EMPTY_LIST" zZ12 (.ref el)) (Ee : Exa Z Z.heap el cN) (Fa : Fld Z Z.heap el cN "allowNulls" "Z" (.int 0)) (Fel : Fld Z Z.heap el cN "elements" "[Ljava/lang/Object;" (.ref ea)) (Ae : Arv Z Z.heap ea kE (.object cO) (0 : Int32) [] .null) :
    MetFree l (⟨cI, "listCopy", zZ2⟩ : MethodName) (head1 (Jvm.Cond.code (⟨cI, "listCopy", zZ2⟩ : MethodName) kQ28 2 (some (.object "java/util/List")) :: ws) (rO 0 0 0 0)) (fun a U => a = #[(.ref el)] ∧ Z.Warmed39 U.vm ∧ U.heap = h0) (fun _ _ _ _ _ => True) (fun _ U o U' => ∃ v L, o = .returned v ∧ Q_rmLC_E Z el h0 v U'.heap L ∧ FrameEnd U o U' L (rO 0 0 0 0).cells (rO 0 0 0 0).slots) := by
  refine MetFree.of_bodySF (plainFor_of_name pn15) hisR ?_
  intro p e s m args below meth c s₁ Bd hml0 hP hK
  obtain ⟨rfl, hZ, hh⟩ := hP
  have hx := Bd.exec
  have hby := Bd.bytes
  have bd : ∀ {pc r}, decode kQ28 pc = r → decode c.code pc = r := fun q => hb hby q
  have hlk : meth.locks = false := Bd.notSynchronized
  have hml : c.maxLocals = 2 := hml0
  have hown : s.vm.findClass cI = some m.cls := findClass_of_methodNamed Bd.named
  have hnm := (name_of_methodNamed Bd.named Bd.method).1
  have X0 : Stand p l e (rO 0 0 0 0) s m #[(.ref el)] below meth c s₁ [] 0 0 := Stand.of_body Bd
  have e0 : s₁.heap = h0 := by rw [← hh, Bd.state]; rfl
  suffices hgo : OD p e s below (Q_rmLC_E Z el h0) (rO 0 0 0 0).cells (rO 0 0 0 0).slots (s₁.setTop (mkF m 0 #[.val (.ref el), .unset] [])) by
    obtain ⟨s₂, o, hgo1, hgo2⟩ := hgo
    exact ⟨s₂, o, castTop (ef10 m el) hgo1, hgo2⟩
  refine OD.go (B := (s₁.setTop (mkF m 1 #[.val (.ref el), .unset] [(.ref el)]))) (fun t k => XS.aloadN X0.here hx rfl (bd d19_0) rfl rfl k) ?_
  have f1 := (Ee.ext X00.2)
  rcases own_inst X0 hZ hown (Wd98 hw) f1 with I2 | I2
  · skip
    obtain ⟨T2, X2, e2, st2⟩ := instY X0 hx hZ hown (Wd98 hw) e0 I2 (g := (mkF m 1 #[.val (.ref el), .unset] [(.ref el)])) rfl rfl (bd d19_1)
    refine OD.go st2 ?_
    refine OD.go (B := (T2.setTop (mkF m 27 #[.val (.ref el), .unset] [(.ref el)]))) (fun t k => XS.ifYes X2.here hx rfl (pc0 := 4) (pc' := 26) rfl (bd d19_4) rfl (by rw [if0]; exact (feq (by decide : ¬ (1 : Int32) = (0 : Int32))).2) (by decide) (by decide) (XS.aloadN X2.here hx rfl (bd d19_26) rfl rfl k)) ?_
    have f3 := (Ee.ext X00.2)
    obtain ⟨T4, X4, e4, st4⟩ := castY X2 hx hZ hown (Wd143 hw) e2 (Ins.of_exa f3 (Wd144 hw)) (g := (mkF m 27 #[.val (.ref el), .unset] [(.ref el)])) rfl rfl (bd d19_27)
    refine OD.go (B := (T4.setTop (mkF m 30 #[.val (.ref el), .unset] [(.ref el)]))) st4 ?_
    exact OD.ret X4 hx hlk (t := (.object "java/util/List")) Bd.returns rfl (Or.inr (Or.inr (Or.inr (Or.inr ⟨rfl, rfl, rfl⟩)))) (bd d19_30) (nl rfl) (nl rfl) ⟨rfl, rfl, e4⟩
  · skip
    obtain ⟨T2, X2, e2, st2⟩ := instNo X0 hx hZ hown (Wd98 hw) e0 f1 I2 (g := (mkF m 1 #[.val (.ref el), .unset] [(.ref el)])) rfl rfl (bd d19_1)
    refine OD.go st2 ?_
    refine OD.go (B := (T2.setTop (mkF m 8 #[.val (.ref el), .unset] [(.ref el)]))) (fun t k => XS.ifNo X2.here hx rfl (bd d19_4) rfl (by rw [if0]; exact (teq (by decide : (0 : Int32) = (0 : Int32))).2) (XS.aloadN X2.here hx rfl (bd d19_7) rfl rfl k)) ?_
    have f5 := (Ee.ext X00.2)
    obtain ⟨T6, X6, e6, st6⟩ := instY X2 hx hZ hown (Wd103 hw) e2 (Ins.self f5) (g := (mkF m 8 #[.val (.ref el), .unset] [(.ref el)])) rfl rfl (bd d19_8)
    refine OD.go st6 ?_
    refine OD.go (B := (T6.setTop (mkF m 15 #[.val (.ref el), .unset] [(.ref el)]))) (fun t k => XS.ifNo X6.here hx rfl (bd d19_11) rfl (by rw [if0]; exact (feq (by decide : ¬ (1 : Int32) = (0 : Int32))).1) (XS.aloadN X6.here hx rfl (bd d19_14) rfl rfl k)) ?_
    have f7 := (Ee.ext X00.2)
    obtain ⟨T8, X8, e8, st8⟩ := castY X6 hx hZ hown (Wd103 hw) e6 (Ins.self f7) (g := (mkF m 15 #[.val (.ref el), .unset] [(.ref el)])) rfl rfl (bd d19_15)
    refine OD.go st8 ?_
    refine OD.go (B := (T8.setTop (mkF m 20 #[.val (.ref el), .val (.ref el)] [(.ref el)]))) (fun t k => XS.astoreN X8.here hx rfl (bd d19_18) rfl rfl (l' := #[.val (.ref el), .val (.ref el)]) rfl (XS.aloadN X8.here hx rfl (bd d19_19) rfl rfl k)) ?_
    have f9 := (Fa.ext X00.2)
    obtain ⟨T10, X10, e10, st10⟩ := getF X8 hx hZ hown (Or.inr (Wd141 hw)) Via.refl e8 f9 (g := (mkF m 20 #[.val (.ref el), .val (.ref el)] [(.ref el)])) rfl rfl (bd d19_20)
    refine OD.go st10 ?_
    refine OD.go (B := (T10.setTop (mkF m 27 #[.val (.ref el), .val (.ref el)] [(.ref el)]))) (fun t k => XS.ifNo X10.here hx rfl (bd d19_23) rfl (by rw [if0]; exact (teq (by decide : (0 : Int32) = (0 : Int32))).2) (XS.aloadN X10.here hx rfl (bd d19_26) rfl rfl k)) ?_
    have f11 := (Ee.ext X00.2)
    obtain ⟨T12, X12, e12, st12⟩ := castY X10 hx hZ hown (Wd143 hw) e10 (Ins.of_exa f11 (Wd144 hw)) (g := (mkF m 27 #[.val (.ref el), .val (.ref el)] [(.ref el)])) rfl rfl (bd d19_27)
    refine OD.go (B := (T12.setTop (mkF m 30 #[.val (.ref el), .val (.ref el)] [(.ref el)]))) st12 ?_
    exact OD.ret X12 hx hlk (t := (.object "java/util/List")) Bd.returns rfl (Or.inr (Or.inr (Or.inr (Or.inr ⟨rfl, rfl, rfl⟩)))) (bd d19_30) (nl rfl) (nl rfl) ⟨rfl, rfl, e12⟩
def Q_rmLC_L (Z : State) (lb : Addr) (h0 : Heap) (v : Option Value) (h : Heap) (L : List Loc) : Prop := v = some (.ref lb) ∧ L = [] ∧ h = h0
set_option maxRecDepth 65536 in
set_option maxHeartbeats 40000000 in
theorem rmLC_L (l : Launch) (Z : State) (a0 : Array Value) (hw : HW a0 Z) (ws : List Jvm.Cond) (lb : Addr) (h0 : Heap) (n0 : Nat) (Z0 : n0 ≤ h0.size) (X00 : Old Z n0 h0) (El : Exa Z h0 lb c2) :
    MetFree l (⟨cI, "listCopy", zZ2⟩ : MethodName) (head1 (Jvm.Cond.code (⟨cI, "listCopy", zZ2⟩ : MethodName) kQ28 2 (some (.object "java/util/List")) :: ws) (rO 0 0 0 0)) (fun a U => a = #[(.ref lb)] ∧ Z.Warmed39 U.vm ∧ U.heap = h0) (fun _ _ _ _ _ => True) (fun _ U o U' => ∃ v L, o = .returned v ∧ Q_rmLC_L Z lb h0 v U'.heap L ∧ FrameEnd U o U' L (rO 0 0 0 0).cells (rO 0 0 0 0).slots) := by
  refine MetFree.of_bodySF (plainFor_of_name pn15) hisR ?_
  intro p e s m args below meth c s₁ Bd hml0 hP hK
  obtain ⟨rfl, hZ, hh⟩ := hP
  have hx := Bd.exec
  have hby := Bd.bytes
  have bd : ∀ {pc r}, decode kQ28 pc = r → decode c.code pc = r := fun q => hb hby q
  have hlk : meth.locks = false := Bd.notSynchronized
  have hml : c.maxLocals = 2 := hml0
  have hown : s.vm.findClass cI = some m.cls := findClass_of_methodNamed Bd.named
  have hnm := (name_of_methodNamed Bd.named Bd.method).1
  have X0 : Stand p l e (rO 0 0 0 0) s m #[(.ref lb)] below meth c s₁ [] 0 0 := Stand.of_body Bd
  have e0 : s₁.heap = h0 := by rw [← hh, Bd.state]; rfl
  suffices hgo : OD p e s below (Q_rmLC_L Z lb h0) (rO 0 0 0 0).cells (rO 0 0 0 0).slots (s₁.setTop (mkF m 0 #[.val (.ref lb), .unset] [])) by
    obtain ⟨s₂, o, hgo1, hgo2⟩ := hgo
    exact ⟨s₂, o, castTop (ef10 m lb) hgo1, hgo2⟩
  refine OD.go (B := (s₁.setTop (mkF m 1 #[.val (.ref lb), .unset] [(.ref lb)]))) (fun t k => XS.aloadN X0.here hx rfl (bd d19_0) rfl rfl k) ?_
  obtain ⟨T1, X1, e1, st1⟩ := instY X0 hx hZ hown (Wd98 hw) e0 (Ins.self El) (g := (mkF m 1 #[.val (.ref lb), .unset] [(.ref lb)])) rfl rfl (bd d19_1)
  refine OD.go st1 ?_
  refine OD.go (B := (T1.setTop (mkF m 27 #[.val (.ref lb), .unset] [(.ref lb)]))) (fun t k => XS.ifYes X1.here hx rfl (pc0 := 4) (pc' := 26) rfl (bd d19_4) rfl (by rw [if0]; exact (feq (by decide : ¬ (1 : Int32) = (0 : Int32))).2) (by decide) (by decide) (XS.aloadN X1.here hx rfl (bd d19_26) rfl rfl k)) ?_
  obtain ⟨T2, X2, e2, st2⟩ := castY X1 hx hZ hown (Wd143 hw) e1 (Ins.of_exa El (Wd289 hw)) (g := (mkF m 27 #[.val (.ref lb), .unset] [(.ref lb)])) rfl rfl (bd d19_27)
  refine OD.go (B := (T2.setTop (mkF m 30 #[.val (.ref lb), .unset] [(.ref lb)]))) st2 ?_
  exact OD.ret X2 hx hlk (t := (.object "java/util/List")) Bd.returns rfl (Or.inr (Or.inr (Or.inr (Or.inr ⟨rfl, rfl, rfl⟩)))) (bd d19_30) (nl rfl) (nl rfl) ⟨rfl, rfl, e2⟩
def Q_rmLC_A0 (Z : State) (la : Addr) (h0 : Heap) (el : Addr) (v : Option Value) (h : Heap) (L : List Loc) : Prop := v = some (.ref el) ∧ L = [] ∧ h = h0
set_option maxRecDepth 65536 in
set_option maxHeartbeats 40000000 in
theorem rmLC_A0 (l : Launch) (Z : State) (a0 : Array Value) (hw : HW a0 Z) (ws : List Jvm.Cond) (la : Addr) (h0 : Heap) (n0 : Nat) (Z0 : n0 ≤ h0.size) (X00 : Old Z n0 h0) (el ea : Addr) (kE : ClassId) (Se : Sta Z Z.heap cI "EMPTY_LIST" zZ12 (.ref el)) (Ee : Exa Z Z.heap el cN) (Fa : Fld Z Z.heap el cN "allowNulls" "Z" (.int 0)) (Fel : Fld Z Z.heap el cN "elements" "[Ljava/lang/Object;" (.ref ea)) (Ae : Arv Z Z.heap ea kE (.object cO) (0 : Int32) [] .null) (Ela : Exa Z h0 la cA) (Fsz : Fld Z h0 la cA "size" "I" (.int 0)) :
    MetFree l (⟨cI, "listCopy", zZ2⟩ : MethodName) (head1 (Jvm.Cond.code (⟨cI, "listCopy", zZ2⟩ : MethodName) kQ28 2 (some (.object "java/util/List")) :: ws) (rO 1 0 0 12)) (fun a U => a = #[(.ref la)] ∧ Z.Warmed39 U.vm ∧ U.heap = h0) (fun _ _ _ _ _ => True) (fun _ U o U' => ∃ v L, o = .returned v ∧ Q_rmLC_A0 Z la h0 el v U'.heap L ∧ FrameEnd U o U' L (rO 1 0 0 12).cells (rO 1 0 0 12).slots) := by
  refine MetFree.of_bodySF (plainFor_of_name pn15) hisR ?_
  intro p e s m args below meth c s₁ Bd hml0 hP hK
  obtain ⟨rfl, hZ, hh⟩ := hP
  have hx := Bd.exec
  have hby := Bd.bytes
  have bd : ∀ {pc r}, decode kQ28 pc = r → decode c.code pc = r := fun q => hb hby q
  have hlk : meth.locks = false := Bd.notSynchronized
  have hml : c.maxLocals = 2 := hml0
  have hown : s.vm.findClass cI = some m.cls := findClass_of_methodNamed Bd.named
  have hnm := (name_of_methodNamed Bd.named Bd.method).1
  have X0 : Stand p l e (rO 1 0 0 12) s m #[(.ref la)] below meth c s₁ [] 0 0 := Stand.of_body Bd
  have e0 : s₁.heap = h0 := by rw [← hh, Bd.state]; rfl
  suffices hgo : OD p e s below (Q_rmLC_A0 Z la h0 el) (rO 1 0 0 12).cells (rO 1 0 0 12).slots (s₁.setTop (mkF m 0 #[.val (.ref la), .unset] [])) by
    obtain ⟨s₂, o, hgo1, hgo2⟩ := hgo
    exact ⟨s₂, o, castTop (ef10 m la) hgo1, hgo2⟩
  refine OD.go (B := (s₁.setTop (mkF m 1 #[.val (.ref la), .unset] [(.ref la)]))) (fun t k => XS.aloadN X0.here hx rfl (bd d19_0) rfl rfl k) ?_
  obtain ⟨T1, X1, e1, st1⟩ := instNo X0 hx hZ hown (Wd98 hw) e0 Ela (own_noAL hw (own_ord (Wd260 hw)) (by decide) (by decide) (by decide) (by decide)) (g := (mkF m 1 #[.val (.ref la), .unset] [(.ref la)])) rfl rfl (bd d19_1)
  refine OD.go st1 ?_
  refine OD.go (B := (T1.setTop (mkF m 8 #[.val (.ref la), .unset] [(.ref la)]))) (fun t k => XS.ifNo X1.here hx rfl (bd d19_4) rfl (by rw [if0]; exact (teq (by decide : (0 : Int32) = (0 : Int32))).2) (XS.aloadN X1.here hx rfl (bd d19_7) rfl rfl k)) ?_
  obtain ⟨T2, X2, e2, st2⟩ := instNo X1 hx hZ hown (Wd103 hw) e1 Ela (own_noAL hw (own_ordS (Wd137 hw)) (by decide) (by decide) (by decide) (by decide)) (g := (mkF m 8 #[.val (.ref la), .unset] [(.ref la)])) rfl rfl (bd d19_8)
  refine OD.go st2 ?_
  refine OD.go (B := (T2.setTop (mkF m 32 #[.val (.ref la), .unset] [(.ref la)]))) (fun t k => XS.ifYes X2.here hx rfl (pc0 := 11) (pc' := 31) rfl (bd d19_11) rfl (by rw [if0]; exact (teq (by decide : (0 : Int32) = (0 : Int32))).1) (by decide) (by decide) (XS.aloadN X2.here hx rfl (bd d19_31) rfl rfl k)) ?_
  obtain ⟨cq3, kq3, qa3, qb3, qc3⟩ := isOf hZ e2 Ela
  obtain ⟨_, _, ⟨T3, L3, k3, n3⟩, -, X3, ⟨Lc3, hQ3, l3, y3, z3⟩, st3⟩ := X2.interfaceBack hx (xi := (⟨"java/util/Collection", "isEmpty", "()Z"⟩ : MethodName)) (y := (⟨cA, "isEmpty", "()Z"⟩ : MethodName)) hown (mvT hZ (Wd104 hw)) (mvT hZ (Wd105 hw)) (mvT hZ (Wd106 hw)) (mvT hZ (Wd107 hw)) (mvT hZ (Wd108 hw)) (mvT hZ (Wd109 hw)) (mvT hZ (Wd110 hw)) (mvT hZ (Wd111 hw)) (by decide) (backOf (W := 0) (rmIE_0 l Z a0 hw [] la h0 Fsz Ela) hZ (Wd112 hw) (Wd53 hw) (by decide) (by decide)) qa3 qb3 qc3 (g := (mkF m 32 #[.val (.ref la), .unset] [(.ref la)])) rfl (by rw [hml]; rfl) (Steps.refl _) (argsL := []) (rest := []) (lenOf pd14 rfl) rfl (by show 2 * 0 + _ ≤ _; exact Nat.le_of_eq rfl) (bd d19_32) (fun _ _ => ⟨rfl, e2, (nl rfl), (nl rfl)⟩)
  dsimp only [Pt.U, Pt.locs, Pt.cells, Pt.slots] at X3 l3 y3 z3 st3 hQ3
  subst l3 y3 z3
  obtain ⟨rfl, rfl, e3⟩ := hQ3
  refine OD.via st3 ?_
  refine OD.go (B := (T3.setTop (mkF m 40 #[.val (.ref la), .unset] []))) (fun t k => XS.ifNo X3.here hx rfl (bd d19_37) rfl (by rw [if0]; exact (feq (by decide : ¬ (1 : Int32) = (0 : Int32))).1) k) ?_
  obtain ⟨_, _, ⟨T4, L4, k4, n4⟩, -, X4, ⟨Lc4, hQ4, l4, y4, z4⟩, st4⟩ := Jvm.LawKit.callS X3 hx (y := (⟨"java/util/List", "of", "()Ljava/util/List;"⟩ : MethodName)) hown (mvT hZ (Wd115 hw)) (mvT hZ (Wd116 hw)) (mvT hZ (Wd92 hw)) (mvT hZ (Wd117 hw)) (by decide) (backOf (W := 0) (rmLO0 l Z a0 hw [] h0 n0 X00 el ea kE Se Ee Fa Fel Ae) hZ (Wd117 hw) (Wd92 hw) (by decide) (by decide)) (g := (mkF m 40 #[.val (.ref la), .unset] [])) rfl (by rw [hml]; rfl) (argsL := []) (rest := []) (lenOf pd15 rfl) rfl (by show 2 * 0 + _ ≤ _; exact Nat.le_of_eq rfl) (bd d19_40) (fun _ _ => ⟨rfl, e3, (nl rfl), (nl rfl)⟩)
  dsimp only [Pt.U, Pt.locs, Pt.cells, Pt.slots] at X4 l4 y4 z4 st4 hQ4
  subst l4 y4 z4
  obtain ⟨rfl, rfl, e4⟩ := hQ4
  refine OD.go (B := (T4.setTop (mkF m 43 #[.val (.ref la), .unset] [(.ref el)]))) st4 ?_
  exact OD.ret X4 hx hlk (t := (.object "java/util/List")) Bd.returns rfl (Or.inr (Or.inr (Or.inr (Or.inr ⟨rfl, rfl, rfl⟩)))) (bd d19_43) (nl rfl) (nl rfl) ⟨rfl, rfl, e4⟩
def Q_rmLC_A1 (Z : State) (la : Addr) (h0 : Heap) (n0 : Nat) (em : Addr) (x0 : Addr) (v : Option Value) (h : Heap) (L : List Loc) : Prop := ∃ b, v = some (.ref b) ∧ Fr n0 L ∧ Keep h0 h [] ∧ h0.size ≤ b ∧ Exa Z h b c2 ∧ Fld Z h b c2 "e0" oO (.ref x0) ∧ Fld Z h b c2 "e1" oO (.ref em)
set_option maxRecDepth 65536 in
set_option maxHeartbeats 40000000 in
theorem rmLC_A1 (l : Launch) (Z : State) (a0 : Array Value) (hw : HW a0 Z) (ws : List Jvm.Cond) (la : Addr) (h0 : Heap) (n0 : Nat) (Z0 : n0 ≤ h0.size) (X00 : Old Z n0 h0) (em : Addr) (Sm : Sta Z Z.heap cI "EMPTY" oO (.ref em)) (Ela : Exa Z h0 la cA) (Fsz : Fld Z h0 la cA "size" "I" (.int 1)) (ar : Addr) (Fed : Fld Z h0 la cA "elementData" "[Ljava/lang/Object;" (.ref ar)) (x0 : Addr) (Ex0 : Exa Z h0 x0 "java/lang/String") (ka : ClassId) (Aa : Arv Z h0 ar ka (.object cO) (10 : Int32) [(.ref x0), .null, .null, .null, .null, .null, .null, .null, .null, .null] .null) (Oa : OvO Z ka) (mr : Addr) (Mr : MirM Z mr) :
    MetFree l (⟨cI, "listCopy", zZ2⟩ : MethodName) (head1 (Jvm.Cond.code (⟨cI, "listCopy", zZ2⟩ : MethodName) kQ28 2 (some (.object "java/util/List")) :: ws) (rO 6 2 3 90)) (fun a U => a = #[(.ref la)] ∧ Z.Warmed39 U.vm ∧ U.heap = h0) (fun _ _ _ _ _ => True) (fun _ U o U' => ∃ v L, o = .returned v ∧ Q_rmLC_A1 Z la h0 n0 em x0 v U'.heap L ∧ FrameEnd U o U' L (rO 6 2 3 90).cells (rO 6 2 3 90).slots) := by
  refine MetFree.of_bodySF (plainFor_of_name pn15) hisR ?_
  intro p e s m args below meth c s₁ Bd hml0 hP hK
  obtain ⟨rfl, hZ, hh⟩ := hP
  have hx := Bd.exec
  have hby := Bd.bytes
  have bd : ∀ {pc r}, decode kQ28 pc = r → decode c.code pc = r := fun q => hb hby q
  have hlk : meth.locks = false := Bd.notSynchronized
  have hml : c.maxLocals = 2 := hml0
  have hown : s.vm.findClass cI = some m.cls := findClass_of_methodNamed Bd.named
  have hnm := (name_of_methodNamed Bd.named Bd.method).1
  have X0 : Stand p l e (rO 6 2 3 90) s m #[(.ref la)] below meth c s₁ [] 0 0 := Stand.of_body Bd
  have e0 : s₁.heap = h0 := by rw [← hh, Bd.state]; rfl
  have N0 := Fr.nil n0
  suffices hgo : OD p e s below (Q_rmLC_A1 Z la h0 n0 em x0) (rO 6 2 3 90).cells (rO 6 2 3 90).slots (s₁.setTop (mkF m 0 #[.val (.ref la), .unset] [])) by
    obtain ⟨s₂, o, hgo1, hgo2⟩ := hgo
    exact ⟨s₂, o, castTop (ef10 m la) hgo1, hgo2⟩
  refine OD.go (B := (s₁.setTop (mkF m 1 #[.val (.ref la), .unset] [(.ref la)]))) (fun t k => XS.aloadN X0.here hx rfl (bd d19_0) rfl rfl k) ?_
  obtain ⟨T1, X1, e1, st1⟩ := instNo X0 hx hZ hown (Wd98 hw) e0 Ela (own_noAL hw (own_ord (Wd260 hw)) (by decide) (by decide) (by decide) (by decide)) (g := (mkF m 1 #[.val (.ref la), .unset] [(.ref la)])) rfl rfl (bd d19_1)
  refine OD.go st1 ?_
  refine OD.go (B := (T1.setTop (mkF m 8 #[.val (.ref la), .unset] [(.ref la)]))) (fun t k => XS.ifNo X1.here hx rfl (bd d19_4) rfl (by rw [if0]; exact (teq (by decide : (0 : Int32) = (0 : Int32))).2) (XS.aloadN X1.here hx rfl (bd d19_7) rfl rfl k)) ?_
  obtain ⟨T2, X2, e2, st2⟩ := instNo X1 hx hZ hown (Wd103 hw) e1 Ela (own_noAL hw (own_ordS (Wd137 hw)) (by decide) (by decide) (by decide) (by decide)) (g := (mkF m 8 #[.val (.ref la), .unset] [(.ref la)])) rfl rfl (bd d19_8)
  refine OD.go st2 ?_
  refine OD.go (B := (T2.setTop (mkF m 32 #[.val (.ref la), .unset] [(.ref la)]))) (fun t k => XS.ifYes X2.here hx rfl (pc0 := 11) (pc' := 31) rfl (bd d19_11) rfl (by rw [if0]; exact (teq (by decide : (0 : Int32) = (0 : Int32))).1) (by decide) (by decide) (XS.aloadN X2.here hx rfl (bd d19_31) rfl rfl k)) ?_
  obtain ⟨cq3, kq3, qa3, qb3, qc3⟩ := isOf hZ e2 Ela
  obtain ⟨_, _, ⟨T3, L3, k3, n3⟩, -, X3, ⟨Lc3, hQ3, l3, y3, z3⟩, st3⟩ := X2.interfaceBack hx (xi := (⟨"java/util/Collection", "isEmpty", "()Z"⟩ : MethodName)) (y := (⟨cA, "isEmpty", "()Z"⟩ : MethodName)) hown (mvT hZ (Wd104 hw)) (mvT hZ (Wd105 hw)) (mvT hZ (Wd106 hw)) (mvT hZ (Wd107 hw)) (mvT hZ (Wd108 hw)) (mvT hZ (Wd109 hw)) (mvT hZ (Wd110 hw)) (mvT hZ (Wd111 hw)) (by decide) (backOf (W := 0) (rmIE_1 l Z a0 hw [] la h0 Fsz Ela) hZ (Wd112 hw) (Wd53 hw) (by decide) (by decide)) qa3 qb3 qc3 (g := (mkF m 32 #[.val (.ref la), .unset] [(.ref la)])) rfl (by rw [hml]; rfl) (Steps.refl _) (argsL := []) (rest := []) (lenOf pd14 rfl) rfl (by show 2 * 0 + _ ≤ _; exact Nat.le_of_eq rfl) (bd d19_32) (fun _ _ => ⟨rfl, e2, (nl rfl), (nl rfl)⟩)
  dsimp only [Pt.U, Pt.locs, Pt.cells, Pt.slots] at X3 l3 y3 z3 st3 hQ3
  subst l3 y3 z3
  obtain ⟨rfl, rfl, e3⟩ := hQ3
  have N3 := Fr.app N0 (Fr.nil _)
  refine OD.via st3 ?_
  refine OD.go (B := (T3.setTop (mkF m 45 #[.val (.ref la), .unset] [(.ref la)]))) (fun t k => XS.ifYes X3.here hx rfl (pc0 := 37) (pc' := 44) rfl (bd d19_37) rfl (by rw [if0]; exact (teq (by decide : (0 : Int32) = (0 : Int32))).1) (by decide) (by decide) (XS.aloadN X3.here hx rfl (bd d19_44) rfl rfl k)) ?_
  obtain ⟨cq4, kq4, qa4, qb4, qc4⟩ := isOf hZ e3 Ela
  obtain ⟨_, _, ⟨T4, L4, k4, n4⟩, -, X4, ⟨Lc4, hQ4, l4, y4, z4⟩, st4⟩ := X3.interfaceBack hx (xi := (⟨"java/util/Collection", "toArray", "()[Ljava/lang/Object;"⟩ : MethodName)) (y := (⟨cA, "toArray", "()[Ljava/lang/Object;"⟩ : MethodName)) hown (mvT hZ (Wd226 hw)) (mvT hZ (Wd227 hw)) (mvT hZ (Wd228 hw)) (mvT hZ (Wd229 hw)) (mvT hZ (Wd230 hw)) (mvT hZ (Wd231 hw)) (mvT hZ (Wd232 hw)) (mvT hZ (Wd111 hw)) (by decide) (backOf (W := 0) (rmTA_1 l Z a0 hw [] la h0 n0 Z0 X00 Ela Fsz ar Fed x0 Ex0 ka Aa Oa mr Mr) hZ (Wd233 hw) (Wd53 hw) (by decide) (by decide)) qa4 qb4 qc4 (g := (mkF m 45 #[.val (.ref la), .unset] [(.ref la)])) rfl (by rw [hml]; rfl) (Steps.refl _) (argsL := []) (rest := []) (lenOf pd4 rfl) rfl (by show 2 * 0 + _ ≤ _; exact Nat.le_of_eq rfl) (bd d19_45) (fun _ _ => ⟨rfl, e3, (nl rfl), (nl rfl)⟩)
  dsimp only [Pt.U, Pt.locs, Pt.cells, Pt.slots] at X4 l4 y4 z4 st4 hQ4
  subst l4 y4 z4
  obtain ⟨b4, k4', rfl, Nq4, K4, ob4, A4, O4⟩ := hQ4
  have N4 := Fr.app N3 Nq4
  have gb4 : n0 ≤ b4 := Nat.le_trans Z0 ob4
  refine OD.via (B := (T4.setTop (mkF m 50 #[.val (.ref la), .unset] [(.ref b4)]))) st4 ?_
  have f5 := (Ex0.keep K4)
  obtain ⟨_, _, ⟨T6, L6, k6, n6⟩, -, X6, ⟨Lc6, hQ6, l6, y6, z6⟩, st6⟩ := Jvm.LawKit.callS X4 hx (y := (⟨"java/util/List", "of", zZ19⟩ : MethodName)) hown (mvT hZ (Wd256 hw)) (mvT hZ (Wd257 hw)) (mvT hZ (Wd92 hw)) (mvT hZ (Wd258 hw)) (by decide) (backOf (W := 0) (rmLO_1 l Z a0 hw [] b4 T4.heap n0 (Nat.le_trans Z0 K4.1) (X00.keep K4 all0) x0 f5 k4' A4 O4 em Sm) hZ (Wd258 hw) (Wd92 hw) (by decide) (by decide)) (g := (mkF m 50 #[.val (.ref la), .unset] [(.ref b4)])) rfl (by rw [hml]; rfl) (argsL := [(.ref b4)]) (rest := []) (lenOf pd16 rfl) rfl (by show 2 * 0 + _ ≤ _; exact Nat.le_of_eq rfl) (bd d19_50) (fun _ _ => ⟨rfl, rfl, (nl rfl), (nl rfl)⟩)
  dsimp only [Pt.U, Pt.locs, Pt.cells, Pt.slots] at X6 l6 y6 z6 st6 hQ6
  subst l6 y6 z6
  obtain ⟨b6, rfl, Nq6, K6, ob6, E6, G06, G16⟩ := hQ6
  have N6 := Fr.app N4 Nq6
  have gb6 : n0 ≤ b6 := Nat.le_trans (Nat.le_trans Z0 K4.1) ob6
  refine OD.go (B := (T6.setTop (mkF m 53 #[.val (.ref la), .unset] [(.ref b6)]))) st6 ?_
  exact OD.ret X6 hx hlk (t := (.object "java/util/List")) Bd.returns rfl (Or.inr (Or.inr (Or.inr (Or.inr ⟨rfl, rfl, rfl⟩)))) (bd d19_53) (nl rfl) (nl rfl) ⟨_, rfl, N6, by exact (((Keep.refl h0 []).trans K4 all0).trans K6 all0), (Nat.le_trans (Nat.le_trans (Nat.le_refl _) K4.1) ob6), by exact E6, by exact G06, by exact G16⟩
def Q_rmLC_A2 (Z : State) (la : Addr) (h0 : Heap) (n0 : Nat) (x0 : Addr) (x1 : Addr) (v : Option Value) (h : Heap) (L : List Loc) : Prop := ∃ b, v = some (.ref b) ∧ Fr n0 L ∧ Keep h0 h [] ∧ h0.size ≤ b ∧ Exa Z h b c2 ∧ Fld Z h b c2 "e0" oO (.ref x0) ∧ Fld Z h b c2 "e1" oO (.ref x1)
set_option maxRecDepth 65536 in
set_option maxHeartbeats 40000000 in
theorem rmLC_A2 (l : Launch) (Z : State) (a0 : Array Value) (hw : HW a0 Z) (ws : List Jvm.Cond) (la : Addr) (h0 : Heap) (n0 : Nat) (Z0 : n0 ≤ h0.size) (X00 : Old Z n0 h0) (em : Addr) (Sm : Sta Z Z.heap cI "EMPTY" oO (.ref em)) (Ela : Exa Z h0 la cA) (Fsz : Fld Z h0 la cA "size" "I" (.int 2)) (ar : Addr) (Fed : Fld Z h0 la cA "elementData" "[Ljava/lang/Object;" (.ref ar)) (x0 : Addr) (Ex0 : Exa Z h0 x0 "java/lang/String") (x1 : Addr) (Ex1 : Exa Z h0 x1 "java/lang/String") (ka : ClassId) (Aa : Arv Z h0 ar ka (.object cO) (10 : Int32) [(.ref x0), (.ref x1), .null, .null, .null, .null, .null, .null, .null, .null] .null) (Oa : OvO Z ka) (mr : Addr) (Mr : MirM Z mr) :
    MetFree l (⟨cI, "listCopy", zZ2⟩ : MethodName) (head1 (Jvm.Cond.code (⟨cI, "listCopy", zZ2⟩ : MethodName) kQ28 2 (some (.object "java/util/List")) :: ws) (rO 6 2 4 90)) (fun a U => a = #[(.ref la)] ∧ Z.Warmed39 U.vm ∧ U.heap = h0) (fun _ _ _ _ _ => True) (fun _ U o U' => ∃ v L, o = .returned v ∧ Q_rmLC_A2 Z la h0 n0 x0 x1 v U'.heap L ∧ FrameEnd U o U' L (rO 6 2 4 90).cells (rO 6 2 4 90).slots) := by
  refine MetFree.of_bodySF (plainFor_of_name pn15) hisR ?_
  intro p e s m args below meth c s₁ Bd hml0 hP hK
  obtain ⟨rfl, hZ, hh⟩ := hP
  have hx := Bd.exec
  have hby := Bd.bytes
  have bd : ∀ {pc r}, decode kQ28 pc = r → decode c.code pc = r := fun q => hb hby q
  have hlk : meth.locks = false := Bd.notSynchronized
  have hml : c.maxLocals = 2 := hml0
  have hown : s.vm.findClass cI = some m.cls := findClass_of_methodNamed Bd.named
  have hnm := (name_of_methodNamed Bd.named Bd.method).1
  have X0 : Stand p l e (rO 6 2 4 90) s m #[(.ref la)] below meth c s₁ [] 0 0 := Stand.of_body Bd
  have e0 : s₁.heap = h0 := by rw [← hh, Bd.state]; rfl
  have N0 := Fr.nil n0
  suffices hgo : OD p e s below (Q_rmLC_A2 Z la h0 n0 x0 x1) (rO 6 2 4 90).cells (rO 6 2 4 90).slots (s₁.setTop (mkF m 0 #[.val (.ref la), .unset] [])) by
    obtain ⟨s₂, o, hgo1, hgo2⟩ := hgo
    exact ⟨s₂, o, castTop (ef10 m la) hgo1, hgo2⟩
  refine OD.go (B := (s₁.setTop (mkF m 1 #[.val (.ref la), .unset] [(.ref la)]))) (fun t k => XS.aloadN X0.here hx rfl (bd d19_0) rfl rfl k) ?_
  obtain ⟨T1, X1, e1, st1⟩ := instNo X0 hx hZ hown (Wd98 hw) e0 Ela (own_noAL hw (own_ord (Wd260 hw)) (by decide) (by decide) (by decide) (by decide)) (g := (mkF m 1 #[.val (.ref la), .unset] [(.ref la)])) rfl rfl (bd d19_1)
  refine OD.go st1 ?_
  refine OD.go (B := (T1.setTop (mkF m 8 #[.val (.ref la), .unset] [(.ref la)]))) (fun t k => XS.ifNo X1.here hx rfl (bd d19_4) rfl (by rw [if0]; exact (teq (by decide : (0 : Int32) = (0 : Int32))).2) (XS.aloadN X1.here hx rfl (bd d19_7) rfl rfl k)) ?_
  obtain ⟨T2, X2, e2, st2⟩ := instNo X1 hx hZ hown (Wd103 hw) e1 Ela (own_noAL hw (own_ordS (Wd137 hw)) (by decide) (by decide) (by decide) (by decide)) (g := (mkF m 8 #[.val (.ref la), .unset] [(.ref la)])) rfl rfl (bd d19_8)
  refine OD.go st2 ?_
  refine OD.go (B := (T2.setTop (mkF m 32 #[.val (.ref la), .unset] [(.ref la)]))) (fun t k => XS.ifYes X2.here hx rfl (pc0 := 11) (pc' := 31) rfl (bd d19_11) rfl (by rw [if0]; exact (teq (by decide : (0 : Int32) = (0 : Int32))).1) (by decide) (by decide) (XS.aloadN X2.here hx rfl (bd d19_31) rfl rfl k)) ?_
  obtain ⟨cq3, kq3, qa3, qb3, qc3⟩ := isOf hZ e2 Ela
  obtain ⟨_, _, ⟨T3, L3, k3, n3⟩, -, X3, ⟨Lc3, hQ3, l3, y3, z3⟩, st3⟩ := X2.interfaceBack hx (xi := (⟨"java/util/Collection", "isEmpty", "()Z"⟩ : MethodName)) (y := (⟨cA, "isEmpty", "()Z"⟩ : MethodName)) hown (mvT hZ (Wd104 hw)) (mvT hZ (Wd105 hw)) (mvT hZ (Wd106 hw)) (mvT hZ (Wd107 hw)) (mvT hZ (Wd108 hw)) (mvT hZ (Wd109 hw)) (mvT hZ (Wd110 hw)) (mvT hZ (Wd111 hw)) (by decide) (backOf (W := 0) (rmIE_2 l Z a0 hw [] la h0 Fsz Ela) hZ (Wd112 hw) (Wd53 hw) (by decide) (by decide)) qa3 qb3 qc3 (g := (mkF m 32 #[.val (.ref la), .unset] [(.ref la)])) rfl (by rw [hml]; rfl) (Steps.refl _) (argsL := []) (rest := []) (lenOf pd14 rfl) rfl (by show 2 * 0 + _ ≤ _; exact Nat.le_of_eq rfl) (bd d19_32) (fun _ _ => ⟨rfl, e2, (nl rfl), (nl rfl)⟩)
  dsimp only [Pt.U, Pt.locs, Pt.cells, Pt.slots] at X3 l3 y3 z3 st3 hQ3
  subst l3 y3 z3
  obtain ⟨rfl, rfl, e3⟩ := hQ3
  have N3 := Fr.app N0 (Fr.nil _)
  refine OD.via st3 ?_
  refine OD.go (B := (T3.setTop (mkF m 45 #[.val (.ref la), .unset] [(.ref la)]))) (fun t k => XS.ifYes X3.here hx rfl (pc0 := 37) (pc' := 44) rfl (bd d19_37) rfl (by rw [if0]; exact (teq (by decide : (0 : Int32) = (0 : Int32))).1) (by decide) (by decide) (XS.aloadN X3.here hx rfl (bd d19_44) rfl rfl k)) ?_
  obtain ⟨cq4, kq4, qa4, qb4, qc4⟩ := isOf hZ e3 Ela
  obtain ⟨_, _, ⟨T4, L4, k4, n4⟩, -, X4, ⟨Lc4, hQ4, l4, y4, z4⟩, st4⟩ := X3.interfaceBack hx (xi := (⟨"java/util/Collection", "toArray", "()[Ljava/lang/Object;"⟩ : MethodName)) (y := (⟨cA, "toArray", "()[Ljava/lang/Object;"⟩ : MethodName)) hown (mvT hZ (Wd226 hw)) (mvT hZ (Wd227 hw)) (mvT hZ (Wd228 hw)) (mvT hZ (Wd229 hw)) (mvT hZ (Wd230 hw)) (mvT hZ (Wd231 hw)) (mvT hZ (Wd232 hw)) (mvT hZ (Wd111 hw)) (by decide) (backOf (W := 0) (rmTA_2 l Z a0 hw [] la h0 n0 Z0 X00 Ela Fsz ar Fed x0 Ex0 x1 Ex1 ka Aa Oa mr Mr) hZ (Wd233 hw) (Wd53 hw) (by decide) (by decide)) qa4 qb4 qc4 (g := (mkF m 45 #[.val (.ref la), .unset] [(.ref la)])) rfl (by rw [hml]; rfl) (Steps.refl _) (argsL := []) (rest := []) (lenOf pd4 rfl) rfl (by show 2 * 0 + _ ≤ _; exact Nat.le_of_eq rfl) (bd d19_45) (fun _ _ => ⟨rfl, e3, (nl rfl), (nl rfl)⟩)
  dsimp only [Pt.U, Pt.locs, Pt.cells, Pt.slots] at X4 l4 y4 z4 st4 hQ4
  subst l4 y4 z4
  obtain ⟨b4, k4', rfl, Nq4, K4, ob4, A4, O4⟩ := hQ4
  have N4 := Fr.app N3 Nq4
  have gb4 : n0 ≤ b4 := Nat.le_trans Z0 ob4
  refine OD.via (B := (T4.setTop (mkF m 50 #[.val (.ref la), .unset] [(.ref b4)]))) st4 ?_
  have f5 := (Ex0.keep K4)
  have f6 := (Ex1.keep K4)
  obtain ⟨_, _, ⟨T7, L7, k7, n7⟩, -, X7, ⟨Lc7, hQ7, l7, y7, z7⟩, st7⟩ := Jvm.LawKit.callS X4 hx (y := (⟨"java/util/List", "of", zZ19⟩ : MethodName)) hown (mvT hZ (Wd256 hw)) (mvT hZ (Wd257 hw)) (mvT hZ (Wd92 hw)) (mvT hZ (Wd258 hw)) (by decide) (backOf (W := 0) (rmLO_2 l Z a0 hw [] b4 T4.heap n0 (Nat.le_trans Z0 K4.1) (X00.keep K4 all0) x0 f5 x1 f6 k4' A4 O4 em Sm) hZ (Wd258 hw) (Wd92 hw) (by decide) (by decide)) (g := (mkF m 50 #[.val (.ref la), .unset] [(.ref b4)])) rfl (by rw [hml]; rfl) (argsL := [(.ref b4)]) (rest := []) (lenOf pd16 rfl) rfl (by show 2 * 0 + _ ≤ _; exact Nat.le_of_eq rfl) (bd d19_50) (fun _ _ => ⟨rfl, rfl, (nl rfl), (nl rfl)⟩)
  dsimp only [Pt.U, Pt.locs, Pt.cells, Pt.slots] at X7 l7 y7 z7 st7 hQ7
  subst l7 y7 z7
  obtain ⟨b7, rfl, Nq7, K7, ob7, E7, G07, G17⟩ := hQ7
  have N7 := Fr.app N4 Nq7
  have gb7 : n0 ≤ b7 := Nat.le_trans (Nat.le_trans Z0 K4.1) ob7
  refine OD.go (B := (T7.setTop (mkF m 53 #[.val (.ref la), .unset] [(.ref b7)]))) st7 ?_
  exact OD.ret X7 hx hlk (t := (.object "java/util/List")) Bd.returns rfl (Or.inr (Or.inr (Or.inr (Or.inr ⟨rfl, rfl, rfl⟩)))) (bd d19_53) (nl rfl) (nl rfl) ⟨_, rfl, N7, by exact (((Keep.refl h0 []).trans K4 all0).trans K7 all0), (Nat.le_trans (Nat.le_trans (Nat.le_refl _) K4.1) ob7), by exact E7, by exact G07, by exact G17⟩
def Q_rmCO_E (Z : State) (el : Addr) (h0 : Heap) (v : Option Value) (h : Heap) (L : List Loc) : Prop := v = some (.ref el) ∧ L = [] ∧ h = h0
set_option maxRecDepth 65536 in
set_option maxHeartbeats 40000000 in
theorem rmCO_E (l : Launch) (Z : State) (a0 : Array Value) (hw : HW a0 Z) (ws : List Jvm.Cond) (el : Addr) (h0 : Heap) (n0 : Nat) (Z0 : n0 ≤ h0.size) (X00 : Old Z n0 h0) (ea : Addr) (kE : ClassId) (Se : Sta Z Z.heap cI "EMPTY_LIST" zZ12 (.ref el)) (Ee : Exa Z Z.heap el cN) (Fa : Fld Z Z.heap el cN "allowNulls" "Z" (.int 0)) (Fel : Fld Z Z.heap el cN "elements" "[Ljava/lang/Object;" (.ref ea)) (Ae : Arv Z Z.heap ea kE (.object cO) (0 : Int32) [] .null) :
    MetFree l (⟨"java/util/List", "copyOf", zZ2⟩ : MethodName) (head1 (Jvm.Cond.code (⟨"java/util/List", "copyOf", zZ2⟩ : MethodName) kQ29 1 (some (.object "java/util/List")) :: ws) (rO 1 0 0 13)) (fun a U => a = #[(.ref el)] ∧ Z.Warmed39 U.vm ∧ U.heap = h0) (fun _ _ _ _ _ => True) (fun _ U o U' => ∃ v L, o = .returned v ∧ Q_rmCO_E Z el h0 v U'.heap L ∧ FrameEnd U o U' L (rO 1 0 0 13).cells (rO 1 0 0 13).slots) := by
  refine MetFree.of_bodySF (plainFor_of_name pn14) hisR ?_
  intro p e s m args below meth c s₁ Bd hml0 hP hK
  obtain ⟨rfl, hZ, hh⟩ := hP
  have hx := Bd.exec
  have hby := Bd.bytes
  have bd : ∀ {pc r}, decode kQ29 pc = r → decode c.code pc = r := fun q => hb hby q
  have hlk : meth.locks = false := Bd.notSynchronized
  have hml : c.maxLocals = 1 := hml0
  have hown : s.vm.findClass "java/util/List" = some m.cls := findClass_of_methodNamed Bd.named
  have hnm := (name_of_methodNamed Bd.named Bd.method).1
  have X0 : Stand p l e (rO 1 0 0 13) s m #[(.ref el)] below meth c s₁ [] 0 0 := Stand.of_body Bd
  have e0 : s₁.heap = h0 := by rw [← hh, Bd.state]; rfl
  suffices hgo : OD p e s below (Q_rmCO_E Z el h0) (rO 1 0 0 13).cells (rO 1 0 0 13).slots (s₁.setTop (mkF m 0 #[.val (.ref el)] [])) by
    obtain ⟨s₂, o, hgo1, hgo2⟩ := hgo
    exact ⟨s₂, o, castTop (ef0 m el) hgo1, hgo2⟩
  refine OD.go (B := (s₁.setTop (mkF m 1 #[.val (.ref el)] [(.ref el)]))) (fun t k => XS.aloadN X0.here hx rfl (bd d18_0) rfl rfl k) ?_
  obtain ⟨_, _, ⟨T1, L1, k1, n1⟩, -, X1, ⟨Lc1, hQ1, l1, y1, z1⟩, st1⟩ := Jvm.LawKit.callS X0 hx (y := (⟨cI, "listCopy", zZ2⟩ : MethodName)) hown (mvT hZ (Wd94 hw)) (mvT hZ (Wd95 hw)) (mvT hZ (Wd96 hw)) (mvT hZ (Wd97 hw)) (by decide) (backOf (W := 0) (rmLC_E l Z a0 hw [] el h0 n0 Z0 X00 ea kE Se Ee Fa Fel Ae) hZ (Wd97 hw) (Wd96 hw) (by decide) (by decide)) (g := (mkF m 1 #[.val (.ref el)] [(.ref el)])) rfl (by rw [hml]; rfl) (argsL := [(.ref el)]) (rest := []) (lenOf pd17 rfl) rfl (by show 2 * 0 + _ ≤ _; exact Nat.le_of_eq rfl) (bd d18_1) (fun _ _ => ⟨rfl, e0, (nl rfl), (nl rfl)⟩)
  dsimp only [Pt.U, Pt.locs, Pt.cells, Pt.slots] at X1 l1 y1 z1 st1 hQ1
  subst l1 y1 z1
  obtain ⟨rfl, rfl, e1⟩ := hQ1
  refine OD.go (B := (T1.setTop (mkF m 4 #[.val (.ref el)] [(.ref el)]))) st1 ?_
  exact OD.ret X1 hx hlk (t := (.object "java/util/List")) Bd.returns rfl (Or.inr (Or.inr (Or.inr (Or.inr ⟨rfl, rfl, rfl⟩)))) (bd d18_4) (nl rfl) (nl rfl) ⟨rfl, rfl, e1⟩
def Q_rmCO_L (Z : State) (lb : Addr) (h0 : Heap) (v : Option Value) (h : Heap) (L : List Loc) : Prop := v = some (.ref lb) ∧ L = [] ∧ h = h0
set_option maxRecDepth 65536 in
set_option maxHeartbeats 40000000 in
theorem rmCO_L (l : Launch) (Z : State) (a0 : Array Value) (hw : HW a0 Z) (ws : List Jvm.Cond) (lb : Addr) (h0 : Heap) (n0 : Nat) (Z0 : n0 ≤ h0.size) (X00 : Old Z n0 h0) (El : Exa Z h0 lb c2) :
    MetFree l (⟨"java/util/List", "copyOf", zZ2⟩ : MethodName) (head1 (Jvm.Cond.code (⟨"java/util/List", "copyOf", zZ2⟩ : MethodName) kQ29 1 (some (.object "java/util/List")) :: ws) (rO 1 0 0 13)) (fun a U => a = #[(.ref lb)] ∧ Z.Warmed39 U.vm ∧ U.heap = h0) (fun _ _ _ _ _ => True) (fun _ U o U' => ∃ v L, o = .returned v ∧ Q_rmCO_L Z lb h0 v U'.heap L ∧ FrameEnd U o U' L (rO 1 0 0 13).cells (rO 1 0 0 13).slots) := by
  refine MetFree.of_bodySF (plainFor_of_name pn14) hisR ?_
  intro p e s m args below meth c s₁ Bd hml0 hP hK
  obtain ⟨rfl, hZ, hh⟩ := hP
  have hx := Bd.exec
  have hby := Bd.bytes
  have bd : ∀ {pc r}, decode kQ29 pc = r → decode c.code pc = r := fun q => hb hby q
  have hlk : meth.locks = false := Bd.notSynchronized
  have hml : c.maxLocals = 1 := hml0
  have hown : s.vm.findClass "java/util/List" = some m.cls := findClass_of_methodNamed Bd.named
  have hnm := (name_of_methodNamed Bd.named Bd.method).1
  have X0 : Stand p l e (rO 1 0 0 13) s m #[(.ref lb)] below meth c s₁ [] 0 0 := Stand.of_body Bd
  have e0 : s₁.heap = h0 := by rw [← hh, Bd.state]; rfl
  suffices hgo : OD p e s below (Q_rmCO_L Z lb h0) (rO 1 0 0 13).cells (rO 1 0 0 13).slots (s₁.setTop (mkF m 0 #[.val (.ref lb)] [])) by
    obtain ⟨s₂, o, hgo1, hgo2⟩ := hgo
    exact ⟨s₂, o, castTop (ef0 m lb) hgo1, hgo2⟩
  refine OD.go (B := (s₁.setTop (mkF m 1 #[.val (.ref lb)] [(.ref lb)]))) (fun t k => XS.aloadN X0.here hx rfl (bd d18_0) rfl rfl k) ?_
  obtain ⟨_, _, ⟨T1, L1, k1, n1⟩, -, X1, ⟨Lc1, hQ1, l1, y1, z1⟩, st1⟩ := Jvm.LawKit.callS X0 hx (y := (⟨cI, "listCopy", zZ2⟩ : MethodName)) hown (mvT hZ (Wd94 hw)) (mvT hZ (Wd95 hw)) (mvT hZ (Wd96 hw)) (mvT hZ (Wd97 hw)) (by decide) (backOf (W := 0) (rmLC_L l Z a0 hw [] lb h0 n0 Z0 X00 El) hZ (Wd97 hw) (Wd96 hw) (by decide) (by decide)) (g := (mkF m 1 #[.val (.ref lb)] [(.ref lb)])) rfl (by rw [hml]; rfl) (argsL := [(.ref lb)]) (rest := []) (lenOf pd17 rfl) rfl (by show 2 * 0 + _ ≤ _; exact Nat.le_of_eq rfl) (bd d18_1) (fun _ _ => ⟨rfl, e0, (nl rfl), (nl rfl)⟩)
  dsimp only [Pt.U, Pt.locs, Pt.cells, Pt.slots] at X1 l1 y1 z1 st1 hQ1
  subst l1 y1 z1
  obtain ⟨rfl, rfl, e1⟩ := hQ1
  refine OD.go (B := (T1.setTop (mkF m 4 #[.val (.ref lb)] [(.ref lb)]))) st1 ?_
  exact OD.ret X1 hx hlk (t := (.object "java/util/List")) Bd.returns rfl (Or.inr (Or.inr (Or.inr (Or.inr ⟨rfl, rfl, rfl⟩)))) (bd d18_4) (nl rfl) (nl rfl) ⟨rfl, rfl, e1⟩
def Q_rmCO_A0 (Z : State) (la : Addr) (h0 : Heap) (el : Addr) (v : Option Value) (h : Heap) (L : List Loc) : Prop := v = some (.ref el) ∧ L = [] ∧ h = h0
set_option maxRecDepth 65536 in
set_option maxHeartbeats 40000000 in
theorem rmCO_A0 (l : Launch) (Z : State) (a0 : Array Value) (hw : HW a0 Z) (ws : List Jvm.Cond) (la : Addr) (h0 : Heap) (n0 : Nat) (Z0 : n0 ≤ h0.size) (X00 : Old Z n0 h0) (el ea : Addr) (kE : ClassId) (Se : Sta Z Z.heap cI "EMPTY_LIST" zZ12 (.ref el)) (Ee : Exa Z Z.heap el cN) (Fa : Fld Z Z.heap el cN "allowNulls" "Z" (.int 0)) (Fel : Fld Z Z.heap el cN "elements" "[Ljava/lang/Object;" (.ref ea)) (Ae : Arv Z Z.heap ea kE (.object cO) (0 : Int32) [] .null) (Ela : Exa Z h0 la cA) (Fsz : Fld Z h0 la cA "size" "I" (.int 0)) :
    MetFree l (⟨"java/util/List", "copyOf", zZ2⟩ : MethodName) (head1 (Jvm.Cond.code (⟨"java/util/List", "copyOf", zZ2⟩ : MethodName) kQ29 1 (some (.object "java/util/List")) :: ws) (rO 2 0 0 25)) (fun a U => a = #[(.ref la)] ∧ Z.Warmed39 U.vm ∧ U.heap = h0) (fun _ _ _ _ _ => True) (fun _ U o U' => ∃ v L, o = .returned v ∧ Q_rmCO_A0 Z la h0 el v U'.heap L ∧ FrameEnd U o U' L (rO 2 0 0 25).cells (rO 2 0 0 25).slots) := by
  refine MetFree.of_bodySF (plainFor_of_name pn14) hisR ?_
  intro p e s m args below meth c s₁ Bd hml0 hP hK
  obtain ⟨rfl, hZ, hh⟩ := hP
  have hx := Bd.exec
  have hby := Bd.bytes
  have bd : ∀ {pc r}, decode kQ29 pc = r → decode c.code pc = r := fun q => hb hby q
  have hlk : meth.locks = false := Bd.notSynchronized
  have hml : c.maxLocals = 1 := hml0
  have hown : s.vm.findClass "java/util/List" = some m.cls := findClass_of_methodNamed Bd.named
  have hnm := (name_of_methodNamed Bd.named Bd.method).1
  have X0 : Stand p l e (rO 2 0 0 25) s m #[(.ref la)] below meth c s₁ [] 0 0 := Stand.of_body Bd
  have e0 : s₁.heap = h0 := by rw [← hh, Bd.state]; rfl
  suffices hgo : OD p e s below (Q_rmCO_A0 Z la h0 el) (rO 2 0 0 25).cells (rO 2 0 0 25).slots (s₁.setTop (mkF m 0 #[.val (.ref la)] [])) by
    obtain ⟨s₂, o, hgo1, hgo2⟩ := hgo
    exact ⟨s₂, o, castTop (ef0 m la) hgo1, hgo2⟩
  refine OD.go (B := (s₁.setTop (mkF m 1 #[.val (.ref la)] [(.ref la)]))) (fun t k => XS.aloadN X0.here hx rfl (bd d18_0) rfl rfl k) ?_
  obtain ⟨_, _, ⟨T1, L1, k1, n1⟩, -, X1, ⟨Lc1, hQ1, l1, y1, z1⟩, st1⟩ := Jvm.LawKit.callS X0 hx (y := (⟨cI, "listCopy", zZ2⟩ : MethodName)) hown (mvT hZ (Wd94 hw)) (mvT hZ (Wd95 hw)) (mvT hZ (Wd96 hw)) (mvT hZ (Wd97 hw)) (by decide) (backOf (W := 0) (rmLC_A0 l Z a0 hw [] la h0 n0 Z0 X00 el ea kE Se Ee Fa Fel Ae Ela Fsz) hZ (Wd97 hw) (Wd96 hw) (by decide) (by decide)) (g := (mkF m 1 #[.val (.ref la)] [(.ref la)])) rfl (by rw [hml]; rfl) (argsL := [(.ref la)]) (rest := []) (lenOf pd17 rfl) rfl (by show 2 * 0 + _ ≤ _; exact Nat.le_of_eq rfl) (bd d18_1) (fun _ _ => ⟨rfl, e0, (nl rfl), (nl rfl)⟩)
  dsimp only [Pt.U, Pt.locs, Pt.cells, Pt.slots] at X1 l1 y1 z1 st1 hQ1
  subst l1 y1 z1
  obtain ⟨rfl, rfl, e1⟩ := hQ1
  refine OD.go (B := (T1.setTop (mkF m 4 #[.val (.ref la)] [(.ref el)]))) st1 ?_
  exact OD.ret X1 hx hlk (t := (.object "java/util/List")) Bd.returns rfl (Or.inr (Or.inr (Or.inr (Or.inr ⟨rfl, rfl, rfl⟩)))) (bd d18_4) (nl rfl) (nl rfl) ⟨rfl, rfl, e1⟩
def Q_rmCO_A1 (Z : State) (la : Addr) (h0 : Heap) (n0 : Nat) (em : Addr) (x0 : Addr) (v : Option Value) (h : Heap) (L : List Loc) : Prop := ∃ b, v = some (.ref b) ∧ Fr n0 L ∧ Keep h0 h [] ∧ h0.size ≤ b ∧ Exa Z h b c2 ∧ Fld Z h b c2 "e0" oO (.ref x0) ∧ Fld Z h b c2 "e1" oO (.ref em)
set_option maxRecDepth 65536 in
set_option maxHeartbeats 40000000 in
theorem rmCO_A1 (l : Launch) (Z : State) (a0 : Array Value) (hw : HW a0 Z) (ws : List Jvm.Cond) (la : Addr) (h0 : Heap) (n0 : Nat) (Z0 : n0 ≤ h0.size) (X00 : Old Z n0 h0) (em : Addr) (Sm : Sta Z Z.heap cI "EMPTY" oO (.ref em)) (Ela : Exa Z h0 la cA) (Fsz : Fld Z h0 la cA "size" "I" (.int 1)) (ar : Addr) (Fed : Fld Z h0 la cA "elementData" "[Ljava/lang/Object;" (.ref ar)) (x0 : Addr) (Ex0 : Exa Z h0 x0 "java/lang/String") (ka : ClassId) (Aa : Arv Z h0 ar ka (.object cO) (10 : Int32) [(.ref x0), .null, .null, .null, .null, .null, .null, .null, .null, .null] .null) (Oa : OvO Z ka) (mr : Addr) (Mr : MirM Z mr) :
    MetFree l (⟨"java/util/List", "copyOf", zZ2⟩ : MethodName) (head1 (Jvm.Cond.code (⟨"java/util/List", "copyOf", zZ2⟩ : MethodName) kQ29 1 (some (.object "java/util/List")) :: ws) (rO 7 2 3 103)) (fun a U => a = #[(.ref la)] ∧ Z.Warmed39 U.vm ∧ U.heap = h0) (fun _ _ _ _ _ => True) (fun _ U o U' => ∃ v L, o = .returned v ∧ Q_rmCO_A1 Z la h0 n0 em x0 v U'.heap L ∧ FrameEnd U o U' L (rO 7 2 3 103).cells (rO 7 2 3 103).slots) := by
  refine MetFree.of_bodySF (plainFor_of_name pn14) hisR ?_
  intro p e s m args below meth c s₁ Bd hml0 hP hK
  obtain ⟨rfl, hZ, hh⟩ := hP
  have hx := Bd.exec
  have hby := Bd.bytes
  have bd : ∀ {pc r}, decode kQ29 pc = r → decode c.code pc = r := fun q => hb hby q
  have hlk : meth.locks = false := Bd.notSynchronized
  have hml : c.maxLocals = 1 := hml0
  have hown : s.vm.findClass "java/util/List" = some m.cls := findClass_of_methodNamed Bd.named
  have hnm := (name_of_methodNamed Bd.named Bd.method).1
  have X0 : Stand p l e (rO 7 2 3 103) s m #[(.ref la)] below meth c s₁ [] 0 0 := Stand.of_body Bd
  have e0 : s₁.heap = h0 := by rw [← hh, Bd.state]; rfl
  have N0 := Fr.nil n0
  suffices hgo : OD p e s below (Q_rmCO_A1 Z la h0 n0 em x0) (rO 7 2 3 103).cells (rO 7 2 3 103).slots (s₁.setTop (mkF m 0 #[.val (.ref la)] [])) by
    obtain ⟨s₂, o, hgo1, hgo2⟩ := hgo
    exact ⟨s₂, o, castTop (ef0 m la) hgo1, hgo2⟩
  refine OD.go (B := (s₁.setTop (mkF m 1 #[.val (.ref la)] [(.ref la)]))) (fun t k => XS.aloadN X0.here hx rfl (bd d18_0) rfl rfl k) ?_
  obtain ⟨_, _, ⟨T1, L1, k1, n1⟩, -, X1, ⟨Lc1, hQ1, l1, y1, z1⟩, st1⟩ := Jvm.LawKit.callS X0 hx (y := (⟨cI, "listCopy", zZ2⟩ : MethodName)) hown (mvT hZ (Wd94 hw)) (mvT hZ (Wd95 hw)) (mvT hZ (Wd96 hw)) (mvT hZ (Wd97 hw)) (by decide) (backOf (W := 0) (rmLC_A1 l Z a0 hw [] la h0 n0 Z0 X00 em Sm Ela Fsz ar Fed x0 Ex0 ka Aa Oa mr Mr) hZ (Wd97 hw) (Wd96 hw) (by decide) (by decide)) (g := (mkF m 1 #[.val (.ref la)] [(.ref la)])) rfl (by rw [hml]; rfl) (argsL := [(.ref la)]) (rest := []) (lenOf pd17 rfl) rfl (by show 2 * 0 + _ ≤ _; exact Nat.le_of_eq rfl) (bd d18_1) (fun _ _ => ⟨rfl, e0, (nl rfl), (nl rfl)⟩)
  dsimp only [Pt.U, Pt.locs, Pt.cells, Pt.slots] at X1 l1 y1 z1 st1 hQ1
  subst l1 y1 z1
  obtain ⟨b1, rfl, Nq1, K1, ob1, E1, G01, G11⟩ := hQ1
  have N1 := Fr.app N0 Nq1
  have gb1 : n0 ≤ b1 := Nat.le_trans Z0 ob1
  refine OD.go (B := (T1.setTop (mkF m 4 #[.val (.ref la)] [(.ref b1)]))) st1 ?_
  exact OD.ret X1 hx hlk (t := (.object "java/util/List")) Bd.returns rfl (Or.inr (Or.inr (Or.inr (Or.inr ⟨rfl, rfl, rfl⟩)))) (bd d18_4) (nl rfl) (nl rfl) ⟨_, rfl, N1, by exact ((Keep.refl h0 []).trans K1 all0), (Nat.le_trans (Nat.le_refl _) ob1), by exact E1, by exact G01, by exact G11⟩
def Q_rmCO_A2 (Z : State) (la : Addr) (h0 : Heap) (n0 : Nat) (x0 : Addr) (x1 : Addr) (v : Option Value) (h : Heap) (L : List Loc) : Prop := ∃ b, v = some (.ref b) ∧ Fr n0 L ∧ Keep h0 h [] ∧ h0.size ≤ b ∧ Exa Z h b c2 ∧ Fld Z h b c2 "e0" oO (.ref x0) ∧ Fld Z h b c2 "e1" oO (.ref x1)
set_option maxRecDepth 65536 in
set_option maxHeartbeats 40000000 in
theorem rmCO_A2 (l : Launch) (Z : State) (a0 : Array Value) (hw : HW a0 Z) (ws : List Jvm.Cond) (la : Addr) (h0 : Heap) (n0 : Nat) (Z0 : n0 ≤ h0.size) (X00 : Old Z n0 h0) (em : Addr) (Sm : Sta Z Z.heap cI "EMPTY" oO (.ref em)) (Ela : Exa Z h0 la cA) (Fsz : Fld Z h0 la cA "size" "I" (.int 2)) (ar : Addr) (Fed : Fld Z h0 la cA "elementData" "[Ljava/lang/Object;" (.ref ar)) (x0 : Addr) (Ex0 : Exa Z h0 x0 "java/lang/String") (x1 : Addr) (Ex1 : Exa Z h0 x1 "java/lang/String") (ka : ClassId) (Aa : Arv Z h0 ar ka (.object cO) (10 : Int32) [(.ref x0), (.ref x1), .null, .null, .null, .null, .null, .null, .null, .null] .null) (Oa : OvO Z ka) (mr : Addr) (Mr : MirM Z mr) :
    MetFree l (⟨"java/util/List", "copyOf", zZ2⟩ : MethodName) (head1 (Jvm.Cond.code (⟨"java/util/List", "copyOf", zZ2⟩ : MethodName) kQ29 1 (some (.object "java/util/List")) :: ws) (rO 7 2 4 103)) (fun a U => a = #[(.ref la)] ∧ Z.Warmed39 U.vm ∧ U.heap = h0) (fun _ _ _ _ _ => True) (fun _ U o U' => ∃ v L, o = .returned v ∧ Q_rmCO_A2 Z la h0 n0 x0 x1 v U'.heap L ∧ FrameEnd U o U' L (rO 7 2 4 103).cells (rO 7 2 4 103).slots) := by
  refine MetFree.of_bodySF (plainFor_of_name pn14) hisR ?_
  intro p e s m args below meth c s₁ Bd hml0 hP hK
  obtain ⟨rfl, hZ, hh⟩ := hP
  have hx := Bd.exec
  have hby := Bd.bytes
  have bd : ∀ {pc r}, decode kQ29 pc = r → decode c.code pc = r := fun q => hb hby q
  have hlk : meth.locks = false := Bd.notSynchronized
  have hml : c.maxLocals = 1 := hml0
  have hown : s.vm.findClass "java/util/List" = some m.cls := findClass_of_methodNamed Bd.named
  have hnm := (name_of_methodNamed Bd.named Bd.method).1
  have X0 : Stand p l e (rO 7 2 4 103) s m #[(.ref la)] below meth c s₁ [] 0 0 := Stand.of_body Bd
  have e0 : s₁.heap = h0 := by rw [← hh, Bd.state]; rfl
  have N0 := Fr.nil n0
  suffices hgo : OD p e s below (Q_rmCO_A2 Z la h0 n0 x0 x1) (rO 7 2 4 103).cells (rO 7 2 4 103).slots (s₁.setTop (mkF m 0 #[.val (.ref la)] [])) by
    obtain ⟨s₂, o, hgo1, hgo2⟩ := hgo
    exact ⟨s₂, o, castTop (ef0 m la) hgo1, hgo2⟩
  refine OD.go (B := (s₁.setTop (mkF m 1 #[.val (.ref la)] [(.ref la)]))) (fun t k => XS.aloadN X0.here hx rfl (bd d18_0) rfl rfl k) ?_
  obtain ⟨_, _, ⟨T1, L1, k1, n1⟩, -, X1, ⟨Lc1, hQ1, l1, y1, z1⟩, st1⟩ := Jvm.LawKit.callS X0 hx (y := (⟨cI, "listCopy", zZ2⟩ : MethodName)) hown (mvT hZ (Wd94 hw)) (mvT hZ (Wd95 hw)) (mvT hZ (Wd96 hw)) (mvT hZ (Wd97 hw)) (by decide) (backOf (W := 0) (rmLC_A2 l Z a0 hw [] la h0 n0 Z0 X00 em Sm Ela Fsz ar Fed x0 Ex0 x1 Ex1 ka Aa Oa mr Mr) hZ (Wd97 hw) (Wd96 hw) (by decide) (by decide)) (g := (mkF m 1 #[.val (.ref la)] [(.ref la)])) rfl (by rw [hml]; rfl) (argsL := [(.ref la)]) (rest := []) (lenOf pd17 rfl) rfl (by show 2 * 0 + _ ≤ _; exact Nat.le_of_eq rfl) (bd d18_1) (fun _ _ => ⟨rfl, e0, (nl rfl), (nl rfl)⟩)
  dsimp only [Pt.U, Pt.locs, Pt.cells, Pt.slots] at X1 l1 y1 z1 st1 hQ1
  subst l1 y1 z1
  obtain ⟨b1, rfl, Nq1, K1, ob1, E1, G01, G11⟩ := hQ1
  have N1 := Fr.app N0 Nq1
  have gb1 : n0 ≤ b1 := Nat.le_trans Z0 ob1
  refine OD.go (B := (T1.setTop (mkF m 4 #[.val (.ref la)] [(.ref b1)]))) st1 ?_
  exact OD.ret X1 hx hlk (t := (.object "java/util/List")) Bd.returns rfl (Or.inr (Or.inr (Or.inr (Or.inr ⟨rfl, rfl, rfl⟩)))) (bd d18_4) (nl rfl) (nl rfl) ⟨_, rfl, N1, by exact ((Keep.refl h0 []).trans K1 all0), (Nat.le_trans (Nat.le_refl _) ob1), by exact E1, by exact G01, by exact G11⟩
def Q_rmC6_E (Z : State) (a1 : Addr) (cn : Int32) (sv : Value) (pr : Int32) (el : Addr) (vl : Value) (lm : Value) (h0 : Heap) (n0 : Nat) (cb : Int32) (v : Option Value) (h : Heap) (L : List Loc) : Prop := v = none ∧ Fr n0 L ∧ Keep h0 h [a1] ∧ Fld Z h a1 cS "connected" "Z" (.int cb) ∧ Fld Z h a1 cS "severity" dV sv ∧ Fld Z h a1 cS "precision" "I" (.int pr) ∧ Fld Z h a1 cS "labels" "Ljava/util/List;" (.ref el) ∧ Fld Z h a1 cS "value" oO vl ∧ Fld Z h a1 cS "limits" dD lm
set_option maxRecDepth 65536 in
set_option maxHeartbeats 40000000 in
theorem rmC6_E (l : Launch) (Z : State) (a0 : Array Value) (hw : HW a0 Z) (ws : List Jvm.Cond) (a1 : Addr) (cn : Int32) (sv : Value) (rsv : sv.isRef = true) (pr : Int32) (el : Addr) (vl : Value) (rvl : vl.isRef = true) (lm : Value) (rlm : lm.isRef = true) (h0 : Heap) (n0 : Nat) (Z0 : n0 ≤ h0.size) (X00 : Old Z n0 h0) (E1 : Exa Z h0 a1 cS) (F0 : Fld Z h0 a1 cS "connected" "Z" (.int 0)) (F1 : Fld Z h0 a1 cS "severity" dV .null) (F2 : Fld Z h0 a1 cS "precision" "I" (.int 0)) (F3 : Fld Z h0 a1 cS "labels" "Ljava/util/List;" .null) (F4 : Fld Z h0 a1 cS "value" oO .null) (F5 : Fld Z h0 a1 cS "limits" dD .null) (g1 : n0 ≤ a1) (cb : Int32) (hcb : narrow .boolean (.int cn) = .int cb) (ea : Addr) (kE : ClassId) (Se : Sta Z Z.heap cI "EMPTY_LIST" zZ12 (.ref el)) (Ee : Exa Z Z.heap el cN) (Fa : Fld Z Z.heap el cN "allowNulls" "Z" (.int 0)) (Fel : Fld Z Z.heap el cN "elements" "[Ljava/lang/Object;" (.ref ea)) (Ae : Arv Z Z.heap ea kE (.object cO) (0 : Int32) [] .null) :
    MetFree l (⟨cS, "<init>", zZ5⟩ : MethodName) (head1 (Jvm.Cond.code (⟨cS, "<init>", zZ5⟩ : MethodName) kQ30 7 none :: ws) (rO 2 0 0 25)) (fun a U => a = #[(.ref a1), (.int cn), sv, (.int pr), (.ref el), vl, lm] ∧ Z.Warmed39 U.vm ∧ U.heap = h0) (fun _ _ _ _ _ => True) (fun _ U o U' => ∃ v L, o = .returned v ∧ Q_rmC6_E Z a1 cn sv pr el vl lm h0 n0 cb v U'.heap L ∧ FrameEnd U o U' L (rO 2 0 0 25).cells (rO 2 0 0 25).slots) := by
  refine MetFree.of_bodySF (plainFor_of_name pn16) hisR ?_
  intro p e s m args below meth c s₁ Bd hml0 hP hK
  obtain ⟨rfl, hZ, hh⟩ := hP
  have hx := Bd.exec
  have hby := Bd.bytes
  have bd : ∀ {pc r}, decode kQ30 pc = r → decode c.code pc = r := fun q => hb hby q
  have hlk : meth.locks = false := Bd.notSynchronized
  have hml : c.maxLocals = 7 := hml0
  have hown : s.vm.findClass cS = some m.cls := findClass_of_methodNamed Bd.named
  have hnm := (name_of_methodNamed Bd.named Bd.method).1
  have X0 : Stand p l e (rO 2 0 0 25) s m #[(.ref a1), (.int cn), sv, (.int pr), (.ref el), vl, lm] below meth c s₁ [] 0 0 := Stand.of_body Bd
  have e0 : s₁.heap = h0 := by rw [← hh, Bd.state]; rfl
  have N0 := Fr.nil n0
  suffices hgo : OD p e s below (Q_rmC6_E Z a1 cn sv pr el vl lm h0 n0 cb) (rO 2 0 0 25).cells (rO 2 0 0 25).slots (s₁.setTop (mkF m 0 #[.val (.ref a1), .val (.int cn), .val sv, .val (.int pr), .val (.ref el), .val vl, .val lm] [])) by
    obtain ⟨s₂, o, hgo1, hgo2⟩ := hgo
    exact ⟨s₂, o, castTop (ef12 m a1 cn sv rsv pr el vl rvl lm rlm) hgo1, hgo2⟩
  refine OD.go (B := (s₁.setTop (mkF m 1 #[.val (.ref a1), .val (.int cn), .val sv, .val (.int pr), .val (.ref el), .val vl, .val lm] [(.ref a1)]))) (fun t k => XS.aloadN X0.here hx rfl (bd d16_0) rfl rfl k) ?_
  obtain ⟨_, _, ⟨T1, L1, k1, n1⟩, -, X1, ⟨Lc1, hQ1, l1, y1, z1⟩, st1⟩ := X0.specialBack hx (y := (⟨"java/lang/Record", "<init>", "()V"⟩ : MethodName)) rfl hown (mvT hZ (Wd84 hw)) (mvT hZ (Wd85 hw)) (mvT hZ (Wd88 hw)) (by decide) (backOf (W := 0) (rmR l Z a0 hw [] a1 h0) hZ (Wd88 hw) (Wd87 hw) (by decide) (by decide)) (g := (mkF m 1 #[.val (.ref a1), .val (.int cn), .val sv, .val (.int pr), .val (.ref el), .val vl, .val lm] [(.ref a1)])) rfl (by rw [hml]; rfl) (Steps.refl _) (a := a1) (argsL := []) (rest := []) (lenOf pd0 rfl) rfl (by show 2 * 0 + _ ≤ _; exact Nat.le_of_eq rfl) (bd d16_1) (fun _ _ => ⟨rfl, e0, (nl rfl), (nl rfl)⟩)
  dsimp only [Pt.U, Pt.locs, Pt.cells, Pt.slots] at X1 l1 y1 z1 st1 hQ1
  subst l1 y1 z1
  obtain ⟨rfl, rfl, e1⟩ := hQ1
  have N1 := Fr.app N0 (Fr.nil _)
  refine OD.via st1 ?_
  refine OD.go (B := (T1.setTop (mkF m 6 #[.val (.ref a1), .val (.int cn), .val sv, .val (.int pr), .val (.ref el), .val vl, .val lm] [(.ref el)]))) (fun t k => XS.aload X1.here hx rfl (bd d16_4) rfl rfl k) ?_
  obtain ⟨_, _, ⟨T2, L2, k2, n2⟩, -, X2, ⟨Lc2, hQ2, l2, y2, z2⟩, st2⟩ := Jvm.LawKit.callS X1 hx (y := (⟨"java/util/List", "copyOf", zZ2⟩ : MethodName)) hown (mvT hZ (Wd90 hw)) (mvT hZ (Wd91 hw)) (mvT hZ (Wd92 hw)) (mvT hZ (Wd93 hw)) (by decide) (backOf (W := 0) (rmCO_E l Z a0 hw [] el h0 n0 Z0 X00 ea kE Se Ee Fa Fel Ae) hZ (Wd93 hw) (Wd92 hw) (by decide) (by decide)) (g := (mkF m 6 #[.val (.ref a1), .val (.int cn), .val sv, .val (.int pr), .val (.ref el), .val vl, .val lm] [(.ref el)])) rfl (by rw [hml]; rfl) (argsL := [(.ref el)]) (rest := []) (lenOf pd17 rfl) rfl (by show 2 * 0 + _ ≤ _; exact Nat.le_of_eq rfl) (bd d16_6) (fun _ _ => ⟨rfl, e1, (nl rfl), (nl rfl)⟩)
  dsimp only [Pt.U, Pt.locs, Pt.cells, Pt.slots] at X2 l2 y2 z2 st2 hQ2
  subst l2 y2 z2
  obtain ⟨rfl, rfl, e2⟩ := hQ2
  have N2 := Fr.app N1 (Fr.nil _)
  refine OD.go st2 ?_
  refine OD.go (B := (T2.setTop (mkF m 13 #[.val (.ref a1), .val (.int cn), .val sv, .val (.int pr), .val (.ref el), .val vl, .val lm] [(.int cn), (.ref a1)]))) (fun t k => XS.astore X2.here hx rfl (bd d16_9) rfl rfl (l' := #[.val (.ref a1), .val (.int cn), .val sv, .val (.int pr), .val (.ref el), .val vl, .val lm]) rfl (XS.aloadN X2.here hx rfl (bd d16_11) rfl rfl (XS.iloadN X2.here hx rfl (bd d16_12) rfl k))) ?_
  obtain ⟨T3, h3, X3, e3, W3, st3⟩ := putFN X2 hx hZ hown (Wd119 hw) Via.refl e2 F0 E1 (Or.inr ⟨(Wd120 hw), rfl, hnm⟩) (Wd76 hw) (ty := .boolean) (v' := (.int cb)) (by decide) hcb (own_fitB hcb) (g := (mkF m 13 #[.val (.ref a1), .val (.int cn), .val sv, .val (.int pr), .val (.ref el), .val vl, .val lm] [(.int cn), (.ref a1)])) rfl rfl (bd d16_13)
  have Fx3 := F0.same W3
  have N3 := Fr.snoc X3 N2 g1
  refine OD.go st3 ?_
  refine OD.go (B := (T3.setTop (mkF m 18 #[.val (.ref a1), .val (.int cn), .val sv, .val (.int pr), .val (.ref el), .val vl, .val lm] [sv, (.ref a1)]))) (fun t k => XS.aloadN X3.here hx rfl (bd d16_16) rfl rfl (XS.aloadN X3.here hx rfl (bd d16_17) rfl (rsv) k)) ?_
  have f4 := (F1.other W3 (Or.inr (slot_ne (Or.inr (Wd122 hw)) (Or.inr (Wd120 hw)) (by decide) (t := (.object cV)) (t' := .boolean) (by decide) (by decide))))
  have f5 := (E1.wr W3)
  obtain ⟨T6, h6, X6, e6, W6, st6⟩ := putF X3 hx hZ hown (host := "") (Or.inl (Wd121 hw)) Via.refl e3 f4 f5 (Or.inr ⟨(Wd122 hw), rfl, hnm⟩) (Wd76 hw) (ty := (.object cV)) (by decide) (own_narR rsv) (own_fitR rsv) (g := (mkF m 18 #[.val (.ref a1), .val (.int cn), .val sv, .val (.int pr), .val (.ref el), .val vl, .val lm] [sv, (.ref a1)])) rfl rfl (bd d16_18)
  have Fx6 := f4.same W6
  have N6 := Fr.snoc X6 N3 g1
  refine OD.go st6 ?_
  refine OD.go (B := (T6.setTop (mkF m 23 #[.val (.ref a1), .val (.int cn), .val sv, .val (.int pr), .val (.ref el), .val vl, .val lm] [(.int pr), (.ref a1)]))) (fun t k => XS.aloadN X6.here hx rfl (bd d16_21) rfl rfl (XS.iloadN X6.here hx rfl (bd d16_22) rfl k)) ?_
  have f7 := ((F2.other W3 (Or.inr (slot_ne (Or.inr (Wd124 hw)) (Or.inr (Wd120 hw)) (by decide) (t := .int) (t' := .boolean) (by decide) (by decide)))).other W6 (Or.inr (slot_ne (Or.inr (Wd124 hw)) (Or.inr (Wd122 hw)) (by decide) (t := .int) (t' := (.object cV)) (by decide) (by decide))))
  have f8 := (f5.wr W6)
  obtain ⟨T9, h9, X9, e9, W9, st9⟩ := putF X6 hx hZ hown (host := "") (Or.inl (Wd123 hw)) Via.refl e6 f7 f8 (Or.inr ⟨(Wd124 hw), rfl, hnm⟩) (Wd76 hw) (ty := .int) (by decide) rfl rfl (g := (mkF m 23 #[.val (.ref a1), .val (.int cn), .val sv, .val (.int pr), .val (.ref el), .val vl, .val lm] [(.int pr), (.ref a1)])) rfl rfl (bd d16_23)
  have Fx9 := f7.same W9
  have N9 := Fr.snoc X9 N6 g1
  refine OD.go st9 ?_
  refine OD.go (B := (T9.setTop (mkF m 29 #[.val (.ref a1), .val (.int cn), .val sv, .val (.int pr), .val (.ref el), .val vl, .val lm] [(.ref el), (.ref a1)]))) (fun t k => XS.aloadN X9.here hx rfl (bd d16_26) rfl rfl (XS.aload X9.here hx rfl (bd d16_27) rfl rfl k)) ?_
  have f10 := (((F3.other W3 (Or.inr (slot_ne (Or.inr (Wd126 hw)) (Or.inr (Wd120 hw)) (by decide) (t := (.object "java/util/List")) (t' := .boolean) (by decide) (by decide)))).other W6 (Or.inr (slot_ne (Or.inr (Wd126 hw)) (Or.inr (Wd122 hw)) (by decide) (t := (.object "java/util/List")) (t' := (.object cV)) (by decide) (by decide)))).other W9 (Or.inr (slot_ne (Or.inr (Wd126 hw)) (Or.inr (Wd124 hw)) (by decide) (t := (.object "java/util/List")) (t' := .int) (by decide) (by decide))))
  have f11 := (f8.wr W9)
  obtain ⟨T12, h12, X12, e12, W12, st12⟩ := putF X9 hx hZ hown (host := "") (Or.inl (Wd125 hw)) Via.refl e9 f10 f11 (Or.inr ⟨(Wd126 hw), rfl, hnm⟩) (Wd76 hw) (ty := (.object "java/util/List")) (by decide) rfl rfl (g := (mkF m 29 #[.val (.ref a1), .val (.int cn), .val sv, .val (.int pr), .val (.ref el), .val vl, .val lm] [(.ref el), (.ref a1)])) rfl rfl (bd d16_29)
  have Fx12 := f10.same W12
  have N12 := Fr.snoc X12 N9 g1
  refine OD.go st12 ?_
  refine OD.go (B := (T12.setTop (mkF m 35 #[.val (.ref a1), .val (.int cn), .val sv, .val (.int pr), .val (.ref el), .val vl, .val lm] [vl, (.ref a1)]))) (fun t k => XS.aloadN X12.here hx rfl (bd d16_32) rfl rfl (XS.aload X12.here hx rfl (bd d16_33) rfl (rvl) k)) ?_
  have f13 := ((((F4.other W3 (Or.inr (slot_ne (Or.inr (Wd128 hw)) (Or.inr (Wd120 hw)) (by decide) (t := (.object cO)) (t' := .boolean) (by decide) (by decide)))).other W6 (Or.inr (slot_ne (Or.inr (Wd128 hw)) (Or.inr (Wd122 hw)) (by decide) (t := (.object cO)) (t' := (.object cV)) (by decide) (by decide)))).other W9 (Or.inr (slot_ne (Or.inr (Wd128 hw)) (Or.inr (Wd124 hw)) (by decide) (t := (.object cO)) (t' := .int) (by decide) (by decide)))).other W12 (Or.inr (slot_ne (Or.inr (Wd128 hw)) (Or.inr (Wd126 hw)) (by decide) (t := (.object cO)) (t' := (.object "java/util/List")) (by decide) (by decide))))
  have f14 := (f11.wr W12)
  obtain ⟨T15, h15, X15, e15, W15, st15⟩ := putF X12 hx hZ hown (host := "") (Or.inl (Wd127 hw)) Via.refl e12 f13 f14 (Or.inr ⟨(Wd128 hw), rfl, hnm⟩) (Wd76 hw) (ty := (.object cO)) (by decide) (own_narR rvl) (own_fitR rvl) (g := (mkF m 35 #[.val (.ref a1), .val (.int cn), .val sv, .val (.int pr), .val (.ref el), .val vl, .val lm] [vl, (.ref a1)])) rfl rfl (bd d16_35)
  have Fx15 := f13.same W15
  have N15 := Fr.snoc X15 N12 g1
  refine OD.go st15 ?_
  refine OD.go (B := (T15.setTop (mkF m 41 #[.val (.ref a1), .val (.int cn), .val sv, .val (.int pr), .val (.ref el), .val vl, .val lm] [lm, (.ref a1)]))) (fun t k => XS.aloadN X15.here hx rfl (bd d16_38) rfl rfl (XS.aload X15.here hx rfl (bd d16_39) rfl (rlm) k)) ?_
  have f16 := (((((F5.other W3 (Or.inr (slot_ne (Or.inr (Wd130 hw)) (Or.inr (Wd120 hw)) (by decide) (t := (.object cD)) (t' := .boolean) (by decide) (by decide)))).other W6 (Or.inr (slot_ne (Or.inr (Wd130 hw)) (Or.inr (Wd122 hw)) (by decide) (t := (.object cD)) (t' := (.object cV)) (by decide) (by decide)))).other W9 (Or.inr (slot_ne (Or.inr (Wd130 hw)) (Or.inr (Wd124 hw)) (by decide) (t := (.object cD)) (t' := .int) (by decide) (by decide)))).other W12 (Or.inr (slot_ne (Or.inr (Wd130 hw)) (Or.inr (Wd126 hw)) (by decide) (t := (.object cD)) (t' := (.object "java/util/List")) (by decide) (by decide)))).other W15 (Or.inr (slot_ne (Or.inr (Wd130 hw)) (Or.inr (Wd128 hw)) (by decide) (t := (.object cD)) (t' := (.object cO)) (by decide) (by decide))))
  have f17 := (f14.wr W15)
  obtain ⟨T18, h18, X18, e18, W18, st18⟩ := putF X15 hx hZ hown (host := "") (Or.inl (Wd129 hw)) Via.refl e15 f16 f17 (Or.inr ⟨(Wd130 hw), rfl, hnm⟩) (Wd76 hw) (ty := (.object cD)) (by decide) (own_narR rlm) (own_fitR rlm) (g := (mkF m 41 #[.val (.ref a1), .val (.int cn), .val sv, .val (.int pr), .val (.ref el), .val vl, .val lm] [lm, (.ref a1)])) rfl rfl (bd d16_41)
  have Fx18 := f16.same W18
  have N18 := Fr.snoc X18 N15 g1
  refine OD.go (B := (T18.setTop (mkF m 44 #[.val (.ref a1), .val (.int cn), .val sv, .val (.int pr), .val (.ref el), .val vl, .val lm] []))) st18 ?_
  exact OD.retV X18 hx hlk Bd.returns (bd d16_44) (nl rfl) (nl rfl) ⟨rfl, N18, by rw [e18]; exact (((((((Keep.refl h0 [a1]).wr W3 (Or.inl (List.mem_of_getElem? (i := 0) rfl))).wr W6 (Or.inl (List.mem_of_getElem? (i := 0) rfl))).wr W9 (Or.inl (List.mem_of_getElem? (i := 0) rfl))).wr W12 (Or.inl (List.mem_of_getElem? (i := 0) rfl))).wr W15 (Or.inl (List.mem_of_getElem? (i := 0) rfl))).wr W18 (Or.inl (List.mem_of_getElem? (i := 0) rfl))), by rw [e18]; exact (((((Fx3.other W6 (Or.inr (slot_ne (Or.inr (Wd120 hw)) (Or.inr (Wd122 hw)) (by decide) (t := .boolean) (t' := (.object cV)) (by decide) (by decide)))).other W9 (Or.inr (slot_ne (Or.inr (Wd120 hw)) (Or.inr (Wd124 hw)) (by decide) (t := .boolean) (t' := .int) (by decide) (by decide)))).other W12 (Or.inr (slot_ne (Or.inr (Wd120 hw)) (Or.inr (Wd126 hw)) (by decide) (t := .boolean) (t' := (.object "java/util/List")) (by decide) (by decide)))).other W15 (Or.inr (slot_ne (Or.inr (Wd120 hw)) (Or.inr (Wd128 hw)) (by decide) (t := .boolean) (t' := (.object cO)) (by decide) (by decide)))).other W18 (Or.inr (slot_ne (Or.inr (Wd120 hw)) (Or.inr (Wd130 hw)) (by decide) (t := .boolean) (t' := (.object cD)) (by decide) (by decide)))), by rw [e18]; exact ((((Fx6.other W9 (Or.inr (slot_ne (Or.inr (Wd122 hw)) (Or.inr (Wd124 hw)) (by decide) (t := (.object cV)) (t' := .int) (by decide) (by decide)))).other W12 (Or.inr (slot_ne (Or.inr (Wd122 hw)) (Or.inr (Wd126 hw)) (by decide) (t := (.object cV)) (t' := (.object "java/util/List")) (by decide) (by decide)))).other W15 (Or.inr (slot_ne (Or.inr (Wd122 hw)) (Or.inr (Wd128 hw)) (by decide) (t := (.object cV)) (t' := (.object cO)) (by decide) (by decide)))).other W18 (Or.inr (slot_ne (Or.inr (Wd122 hw)) (Or.inr (Wd130 hw)) (by decide) (t := (.object cV)) (t' := (.object cD)) (by decide) (by decide)))), by rw [e18]; exact (((Fx9.other W12 (Or.inr (slot_ne (Or.inr (Wd124 hw)) (Or.inr (Wd126 hw)) (by decide) (t := .int) (t' := (.object "java/util/List")) (by decide) (by decide)))).other W15 (Or.inr (slot_ne (Or.inr (Wd124 hw)) (Or.inr (Wd128 hw)) (by decide) (t := .int) (t' := (.object cO)) (by decide) (by decide)))).other W18 (Or.inr (slot_ne (Or.inr (Wd124 hw)) (Or.inr (Wd130 hw)) (by decide) (t := .int) (t' := (.object cD)) (by decide) (by decide)))), by rw [e18]; exact ((Fx12.other W15 (Or.inr (slot_ne (Or.inr (Wd126 hw)) (Or.inr (Wd128 hw)) (by decide) (t := (.object "java/util/List")) (t' := (.object cO)) (by decide) (by decide)))).other W18 (Or.inr (slot_ne (Or.inr (Wd126 hw)) (Or.inr (Wd130 hw)) (by decide) (t := (.object "java/util/List")) (t' := (.object cD)) (by decide) (by decide)))), by rw [e18]; exact (Fx15.other W18 (Or.inr (slot_ne (Or.inr (Wd128 hw)) (Or.inr (Wd130 hw)) (by decide) (t := (.object cO)) (t' := (.object cD)) (by decide) (by decide)))), by rw [e18]; exact Fx18⟩
def Q_rmC6_L (Z : State) (a1 : Addr) (cn : Int32) (sv : Value) (pr : Int32) (lb : Addr) (vl : Value) (lm : Value) (h0 : Heap) (n0 : Nat) (cb : Int32) (v : Option Value) (h : Heap) (L : List Loc) : Prop := v = none ∧ Fr n0 L ∧ Keep h0 h [a1] ∧ Fld Z h a1 cS "connected" "Z" (.int cb) ∧ Fld Z h a1 cS "severity" dV sv ∧ Fld Z h a1 cS "precision" "I" (.int pr) ∧ Fld Z h a1 cS "labels" "Ljava/util/List;" (.ref lb) ∧ Fld Z h a1 cS "value" oO vl ∧ Fld Z h a1 cS "limits" dD lm
set_option maxRecDepth 65536 in
set_option maxHeartbeats 40000000 in
theorem rmC6_L (l : Launch) (Z : State) (a0 : Array Value) (hw : HW a0 Z) (ws : List Jvm.Cond) (a1 : Addr) (cn : Int32) (sv : Value) (rsv : sv.isRef = true) (pr : Int32) (lb : Addr) (vl : Value) (rvl : vl.isRef = true) (lm : Value) (rlm : lm.isRef = true) (h0 : Heap) (n0 : Nat) (Z0 : n0 ≤ h0.size) (X00 : Old Z n0 h0) (E1 : Exa Z h0 a1 cS) (F0 : Fld Z h0 a1 cS "connected" "Z" (.int 0)) (F1 : Fld Z h0 a1 cS "severity" dV .null) (F2 : Fld Z h0 a1 cS "precision" "I" (.int 0)) (F3 : Fld Z h0 a1 cS "labels" "Ljava/util/List;" .null) (F4 : Fld Z h0 a1 cS "value" oO .null) (F5 : Fld Z h0 a1 cS "limits" dD .null) (g1 : n0 ≤ a1) (cb : Int32) (hcb : narrow .boolean (.int cn) = .int cb) (El : Exa Z h0 lb c2) (nlb : a1 ≠ lb) :
    MetFree l (⟨cS, "<init>", zZ5⟩ : MethodName) (head1 (Jvm.Cond.code (⟨cS, "<init>", zZ5⟩ : MethodName) kQ30 7 none :: ws) (rO 2 0 0 25)) (fun a U => a = #[(.ref a1), (.int cn), sv, (.int pr), (.ref lb), vl, lm] ∧ Z.Warmed39 U.vm ∧ U.heap = h0) (fun _ _ _ _ _ => True) (fun _ U o U' => ∃ v L, o = .returned v ∧ Q_rmC6_L Z a1 cn sv pr lb vl lm h0 n0 cb v U'.heap L ∧ FrameEnd U o U' L (rO 2 0 0 25).cells (rO 2 0 0 25).slots) := by
  refine MetFree.of_bodySF (plainFor_of_name pn16) hisR ?_
  intro p e s m args below meth c s₁ Bd hml0 hP hK
  obtain ⟨rfl, hZ, hh⟩ := hP
  have hx := Bd.exec
  have hby := Bd.bytes
  have bd : ∀ {pc r}, decode kQ30 pc = r → decode c.code pc = r := fun q => hb hby q
  have hlk : meth.locks = false := Bd.notSynchronized
  have hml : c.maxLocals = 7 := hml0
  have hown : s.vm.findClass cS = some m.cls := findClass_of_methodNamed Bd.named
  have hnm := (name_of_methodNamed Bd.named Bd.method).1
  have X0 : Stand p l e (rO 2 0 0 25) s m #[(.ref a1), (.int cn), sv, (.int pr), (.ref lb), vl, lm] below meth c s₁ [] 0 0 := Stand.of_body Bd
  have e0 : s₁.heap = h0 := by rw [← hh, Bd.state]; rfl
  have N0 := Fr.nil n0
  suffices hgo : OD p e s below (Q_rmC6_L Z a1 cn sv pr lb vl lm h0 n0 cb) (rO 2 0 0 25).cells (rO 2 0 0 25).slots (s₁.setTop (mkF m 0 #[.val (.ref a1), .val (.int cn), .val sv, .val (.int pr), .val (.ref lb), .val vl, .val lm] [])) by
    obtain ⟨s₂, o, hgo1, hgo2⟩ := hgo
    exact ⟨s₂, o, castTop (ef12 m a1 cn sv rsv pr lb vl rvl lm rlm) hgo1, hgo2⟩
  refine OD.go (B := (s₁.setTop (mkF m 1 #[.val (.ref a1), .val (.int cn), .val sv, .val (.int pr), .val (.ref lb), .val vl, .val lm] [(.ref a1)]))) (fun t k => XS.aloadN X0.here hx rfl (bd d16_0) rfl rfl k) ?_
  obtain ⟨_, _, ⟨T1, L1, k1, n1⟩, -, X1, ⟨Lc1, hQ1, l1, y1, z1⟩, st1⟩ := X0.specialBack hx (y := (⟨"java/lang/Record", "<init>", "()V"⟩ : MethodName)) rfl hown (mvT hZ (Wd84 hw)) (mvT hZ (Wd85 hw)) (mvT hZ (Wd88 hw)) (by decide) (backOf (W := 0) (rmR l Z a0 hw [] a1 h0) hZ (Wd88 hw) (Wd87 hw) (by decide) (by decide)) (g := (mkF m 1 #[.val (.ref a1), .val (.int cn), .val sv, .val (.int pr), .val (.ref lb), .val vl, .val lm] [(.ref a1)])) rfl (by rw [hml]; rfl) (Steps.refl _) (a := a1) (argsL := []) (rest := []) (lenOf pd0 rfl) rfl (by show 2 * 0 + _ ≤ _; exact Nat.le_of_eq rfl) (bd d16_1) (fun _ _ => ⟨rfl, e0, (nl rfl), (nl rfl)⟩)
  dsimp only [Pt.U, Pt.locs, Pt.cells, Pt.slots] at X1 l1 y1 z1 st1 hQ1
  subst l1 y1 z1
  obtain ⟨rfl, rfl, e1⟩ := hQ1
  have N1 := Fr.app N0 (Fr.nil _)
  refine OD.via st1 ?_
  refine OD.go (B := (T1.setTop (mkF m 6 #[.val (.ref a1), .val (.int cn), .val sv, .val (.int pr), .val (.ref lb), .val vl, .val lm] [(.ref lb)]))) (fun t k => XS.aload X1.here hx rfl (bd d16_4) rfl rfl k) ?_
  obtain ⟨_, _, ⟨T2, L2, k2, n2⟩, -, X2, ⟨Lc2, hQ2, l2, y2, z2⟩, st2⟩ := Jvm.LawKit.callS X1 hx (y := (⟨"java/util/List", "copyOf", zZ2⟩ : MethodName)) hown (mvT hZ (Wd90 hw)) (mvT hZ (Wd91 hw)) (mvT hZ (Wd92 hw)) (mvT hZ (Wd93 hw)) (by decide) (backOf (W := 0) (rmCO_L l Z a0 hw [] lb h0 n0 Z0 X00 El) hZ (Wd93 hw) (Wd92 hw) (by decide) (by decide)) (g := (mkF m 6 #[.val (.ref a1), .val (.int cn), .val sv, .val (.int pr), .val (.ref lb), .val vl, .val lm] [(.ref lb)])) rfl (by rw [hml]; rfl) (argsL := [(.ref lb)]) (rest := []) (lenOf pd17 rfl) rfl (by show 2 * 0 + _ ≤ _; exact Nat.le_of_eq rfl) (bd d16_6) (fun _ _ => ⟨rfl, e1, (nl rfl), (nl rfl)⟩)
  dsimp only [Pt.U, Pt.locs, Pt.cells, Pt.slots] at X2 l2 y2 z2 st2 hQ2
  subst l2 y2 z2
  obtain ⟨rfl, rfl, e2⟩ := hQ2
  have N2 := Fr.app N1 (Fr.nil _)
  refine OD.go st2 ?_
  refine OD.go (B := (T2.setTop (mkF m 13 #[.val (.ref a1), .val (.int cn), .val sv, .val (.int pr), .val (.ref lb), .val vl, .val lm] [(.int cn), (.ref a1)]))) (fun t k => XS.astore X2.here hx rfl (bd d16_9) rfl rfl (l' := #[.val (.ref a1), .val (.int cn), .val sv, .val (.int pr), .val (.ref lb), .val vl, .val lm]) rfl (XS.aloadN X2.here hx rfl (bd d16_11) rfl rfl (XS.iloadN X2.here hx rfl (bd d16_12) rfl k))) ?_
  obtain ⟨T3, h3, X3, e3, W3, st3⟩ := putFN X2 hx hZ hown (Wd119 hw) Via.refl e2 F0 E1 (Or.inr ⟨(Wd120 hw), rfl, hnm⟩) (Wd76 hw) (ty := .boolean) (v' := (.int cb)) (by decide) hcb (own_fitB hcb) (g := (mkF m 13 #[.val (.ref a1), .val (.int cn), .val sv, .val (.int pr), .val (.ref lb), .val vl, .val lm] [(.int cn), (.ref a1)])) rfl rfl (bd d16_13)
  have Fx3 := F0.same W3
  have N3 := Fr.snoc X3 N2 g1
  refine OD.go st3 ?_
  refine OD.go (B := (T3.setTop (mkF m 18 #[.val (.ref a1), .val (.int cn), .val sv, .val (.int pr), .val (.ref lb), .val vl, .val lm] [sv, (.ref a1)]))) (fun t k => XS.aloadN X3.here hx rfl (bd d16_16) rfl rfl (XS.aloadN X3.here hx rfl (bd d16_17) rfl (rsv) k)) ?_
  have f4 := (F1.other W3 (Or.inr (slot_ne (Or.inr (Wd122 hw)) (Or.inr (Wd120 hw)) (by decide) (t := (.object cV)) (t' := .boolean) (by decide) (by decide))))
  have f5 := (E1.wr W3)
  obtain ⟨T6, h6, X6, e6, W6, st6⟩ := putF X3 hx hZ hown (host := "") (Or.inl (Wd121 hw)) Via.refl e3 f4 f5 (Or.inr ⟨(Wd122 hw), rfl, hnm⟩) (Wd76 hw) (ty := (.object cV)) (by decide) (own_narR rsv) (own_fitR rsv) (g := (mkF m 18 #[.val (.ref a1), .val (.int cn), .val sv, .val (.int pr), .val (.ref lb), .val vl, .val lm] [sv, (.ref a1)])) rfl rfl (bd d16_18)
  have Fx6 := f4.same W6
  have N6 := Fr.snoc X6 N3 g1
  refine OD.go st6 ?_
  refine OD.go (B := (T6.setTop (mkF m 23 #[.val (.ref a1), .val (.int cn), .val sv, .val (.int pr), .val (.ref lb), .val vl, .val lm] [(.int pr), (.ref a1)]))) (fun t k => XS.aloadN X6.here hx rfl (bd d16_21) rfl rfl (XS.iloadN X6.here hx rfl (bd d16_22) rfl k)) ?_
  have f7 := ((F2.other W3 (Or.inr (slot_ne (Or.inr (Wd124 hw)) (Or.inr (Wd120 hw)) (by decide) (t := .int) (t' := .boolean) (by decide) (by decide)))).other W6 (Or.inr (slot_ne (Or.inr (Wd124 hw)) (Or.inr (Wd122 hw)) (by decide) (t := .int) (t' := (.object cV)) (by decide) (by decide))))
  have f8 := (f5.wr W6)
  obtain ⟨T9, h9, X9, e9, W9, st9⟩ := putF X6 hx hZ hown (host := "") (Or.inl (Wd123 hw)) Via.refl e6 f7 f8 (Or.inr ⟨(Wd124 hw), rfl, hnm⟩) (Wd76 hw) (ty := .int) (by decide) rfl rfl (g := (mkF m 23 #[.val (.ref a1), .val (.int cn), .val sv, .val (.int pr), .val (.ref lb), .val vl, .val lm] [(.int pr), (.ref a1)])) rfl rfl (bd d16_23)
  have Fx9 := f7.same W9
  have N9 := Fr.snoc X9 N6 g1
  refine OD.go st9 ?_
  refine OD.go (B := (T9.setTop (mkF m 29 #[.val (.ref a1), .val (.int cn), .val sv, .val (.int pr), .val (.ref lb), .val vl, .val lm] [(.ref lb), (.ref a1)]))) (fun t k => XS.aloadN X9.here hx rfl (bd d16_26) rfl rfl (XS.aload X9.here hx rfl (bd d16_27) rfl rfl k)) ?_
  have f10 := (((F3.other W3 (Or.inr (slot_ne (Or.inr (Wd126 hw)) (Or.inr (Wd120 hw)) (by decide) (t := (.object "java/util/List")) (t' := .boolean) (by decide) (by decide)))).other W6 (Or.inr (slot_ne (Or.inr (Wd126 hw)) (Or.inr (Wd122 hw)) (by decide) (t := (.object "java/util/List")) (t' := (.object cV)) (by decide) (by decide)))).other W9 (Or.inr (slot_ne (Or.inr (Wd126 hw)) (Or.inr (Wd124 hw)) (by decide) (t := (.object "java/util/List")) (t' := .int) (by decide) (by decide))))
  have f11 := (f8.wr W9)
  obtain ⟨T12, h12, X12, e12, W12, st12⟩ := putF X9 hx hZ hown (host := "") (Or.inl (Wd125 hw)) Via.refl e9 f10 f11 (Or.inr ⟨(Wd126 hw), rfl, hnm⟩) (Wd76 hw) (ty := (.object "java/util/List")) (by decide) rfl rfl (g := (mkF m 29 #[.val (.ref a1), .val (.int cn), .val sv, .val (.int pr), .val (.ref lb), .val vl, .val lm] [(.ref lb), (.ref a1)])) rfl rfl (bd d16_29)
  have Fx12 := f10.same W12
  have N12 := Fr.snoc X12 N9 g1
  refine OD.go st12 ?_
  refine OD.go (B := (T12.setTop (mkF m 35 #[.val (.ref a1), .val (.int cn), .val sv, .val (.int pr), .val (.ref lb), .val vl, .val lm] [vl, (.ref a1)]))) (fun t k => XS.aloadN X12.here hx rfl (bd d16_32) rfl rfl (XS.aload X12.here hx rfl (bd d16_33) rfl (rvl) k)) ?_
  have f13 := ((((F4.other W3 (Or.inr (slot_ne (Or.inr (Wd128 hw)) (Or.inr (Wd120 hw)) (by decide) (t := (.object cO)) (t' := .boolean) (by decide) (by decide)))).other W6 (Or.inr (slot_ne (Or.inr (Wd128 hw)) (Or.inr (Wd122 hw)) (by decide) (t := (.object cO)) (t' := (.object cV)) (by decide) (by decide)))).other W9 (Or.inr (slot_ne (Or.inr (Wd128 hw)) (Or.inr (Wd124 hw)) (by decide) (t := (.object cO)) (t' := .int) (by decide) (by decide)))).other W12 (Or.inr (slot_ne (Or.inr (Wd128 hw)) (Or.inr (Wd126 hw)) (by decide) (t := (.object cO)) (t' := (.object "java/util/List")) (by decide) (by decide))))
  have f14 := (f11.wr W12)
  obtain ⟨T15, h15, X15, e15, W15, st15⟩ := putF X12 hx hZ hown (host := "") (Or.inl (Wd127 hw)) Via.refl e12 f13 f14 (Or.inr ⟨(Wd128 hw), rfl, hnm⟩) (Wd76 hw) (ty := (.object cO)) (by decide) (own_narR rvl) (own_fitR rvl) (g := (mkF m 35 #[.val (.ref a1), .val (.int cn), .val sv, .val (.int pr), .val (.ref lb), .val vl, .val lm] [vl, (.ref a1)])) rfl rfl (bd d16_35)
  have Fx15 := f13.same W15
  have N15 := Fr.snoc X15 N12 g1
  refine OD.go st15 ?_
  refine OD.go (B := (T15.setTop (mkF m 41 #[.val (.ref a1), .val (.int cn), .val sv, .val (.int pr), .val (.ref lb), .val vl, .val lm] [lm, (.ref a1)]))) (fun t k => XS.aloadN X15.here hx rfl (bd d16_38) rfl rfl (XS.aload X15.here hx rfl (bd d16_39) rfl (rlm) k)) ?_
  have f16 := (((((F5.other W3 (Or.inr (slot_ne (Or.inr (Wd130 hw)) (Or.inr (Wd120 hw)) (by decide) (t := (.object cD)) (t' := .boolean) (by decide) (by decide)))).other W6 (Or.inr (slot_ne (Or.inr (Wd130 hw)) (Or.inr (Wd122 hw)) (by decide) (t := (.object cD)) (t' := (.object cV)) (by decide) (by decide)))).other W9 (Or.inr (slot_ne (Or.inr (Wd130 hw)) (Or.inr (Wd124 hw)) (by decide) (t := (.object cD)) (t' := .int) (by decide) (by decide)))).other W12 (Or.inr (slot_ne (Or.inr (Wd130 hw)) (Or.inr (Wd126 hw)) (by decide) (t := (.object cD)) (t' := (.object "java/util/List")) (by decide) (by decide)))).other W15 (Or.inr (slot_ne (Or.inr (Wd130 hw)) (Or.inr (Wd128 hw)) (by decide) (t := (.object cD)) (t' := (.object cO)) (by decide) (by decide))))
  have f17 := (f14.wr W15)
  obtain ⟨T18, h18, X18, e18, W18, st18⟩ := putF X15 hx hZ hown (host := "") (Or.inl (Wd129 hw)) Via.refl e15 f16 f17 (Or.inr ⟨(Wd130 hw), rfl, hnm⟩) (Wd76 hw) (ty := (.object cD)) (by decide) (own_narR rlm) (own_fitR rlm) (g := (mkF m 41 #[.val (.ref a1), .val (.int cn), .val sv, .val (.int pr), .val (.ref lb), .val vl, .val lm] [lm, (.ref a1)])) rfl rfl (bd d16_41)
  have Fx18 := f16.same W18
  have N18 := Fr.snoc X18 N15 g1
  refine OD.go (B := (T18.setTop (mkF m 44 #[.val (.ref a1), .val (.int cn), .val sv, .val (.int pr), .val (.ref lb), .val vl, .val lm] []))) st18 ?_
  exact OD.retV X18 hx hlk Bd.returns (bd d16_44) (nl rfl) (nl rfl) ⟨rfl, N18, by rw [e18]; exact (((((((Keep.refl h0 [a1]).wr W3 (Or.inl (List.mem_of_getElem? (i := 0) rfl))).wr W6 (Or.inl (List.mem_of_getElem? (i := 0) rfl))).wr W9 (Or.inl (List.mem_of_getElem? (i := 0) rfl))).wr W12 (Or.inl (List.mem_of_getElem? (i := 0) rfl))).wr W15 (Or.inl (List.mem_of_getElem? (i := 0) rfl))).wr W18 (Or.inl (List.mem_of_getElem? (i := 0) rfl))), by rw [e18]; exact (((((Fx3.other W6 (Or.inr (slot_ne (Or.inr (Wd120 hw)) (Or.inr (Wd122 hw)) (by decide) (t := .boolean) (t' := (.object cV)) (by decide) (by decide)))).other W9 (Or.inr (slot_ne (Or.inr (Wd120 hw)) (Or.inr (Wd124 hw)) (by decide) (t := .boolean) (t' := .int) (by decide) (by decide)))).other W12 (Or.inr (slot_ne (Or.inr (Wd120 hw)) (Or.inr (Wd126 hw)) (by decide) (t := .boolean) (t' := (.object "java/util/List")) (by decide) (by decide)))).other W15 (Or.inr (slot_ne (Or.inr (Wd120 hw)) (Or.inr (Wd128 hw)) (by decide) (t := .boolean) (t' := (.object cO)) (by decide) (by decide)))).other W18 (Or.inr (slot_ne (Or.inr (Wd120 hw)) (Or.inr (Wd130 hw)) (by decide) (t := .boolean) (t' := (.object cD)) (by decide) (by decide)))), by rw [e18]; exact ((((Fx6.other W9 (Or.inr (slot_ne (Or.inr (Wd122 hw)) (Or.inr (Wd124 hw)) (by decide) (t := (.object cV)) (t' := .int) (by decide) (by decide)))).other W12 (Or.inr (slot_ne (Or.inr (Wd122 hw)) (Or.inr (Wd126 hw)) (by decide) (t := (.object cV)) (t' := (.object "java/util/List")) (by decide) (by decide)))).other W15 (Or.inr (slot_ne (Or.inr (Wd122 hw)) (Or.inr (Wd128 hw)) (by decide) (t := (.object cV)) (t' := (.object cO)) (by decide) (by decide)))).other W18 (Or.inr (slot_ne (Or.inr (Wd122 hw)) (Or.inr (Wd130 hw)) (by decide) (t := (.object cV)) (t' := (.object cD)) (by decide) (by decide)))), by rw [e18]; exact (((Fx9.other W12 (Or.inr (slot_ne (Or.inr (Wd124 hw)) (Or.inr (Wd126 hw)) (by decide) (t := .int) (t' := (.object "java/util/List")) (by decide) (by decide)))).other W15 (Or.inr (slot_ne (Or.inr (Wd124 hw)) (Or.inr (Wd128 hw)) (by decide) (t := .int) (t' := (.object cO)) (by decide) (by decide)))).other W18 (Or.inr (slot_ne (Or.inr (Wd124 hw)) (Or.inr (Wd130 hw)) (by decide) (t := .int) (t' := (.object cD)) (by decide) (by decide)))), by rw [e18]; exact ((Fx12.other W15 (Or.inr (slot_ne (Or.inr (Wd126 hw)) (Or.inr (Wd128 hw)) (by decide) (t := (.object "java/util/List")) (t' := (.object cO)) (by decide) (by decide)))).other W18 (Or.inr (slot_ne (Or.inr (Wd126 hw)) (Or.inr (Wd130 hw)) (by decide) (t := (.object "java/util/List")) (t' := (.object cD)) (by decide) (by decide)))), by rw [e18]; exact (Fx15.other W18 (Or.inr (slot_ne (Or.inr (Wd128 hw)) (Or.inr (Wd130 hw)) (by decide) (t := (.object cO)) (t' := (.object cD)) (by decide) (by decide)))), by rw [e18]; exact Fx18⟩
def Q_rmC6_A0 (Z : State) (a1 : Addr) (cn : Int32) (sv : Value) (pr : Int32) (la : Addr) (vl : Value) (lm : Value) (h0 : Heap) (n0 : Nat) (cb : Int32) (el : Addr) (v : Option Value) (h : Heap) (L : List Loc) : Prop := v = none ∧ Fr n0 L ∧ Keep h0 h [a1] ∧ Fld Z h a1 cS "connected" "Z" (.int cb) ∧ Fld Z h a1 cS "severity" dV sv ∧ Fld Z h a1 cS "precision" "I" (.int pr) ∧ Fld Z h a1 cS "labels" "Ljava/util/List;" (.ref el) ∧ Fld Z h a1 cS "value" oO vl ∧ Fld Z h a1 cS "limits" dD lm
set_option maxRecDepth 65536 in
set_option maxHeartbeats 40000000 in
theorem rmC6_A0 (l : Launch) (Z : State) (a0 : Array Value) (hw : HW a0 Z) (ws : List Jvm.Cond) (a1 : Addr) (cn : Int32) (sv : Value) (rsv : sv.isRef = true) (pr : Int32) (la : Addr) (vl : Value) (rvl : vl.isRef = true) (lm : Value) (rlm : lm.isRef = true) (h0 : Heap) (n0 : Nat) (Z0 : n0 ≤ h0.size) (X00 : Old Z n0 h0) (E1 : Exa Z h0 a1 cS) (F0 : Fld Z h0 a1 cS "connected" "Z" (.int 0)) (F1 : Fld Z h0 a1 cS "severity" dV .null) (F2 : Fld Z h0 a1 cS "precision" "I" (.int 0)) (F3 : Fld Z h0 a1 cS "labels" "Ljava/util/List;" .null) (F4 : Fld Z h0 a1 cS "value" oO .null) (F5 : Fld Z h0 a1 cS "limits" dD .null) (g1 : n0 ≤ a1) (cb : Int32) (hcb : narrow .boolean (.int cn) = .int cb) (el ea : Addr) (kE : ClassId) (Se : Sta Z Z.heap cI "EMPTY_LIST" zZ12 (.ref el)) (Ee : Exa Z Z.heap el cN) (Fa : Fld Z Z.heap el cN "allowNulls" "Z" (.int 0)) (Fel : Fld Z Z.heap el cN "elements" "[Ljava/lang/Object;" (.ref ea)) (Ae : Arv Z Z.heap ea kE (.object cO) (0 : Int32) [] .null) (Ela : Exa Z h0 la cA) (Fsz : Fld Z h0 la cA "size" "I" (.int 0)) (nla : a1 ≠ la) :
    MetFree l (⟨cS, "<init>", zZ5⟩ : MethodName) (head1 (Jvm.Cond.code (⟨cS, "<init>", zZ5⟩ : MethodName) kQ30 7 none :: ws) (rO 3 0 0 37)) (fun a U => a = #[(.ref a1), (.int cn), sv, (.int pr), (.ref la), vl, lm] ∧ Z.Warmed39 U.vm ∧ U.heap = h0) (fun _ _ _ _ _ => True) (fun _ U o U' => ∃ v L, o = .returned v ∧ Q_rmC6_A0 Z a1 cn sv pr la vl lm h0 n0 cb el v U'.heap L ∧ FrameEnd U o U' L (rO 3 0 0 37).cells (rO 3 0 0 37).slots) := by
  refine MetFree.of_bodySF (plainFor_of_name pn16) hisR ?_
  intro p e s m args below meth c s₁ Bd hml0 hP hK
  obtain ⟨rfl, hZ, hh⟩ := hP
  have hx := Bd.exec
  have hby := Bd.bytes
  have bd : ∀ {pc r}, decode kQ30 pc = r → decode c.code pc = r := fun q => hb hby q
  have hlk : meth.locks = false := Bd.notSynchronized
  have hml : c.maxLocals = 7 := hml0
  have hown : s.vm.findClass cS = some m.cls := findClass_of_methodNamed Bd.named
  have hnm := (name_of_methodNamed Bd.named Bd.method).1
  have X0 : Stand p l e (rO 3 0 0 37) s m #[(.ref a1), (.int cn), sv, (.int pr), (.ref la), vl, lm] below meth c s₁ [] 0 0 := Stand.of_body Bd
  have e0 : s₁.heap = h0 := by rw [← hh, Bd.state]; rfl
  have N0 := Fr.nil n0
  suffices hgo : OD p e s below (Q_rmC6_A0 Z a1 cn sv pr la vl lm h0 n0 cb el) (rO 3 0 0 37).cells (rO 3 0 0 37).slots (s₁.setTop (mkF m 0 #[.val (.ref a1), .val (.int cn), .val sv, .val (.int pr), .val (.ref la), .val vl, .val lm] [])) by
    obtain ⟨s₂, o, hgo1, hgo2⟩ := hgo
    exact ⟨s₂, o, castTop (ef12 m a1 cn sv rsv pr la vl rvl lm rlm) hgo1, hgo2⟩
  refine OD.go (B := (s₁.setTop (mkF m 1 #[.val (.ref a1), .val (.int cn), .val sv, .val (.int pr), .val (.ref la), .val vl, .val lm] [(.ref a1)]))) (fun t k => XS.aloadN X0.here hx rfl (bd d16_0) rfl rfl k) ?_
  obtain ⟨_, _, ⟨T1, L1, k1, n1⟩, -, X1, ⟨Lc1, hQ1, l1, y1, z1⟩, st1⟩ := X0.specialBack hx (y := (⟨"java/lang/Record", "<init>", "()V"⟩ : MethodName)) rfl hown (mvT hZ (Wd84 hw)) (mvT hZ (Wd85 hw)) (mvT hZ (Wd88 hw)) (by decide) (backOf (W := 0) (rmR l Z a0 hw [] a1 h0) hZ (Wd88 hw) (Wd87 hw) (by decide) (by decide)) (g := (mkF m 1 #[.val (.ref a1), .val (.int cn), .val sv, .val (.int pr), .val (.ref la), .val vl, .val lm] [(.ref a1)])) rfl (by rw [hml]; rfl) (Steps.refl _) (a := a1) (argsL := []) (rest := []) (lenOf pd0 rfl) rfl (by show 2 * 0 + _ ≤ _; exact Nat.le_of_eq rfl) (bd d16_1) (fun _ _ => ⟨rfl, e0, (nl rfl), (nl rfl)⟩)
  dsimp only [Pt.U, Pt.locs, Pt.cells, Pt.slots] at X1 l1 y1 z1 st1 hQ1
  subst l1 y1 z1
  obtain ⟨rfl, rfl, e1⟩ := hQ1
  have N1 := Fr.app N0 (Fr.nil _)
  refine OD.via st1 ?_
  refine OD.go (B := (T1.setTop (mkF m 6 #[.val (.ref a1), .val (.int cn), .val sv, .val (.int pr), .val (.ref la), .val vl, .val lm] [(.ref la)]))) (fun t k => XS.aload X1.here hx rfl (bd d16_4) rfl rfl k) ?_
  obtain ⟨_, _, ⟨T2, L2, k2, n2⟩, -, X2, ⟨Lc2, hQ2, l2, y2, z2⟩, st2⟩ := Jvm.LawKit.callS X1 hx (y := (⟨"java/util/List", "copyOf", zZ2⟩ : MethodName)) hown (mvT hZ (Wd90 hw)) (mvT hZ (Wd91 hw)) (mvT hZ (Wd92 hw)) (mvT hZ (Wd93 hw)) (by decide) (backOf (W := 0) (rmCO_A0 l Z a0 hw [] la h0 n0 Z0 X00 el ea kE Se Ee Fa Fel Ae Ela Fsz) hZ (Wd93 hw) (Wd92 hw) (by decide) (by decide)) (g := (mkF m 6 #[.val (.ref a1), .val (.int cn), .val sv, .val (.int pr), .val (.ref la), .val vl, .val lm] [(.ref la)])) rfl (by rw [hml]; rfl) (argsL := [(.ref la)]) (rest := []) (lenOf pd17 rfl) rfl (by show 2 * 0 + _ ≤ _; exact Nat.le_of_eq rfl) (bd d16_6) (fun _ _ => ⟨rfl, e1, (nl rfl), (nl rfl)⟩)
  dsimp only [Pt.U, Pt.locs, Pt.cells, Pt.slots] at X2 l2 y2 z2 st2 hQ2
  subst l2 y2 z2
  obtain ⟨rfl, rfl, e2⟩ := hQ2
  have N2 := Fr.app N1 (Fr.nil _)
  refine OD.go st2 ?_
  refine OD.go (B := (T2.setTop (mkF m 13 #[.val (.ref a1), .val (.int cn), .val sv, .val (.int pr), .val (.ref el), .val vl, .val lm] [(.int cn), (.ref a1)]))) (fun t k => XS.astore X2.here hx rfl (bd d16_9) rfl rfl (l' := #[.val (.ref a1), .val (.int cn), .val sv, .val (.int pr), .val (.ref el), .val vl, .val lm]) rfl (XS.aloadN X2.here hx rfl (bd d16_11) rfl rfl (XS.iloadN X2.here hx rfl (bd d16_12) rfl k))) ?_
  obtain ⟨T3, h3, X3, e3, W3, st3⟩ := putFN X2 hx hZ hown (Wd119 hw) Via.refl e2 F0 E1 (Or.inr ⟨(Wd120 hw), rfl, hnm⟩) (Wd76 hw) (ty := .boolean) (v' := (.int cb)) (by decide) hcb (own_fitB hcb) (g := (mkF m 13 #[.val (.ref a1), .val (.int cn), .val sv, .val (.int pr), .val (.ref el), .val vl, .val lm] [(.int cn), (.ref a1)])) rfl rfl (bd d16_13)
  have Fx3 := F0.same W3
  have N3 := Fr.snoc X3 N2 g1
  refine OD.go st3 ?_
  refine OD.go (B := (T3.setTop (mkF m 18 #[.val (.ref a1), .val (.int cn), .val sv, .val (.int pr), .val (.ref el), .val vl, .val lm] [sv, (.ref a1)]))) (fun t k => XS.aloadN X3.here hx rfl (bd d16_16) rfl rfl (XS.aloadN X3.here hx rfl (bd d16_17) rfl (rsv) k)) ?_
  have f4 := (F1.other W3 (Or.inr (slot_ne (Or.inr (Wd122 hw)) (Or.inr (Wd120 hw)) (by decide) (t := (.object cV)) (t' := .boolean) (by decide) (by decide))))
  have f5 := (E1.wr W3)
  obtain ⟨T6, h6, X6, e6, W6, st6⟩ := putF X3 hx hZ hown (host := "") (Or.inl (Wd121 hw)) Via.refl e3 f4 f5 (Or.inr ⟨(Wd122 hw), rfl, hnm⟩) (Wd76 hw) (ty := (.object cV)) (by decide) (own_narR rsv) (own_fitR rsv) (g := (mkF m 18 #[.val (.ref a1), .val (.int cn), .val sv, .val (.int pr), .val (.ref el), .val vl, .val lm] [sv, (.ref a1)])) rfl rfl (bd d16_18)
  have Fx6 := f4.same W6
  have N6 := Fr.snoc X6 N3 g1
  refine OD.go st6 ?_
  refine OD.go (B := (T6.setTop (mkF m 23 #[.val (.ref a1), .val (.int cn), .val sv, .val (.int pr), .val (.ref el), .val vl, .val lm] [(.int pr), (.ref a1)]))) (fun t k => XS.aloadN X6.here hx rfl (bd d16_21) rfl rfl (XS.iloadN X6.here hx rfl (bd d16_22) rfl k)) ?_
  have f7 := ((F2.other W3 (Or.inr (slot_ne (Or.inr (Wd124 hw)) (Or.inr (Wd120 hw)) (by decide) (t := .int) (t' := .boolean) (by decide) (by decide)))).other W6 (Or.inr (slot_ne (Or.inr (Wd124 hw)) (Or.inr (Wd122 hw)) (by decide) (t := .int) (t' := (.object cV)) (by decide) (by decide))))
  have f8 := (f5.wr W6)
  obtain ⟨T9, h9, X9, e9, W9, st9⟩ := putF X6 hx hZ hown (host := "") (Or.inl (Wd123 hw)) Via.refl e6 f7 f8 (Or.inr ⟨(Wd124 hw), rfl, hnm⟩) (Wd76 hw) (ty := .int) (by decide) rfl rfl (g := (mkF m 23 #[.val (.ref a1), .val (.int cn), .val sv, .val (.int pr), .val (.ref el), .val vl, .val lm] [(.int pr), (.ref a1)])) rfl rfl (bd d16_23)
  have Fx9 := f7.same W9
  have N9 := Fr.snoc X9 N6 g1
  refine OD.go st9 ?_
  refine OD.go (B := (T9.setTop (mkF m 29 #[.val (.ref a1), .val (.int cn), .val sv, .val (.int pr), .val (.ref el), .val vl, .val lm] [(.ref el), (.ref a1)]))) (fun t k => XS.aloadN X9.here hx rfl (bd d16_26) rfl rfl (XS.aload X9.here hx rfl (bd d16_27) rfl rfl k)) ?_
  have f10 := (((F3.other W3 (Or.inr (slot_ne (Or.inr (Wd126 hw)) (Or.inr (Wd120 hw)) (by decide) (t := (.object "java/util/List")) (t' := .boolean) (by decide) (by decide)))).other W6 (Or.inr (slot_ne (Or.inr (Wd126 hw)) (Or.inr (Wd122 hw)) (by decide) (t := (.object "java/util/List")) (t' := (.object cV)) (by decide) (by decide)))).other W9 (Or.inr (slot_ne (Or.inr (Wd126 hw)) (Or.inr (Wd124 hw)) (by decide) (t := (.object "java/util/List")) (t' := .int) (by decide) (by decide))))
  have f11 := (f8.wr W9)
  obtain ⟨T12, h12, X12, e12, W12, st12⟩ := putF X9 hx hZ hown (host := "") (Or.inl (Wd125 hw)) Via.refl e9 f10 f11 (Or.inr ⟨(Wd126 hw), rfl, hnm⟩) (Wd76 hw) (ty := (.object "java/util/List")) (by decide) rfl rfl (g := (mkF m 29 #[.val (.ref a1), .val (.int cn), .val sv, .val (.int pr), .val (.ref el), .val vl, .val lm] [(.ref el), (.ref a1)])) rfl rfl (bd d16_29)
  have Fx12 := f10.same W12
  have N12 := Fr.snoc X12 N9 g1
  refine OD.go st12 ?_
  refine OD.go (B := (T12.setTop (mkF m 35 #[.val (.ref a1), .val (.int cn), .val sv, .val (.int pr), .val (.ref el), .val vl, .val lm] [vl, (.ref a1)]))) (fun t k => XS.aloadN X12.here hx rfl (bd d16_32) rfl rfl (XS.aload X12.here hx rfl (bd d16_33) rfl (rvl) k)) ?_
  have f13 := ((((F4.other W3 (Or.inr (slot_ne (Or.inr (Wd128 hw)) (Or.inr (Wd120 hw)) (by decide) (t := (.object cO)) (t' := .boolean) (by decide) (by decide)))).other W6 (Or.inr (slot_ne (Or.inr (Wd128 hw)) (Or.inr (Wd122 hw)) (by decide) (t := (.object cO)) (t' := (.object cV)) (by decide) (by decide)))).other W9 (Or.inr (slot_ne (Or.inr (Wd128 hw)) (Or.inr (Wd124 hw)) (by decide) (t := (.object cO)) (t' := .int) (by decide) (by decide)))).other W12 (Or.inr (slot_ne (Or.inr (Wd128 hw)) (Or.inr (Wd126 hw)) (by decide) (t := (.object cO)) (t' := (.object "java/util/List")) (by decide) (by decide))))
  have f14 := (f11.wr W12)
  obtain ⟨T15, h15, X15, e15, W15, st15⟩ := putF X12 hx hZ hown (host := "") (Or.inl (Wd127 hw)) Via.refl e12 f13 f14 (Or.inr ⟨(Wd128 hw), rfl, hnm⟩) (Wd76 hw) (ty := (.object cO)) (by decide) (own_narR rvl) (own_fitR rvl) (g := (mkF m 35 #[.val (.ref a1), .val (.int cn), .val sv, .val (.int pr), .val (.ref el), .val vl, .val lm] [vl, (.ref a1)])) rfl rfl (bd d16_35)
  have Fx15 := f13.same W15
  have N15 := Fr.snoc X15 N12 g1
  refine OD.go st15 ?_
  refine OD.go (B := (T15.setTop (mkF m 41 #[.val (.ref a1), .val (.int cn), .val sv, .val (.int pr), .val (.ref el), .val vl, .val lm] [lm, (.ref a1)]))) (fun t k => XS.aloadN X15.here hx rfl (bd d16_38) rfl rfl (XS.aload X15.here hx rfl (bd d16_39) rfl (rlm) k)) ?_
  have f16 := (((((F5.other W3 (Or.inr (slot_ne (Or.inr (Wd130 hw)) (Or.inr (Wd120 hw)) (by decide) (t := (.object cD)) (t' := .boolean) (by decide) (by decide)))).other W6 (Or.inr (slot_ne (Or.inr (Wd130 hw)) (Or.inr (Wd122 hw)) (by decide) (t := (.object cD)) (t' := (.object cV)) (by decide) (by decide)))).other W9 (Or.inr (slot_ne (Or.inr (Wd130 hw)) (Or.inr (Wd124 hw)) (by decide) (t := (.object cD)) (t' := .int) (by decide) (by decide)))).other W12 (Or.inr (slot_ne (Or.inr (Wd130 hw)) (Or.inr (Wd126 hw)) (by decide) (t := (.object cD)) (t' := (.object "java/util/List")) (by decide) (by decide)))).other W15 (Or.inr (slot_ne (Or.inr (Wd130 hw)) (Or.inr (Wd128 hw)) (by decide) (t := (.object cD)) (t' := (.object cO)) (by decide) (by decide))))
  have f17 := (f14.wr W15)
  obtain ⟨T18, h18, X18, e18, W18, st18⟩ := putF X15 hx hZ hown (host := "") (Or.inl (Wd129 hw)) Via.refl e15 f16 f17 (Or.inr ⟨(Wd130 hw), rfl, hnm⟩) (Wd76 hw) (ty := (.object cD)) (by decide) (own_narR rlm) (own_fitR rlm) (g := (mkF m 41 #[.val (.ref a1), .val (.int cn), .val sv, .val (.int pr), .val (.ref el), .val vl, .val lm] [lm, (.ref a1)])) rfl rfl (bd d16_41)
  have Fx18 := f16.same W18
  have N18 := Fr.snoc X18 N15 g1
  refine OD.go (B := (T18.setTop (mkF m 44 #[.val (.ref a1), .val (.int cn), .val sv, .val (.int pr), .val (.ref el), .val vl, .val lm] []))) st18 ?_
  exact OD.retV X18 hx hlk Bd.returns (bd d16_44) (nl rfl) (nl rfl) ⟨rfl, N18, by rw [e18]; exact (((((((Keep.refl h0 [a1]).wr W3 (Or.inl (List.mem_of_getElem? (i := 0) rfl))).wr W6 (Or.inl (List.mem_of_getElem? (i := 0) rfl))).wr W9 (Or.inl (List.mem_of_getElem? (i := 0) rfl))).wr W12 (Or.inl (List.mem_of_getElem? (i := 0) rfl))).wr W15 (Or.inl (List.mem_of_getElem? (i := 0) rfl))).wr W18 (Or.inl (List.mem_of_getElem? (i := 0) rfl))), by rw [e18]; exact (((((Fx3.other W6 (Or.inr (slot_ne (Or.inr (Wd120 hw)) (Or.inr (Wd122 hw)) (by decide) (t := .boolean) (t' := (.object cV)) (by decide) (by decide)))).other W9 (Or.inr (slot_ne (Or.inr (Wd120 hw)) (Or.inr (Wd124 hw)) (by decide) (t := .boolean) (t' := .int) (by decide) (by decide)))).other W12 (Or.inr (slot_ne (Or.inr (Wd120 hw)) (Or.inr (Wd126 hw)) (by decide) (t := .boolean) (t' := (.object "java/util/List")) (by decide) (by decide)))).other W15 (Or.inr (slot_ne (Or.inr (Wd120 hw)) (Or.inr (Wd128 hw)) (by decide) (t := .boolean) (t' := (.object cO)) (by decide) (by decide)))).other W18 (Or.inr (slot_ne (Or.inr (Wd120 hw)) (Or.inr (Wd130 hw)) (by decide) (t := .boolean) (t' := (.object cD)) (by decide) (by decide)))), by rw [e18]; exact ((((Fx6.other W9 (Or.inr (slot_ne (Or.inr (Wd122 hw)) (Or.inr (Wd124 hw)) (by decide) (t := (.object cV)) (t' := .int) (by decide) (by decide)))).other W12 (Or.inr (slot_ne (Or.inr (Wd122 hw)) (Or.inr (Wd126 hw)) (by decide) (t := (.object cV)) (t' := (.object "java/util/List")) (by decide) (by decide)))).other W15 (Or.inr (slot_ne (Or.inr (Wd122 hw)) (Or.inr (Wd128 hw)) (by decide) (t := (.object cV)) (t' := (.object cO)) (by decide) (by decide)))).other W18 (Or.inr (slot_ne (Or.inr (Wd122 hw)) (Or.inr (Wd130 hw)) (by decide) (t := (.object cV)) (t' := (.object cD)) (by decide) (by decide)))), by rw [e18]; exact (((Fx9.other W12 (Or.inr (slot_ne (Or.inr (Wd124 hw)) (Or.inr (Wd126 hw)) (by decide) (t := .int) (t' := (.object "java/util/List")) (by decide) (by decide)))).other W15 (Or.inr (slot_ne (Or.inr (Wd124 hw)) (Or.inr (Wd128 hw)) (by decide) (t := .int) (t' := (.object cO)) (by decide) (by decide)))).other W18 (Or.inr (slot_ne (Or.inr (Wd124 hw)) (Or.inr (Wd130 hw)) (by decide) (t := .int) (t' := (.object cD)) (by decide) (by decide)))), by rw [e18]; exact ((Fx12.other W15 (Or.inr (slot_ne (Or.inr (Wd126 hw)) (Or.inr (Wd128 hw)) (by decide) (t := (.object "java/util/List")) (t' := (.object cO)) (by decide) (by decide)))).other W18 (Or.inr (slot_ne (Or.inr (Wd126 hw)) (Or.inr (Wd130 hw)) (by decide) (t := (.object "java/util/List")) (t' := (.object cD)) (by decide) (by decide)))), by rw [e18]; exact (Fx15.other W18 (Or.inr (slot_ne (Or.inr (Wd128 hw)) (Or.inr (Wd130 hw)) (by decide) (t := (.object cO)) (t' := (.object cD)) (by decide) (by decide)))), by rw [e18]; exact Fx18⟩
def Q_rmC6_A1 (Z : State) (a1 : Addr) (cn : Int32) (sv : Value) (pr : Int32) (la : Addr) (vl : Value) (lm : Value) (h0 : Heap) (n0 : Nat) (cb : Int32) (em : Addr) (x0 : Addr) (v : Option Value) (h : Heap) (L : List Loc) : Prop := ∃ b, v = none ∧ Fr n0 L ∧ Keep h0 h [a1] ∧ Fld Z h a1 cS "connected" "Z" (.int cb) ∧ Fld Z h a1 cS "severity" dV sv ∧ Fld Z h a1 cS "precision" "I" (.int pr) ∧ Fld Z h a1 cS "labels" "Ljava/util/List;" (.ref b) ∧ Fld Z h a1 cS "value" oO vl ∧ Fld Z h a1 cS "limits" dD lm ∧ h0.size ≤ b ∧ Exa Z h b c2 ∧ Fld Z h b c2 "e0" oO (.ref x0) ∧ Fld Z h b c2 "e1" oO (.ref em)
set_option maxRecDepth 65536 in
set_option maxHeartbeats 40000000 in
theorem rmC6_A1 (l : Launch) (Z : State) (a0 : Array Value) (hw : HW a0 Z) (ws : List Jvm.Cond) (a1 : Addr) (cn : Int32) (sv : Value) (rsv : sv.isRef = true) (pr : Int32) (la : Addr) (vl : Value) (rvl : vl.isRef = true) (lm : Value) (rlm : lm.isRef = true) (h0 : Heap) (n0 : Nat) (Z0 : n0 ≤ h0.size) (X00 : Old Z n0 h0) (E1 : Exa Z h0 a1 cS) (F0 : Fld Z h0 a1 cS "connected" "Z" (.int 0)) (F1 : Fld Z h0 a1 cS "severity" dV .null) (F2 : Fld Z h0 a1 cS "precision" "I" (.int 0)) (F3 : Fld Z h0 a1 cS "labels" "Ljava/util/List;" .null) (F4 : Fld Z h0 a1 cS "value" oO .null) (F5 : Fld Z h0 a1 cS "limits" dD .null) (g1 : n0 ≤ a1) (cb : Int32) (hcb : narrow .boolean (.int cn) = .int cb) (em : Addr) (Sm : Sta Z Z.heap cI "EMPTY" oO (.ref em)) (Ela : Exa Z h0 la cA) (Fsz : Fld Z h0 la cA "size" "I" (.int 1)) (ar : Addr) (Fed : Fld Z h0 la cA "elementData" "[Ljava/lang/Object;" (.ref ar)) (x0 : Addr) (Ex0 : Exa Z h0 x0 "java/lang/String") (ka : ClassId) (Aa : Arv Z h0 ar ka (.object cO) (10 : Int32) [(.ref x0), .null, .null, .null, .null, .null, .null, .null, .null, .null] .null) (Oa : OvO Z ka) (mr : Addr) (Mr : MirM Z mr) (nla : a1 ≠ la) (nar_ : a1 ≠ ar) (nx0 : a1 ≠ x0) :
    MetFree l (⟨cS, "<init>", zZ5⟩ : MethodName) (head1 (Jvm.Cond.code (⟨cS, "<init>", zZ5⟩ : MethodName) kQ30 7 none :: ws) (rO 8 2 3 115)) (fun a U => a = #[(.ref a1), (.int cn), sv, (.int pr), (.ref la), vl, lm] ∧ Z.Warmed39 U.vm ∧ U.heap = h0) (fun _ _ _ _ _ => True) (fun _ U o U' => ∃ v L, o = .returned v ∧ Q_rmC6_A1 Z a1 cn sv pr la vl lm h0 n0 cb em x0 v U'.heap L ∧ FrameEnd U o U' L (rO 8 2 3 115).cells (rO 8 2 3 115).slots) := by
  refine MetFree.of_bodySF (plainFor_of_name pn16) hisR ?_
  intro p e s m args below meth c s₁ Bd hml0 hP hK
  obtain ⟨rfl, hZ, hh⟩ := hP
  have hx := Bd.exec
  have hby := Bd.bytes
  have bd : ∀ {pc r}, decode kQ30 pc = r → decode c.code pc = r := fun q => hb hby q
  have hlk : meth.locks = false := Bd.notSynchronized
  have hml : c.maxLocals = 7 := hml0
  have hown : s.vm.findClass cS = some m.cls := findClass_of_methodNamed Bd.named
  have hnm := (name_of_methodNamed Bd.named Bd.method).1
  have X0 : Stand p l e (rO 8 2 3 115) s m #[(.ref a1), (.int cn), sv, (.int pr), (.ref la), vl, lm] below meth c s₁ [] 0 0 := Stand.of_body Bd
  have e0 : s₁.heap = h0 := by rw [← hh, Bd.state]; rfl
  have N0 := Fr.nil n0
  suffices hgo : OD p e s below (Q_rmC6_A1 Z a1 cn sv pr la vl lm h0 n0 cb em x0) (rO 8 2 3 115).cells (rO 8 2 3 115).slots (s₁.setTop (mkF m 0 #[.val (.ref a1), .val (.int cn), .val sv, .val (.int pr), .val (.ref la), .val vl, .val lm] [])) by
    obtain ⟨s₂, o, hgo1, hgo2⟩ := hgo
    exact ⟨s₂, o, castTop (ef12 m a1 cn sv rsv pr la vl rvl lm rlm) hgo1, hgo2⟩
  refine OD.go (B := (s₁.setTop (mkF m 1 #[.val (.ref a1), .val (.int cn), .val sv, .val (.int pr), .val (.ref la), .val vl, .val lm] [(.ref a1)]))) (fun t k => XS.aloadN X0.here hx rfl (bd d16_0) rfl rfl k) ?_
  obtain ⟨_, _, ⟨T1, L1, k1, n1⟩, -, X1, ⟨Lc1, hQ1, l1, y1, z1⟩, st1⟩ := X0.specialBack hx (y := (⟨"java/lang/Record", "<init>", "()V"⟩ : MethodName)) rfl hown (mvT hZ (Wd84 hw)) (mvT hZ (Wd85 hw)) (mvT hZ (Wd88 hw)) (by decide) (backOf (W := 0) (rmR l Z a0 hw [] a1 h0) hZ (Wd88 hw) (Wd87 hw) (by decide) (by decide)) (g := (mkF m 1 #[.val (.ref a1), .val (.int cn), .val sv, .val (.int pr), .val (.ref la), .val vl, .val lm] [(.ref a1)])) rfl (by rw [hml]; rfl) (Steps.refl _) (a := a1) (argsL := []) (rest := []) (lenOf pd0 rfl) rfl (by show 2 * 0 + _ ≤ _; exact Nat.le_of_eq rfl) (bd d16_1) (fun _ _ => ⟨rfl, e0, (nl rfl), (nl rfl)⟩)
  dsimp only [Pt.U, Pt.locs, Pt.cells, Pt.slots] at X1 l1 y1 z1 st1 hQ1
  subst l1 y1 z1
  obtain ⟨rfl, rfl, e1⟩ := hQ1
  have N1 := Fr.app N0 (Fr.nil _)
  refine OD.via st1 ?_
  refine OD.go (B := (T1.setTop (mkF m 6 #[.val (.ref a1), .val (.int cn), .val sv, .val (.int pr), .val (.ref la), .val vl, .val lm] [(.ref la)]))) (fun t k => XS.aload X1.here hx rfl (bd d16_4) rfl rfl k) ?_
  obtain ⟨_, _, ⟨T2, L2, k2, n2⟩, -, X2, ⟨Lc2, hQ2, l2, y2, z2⟩, st2⟩ := Jvm.LawKit.callS X1 hx (y := (⟨"java/util/List", "copyOf", zZ2⟩ : MethodName)) hown (mvT hZ (Wd90 hw)) (mvT hZ (Wd91 hw)) (mvT hZ (Wd92 hw)) (mvT hZ (Wd93 hw)) (by decide) (backOf (W := 0) (rmCO_A1 l Z a0 hw [] la h0 n0 Z0 X00 em Sm Ela Fsz ar Fed x0 Ex0 ka Aa Oa mr Mr) hZ (Wd93 hw) (Wd92 hw) (by decide) (by decide)) (g := (mkF m 6 #[.val (.ref a1), .val (.int cn), .val sv, .val (.int pr), .val (.ref la), .val vl, .val lm] [(.ref la)])) rfl (by rw [hml]; rfl) (argsL := [(.ref la)]) (rest := []) (lenOf pd17 rfl) rfl (by show 2 * 0 + _ ≤ _; exact Nat.le_of_eq rfl) (bd d16_6) (fun _ _ => ⟨rfl, e1, (nl rfl), (nl rfl)⟩)
  dsimp only [Pt.U, Pt.locs, Pt.cells, Pt.slots] at X2 l2 y2 z2 st2 hQ2
  subst l2 y2 z2
  obtain ⟨b2, rfl, Nq2, K2, ob2, E2, G02, G12⟩ := hQ2
  have N2 := Fr.app N1 Nq2
  have gb2 : n0 ≤ b2 := Nat.le_trans Z0 ob2
  refine OD.go st2 ?_
  refine OD.go (B := (T2.setTop (mkF m 13 #[.val (.ref a1), .val (.int cn), .val sv, .val (.int pr), .val (.ref b2), .val vl, .val lm] [(.int cn), (.ref a1)]))) (fun t k => XS.astore X2.here hx rfl (bd d16_9) rfl rfl (l' := #[.val (.ref a1), .val (.int cn), .val sv, .val (.int pr), .val (.ref b2), .val vl, .val lm]) rfl (XS.aloadN X2.here hx rfl (bd d16_11) rfl rfl (XS.iloadN X2.here hx rfl (bd d16_12) rfl k))) ?_
  have f3 := (F0.keep K2 nin0)
  have f4 := (E1.keep K2)
  obtain ⟨T5, h5, X5, e5, W5, st5⟩ := putFN X2 hx hZ hown (Wd119 hw) Via.refl rfl f3 f4 (Or.inr ⟨(Wd120 hw), rfl, hnm⟩) (Wd76 hw) (ty := .boolean) (v' := (.int cb)) (by decide) hcb (own_fitB hcb) (g := (mkF m 13 #[.val (.ref a1), .val (.int cn), .val sv, .val (.int pr), .val (.ref b2), .val vl, .val lm] [(.int cn), (.ref a1)])) rfl rfl (bd d16_13)
  have Fx5 := f3.same W5
  have N5 := Fr.snoc X5 N2 g1
  refine OD.go st5 ?_
  refine OD.go (B := (T5.setTop (mkF m 18 #[.val (.ref a1), .val (.int cn), .val sv, .val (.int pr), .val (.ref b2), .val vl, .val lm] [sv, (.ref a1)]))) (fun t k => XS.aloadN X5.here hx rfl (bd d16_16) rfl rfl (XS.aloadN X5.here hx rfl (bd d16_17) rfl (rsv) k)) ?_
  have f6 := ((F1.keep K2 nin0).other W5 (Or.inr (slot_ne (Or.inr (Wd122 hw)) (Or.inr (Wd120 hw)) (by decide) (t := (.object cV)) (t' := .boolean) (by decide) (by decide))))
  have f7 := (f4.wr W5)
  obtain ⟨T8, h8, X8, e8, W8, st8⟩ := putF X5 hx hZ hown (host := "") (Or.inl (Wd121 hw)) Via.refl e5 f6 f7 (Or.inr ⟨(Wd122 hw), rfl, hnm⟩) (Wd76 hw) (ty := (.object cV)) (by decide) (own_narR rsv) (own_fitR rsv) (g := (mkF m 18 #[.val (.ref a1), .val (.int cn), .val sv, .val (.int pr), .val (.ref b2), .val vl, .val lm] [sv, (.ref a1)])) rfl rfl (bd d16_18)
  have Fx8 := f6.same W8
  have N8 := Fr.snoc X8 N5 g1
  refine OD.go st8 ?_
  refine OD.go (B := (T8.setTop (mkF m 23 #[.val (.ref a1), .val (.int cn), .val sv, .val (.int pr), .val (.ref b2), .val vl, .val lm] [(.int pr), (.ref a1)]))) (fun t k => XS.aloadN X8.here hx rfl (bd d16_21) rfl rfl (XS.iloadN X8.here hx rfl (bd d16_22) rfl k)) ?_
  have f9 := (((F2.keep K2 nin0).other W5 (Or.inr (slot_ne (Or.inr (Wd124 hw)) (Or.inr (Wd120 hw)) (by decide) (t := .int) (t' := .boolean) (by decide) (by decide)))).other W8 (Or.inr (slot_ne (Or.inr (Wd124 hw)) (Or.inr (Wd122 hw)) (by decide) (t := .int) (t' := (.object cV)) (by decide) (by decide))))
  have f10 := (f7.wr W8)
  obtain ⟨T11, h11, X11, e11, W11, st11⟩ := putF X8 hx hZ hown (host := "") (Or.inl (Wd123 hw)) Via.refl e8 f9 f10 (Or.inr ⟨(Wd124 hw), rfl, hnm⟩) (Wd76 hw) (ty := .int) (by decide) rfl rfl (g := (mkF m 23 #[.val (.ref a1), .val (.int cn), .val sv, .val (.int pr), .val (.ref b2), .val vl, .val lm] [(.int pr), (.ref a1)])) rfl rfl (bd d16_23)
  have Fx11 := f9.same W11
  have N11 := Fr.snoc X11 N8 g1
  refine OD.go st11 ?_
  refine OD.go (B := (T11.setTop (mkF m 29 #[.val (.ref a1), .val (.int cn), .val sv, .val (.int pr), .val (.ref b2), .val vl, .val lm] [(.ref b2), (.ref a1)]))) (fun t k => XS.aloadN X11.here hx rfl (bd d16_26) rfl rfl (XS.aload X11.here hx rfl (bd d16_27) rfl rfl k)) ?_
  have f12 := ((((F3.keep K2 nin0).other W5 (Or.inr (slot_ne (Or.inr (Wd126 hw)) (Or.inr (Wd120 hw)) (by decide) (t := (.object "java/util/List")) (t' := .boolean) (by decide) (by decide)))).other W8 (Or.inr (slot_ne (Or.inr (Wd126 hw)) (Or.inr (Wd122 hw)) (by decide) (t := (.object "java/util/List")) (t' := (.object cV)) (by decide) (by decide)))).other W11 (Or.inr (slot_ne (Or.inr (Wd126 hw)) (Or.inr (Wd124 hw)) (by decide) (t := (.object "java/util/List")) (t' := .int) (by decide) (by decide))))
  have f13 := (f10.wr W11)
  obtain ⟨T14, h14, X14, e14, W14, st14⟩ := putF X11 hx hZ hown (host := "") (Or.inl (Wd125 hw)) Via.refl e11 f12 f13 (Or.inr ⟨(Wd126 hw), rfl, hnm⟩) (Wd76 hw) (ty := (.object "java/util/List")) (by decide) rfl rfl (g := (mkF m 29 #[.val (.ref a1), .val (.int cn), .val sv, .val (.int pr), .val (.ref b2), .val vl, .val lm] [(.ref b2), (.ref a1)])) rfl rfl (bd d16_29)
  have Fx14 := f12.same W14
  have N14 := Fr.snoc X14 N11 g1
  refine OD.go st14 ?_
  refine OD.go (B := (T14.setTop (mkF m 35 #[.val (.ref a1), .val (.int cn), .val sv, .val (.int pr), .val (.ref b2), .val vl, .val lm] [vl, (.ref a1)]))) (fun t k => XS.aloadN X14.here hx rfl (bd d16_32) rfl rfl (XS.aload X14.here hx rfl (bd d16_33) rfl (rvl) k)) ?_
  have f15 := (((((F4.keep K2 nin0).other W5 (Or.inr (slot_ne (Or.inr (Wd128 hw)) (Or.inr (Wd120 hw)) (by decide) (t := (.object cO)) (t' := .boolean) (by decide) (by decide)))).other W8 (Or.inr (slot_ne (Or.inr (Wd128 hw)) (Or.inr (Wd122 hw)) (by decide) (t := (.object cO)) (t' := (.object cV)) (by decide) (by decide)))).other W11 (Or.inr (slot_ne (Or.inr (Wd128 hw)) (Or.inr (Wd124 hw)) (by decide) (t := (.object cO)) (t' := .int) (by decide) (by decide)))).other W14 (Or.inr (slot_ne (Or.inr (Wd128 hw)) (Or.inr (Wd126 hw)) (by decide) (t := (.object cO)) (t' := (.object "java/util/List")) (by decide) (by decide))))
  have f16 := (f13.wr W14)
  obtain ⟨T17, h17, X17, e17, W17, st17⟩ := putF X14 hx hZ hown (host := "") (Or.inl (Wd127 hw)) Via.refl e14 f15 f16 (Or.inr ⟨(Wd128 hw), rfl, hnm⟩) (Wd76 hw) (ty := (.object cO)) (by decide) (own_narR rvl) (own_fitR rvl) (g := (mkF m 35 #[.val (.ref a1), .val (.int cn), .val sv, .val (.int pr), .val (.ref b2), .val vl, .val lm] [vl, (.ref a1)])) rfl rfl (bd d16_35)
  have Fx17 := f15.same W17
  have N17 := Fr.snoc X17 N14 g1
  refine OD.go st17 ?_
  refine OD.go (B := (T17.setTop (mkF m 41 #[.val (.ref a1), .val (.int cn), .val sv, .val (.int pr), .val (.ref b2), .val vl, .val lm] [lm, (.ref a1)]))) (fun t k => XS.aloadN X17.here hx rfl (bd d16_38) rfl rfl (XS.aload X17.here hx rfl (bd d16_39) rfl (rlm) k)) ?_
  have f18 := ((((((F5.keep K2 nin0).other W5 (Or.inr (slot_ne (Or.inr (Wd130 hw)) (Or.inr (Wd120 hw)) (by decide) (t := (.object cD)) (t' := .boolean) (by decide) (by decide)))).other W8 (Or.inr (slot_ne (Or.inr (Wd130 hw)) (Or.inr (Wd122 hw)) (by decide) (t := (.object cD)) (t' := (.object cV)) (by decide) (by decide)))).other W11 (Or.inr (slot_ne (Or.inr (Wd130 hw)) (Or.inr (Wd124 hw)) (by decide) (t := (.object cD)) (t' := .int) (by decide) (by decide)))).other W14 (Or.inr (slot_ne (Or.inr (Wd130 hw)) (Or.inr (Wd126 hw)) (by decide) (t := (.object cD)) (t' := (.object "java/util/List")) (by decide) (by decide)))).other W17 (Or.inr (slot_ne (Or.inr (Wd130 hw)) (Or.inr (Wd128 hw)) (by decide) (t := (.object cD)) (t' := (.object cO)) (by decide) (by decide))))
  have f19 := (f16.wr W17)
  obtain ⟨T20, h20, X20, e20, W20, st20⟩ := putF X17 hx hZ hown (host := "") (Or.inl (Wd129 hw)) Via.refl e17 f18 f19 (Or.inr ⟨(Wd130 hw), rfl, hnm⟩) (Wd76 hw) (ty := (.object cD)) (by decide) (own_narR rlm) (own_fitR rlm) (g := (mkF m 41 #[.val (.ref a1), .val (.int cn), .val sv, .val (.int pr), .val (.ref b2), .val vl, .val lm] [lm, (.ref a1)])) rfl rfl (bd d16_41)
  have Fx20 := f18.same W20
  have N20 := Fr.snoc X20 N17 g1
  refine OD.go (B := (T20.setTop (mkF m 44 #[.val (.ref a1), .val (.int cn), .val sv, .val (.int pr), .val (.ref b2), .val vl, .val lm] []))) st20 ?_
  exact OD.retV X20 hx hlk Bd.returns (bd d16_44) (nl rfl) (nl rfl) ⟨_, rfl, N20, by rw [e20]; exact ((((((((Keep.refl h0 [a1]).trans K2 all0).wr W5 (Or.inl (List.mem_of_getElem? (i := 0) rfl))).wr W8 (Or.inl (List.mem_of_getElem? (i := 0) rfl))).wr W11 (Or.inl (List.mem_of_getElem? (i := 0) rfl))).wr W14 (Or.inl (List.mem_of_getElem? (i := 0) rfl))).wr W17 (Or.inl (List.mem_of_getElem? (i := 0) rfl))).wr W20 (Or.inl (List.mem_of_getElem? (i := 0) rfl))), by rw [e20]; exact (((((Fx5.other W8 (Or.inr (slot_ne (Or.inr (Wd120 hw)) (Or.inr (Wd122 hw)) (by decide) (t := .boolean) (t' := (.object cV)) (by decide) (by decide)))).other W11 (Or.inr (slot_ne (Or.inr (Wd120 hw)) (Or.inr (Wd124 hw)) (by decide) (t := .boolean) (t' := .int) (by decide) (by decide)))).other W14 (Or.inr (slot_ne (Or.inr (Wd120 hw)) (Or.inr (Wd126 hw)) (by decide) (t := .boolean) (t' := (.object "java/util/List")) (by decide) (by decide)))).other W17 (Or.inr (slot_ne (Or.inr (Wd120 hw)) (Or.inr (Wd128 hw)) (by decide) (t := .boolean) (t' := (.object cO)) (by decide) (by decide)))).other W20 (Or.inr (slot_ne (Or.inr (Wd120 hw)) (Or.inr (Wd130 hw)) (by decide) (t := .boolean) (t' := (.object cD)) (by decide) (by decide)))), by rw [e20]; exact ((((Fx8.other W11 (Or.inr (slot_ne (Or.inr (Wd122 hw)) (Or.inr (Wd124 hw)) (by decide) (t := (.object cV)) (t' := .int) (by decide) (by decide)))).other W14 (Or.inr (slot_ne (Or.inr (Wd122 hw)) (Or.inr (Wd126 hw)) (by decide) (t := (.object cV)) (t' := (.object "java/util/List")) (by decide) (by decide)))).other W17 (Or.inr (slot_ne (Or.inr (Wd122 hw)) (Or.inr (Wd128 hw)) (by decide) (t := (.object cV)) (t' := (.object cO)) (by decide) (by decide)))).other W20 (Or.inr (slot_ne (Or.inr (Wd122 hw)) (Or.inr (Wd130 hw)) (by decide) (t := (.object cV)) (t' := (.object cD)) (by decide) (by decide)))), by rw [e20]; exact (((Fx11.other W14 (Or.inr (slot_ne (Or.inr (Wd124 hw)) (Or.inr (Wd126 hw)) (by decide) (t := .int) (t' := (.object "java/util/List")) (by decide) (by decide)))).other W17 (Or.inr (slot_ne (Or.inr (Wd124 hw)) (Or.inr (Wd128 hw)) (by decide) (t := .int) (t' := (.object cO)) (by decide) (by decide)))).other W20 (Or.inr (slot_ne (Or.inr (Wd124 hw)) (Or.inr (Wd130 hw)) (by decide) (t := .int) (t' := (.object cD)) (by decide) (by decide)))), by rw [e20]; exact ((Fx14.other W17 (Or.inr (slot_ne (Or.inr (Wd126 hw)) (Or.inr (Wd128 hw)) (by decide) (t := (.object "java/util/List")) (t' := (.object cO)) (by decide) (by decide)))).other W20 (Or.inr (slot_ne (Or.inr (Wd126 hw)) (Or.inr (Wd130 hw)) (by decide) (t := (.object "java/util/List")) (t' := (.object cD)) (by decide) (by decide)))), by rw [e20]; exact (Fx17.other W20 (Or.inr (slot_ne (Or.inr (Wd128 hw)) (Or.inr (Wd130 hw)) (by decide) (t := (.object cO)) (t' := (.object cD)) (by decide) (by decide)))), by rw [e20]; exact Fx20, (Nat.le_trans (Nat.le_refl _) ob2), by rw [e20]; exact ((((((E2.wr W5).wr W8).wr W11).wr W14).wr W17).wr W20), by rw [e20]; exact ((((((G02.other W5 (Or.inl (Ne.symm (Nat.ne_of_lt (Nat.lt_of_lt_of_le E1.lt ob2))))).other W8 (Or.inl (Ne.symm (Nat.ne_of_lt (Nat.lt_of_lt_of_le E1.lt ob2))))).other W11 (Or.inl (Ne.symm (Nat.ne_of_lt (Nat.lt_of_lt_of_le E1.lt ob2))))).other W14 (Or.inl (Ne.symm (Nat.ne_of_lt (Nat.lt_of_lt_of_le E1.lt ob2))))).other W17 (Or.inl (Ne.symm (Nat.ne_of_lt (Nat.lt_of_lt_of_le E1.lt ob2))))).other W20 (Or.inl (Ne.symm (Nat.ne_of_lt (Nat.lt_of_lt_of_le E1.lt ob2))))), by rw [e20]; exact ((((((G12.other W5 (Or.inl (Ne.symm (Nat.ne_of_lt (Nat.lt_of_lt_of_le E1.lt ob2))))).other W8 (Or.inl (Ne.symm (Nat.ne_of_lt (Nat.lt_of_lt_of_le E1.lt ob2))))).other W11 (Or.inl (Ne.symm (Nat.ne_of_lt (Nat.lt_of_lt_of_le E1.lt ob2))))).other W14 (Or.inl (Ne.symm (Nat.ne_of_lt (Nat.lt_of_lt_of_le E1.lt ob2))))).other W17 (Or.inl (Ne.symm (Nat.ne_of_lt (Nat.lt_of_lt_of_le E1.lt ob2))))).other W20 (Or.inl (Ne.symm (Nat.ne_of_lt (Nat.lt_of_lt_of_le E1.lt ob2)))))⟩
def Q_rmC6_A2 (Z : State) (a1 : Addr) (cn : Int32) (sv : Value) (pr : Int32) (la : Addr) (vl : Value) (lm : Value) (h0 : Heap) (n0 : Nat) (cb : Int32) (x0 : Addr) (x1 : Addr) (v : Option Value) (h : Heap) (L : List Loc) : Prop := ∃ b, v = none ∧ Fr n0 L ∧ Keep h0 h [a1] ∧ Fld Z h a1 cS "connected" "Z" (.int cb) ∧ Fld Z h a1 cS "severity" dV sv ∧ Fld Z h a1 cS "precision" "I" (.int pr) ∧ Fld Z h a1 cS "labels" "Ljava/util/List;" (.ref b) ∧ Fld Z h a1 cS "value" oO vl ∧ Fld Z h a1 cS "limits" dD lm ∧ h0.size ≤ b ∧ Exa Z h b c2 ∧ Fld Z h b c2 "e0" oO (.ref x0) ∧ Fld Z h b c2 "e1" oO (.ref x1)
set_option maxRecDepth 65536 in
set_option maxHeartbeats 40000000 in
theorem rmC6_A2 (l : Launch) (Z : State) (a0 : Array Value) (hw : HW a0 Z) (ws : List Jvm.Cond) (a1 : Addr) (cn : Int32) (sv : Value) (rsv : sv.isRef = true) (pr : Int32) (la : Addr) (vl : Value) (rvl : vl.isRef = true) (lm : Value) (rlm : lm.isRef = true) (h0 : Heap) (n0 : Nat) (Z0 : n0 ≤ h0.size) (X00 : Old Z n0 h0) (E1 : Exa Z h0 a1 cS) (F0 : Fld Z h0 a1 cS "connected" "Z" (.int 0)) (F1 : Fld Z h0 a1 cS "severity" dV .null) (F2 : Fld Z h0 a1 cS "precision" "I" (.int 0)) (F3 : Fld Z h0 a1 cS "labels" "Ljava/util/List;" .null) (F4 : Fld Z h0 a1 cS "value" oO .null) (F5 : Fld Z h0 a1 cS "limits" dD .null) (g1 : n0 ≤ a1) (cb : Int32) (hcb : narrow .boolean (.int cn) = .int cb) (em : Addr) (Sm : Sta Z Z.heap cI "EMPTY" oO (.ref em)) (Ela : Exa Z h0 la cA) (Fsz : Fld Z h0 la cA "size" "I" (.int 2)) (ar : Addr) (Fed : Fld Z h0 la cA "elementData" "[Ljava/lang/Object;" (.ref ar)) (x0 : Addr) (Ex0 : Exa Z h0 x0 "java/lang/String") (x1 : Addr) (Ex1 : Exa Z h0 x1 "java/lang/String") (ka : ClassId) (Aa : Arv Z h0 ar ka (.object cO) (10 : Int32) [(.ref x0), (.ref x1), .null, .null, .null, .null, .null, .null, .null, .null] .null) (Oa : OvO Z ka) (mr : Addr) (Mr : MirM Z mr) (nla : a1 ≠ la) (nar_ : a1 ≠ ar) (nx0 : a1 ≠ x0) (nx1 : a1 ≠ x1) :
    MetFree l (⟨cS, "<init>", zZ5⟩ : MethodName) (head1 (Jvm.Cond.code (⟨cS, "<init>", zZ5⟩ : MethodName) kQ30 7 none :: ws) (rO 8 2 4 115)) (fun a U => a = #[(.ref a1), (.int cn), sv, (.int pr), (.ref la), vl, lm] ∧ Z.Warmed39 U.vm ∧ U.heap = h0) (fun _ _ _ _ _ => True) (fun _ U o U' => ∃ v L, o = .returned v ∧ Q_rmC6_A2 Z a1 cn sv pr la vl lm h0 n0 cb x0 x1 v U'.heap L ∧ FrameEnd U o U' L (rO 8 2 4 115).cells (rO 8 2 4 115).slots) := by
  refine MetFree.of_bodySF (plainFor_of_name pn16) hisR ?_
  intro p e s m args below meth c s₁ Bd hml0 hP hK
  obtain ⟨rfl, hZ, hh⟩ := hP
  have hx := Bd.exec
  have hby := Bd.bytes
  have bd : ∀ {pc r}, decode kQ30 pc = r → decode c.code pc = r := fun q => hb hby q
  have hlk : meth.locks = false := Bd.notSynchronized
  have hml : c.maxLocals = 7 := hml0
  have hown : s.vm.findClass cS = some m.cls := findClass_of_methodNamed Bd.named
  have hnm := (name_of_methodNamed Bd.named Bd.method).1
  have X0 : Stand p l e (rO 8 2 4 115) s m #[(.ref a1), (.int cn), sv, (.int pr), (.ref la), vl, lm] below meth c s₁ [] 0 0 := Stand.of_body Bd
  have e0 : s₁.heap = h0 := by rw [← hh, Bd.state]; rfl
  have N0 := Fr.nil n0
  suffices hgo : OD p e s below (Q_rmC6_A2 Z a1 cn sv pr la vl lm h0 n0 cb x0 x1) (rO 8 2 4 115).cells (rO 8 2 4 115).slots (s₁.setTop (mkF m 0 #[.val (.ref a1), .val (.int cn), .val sv, .val (.int pr), .val (.ref la), .val vl, .val lm] [])) by
    obtain ⟨s₂, o, hgo1, hgo2⟩ := hgo
    exact ⟨s₂, o, castTop (ef12 m a1 cn sv rsv pr la vl rvl lm rlm) hgo1, hgo2⟩
  refine OD.go (B := (s₁.setTop (mkF m 1 #[.val (.ref a1), .val (.int cn), .val sv, .val (.int pr), .val (.ref la), .val vl, .val lm] [(.ref a1)]))) (fun t k => XS.aloadN X0.here hx rfl (bd d16_0) rfl rfl k) ?_
  obtain ⟨_, _, ⟨T1, L1, k1, n1⟩, -, X1, ⟨Lc1, hQ1, l1, y1, z1⟩, st1⟩ := X0.specialBack hx (y := (⟨"java/lang/Record", "<init>", "()V"⟩ : MethodName)) rfl hown (mvT hZ (Wd84 hw)) (mvT hZ (Wd85 hw)) (mvT hZ (Wd88 hw)) (by decide) (backOf (W := 0) (rmR l Z a0 hw [] a1 h0) hZ (Wd88 hw) (Wd87 hw) (by decide) (by decide)) (g := (mkF m 1 #[.val (.ref a1), .val (.int cn), .val sv, .val (.int pr), .val (.ref la), .val vl, .val lm] [(.ref a1)])) rfl (by rw [hml]; rfl) (Steps.refl _) (a := a1) (argsL := []) (rest := []) (lenOf pd0 rfl) rfl (by show 2 * 0 + _ ≤ _; exact Nat.le_of_eq rfl) (bd d16_1) (fun _ _ => ⟨rfl, e0, (nl rfl), (nl rfl)⟩)
  dsimp only [Pt.U, Pt.locs, Pt.cells, Pt.slots] at X1 l1 y1 z1 st1 hQ1
  subst l1 y1 z1
  obtain ⟨rfl, rfl, e1⟩ := hQ1
  have N1 := Fr.app N0 (Fr.nil _)
  refine OD.via st1 ?_
  refine OD.go (B := (T1.setTop (mkF m 6 #[.val (.ref a1), .val (.int cn), .val sv, .val (.int pr), .val (.ref la), .val vl, .val lm] [(.ref la)]))) (fun t k => XS.aload X1.here hx rfl (bd d16_4) rfl rfl k) ?_
  obtain ⟨_, _, ⟨T2, L2, k2, n2⟩, -, X2, ⟨Lc2, hQ2, l2, y2, z2⟩, st2⟩ := Jvm.LawKit.callS X1 hx (y := (⟨"java/util/List", "copyOf", zZ2⟩ : MethodName)) hown (mvT hZ (Wd90 hw)) (mvT hZ (Wd91 hw)) (mvT hZ (Wd92 hw)) (mvT hZ (Wd93 hw)) (by decide) (backOf (W := 0) (rmCO_A2 l Z a0 hw [] la h0 n0 Z0 X00 em Sm Ela Fsz ar Fed x0 Ex0 x1 Ex1 ka Aa Oa mr Mr) hZ (Wd93 hw) (Wd92 hw) (by decide) (by decide)) (g := (mkF m 6 #[.val (.ref a1), .val (.int cn), .val sv, .val (.int pr), .val (.ref la), .val vl, .val lm] [(.ref la)])) rfl (by rw [hml]; rfl) (argsL := [(.ref la)]) (rest := []) (lenOf pd17 rfl) rfl (by show 2 * 0 + _ ≤ _; exact Nat.le_of_eq rfl) (bd d16_6) (fun _ _ => ⟨rfl, e1, (nl rfl), (nl rfl)⟩)
  dsimp only [Pt.U, Pt.locs, Pt.cells, Pt.slots] at X2 l2 y2 z2 st2 hQ2
  subst l2 y2 z2
  obtain ⟨b2, rfl, Nq2, K2, ob2, E2, G02, G12⟩ := hQ2
  have N2 := Fr.app N1 Nq2
  have gb2 : n0 ≤ b2 := Nat.le_trans Z0 ob2
  refine OD.go st2 ?_
  refine OD.go (B := (T2.setTop (mkF m 13 #[.val (.ref a1), .val (.int cn), .val sv, .val (.int pr), .val (.ref b2), .val vl, .val lm] [(.int cn), (.ref a1)]))) (fun t k => XS.astore X2.here hx rfl (bd d16_9) rfl rfl (l' := #[.val (.ref a1), .val (.int cn), .val sv, .val (.int pr), .val (.ref b2), .val vl, .val lm]) rfl (XS.aloadN X2.here hx rfl (bd d16_11) rfl rfl (XS.iloadN X2.here hx rfl (bd d16_12) rfl k))) ?_
  have f3 := (F0.keep K2 nin0)
  have f4 := (E1.keep K2)
  obtain ⟨T5, h5, X5, e5, W5, st5⟩ := putFN X2 hx hZ hown (Wd119 hw) Via.refl rfl f3 f4 (Or.inr ⟨(Wd120 hw), rfl, hnm⟩) (Wd76 hw) (ty := .boolean) (v' := (.int cb)) (by decide) hcb (own_fitB hcb) (g := (mkF m 13 #[.val (.ref a1), .val (.int cn), .val sv, .val (.int pr), .val (.ref b2), .val vl, .val lm] [(.int cn), (.ref a1)])) rfl rfl (bd d16_13)
  have Fx5 := f3.same W5
  have N5 := Fr.snoc X5 N2 g1
  refine OD.go st5 ?_
  refine OD.go (B := (T5.setTop (mkF m 18 #[.val (.ref a1), .val (.int cn), .val sv, .val (.int pr), .val (.ref b2), .val vl, .val lm] [sv, (.ref a1)]))) (fun t k => XS.aloadN X5.here hx rfl (bd d16_16) rfl rfl (XS.aloadN X5.here hx rfl (bd d16_17) rfl (rsv) k)) ?_
  have f6 := ((F1.keep K2 nin0).other W5 (Or.inr (slot_ne (Or.inr (Wd122 hw)) (Or.inr (Wd120 hw)) (by decide) (t := (.object cV)) (t' := .boolean) (by decide) (by decide))))
  have f7 := (f4.wr W5)
  obtain ⟨T8, h8, X8, e8, W8, st8⟩ := putF X5 hx hZ hown (host := "") (Or.inl (Wd121 hw)) Via.refl e5 f6 f7 (Or.inr ⟨(Wd122 hw), rfl, hnm⟩) (Wd76 hw) (ty := (.object cV)) (by decide) (own_narR rsv) (own_fitR rsv) (g := (mkF m 18 #[.val (.ref a1), .val (.int cn), .val sv, .val (.int pr), .val (.ref b2), .val vl, .val lm] [sv, (.ref a1)])) rfl rfl (bd d16_18)
  have Fx8 := f6.same W8
  have N8 := Fr.snoc X8 N5 g1
  refine OD.go st8 ?_
  refine OD.go (B := (T8.setTop (mkF m 23 #[.val (.ref a1), .val (.int cn), .val sv, .val (.int pr), .val (.ref b2), .val vl, .val lm] [(.int pr), (.ref a1)]))) (fun t k => XS.aloadN X8.here hx rfl (bd d16_21) rfl rfl (XS.iloadN X8.here hx rfl (bd d16_22) rfl k)) ?_
  have f9 := (((F2.keep K2 nin0).other W5 (Or.inr (slot_ne (Or.inr (Wd124 hw)) (Or.inr (Wd120 hw)) (by decide) (t := .int) (t' := .boolean) (by decide) (by decide)))).other W8 (Or.inr (slot_ne (Or.inr (Wd124 hw)) (Or.inr (Wd122 hw)) (by decide) (t := .int) (t' := (.object cV)) (by decide) (by decide))))
  have f10 := (f7.wr W8)
  obtain ⟨T11, h11, X11, e11, W11, st11⟩ := putF X8 hx hZ hown (host := "") (Or.inl (Wd123 hw)) Via.refl e8 f9 f10 (Or.inr ⟨(Wd124 hw), rfl, hnm⟩) (Wd76 hw) (ty := .int) (by decide) rfl rfl (g := (mkF m 23 #[.val (.ref a1), .val (.int cn), .val sv, .val (.int pr), .val (.ref b2), .val vl, .val lm] [(.int pr), (.ref a1)])) rfl rfl (bd d16_23)
  have Fx11 := f9.same W11
  have N11 := Fr.snoc X11 N8 g1
  refine OD.go st11 ?_
  refine OD.go (B := (T11.setTop (mkF m 29 #[.val (.ref a1), .val (.int cn), .val sv, .val (.int pr), .val (.ref b2), .val vl, .val lm] [(.ref b2), (.ref a1)]))) (fun t k => XS.aloadN X11.here hx rfl (bd d16_26) rfl rfl (XS.aload X11.here hx rfl (bd d16_27) rfl rfl k)) ?_
  have f12 := ((((F3.keep K2 nin0).other W5 (Or.inr (slot_ne (Or.inr (Wd126 hw)) (Or.inr (Wd120 hw)) (by decide) (t := (.object "java/util/List")) (t' := .boolean) (by decide) (by decide)))).other W8 (Or.inr (slot_ne (Or.inr (Wd126 hw)) (Or.inr (Wd122 hw)) (by decide) (t := (.object "java/util/List")) (t' := (.object cV)) (by decide) (by decide)))).other W11 (Or.inr (slot_ne (Or.inr (Wd126 hw)) (Or.inr (Wd124 hw)) (by decide) (t := (.object "java/util/List")) (t' := .int) (by decide) (by decide))))
  have f13 := (f10.wr W11)
  obtain ⟨T14, h14, X14, e14, W14, st14⟩ := putF X11 hx hZ hown (host := "") (Or.inl (Wd125 hw)) Via.refl e11 f12 f13 (Or.inr ⟨(Wd126 hw), rfl, hnm⟩) (Wd76 hw) (ty := (.object "java/util/List")) (by decide) rfl rfl (g := (mkF m 29 #[.val (.ref a1), .val (.int cn), .val sv, .val (.int pr), .val (.ref b2), .val vl, .val lm] [(.ref b2), (.ref a1)])) rfl rfl (bd d16_29)
  have Fx14 := f12.same W14
  have N14 := Fr.snoc X14 N11 g1
  refine OD.go st14 ?_
  refine OD.go (B := (T14.setTop (mkF m 35 #[.val (.ref a1), .val (.int cn), .val sv, .val (.int pr), .val (.ref b2), .val vl, .val lm] [vl, (.ref a1)]))) (fun t k => XS.aloadN X14.here hx rfl (bd d16_32) rfl rfl (XS.aload X14.here hx rfl (bd d16_33) rfl (rvl) k)) ?_
  have f15 := (((((F4.keep K2 nin0).other W5 (Or.inr (slot_ne (Or.inr (Wd128 hw)) (Or.inr (Wd120 hw)) (by decide) (t := (.object cO)) (t' := .boolean) (by decide) (by decide)))).other W8 (Or.inr (slot_ne (Or.inr (Wd128 hw)) (Or.inr (Wd122 hw)) (by decide) (t := (.object cO)) (t' := (.object cV)) (by decide) (by decide)))).other W11 (Or.inr (slot_ne (Or.inr (Wd128 hw)) (Or.inr (Wd124 hw)) (by decide) (t := (.object cO)) (t' := .int) (by decide) (by decide)))).other W14 (Or.inr (slot_ne (Or.inr (Wd128 hw)) (Or.inr (Wd126 hw)) (by decide) (t := (.object cO)) (t' := (.object "java/util/List")) (by decide) (by decide))))
  have f16 := (f13.wr W14)
  obtain ⟨T17, h17, X17, e17, W17, st17⟩ := putF X14 hx hZ hown (host := "") (Or.inl (Wd127 hw)) Via.refl e14 f15 f16 (Or.inr ⟨(Wd128 hw), rfl, hnm⟩) (Wd76 hw) (ty := (.object cO)) (by decide) (own_narR rvl) (own_fitR rvl) (g := (mkF m 35 #[.val (.ref a1), .val (.int cn), .val sv, .val (.int pr), .val (.ref b2), .val vl, .val lm] [vl, (.ref a1)])) rfl rfl (bd d16_35)
  have Fx17 := f15.same W17
  have N17 := Fr.snoc X17 N14 g1
  refine OD.go st17 ?_
  refine OD.go (B := (T17.setTop (mkF m 41 #[.val (.ref a1), .val (.int cn), .val sv, .val (.int pr), .val (.ref b2), .val vl, .val lm] [lm, (.ref a1)]))) (fun t k => XS.aloadN X17.here hx rfl (bd d16_38) rfl rfl (XS.aload X17.here hx rfl (bd d16_39) rfl (rlm) k)) ?_
  have f18 := ((((((F5.keep K2 nin0).other W5 (Or.inr (slot_ne (Or.inr (Wd130 hw)) (Or.inr (Wd120 hw)) (by decide) (t := (.object cD)) (t' := .boolean) (by decide) (by decide)))).other W8 (Or.inr (slot_ne (Or.inr (Wd130 hw)) (Or.inr (Wd122 hw)) (by decide) (t := (.object cD)) (t' := (.object cV)) (by decide) (by decide)))).other W11 (Or.inr (slot_ne (Or.inr (Wd130 hw)) (Or.inr (Wd124 hw)) (by decide) (t := (.object cD)) (t' := .int) (by decide) (by decide)))).other W14 (Or.inr (slot_ne (Or.inr (Wd130 hw)) (Or.inr (Wd126 hw)) (by decide) (t := (.object cD)) (t' := (.object "java/util/List")) (by decide) (by decide)))).other W17 (Or.inr (slot_ne (Or.inr (Wd130 hw)) (Or.inr (Wd128 hw)) (by decide) (t := (.object cD)) (t' := (.object cO)) (by decide) (by decide))))
  have f19 := (f16.wr W17)
  obtain ⟨T20, h20, X20, e20, W20, st20⟩ := putF X17 hx hZ hown (host := "") (Or.inl (Wd129 hw)) Via.refl e17 f18 f19 (Or.inr ⟨(Wd130 hw), rfl, hnm⟩) (Wd76 hw) (ty := (.object cD)) (by decide) (own_narR rlm) (own_fitR rlm) (g := (mkF m 41 #[.val (.ref a1), .val (.int cn), .val sv, .val (.int pr), .val (.ref b2), .val vl, .val lm] [lm, (.ref a1)])) rfl rfl (bd d16_41)
  have Fx20 := f18.same W20
  have N20 := Fr.snoc X20 N17 g1
  refine OD.go (B := (T20.setTop (mkF m 44 #[.val (.ref a1), .val (.int cn), .val sv, .val (.int pr), .val (.ref b2), .val vl, .val lm] []))) st20 ?_
  exact OD.retV X20 hx hlk Bd.returns (bd d16_44) (nl rfl) (nl rfl) ⟨_, rfl, N20, by rw [e20]; exact ((((((((Keep.refl h0 [a1]).trans K2 all0).wr W5 (Or.inl (List.mem_of_getElem? (i := 0) rfl))).wr W8 (Or.inl (List.mem_of_getElem? (i := 0) rfl))).wr W11 (Or.inl (List.mem_of_getElem? (i := 0) rfl))).wr W14 (Or.inl (List.mem_of_getElem? (i := 0) rfl))).wr W17 (Or.inl (List.mem_of_getElem? (i := 0) rfl))).wr W20 (Or.inl (List.mem_of_getElem? (i := 0) rfl))), by rw [e20]; exact (((((Fx5.other W8 (Or.inr (slot_ne (Or.inr (Wd120 hw)) (Or.inr (Wd122 hw)) (by decide) (t := .boolean) (t' := (.object cV)) (by decide) (by decide)))).other W11 (Or.inr (slot_ne (Or.inr (Wd120 hw)) (Or.inr (Wd124 hw)) (by decide) (t := .boolean) (t' := .int) (by decide) (by decide)))).other W14 (Or.inr (slot_ne (Or.inr (Wd120 hw)) (Or.inr (Wd126 hw)) (by decide) (t := .boolean) (t' := (.object "java/util/List")) (by decide) (by decide)))).other W17 (Or.inr (slot_ne (Or.inr (Wd120 hw)) (Or.inr (Wd128 hw)) (by decide) (t := .boolean) (t' := (.object cO)) (by decide) (by decide)))).other W20 (Or.inr (slot_ne (Or.inr (Wd120 hw)) (Or.inr (Wd130 hw)) (by decide) (t := .boolean) (t' := (.object cD)) (by decide) (by decide)))), by rw [e20]; exact ((((Fx8.other W11 (Or.inr (slot_ne (Or.inr (Wd122 hw)) (Or.inr (Wd124 hw)) (by decide) (t := (.object cV)) (t' := .int) (by decide) (by decide)))).other W14 (Or.inr (slot_ne (Or.inr (Wd122 hw)) (Or.inr (Wd126 hw)) (by decide) (t := (.object cV)) (t' := (.object "java/util/List")) (by decide) (by decide)))).other W17 (Or.inr (slot_ne (Or.inr (Wd122 hw)) (Or.inr (Wd128 hw)) (by decide) (t := (.object cV)) (t' := (.object cO)) (by decide) (by decide)))).other W20 (Or.inr (slot_ne (Or.inr (Wd122 hw)) (Or.inr (Wd130 hw)) (by decide) (t := (.object cV)) (t' := (.object cD)) (by decide) (by decide)))), by rw [e20]; exact (((Fx11.other W14 (Or.inr (slot_ne (Or.inr (Wd124 hw)) (Or.inr (Wd126 hw)) (by decide) (t := .int) (t' := (.object "java/util/List")) (by decide) (by decide)))).other W17 (Or.inr (slot_ne (Or.inr (Wd124 hw)) (Or.inr (Wd128 hw)) (by decide) (t := .int) (t' := (.object cO)) (by decide) (by decide)))).other W20 (Or.inr (slot_ne (Or.inr (Wd124 hw)) (Or.inr (Wd130 hw)) (by decide) (t := .int) (t' := (.object cD)) (by decide) (by decide)))), by rw [e20]; exact ((Fx14.other W17 (Or.inr (slot_ne (Or.inr (Wd126 hw)) (Or.inr (Wd128 hw)) (by decide) (t := (.object "java/util/List")) (t' := (.object cO)) (by decide) (by decide)))).other W20 (Or.inr (slot_ne (Or.inr (Wd126 hw)) (Or.inr (Wd130 hw)) (by decide) (t := (.object "java/util/List")) (t' := (.object cD)) (by decide) (by decide)))), by rw [e20]; exact (Fx17.other W20 (Or.inr (slot_ne (Or.inr (Wd128 hw)) (Or.inr (Wd130 hw)) (by decide) (t := (.object cO)) (t' := (.object cD)) (by decide) (by decide)))), by rw [e20]; exact Fx20, (Nat.le_trans (Nat.le_refl _) ob2), by rw [e20]; exact ((((((E2.wr W5).wr W8).wr W11).wr W14).wr W17).wr W20), by rw [e20]; exact ((((((G02.other W5 (Or.inl (Ne.symm (Nat.ne_of_lt (Nat.lt_of_lt_of_le E1.lt ob2))))).other W8 (Or.inl (Ne.symm (Nat.ne_of_lt (Nat.lt_of_lt_of_le E1.lt ob2))))).other W11 (Or.inl (Ne.symm (Nat.ne_of_lt (Nat.lt_of_lt_of_le E1.lt ob2))))).other W14 (Or.inl (Ne.symm (Nat.ne_of_lt (Nat.lt_of_lt_of_le E1.lt ob2))))).other W17 (Or.inl (Ne.symm (Nat.ne_of_lt (Nat.lt_of_lt_of_le E1.lt ob2))))).other W20 (Or.inl (Ne.symm (Nat.ne_of_lt (Nat.lt_of_lt_of_le E1.lt ob2))))), by rw [e20]; exact ((((((G12.other W5 (Or.inl (Ne.symm (Nat.ne_of_lt (Nat.lt_of_lt_of_le E1.lt ob2))))).other W8 (Or.inl (Ne.symm (Nat.ne_of_lt (Nat.lt_of_lt_of_le E1.lt ob2))))).other W11 (Or.inl (Ne.symm (Nat.ne_of_lt (Nat.lt_of_lt_of_le E1.lt ob2))))).other W14 (Or.inl (Ne.symm (Nat.ne_of_lt (Nat.lt_of_lt_of_le E1.lt ob2))))).other W17 (Or.inl (Ne.symm (Nat.ne_of_lt (Nat.lt_of_lt_of_le E1.lt ob2))))).other W20 (Or.inl (Ne.symm (Nat.ne_of_lt (Nat.lt_of_lt_of_le E1.lt ob2)))))⟩
def Q_rmC5_A0 (Z : State) (a1 : Addr) (cn : Int32) (sv : Value) (pr : Int32) (la : Addr) (vl : Value) (h0 : Heap) (n0 : Nat) (cb : Int32) (el : Addr) (v : Option Value) (h : Heap) (L : List Loc) : Prop := v = none ∧ Fr n0 L ∧ Keep h0 h [a1] ∧ Fld Z h a1 cS "connected" "Z" (.int cb) ∧ Fld Z h a1 cS "severity" dV sv ∧ Fld Z h a1 cS "precision" "I" (.int pr) ∧ Fld Z h a1 cS "labels" "Ljava/util/List;" (.ref el) ∧ Fld Z h a1 cS "value" oO vl ∧ Fld Z h a1 cS "limits" dD .null
set_option maxRecDepth 65536 in
set_option maxHeartbeats 40000000 in
theorem rmC5_A0 (l : Launch) (Z : State) (a0 : Array Value) (hw : HW a0 Z) (ws : List Jvm.Cond) (a1 : Addr) (cn : Int32) (sv : Value) (rsv : sv.isRef = true) (pr : Int32) (la : Addr) (vl : Value) (rvl : vl.isRef = true) (h0 : Heap) (n0 : Nat) (Z0 : n0 ≤ h0.size) (X00 : Old Z n0 h0) (E1 : Exa Z h0 a1 cS) (F0 : Fld Z h0 a1 cS "connected" "Z" (.int 0)) (F1 : Fld Z h0 a1 cS "severity" dV .null) (F2 : Fld Z h0 a1 cS "precision" "I" (.int 0)) (F3 : Fld Z h0 a1 cS "labels" "Ljava/util/List;" .null) (F4 : Fld Z h0 a1 cS "value" oO .null) (F5 : Fld Z h0 a1 cS "limits" dD .null) (g1 : n0 ≤ a1) (cb : Int32) (hcb : narrow .boolean (.int cn) = .int cb) (el ea : Addr) (kE : ClassId) (Se : Sta Z Z.heap cI "EMPTY_LIST" zZ12 (.ref el)) (Ee : Exa Z Z.heap el cN) (Fa : Fld Z Z.heap el cN "allowNulls" "Z" (.int 0)) (Fel : Fld Z Z.heap el cN "elements" "[Ljava/lang/Object;" (.ref ea)) (Ae : Arv Z Z.heap ea kE (.object cO) (0 : Int32) [] .null) (Ela : Exa Z h0 la cA) (Fsz : Fld Z h0 la cA "size" "I" (.int 0)) (nla : a1 ≠ la) :
    MetFree l (⟨cS, "<init>", zZ14⟩ : MethodName) (head1 (Jvm.Cond.code (⟨cS, "<init>", zZ14⟩ : MethodName) kQ31 6 none :: ws) (rO 4 0 0 55)) (fun a U => a = #[(.ref a1), (.int cn), sv, (.int pr), (.ref la), vl] ∧ Z.Warmed39 U.vm ∧ U.heap = h0) (fun _ _ _ _ _ => True) (fun _ U o U' => ∃ v L, o = .returned v ∧ Q_rmC5_A0 Z a1 cn sv pr la vl h0 n0 cb el v U'.heap L ∧ FrameEnd U o U' L (rO 4 0 0 55).cells (rO 4 0 0 55).slots) := by
  refine MetFree.of_bodySF (plainFor_of_name pn16) hisR ?_
  intro p e s m args below meth c s₁ Bd hml0 hP hK
  obtain ⟨rfl, hZ, hh⟩ := hP
  have hx := Bd.exec
  have hby := Bd.bytes
  have bd : ∀ {pc r}, decode kQ31 pc = r → decode c.code pc = r := fun q => hb hby q
  have hlk : meth.locks = false := Bd.notSynchronized
  have hml : c.maxLocals = 6 := hml0
  have hown : s.vm.findClass cS = some m.cls := findClass_of_methodNamed Bd.named
  have hnm := (name_of_methodNamed Bd.named Bd.method).1
  have X0 : Stand p l e (rO 4 0 0 55) s m #[(.ref a1), (.int cn), sv, (.int pr), (.ref la), vl] below meth c s₁ [] 0 0 := Stand.of_body Bd
  have e0 : s₁.heap = h0 := by rw [← hh, Bd.state]; rfl
  have N0 := Fr.nil n0
  suffices hgo : OD p e s below (Q_rmC5_A0 Z a1 cn sv pr la vl h0 n0 cb el) (rO 4 0 0 55).cells (rO 4 0 0 55).slots (s₁.setTop (mkF m 0 #[.val (.ref a1), .val (.int cn), .val sv, .val (.int pr), .val (.ref la), .val vl] [])) by
    obtain ⟨s₂, o, hgo1, hgo2⟩ := hgo
    exact ⟨s₂, o, castTop (ef13 m a1 cn sv rsv pr la vl rvl) hgo1, hgo2⟩
  refine OD.go (B := (s₁.setTop (mkF m 9 #[.val (.ref a1), .val (.int cn), .val sv, .val (.int pr), .val (.ref la), .val vl] [.null, vl, (.ref la), (.int pr), sv, (.int cn), (.ref a1)]))) (fun t k => XS.aloadN X0.here hx rfl (bd d15_0) rfl rfl (XS.iloadN X0.here hx rfl (bd d15_1) rfl (XS.aloadN X0.here hx rfl (bd d15_2) rfl (rsv) (XS.iloadN X0.here hx rfl (bd d15_3) rfl (XS.aload X0.here hx rfl (bd d15_4) rfl rfl (XS.aload X0.here hx rfl (bd d15_6) rfl (rvl) (XS.aconstNull X0.here hx rfl (bd d15_8) k))))))) ?_
  obtain ⟨_, _, ⟨T1, L1, k1, n1⟩, -, X1, ⟨Lc1, hQ1, l1, y1, z1⟩, st1⟩ := X0.specialBack hx (y := (⟨cS, "<init>", zZ5⟩ : MethodName)) rfl hown (mvT hZ (Wd81 hw)) (mvT hZ (Wd82 hw)) (mvT hZ (Wd83 hw)) (by decide) (backOf (W := 0) (rmC6_A0 l Z a0 hw [] a1 cn sv rsv pr la vl rvl .null rfl h0 n0 Z0 X00 E1 F0 F1 F2 F3 F4 F5 g1 cb hcb el ea kE Se Ee Fa Fel Ae Ela Fsz nla ) hZ (Wd83 hw) (Wd77 hw) (by decide) (by decide)) (g := (mkF m 9 #[.val (.ref a1), .val (.int cn), .val sv, .val (.int pr), .val (.ref la), .val vl] [.null, vl, (.ref la), (.int pr), sv, (.int cn), (.ref a1)])) rfl (by rw [hml]; rfl) (Steps.refl _) (a := a1) (argsL := [(.int cn), sv, (.int pr), (.ref la), vl, .null]) (rest := []) (lenOf pd18 rfl) rfl (by show 2 * 0 + _ ≤ _; exact Nat.le_of_eq rfl) (bd d15_9) (fun _ _ => ⟨rfl, e0, (nl rfl), (nl rfl)⟩)
  dsimp only [Pt.U, Pt.locs, Pt.cells, Pt.slots] at X1 l1 y1 z1 st1 hQ1
  subst l1 y1 z1
  obtain ⟨rfl, Nq1, K1, C0_1, C1_1, C2_1, C3_1, C4_1, C5_1⟩ := hQ1
  have N1 := Fr.app N0 Nq1
  refine OD.via (B := (T1.setTop (mkF m 12 #[.val (.ref a1), .val (.int cn), .val sv, .val (.int pr), .val (.ref la), .val vl] []))) st1 ?_
  exact OD.retV X1 hx hlk Bd.returns (bd d15_12) (nl rfl) (nl rfl) ⟨rfl, N1, by exact ((Keep.refl h0 [a1]).trans K1 (allS (Or.inl (List.mem_of_getElem? (i := 0) rfl)) all0)), by exact C0_1, by exact C1_1, by exact C2_1, by exact C3_1, by exact C4_1, by exact C5_1⟩
def Q_rmC5_A1 (Z : State) (a1 : Addr) (cn : Int32) (sv : Value) (pr : Int32) (la : Addr) (vl : Value) (h0 : Heap) (n0 : Nat) (cb : Int32) (em : Addr) (x0 : Addr) (v : Option Value) (h : Heap) (L : List Loc) : Prop := ∃ b, v = none ∧ Fr n0 L ∧ Keep h0 h [a1] ∧ Fld Z h a1 cS "connected" "Z" (.int cb) ∧ Fld Z h a1 cS "severity" dV sv ∧ Fld Z h a1 cS "precision" "I" (.int pr) ∧ Fld Z h a1 cS "labels" "Ljava/util/List;" (.ref b) ∧ Fld Z h a1 cS "value" oO vl ∧ Fld Z h a1 cS "limits" dD .null ∧ h0.size ≤ b ∧ Exa Z h b c2 ∧ Fld Z h b c2 "e0" oO (.ref x0) ∧ Fld Z h b c2 "e1" oO (.ref em)
set_option maxRecDepth 65536 in
set_option maxHeartbeats 40000000 in
theorem rmC5_A1 (l : Launch) (Z : State) (a0 : Array Value) (hw : HW a0 Z) (ws : List Jvm.Cond) (a1 : Addr) (cn : Int32) (sv : Value) (rsv : sv.isRef = true) (pr : Int32) (la : Addr) (vl : Value) (rvl : vl.isRef = true) (h0 : Heap) (n0 : Nat) (Z0 : n0 ≤ h0.size) (X00 : Old Z n0 h0) (E1 : Exa Z h0 a1 cS) (F0 : Fld Z h0 a1 cS "connected" "Z" (.int 0)) (F1 : Fld Z h0 a1 cS "severity" dV .null) (F2 : Fld Z h0 a1 cS "precision" "I" (.int 0)) (F3 : Fld Z h0 a1 cS "labels" "Ljava/util/List;" .null) (F4 : Fld Z h0 a1 cS "value" oO .null) (F5 : Fld Z h0 a1 cS "limits" dD .null) (g1 : n0 ≤ a1) (cb : Int32) (hcb : narrow .boolean (.int cn) = .int cb) (em : Addr) (Sm : Sta Z Z.heap cI "EMPTY" oO (.ref em)) (Ela : Exa Z h0 la cA) (Fsz : Fld Z h0 la cA "size" "I" (.int 1)) (ar : Addr) (Fed : Fld Z h0 la cA "elementData" "[Ljava/lang/Object;" (.ref ar)) (x0 : Addr) (Ex0 : Exa Z h0 x0 "java/lang/String") (ka : ClassId) (Aa : Arv Z h0 ar ka (.object cO) (10 : Int32) [(.ref x0), .null, .null, .null, .null, .null, .null, .null, .null, .null] .null) (Oa : OvO Z ka) (mr : Addr) (Mr : MirM Z mr) (nla : a1 ≠ la) (nar_ : a1 ≠ ar) (nx0 : a1 ≠ x0) :
    MetFree l (⟨cS, "<init>", zZ14⟩ : MethodName) (head1 (Jvm.Cond.code (⟨cS, "<init>", zZ14⟩ : MethodName) kQ31 6 none :: ws) (rO 9 2 3 133)) (fun a U => a = #[(.ref a1), (.int cn), sv, (.int pr), (.ref la), vl] ∧ Z.Warmed39 U.vm ∧ U.heap = h0) (fun _ _ _ _ _ => True) (fun _ U o U' => ∃ v L, o = .returned v ∧ Q_rmC5_A1 Z a1 cn sv pr la vl h0 n0 cb em x0 v U'.heap L ∧ FrameEnd U o U' L (rO 9 2 3 133).cells (rO 9 2 3 133).slots) := by
  refine MetFree.of_bodySF (plainFor_of_name pn16) hisR ?_
  intro p e s m args below meth c s₁ Bd hml0 hP hK
  obtain ⟨rfl, hZ, hh⟩ := hP
  have hx := Bd.exec
  have hby := Bd.bytes
  have bd : ∀ {pc r}, decode kQ31 pc = r → decode c.code pc = r := fun q => hb hby q
  have hlk : meth.locks = false := Bd.notSynchronized
  have hml : c.maxLocals = 6 := hml0
  have hown : s.vm.findClass cS = some m.cls := findClass_of_methodNamed Bd.named
  have hnm := (name_of_methodNamed Bd.named Bd.method).1
  have X0 : Stand p l e (rO 9 2 3 133) s m #[(.ref a1), (.int cn), sv, (.int pr), (.ref la), vl] below meth c s₁ [] 0 0 := Stand.of_body Bd
  have e0 : s₁.heap = h0 := by rw [← hh, Bd.state]; rfl
  have N0 := Fr.nil n0
  suffices hgo : OD p e s below (Q_rmC5_A1 Z a1 cn sv pr la vl h0 n0 cb em x0) (rO 9 2 3 133).cells (rO 9 2 3 133).slots (s₁.setTop (mkF m 0 #[.val (.ref a1), .val (.int cn), .val sv, .val (.int pr), .val (.ref la), .val vl] [])) by
    obtain ⟨s₂, o, hgo1, hgo2⟩ := hgo
    exact ⟨s₂, o, castTop (ef13 m a1 cn sv rsv pr la vl rvl) hgo1, hgo2⟩
  refine OD.go (B := (s₁.setTop (mkF m 9 #[.val (.ref a1), .val (.int cn), .val sv, .val (.int pr), .val (.ref la), .val vl] [.null, vl, (.ref la), (.int pr), sv, (.int cn), (.ref a1)]))) (fun t k => XS.aloadN X0.here hx rfl (bd d15_0) rfl rfl (XS.iloadN X0.here hx rfl (bd d15_1) rfl (XS.aloadN X0.here hx rfl (bd d15_2) rfl (rsv) (XS.iloadN X0.here hx rfl (bd d15_3) rfl (XS.aload X0.here hx rfl (bd d15_4) rfl rfl (XS.aload X0.here hx rfl (bd d15_6) rfl (rvl) (XS.aconstNull X0.here hx rfl (bd d15_8) k))))))) ?_
  obtain ⟨_, _, ⟨T1, L1, k1, n1⟩, -, X1, ⟨Lc1, hQ1, l1, y1, z1⟩, st1⟩ := X0.specialBack hx (y := (⟨cS, "<init>", zZ5⟩ : MethodName)) rfl hown (mvT hZ (Wd81 hw)) (mvT hZ (Wd82 hw)) (mvT hZ (Wd83 hw)) (by decide) (backOf (W := 0) (rmC6_A1 l Z a0 hw [] a1 cn sv rsv pr la vl rvl .null rfl h0 n0 Z0 X00 E1 F0 F1 F2 F3 F4 F5 g1 cb hcb em Sm Ela Fsz ar Fed x0 Ex0 ka Aa Oa mr Mr nla nar_ nx0 ) hZ (Wd83 hw) (Wd77 hw) (by decide) (by decide)) (g := (mkF m 9 #[.val (.ref a1), .val (.int cn), .val sv, .val (.int pr), .val (.ref la), .val vl] [.null, vl, (.ref la), (.int pr), sv, (.int cn), (.ref a1)])) rfl (by rw [hml]; rfl) (Steps.refl _) (a := a1) (argsL := [(.int cn), sv, (.int pr), (.ref la), vl, .null]) (rest := []) (lenOf pd18 rfl) rfl (by show 2 * 0 + _ ≤ _; exact Nat.le_of_eq rfl) (bd d15_9) (fun _ _ => ⟨rfl, e0, (nl rfl), (nl rfl)⟩)
  dsimp only [Pt.U, Pt.locs, Pt.cells, Pt.slots] at X1 l1 y1 z1 st1 hQ1
  subst l1 y1 z1
  obtain ⟨b1, rfl, Nq1, K1, C0_1, C1_1, C2_1, C3_1, C4_1, C5_1, ob1, E1, G01, G11⟩ := hQ1
  have N1 := Fr.app N0 Nq1
  have gb1 : n0 ≤ b1 := Nat.le_trans Z0 ob1
  refine OD.via (B := (T1.setTop (mkF m 12 #[.val (.ref a1), .val (.int cn), .val sv, .val (.int pr), .val (.ref la), .val vl] []))) st1 ?_
  exact OD.retV X1 hx hlk Bd.returns (bd d15_12) (nl rfl) (nl rfl) ⟨_, rfl, N1, by exact ((Keep.refl h0 [a1]).trans K1 (allS (Or.inl (List.mem_of_getElem? (i := 0) rfl)) all0)), by exact C0_1, by exact C1_1, by exact C2_1, by exact C3_1, by exact C4_1, by exact C5_1, (Nat.le_trans (Nat.le_refl _) ob1), by exact E1, by exact G01, by exact G11⟩
def Q_rmC5_A2 (Z : State) (a1 : Addr) (cn : Int32) (sv : Value) (pr : Int32) (la : Addr) (vl : Value) (h0 : Heap) (n0 : Nat) (cb : Int32) (x0 : Addr) (x1 : Addr) (v : Option Value) (h : Heap) (L : List Loc) : Prop := ∃ b, v = none ∧ Fr n0 L ∧ Keep h0 h [a1] ∧ Fld Z h a1 cS "connected" "Z" (.int cb) ∧ Fld Z h a1 cS "severity" dV sv ∧ Fld Z h a1 cS "precision" "I" (.int pr) ∧ Fld Z h a1 cS "labels" "Ljava/util/List;" (.ref b) ∧ Fld Z h a1 cS "value" oO vl ∧ Fld Z h a1 cS "limits" dD .null ∧ h0.size ≤ b ∧ Exa Z h b c2 ∧ Fld Z h b c2 "e0" oO (.ref x0) ∧ Fld Z h b c2 "e1" oO (.ref x1)
set_option maxRecDepth 65536 in
set_option maxHeartbeats 40000000 in
theorem rmC5_A2 (l : Launch) (Z : State) (a0 : Array Value) (hw : HW a0 Z) (ws : List Jvm.Cond) (a1 : Addr) (cn : Int32) (sv : Value) (rsv : sv.isRef = true) (pr : Int32) (la : Addr) (vl : Value) (rvl : vl.isRef = true) (h0 : Heap) (n0 : Nat) (Z0 : n0 ≤ h0.size) (X00 : Old Z n0 h0) (E1 : Exa Z h0 a1 cS) (F0 : Fld Z h0 a1 cS "connected" "Z" (.int 0)) (F1 : Fld Z h0 a1 cS "severity" dV .null) (F2 : Fld Z h0 a1 cS "precision" "I" (.int 0)) (F3 : Fld Z h0 a1 cS "labels" "Ljava/util/List;" .null) (F4 : Fld Z h0 a1 cS "value" oO .null) (F5 : Fld Z h0 a1 cS "limits" dD .null) (g1 : n0 ≤ a1) (cb : Int32) (hcb : narrow .boolean (.int cn) = .int cb) (em : Addr) (Sm : Sta Z Z.heap cI "EMPTY" oO (.ref em)) (Ela : Exa Z h0 la cA) (Fsz : Fld Z h0 la cA "size" "I" (.int 2)) (ar : Addr) (Fed : Fld Z h0 la cA "elementData" "[Ljava/lang/Object;" (.ref ar)) (x0 : Addr) (Ex0 : Exa Z h0 x0 "java/lang/String") (x1 : Addr) (Ex1 : Exa Z h0 x1 "java/lang/String") (ka : ClassId) (Aa : Arv Z h0 ar ka (.object cO) (10 : Int32) [(.ref x0), (.ref x1), .null, .null, .null, .null, .null, .null, .null, .null] .null) (Oa : OvO Z ka) (mr : Addr) (Mr : MirM Z mr) (nla : a1 ≠ la) (nar_ : a1 ≠ ar) (nx0 : a1 ≠ x0) (nx1 : a1 ≠ x1) :
    MetFree l (⟨cS, "<init>", zZ14⟩ : MethodName) (head1 (Jvm.Cond.code (⟨cS, "<init>", zZ14⟩ : MethodName) kQ31 6 none :: ws) (rO 9 2 4 133)) (fun a U => a = #[(.ref a1), (.int cn), sv, (.int pr), (.ref la), vl] ∧ Z.Warmed39 U.vm ∧ U.heap = h0) (fun _ _ _ _ _ => True) (fun _ U o U' => ∃ v L, o = .returned v ∧ Q_rmC5_A2 Z a1 cn sv pr la vl h0 n0 cb x0 x1 v U'.heap L ∧ FrameEnd U o U' L (rO 9 2 4 133).cells (rO 9 2 4 133).slots) := by
  refine MetFree.of_bodySF (plainFor_of_name pn16) hisR ?_
  intro p e s m args below meth c s₁ Bd hml0 hP hK
  obtain ⟨rfl, hZ, hh⟩ := hP
  have hx := Bd.exec
  have hby := Bd.bytes
  have bd : ∀ {pc r}, decode kQ31 pc = r → decode c.code pc = r := fun q => hb hby q
  have hlk : meth.locks = false := Bd.notSynchronized
  have hml : c.maxLocals = 6 := hml0
  have hown : s.vm.findClass cS = some m.cls := findClass_of_methodNamed Bd.named
  have hnm := (name_of_methodNamed Bd.named Bd.method).1
  have X0 : Stand p l e (rO 9 2 4 133) s m #[(.ref a1), (.int cn), sv, (.int pr), (.ref la), vl] below meth c s₁ [] 0 0 := Stand.of_body Bd
  have e0 : s₁.heap = h0 := by rw [← hh, Bd.state]; rfl
  have N0 := Fr.nil n0
  suffices hgo : OD p e s below (Q_rmC5_A2 Z a1 cn sv pr la vl h0 n0 cb x0 x1) (rO 9 2 4 133).cells (rO 9 2 4 133).slots (s₁.setTop (mkF m 0 #[.val (.ref a1), .val (.int cn), .val sv, .val (.int pr), .val (.ref la), .val vl] [])) by
    obtain ⟨s₂, o, hgo1, hgo2⟩ := hgo
    exact ⟨s₂, o, castTop (ef13 m a1 cn sv rsv pr la vl rvl) hgo1, hgo2⟩
  refine OD.go (B := (s₁.setTop (mkF m 9 #[.val (.ref a1), .val (.int cn), .val sv, .val (.int pr), .val (.ref la), .val vl] [.null, vl, (.ref la), (.int pr), sv, (.int cn), (.ref a1)]))) (fun t k => XS.aloadN X0.here hx rfl (bd d15_0) rfl rfl (XS.iloadN X0.here hx rfl (bd d15_1) rfl (XS.aloadN X0.here hx rfl (bd d15_2) rfl (rsv) (XS.iloadN X0.here hx rfl (bd d15_3) rfl (XS.aload X0.here hx rfl (bd d15_4) rfl rfl (XS.aload X0.here hx rfl (bd d15_6) rfl (rvl) (XS.aconstNull X0.here hx rfl (bd d15_8) k))))))) ?_
  obtain ⟨_, _, ⟨T1, L1, k1, n1⟩, -, X1, ⟨Lc1, hQ1, l1, y1, z1⟩, st1⟩ := X0.specialBack hx (y := (⟨cS, "<init>", zZ5⟩ : MethodName)) rfl hown (mvT hZ (Wd81 hw)) (mvT hZ (Wd82 hw)) (mvT hZ (Wd83 hw)) (by decide) (backOf (W := 0) (rmC6_A2 l Z a0 hw [] a1 cn sv rsv pr la vl rvl .null rfl h0 n0 Z0 X00 E1 F0 F1 F2 F3 F4 F5 g1 cb hcb em Sm Ela Fsz ar Fed x0 Ex0 x1 Ex1 ka Aa Oa mr Mr nla nar_ nx0 nx1 ) hZ (Wd83 hw) (Wd77 hw) (by decide) (by decide)) (g := (mkF m 9 #[.val (.ref a1), .val (.int cn), .val sv, .val (.int pr), .val (.ref la), .val vl] [.null, vl, (.ref la), (.int pr), sv, (.int cn), (.ref a1)])) rfl (by rw [hml]; rfl) (Steps.refl _) (a := a1) (argsL := [(.int cn), sv, (.int pr), (.ref la), vl, .null]) (rest := []) (lenOf pd18 rfl) rfl (by show 2 * 0 + _ ≤ _; exact Nat.le_of_eq rfl) (bd d15_9) (fun _ _ => ⟨rfl, e0, (nl rfl), (nl rfl)⟩)
  dsimp only [Pt.U, Pt.locs, Pt.cells, Pt.slots] at X1 l1 y1 z1 st1 hQ1
  subst l1 y1 z1
  obtain ⟨b1, rfl, Nq1, K1, C0_1, C1_1, C2_1, C3_1, C4_1, C5_1, ob1, E1, G01, G11⟩ := hQ1
  have N1 := Fr.app N0 Nq1
  have gb1 : n0 ≤ b1 := Nat.le_trans Z0 ob1
  refine OD.via (B := (T1.setTop (mkF m 12 #[.val (.ref a1), .val (.int cn), .val sv, .val (.int pr), .val (.ref la), .val vl] []))) st1 ?_
  exact OD.retV X1 hx hlk Bd.returns (bd d15_12) (nl rfl) (nl rfl) ⟨_, rfl, N1, by exact ((Keep.refl h0 [a1]).trans K1 (allS (Or.inl (List.mem_of_getElem? (i := 0) rfl)) all0)), by exact C0_1, by exact C1_1, by exact C2_1, by exact C3_1, by exact C4_1, by exact C5_1, (Nat.le_trans (Nat.le_refl _) ob1), by exact E1, by exact G01, by exact G11⟩
def Q_rmLs_E (Z : State) (a1 : Addr) (h0 : Heap) (n0 : Nat) (sv : Value) (pr : Int32) (vl : Value) (lm : Value) (el : Addr) (v : Option Value) (h : Heap) (L : List Loc) : Prop := ∃ b, v = some (.ref b) ∧ Fr n0 L ∧ Keep h0 h [] ∧ h0.size ≤ b ∧ Exa Z h b cS ∧ Fld Z h b cS "connected" "Z" (.int 0) ∧ Fld Z h b cS "severity" dV sv ∧ Fld Z h b cS "precision" "I" (.int pr) ∧ Fld Z h b cS "labels" "Ljava/util/List;" (.ref el) ∧ Fld Z h b cS "value" oO vl ∧ Fld Z h b cS "limits" dD lm
set_option maxRecDepth 65536 in
set_option maxHeartbeats 40000000 in
theorem rmLs_E (l : Launch) (Z : State) (a0 : Array Value) (hw : HW a0 Z) (ws : List Jvm.Cond) (a1 : Addr) (h0 : Heap) (n0 : Nat) (Z0 : n0 ≤ h0.size) (X00 : Old Z n0 h0) (E1 : Exa Z h0 a1 cS) (cn : Int32) (sv : Value) (rsv : sv.isRef = true) (pr : Int32) (vl : Value) (rvl : vl.isRef = true) (lm : Value) (rlm : lm.isRef = true) (el ea : Addr) (kE : ClassId) (Se : Sta Z Z.heap cI "EMPTY_LIST" zZ12 (.ref el)) (Ee : Exa Z Z.heap el cN) (Fa : Fld Z Z.heap el cN "allowNulls" "Z" (.int 0)) (Fel : Fld Z Z.heap el cN "elements" "[Ljava/lang/Object;" (.ref ea)) (Ae : Arv Z Z.heap ea kE (.object cO) (0 : Int32) [] .null) (F0 : Fld Z h0 a1 cS "connected" "Z" (.int cn)) (F1 : Fld Z h0 a1 cS "severity" dV sv) (F2 : Fld Z h0 a1 cS "precision" "I" (.int pr)) (F3 : Fld Z h0 a1 cS "labels" "Ljava/util/List;" (.ref el)) (F4 : Fld Z h0 a1 cS "value" oO vl) (F5 : Fld Z h0 a1 cS "limits" dD lm) :
    MetFree l (⟨cS, "lost", zZ7⟩ : MethodName) (head1 (Jvm.Cond.code (⟨cS, "lost", zZ7⟩ : MethodName) kQ32 1 (some (.object cS)) :: ws) (rO 3 1 6 44)) (fun a U => a = #[(.ref a1)] ∧ Z.Warmed39 U.vm ∧ U.heap = h0) (fun _ _ _ _ _ => True) (fun _ U o U' => ∃ v L, o = .returned v ∧ Q_rmLs_E Z a1 h0 n0 sv pr vl lm el v U'.heap L ∧ FrameEnd U o U' L (rO 3 1 6 44).cells (rO 3 1 6 44).slots) := by
  refine MetFree.of_bodySF (plainFor_of_name pn16) hisR ?_
  intro p e s m args below meth c s₁ Bd hml0 hP hK
  obtain ⟨rfl, hZ, hh⟩ := hP
  have hx := Bd.exec
  have hby := Bd.bytes
  have bd : ∀ {pc r}, decode kQ32 pc = r → decode c.code pc = r := fun q => hb hby q
  have hlk : meth.locks = false := Bd.notSynchronized
  have hml : c.maxLocals = 1 := hml0
  have hown : s.vm.findClass cS = some m.cls := findClass_of_methodNamed Bd.named
  have hnm := (name_of_methodNamed Bd.named Bd.method).1
  have X0 : Stand p l e (rO 3 1 6 44) s m #[(.ref a1)] below meth c s₁ [] 0 0 := Stand.of_body Bd
  have e0 : s₁.heap = h0 := by rw [← hh, Bd.state]; rfl
  have N0 := Fr.nil n0
  suffices hgo : OD p e s below (Q_rmLs_E Z a1 h0 n0 sv pr vl lm el) (rO 3 1 6 44).cells (rO 3 1 6 44).slots (s₁.setTop (mkF m 0 #[.val (.ref a1)] [])) by
    obtain ⟨s₂, o, hgo1, hgo2⟩ := hgo
    exact ⟨s₂, o, castTop (ef0 m a1) hgo1, hgo2⟩
  obtain ⟨T1, h1, X1, e1, E1, A1, D1, -, st1⟩ := newO X0 hx hZ hown (Wd136 hw) (Wd76 hw) (Wd77 hw) e0 (g := (mkF m 0 #[.val (.ref a1)] [])) rfl (bd d22_0) (nl rfl) (nl rfl)
  obtain ⟨b1, g1⟩ : ∃ z, z = h0.size := ⟨_, rfl⟩
  rw [← g1] at A1 D1 st1
  have Fn2 : Fld Z h1 b1 cS "connected" "Z" (.int 0) := D1 (Or.inr (Wd120 hw)) (ty := .boolean) (by decide)
  have Fn3 : Fld Z h1 b1 cS "severity" dV .null := D1 (Or.inr (Wd122 hw)) (ty := (.object cV)) (by decide)
  have Fn4 : Fld Z h1 b1 cS "precision" "I" (.int 0) := D1 (Or.inr (Wd124 hw)) (ty := .int) (by decide)
  have Fn5 : Fld Z h1 b1 cS "labels" "Ljava/util/List;" .null := D1 (Or.inr (Wd126 hw)) (ty := (.object "java/util/List")) (by decide)
  have Fn6 : Fld Z h1 b1 cS "value" oO .null := D1 (Or.inr (Wd128 hw)) (ty := (.object cO)) (by decide)
  have Fn7 : Fld Z h1 b1 cS "limits" dD .null := D1 (Or.inr (Wd130 hw)) (ty := (.object cD)) (by decide)
  refine OD.go st1 ?_
  refine OD.go (B := (T1.setTop (mkF m 6 #[.val (.ref a1)] [(.ref a1), (.int 0), (.ref b1), (.ref b1)]))) (fun t k => XS.dup X1.here hx rfl (bd d22_3) rfl rfl (XS.iconst X1.here hx rfl (bd d22_4) (XS.aloadN X1.here hx rfl (bd d22_5) rfl rfl k))) ?_
  have f8 := (F1.ext E1)
  obtain ⟨T9, X9, e9, st9⟩ := getF X1 hx hZ hown (host := "") (Or.inl (Wd121 hw)) Via.refl e1 f8 (g := (mkF m 6 #[.val (.ref a1)] [(.ref a1), (.int 0), (.ref b1), (.ref b1)])) rfl rfl (bd d22_6)
  refine OD.go st9 ?_
  refine OD.go (B := (T9.setTop (mkF m 10 #[.val (.ref a1)] [(.ref a1), sv, (.int 0), (.ref b1), (.ref b1)]))) (fun t k => XS.aloadN X9.here hx rfl (bd d22_9) rfl rfl k) ?_
  have f10 := (F2.ext E1)
  obtain ⟨T11, X11, e11, st11⟩ := getF X9 hx hZ hown (host := "") (Or.inl (Wd123 hw)) Via.refl e9 f10 (g := (mkF m 10 #[.val (.ref a1)] [(.ref a1), sv, (.int 0), (.ref b1), (.ref b1)])) rfl rfl (bd d22_10)
  refine OD.go st11 ?_
  refine OD.go (B := (T11.setTop (mkF m 14 #[.val (.ref a1)] [(.ref a1), (.int pr), sv, (.int 0), (.ref b1), (.ref b1)]))) (fun t k => XS.aloadN X11.here hx rfl (bd d22_13) rfl rfl k) ?_
  have f12 := (F3.ext E1)
  obtain ⟨T13, X13, e13, st13⟩ := getF X11 hx hZ hown (host := "") (Or.inl (Wd125 hw)) Via.refl e11 f12 (g := (mkF m 14 #[.val (.ref a1)] [(.ref a1), (.int pr), sv, (.int 0), (.ref b1), (.ref b1)])) rfl rfl (bd d22_14)
  refine OD.go st13 ?_
  refine OD.go (B := (T13.setTop (mkF m 18 #[.val (.ref a1)] [(.ref a1), (.ref el), (.int pr), sv, (.int 0), (.ref b1), (.ref b1)]))) (fun t k => XS.aloadN X13.here hx rfl (bd d22_17) rfl rfl k) ?_
  have f14 := (F4.ext E1)
  obtain ⟨T15, X15, e15, st15⟩ := getF X13 hx hZ hown (host := "") (Or.inl (Wd127 hw)) Via.refl e13 f14 (g := (mkF m 18 #[.val (.ref a1)] [(.ref a1), (.ref el), (.int pr), sv, (.int 0), (.ref b1), (.ref b1)])) rfl rfl (bd d22_18)
  refine OD.go st15 ?_
  refine OD.go (B := (T15.setTop (mkF m 22 #[.val (.ref a1)] [(.ref a1), vl, (.ref el), (.int pr), sv, (.int 0), (.ref b1), (.ref b1)]))) (fun t k => XS.aloadN X15.here hx rfl (bd d22_21) rfl rfl k) ?_
  have f16 := (F5.ext E1)
  obtain ⟨T17, X17, e17, st17⟩ := getF X15 hx hZ hown (host := "") (Or.inl (Wd129 hw)) Via.refl e15 f16 (g := (mkF m 22 #[.val (.ref a1)] [(.ref a1), vl, (.ref el), (.int pr), sv, (.int 0), (.ref b1), (.ref b1)])) rfl rfl (bd d22_22)
  refine OD.go (B := (T17.setTop (mkF m 25 #[.val (.ref a1)] [lm, vl, (.ref el), (.int pr), sv, (.int 0), (.ref b1), (.ref b1)]))) st17 ?_
  obtain ⟨_, _, ⟨T18, L18, k18, n18⟩, -, X18, ⟨Lc18, hQ18, l18, y18, z18⟩, st18⟩ := X17.specialBack hx (y := (⟨cS, "<init>", zZ5⟩ : MethodName)) rfl hown (mvT hZ (Wd81 hw)) (mvT hZ (Wd82 hw)) (mvT hZ (Wd83 hw)) (by decide) (backOf (W := 1) (rmC6_E l Z a0 hw [] b1 (0 : Int32) sv rsv pr el vl rvl lm rlm h1 n0 (Nat.le_trans Z0 E1.1) (X00.ext E1) A1 Fn2 Fn3 Fn4 Fn5 Fn6 Fn7 (Nat.le_trans Z0 (Nat.le_of_eq g1.symm)) (0 : Int32) rfl ea kE Se Ee Fa Fel Ae  ) hZ (Wd83 hw) (Wd77 hw) (by decide) (by decide)) (g := (mkF m 25 #[.val (.ref a1)] [lm, vl, (.ref el), (.int pr), sv, (.int 0), (.ref b1), (.ref b1)])) rfl (by rw [hml]; rfl) (Steps.refl _) (a := b1) (argsL := [(.int 0), sv, (.int pr), (.ref el), vl, lm]) (rest := [(.ref b1)]) (lenOf pd18 rfl) rfl (by show 2 * 0 + _ ≤ _; exact Nat.le_of_eq rfl) (bd d22_25) (fun _ _ => ⟨rfl, e17, (nl rfl), (nl rfl)⟩)
  dsimp only [Pt.U, Pt.locs, Pt.cells, Pt.slots] at X18 l18 y18 z18 st18 hQ18
  subst l18 y18 z18
  obtain ⟨rfl, Nq18, K18, C0_18, C1_18, C2_18, C3_18, C4_18, C5_18⟩ := hQ18
  have N18 := Fr.app N0 Nq18
  refine OD.via (B := (T18.setTop (mkF m 28 #[.val (.ref a1)] [(.ref b1)]))) st18 ?_
  exact OD.ret X18 hx hlk (t := (.object cS)) Bd.returns rfl (Or.inr (Or.inr (Or.inr (Or.inr ⟨rfl, rfl, rfl⟩)))) (bd d22_28) (nl rfl) (nl rfl) ⟨_, rfl, N18, by exact (((Keep.refl h0 []).ext E1).trans K18 (allS (Or.inr (Nat.le_trans (Nat.le_refl _) (Nat.le_of_eq g1.symm))) all0)), (Nat.le_trans (Nat.le_refl _) (Nat.le_of_eq g1.symm)), by exact (A1.keep K18), by exact C0_18, by exact C1_18, by exact C2_18, by exact C3_18, by exact C4_18, by exact C5_18⟩
def Q_rmLs_L (Z : State) (a1 : Addr) (h0 : Heap) (n0 : Nat) (sv : Value) (pr : Int32) (lb : Addr) (vl : Value) (lm : Value) (v : Option Value) (h : Heap) (L : List Loc) : Prop := ∃ b, v = some (.ref b) ∧ Fr n0 L ∧ Keep h0 h [] ∧ h0.size ≤ b ∧ Exa Z h b cS ∧ Fld Z h b cS "connected" "Z" (.int 0) ∧ Fld Z h b cS "severity" dV sv ∧ Fld Z h b cS "precision" "I" (.int pr) ∧ Fld Z h b cS "labels" "Ljava/util/List;" (.ref lb) ∧ Fld Z h b cS "value" oO vl ∧ Fld Z h b cS "limits" dD lm
set_option maxRecDepth 65536 in
set_option maxHeartbeats 40000000 in
theorem rmLs_L (l : Launch) (Z : State) (a0 : Array Value) (hw : HW a0 Z) (ws : List Jvm.Cond) (a1 : Addr) (h0 : Heap) (n0 : Nat) (Z0 : n0 ≤ h0.size) (X00 : Old Z n0 h0) (E1 : Exa Z h0 a1 cS) (cn : Int32) (sv : Value) (rsv : sv.isRef = true) (pr : Int32) (lb : Addr) (vl : Value) (rvl : vl.isRef = true) (lm : Value) (rlm : lm.isRef = true) (El : Exa Z h0 lb c2) (F0 : Fld Z h0 a1 cS "connected" "Z" (.int cn)) (F1 : Fld Z h0 a1 cS "severity" dV sv) (F2 : Fld Z h0 a1 cS "precision" "I" (.int pr)) (F3 : Fld Z h0 a1 cS "labels" "Ljava/util/List;" (.ref lb)) (F4 : Fld Z h0 a1 cS "value" oO vl) (F5 : Fld Z h0 a1 cS "limits" dD lm) :
    MetFree l (⟨cS, "lost", zZ7⟩ : MethodName) (head1 (Jvm.Cond.code (⟨cS, "lost", zZ7⟩ : MethodName) kQ32 1 (some (.object cS)) :: ws) (rO 3 1 6 44)) (fun a U => a = #[(.ref a1)] ∧ Z.Warmed39 U.vm ∧ U.heap = h0) (fun _ _ _ _ _ => True) (fun _ U o U' => ∃ v L, o = .returned v ∧ Q_rmLs_L Z a1 h0 n0 sv pr lb vl lm v U'.heap L ∧ FrameEnd U o U' L (rO 3 1 6 44).cells (rO 3 1 6 44).slots) := by
  refine MetFree.of_bodySF (plainFor_of_name pn16) hisR ?_
  intro p e s m args below meth c s₁ Bd hml0 hP hK
  obtain ⟨rfl, hZ, hh⟩ := hP
  have hx := Bd.exec
  have hby := Bd.bytes
  have bd : ∀ {pc r}, decode kQ32 pc = r → decode c.code pc = r := fun q => hb hby q
  have hlk : meth.locks = false := Bd.notSynchronized
  have hml : c.maxLocals = 1 := hml0
  have hown : s.vm.findClass cS = some m.cls := findClass_of_methodNamed Bd.named
  have hnm := (name_of_methodNamed Bd.named Bd.method).1
  have X0 : Stand p l e (rO 3 1 6 44) s m #[(.ref a1)] below meth c s₁ [] 0 0 := Stand.of_body Bd
  have e0 : s₁.heap = h0 := by rw [← hh, Bd.state]; rfl
  have N0 := Fr.nil n0
  suffices hgo : OD p e s below (Q_rmLs_L Z a1 h0 n0 sv pr lb vl lm) (rO 3 1 6 44).cells (rO 3 1 6 44).slots (s₁.setTop (mkF m 0 #[.val (.ref a1)] [])) by
    obtain ⟨s₂, o, hgo1, hgo2⟩ := hgo
    exact ⟨s₂, o, castTop (ef0 m a1) hgo1, hgo2⟩
  obtain ⟨T1, h1, X1, e1, E1, A1, D1, -, st1⟩ := newO X0 hx hZ hown (Wd136 hw) (Wd76 hw) (Wd77 hw) e0 (g := (mkF m 0 #[.val (.ref a1)] [])) rfl (bd d22_0) (nl rfl) (nl rfl)
  obtain ⟨b1, g1⟩ : ∃ z, z = h0.size := ⟨_, rfl⟩
  rw [← g1] at A1 D1 st1
  have Fn2 : Fld Z h1 b1 cS "connected" "Z" (.int 0) := D1 (Or.inr (Wd120 hw)) (ty := .boolean) (by decide)
  have Fn3 : Fld Z h1 b1 cS "severity" dV .null := D1 (Or.inr (Wd122 hw)) (ty := (.object cV)) (by decide)
  have Fn4 : Fld Z h1 b1 cS "precision" "I" (.int 0) := D1 (Or.inr (Wd124 hw)) (ty := .int) (by decide)
  have Fn5 : Fld Z h1 b1 cS "labels" "Ljava/util/List;" .null := D1 (Or.inr (Wd126 hw)) (ty := (.object "java/util/List")) (by decide)
  have Fn6 : Fld Z h1 b1 cS "value" oO .null := D1 (Or.inr (Wd128 hw)) (ty := (.object cO)) (by decide)
  have Fn7 : Fld Z h1 b1 cS "limits" dD .null := D1 (Or.inr (Wd130 hw)) (ty := (.object cD)) (by decide)
  refine OD.go st1 ?_
  refine OD.go (B := (T1.setTop (mkF m 6 #[.val (.ref a1)] [(.ref a1), (.int 0), (.ref b1), (.ref b1)]))) (fun t k => XS.dup X1.here hx rfl (bd d22_3) rfl rfl (XS.iconst X1.here hx rfl (bd d22_4) (XS.aloadN X1.here hx rfl (bd d22_5) rfl rfl k))) ?_
  have f8 := (F1.ext E1)
  obtain ⟨T9, X9, e9, st9⟩ := getF X1 hx hZ hown (host := "") (Or.inl (Wd121 hw)) Via.refl e1 f8 (g := (mkF m 6 #[.val (.ref a1)] [(.ref a1), (.int 0), (.ref b1), (.ref b1)])) rfl rfl (bd d22_6)
  refine OD.go st9 ?_
  refine OD.go (B := (T9.setTop (mkF m 10 #[.val (.ref a1)] [(.ref a1), sv, (.int 0), (.ref b1), (.ref b1)]))) (fun t k => XS.aloadN X9.here hx rfl (bd d22_9) rfl rfl k) ?_
  have f10 := (F2.ext E1)
  obtain ⟨T11, X11, e11, st11⟩ := getF X9 hx hZ hown (host := "") (Or.inl (Wd123 hw)) Via.refl e9 f10 (g := (mkF m 10 #[.val (.ref a1)] [(.ref a1), sv, (.int 0), (.ref b1), (.ref b1)])) rfl rfl (bd d22_10)
  refine OD.go st11 ?_
  refine OD.go (B := (T11.setTop (mkF m 14 #[.val (.ref a1)] [(.ref a1), (.int pr), sv, (.int 0), (.ref b1), (.ref b1)]))) (fun t k => XS.aloadN X11.here hx rfl (bd d22_13) rfl rfl k) ?_
  have f12 := (F3.ext E1)
  obtain ⟨T13, X13, e13, st13⟩ := getF X11 hx hZ hown (host := "") (Or.inl (Wd125 hw)) Via.refl e11 f12 (g := (mkF m 14 #[.val (.ref a1)] [(.ref a1), (.int pr), sv, (.int 0), (.ref b1), (.ref b1)])) rfl rfl (bd d22_14)
  refine OD.go st13 ?_
  refine OD.go (B := (T13.setTop (mkF m 18 #[.val (.ref a1)] [(.ref a1), (.ref lb), (.int pr), sv, (.int 0), (.ref b1), (.ref b1)]))) (fun t k => XS.aloadN X13.here hx rfl (bd d22_17) rfl rfl k) ?_
  have f14 := (F4.ext E1)
  obtain ⟨T15, X15, e15, st15⟩ := getF X13 hx hZ hown (host := "") (Or.inl (Wd127 hw)) Via.refl e13 f14 (g := (mkF m 18 #[.val (.ref a1)] [(.ref a1), (.ref lb), (.int pr), sv, (.int 0), (.ref b1), (.ref b1)])) rfl rfl (bd d22_18)
  refine OD.go st15 ?_
  refine OD.go (B := (T15.setTop (mkF m 22 #[.val (.ref a1)] [(.ref a1), vl, (.ref lb), (.int pr), sv, (.int 0), (.ref b1), (.ref b1)]))) (fun t k => XS.aloadN X15.here hx rfl (bd d22_21) rfl rfl k) ?_
  have f16 := (F5.ext E1)
  obtain ⟨T17, X17, e17, st17⟩ := getF X15 hx hZ hown (host := "") (Or.inl (Wd129 hw)) Via.refl e15 f16 (g := (mkF m 22 #[.val (.ref a1)] [(.ref a1), vl, (.ref lb), (.int pr), sv, (.int 0), (.ref b1), (.ref b1)])) rfl rfl (bd d22_22)
  refine OD.go (B := (T17.setTop (mkF m 25 #[.val (.ref a1)] [lm, vl, (.ref lb), (.int pr), sv, (.int 0), (.ref b1), (.ref b1)]))) st17 ?_
  have f18 := (El.ext E1)
  obtain ⟨_, _, ⟨T19, L19, k19, n19⟩, -, X19, ⟨Lc19, hQ19, l19, y19, z19⟩, st19⟩ := X17.specialBack hx (y := (⟨cS, "<init>", zZ5⟩ : MethodName)) rfl hown (mvT hZ (Wd81 hw)) (mvT hZ (Wd82 hw)) (mvT hZ (Wd83 hw)) (by decide) (backOf (W := 1) (rmC6_L l Z a0 hw [] b1 (0 : Int32) sv rsv pr lb vl rvl lm rlm h1 n0 (Nat.le_trans Z0 E1.1) (X00.ext E1) A1 Fn2 Fn3 Fn4 Fn5 Fn6 Fn7 (Nat.le_trans Z0 (Nat.le_of_eq g1.symm)) (0 : Int32) rfl f18 (Ne.symm (Nat.ne_of_lt (Nat.lt_of_lt_of_le El.lt (Nat.le_of_eq g1.symm)))) ) hZ (Wd83 hw) (Wd77 hw) (by decide) (by decide)) (g := (mkF m 25 #[.val (.ref a1)] [lm, vl, (.ref lb), (.int pr), sv, (.int 0), (.ref b1), (.ref b1)])) rfl (by rw [hml]; rfl) (Steps.refl _) (a := b1) (argsL := [(.int 0), sv, (.int pr), (.ref lb), vl, lm]) (rest := [(.ref b1)]) (lenOf pd18 rfl) rfl (by show 2 * 0 + _ ≤ _; exact Nat.le_of_eq rfl) (bd d22_25) (fun _ _ => ⟨rfl, e17, (nl rfl), (nl rfl)⟩)
  dsimp only [Pt.U, Pt.locs, Pt.cells, Pt.slots] at X19 l19 y19 z19 st19 hQ19
  subst l19 y19 z19
  obtain ⟨rfl, Nq19, K19, C0_19, C1_19, C2_19, C3_19, C4_19, C5_19⟩ := hQ19
  have N19 := Fr.app N0 Nq19
  refine OD.via (B := (T19.setTop (mkF m 28 #[.val (.ref a1)] [(.ref b1)]))) st19 ?_
  exact OD.ret X19 hx hlk (t := (.object cS)) Bd.returns rfl (Or.inr (Or.inr (Or.inr (Or.inr ⟨rfl, rfl, rfl⟩)))) (bd d22_28) (nl rfl) (nl rfl) ⟨_, rfl, N19, by exact (((Keep.refl h0 []).ext E1).trans K19 (allS (Or.inr (Nat.le_trans (Nat.le_refl _) (Nat.le_of_eq g1.symm))) all0)), (Nat.le_trans (Nat.le_refl _) (Nat.le_of_eq g1.symm)), by exact (A1.keep K19), by exact C0_19, by exact C1_19, by exact C2_19, by exact C3_19, by exact C4_19, by exact C5_19⟩
def Q_rmX0 (Z : State) (a1 : Addr) (h0 : Heap) (v : Option Value) (h : Heap) (L : List Loc) : Prop := v = some (.int 0) ∧ L = [] ∧ h = h0
set_option maxRecDepth 65536 in
set_option maxHeartbeats 40000000 in
theorem rmX0 (l : Launch) (Z : State) (a0 : Array Value) (hw : HW a0 Z) (ws : List Jvm.Cond) (a1 : Addr) (h0 : Heap) (F1 : Fld Z h0 a1 cS "connected" "Z" (.int 0)) :
    MetFree l (⟨cS, "connected", "()Z"⟩ : MethodName) (head1 (Jvm.Cond.code (⟨cS, "connected", "()Z"⟩ : MethodName) kQ33 1 (some .boolean) :: ws) (rO 0 0 0 0)) (fun a U => a = #[(.ref a1)] ∧ Z.Warmed39 U.vm ∧ U.heap = h0) (fun _ _ _ _ _ => True) (fun _ U o U' => ∃ v L, o = .returned v ∧ Q_rmX0 Z a1 h0 v U'.heap L ∧ FrameEnd U o U' L (rO 0 0 0 0).cells (rO 0 0 0 0).slots) := by
  refine MetFree.of_bodySF (plainFor_of_name pn16) hisR ?_
  intro p e s m args below meth c s₁ Bd hml0 hP hK
  obtain ⟨rfl, hZ, hh⟩ := hP
  have hx := Bd.exec
  have hby := Bd.bytes
  have bd : ∀ {pc r}, decode kQ33 pc = r → decode c.code pc = r := fun q => hb hby q
  have hlk : meth.locks = false := Bd.notSynchronized
  have hml : c.maxLocals = 1 := hml0
  have hown : s.vm.findClass cS = some m.cls := findClass_of_methodNamed Bd.named
  have hnm := (name_of_methodNamed Bd.named Bd.method).1
  have X0 : Stand p l e (rO 0 0 0 0) s m #[(.ref a1)] below meth c s₁ [] 0 0 := Stand.of_body Bd
  have e0 : s₁.heap = h0 := by rw [← hh, Bd.state]; rfl
  suffices hgo : OD p e s below (Q_rmX0 Z a1 h0) (rO 0 0 0 0).cells (rO 0 0 0 0).slots (s₁.setTop (mkF m 0 #[.val (.ref a1)] [])) by
    obtain ⟨s₂, o, hgo1, hgo2⟩ := hgo
    exact ⟨s₂, o, castTop (ef0 m a1) hgo1, hgo2⟩
  refine OD.go (B := (s₁.setTop (mkF m 1 #[.val (.ref a1)] [(.ref a1)]))) (fun t k => XS.aloadN X0.here hx rfl (bd d23_0) rfl rfl k) ?_
  obtain ⟨T1, X1, e1, st1⟩ := getF X0 hx hZ hown (host := "") (Or.inl (Wd119 hw)) Via.refl e0 F1 (g := (mkF m 1 #[.val (.ref a1)] [(.ref a1)])) rfl rfl (bd d23_1)
  refine OD.go (B := (T1.setTop (mkF m 4 #[.val (.ref a1)] [(.int 0)]))) st1 ?_
  exact OD.ret X1 hx hlk (t := .boolean) Bd.returns rfl (Or.inl ⟨rfl, Or.inr (Or.inl rfl), _, rfl⟩) (bd d23_4) (nl rfl) (nl rfl) ⟨rfl, rfl, e1⟩
def Q_rmX1 (Z : State) (a1 : Addr) (h0 : Heap) (u : Value) (v : Option Value) (h : Heap) (L : List Loc) : Prop := v = some u ∧ L = [] ∧ h = h0
set_option maxRecDepth 65536 in
set_option maxHeartbeats 40000000 in
theorem rmX1 (l : Launch) (Z : State) (a0 : Array Value) (hw : HW a0 Z) (ws : List Jvm.Cond) (a1 : Addr) (h0 : Heap) (u : Value) (ru : u.isRef = true) (F1 : Fld Z h0 a1 cS "severity" dV u) :
    MetFree l (⟨cS, "severity", zZ9⟩ : MethodName) (head1 (Jvm.Cond.code (⟨cS, "severity", zZ9⟩ : MethodName) kQ34 1 (some (.object cV)) :: ws) (rO 0 0 0 0)) (fun a U => a = #[(.ref a1)] ∧ Z.Warmed39 U.vm ∧ U.heap = h0) (fun _ _ _ _ _ => True) (fun _ U o U' => ∃ v L, o = .returned v ∧ Q_rmX1 Z a1 h0 u v U'.heap L ∧ FrameEnd U o U' L (rO 0 0 0 0).cells (rO 0 0 0 0).slots) := by
  refine MetFree.of_bodySF (plainFor_of_name pn16) hisR ?_
  intro p e s m args below meth c s₁ Bd hml0 hP hK
  obtain ⟨rfl, hZ, hh⟩ := hP
  have hx := Bd.exec
  have hby := Bd.bytes
  have bd : ∀ {pc r}, decode kQ34 pc = r → decode c.code pc = r := fun q => hb hby q
  have hlk : meth.locks = false := Bd.notSynchronized
  have hml : c.maxLocals = 1 := hml0
  have hown : s.vm.findClass cS = some m.cls := findClass_of_methodNamed Bd.named
  have hnm := (name_of_methodNamed Bd.named Bd.method).1
  have X0 : Stand p l e (rO 0 0 0 0) s m #[(.ref a1)] below meth c s₁ [] 0 0 := Stand.of_body Bd
  have e0 : s₁.heap = h0 := by rw [← hh, Bd.state]; rfl
  suffices hgo : OD p e s below (Q_rmX1 Z a1 h0 u) (rO 0 0 0 0).cells (rO 0 0 0 0).slots (s₁.setTop (mkF m 0 #[.val (.ref a1)] [])) by
    obtain ⟨s₂, o, hgo1, hgo2⟩ := hgo
    exact ⟨s₂, o, castTop (ef0 m a1) hgo1, hgo2⟩
  refine OD.go (B := (s₁.setTop (mkF m 1 #[.val (.ref a1)] [(.ref a1)]))) (fun t k => XS.aloadN X0.here hx rfl (bd d24_0) rfl rfl k) ?_
  obtain ⟨T1, X1, e1, st1⟩ := getF X0 hx hZ hown (host := "") (Or.inl (Wd121 hw)) Via.refl e0 F1 (g := (mkF m 1 #[.val (.ref a1)] [(.ref a1)])) rfl rfl (bd d24_1)
  refine OD.go (B := (T1.setTop (mkF m 4 #[.val (.ref a1)] [u]))) st1 ?_
  exact OD.ret X1 hx hlk (t := (.object cV)) Bd.returns (own_narR ru) (Or.inr (Or.inr (Or.inr (Or.inr ⟨rfl, rfl, ru⟩)))) (bd d24_4) (nl rfl) (nl rfl) ⟨rfl, rfl, e1⟩
def Q_rmX2 (Z : State) (a1 : Addr) (h0 : Heap) (u : Int32) (v : Option Value) (h : Heap) (L : List Loc) : Prop := v = some (.int u) ∧ L = [] ∧ h = h0
set_option maxRecDepth 65536 in
set_option maxHeartbeats 40000000 in
theorem rmX2 (l : Launch) (Z : State) (a0 : Array Value) (hw : HW a0 Z) (ws : List Jvm.Cond) (a1 : Addr) (h0 : Heap) (u : Int32) (F1 : Fld Z h0 a1 cS "precision" "I" (.int u)) :
    MetFree l (⟨cS, "precision", "()I"⟩ : MethodName) (head1 (Jvm.Cond.code (⟨cS, "precision", "()I"⟩ : MethodName) kQ35 1 (some .int) :: ws) (rO 0 0 0 0)) (fun a U => a = #[(.ref a1)] ∧ Z.Warmed39 U.vm ∧ U.heap = h0) (fun _ _ _ _ _ => True) (fun _ U o U' => ∃ v L, o = .returned v ∧ Q_rmX2 Z a1 h0 u v U'.heap L ∧ FrameEnd U o U' L (rO 0 0 0 0).cells (rO 0 0 0 0).slots) := by
  refine MetFree.of_bodySF (plainFor_of_name pn16) hisR ?_
  intro p e s m args below meth c s₁ Bd hml0 hP hK
  obtain ⟨rfl, hZ, hh⟩ := hP
  have hx := Bd.exec
  have hby := Bd.bytes
  have bd : ∀ {pc r}, decode kQ35 pc = r → decode c.code pc = r := fun q => hb hby q
  have hlk : meth.locks = false := Bd.notSynchronized
  have hml : c.maxLocals = 1 := hml0
  have hown : s.vm.findClass cS = some m.cls := findClass_of_methodNamed Bd.named
  have hnm := (name_of_methodNamed Bd.named Bd.method).1
  have X0 : Stand p l e (rO 0 0 0 0) s m #[(.ref a1)] below meth c s₁ [] 0 0 := Stand.of_body Bd
  have e0 : s₁.heap = h0 := by rw [← hh, Bd.state]; rfl
  suffices hgo : OD p e s below (Q_rmX2 Z a1 h0 u) (rO 0 0 0 0).cells (rO 0 0 0 0).slots (s₁.setTop (mkF m 0 #[.val (.ref a1)] [])) by
    obtain ⟨s₂, o, hgo1, hgo2⟩ := hgo
    exact ⟨s₂, o, castTop (ef0 m a1) hgo1, hgo2⟩
  refine OD.go (B := (s₁.setTop (mkF m 1 #[.val (.ref a1)] [(.ref a1)]))) (fun t k => XS.aloadN X0.here hx rfl (bd d25_0) rfl rfl k) ?_
  obtain ⟨T1, X1, e1, st1⟩ := getF X0 hx hZ hown (host := "") (Or.inl (Wd123 hw)) Via.refl e0 F1 (g := (mkF m 1 #[.val (.ref a1)] [(.ref a1)])) rfl rfl (bd d25_1)
  refine OD.go (B := (T1.setTop (mkF m 4 #[.val (.ref a1)] [(.int u)]))) st1 ?_
  exact OD.ret X1 hx hlk (t := .int) Bd.returns rfl (Or.inl ⟨rfl, Or.inl rfl, _, rfl⟩) (bd d25_4) (nl rfl) (nl rfl) ⟨rfl, rfl, e1⟩
def Q_rmX3 (Z : State) (a1 : Addr) (h0 : Heap) (u : Value) (v : Option Value) (h : Heap) (L : List Loc) : Prop := v = some u ∧ L = [] ∧ h = h0
set_option maxRecDepth 65536 in
set_option maxHeartbeats 40000000 in
theorem rmX3 (l : Launch) (Z : State) (a0 : Array Value) (hw : HW a0 Z) (ws : List Jvm.Cond) (a1 : Addr) (h0 : Heap) (u : Value) (ru : u.isRef = true) (F1 : Fld Z h0 a1 cS "labels" "Ljava/util/List;" u) :
    MetFree l (⟨cS, "labels", "()Ljava/util/List;"⟩ : MethodName) (head1 (Jvm.Cond.code (⟨cS, "labels", "()Ljava/util/List;"⟩ : MethodName) kQ36 1 (some (.object "java/util/List")) :: ws) (rO 0 0 0 0)) (fun a U => a = #[(.ref a1)] ∧ Z.Warmed39 U.vm ∧ U.heap = h0) (fun _ _ _ _ _ => True) (fun _ U o U' => ∃ v L, o = .returned v ∧ Q_rmX3 Z a1 h0 u v U'.heap L ∧ FrameEnd U o U' L (rO 0 0 0 0).cells (rO 0 0 0 0).slots) := by
  refine MetFree.of_bodySF (plainFor_of_name pn16) hisR ?_
  intro p e s m args below meth c s₁ Bd hml0 hP hK
  obtain ⟨rfl, hZ, hh⟩ := hP
  have hx := Bd.exec
  have hby := Bd.bytes
  have bd : ∀ {pc r}, decode kQ36 pc = r → decode c.code pc = r := fun q => hb hby q
  have hlk : meth.locks = false := Bd.notSynchronized
  have hml : c.maxLocals = 1 := hml0
  have hown : s.vm.findClass cS = some m.cls := findClass_of_methodNamed Bd.named
  have hnm := (name_of_methodNamed Bd.named Bd.method).1
  have X0 : Stand p l e (rO 0 0 0 0) s m #[(.ref a1)] below meth c s₁ [] 0 0 := Stand.of_body Bd
  have e0 : s₁.heap = h0 := by rw [← hh, Bd.state]; rfl
  suffices hgo : OD p e s below (Q_rmX3 Z a1 h0 u) (rO 0 0 0 0).cells (rO 0 0 0 0).slots (s₁.setTop (mkF m 0 #[.val (.ref a1)] [])) by
    obtain ⟨s₂, o, hgo1, hgo2⟩ := hgo
    exact ⟨s₂, o, castTop (ef0 m a1) hgo1, hgo2⟩
  refine OD.go (B := (s₁.setTop (mkF m 1 #[.val (.ref a1)] [(.ref a1)]))) (fun t k => XS.aloadN X0.here hx rfl (bd d27_0) rfl rfl k) ?_
  obtain ⟨T1, X1, e1, st1⟩ := getF X0 hx hZ hown (host := "") (Or.inl (Wd125 hw)) Via.refl e0 F1 (g := (mkF m 1 #[.val (.ref a1)] [(.ref a1)])) rfl rfl (bd d27_1)
  refine OD.go (B := (T1.setTop (mkF m 4 #[.val (.ref a1)] [u]))) st1 ?_
  exact OD.ret X1 hx hlk (t := (.object "java/util/List")) Bd.returns (own_narR ru) (Or.inr (Or.inr (Or.inr (Or.inr ⟨rfl, rfl, ru⟩)))) (bd d27_4) (nl rfl) (nl rfl) ⟨rfl, rfl, e1⟩
def Q_rmX4 (Z : State) (a1 : Addr) (h0 : Heap) (u : Value) (v : Option Value) (h : Heap) (L : List Loc) : Prop := v = some u ∧ L = [] ∧ h = h0
set_option maxRecDepth 65536 in
set_option maxHeartbeats 40000000 in
theorem rmX4 (l : Launch) (Z : State) (a0 : Array Value) (hw : HW a0 Z) (ws : List Jvm.Cond) (a1 : Addr) (h0 : Heap) (u : Value) (ru : u.isRef = true) (F1 : Fld Z h0 a1 cS "value" oO u) :
    MetFree l (⟨cS, "value", "()Ljava/lang/Object;"⟩ : MethodName) (head1 (Jvm.Cond.code (⟨cS, "value", "()Ljava/lang/Object;"⟩ : MethodName) kQ37 1 (some (.object cO)) :: ws) (rO 0 0 0 0)) (fun a U => a = #[(.ref a1)] ∧ Z.Warmed39 U.vm ∧ U.heap = h0) (fun _ _ _ _ _ => True) (fun _ U o U' => ∃ v L, o = .returned v ∧ Q_rmX4 Z a1 h0 u v U'.heap L ∧ FrameEnd U o U' L (rO 0 0 0 0).cells (rO 0 0 0 0).slots) := by
  refine MetFree.of_bodySF (plainFor_of_name pn16) hisR ?_
  intro p e s m args below meth c s₁ Bd hml0 hP hK
  obtain ⟨rfl, hZ, hh⟩ := hP
  have hx := Bd.exec
  have hby := Bd.bytes
  have bd : ∀ {pc r}, decode kQ37 pc = r → decode c.code pc = r := fun q => hb hby q
  have hlk : meth.locks = false := Bd.notSynchronized
  have hml : c.maxLocals = 1 := hml0
  have hown : s.vm.findClass cS = some m.cls := findClass_of_methodNamed Bd.named
  have hnm := (name_of_methodNamed Bd.named Bd.method).1
  have X0 : Stand p l e (rO 0 0 0 0) s m #[(.ref a1)] below meth c s₁ [] 0 0 := Stand.of_body Bd
  have e0 : s₁.heap = h0 := by rw [← hh, Bd.state]; rfl
  suffices hgo : OD p e s below (Q_rmX4 Z a1 h0 u) (rO 0 0 0 0).cells (rO 0 0 0 0).slots (s₁.setTop (mkF m 0 #[.val (.ref a1)] [])) by
    obtain ⟨s₂, o, hgo1, hgo2⟩ := hgo
    exact ⟨s₂, o, castTop (ef0 m a1) hgo1, hgo2⟩
  refine OD.go (B := (s₁.setTop (mkF m 1 #[.val (.ref a1)] [(.ref a1)]))) (fun t k => XS.aloadN X0.here hx rfl (bd d26_0) rfl rfl k) ?_
  obtain ⟨T1, X1, e1, st1⟩ := getF X0 hx hZ hown (host := "") (Or.inl (Wd127 hw)) Via.refl e0 F1 (g := (mkF m 1 #[.val (.ref a1)] [(.ref a1)])) rfl rfl (bd d26_1)
  refine OD.go (B := (T1.setTop (mkF m 4 #[.val (.ref a1)] [u]))) st1 ?_
  exact OD.ret X1 hx hlk (t := (.object cO)) Bd.returns (own_narR ru) (Or.inr (Or.inr (Or.inr (Or.inr ⟨rfl, rfl, ru⟩)))) (bd d26_4) (nl rfl) (nl rfl) ⟨rfl, rfl, e1⟩
def Q_rmX5 (Z : State) (a1 : Addr) (h0 : Heap) (u : Value) (v : Option Value) (h : Heap) (L : List Loc) : Prop := v = some u ∧ L = [] ∧ h = h0
set_option maxRecDepth 65536 in
set_option maxHeartbeats 40000000 in
theorem rmX5 (l : Launch) (Z : State) (a0 : Array Value) (hw : HW a0 Z) (ws : List Jvm.Cond) (a1 : Addr) (h0 : Heap) (u : Value) (ru : u.isRef = true) (F1 : Fld Z h0 a1 cS "limits" dD u) :
    MetFree l (⟨cS, "limits", zZ10⟩ : MethodName) (head1 (Jvm.Cond.code (⟨cS, "limits", zZ10⟩ : MethodName) kQ38 1 (some (.object cD)) :: ws) (rO 0 0 0 0)) (fun a U => a = #[(.ref a1)] ∧ Z.Warmed39 U.vm ∧ U.heap = h0) (fun _ _ _ _ _ => True) (fun _ U o U' => ∃ v L, o = .returned v ∧ Q_rmX5 Z a1 h0 u v U'.heap L ∧ FrameEnd U o U' L (rO 0 0 0 0).cells (rO 0 0 0 0).slots) := by
  refine MetFree.of_bodySF (plainFor_of_name pn16) hisR ?_
  intro p e s m args below meth c s₁ Bd hml0 hP hK
  obtain ⟨rfl, hZ, hh⟩ := hP
  have hx := Bd.exec
  have hby := Bd.bytes
  have bd : ∀ {pc r}, decode kQ38 pc = r → decode c.code pc = r := fun q => hb hby q
  have hlk : meth.locks = false := Bd.notSynchronized
  have hml : c.maxLocals = 1 := hml0
  have hown : s.vm.findClass cS = some m.cls := findClass_of_methodNamed Bd.named
  have hnm := (name_of_methodNamed Bd.named Bd.method).1
  have X0 : Stand p l e (rO 0 0 0 0) s m #[(.ref a1)] below meth c s₁ [] 0 0 := Stand.of_body Bd
  have e0 : s₁.heap = h0 := by rw [← hh, Bd.state]; rfl
  suffices hgo : OD p e s below (Q_rmX5 Z a1 h0 u) (rO 0 0 0 0).cells (rO 0 0 0 0).slots (s₁.setTop (mkF m 0 #[.val (.ref a1)] [])) by
    obtain ⟨s₂, o, hgo1, hgo2⟩ := hgo
    exact ⟨s₂, o, castTop (ef0 m a1) hgo1, hgo2⟩
  refine OD.go (B := (s₁.setTop (mkF m 1 #[.val (.ref a1)] [(.ref a1)]))) (fun t k => XS.aloadN X0.here hx rfl (bd d29_0) rfl rfl k) ?_
  obtain ⟨T1, X1, e1, st1⟩ := getF X0 hx hZ hown (host := "") (Or.inl (Wd129 hw)) Via.refl e0 F1 (g := (mkF m 1 #[.val (.ref a1)] [(.ref a1)])) rfl rfl (bd d29_1)
  refine OD.go (B := (T1.setTop (mkF m 4 #[.val (.ref a1)] [u]))) st1 ?_
  exact OD.ret X1 hx hlk (t := (.object cD)) Bd.returns (own_narR ru) (Or.inr (Or.inr (Or.inr (Or.inr ⟨rfl, rfl, ru⟩)))) (bd d29_4) (nl rfl) (nl rfl) ⟨rfl, rfl, e1⟩
def Q_rmDL (Z : State) (a1 : Addr) (dx : UInt64) (dy : UInt64) (h0 : Heap) (n0 : Nat) (v : Option Value) (h : Heap) (L : List Loc) : Prop := v = none ∧ Fr n0 L ∧ Keep h0 h [a1] ∧ Fld Z h a1 cD "lower" "D" (.double dx) ∧ Fld Z h a1 cD "upper" "D" (.double dy)
set_option maxRecDepth 65536 in
set_option maxHeartbeats 40000000 in
theorem rmDL (l : Launch) (Z : State) (a0 : Array Value) (hw : HW a0 Z) (ws : List Jvm.Cond) (a1 : Addr) (dx : UInt64) (dy : UInt64) (h0 : Heap) (n0 : Nat) (Z0 : n0 ≤ h0.size) (E1 : Exa Z h0 a1 cD) (F0 : Fld Z h0 a1 cD "lower" "D" (.double (0 : UInt64))) (F1 : Fld Z h0 a1 cD "upper" "D" (.double (0 : UInt64))) (g1 : n0 ≤ a1) :
    MetFree l (⟨cD, "<init>", "(DD)V"⟩ : MethodName) (head1 (Jvm.Cond.code (⟨cD, "<init>", "(DD)V"⟩ : MethodName) kQ39 5 none :: ws) (rO 2 0 0 24)) (fun a U => a = #[(.ref a1), (.double dx), (.double dy)] ∧ Z.Warmed39 U.vm ∧ U.heap = h0) (fun _ _ _ _ _ => True) (fun _ U o U' => ∃ v L, o = .returned v ∧ Q_rmDL Z a1 dx dy h0 n0 v U'.heap L ∧ FrameEnd U o U' L (rO 2 0 0 24).cells (rO 2 0 0 24).slots) := by
  refine MetFree.of_bodySF (plainFor_of_name pn17) hisR ?_
  intro p e s m args below meth c s₁ Bd hml0 hP hK
  obtain ⟨rfl, hZ, hh⟩ := hP
  have hx := Bd.exec
  have hby := Bd.bytes
  have bd : ∀ {pc r}, decode kQ39 pc = r → decode c.code pc = r := fun q => hb hby q
  have hlk : meth.locks = false := Bd.notSynchronized
  have hml : c.maxLocals = 5 := hml0
  have hown : s.vm.findClass cD = some m.cls := findClass_of_methodNamed Bd.named
  have hnm := (name_of_methodNamed Bd.named Bd.method).1
  have X0 : Stand p l e (rO 2 0 0 24) s m #[(.ref a1), (.double dx), (.double dy)] below meth c s₁ [] 0 0 := Stand.of_body Bd
  have e0 : s₁.heap = h0 := by rw [← hh, Bd.state]; rfl
  have N0 := Fr.nil n0
  suffices hgo : OD p e s below (Q_rmDL Z a1 dx dy h0 n0) (rO 2 0 0 24).cells (rO 2 0 0 24).slots (s₁.setTop (mkF m 0 #[.val (.ref a1), .val (.double dx), .second, .val (.double dy), .second] [])) by
    obtain ⟨s₂, o, hgo1, hgo2⟩ := hgo
    exact ⟨s₂, o, castTop (ef14 m a1 dx dy) hgo1, hgo2⟩
  refine OD.go (B := (s₁.setTop (mkF m 1 #[.val (.ref a1), .val (.double dx), .second, .val (.double dy), .second] [(.ref a1)]))) (fun t k => XS.aloadN X0.here hx rfl (bd d48_0) rfl rfl k) ?_
  obtain ⟨_, _, ⟨T1, L1, k1, n1⟩, -, X1, ⟨Lc1, hQ1, l1, y1, z1⟩, st1⟩ := X0.specialBack hx (y := (⟨"java/lang/Record", "<init>", "()V"⟩ : MethodName)) rfl hown (mvT hZ (Wd314 hw)) (mvT hZ (Wd85 hw)) (mvT hZ (Wd88 hw)) (by decide) (backOf (W := 0) (rmR l Z a0 hw [] a1 h0) hZ (Wd88 hw) (Wd87 hw) (by decide) (by decide)) (g := (mkF m 1 #[.val (.ref a1), .val (.double dx), .second, .val (.double dy), .second] [(.ref a1)])) rfl (by rw [hml]; rfl) (Steps.refl _) (a := a1) (argsL := []) (rest := []) (lenOf pd0 rfl) rfl (by show 2 * 0 + _ ≤ _; exact Nat.le_of_eq rfl) (bd d48_1) (fun _ _ => ⟨rfl, e0, (nl rfl), (nl rfl)⟩)
  dsimp only [Pt.U, Pt.locs, Pt.cells, Pt.slots] at X1 l1 y1 z1 st1 hQ1
  subst l1 y1 z1
  obtain ⟨rfl, rfl, e1⟩ := hQ1
  have N1 := Fr.app N0 (Fr.nil _)
  refine OD.via st1 ?_
  refine OD.go (B := (T1.setTop (mkF m 6 #[.val (.ref a1), .val (.double dx), .second, .val (.double dy), .second] [(.double dx), (.ref a1)]))) (fun t k => XS.aloadN X1.here hx rfl (bd d48_4) rfl rfl (XS.dloadN X1.here hx rfl (bd d48_5) rfl k)) ?_
  obtain ⟨T2, h2, X2, e2, W2, st2⟩ := putF X1 hx hZ hown (host := "") (Or.inl (Wd315 hw)) Via.refl e1 F0 E1 (Or.inr ⟨(Wd316 hw), rfl, hnm⟩) (Wd309 hw) (ty := .double) (by decide) rfl rfl (g := (mkF m 6 #[.val (.ref a1), .val (.double dx), .second, .val (.double dy), .second] [(.double dx), (.ref a1)])) rfl rfl (bd d48_6)
  have Fx2 := F0.same W2
  have N2 := Fr.snoc X2 N1 g1
  refine OD.go st2 ?_
  refine OD.go (B := (T2.setTop (mkF m 11 #[.val (.ref a1), .val (.double dx), .second, .val (.double dy), .second] [(.double dy), (.ref a1)]))) (fun t k => XS.aloadN X2.here hx rfl (bd d48_9) rfl rfl (XS.dloadN X2.here hx rfl (bd d48_10) rfl k)) ?_
  have f3 := (F1.other W2 (Or.inr (slot_ne (Or.inr (Wd318 hw)) (Or.inr (Wd316 hw)) (by decide) (t := .double) (t' := .double) (by decide) (by decide))))
  have f4 := (E1.wr W2)
  obtain ⟨T5, h5, X5, e5, W5, st5⟩ := putF X2 hx hZ hown (host := "") (Or.inl (Wd317 hw)) Via.refl e2 f3 f4 (Or.inr ⟨(Wd318 hw), rfl, hnm⟩) (Wd309 hw) (ty := .double) (by decide) rfl rfl (g := (mkF m 11 #[.val (.ref a1), .val (.double dx), .second, .val (.double dy), .second] [(.double dy), (.ref a1)])) rfl rfl (bd d48_11)
  have Fx5 := f3.same W5
  have N5 := Fr.snoc X5 N2 g1
  refine OD.go (B := (T5.setTop (mkF m 14 #[.val (.ref a1), .val (.double dx), .second, .val (.double dy), .second] []))) st5 ?_
  exact OD.retV X5 hx hlk Bd.returns (bd d48_14) (nl rfl) (nl rfl) ⟨rfl, N5, by rw [e5]; exact (((Keep.refl h0 [a1]).wr W2 (Or.inl (List.mem_of_getElem? (i := 0) rfl))).wr W5 (Or.inl (List.mem_of_getElem? (i := 0) rfl))), by rw [e5]; exact (Fx2.other W5 (Or.inr (slot_ne (Or.inr (Wd316 hw)) (Or.inr (Wd318 hw)) (by decide) (t := .double) (t' := .double) (by decide) (by decide)))), by rw [e5]; exact Fx5⟩
def Q_rmDlower (Z : State) (a1 : Addr) (h0 : Heap) (u : UInt64) (v : Option Value) (h : Heap) (L : List Loc) : Prop := v = some (.double u) ∧ L = [] ∧ h = h0
set_option maxRecDepth 65536 in
set_option maxHeartbeats 40000000 in
theorem rmDlower (l : Launch) (Z : State) (a0 : Array Value) (hw : HW a0 Z) (ws : List Jvm.Cond) (a1 : Addr) (h0 : Heap) (u : UInt64) (F1 : Fld Z h0 a1 cD "lower" "D" (.double u)) :
    MetFree l (⟨cD, "lower", "()D"⟩ : MethodName) (head1 (Jvm.Cond.code (⟨cD, "lower", "()D"⟩ : MethodName) kQ40 1 (some .double) :: ws) (rO 0 0 0 0)) (fun a U => a = #[(.ref a1)] ∧ Z.Warmed39 U.vm ∧ U.heap = h0) (fun _ _ _ _ _ => True) (fun _ U o U' => ∃ v L, o = .returned v ∧ Q_rmDlower Z a1 h0 u v U'.heap L ∧ FrameEnd U o U' L (rO 0 0 0 0).cells (rO 0 0 0 0).slots) := by
  refine MetFree.of_bodySF (plainFor_of_name pn17) hisR ?_
  intro p e s m args below meth c s₁ Bd hml0 hP hK
  obtain ⟨rfl, hZ, hh⟩ := hP
  have hx := Bd.exec
  have hby := Bd.bytes
  have bd : ∀ {pc r}, decode kQ40 pc = r → decode c.code pc = r := fun q => hb hby q
  have hlk : meth.locks = false := Bd.notSynchronized
  have hml : c.maxLocals = 1 := hml0
  have hown : s.vm.findClass cD = some m.cls := findClass_of_methodNamed Bd.named
  have hnm := (name_of_methodNamed Bd.named Bd.method).1
  have X0 : Stand p l e (rO 0 0 0 0) s m #[(.ref a1)] below meth c s₁ [] 0 0 := Stand.of_body Bd
  have e0 : s₁.heap = h0 := by rw [← hh, Bd.state]; rfl
  suffices hgo : OD p e s below (Q_rmDlower Z a1 h0 u) (rO 0 0 0 0).cells (rO 0 0 0 0).slots (s₁.setTop (mkF m 0 #[.val (.ref a1)] [])) by
    obtain ⟨s₂, o, hgo1, hgo2⟩ := hgo
    exact ⟨s₂, o, castTop (ef0 m a1) hgo1, hgo2⟩
  refine OD.go (B := (s₁.setTop (mkF m 1 #[.val (.ref a1)] [(.ref a1)]))) (fun t k => XS.aloadN X0.here hx rfl (bd d50_0) rfl rfl k) ?_
  obtain ⟨T1, X1, e1, st1⟩ := getF X0 hx hZ hown (host := "") (Or.inl (Wd315 hw)) Via.refl e0 F1 (g := (mkF m 1 #[.val (.ref a1)] [(.ref a1)])) rfl rfl (bd d50_1)
  refine OD.go (B := (T1.setTop (mkF m 4 #[.val (.ref a1)] [(.double u)]))) st1 ?_
  exact OD.ret X1 hx hlk (t := .double) Bd.returns rfl (Or.inr (Or.inr (Or.inl ⟨rfl, rfl, _, rfl⟩))) (bd d50_4) (nl rfl) (nl rfl) ⟨rfl, rfl, e1⟩
def Q_rmDupper (Z : State) (a1 : Addr) (h0 : Heap) (u : UInt64) (v : Option Value) (h : Heap) (L : List Loc) : Prop := v = some (.double u) ∧ L = [] ∧ h = h0
set_option maxRecDepth 65536 in
set_option maxHeartbeats 40000000 in
theorem rmDupper (l : Launch) (Z : State) (a0 : Array Value) (hw : HW a0 Z) (ws : List Jvm.Cond) (a1 : Addr) (h0 : Heap) (u : UInt64) (F1 : Fld Z h0 a1 cD "upper" "D" (.double u)) :
    MetFree l (⟨cD, "upper", "()D"⟩ : MethodName) (head1 (Jvm.Cond.code (⟨cD, "upper", "()D"⟩ : MethodName) kQ41 1 (some .double) :: ws) (rO 0 0 0 0)) (fun a U => a = #[(.ref a1)] ∧ Z.Warmed39 U.vm ∧ U.heap = h0) (fun _ _ _ _ _ => True) (fun _ U o U' => ∃ v L, o = .returned v ∧ Q_rmDupper Z a1 h0 u v U'.heap L ∧ FrameEnd U o U' L (rO 0 0 0 0).cells (rO 0 0 0 0).slots) := by
  refine MetFree.of_bodySF (plainFor_of_name pn17) hisR ?_
  intro p e s m args below meth c s₁ Bd hml0 hP hK
  obtain ⟨rfl, hZ, hh⟩ := hP
  have hx := Bd.exec
  have hby := Bd.bytes
  have bd : ∀ {pc r}, decode kQ41 pc = r → decode c.code pc = r := fun q => hb hby q
  have hlk : meth.locks = false := Bd.notSynchronized
  have hml : c.maxLocals = 1 := hml0
  have hown : s.vm.findClass cD = some m.cls := findClass_of_methodNamed Bd.named
  have hnm := (name_of_methodNamed Bd.named Bd.method).1
  have X0 : Stand p l e (rO 0 0 0 0) s m #[(.ref a1)] below meth c s₁ [] 0 0 := Stand.of_body Bd
  have e0 : s₁.heap = h0 := by rw [← hh, Bd.state]; rfl
  suffices hgo : OD p e s below (Q_rmDupper Z a1 h0 u) (rO 0 0 0 0).cells (rO 0 0 0 0).slots (s₁.setTop (mkF m 0 #[.val (.ref a1)] [])) by
    obtain ⟨s₂, o, hgo1, hgo2⟩ := hgo
    exact ⟨s₂, o, castTop (ef0 m a1) hgo1, hgo2⟩
  refine OD.go (B := (s₁.setTop (mkF m 1 #[.val (.ref a1)] [(.ref a1)]))) (fun t k => XS.aloadN X0.here hx rfl (bd d51_0) rfl rfl k) ?_
  obtain ⟨T1, X1, e1, st1⟩ := getF X0 hx hZ hown (host := "") (Or.inl (Wd317 hw)) Via.refl e0 F1 (g := (mkF m 1 #[.val (.ref a1)] [(.ref a1)])) rfl rfl (bd d51_1)
  refine OD.go (B := (T1.setTop (mkF m 4 #[.val (.ref a1)] [(.double u)]))) st1 ?_
  exact OD.ret X1 hx hlk (t := .double) Bd.returns rfl (Or.inr (Or.inr (Or.inl ⟨rfl, rfl, _, rfl⟩))) (bd d51_4) (nl rfl) (nl rfl) ⟨rfl, rfl, e1⟩
def Q_rmSZ (Z : State) (el : Addr) (h0 : Heap) (v : Option Value) (h : Heap) (L : List Loc) : Prop := v = some (.int 0) ∧ L = [] ∧ h = h0
set_option maxRecDepth 65536 in
set_option maxHeartbeats 40000000 in
theorem rmSZ (l : Launch) (Z : State) (a0 : Array Value) (hw : HW a0 Z) (ws : List Jvm.Cond) (el : Addr) (h0 : Heap) (n0 : Nat) (X00 : Old Z n0 h0) (ea : Addr) (kE : ClassId) (Se : Sta Z Z.heap cI "EMPTY_LIST" zZ12 (.ref el)) (Ee : Exa Z Z.heap el cN) (Fa : Fld Z Z.heap el cN "allowNulls" "Z" (.int 0)) (Fel : Fld Z Z.heap el cN "elements" "[Ljava/lang/Object;" (.ref ea)) (Ae : Arv Z Z.heap ea kE (.object cO) (0 : Int32) [] .null) :
    MetFree l (⟨cN, "size", "()I"⟩ : MethodName) (head1 (Jvm.Cond.code (⟨cN, "size", "()I"⟩ : MethodName) kQ42 1 (some .int) :: ws) (rO 0 0 0 0)) (fun a U => a = #[(.ref el)] ∧ Z.Warmed39 U.vm ∧ U.heap = h0) (fun _ _ _ _ _ => True) (fun _ U o U' => ∃ v L, o = .returned v ∧ Q_rmSZ Z el h0 v U'.heap L ∧ FrameEnd U o U' L (rO 0 0 0 0).cells (rO 0 0 0 0).slots) := by
  refine MetFree.of_bodySF (plainFor_of_name pn18) hisR ?_
  intro p e s m args below meth c s₁ Bd hml0 hP hK
  obtain ⟨rfl, hZ, hh⟩ := hP
  have hx := Bd.exec
  have hby := Bd.bytes
  have bd : ∀ {pc r}, decode kQ42 pc = r → decode c.code pc = r := fun q => hb hby q
  have hlk : meth.locks = false := Bd.notSynchronized
  have hml : c.maxLocals = 1 := hml0
  have hown : s.vm.findClass cN = some m.cls := findClass_of_methodNamed Bd.named
  have hnm := (name_of_methodNamed Bd.named Bd.method).1
  have X0 : Stand p l e (rO 0 0 0 0) s m #[(.ref el)] below meth c s₁ [] 0 0 := Stand.of_body Bd
  have e0 : s₁.heap = h0 := by rw [← hh, Bd.state]; rfl
  suffices hgo : OD p e s below (Q_rmSZ Z el h0) (rO 0 0 0 0).cells (rO 0 0 0 0).slots (s₁.setTop (mkF m 0 #[.val (.ref el)] [])) by
    obtain ⟨s₂, o, hgo1, hgo2⟩ := hgo
    exact ⟨s₂, o, castTop (ef0 m el) hgo1, hgo2⟩
  refine OD.go (B := (s₁.setTop (mkF m 1 #[.val (.ref el)] [(.ref el)]))) (fun t k => XS.aloadN X0.here hx rfl (bd d28_0) rfl rfl k) ?_
  have f1 := (Fel.ext X00.2)
  obtain ⟨T2, X2, e2, st2⟩ := getF X0 hx hZ hown (host := "") (Or.inl (Wd179 hw)) Via.refl e0 f1 (g := (mkF m 1 #[.val (.ref el)] [(.ref el)])) rfl rfl (bd d28_1)
  refine OD.go (B := (T2.setTop (mkF m 4 #[.val (.ref el)] [(.ref ea)]))) st2 ?_
  have f3 := (Ae.ext X00.2)
  obtain ⟨cl4, Ar4, hl4⟩ := own_len f3
  refine OD.go (B := (T2.setTop (mkF m 5 #[.val (.ref el)] [(.int 0)]))) (fun t k => X2.arraylength hx (by rw [e2]; exact Ar4.1) (State.isArrayOf_alike hZ.alike Ar4.2.1) (g := (mkF m 4 #[.val (.ref el)] [(.ref ea)])) rfl rfl (bd d28_4) _ (by rw [hl4]; exact k)) ?_
  exact OD.ret X2 hx hlk (t := .int) Bd.returns rfl (Or.inl ⟨rfl, Or.inl rfl, _, rfl⟩) (bd d28_5) (nl rfl) (nl rfl) ⟨rfl, rfl, e2⟩
def Q_rmS12_1 (Z : State) (a1 : Addr) (h0 : Heap) (v : Option Value) (h : Heap) (L : List Loc) : Prop := v = some (.int 1) ∧ L = [] ∧ h = h0
set_option maxRecDepth 65536 in
set_option maxHeartbeats 40000000 in
theorem rmS12_1 (l : Launch) (Z : State) (a0 : Array Value) (hw : HW a0 Z) (ws : List Jvm.Cond) (a1 : Addr) (h0 : Heap) (n0 : Nat) (X00 : Old Z n0 h0) (em : Addr) (Sm : Sta Z Z.heap cI "EMPTY" oO (.ref em)) (x0 : Addr) (E1 : Exa Z h0 a1 c2) (F0 : Fld Z h0 a1 c2 "e0" oO (.ref x0)) (F1 : Fld Z h0 a1 c2 "e1" oO (.ref em)) :
    MetFree l (⟨c2, "size", "()I"⟩ : MethodName) (head1 (Jvm.Cond.code (⟨c2, "size", "()I"⟩ : MethodName) kQ43 1 (some .int) :: ws) (rO 0 0 0 0)) (fun a U => a = #[(.ref a1)] ∧ Z.Warmed39 U.vm ∧ U.heap = h0) (fun _ _ _ _ _ => True) (fun _ U o U' => ∃ v L, o = .returned v ∧ Q_rmS12_1 Z a1 h0 v U'.heap L ∧ FrameEnd U o U' L (rO 0 0 0 0).cells (rO 0 0 0 0).slots) := by
  refine MetFree.of_bodySF (plainFor_of_name pn13) hisR ?_
  intro p e s m args below meth c s₁ Bd hml0 hP hK
  obtain ⟨rfl, hZ, hh⟩ := hP
  have hx := Bd.exec
  have hby := Bd.bytes
  have bd : ∀ {pc r}, decode kQ43 pc = r → decode c.code pc = r := fun q => hb hby q
  have hlk : meth.locks = false := Bd.notSynchronized
  have hml : c.maxLocals = 1 := hml0
  have hown : s.vm.findClass c2 = some m.cls := findClass_of_methodNamed Bd.named
  have hnm := (name_of_methodNamed Bd.named Bd.method).1
  have X0 : Stand p l e (rO 0 0 0 0) s m #[(.ref a1)] below meth c s₁ [] 0 0 := Stand.of_body Bd
  have e0 : s₁.heap = h0 := by rw [← hh, Bd.state]; rfl
  suffices hgo : OD p e s below (Q_rmS12_1 Z a1 h0) (rO 0 0 0 0).cells (rO 0 0 0 0).slots (s₁.setTop (mkF m 0 #[.val (.ref a1)] [])) by
    obtain ⟨s₂, o, hgo1, hgo2⟩ := hgo
    exact ⟨s₂, o, castTop (ef0 m a1) hgo1, hgo2⟩
  refine OD.go (B := (s₁.setTop (mkF m 1 #[.val (.ref a1)] [(.ref a1)]))) (fun t k => XS.aloadN X0.here hx rfl (bd d45_0) rfl rfl k) ?_
  obtain ⟨T1, X1, e1, st1⟩ := getF X0 hx hZ hown (host := "") (Or.inl (Wd287 hw)) Via.refl e0 F1 (g := (mkF m 1 #[.val (.ref a1)] [(.ref a1)])) rfl rfl (bd d45_1)
  refine OD.go (B := (T1.setTop (mkF m 4 #[.val (.ref a1)] [(.ref em)]))) st1 ?_
  have f2 := (Sm.ext X00.2)
  obtain ⟨T3, X3, e3, st3⟩ := getS2 X1 hx hZ hown (Or.inr (Wd286 hw)) Via.refl e1 f2 (g := (mkF m 4 #[.val (.ref a1)] [(.ref em)])) rfl (bd d45_4)
  refine OD.go st3 ?_
  refine OD.go (B := (T3.setTop (mkF m 15 #[.val (.ref a1)] [(.int 1)]))) (fun t k => RoadKit.acmp X3 hx rfl (x := (.ref em)) (y := (.ref em)) rfl rfl (pc0 := 7) (pc' := 14) (same := true) rfl (bd d45_7) rfl (by simp) (by decide) (by decide) (XS.iconst X3.here hx rfl (bd d45_14) k)) ?_
  exact OD.ret X3 hx hlk (t := .int) Bd.returns rfl (Or.inl ⟨rfl, Or.inl rfl, _, rfl⟩) (bd d45_15) (nl rfl) (nl rfl) ⟨rfl, rfl, e3⟩
def Q_rmG12_10 (Z : State) (a1 : Addr) (h0 : Heap) (x0 : Addr) (v : Option Value) (h : Heap) (L : List Loc) : Prop := v = some (.ref x0) ∧ L = [] ∧ h = h0
set_option maxRecDepth 65536 in
set_option maxHeartbeats 40000000 in
theorem rmG12_10 (l : Launch) (Z : State) (a0 : Array Value) (hw : HW a0 Z) (ws : List Jvm.Cond) (a1 : Addr) (h0 : Heap) (n0 : Nat) (X00 : Old Z n0 h0) (em : Addr) (Sm : Sta Z Z.heap cI "EMPTY" oO (.ref em)) (x0 : Addr) (E1 : Exa Z h0 a1 c2) (F0 : Fld Z h0 a1 c2 "e0" oO (.ref x0)) (F1 : Fld Z h0 a1 c2 "e1" oO (.ref em)) :
    MetFree l (⟨c2, "get", "(I)Ljava/lang/Object;"⟩ : MethodName) (head1 (Jvm.Cond.code (⟨c2, "get", "(I)Ljava/lang/Object;"⟩ : MethodName) kQ44 2 (some (.object cO)) :: ws) (rO 0 0 0 0)) (fun a U => a = #[(.ref a1), (.int 0)] ∧ Z.Warmed39 U.vm ∧ U.heap = h0) (fun _ _ _ _ _ => True) (fun _ U o U' => ∃ v L, o = .returned v ∧ Q_rmG12_10 Z a1 h0 x0 v U'.heap L ∧ FrameEnd U o U' L (rO 0 0 0 0).cells (rO 0 0 0 0).slots) := by
  refine MetFree.of_bodySF (plainFor_of_name pn13) hisR ?_
  intro p e s m args below meth c s₁ Bd hml0 hP hK
  obtain ⟨rfl, hZ, hh⟩ := hP
  have hx := Bd.exec
  have hby := Bd.bytes
  have bd : ∀ {pc r}, decode kQ44 pc = r → decode c.code pc = r := fun q => hb hby q
  have hlk : meth.locks = false := Bd.notSynchronized
  have hml : c.maxLocals = 2 := hml0
  have hown : s.vm.findClass c2 = some m.cls := findClass_of_methodNamed Bd.named
  have hnm := (name_of_methodNamed Bd.named Bd.method).1
  have X0 : Stand p l e (rO 0 0 0 0) s m #[(.ref a1), (.int 0)] below meth c s₁ [] 0 0 := Stand.of_body Bd
  have e0 : s₁.heap = h0 := by rw [← hh, Bd.state]; rfl
  suffices hgo : OD p e s below (Q_rmG12_10 Z a1 h0 x0) (rO 0 0 0 0).cells (rO 0 0 0 0).slots (s₁.setTop (mkF m 0 #[.val (.ref a1), .val (.int 0)] [])) by
    obtain ⟨s₂, o, hgo1, hgo2⟩ := hgo
    exact ⟨s₂, o, castTop (ef1 m a1 (0 : Int32)) hgo1, hgo2⟩
  refine OD.go (B := (s₁.setTop (mkF m 5 #[.val (.ref a1), .val (.int 0)] [(.ref a1)]))) (fun t k => XS.iloadN X0.here hx rfl (bd d46_0) rfl (XS.ifNo X0.here hx rfl (bd d46_1) rfl (by rw [if0]; exact (teq (by decide : (0 : Int32) = (0 : Int32))).2) (XS.aloadN X0.here hx rfl (bd d46_4) rfl rfl k))) ?_
  obtain ⟨T1, X1, e1, st1⟩ := getF X0 hx hZ hown (host := "") (Or.inl (Wd284 hw)) Via.refl e0 F0 (g := (mkF m 5 #[.val (.ref a1), .val (.int 0)] [(.ref a1)])) rfl rfl (bd d46_5)
  refine OD.go (B := (T1.setTop (mkF m 8 #[.val (.ref a1), .val (.int 0)] [(.ref x0)]))) st1 ?_
  exact OD.ret X1 hx hlk (t := (.object cO)) Bd.returns rfl (Or.inr (Or.inr (Or.inr (Or.inr ⟨rfl, rfl, rfl⟩)))) (bd d46_8) (nl rfl) (nl rfl) ⟨rfl, rfl, e1⟩
def Q_rmS12_2 (Z : State) (a1 : Addr) (h0 : Heap) (v : Option Value) (h : Heap) (L : List Loc) : Prop := v = some (.int 2) ∧ L = [] ∧ h = h0
set_option maxRecDepth 65536 in
set_option maxHeartbeats 40000000 in
theorem rmS12_2 (l : Launch) (Z : State) (a0 : Array Value) (hw : HW a0 Z) (ws : List Jvm.Cond) (a1 : Addr) (h0 : Heap) (n0 : Nat) (X00 : Old Z n0 h0) (em : Addr) (Sm : Sta Z Z.heap cI "EMPTY" oO (.ref em)) (x0 x1 : Addr) (nem : x1 ≠ em) (E1 : Exa Z h0 a1 c2) (F0 : Fld Z h0 a1 c2 "e0" oO (.ref x0)) (F1 : Fld Z h0 a1 c2 "e1" oO (.ref x1)) :
    MetFree l (⟨c2, "size", "()I"⟩ : MethodName) (head1 (Jvm.Cond.code (⟨c2, "size", "()I"⟩ : MethodName) kQ43 1 (some .int) :: ws) (rO 0 0 0 0)) (fun a U => a = #[(.ref a1)] ∧ Z.Warmed39 U.vm ∧ U.heap = h0) (fun _ _ _ _ _ => True) (fun _ U o U' => ∃ v L, o = .returned v ∧ Q_rmS12_2 Z a1 h0 v U'.heap L ∧ FrameEnd U o U' L (rO 0 0 0 0).cells (rO 0 0 0 0).slots) := by
  refine MetFree.of_bodySF (plainFor_of_name pn13) hisR ?_
  intro p e s m args below meth c s₁ Bd hml0 hP hK
  obtain ⟨rfl, hZ, hh⟩ := hP
  have hx := Bd.exec
  have hby := Bd.bytes
  have bd : ∀ {pc r}, decode kQ43 pc = r → decode c.code pc = r := fun q => hb hby q
  have hlk : meth.locks = false := Bd.notSynchronized
  have hml : c.maxLocals = 1 := hml0
  have hown : s.vm.findClass c2 = some m.cls := findClass_of_methodNamed Bd.named
  have hnm := (name_of_methodNamed Bd.named Bd.method).1
  have X0 : Stand p l e (rO 0 0 0 0) s m #[(.ref a1)] below meth c s₁ [] 0 0 := Stand.of_body Bd
  have e0 : s₁.heap = h0 := by rw [← hh, Bd.state]; rfl
  suffices hgo : OD p e s below (Q_rmS12_2 Z a1 h0) (rO 0 0 0 0).cells (rO 0 0 0 0).slots (s₁.setTop (mkF m 0 #[.val (.ref a1)] [])) by
    obtain ⟨s₂, o, hgo1, hgo2⟩ := hgo
    exact ⟨s₂, o, castTop (ef0 m a1) hgo1, hgo2⟩
  refine OD.go (B := (s₁.setTop (mkF m 1 #[.val (.ref a1)] [(.ref a1)]))) (fun t k => XS.aloadN X0.here hx rfl (bd d45_0) rfl rfl k) ?_
  obtain ⟨T1, X1, e1, st1⟩ := getF X0 hx hZ hown (host := "") (Or.inl (Wd287 hw)) Via.refl e0 F1 (g := (mkF m 1 #[.val (.ref a1)] [(.ref a1)])) rfl rfl (bd d45_1)
  refine OD.go (B := (T1.setTop (mkF m 4 #[.val (.ref a1)] [(.ref x1)]))) st1 ?_
  have f2 := (Sm.ext X00.2)
  obtain ⟨T3, X3, e3, st3⟩ := getS2 X1 hx hZ hown (Or.inr (Wd286 hw)) Via.refl e1 f2 (g := (mkF m 4 #[.val (.ref a1)] [(.ref x1)])) rfl (bd d45_4)
  refine OD.go st3 ?_
  refine OD.go (B := (T3.setTop (mkF m 15 #[.val (.ref a1)] [(.int 2)]))) (fun t k => XS.acmpNo X3.here hx rfl (bd d45_7) rfl (by simp [if_acmp.holds, nem]) (XS.iconst X3.here hx rfl (bd d45_10) (XS.goto X3.here hx rfl (pc0 := 11) (pc' := 15) rfl (bd d45_11) (by decide) (by decide) k))) ?_
  exact OD.ret X3 hx hlk (t := .int) Bd.returns rfl (Or.inl ⟨rfl, Or.inl rfl, _, rfl⟩) (bd d45_15) (nl rfl) (nl rfl) ⟨rfl, rfl, e3⟩
def Q_rmG12_20 (Z : State) (a1 : Addr) (h0 : Heap) (x0 : Addr) (v : Option Value) (h : Heap) (L : List Loc) : Prop := v = some (.ref x0) ∧ L = [] ∧ h = h0
set_option maxRecDepth 65536 in
set_option maxHeartbeats 40000000 in
theorem rmG12_20 (l : Launch) (Z : State) (a0 : Array Value) (hw : HW a0 Z) (ws : List Jvm.Cond) (a1 : Addr) (h0 : Heap) (n0 : Nat) (X00 : Old Z n0 h0) (em : Addr) (Sm : Sta Z Z.heap cI "EMPTY" oO (.ref em)) (x0 x1 : Addr) (nem : x1 ≠ em) (E1 : Exa Z h0 a1 c2) (F0 : Fld Z h0 a1 c2 "e0" oO (.ref x0)) (F1 : Fld Z h0 a1 c2 "e1" oO (.ref x1)) :
    MetFree l (⟨c2, "get", "(I)Ljava/lang/Object;"⟩ : MethodName) (head1 (Jvm.Cond.code (⟨c2, "get", "(I)Ljava/lang/Object;"⟩ : MethodName) kQ44 2 (some (.object cO)) :: ws) (rO 0 0 0 0)) (fun a U => a = #[(.ref a1), (.int 0)] ∧ Z.Warmed39 U.vm ∧ U.heap = h0) (fun _ _ _ _ _ => True) (fun _ U o U' => ∃ v L, o = .returned v ∧ Q_rmG12_20 Z a1 h0 x0 v U'.heap L ∧ FrameEnd U o U' L (rO 0 0 0 0).cells (rO 0 0 0 0).slots) := by
  refine MetFree.of_bodySF (plainFor_of_name pn13) hisR ?_
  intro p e s m args below meth c s₁ Bd hml0 hP hK
  obtain ⟨rfl, hZ, hh⟩ := hP
  have hx := Bd.exec
  have hby := Bd.bytes
  have bd : ∀ {pc r}, decode kQ44 pc = r → decode c.code pc = r := fun q => hb hby q
  have hlk : meth.locks = false := Bd.notSynchronized
  have hml : c.maxLocals = 2 := hml0
  have hown : s.vm.findClass c2 = some m.cls := findClass_of_methodNamed Bd.named
  have hnm := (name_of_methodNamed Bd.named Bd.method).1
  have X0 : Stand p l e (rO 0 0 0 0) s m #[(.ref a1), (.int 0)] below meth c s₁ [] 0 0 := Stand.of_body Bd
  have e0 : s₁.heap = h0 := by rw [← hh, Bd.state]; rfl
  suffices hgo : OD p e s below (Q_rmG12_20 Z a1 h0 x0) (rO 0 0 0 0).cells (rO 0 0 0 0).slots (s₁.setTop (mkF m 0 #[.val (.ref a1), .val (.int 0)] [])) by
    obtain ⟨s₂, o, hgo1, hgo2⟩ := hgo
    exact ⟨s₂, o, castTop (ef1 m a1 (0 : Int32)) hgo1, hgo2⟩
  refine OD.go (B := (s₁.setTop (mkF m 5 #[.val (.ref a1), .val (.int 0)] [(.ref a1)]))) (fun t k => XS.iloadN X0.here hx rfl (bd d46_0) rfl (XS.ifNo X0.here hx rfl (bd d46_1) rfl (by rw [if0]; exact (teq (by decide : (0 : Int32) = (0 : Int32))).2) (XS.aloadN X0.here hx rfl (bd d46_4) rfl rfl k))) ?_
  obtain ⟨T1, X1, e1, st1⟩ := getF X0 hx hZ hown (host := "") (Or.inl (Wd284 hw)) Via.refl e0 F0 (g := (mkF m 5 #[.val (.ref a1), .val (.int 0)] [(.ref a1)])) rfl rfl (bd d46_5)
  refine OD.go (B := (T1.setTop (mkF m 8 #[.val (.ref a1), .val (.int 0)] [(.ref x0)]))) st1 ?_
  exact OD.ret X1 hx hlk (t := (.object cO)) Bd.returns rfl (Or.inr (Or.inr (Or.inr (Or.inr ⟨rfl, rfl, rfl⟩)))) (bd d46_8) (nl rfl) (nl rfl) ⟨rfl, rfl, e1⟩
def Q_rmG12_21 (Z : State) (a1 : Addr) (h0 : Heap) (x1 : Addr) (v : Option Value) (h : Heap) (L : List Loc) : Prop := v = some (.ref x1) ∧ L = [] ∧ h = h0
set_option maxRecDepth 65536 in
set_option maxHeartbeats 40000000 in
theorem rmG12_21 (l : Launch) (Z : State) (a0 : Array Value) (hw : HW a0 Z) (ws : List Jvm.Cond) (a1 : Addr) (h0 : Heap) (n0 : Nat) (X00 : Old Z n0 h0) (em : Addr) (Sm : Sta Z Z.heap cI "EMPTY" oO (.ref em)) (x0 x1 : Addr) (nem : x1 ≠ em) (E1 : Exa Z h0 a1 c2) (F0 : Fld Z h0 a1 c2 "e0" oO (.ref x0)) (F1 : Fld Z h0 a1 c2 "e1" oO (.ref x1)) :
    MetFree l (⟨c2, "get", "(I)Ljava/lang/Object;"⟩ : MethodName) (head1 (Jvm.Cond.code (⟨c2, "get", "(I)Ljava/lang/Object;"⟩ : MethodName) kQ44 2 (some (.object cO)) :: ws) (rO 0 0 0 0)) (fun a U => a = #[(.ref a1), (.int 1)] ∧ Z.Warmed39 U.vm ∧ U.heap = h0) (fun _ _ _ _ _ => True) (fun _ U o U' => ∃ v L, o = .returned v ∧ Q_rmG12_21 Z a1 h0 x1 v U'.heap L ∧ FrameEnd U o U' L (rO 0 0 0 0).cells (rO 0 0 0 0).slots) := by
  refine MetFree.of_bodySF (plainFor_of_name pn13) hisR ?_
  intro p e s m args below meth c s₁ Bd hml0 hP hK
  obtain ⟨rfl, hZ, hh⟩ := hP
  have hx := Bd.exec
  have hby := Bd.bytes
  have bd : ∀ {pc r}, decode kQ44 pc = r → decode c.code pc = r := fun q => hb hby q
  have hlk : meth.locks = false := Bd.notSynchronized
  have hml : c.maxLocals = 2 := hml0
  have hown : s.vm.findClass c2 = some m.cls := findClass_of_methodNamed Bd.named
  have hnm := (name_of_methodNamed Bd.named Bd.method).1
  have X0 : Stand p l e (rO 0 0 0 0) s m #[(.ref a1), (.int 1)] below meth c s₁ [] 0 0 := Stand.of_body Bd
  have e0 : s₁.heap = h0 := by rw [← hh, Bd.state]; rfl
  suffices hgo : OD p e s below (Q_rmG12_21 Z a1 h0 x1) (rO 0 0 0 0).cells (rO 0 0 0 0).slots (s₁.setTop (mkF m 0 #[.val (.ref a1), .val (.int 1)] [])) by
    obtain ⟨s₂, o, hgo1, hgo2⟩ := hgo
    exact ⟨s₂, o, castTop (ef1 m a1 (1 : Int32)) hgo1, hgo2⟩
  refine OD.go (B := (s₁.setTop (mkF m 15 #[.val (.ref a1), .val (.int 1)] [(.ref a1)]))) (fun t k => XS.iloadN X0.here hx rfl (bd d46_0) rfl (XS.ifYes X0.here hx rfl (pc0 := 1) (pc' := 9) rfl (bd d46_1) rfl (by rw [if0]; exact (feq (by decide : ¬ (1 : Int32) = (0 : Int32))).2) (by decide) (by decide) (XS.iloadN X0.here hx rfl (bd d46_9) rfl (XS.iconst X0.here hx rfl (bd d46_10) (XS.icmpNo X0.here hx rfl (bd d46_11) rfl (teq (by decide : (1 : Int32) = (1 : Int32))).2 (XS.aloadN X0.here hx rfl (bd d46_14) rfl rfl k)))))) ?_
  obtain ⟨T1, X1, e1, st1⟩ := getF X0 hx hZ hown (host := "") (Or.inl (Wd287 hw)) Via.refl e0 F1 (g := (mkF m 15 #[.val (.ref a1), .val (.int 1)] [(.ref a1)])) rfl rfl (bd d46_15)
  refine OD.go (B := (T1.setTop (mkF m 18 #[.val (.ref a1), .val (.int 1)] [(.ref x1)]))) st1 ?_
  have f2 := (Sm.ext X00.2)
  obtain ⟨T3, X3, e3, st3⟩ := getS2 X1 hx hZ hown (Or.inr (Wd286 hw)) Via.refl e1 f2 (g := (mkF m 18 #[.val (.ref a1), .val (.int 1)] [(.ref x1)])) rfl (bd d46_18)
  refine OD.go st3 ?_
  refine OD.go (B := (T3.setTop (mkF m 25 #[.val (.ref a1), .val (.int 1)] [(.ref a1)]))) (fun t k => XS.acmpNo X3.here hx rfl (bd d46_21) rfl (by simp [if_acmp.holds, nem]) (XS.aloadN X3.here hx rfl (bd d46_24) rfl rfl k)) ?_
  obtain ⟨T4, X4, e4, st4⟩ := getF X3 hx hZ hown (host := "") (Or.inl (Wd287 hw)) Via.refl e3 F1 (g := (mkF m 25 #[.val (.ref a1), .val (.int 1)] [(.ref a1)])) rfl rfl (bd d46_25)
  refine OD.go (B := (T4.setTop (mkF m 28 #[.val (.ref a1), .val (.int 1)] [(.ref x1)]))) st4 ?_
  exact OD.ret X4 hx hlk (t := (.object cO)) Bd.returns rfl (Or.inr (Or.inr (Or.inr (Or.inr ⟨rfl, rfl, rfl⟩)))) (bd d46_28) (nl rfl) (nl rfl) ⟨rfl, rfl, e4⟩
def Q_rmEq (Z : State) (a1 : Addr) (h0 : Heap) (v : Option Value) (h : Heap) (L : List Loc) : Prop := v = some (.int 1) ∧ L = [] ∧ h = h0
set_option maxRecDepth 65536 in
set_option maxHeartbeats 40000000 in
theorem rmEq (l : Launch) (Z : State) (a0 : Array Value) (hw : HW a0 Z) (ws : List Jvm.Cond) (a1 : Addr) (h0 : Heap)  :
    MetFree l (⟨"java/lang/String", "equals", "(Ljava/lang/Object;)Z"⟩ : MethodName) (head1 (Jvm.Cond.code (⟨"java/lang/String", "equals", "(Ljava/lang/Object;)Z"⟩ : MethodName) kQ45 3 (some .boolean) :: ws) (rO 0 0 0 0)) (fun a U => a = #[(.ref a1), (.ref a1)] ∧ Z.Warmed39 U.vm ∧ U.heap = h0) (fun _ _ _ _ _ => True) (fun _ U o U' => ∃ v L, o = .returned v ∧ Q_rmEq Z a1 h0 v U'.heap L ∧ FrameEnd U o U' L (rO 0 0 0 0).cells (rO 0 0 0 0).slots) := by
  refine MetFree.of_bodySF (plainFor_of_name pn7) hisR ?_
  intro p e s m args below meth c s₁ Bd hml0 hP hK
  obtain ⟨rfl, hZ, hh⟩ := hP
  have hx := Bd.exec
  have hby := Bd.bytes
  have bd : ∀ {pc r}, decode kQ45 pc = r → decode c.code pc = r := fun q => hb hby q
  have hlk : meth.locks = false := Bd.notSynchronized
  have hml : c.maxLocals = 3 := hml0
  have hown : s.vm.findClass "java/lang/String" = some m.cls := findClass_of_methodNamed Bd.named
  have hnm := (name_of_methodNamed Bd.named Bd.method).1
  have X0 : Stand p l e (rO 0 0 0 0) s m #[(.ref a1), (.ref a1)] below meth c s₁ [] 0 0 := Stand.of_body Bd
  have e0 : s₁.heap = h0 := by rw [← hh, Bd.state]; rfl
  suffices hgo : OD p e s below (Q_rmEq Z a1 h0) (rO 0 0 0 0).cells (rO 0 0 0 0).slots (s₁.setTop (mkF m 0 #[.val (.ref a1), .val (.ref a1), .unset] [])) by
    obtain ⟨s₂, o, hgo1, hgo2⟩ := hgo
    exact ⟨s₂, o, castTop (ef15 m a1 a1) hgo1, hgo2⟩
  refine OD.go (B := (s₁.setTop (mkF m 6 #[.val (.ref a1), .val (.ref a1), .unset] [(.int 1)]))) (fun t k => XS.aloadN X0.here hx rfl (bd d47_0) rfl rfl (XS.aloadN X0.here hx rfl (bd d47_1) rfl rfl (RoadKit.acmp X0 hx rfl (x := (.ref a1)) (y := (.ref a1)) rfl rfl (pc0 := 2) (pc' := 5) (same := true) rfl (bd d47_2) rfl (by simp) (by decide) (by decide) (XS.iconst X0.here hx rfl (bd d47_5) k)))) ?_
  exact OD.ret X0 hx hlk (t := .boolean) Bd.returns rfl (Or.inl ⟨rfl, Or.inr (Or.inl rfl), _, rfl⟩) (bd d47_6) (nl rfl) (nl rfl) ⟨rfl, rfl, e0⟩
def Q_rm0 (Z : State) (p0 : Int32) (p1 : Int32) (p2 : Int32) (p3 : Int32) (p4 : Int32) (p5 : Int32) (h0 : Heap) (v : Option Value) (h : Heap) (L : List Loc) : Prop := v = some (.int 1) ∧ Fr h0.size L
set_option maxRecDepth 65536 in
set_option maxHeartbeats 40000000 in
theorem rm0 (l : Launch) (Z : State) (a0 : Array Value) (hw : HW a0 Z) (ws : List Jvm.Cond) (p0 : Int32) (p1 : Int32) (p2 : Int32) (p3 : Int32) (p4 : Int32) (p5 : Int32) (h0 : Heap) (X00 : Old Z h0.size h0) (zc : Int32) (O2 : Sta Z Z.heap "java/lang/String" "COMPACT_STRINGS" "Z" (.int zc)) (P5 : ¬ zc = 0) (el ea : Addr) (kE : ClassId) (Se : Sta Z Z.heap cI "EMPTY_LIST" zZ12 (.ref el)) (Ee : Exa Z Z.heap el cN) (Fa : Fld Z Z.heap el cN "allowNulls" "Z" (.int 0)) (Fel : Fld Z Z.heap el cN "elements" "[Ljava/lang/Object;" (.ref ea)) (Ae : Arv Z Z.heap ea kE (.object cO) (0 : Int32) [] .null) (em : Addr) (Sm : Sta Z Z.heap cI "EMPTY" oO (.ref em)) (Emm : Exa Z Z.heap em cO) (ca : Addr) (Sh : Sta Z Z.heap zZ20 "high" "I" (.int 127)) (Sc : Sta Z Z.heap zZ20 "cache" "[Ljava/lang/Integer;" (.ref ca)) (Cc : OCach Z ca "java/lang/Integer") (s0 : Addr) (Ss0 : Sta Z Z.heap cV "NO_ALARM" dV (.ref s0)) (s1 : Addr) (Ss1 : Sta Z Z.heap cV "MINOR" dV (.ref s1)) (s2 : Addr) (Ss2 : Sta Z Z.heap cV "MAJOR" dV (.ref s2)) (s3 : Addr) (Ss3 : Sta Z Z.heap cV "INVALID" dV (.ref s3)) (dc : Addr) (kd : ClassId) (Odc : Sta Z Z.heap cA zZ21 "[Ljava/lang/Object;" (.ref dc)) (Adc : Arv Z Z.heap dc kd (.object cO) (0 : Int32) [] .null) (mr : Addr) (Mr : MirM Z mr) :
    MetFree l x (head1 (Jvm.Cond.code x code maxLocals ret :: ws) room_1) (fun a U => a = #[(.int p0), (.int p1), (.int p2), (.int p3), (.int p4), (.int p5)] ∧ Z.Warmed39 U.vm ∧ U.heap = h0) (fun _ _ _ _ _ => True) (fun _ U o U' => ∃ v L, o = .returned v ∧ Q_rm0 Z p0 p1 p2 p3 p4 p5 h0 v U'.heap L ∧ FrameEnd U o U' L 40 192) := by
  refine MetFree.of_bodySF (plainFor_of_name pn8) hisR ?_
  intro p e s m args below meth c s₁ Bd hml0 hP hK
  obtain ⟨rfl, hZ, hh⟩ := hP
  have hx := Bd.exec
  have hby := Bd.bytes
  have bd : ∀ {pc r}, decode code pc = r → decode c.code pc = r := fun q => hb hby q
  have hlk : meth.locks = false := Bd.notSynchronized
  have hml : c.maxLocals = 20 := hml0
  have hown : s.vm.findClass zZ1 = some m.cls := findClass_of_methodNamed Bd.named
  have hnm := (name_of_methodNamed Bd.named Bd.method).1
  have X0 : Stand p l e room_1 s m #[(.int p0), (.int p1), (.int p2), (.int p3), (.int p4), (.int p5)] below meth c s₁ [] 0 0 := Stand.of_body Bd
  have e0 : s₁.heap = h0 := by rw [← hh, Bd.state]; rfl
  have N0 := Fr.nil h0.size
  have hws : ∀ d ∈ StrChars.Road.words, d.before a0 Z = true := fun d hd => hw d ((by decide +kernel : ∀ d ∈ StrChars.Road.words, d ∈ tables_1) d hd)
  suffices hgo : OD p e s below (Q_rm0 Z p0 p1 p2 p3 p4 p5 h0) 40 192 (s₁.setTop (mkF m 0 #[.val (.int p0), .val (.int p1), .val (.int p2), .val (.int p3), .val (.int p4), .val (.int p5), .unset, .unset, .unset, .unset, .unset, .unset, .unset, .unset, .unset, .unset, .unset, .unset, .unset, .unset] [])) by
    obtain ⟨s₂, o, hgo1, hgo2⟩ := hgo
    exact ⟨s₂, o, castTop (ef16 m p0 p1 p2 p3 p4 p5) hgo1, hgo2⟩
  refine OD.go (B := (s₁.setTop (mkF m 3 #[.val (.int p0), .val (.int p1), .val (.int p2), .val (.int p3), .val (.int p4), .val (.int p5), .unset, .unset, .unset, .unset, .unset, .unset, .unset, .unset, .unset, .unset, .unset, .unset, .unset, .unset] [(.int (p0 &&& (1 : Int32)))]))) (fun t k => XS.iloadN X0.here hx rfl (bd at_0) rfl (XS.iconst X0.here hx rfl (bd at_1) (XS.iand X0.here hx rfl (bd at_2) rfl k))) ?_
  obtain ⟨v11_1, hv11_1⟩ : ∃ z : Int32, z = (if (p0 &&& (1 : Int32)) = (0 : Int32) then (0 : Int32) else (1 : Int32)) := ⟨_, rfl⟩
  refine OD.cut (B := (s₁.setTop (mkF m 11 #[.val (.int p0), .val (.int p1), .val (.int p2), .val (.int p3), .val (.int p4), .val (.int p5), .unset, .unset, .unset, .unset, .unset, .unset, .unset, .unset, .unset, .unset, .unset, .unset, .unset, .unset] [(.int v11_1)]))) (fun J11_2 => ?_) ?_
  · skip
    by_cases c3_3 : (p0 &&& (1 : Int32)) = (0 : Int32)
    · refine OD.go (B := (s₁.setTop (mkF m 11 #[.val (.int p0), .val (.int p1), .val (.int p2), .val (.int p3), .val (.int p4), .val (.int p5), .unset, .unset, .unset, .unset, .unset, .unset, .unset, .unset, .unset, .unset, .unset, .unset, .unset, .unset] [(.int 0)]))) (fun t k => XS.ifYes X0.here hx rfl (pc0 := 3) (pc' := 10) rfl (bd at_3) rfl (by rw [if0]; exact (teq c3_3).1) (by decide) (by decide) (XS.iconst X0.here hx rfl (bd at_10) k)) ?_
      rw [if_pos c3_3] at hv11_1
      rw [hv11_1] at J11_2
      exact J11_2
    · refine OD.go (B := (s₁.setTop (mkF m 11 #[.val (.int p0), .val (.int p1), .val (.int p2), .val (.int p3), .val (.int p4), .val (.int p5), .unset, .unset, .unset, .unset, .unset, .unset, .unset, .unset, .unset, .unset, .unset, .unset, .unset, .unset] [(.int 1)]))) (fun t k => XS.ifNo X0.here hx rfl (bd at_3) rfl (by rw [if0]; exact (feq c3_3).1) (XS.iconst X0.here hx rfl (bd at_6) (XS.goto X0.here hx rfl (pc0 := 7) (pc' := 11) rfl (bd at_7) (by decide) (by decide) k))) ?_
      rw [if_neg c3_3] at hv11_1
      rw [hv11_1] at J11_2
      exact J11_2
  refine OD.go (B := (s₁.setTop (mkF m 21 #[.val (.int p0), .val (.int p1), .val (.int p2), .val (.int p3), .val (.int p4), .val (.int p5), .val (.int v11_1), .unset, .unset, .unset, .unset, .unset, .unset, .unset, .unset, .unset, .unset, .unset, .unset, .unset] [(.int ((((p0.toUInt32 >>> ((1 : Int32) &&& 31).toUInt32).toInt32) &&& (7 : Int32)) % (5 : Int32)))]))) (fun t k => XS.istore X0.here hx rfl (bd at_11) rfl (l' := #[.val (.int p0), .val (.int p1), .val (.int p2), .val (.int p3), .val (.int p4), .val (.int p5), .val (.int v11_1), .unset, .unset, .unset, .unset, .unset, .unset, .unset, .unset, .unset, .unset, .unset, .unset, .unset]) rfl (XS.iloadN X0.here hx rfl (bd at_13) rfl (XS.iconst X0.here hx rfl (bd at_14) (XS.iushr X0.here hx rfl (bd at_15) rfl (XS.bipush X0.here hx rfl (bd at_16) (XS.iand X0.here hx rfl (bd at_18) rfl (XS.iconst X0.here hx rfl (bd at_19) (iremM X0 hx rfl (bd at_20) rfl (by decide) k)))))))) ?_
  obtain ⟨_, _, ⟨T4, L4, k4, n4⟩, -, X4, ⟨Lc4, hQ4, l4, y4, z4⟩, st4⟩ := Jvm.LawKit.callS X0 hx (y := (⟨zZ1, "severityOf", zZ26⟩ : MethodName)) hown (mvT hZ (Wd0 hw)) (mvT hZ (Wd1 hw)) (mvT hZ (Wd2 hw)) (mvT hZ (Wd3 hw)) (by decide) (backOf (W := 0) (rmSv l Z a0 hw [] ((((p0.toUInt32 >>> ((1 : Int32) &&& 31).toUInt32).toInt32) &&& (7 : Int32)) % (5 : Int32)) h0 h0.size X00 s0 Ss0 s1 Ss1 s2 Ss2 s3 Ss3) hZ (Wd3 hw) (Wd2 hw) (by decide) (by decide)) (g := (mkF m 21 #[.val (.int p0), .val (.int p1), .val (.int p2), .val (.int p3), .val (.int p4), .val (.int p5), .val (.int v11_1), .unset, .unset, .unset, .unset, .unset, .unset, .unset, .unset, .unset, .unset, .unset, .unset, .unset] [(.int ((((p0.toUInt32 >>> ((1 : Int32) &&& 31).toUInt32).toInt32) &&& (7 : Int32)) % (5 : Int32)))])) rfl (by rw [hml]; rfl) (argsL := [(.int ((((p0.toUInt32 >>> ((1 : Int32) &&& 31).toUInt32).toInt32) &&& (7 : Int32)) % (5 : Int32)))]) (rest := []) (lenOf pd19 rfl) rfl (by show 2 * 0 + _ ≤ _; exact Nat.le_of_eq rfl) (bd at_21) (fun _ _ => ⟨rfl, e0, (nl rfl), (nl rfl)⟩)
  dsimp only [Pt.U, Pt.locs, Pt.cells, Pt.slots] at X4 l4 y4 z4 st4 hQ4
  subst l4 y4 z4
  obtain ⟨w4, rfl, r4, rfl, e4⟩ := hQ4
  have N4 := Fr.app N0 (Fr.nil _)
  refine OD.go st4 ?_
  refine OD.go (B := (T4.setTop (mkF m 35 #[.val (.int p0), .val (.int p1), .val (.int p2), .val (.int p3), .val (.int p4), .val (.int p5), .val (.int v11_1), .val w4, .val (.int ((((p0.toUInt32 >>> ((4 : Int32) &&& 31).toUInt32).toInt32) &&& (3 : Int32)) % (3 : Int32))), .unset, .unset, .unset, .unset, .unset, .unset, .unset, .unset, .unset, .unset, .unset] []))) (fun t k => XS.astore X4.here hx rfl (bd at_24) rfl (r4) (l' := #[.val (.int p0), .val (.int p1), .val (.int p2), .val (.int p3), .val (.int p4), .val (.int p5), .val (.int v11_1), .val w4, .unset, .unset, .unset, .unset, .unset, .unset, .unset, .unset, .unset, .unset, .unset, .unset]) (by rcases ref_cases r4 with rfl | ⟨_, rfl⟩ <;> rfl) (XS.iloadN X4.here hx rfl (bd at_26) rfl (XS.iconst X4.here hx rfl (bd at_27) (XS.iushr X4.here hx rfl (bd at_28) rfl (XS.iconst X4.here hx rfl (bd at_29) (XS.iand X4.here hx rfl (bd at_30) rfl (XS.iconst X4.here hx rfl (bd at_31) (iremM X4 hx rfl (bd at_32) rfl (by decide) (XS.istore X4.here hx rfl (bd at_33) rfl (l' := #[.val (.int p0), .val (.int p1), .val (.int p2), .val (.int p3), .val (.int p4), .val (.int p5), .val (.int v11_1), .val w4, .val (.int ((((p0.toUInt32 >>> ((4 : Int32) &&& 31).toUInt32).toInt32) &&& (3 : Int32)) % (3 : Int32))), .unset, .unset, .unset, .unset, .unset, .unset, .unset, .unset, .unset, .unset, .unset]) rfl k))))))))) ?_
  generalize hu33_5 : ((((p0.toUInt32 >>> ((4 : Int32) &&& 31).toUInt32).toInt32) &&& (3 : Int32)) % (3 : Int32)) = u33_5
  refine OD.go (B := (T4.setTop (mkF m 45 #[.val (.int p0), .val (.int p1), .val (.int p2), .val (.int p3), .val (.int p4), .val (.int p5), .val (.int v11_1), .val w4, .val (.int u33_5), .val (.int ((((p0.toUInt32 >>> ((6 : Int32) &&& 31).toUInt32).toInt32) &&& (3 : Int32)) % (3 : Int32))), .unset, .unset, .unset, .unset, .unset, .unset, .unset, .unset, .unset, .unset] []))) (fun t k => XS.iloadN X4.here hx rfl (bd at_35) rfl (XS.bipush X4.here hx rfl (bd at_36) (XS.iushr X4.here hx rfl (bd at_38) rfl (XS.iconst X4.here hx rfl (bd at_39) (XS.iand X4.here hx rfl (bd at_40) rfl (XS.iconst X4.here hx rfl (bd at_41) (iremM X4 hx rfl (bd at_42) rfl (by decide) (XS.istore X4.here hx rfl (bd at_43) rfl (l' := #[.val (.int p0), .val (.int p1), .val (.int p2), .val (.int p3), .val (.int p4), .val (.int p5), .val (.int v11_1), .val w4, .val (.int u33_5), .val (.int ((((p0.toUInt32 >>> ((6 : Int32) &&& 31).toUInt32).toInt32) &&& (3 : Int32)) % (3 : Int32))), .unset, .unset, .unset, .unset, .unset, .unset, .unset, .unset, .unset, .unset]) rfl k)))))))) ?_
  generalize hu43_6 : ((((p0.toUInt32 >>> ((6 : Int32) &&& 31).toUInt32).toInt32) &&& (3 : Int32)) % (3 : Int32)) = u43_6
  refine OD.go (B := (T4.setTop (mkF m 51 #[.val (.int p0), .val (.int p1), .val (.int p2), .val (.int p3), .val (.int p4), .val (.int p5), .val (.int v11_1), .val w4, .val (.int u33_5), .val (.int u43_6), .unset, .unset, .unset, .unset, .unset, .unset, .unset, .unset, .unset, .unset] [(.int (((p0.toUInt32 >>> ((8 : Int32) &&& 31).toUInt32).toInt32) &&& (1 : Int32)))]))) (fun t k => XS.iloadN X4.here hx rfl (bd at_45) rfl (XS.bipush X4.here hx rfl (bd at_46) (XS.iushr X4.here hx rfl (bd at_48) rfl (XS.iconst X4.here hx rfl (bd at_49) (XS.iand X4.here hx rfl (bd at_50) rfl k))))) ?_
  obtain ⟨v59_7, hv59_7⟩ : ∃ z : Int32, z = (if (((p0.toUInt32 >>> ((8 : Int32) &&& 31).toUInt32).toInt32) &&& (1 : Int32)) = (0 : Int32) then (0 : Int32) else (1 : Int32)) := ⟨_, rfl⟩
  refine OD.cut (B := (T4.setTop (mkF m 59 #[.val (.int p0), .val (.int p1), .val (.int p2), .val (.int p3), .val (.int p4), .val (.int p5), .val (.int v11_1), .val w4, .val (.int u33_5), .val (.int u43_6), .unset, .unset, .unset, .unset, .unset, .unset, .unset, .unset, .unset, .unset] [(.int v59_7)]))) (fun J59_8 => ?_) ?_
  · skip
    by_cases c51_9 : (((p0.toUInt32 >>> ((8 : Int32) &&& 31).toUInt32).toInt32) &&& (1 : Int32)) = (0 : Int32)
    · refine OD.go (B := (T4.setTop (mkF m 59 #[.val (.int p0), .val (.int p1), .val (.int p2), .val (.int p3), .val (.int p4), .val (.int p5), .val (.int v11_1), .val w4, .val (.int u33_5), .val (.int u43_6), .unset, .unset, .unset, .unset, .unset, .unset, .unset, .unset, .unset, .unset] [(.int 0)]))) (fun t k => XS.ifYes X4.here hx rfl (pc0 := 51) (pc' := 58) rfl (bd at_51) rfl (by rw [if0]; exact (teq c51_9).1) (by decide) (by decide) (XS.iconst X4.here hx rfl (bd at_58) k)) ?_
      rw [if_pos c51_9] at hv59_7
      rw [hv59_7] at J59_8
      exact J59_8
    · refine OD.go (B := (T4.setTop (mkF m 59 #[.val (.int p0), .val (.int p1), .val (.int p2), .val (.int p3), .val (.int p4), .val (.int p5), .val (.int v11_1), .val w4, .val (.int u33_5), .val (.int u43_6), .unset, .unset, .unset, .unset, .unset, .unset, .unset, .unset, .unset, .unset] [(.int 1)]))) (fun t k => XS.ifNo X4.here hx rfl (bd at_51) rfl (by rw [if0]; exact (feq c51_9).1) (XS.iconst X4.here hx rfl (bd at_54) (XS.goto X4.here hx rfl (pc0 := 55) (pc' := 59) rfl (bd at_55) (by decide) (by decide) k))) ?_
      rw [if_neg c51_9] at hv59_7
      rw [hv59_7] at J59_8
      exact J59_8
  refine OD.go (B := (T4.setTop (mkF m 61 #[.val (.int p0), .val (.int p1), .val (.int p2), .val (.int p3), .val (.int p4), .val (.int p5), .val (.int v11_1), .val w4, .val (.int u33_5), .val (.int u43_6), .val (.int v59_7), .unset, .unset, .unset, .unset, .unset, .unset, .unset, .unset, .unset] []))) (fun t k => XS.istore X4.here hx rfl (bd at_59) rfl (l' := #[.val (.int p0), .val (.int p1), .val (.int p2), .val (.int p3), .val (.int p4), .val (.int p5), .val (.int v11_1), .val w4, .val (.int u33_5), .val (.int u43_6), .val (.int v59_7), .unset, .unset, .unset, .unset, .unset, .unset, .unset, .unset, .unset]) rfl k) ?_
  obtain ⟨T10, h10, X10, e10, E10, A10, D10, -, st10⟩ := newO X4 hx hZ hown (Wd7 hw) (Wd8 hw) (Wd9 hw) e4 (g := (mkF m 61 #[.val (.int p0), .val (.int p1), .val (.int p2), .val (.int p3), .val (.int p4), .val (.int p5), .val (.int v11_1), .val w4, .val (.int u33_5), .val (.int u43_6), .val (.int v59_7), .unset, .unset, .unset, .unset, .unset, .unset, .unset, .unset, .unset] [])) rfl (bd at_61) (nl rfl) (nl rfl)
  obtain ⟨b10, g10⟩ : ∃ z, z = h0.size := ⟨_, rfl⟩
  rw [← g10] at A10 D10 st10
  have Fn11 : Fld Z h10 b10 "java/lang/String" "coder" "B" (.int 0) := D10 (Or.inr (Wd34 hw)) (ty := .byte) (by decide)
  have Fn12 : Fld Z h10 b10 "java/lang/String" "value" "[B" .null := D10 (Or.inr (Wd36 hw)) (ty := (.array .byte)) (by decide)
  refine OD.go st10 ?_
  refine OD.go (B := (T10.setTop (mkF m 66 #[.val (.int p0), .val (.int p1), .val (.int p2), .val (.int p3), .val (.int p4), .val (.int p5), .val (.int v11_1), .val w4, .val (.int u33_5), .val (.int u43_6), .val (.int v59_7), .unset, .unset, .unset, .unset, .unset, .unset, .unset, .unset, .unset] [(.int 2), (.ref b10), (.ref b10)]))) (fun t k => XS.dup X10.here hx rfl (bd at_64) rfl rfl (XS.iconst X10.here hx rfl (bd at_65) k)) ?_
  obtain ⟨T13, h13, k13, X13, e13, E13, A13, st13⟩ := newP X10 hx hZ (aty := .char) (Wd10 hw) e10 (g := (mkF m 66 #[.val (.int p0), .val (.int p1), .val (.int p2), .val (.int p3), .val (.int p4), .val (.int p5), .val (.int v11_1), .val w4, .val (.int u33_5), .val (.int u43_6), .val (.int v59_7), .unset, .unset, .unset, .unset, .unset, .unset, .unset, .unset, .unset] [(.int 2), (.ref b10), (.ref b10)])) rfl (bd at_66) rfl (by decide) (cap := 2) (by decide) (by decide) (nl rfl) (nl rfl)
  obtain ⟨b13, g13⟩ : ∃ z, z = h10.size := ⟨_, rfl⟩
  rw [← g13] at A13 st13
  have V13 : Arv Z h13 b13 k13 .char (2 : Int32) [(.int 0), (.int 0)] (.int 0) := (Arv.new A13 (by decide)).pad (pad_rep [] (.int 0) 2)
  refine OD.go st13 ?_
  refine OD.go (B := (T13.setTop (mkF m 76 #[.val (.int p0), .val (.int p1), .val (.int p2), .val (.int p3), .val (.int p4), .val (.int p5), .val (.int v11_1), .val w4, .val (.int u33_5), .val (.int u43_6), .val (.int v59_7), .unset, .unset, .unset, .unset, .unset, .unset, .unset, .unset, .unset] [(.int (p3 &&& (255 : Int32)).toUInt32.toUInt16.toUInt32.toInt32), (.int 0), (.ref b13), (.ref b13), (.ref b10), (.ref b10)]))) (fun t k => XS.dup X13.here hx rfl (bd at_68) rfl rfl (XS.iconst X13.here hx rfl (bd at_69) (XS.iloadN X13.here hx rfl (bd at_70) rfl (XS.sipush X13.here hx rfl (bd at_71) (XS.iand X13.here hx rfl (bd at_74) rfl (XS.i2c X13.here hx rfl (bd at_75) rfl k)))))) ?_
  obtain ⟨cl14, Ar14, q14, S14, M14, H14, G14⟩ := id V13
  obtain ⟨T14, h14, X14, e14, W14, st14⟩ := stC X13 hx hZ e13 Ar14 (j := (0 : Int32)) (inb_of S14 ⟨by decide, by decide⟩) (g := (mkF m 76 #[.val (.int p0), .val (.int p1), .val (.int p2), .val (.int p3), .val (.int p4), .val (.int p5), .val (.int v11_1), .val w4, .val (.int u33_5), .val (.int u43_6), .val (.int v59_7), .unset, .unset, .unset, .unset, .unset, .unset, .unset, .unset, .unset] [(.int (p3 &&& (255 : Int32)).toUInt32.toUInt16.toUInt32.toInt32), (.int 0), (.ref b13), (.ref b13), (.ref b10), (.ref b10)])) rfl rfl (bd at_76)
  rw [(own_nar (own_c255 _))] at W14
  have V14 : Arv Z h14 b13 k13 .char (2 : Int32) [(.int (p3 &&& (255 : Int32)).toUInt32.toUInt16.toUInt32.toInt32), (.int 0)] (.int 0) := Arv.set Ar14 q14 S14 M14 H14 G14 ((own_nar (own_c255 _)) ▸ fits_nar_char _) W14 0 rfl (nl rfl)
  have N14 := Fr.snoc X14 N4 (Nat.le_trans (Nat.le_trans (Nat.le_refl _) E10.1) (Nat.le_of_eq g13.symm))
  refine OD.go st14 ?_
  refine OD.go (B := (T14.setTop (mkF m 88 #[.val (.int p0), .val (.int p1), .val (.int p2), .val (.int p3), .val (.int p4), .val (.int p5), .val (.int v11_1), .val w4, .val (.int u33_5), .val (.int u43_6), .val (.int v59_7), .unset, .unset, .unset, .unset, .unset, .unset, .unset, .unset, .unset] [(.int (((p3.toUInt32 >>> ((8 : Int32) &&& 31).toUInt32).toInt32) &&& (255 : Int32)).toUInt32.toUInt16.toUInt32.toInt32), (.int 1), (.ref b13), (.ref b13), (.ref b10), (.ref b10)]))) (fun t k => XS.dup X14.here hx rfl (bd at_77) rfl rfl (XS.iconst X14.here hx rfl (bd at_78) (XS.iloadN X14.here hx rfl (bd at_79) rfl (XS.bipush X14.here hx rfl (bd at_80) (XS.iushr X14.here hx rfl (bd at_82) rfl (XS.sipush X14.here hx rfl (bd at_83) (XS.iand X14.here hx rfl (bd at_86) rfl (XS.i2c X14.here hx rfl (bd at_87) rfl k)))))))) ?_
  obtain ⟨cl15, Ar15, q15, S15, M15, H15, G15⟩ := id V14
  obtain ⟨T15, h15, X15, e15, W15, st15⟩ := stC X14 hx hZ e14 Ar15 (j := (1 : Int32)) (inb_of S15 ⟨by decide, by decide⟩) (g := (mkF m 88 #[.val (.int p0), .val (.int p1), .val (.int p2), .val (.int p3), .val (.int p4), .val (.int p5), .val (.int v11_1), .val w4, .val (.int u33_5), .val (.int u43_6), .val (.int v59_7), .unset, .unset, .unset, .unset, .unset, .unset, .unset, .unset, .unset] [(.int (((p3.toUInt32 >>> ((8 : Int32) &&& 31).toUInt32).toInt32) &&& (255 : Int32)).toUInt32.toUInt16.toUInt32.toInt32), (.int 1), (.ref b13), (.ref b13), (.ref b10), (.ref b10)])) rfl rfl (bd at_88)
  rw [(own_nar (own_c255 _))] at W15
  have V15 : Arv Z h15 b13 k13 .char (2 : Int32) [(.int (p3 &&& (255 : Int32)).toUInt32.toUInt16.toUInt32.toInt32), (.int (((p3.toUInt32 >>> ((8 : Int32) &&& 31).toUInt32).toInt32) &&& (255 : Int32)).toUInt32.toUInt16.toUInt32.toInt32)] (.int 0) := Arv.set Ar15 q15 S15 M15 H15 G15 ((own_nar (own_c255 _)) ▸ fits_nar_char _) W15 1 rfl (nl rfl)
  have N15 := Fr.snoc X15 N14 (Nat.le_trans (Nat.le_trans (Nat.le_refl _) E10.1) (Nat.le_of_eq g13.symm))
  refine OD.go (B := (T15.setTop (mkF m 89 #[.val (.int p0), .val (.int p1), .val (.int p2), .val (.int p3), .val (.int p4), .val (.int p5), .val (.int v11_1), .val w4, .val (.int u33_5), .val (.int u43_6), .val (.int v59_7), .unset, .unset, .unset, .unset, .unset, .unset, .unset, .unset, .unset] [(.ref b13), (.ref b10), (.ref b10)]))) st15 ?_
  have K16 : Arv Z h15 b13 k13 .char (2 : Int32) (([(p3 &&& (255 : Int32)).toUInt32.toUInt16.toUInt32.toInt32, (((p3.toUInt32 >>> ((8 : Int32) &&& 31).toUInt32).toInt32) &&& (255 : Int32)).toUInt32.toUInt16.toUInt32.toInt32] : List Int32).map Value.int) (.int 0) := V15
  have f17 := (((A10.ext E13).wr W14).wr W15)
  have f18 := (((Fn12.ext E13).other W14 (Or.inl (Nat.ne_of_lt (Nat.lt_of_lt_of_le A10.lt (Nat.le_of_eq g13.symm))))).other W15 (Or.inl (Nat.ne_of_lt (Nat.lt_of_lt_of_le A10.lt (Nat.le_of_eq g13.symm)))))
  have f19 := (((Fn11.ext E13).other W14 (Or.inl (Nat.ne_of_lt (Nat.lt_of_lt_of_le A10.lt (Nat.le_of_eq g13.symm))))).other W15 (Or.inl (Nat.ne_of_lt (Nat.lt_of_lt_of_le A10.lt (Nat.le_of_eq g13.symm)))))
  obtain ⟨_, _, ⟨T20, L20, k20, n20⟩, -, X20, ⟨Lc20, hQ20, l20, y20, z20⟩, st20⟩ := X15.specialBack hx (y := (⟨"java/lang/String", "<init>", "([C)V"⟩ : MethodName)) rfl hown (mvT hZ (Wd11 hw)) (mvT hZ (Wd12 hw)) (mvT hZ (Wd13 hw)) (by decide) (StrChars.Road.backV (W := 1) hZ hws (kI := 4) (Wd8 hw) (cs := ([(p3 &&& (255 : Int32)).toUInt32.toUInt16.toUInt32.toInt32, (((p3.toUInt32 >>> ((8 : Int32) &&& 31).toUInt32).toInt32) &&& (255 : Int32)).toUInt32.toUInt16.toUInt32.toInt32] : List Int32)) (bs := ([(p3 &&& (255 : Int32)).toUInt32.toUInt16.toUInt32.toInt32, (((p3.toUInt32 >>> ((8 : Int32) &&& 31).toUInt32).toInt32) &&& (255 : Int32)).toUInt32.toUInt16.toUInt32.toInt32] : List Int32).map (fun c => c.toInt8.toInt32)) (n := 2) (n0 := h0.size) (Nat.le_trans (Nat.le_refl _) (Nat.le_of_eq g10.symm)) (Nat.le_trans (Nat.le_trans (Nat.le_trans (Nat.le_trans (Nat.le_refl _) E10.1) E13.1) (Keep.of_wr W14).1) (Keep.of_wr W15).1) f17 f18 f19 K16 (O2.ext ((((X00.ext E10).ext E13).wr W14 (Nat.le_trans (Nat.le_trans (Nat.le_refl _) E10.1) (Nat.le_of_eq g13.symm))).wr W15 (Nat.le_trans (Nat.le_trans (Nat.le_refl _) E10.1) (Nat.le_of_eq g13.symm))).2) P5 rfl rfl (by decide) (by decide) (own_all2 (own_c255 _) (own_c255 _)) rfl (by decide) (by decide)) (g := (mkF m 89 #[.val (.int p0), .val (.int p1), .val (.int p2), .val (.int p3), .val (.int p4), .val (.int p5), .val (.int v11_1), .val w4, .val (.int u33_5), .val (.int u43_6), .val (.int v59_7), .unset, .unset, .unset, .unset, .unset, .unset, .unset, .unset, .unset] [(.ref b13), (.ref b10), (.ref b10)])) rfl (by rw [hml]; rfl) (Steps.refl _) (a := b10) (argsL := [(.ref b13)]) (rest := [(.ref b10)]) (lenOf pd20 rfl) rfl (by show 2 * 0 + _ ≤ _; exact Nat.le_of_eq rfl) (bd at_89) (fun _ _ => ⟨rfl, e15, (nl rfl), (nl rfl)⟩)
  dsimp only [Pt.U, Pt.locs, Pt.cells, Pt.slots] at X20 l20 y20 z20 st20 hQ20
  subst l20 y20 z20
  obtain ⟨rfl, Nq20, K20, E20, C20, t20, kb20, gt20, ht20, nt20, V20, A20⟩ := hQ20
  have N20 := Fr.app N15 Nq20
  have nt20_b13 : b13 ≠ t20 := Nat.ne_of_lt (Nat.lt_of_lt_of_le (Nat.lt_of_lt_of_le (Nat.lt_of_lt_of_le V13.lt (Keep.of_wr W14).1) (Keep.of_wr W15).1) ht20)
  refine OD.via st20 ?_
  refine OD.go (B := (T20.setTop (mkF m 103 #[.val (.int p0), .val (.int p1), .val (.int p2), .val (.int p3), .val (.int p4), .val (.int p5), .val (.int v11_1), .val w4, .val (.int u33_5), .val (.int u43_6), .val (.int v59_7), .val (.ref b10), .unset, .unset, .unset, .unset, .unset, .unset, .unset, .unset] [(.int (((p3.toUInt32 >>> ((16 : Int32) &&& 31).toUInt32).toInt32) &&& (255 : Int32)).toUInt32.toUInt16.toUInt32.toInt32)]))) (fun t k => XS.astore X20.here hx rfl (bd at_92) rfl rfl (l' := #[.val (.int p0), .val (.int p1), .val (.int p2), .val (.int p3), .val (.int p4), .val (.int p5), .val (.int v11_1), .val w4, .val (.int u33_5), .val (.int u43_6), .val (.int v59_7), .val (.ref b10), .unset, .unset, .unset, .unset, .unset, .unset, .unset, .unset]) rfl (XS.iloadN X20.here hx rfl (bd at_94) rfl (XS.bipush X20.here hx rfl (bd at_95) (XS.iushr X20.here hx rfl (bd at_97) rfl (XS.sipush X20.here hx rfl (bd at_98) (XS.iand X20.here hx rfl (bd at_101) rfl (XS.i2c X20.here hx rfl (bd at_102) rfl k))))))) ?_
  obtain ⟨_, _, ⟨T21, L21, k21, n21⟩, -, X21, ⟨Lc21, hQ21, l21, y21, z21⟩, st21⟩ := Jvm.LawKit.callS X20 hx (y := (⟨"java/lang/String", "valueOf", "(C)Ljava/lang/String;"⟩ : MethodName)) hown (mvT hZ (Wd37 hw)) (mvT hZ (Wd38 hw)) (mvT hZ (Wd9 hw)) (mvT hZ (Wd39 hw)) (by decide) (backOf (W := 0) (rmVO l Z a0 hw [] (((p3.toUInt32 >>> ((16 : Int32) &&& 31).toUInt32).toInt32) &&& (255 : Int32)).toUInt32.toUInt16.toUInt32.toInt32 T20.heap h0.size (Nat.le_trans (Nat.le_trans (Nat.le_trans (Nat.le_trans (Nat.le_trans (Nat.le_refl _) E10.1) E13.1) (Keep.of_wr W14).1) (Keep.of_wr W15).1) K20.1) (((((X00.ext E10).ext E13).wr W14 (Nat.le_trans (Nat.le_trans (Nat.le_refl _) E10.1) (Nat.le_of_eq g13.symm))).wr W15 (Nat.le_trans (Nat.le_trans (Nat.le_refl _) E10.1) (Nat.le_of_eq g13.symm))).keep K20 (allS (Nat.le_trans (Nat.le_refl _) (Nat.le_of_eq g10.symm)) all0)) (own_c255 _).2 zc O2 P5) hZ (Wd39 hw) (Wd9 hw) (by decide) (by decide)) (g := (mkF m 103 #[.val (.int p0), .val (.int p1), .val (.int p2), .val (.int p3), .val (.int p4), .val (.int p5), .val (.int v11_1), .val w4, .val (.int u33_5), .val (.int u43_6), .val (.int v59_7), .val (.ref b10), .unset, .unset, .unset, .unset, .unset, .unset, .unset, .unset] [(.int (((p3.toUInt32 >>> ((16 : Int32) &&& 31).toUInt32).toInt32) &&& (255 : Int32)).toUInt32.toUInt16.toUInt32.toInt32)])) rfl (by rw [hml]; rfl) (argsL := [(.int (((p3.toUInt32 >>> ((16 : Int32) &&& 31).toUInt32).toInt32) &&& (255 : Int32)).toUInt32.toUInt16.toUInt32.toInt32)]) (rest := []) (lenOf pd21 rfl) rfl (by show 2 * 0 + _ ≤ _; exact Nat.le_of_eq rfl) (bd at_103) (fun _ _ => ⟨rfl, rfl, (nl rfl), (nl rfl)⟩)
  dsimp only [Pt.U, Pt.locs, Pt.cells, Pt.slots] at X21 l21 y21 z21 st21 hQ21
  subst l21 y21 z21
  obtain ⟨b21, t21, k21', rfl, Nq21, K21, ob21, E21, V21, C21, A21, nt21, ot21⟩ := hQ21
  have nt21_b10 : b10 ≠ t21 := Nat.ne_of_lt (Nat.lt_of_lt_of_le (Nat.lt_of_lt_of_le (Nat.lt_of_lt_of_le (Nat.lt_of_lt_of_le (Nat.lt_of_lt_of_le A10.lt E13.1) (Keep.of_wr W14).1) (Keep.of_wr W15).1) K20.1) ot21)
  have nt21_b13 : b13 ≠ t21 := Nat.ne_of_lt (Nat.lt_of_lt_of_le (Nat.lt_of_lt_of_le (Nat.lt_of_lt_of_le (Nat.lt_of_lt_of_le V13.lt (Keep.of_wr W14).1) (Keep.of_wr W15).1) K20.1) ot21)
  have nt21_t20 : t20 ≠ t21 := Nat.ne_of_lt (Nat.lt_of_lt_of_le A20.lt ot21)
  have N21 := Fr.app N20 Nq21
  have gb21 : h0.size ≤ b21 := Nat.le_trans (Nat.le_trans (Nat.le_trans (Nat.le_trans (Nat.le_trans (Nat.le_trans (Nat.le_refl _) E10.1) E13.1) (Keep.of_wr W14).1) (Keep.of_wr W15).1) K20.1) ob21
  have nb21_b10 : b10 ≠ b21 := Nat.ne_of_lt (Nat.lt_of_lt_of_le (Nat.lt_of_lt_of_le (Nat.lt_of_lt_of_le (Nat.lt_of_lt_of_le (Nat.lt_of_lt_of_le A10.lt E13.1) (Keep.of_wr W14).1) (Keep.of_wr W15).1) K20.1) ob21)
  have nb21_b13 : b13 ≠ b21 := Nat.ne_of_lt (Nat.lt_of_lt_of_le (Nat.lt_of_lt_of_le (Nat.lt_of_lt_of_le (Nat.lt_of_lt_of_le V13.lt (Keep.of_wr W14).1) (Keep.of_wr W15).1) K20.1) ob21)
  have nb21_t20 : t20 ≠ b21 := Nat.ne_of_lt (Nat.lt_of_lt_of_le A20.lt ob21)
  have gt21 : h0.size ≤ t21 := Nat.le_trans (Nat.le_trans (Nat.le_trans (Nat.le_trans (Nat.le_trans (Nat.le_trans (Nat.le_refl _) E10.1) E13.1) (Keep.of_wr W14).1) (Keep.of_wr W15).1) K20.1) ot21
  refine OD.go st21 ?_
  refine OD.go (B := (T21.setTop (mkF m 108 #[.val (.int p0), .val (.int p1), .val (.int p2), .val (.int p3), .val (.int p4), .val (.int p5), .val (.int v11_1), .val w4, .val (.int u33_5), .val (.int u43_6), .val (.int v59_7), .val (.ref b10), .val (.ref b21), .unset, .unset, .unset, .unset, .unset, .unset, .unset] []))) (fun t k => XS.astore X21.here hx rfl (bd at_106) rfl rfl (l' := #[.val (.int p0), .val (.int p1), .val (.int p2), .val (.int p3), .val (.int p4), .val (.int p5), .val (.int v11_1), .val w4, .val (.int u33_5), .val (.int u43_6), .val (.int v59_7), .val (.ref b10), .val (.ref b21), .unset, .unset, .unset, .unset, .unset, .unset, .unset]) rfl k) ?_
  obtain ⟨T22, h22, X22, e22, E22, A22, D22, -, st22⟩ := newO X21 hx hZ hown (Wd51 hw) (Wd52 hw) (Wd53 hw) rfl (g := (mkF m 108 #[.val (.int p0), .val (.int p1), .val (.int p2), .val (.int p3), .val (.int p4), .val (.int p5), .val (.int v11_1), .val w4, .val (.int u33_5), .val (.int u43_6), .val (.int v59_7), .val (.ref b10), .val (.ref b21), .unset, .unset, .unset, .unset, .unset, .unset, .unset] [])) rfl (bd at_108) (nl rfl) (nl rfl)
  obtain ⟨b22, g22⟩ : ∃ z, z = T21.heap.size := ⟨_, rfl⟩
  rw [← g22] at A22 D22 st22
  have Fn23 : Fld Z h22 b22 "java/util/AbstractList" "modCount" "I" (.int 0) := D22 (Or.inl (Wd71 hw)) (ty := .int) (by decide)
  have Fn24 : Fld Z h22 b22 cA "elementData" "[Ljava/lang/Object;" .null := D22 (Or.inl (Wd74 hw)) (ty := (.array (.object cO))) (by decide)
  have Fn25 : Fld Z h22 b22 cA "size" "I" (.int 0) := D22 (Or.inl (Wd114 hw)) (ty := .int) (by decide)
  refine OD.go st22 ?_
  refine OD.go (B := (T22.setTop (mkF m 112 #[.val (.int p0), .val (.int p1), .val (.int p2), .val (.int p3), .val (.int p4), .val (.int p5), .val (.int v11_1), .val w4, .val (.int u33_5), .val (.int u43_6), .val (.int v59_7), .val (.ref b10), .val (.ref b21), .unset, .unset, .unset, .unset, .unset, .unset, .unset] [(.ref b22), (.ref b22)]))) (fun t k => XS.dup X22.here hx rfl (bd at_111) rfl rfl k) ?_
  obtain ⟨_, _, ⟨T26, L26, k26, n26⟩, -, X26, ⟨Lc26, hQ26, l26, y26, z26⟩, st26⟩ := X22.specialBack hx (y := (⟨cA, "<init>", "()V"⟩ : MethodName)) rfl hown (mvT hZ (Wd54 hw)) (mvT hZ (Wd55 hw)) (mvT hZ (Wd56 hw)) (by decide) (backOf (W := 1) (rmAL l Z a0 hw [] b22  h22 h0.size (Nat.le_trans (Nat.le_trans (Nat.le_trans (Nat.le_trans (Nat.le_trans (Nat.le_trans (Nat.le_trans (Nat.le_refl _) E10.1) E13.1) (Keep.of_wr W14).1) (Keep.of_wr W15).1) K20.1) K21.1) E22.1) A22 Fn23 Fn24 Fn25 (Nat.le_trans (Nat.le_trans (Nat.le_trans (Nat.le_trans (Nat.le_trans (Nat.le_trans (Nat.le_trans (Nat.le_refl _) E10.1) E13.1) (Keep.of_wr W14).1) (Keep.of_wr W15).1) K20.1) K21.1) (Nat.le_of_eq g22.symm)) dc kd (((((((X00.ext E10).ext E13).wr W14 (Nat.le_trans (Nat.le_trans (Nat.le_refl _) E10.1) (Nat.le_of_eq g13.symm))).wr W15 (Nat.le_trans (Nat.le_trans (Nat.le_refl _) E10.1) (Nat.le_of_eq g13.symm))).keep K20 (allS (Nat.le_trans (Nat.le_refl _) (Nat.le_of_eq g10.symm)) all0)).keep K21 all0).ext E22) Odc Adc) hZ (Wd56 hw) (Wd53 hw) (by decide) (by decide)) (g := (mkF m 112 #[.val (.int p0), .val (.int p1), .val (.int p2), .val (.int p3), .val (.int p4), .val (.int p5), .val (.int v11_1), .val w4, .val (.int u33_5), .val (.int u43_6), .val (.int v59_7), .val (.ref b10), .val (.ref b21), .unset, .unset, .unset, .unset, .unset, .unset, .unset] [(.ref b22), (.ref b22)])) rfl (by rw [hml]; rfl) (Steps.refl _) (a := b22) (argsL := []) (rest := [(.ref b22)]) (lenOf pd0 rfl) rfl (by show 2 * 0 + _ ≤ _; exact Nat.le_of_eq rfl) (bd at_112) (fun _ _ => ⟨rfl, e22, (nl rfl), (nl rfl)⟩)
  dsimp only [Pt.U, Pt.locs, Pt.cells, Pt.slots] at X26 l26 y26 z26 st26 hQ26
  subst l26 y26 z26
  obtain ⟨rfl, Nq26, K26, G0_26, G1_26, G2_26⟩ := hQ26
  have N26 := Fr.app N21 Nq26
  refine OD.via st26 ?_
  refine OD.go (B := (T26.setTop (mkF m 117 #[.val (.int p0), .val (.int p1), .val (.int p2), .val (.int p3), .val (.int p4), .val (.int p5), .val (.int v11_1), .val w4, .val (.int u33_5), .val (.int u43_6), .val (.int v59_7), .val (.ref b10), .val (.ref b21), .val (.ref b22), .unset, .unset, .unset, .unset, .unset, .unset] []))) (fun t k => XS.astore X26.here hx rfl (bd at_115) rfl rfl (l' := #[.val (.int p0), .val (.int p1), .val (.int p2), .val (.int p3), .val (.int p4), .val (.int p5), .val (.int v11_1), .val w4, .val (.int u33_5), .val (.int u43_6), .val (.int v59_7), .val (.ref b10), .val (.ref b21), .val (.ref b22), .unset, .unset, .unset, .unset, .unset, .unset]) rfl k) ?_
  rcases own_three hu33_5 with rfl | rfl | rfl
  · show OD _ _ _ _ _ _ _ (T26.setTop (mkF m 117 #[.val (.int p0), .val (.int p1), .val (.int p2), .val (.int p3), .val (.int p4), .val (.int p5), .val (.int v11_1), .val w4, .val (.int 0), .val (.int u43_6), .val (.int v59_7), .val (.ref b10), .val (.ref b21), .val (.ref b22), .unset, .unset, .unset, .unset, .unset, .unset] []))
    refine OD.go (B := (T26.setTop (mkF m 148 #[.val (.int p0), .val (.int p1), .val (.int p2), .val (.int p3), .val (.int p4), .val (.int p5), .val (.int v11_1), .val w4, .val (.int 0), .val (.int u43_6), .val (.int v59_7), .val (.ref b10), .val (.ref b21), .val (.ref b22), .val .null, .unset, .unset, .unset, .unset, .unset] []))) (fun t k => XS.iload X26.here hx rfl (bd at_117) rfl (XS.iconst X26.here hx rfl (bd at_119) (XS.icmpYes X26.here hx rfl (pc0 := 120) (pc' := 131) rfl (bd at_120) rfl (tlt (by decide : (0 : Int32) < (1 : Int32))).1 (by decide) (by decide) (XS.iload X26.here hx rfl (bd at_131) rfl (XS.iconst X26.here hx rfl (bd at_133) (XS.icmpYes X26.here hx rfl (pc0 := 134) (pc' := 145) rfl (bd at_134) rfl (tlt (by decide : (0 : Int32) < (2 : Int32))).1 (by decide) (by decide) (XS.aconstNull X26.here hx rfl (bd at_145) (XS.astore X26.here hx rfl (bd at_146) rfl rfl (l' := #[.val (.int p0), .val (.int p1), .val (.int p2), .val (.int p3), .val (.int p4), .val (.int p5), .val (.int v11_1), .val w4, .val (.int 0), .val (.int u43_6), .val (.int v59_7), .val (.ref b10), .val (.ref b21), .val (.ref b22), .val .null, .unset, .unset, .unset, .unset, .unset]) rfl k)))))))) ?_
    have tail : ∀ (Tt : State) (ht : Heap) (Lt : List Loc) (vt : Value) (Xt : Stand p l e room_1 s m #[(.int p0), (.int p1), (.int p2), (.int p3), (.int p4), (.int p5)] below meth c Tt Lt 16 80) (et : Tt.heap = ht) (Nt : Fr h0.size Lt) (Kt : Keep T26.heap ht []) (rt : vt.isRef = true), OD p e s below (Q_rm0 Z p0 p1 p2 p3 p4 p5 h0) 40 192 (Tt.setTop (mkF m 214 #[.val (.int p0), .val (.int p1), .val (.int p2), .val (.int p3), .val (.int p4), .val (.int p5), .val (.int v11_1), .val w4, .val (.int 0), .val (.int u43_6), .val (.int v59_7), .val (.ref b10), .val (.ref b21), .val (.ref b22), .val vt, .unset, .unset, .unset, .unset, .unset] [])) := by
      intro Tt ht Lt vt Xt et Nt Kt rt
      have szt : h0.size ≤ ht.size := (Nat.le_trans (Nat.le_trans (Nat.le_trans (Nat.le_trans (Nat.le_trans (Nat.le_trans (Nat.le_trans (Nat.le_trans (Nat.le_trans (Nat.le_refl _) E10.1) E13.1) (Keep.of_wr W14).1) (Keep.of_wr W15).1) K20.1) K21.1) E22.1) K26.1) Kt.1)
      have oldt : Old Z h0.size ht := (((((((((X00.ext E10).ext E13).wr W14 (Nat.le_trans (Nat.le_trans (Nat.le_refl _) E10.1) (Nat.le_of_eq g13.symm))).wr W15 (Nat.le_trans (Nat.le_trans (Nat.le_refl _) E10.1) (Nat.le_of_eq g13.symm))).keep K20 (allS (Nat.le_trans (Nat.le_refl _) (Nat.le_of_eq g10.symm)) all0)).keep K21 all0).ext E22).keep K26 (allS (Nat.le_trans (Nat.le_trans (Nat.le_trans (Nat.le_trans (Nat.le_trans (Nat.le_trans (Nat.le_trans (Nat.le_refl _) E10.1) E13.1) (Keep.of_wr W14).1) (Keep.of_wr W15).1) K20.1) K21.1) (Nat.le_of_eq g22.symm)) all0)).keep Kt all0)
      have g27 := ((((E20.keep K21).ext E22).keep K26).keep Kt)
      have gag27 : h0.size ≤ b10 := (Nat.le_trans (Nat.le_refl _) (Nat.le_of_eq g10.symm))
      have g28 := (((E21.ext E22).keep K26).keep Kt)
      have gag28 : h0.size ≤ b21 := gb21
      have g29 := ((A22.keep K26).keep Kt)
      have gag29 : h0.size ≤ b22 := (Nat.le_trans (Nat.le_trans (Nat.le_trans (Nat.le_trans (Nat.le_trans (Nat.le_trans (Nat.le_trans (Nat.le_refl _) E10.1) E13.1) (Keep.of_wr W14).1) (Keep.of_wr W15).1) K20.1) K21.1) (Nat.le_of_eq g22.symm))
      have g30 := (G2_26.keep Kt nin0)
      have tail2 : ∀ (Tu : State) (hu : Heap) (Lu : List Loc) (x : Addr) (lm : Value) (Xu : Stand p l e room_1 s m #[(.int p0), (.int p1), (.int p2), (.int p3), (.int p4), (.int p5)] below meth c Tu Lu 24 120) (eu : Tu.heap = hu) (Nu : Fr h0.size Lu) (Ku : Keep ht hu []) (rlm : lm.isRef = true) (Eu : Exa Z hu x cS) (f0 : Fld Z hu x cS "connected" "Z" (.int (nar .boolean v11_1))) (f1 : Fld Z hu x cS "severity" dV w4) (f2 : Fld Z hu x cS "precision" "I" (.int p1)) (f3 : Fld Z hu x cS "labels" "Ljava/util/List;" (.ref el)) (f4 : Fld Z hu x cS "value" oO vt) (f5 : Fld Z hu x cS "limits" dD lm) (hlm : lm = .null ∨ ∃ d, lm = .ref d ∧ Exa Z hu d cD ∧ Fld Z hu d cD "lower" "D" (.double (FP.i2d p4)) ∧ Fld Z hu d cD "upper" "D" (.double (FP.i2d p5))), OD p e s below (Q_rm0 Z p0 p1 p2 p3 p4 p5 h0) 40 192 (Tu.setTop (mkF m 278 #[.val (.int p0), .val (.int p1), .val (.int p2), .val (.int p3), .val (.int p4), .val (.int p5), .val (.int v11_1), .val w4, .val (.int 0), .val (.int u43_6), .val (.int v59_7), .val (.ref b10), .val (.ref b21), .val (.ref b22), .val vt, .val lm, .val (.ref x), .unset, .unset, .unset] [])) := by
        intro Tu hu Lu x lm Xu eu Nu Ku rlm Eu f0 f1 f2 f3 f4 f5 hlm
        refine OD.go (B := (Tu.setTop (mkF m 280 #[.val (.int p0), .val (.int p1), .val (.int p2), .val (.int p3), .val (.int p4), .val (.int p5), .val (.int v11_1), .val w4, .val (.int 0), .val (.int u43_6), .val (.int v59_7), .val (.ref b10), .val (.ref b21), .val (.ref b22), .val vt, .val lm, .val (.ref x), .unset, .unset, .unset] [(.ref x)]))) (fun t k => XS.aload Xu.here hx rfl (bd at_278) rfl rfl k) ?_
        obtain ⟨cq31, kq31, qa31, qb31, qc31⟩ := isOf hZ eu Eu
        obtain ⟨_, _, ⟨T31, L31, k31, n31⟩, -, X31, ⟨Lc31, hQ31, l31, y31, z31⟩, st31⟩ := Xu.virtualBack hx (y := (⟨cS, "lost", zZ7⟩ : MethodName)) (z := (⟨cS, "lost", zZ7⟩ : MethodName)) hown (mvT hZ (Wd131 hw)) (mvT hZ (Wd132 hw)) (notFace_of_selects (args := #[]) (mvT hZ (Wd134 hw))) (mvT hZ (Wd134 hw)) (mvT hZ (Wd133 hw)) (by decide) (backOf (W := 0) (rmLs_E l Z a0 hw [] x hu h0.size (Nat.le_trans szt Ku.1) (oldt.keep Ku all0) Eu (nar .boolean v11_1) w4 r4 p1 vt rt lm rlm el ea kE Se Ee Fa Fel Ae f0 f1 f2 f3 f4 f5) hZ (Wd135 hw) (Wd77 hw) (by decide) (by decide)) qa31 qc31 (g := (mkF m 280 #[.val (.int p0), .val (.int p1), .val (.int p2), .val (.int p3), .val (.int p4), .val (.int p5), .val (.int v11_1), .val w4, .val (.int 0), .val (.int u43_6), .val (.int v59_7), .val (.ref b10), .val (.ref b21), .val (.ref b22), .val vt, .val lm, .val (.ref x), .unset, .unset, .unset] [(.ref x)])) rfl (by rw [hml]; rfl) (Steps.refl _) (argsL := []) (rest := []) (lenOf pd22 rfl) rfl (by show 2 * 0 + _ ≤ _; exact Nat.le_of_eq rfl) (bd at_280) (fun _ _ => ⟨rfl, eu, (nl rfl), (nl rfl)⟩)
        dsimp only [Pt.U, Pt.locs, Pt.cells, Pt.slots] at X31 l31 y31 z31 st31 hQ31
        subst l31 y31 z31
        obtain ⟨b31, rfl, Nq31, K31, ob31, E31, C0_31, C1_31, C2_31, C3_31, C4_31, C5_31⟩ := hQ31
        have N31 := Fr.app Nu Nq31
        have gb31 : h0.size ≤ b31 := Nat.le_trans (Nat.le_trans szt Ku.1) ob31
        refine OD.via st31 ?_
        refine OD.go (B := (T31.setTop (mkF m 287 #[.val (.int p0), .val (.int p1), .val (.int p2), .val (.int p3), .val (.int p4), .val (.int p5), .val (.int v11_1), .val w4, .val (.int 0), .val (.int u43_6), .val (.int v59_7), .val (.ref b10), .val (.ref b21), .val (.ref b22), .val vt, .val lm, .val (.ref x), .val (.ref b31), .unset, .unset] [(.ref b31)]))) (fun t k => XS.astore X31.here hx rfl (bd at_283) rfl rfl (l' := #[.val (.int p0), .val (.int p1), .val (.int p2), .val (.int p3), .val (.int p4), .val (.int p5), .val (.int v11_1), .val w4, .val (.int 0), .val (.int u43_6), .val (.int v59_7), .val (.ref b10), .val (.ref b21), .val (.ref b22), .val vt, .val lm, .val (.ref x), .val (.ref b31), .unset, .unset]) rfl (XS.aload X31.here hx rfl (bd at_285) rfl rfl k)) ?_
        obtain ⟨cq32, kq32, qa32, qb32, qc32⟩ := isOf hZ rfl E31
        obtain ⟨_, _, ⟨T32, L32, k32, n32⟩, -, X32, ⟨Lc32, hQ32, l32, y32, z32⟩, st32⟩ := X31.virtualBack hx (y := (⟨cS, "connected", "()Z"⟩ : MethodName)) (z := (⟨cS, "connected", "()Z"⟩ : MethodName)) hown (mvT hZ (Wd145 hw)) (mvT hZ (Wd146 hw)) (notFace_of_selects (args := #[]) (mvT hZ (Wd148 hw))) (mvT hZ (Wd148 hw)) (mvT hZ (Wd147 hw)) (by decide) (backOf (W := 0) (rmX0 l Z a0 hw [] b31 T31.heap  C0_31) hZ (Wd149 hw) (Wd77 hw) (by decide) (by decide)) qa32 qc32 (g := (mkF m 287 #[.val (.int p0), .val (.int p1), .val (.int p2), .val (.int p3), .val (.int p4), .val (.int p5), .val (.int v11_1), .val w4, .val (.int 0), .val (.int u43_6), .val (.int v59_7), .val (.ref b10), .val (.ref b21), .val (.ref b22), .val vt, .val lm, .val (.ref x), .val (.ref b31), .unset, .unset] [(.ref b31)])) rfl (by rw [hml]; rfl) (Steps.refl _) (argsL := []) (rest := []) (lenOf pd14 rfl) rfl (by show 2 * 0 + _ ≤ _; exact Nat.le_of_eq rfl) (bd at_287) (fun _ _ => ⟨rfl, rfl, (nl rfl), (nl rfl)⟩)
        dsimp only [Pt.U, Pt.locs, Pt.cells, Pt.slots] at X32 l32 y32 z32 st32 hQ32
        subst l32 y32 z32
        obtain ⟨rfl, rfl, e32⟩ := hQ32
        have N32 := Fr.app N31 (Fr.nil _)
        refine OD.via st32 ?_
        refine OD.go (B := (T32.setTop (mkF m 297 #[.val (.int p0), .val (.int p1), .val (.int p2), .val (.int p3), .val (.int p4), .val (.int p5), .val (.int v11_1), .val w4, .val (.int 0), .val (.int u43_6), .val (.int v59_7), .val (.ref b10), .val (.ref b21), .val (.ref b22), .val vt, .val lm, .val (.ref x), .val (.ref b31), .unset, .unset] [(.ref b31)]))) (fun t k => XS.ifYes X32.here hx rfl (pc0 := 290) (pc' := 295) rfl (bd at_290) rfl (by rw [if0]; exact (teq (by decide : (0 : Int32) = (0 : Int32))).1) (by decide) (by decide) (XS.aload X32.here hx rfl (bd at_295) rfl rfl k)) ?_
        obtain ⟨cq33, kq33, qa33, qb33, qc33⟩ := isOf hZ e32 E31
        obtain ⟨_, _, ⟨T33, L33, k33, n33⟩, -, X33, ⟨Lc33, hQ33, l33, y33, z33⟩, st33⟩ := X32.virtualBack hx (y := (⟨cS, "severity", zZ9⟩ : MethodName)) (z := (⟨cS, "severity", zZ9⟩ : MethodName)) hown (mvT hZ (Wd150 hw)) (mvT hZ (Wd151 hw)) (notFace_of_selects (args := #[]) (mvT hZ (Wd153 hw))) (mvT hZ (Wd153 hw)) (mvT hZ (Wd152 hw)) (by decide) (backOf (W := 0) (rmX1 l Z a0 hw [] b31 T31.heap w4 r4 C1_31) hZ (Wd154 hw) (Wd77 hw) (by decide) (by decide)) qa33 qc33 (g := (mkF m 297 #[.val (.int p0), .val (.int p1), .val (.int p2), .val (.int p3), .val (.int p4), .val (.int p5), .val (.int v11_1), .val w4, .val (.int 0), .val (.int u43_6), .val (.int v59_7), .val (.ref b10), .val (.ref b21), .val (.ref b22), .val vt, .val lm, .val (.ref x), .val (.ref b31), .unset, .unset] [(.ref b31)])) rfl (by rw [hml]; rfl) (Steps.refl _) (argsL := []) (rest := []) (lenOf pd23 rfl) rfl (by show 2 * 0 + _ ≤ _; exact Nat.le_of_eq rfl) (bd at_297) (fun _ _ => ⟨rfl, e32, (nl rfl), (nl rfl)⟩)
        dsimp only [Pt.U, Pt.locs, Pt.cells, Pt.slots] at X33 l33 y33 z33 st33 hQ33
        subst l33 y33 z33
        obtain ⟨rfl, rfl, e33⟩ := hQ33
        have N33 := Fr.app N32 (Fr.nil _)
        refine OD.via st33 ?_
        refine OD.go (B := (T33.setTop (mkF m 309 #[.val (.int p0), .val (.int p1), .val (.int p2), .val (.int p3), .val (.int p4), .val (.int p5), .val (.int v11_1), .val w4, .val (.int 0), .val (.int u43_6), .val (.int v59_7), .val (.ref b10), .val (.ref b21), .val (.ref b22), .val vt, .val lm, .val (.ref x), .val (.ref b31), .unset, .unset] [(.ref b31)]))) (fun t k => XS.aload X33.here hx rfl (bd at_300) rfl (r4) (RoadKit.acmp X33 hx rfl (x := w4) (y := w4) r4 r4 (pc0 := 302) (pc' := 307) (same := true) rfl (bd at_302) rfl (by simp) (by decide) (by decide) (XS.aload X33.here hx rfl (bd at_307) rfl rfl k))) ?_
        obtain ⟨cq34, kq34, qa34, qb34, qc34⟩ := isOf hZ e33 E31
        obtain ⟨_, _, ⟨T34, L34, k34, n34⟩, -, X34, ⟨Lc34, hQ34, l34, y34, z34⟩, st34⟩ := X33.virtualBack hx (y := (⟨cS, "precision", "()I"⟩ : MethodName)) (z := (⟨cS, "precision", "()I"⟩ : MethodName)) hown (mvT hZ (Wd155 hw)) (mvT hZ (Wd156 hw)) (notFace_of_selects (args := #[]) (mvT hZ (Wd158 hw))) (mvT hZ (Wd158 hw)) (mvT hZ (Wd157 hw)) (by decide) (backOf (W := 0) (rmX2 l Z a0 hw [] b31 T31.heap p1 C2_31) hZ (Wd159 hw) (Wd77 hw) (by decide) (by decide)) qa34 qc34 (g := (mkF m 309 #[.val (.int p0), .val (.int p1), .val (.int p2), .val (.int p3), .val (.int p4), .val (.int p5), .val (.int v11_1), .val w4, .val (.int 0), .val (.int u43_6), .val (.int v59_7), .val (.ref b10), .val (.ref b21), .val (.ref b22), .val vt, .val lm, .val (.ref x), .val (.ref b31), .unset, .unset] [(.ref b31)])) rfl (by rw [hml]; rfl) (Steps.refl _) (argsL := []) (rest := []) (lenOf pd24 rfl) rfl (by show 2 * 0 + _ ≤ _; exact Nat.le_of_eq rfl) (bd at_309) (fun _ _ => ⟨rfl, e33, (nl rfl), (nl rfl)⟩)
        dsimp only [Pt.U, Pt.locs, Pt.cells, Pt.slots] at X34 l34 y34 z34 st34 hQ34
        subst l34 y34 z34
        obtain ⟨rfl, rfl, e34⟩ := hQ34
        have N34 := Fr.app N33 (Fr.nil _)
        refine OD.via st34 ?_
        refine OD.go (B := (T34.setTop (mkF m 320 #[.val (.int p0), .val (.int p1), .val (.int p2), .val (.int p3), .val (.int p4), .val (.int p5), .val (.int v11_1), .val w4, .val (.int 0), .val (.int u43_6), .val (.int v59_7), .val (.ref b10), .val (.ref b21), .val (.ref b22), .val vt, .val lm, .val (.ref x), .val (.ref b31), .unset, .unset] [(.ref b31)]))) (fun t k => XS.iloadN X34.here hx rfl (bd at_312) rfl (XS.icmpYes X34.here hx rfl (pc0 := 313) (pc' := 318) rfl (bd at_313) rfl (teq rfl).1 (by decide) (by decide) (XS.aload X34.here hx rfl (bd at_318) rfl rfl k))) ?_
        obtain ⟨cq35, kq35, qa35, qb35, qc35⟩ := isOf hZ e34 E31
        obtain ⟨_, _, ⟨T35, L35, k35, n35⟩, -, X35, ⟨Lc35, hQ35, l35, y35, z35⟩, st35⟩ := X34.virtualBack hx (y := (⟨cS, "value", "()Ljava/lang/Object;"⟩ : MethodName)) (z := (⟨cS, "value", "()Ljava/lang/Object;"⟩ : MethodName)) hown (mvT hZ (Wd160 hw)) (mvT hZ (Wd161 hw)) (notFace_of_selects (args := #[]) (mvT hZ (Wd163 hw))) (mvT hZ (Wd163 hw)) (mvT hZ (Wd162 hw)) (by decide) (backOf (W := 0) (rmX4 l Z a0 hw [] b31 T31.heap vt rt C4_31) hZ (Wd164 hw) (Wd77 hw) (by decide) (by decide)) qa35 qc35 (g := (mkF m 320 #[.val (.int p0), .val (.int p1), .val (.int p2), .val (.int p3), .val (.int p4), .val (.int p5), .val (.int v11_1), .val w4, .val (.int 0), .val (.int u43_6), .val (.int v59_7), .val (.ref b10), .val (.ref b21), .val (.ref b22), .val vt, .val lm, .val (.ref x), .val (.ref b31), .unset, .unset] [(.ref b31)])) rfl (by rw [hml]; rfl) (Steps.refl _) (argsL := []) (rest := []) (lenOf pd25 rfl) rfl (by show 2 * 0 + _ ≤ _; exact Nat.le_of_eq rfl) (bd at_320) (fun _ _ => ⟨rfl, e34, (nl rfl), (nl rfl)⟩)
        dsimp only [Pt.U, Pt.locs, Pt.cells, Pt.slots] at X35 l35 y35 z35 st35 hQ35
        subst l35 y35 z35
        obtain ⟨rfl, rfl, e35⟩ := hQ35
        have N35 := Fr.app N34 (Fr.nil _)
        refine OD.via st35 ?_
        refine OD.go (B := (T35.setTop (mkF m 332 #[.val (.int p0), .val (.int p1), .val (.int p2), .val (.int p3), .val (.int p4), .val (.int p5), .val (.int v11_1), .val w4, .val (.int 0), .val (.int u43_6), .val (.int v59_7), .val (.ref b10), .val (.ref b21), .val (.ref b22), .val vt, .val lm, .val (.ref x), .val (.ref b31), .unset, .unset] [(.ref b31)]))) (fun t k => XS.aload X35.here hx rfl (bd at_323) rfl (rt) (RoadKit.acmp X35 hx rfl (x := vt) (y := vt) rt rt (pc0 := 325) (pc' := 330) (same := true) rfl (bd at_325) rfl (by simp) (by decide) (by decide) (XS.aload X35.here hx rfl (bd at_330) rfl rfl k))) ?_
        obtain ⟨cq36, kq36, qa36, qb36, qc36⟩ := isOf hZ e35 E31
        obtain ⟨_, _, ⟨T36, L36, k36, n36⟩, -, X36, ⟨Lc36, hQ36, l36, y36, z36⟩, st36⟩ := X35.virtualBack hx (y := (⟨cS, "labels", "()Ljava/util/List;"⟩ : MethodName)) (z := (⟨cS, "labels", "()Ljava/util/List;"⟩ : MethodName)) hown (mvT hZ (Wd165 hw)) (mvT hZ (Wd166 hw)) (notFace_of_selects (args := #[]) (mvT hZ (Wd168 hw))) (mvT hZ (Wd168 hw)) (mvT hZ (Wd167 hw)) (by decide) (backOf (W := 0) (rmX3 l Z a0 hw [] b31 T31.heap (.ref el) rfl C3_31) hZ (Wd169 hw) (Wd77 hw) (by decide) (by decide)) qa36 qc36 (g := (mkF m 332 #[.val (.int p0), .val (.int p1), .val (.int p2), .val (.int p3), .val (.int p4), .val (.int p5), .val (.int v11_1), .val w4, .val (.int 0), .val (.int u43_6), .val (.int v59_7), .val (.ref b10), .val (.ref b21), .val (.ref b22), .val vt, .val lm, .val (.ref x), .val (.ref b31), .unset, .unset] [(.ref b31)])) rfl (by rw [hml]; rfl) (Steps.refl _) (argsL := []) (rest := []) (lenOf pd15 rfl) rfl (by show 2 * 0 + _ ≤ _; exact Nat.le_of_eq rfl) (bd at_332) (fun _ _ => ⟨rfl, e35, (nl rfl), (nl rfl)⟩)
        dsimp only [Pt.U, Pt.locs, Pt.cells, Pt.slots] at X36 l36 y36 z36 st36 hQ36
        subst l36 y36 z36
        obtain ⟨rfl, rfl, e36⟩ := hQ36
        have N36 := Fr.app N35 (Fr.nil _)
        refine OD.via st36 ?_
        refine OD.go (B := (T36.setTop (mkF m 339 #[.val (.int p0), .val (.int p1), .val (.int p2), .val (.int p3), .val (.int p4), .val (.int p5), .val (.int v11_1), .val w4, .val (.int 0), .val (.int u43_6), .val (.int v59_7), .val (.ref b10), .val (.ref b21), .val (.ref b22), .val vt, .val lm, .val (.ref x), .val (.ref b31), .val (.ref el), .unset] [(.ref el)]))) (fun t k => XS.astore X36.here hx rfl (bd at_335) rfl rfl (l' := #[.val (.int p0), .val (.int p1), .val (.int p2), .val (.int p3), .val (.int p4), .val (.int p5), .val (.int v11_1), .val w4, .val (.int 0), .val (.int u43_6), .val (.int v59_7), .val (.ref b10), .val (.ref b21), .val (.ref b22), .val vt, .val lm, .val (.ref x), .val (.ref b31), .val (.ref el), .unset]) rfl (XS.aload X36.here hx rfl (bd at_337) rfl rfl k)) ?_
        have f37 := (Ee.ext ((oldt.keep Ku all0).keep K31 all0).2)
        obtain ⟨cq38, kq38, qa38, qb38, qc38⟩ := isOf hZ e36 f37
        obtain ⟨_, _, ⟨T38, L38, k38, n38⟩, -, X38, ⟨Lc38, hQ38, l38, y38, z38⟩, st38⟩ := X36.interfaceBack hx (xi := (⟨"java/util/List", "size", "()I"⟩ : MethodName)) (y := (⟨cN, "size", "()I"⟩ : MethodName)) hown (mvT hZ (Wd170 hw)) (mvT hZ (Wd171 hw)) (mvT hZ (Wd172 hw)) (mvT hZ (Wd173 hw)) (mvT hZ (Wd174 hw)) (mvT hZ (Wd175 hw)) (mvT hZ (Wd176 hw)) (mvT hZ (Wd144 hw)) (by decide) (backOf (W := 0) (rmSZ l Z a0 hw [] el T31.heap h0.size ((oldt.keep Ku all0).keep K31 all0) ea kE Se Ee Fa Fel Ae) hZ (Wd178 hw) (Wd177 hw) (by decide) (by decide)) qa38 qb38 qc38 (g := (mkF m 339 #[.val (.int p0), .val (.int p1), .val (.int p2), .val (.int p3), .val (.int p4), .val (.int p5), .val (.int v11_1), .val w4, .val (.int 0), .val (.int u43_6), .val (.int v59_7), .val (.ref b10), .val (.ref b21), .val (.ref b22), .val vt, .val lm, .val (.ref x), .val (.ref b31), .val (.ref el), .unset] [(.ref el)])) rfl (by rw [hml]; rfl) (Steps.refl _) (argsL := []) (rest := []) (lenOf pd24 rfl) rfl (by show 2 * 0 + _ ≤ _; exact Nat.le_of_eq rfl) (bd at_339) (fun _ _ => ⟨rfl, e36, (nl rfl), (nl rfl)⟩)
        dsimp only [Pt.U, Pt.locs, Pt.cells, Pt.slots] at X38 l38 y38 z38 st38 hQ38
        subst l38 y38 z38
        obtain ⟨rfl, rfl, e38⟩ := hQ38
        have N38 := Fr.app N36 (Fr.nil _)
        refine OD.via st38 ?_
        refine OD.go (B := (T38.setTop (mkF m 401 #[.val (.int p0), .val (.int p1), .val (.int p2), .val (.int p3), .val (.int p4), .val (.int p5), .val (.int v11_1), .val w4, .val (.int 0), .val (.int u43_6), .val (.int v59_7), .val (.ref b10), .val (.ref b21), .val (.ref b22), .val vt, .val lm, .val (.ref x), .val (.ref b31), .val (.ref el), .unset] [(.ref b31)]))) (fun t k => XS.iload X38.here hx rfl (bd at_344) rfl (XS.icmpYes X38.here hx rfl (pc0 := 346) (pc' := 351) rfl (bd at_346) rfl (teq (by decide : (0 : Int32) = (0 : Int32))).1 (by decide) (by decide) (XS.iload X38.here hx rfl (bd at_351) rfl (XS.iconst X38.here hx rfl (bd at_353) (XS.icmpYes X38.here hx rfl (pc0 := 354) (pc' := 375) rfl (bd at_354) rfl (tlt (by decide : (0 : Int32) < (1 : Int32))).1 (by decide) (by decide) (XS.iload X38.here hx rfl (bd at_375) rfl (XS.iconst X38.here hx rfl (bd at_377) (XS.icmpYes X38.here hx rfl (pc0 := 378) (pc' := 399) rfl (bd at_378) rfl (tlt (by decide : (0 : Int32) < (2 : Int32))).1 (by decide) (by decide) (XS.aload X38.here hx rfl (bd at_399) rfl rfl k))))))))) ?_
        obtain ⟨cq39, kq39, qa39, qb39, qc39⟩ := isOf hZ e38 E31
        obtain ⟨_, _, ⟨T39, L39, k39, n39⟩, -, X39, ⟨Lc39, hQ39, l39, y39, z39⟩, st39⟩ := X38.virtualBack hx (y := (⟨cS, "limits", zZ10⟩ : MethodName)) (z := (⟨cS, "limits", zZ10⟩ : MethodName)) hown (mvT hZ (Wd181 hw)) (mvT hZ (Wd182 hw)) (notFace_of_selects (args := #[]) (mvT hZ (Wd184 hw))) (mvT hZ (Wd184 hw)) (mvT hZ (Wd183 hw)) (by decide) (backOf (W := 0) (rmX5 l Z a0 hw [] b31 T31.heap lm rlm C5_31) hZ (Wd185 hw) (Wd77 hw) (by decide) (by decide)) qa39 qc39 (g := (mkF m 401 #[.val (.int p0), .val (.int p1), .val (.int p2), .val (.int p3), .val (.int p4), .val (.int p5), .val (.int v11_1), .val w4, .val (.int 0), .val (.int u43_6), .val (.int v59_7), .val (.ref b10), .val (.ref b21), .val (.ref b22), .val vt, .val lm, .val (.ref x), .val (.ref b31), .val (.ref el), .unset] [(.ref b31)])) rfl (by rw [hml]; rfl) (Steps.refl _) (argsL := []) (rest := []) (lenOf pd26 rfl) rfl (by show 2 * 0 + _ ≤ _; exact Nat.le_of_eq rfl) (bd at_401) (fun _ _ => ⟨rfl, e38, (nl rfl), (nl rfl)⟩)
        dsimp only [Pt.U, Pt.locs, Pt.cells, Pt.slots] at X39 l39 y39 z39 st39 hQ39
        subst l39 y39 z39
        obtain ⟨rfl, rfl, e39⟩ := hQ39
        have N39 := Fr.app N38 (Fr.nil _)
        refine OD.via st39 ?_
        refine OD.go (B := (T39.setTop (mkF m 406 #[.val (.int p0), .val (.int p1), .val (.int p2), .val (.int p3), .val (.int p4), .val (.int p5), .val (.int v11_1), .val w4, .val (.int 0), .val (.int u43_6), .val (.int v59_7), .val (.ref b10), .val (.ref b21), .val (.ref b22), .val vt, .val lm, .val (.ref x), .val (.ref b31), .val (.ref el), .val lm] []))) (fun t k => XS.astore X39.here hx rfl (bd at_404) rfl (rlm) (l' := #[.val (.int p0), .val (.int p1), .val (.int p2), .val (.int p3), .val (.int p4), .val (.int p5), .val (.int v11_1), .val w4, .val (.int 0), .val (.int u43_6), .val (.int v59_7), .val (.ref b10), .val (.ref b21), .val (.ref b22), .val vt, .val lm, .val (.ref x), .val (.ref b31), .val (.ref el), .val lm]) (by rcases ref_cases rlm with rfl | ⟨_, rfl⟩ <;> rfl) k) ?_
        rcases hlm with rfl | ⟨d, rfl, Ed, Dl, Du⟩
        · show OD _ _ _ _ _ _ _ (T39.setTop (mkF m 406 #[.val (.int p0), .val (.int p1), .val (.int p2), .val (.int p3), .val (.int p4), .val (.int p5), .val (.int v11_1), .val w4, .val (.int 0), .val (.int u43_6), .val (.int v59_7), .val (.ref b10), .val (.ref b21), .val (.ref b22), .val vt, .val .null, .val (.ref x), .val (.ref b31), .val (.ref el), .val .null] []))
          refine OD.go (B := (T39.setTop (mkF m 421 #[.val (.int p0), .val (.int p1), .val (.int p2), .val (.int p3), .val (.int p4), .val (.int p5), .val (.int v11_1), .val w4, .val (.int 0), .val (.int u43_6), .val (.int v59_7), .val (.ref b10), .val (.ref b21), .val (.ref b22), .val vt, .val .null, .val (.ref x), .val (.ref b31), .val (.ref el), .val .null] [(.int 1)]))) (fun t k => XS.aload X39.here hx rfl (bd at_406) rfl rfl (XS.ifnonnullNo X39.here hx rfl (bd at_408) rfl (XS.aload X39.here hx rfl (bd at_411) rfl rfl (XS.ifnonnullNo X39.here hx rfl (bd at_413) rfl (XS.iconst X39.here hx rfl (bd at_416) (XS.goto X39.here hx rfl (pc0 := 417) (pc' := 421) rfl (bd at_417) (by decide) (by decide) k)))))) ?_
          exact OD.ret X39 hx hlk (t := .boolean) Bd.returns rfl (Or.inl ⟨rfl, Or.inr (Or.inl rfl), _, rfl⟩) (bd at_421) (nl rfl) (nl rfl) ⟨rfl, N39⟩
        · show OD _ _ _ _ _ _ _ (T39.setTop (mkF m 406 #[.val (.int p0), .val (.int p1), .val (.int p2), .val (.int p3), .val (.int p4), .val (.int p5), .val (.int v11_1), .val w4, .val (.int 0), .val (.int u43_6), .val (.int v59_7), .val (.ref b10), .val (.ref b21), .val (.ref b22), .val vt, .val (.ref d), .val (.ref x), .val (.ref b31), .val (.ref el), .val (.ref d)] []))
          refine OD.go (B := (T39.setTop (mkF m 429 #[.val (.int p0), .val (.int p1), .val (.int p2), .val (.int p3), .val (.int p4), .val (.int p5), .val (.int v11_1), .val w4, .val (.int 0), .val (.int u43_6), .val (.int v59_7), .val (.ref b10), .val (.ref b21), .val (.ref b22), .val vt, .val (.ref d), .val (.ref x), .val (.ref b31), .val (.ref el), .val (.ref d)] [(.ref d)]))) (fun t k => XS.aload X39.here hx rfl (bd at_406) rfl rfl (XS.ifnonnullYes X39.here hx rfl (pc0 := 408) (pc' := 422) rfl (bd at_408) rfl (by decide) (by decide) (XS.aload X39.here hx rfl (bd at_422) rfl rfl (XS.ifnullNo X39.here hx rfl (bd at_424) rfl (XS.aload X39.here hx rfl (bd at_427) rfl rfl k))))) ?_
          have f40 := (Dl.keep K31 nin0)
          have f41 := (Ed.keep K31)
          obtain ⟨cq42, kq42, qa42, qb42, qc42⟩ := isOf hZ e39 f41
          obtain ⟨_, _, ⟨T42, L42, k42, n42⟩, -, X42, ⟨Lc42, hQ42, l42, y42, z42⟩, st42⟩ := X39.virtualBack hx (y := (⟨cD, "lower", "()D"⟩ : MethodName)) (z := (⟨cD, "lower", "()D"⟩ : MethodName)) hown (mvT hZ (Wd323 hw)) (mvT hZ (Wd324 hw)) (notFace_of_selects (args := #[]) (mvT hZ (Wd326 hw))) (mvT hZ (Wd326 hw)) (mvT hZ (Wd325 hw)) (by decide) (backOf (W := 0) (rmDlower l Z a0 hw [] d T31.heap (FP.i2d p4) f40) hZ (Wd327 hw) (Wd310 hw) (by decide) (by decide)) qa42 qc42 (g := (mkF m 429 #[.val (.int p0), .val (.int p1), .val (.int p2), .val (.int p3), .val (.int p4), .val (.int p5), .val (.int v11_1), .val w4, .val (.int 0), .val (.int u43_6), .val (.int v59_7), .val (.ref b10), .val (.ref b21), .val (.ref b22), .val vt, .val (.ref d), .val (.ref x), .val (.ref b31), .val (.ref el), .val (.ref d)] [(.ref d)])) rfl (by rw [hml]; rfl) (Steps.refl _) (argsL := []) (rest := []) (lenOf pd27 rfl) rfl (by show 2 * 0 + _ ≤ _; exact Nat.le_of_eq rfl) (bd at_429) (fun _ _ => ⟨rfl, e39, (nl rfl), (nl rfl)⟩)
          dsimp only [Pt.U, Pt.locs, Pt.cells, Pt.slots] at X42 l42 y42 z42 st42 hQ42
          subst l42 y42 z42
          obtain ⟨rfl, rfl, e42⟩ := hQ42
          have N42 := Fr.app N39 (Fr.nil _)
          refine OD.via st42 ?_
          refine OD.go (B := (T42.setTop (mkF m 441 #[.val (.int p0), .val (.int p1), .val (.int p2), .val (.int p3), .val (.int p4), .val (.int p5), .val (.int v11_1), .val w4, .val (.int 0), .val (.int u43_6), .val (.int v59_7), .val (.ref b10), .val (.ref b21), .val (.ref b22), .val vt, .val (.ref d), .val (.ref x), .val (.ref b31), .val (.ref el), .val (.ref d)] [(.ref d)]))) (fun t k => XS.iload X42.here hx rfl (bd at_432) rfl (XS.i2dS X42.here hx rfl (bd at_434) rfl (v := (FP.i2d p4)) rfl (XS.dcmpS X42.here hx rfl (bd at_435) rfl (v := (cmpValue (FP.dcmp (FP.i2d p4) (FP.i2d p4)) .l)) rfl (XS.ifNo X42.here hx rfl (bd at_436) rfl (by rw [if0]; exact (teq (own_dself _)).2) (XS.aload X42.here hx rfl (bd at_439) rfl rfl k))))) ?_
          have f43 := (Du.keep K31 nin0)
          obtain ⟨cq44, kq44, qa44, qb44, qc44⟩ := isOf hZ e42 f41
          obtain ⟨_, _, ⟨T44, L44, k44, n44⟩, -, X44, ⟨Lc44, hQ44, l44, y44, z44⟩, st44⟩ := X42.virtualBack hx (y := (⟨cD, "upper", "()D"⟩ : MethodName)) (z := (⟨cD, "upper", "()D"⟩ : MethodName)) hown (mvT hZ (Wd328 hw)) (mvT hZ (Wd329 hw)) (notFace_of_selects (args := #[]) (mvT hZ (Wd331 hw))) (mvT hZ (Wd331 hw)) (mvT hZ (Wd330 hw)) (by decide) (backOf (W := 0) (rmDupper l Z a0 hw [] d T31.heap (FP.i2d p5) f43) hZ (Wd332 hw) (Wd310 hw) (by decide) (by decide)) qa44 qc44 (g := (mkF m 441 #[.val (.int p0), .val (.int p1), .val (.int p2), .val (.int p3), .val (.int p4), .val (.int p5), .val (.int v11_1), .val w4, .val (.int 0), .val (.int u43_6), .val (.int v59_7), .val (.ref b10), .val (.ref b21), .val (.ref b22), .val vt, .val (.ref d), .val (.ref x), .val (.ref b31), .val (.ref el), .val (.ref d)] [(.ref d)])) rfl (by rw [hml]; rfl) (Steps.refl _) (argsL := []) (rest := []) (lenOf pd27 rfl) rfl (by show 2 * 0 + _ ≤ _; exact Nat.le_of_eq rfl) (bd at_441) (fun _ _ => ⟨rfl, e42, (nl rfl), (nl rfl)⟩)
          dsimp only [Pt.U, Pt.locs, Pt.cells, Pt.slots] at X44 l44 y44 z44 st44 hQ44
          subst l44 y44 z44
          obtain ⟨rfl, rfl, e44⟩ := hQ44
          have N44 := Fr.app N42 (Fr.nil _)
          refine OD.via st44 ?_
          refine OD.go (B := (T44.setTop (mkF m 456 #[.val (.int p0), .val (.int p1), .val (.int p2), .val (.int p3), .val (.int p4), .val (.int p5), .val (.int v11_1), .val w4, .val (.int 0), .val (.int u43_6), .val (.int v59_7), .val (.ref b10), .val (.ref b21), .val (.ref b22), .val vt, .val (.ref d), .val (.ref x), .val (.ref b31), .val (.ref el), .val (.ref d)] [(.int 1)]))) (fun t k => XS.iload X44.here hx rfl (bd at_444) rfl (XS.i2dS X44.here hx rfl (bd at_446) rfl (v := (FP.i2d p5)) rfl (XS.dcmpS X44.here hx rfl (bd at_447) rfl (v := (cmpValue (FP.dcmp (FP.i2d p5) (FP.i2d p5)) .l)) rfl (XS.ifNo X44.here hx rfl (bd at_448) rfl (by rw [if0]; exact (teq (own_dself _)).2) (XS.iconst X44.here hx rfl (bd at_451) (XS.goto X44.here hx rfl (pc0 := 452) (pc' := 456) rfl (bd at_452) (by decide) (by decide) k)))))) ?_
          exact OD.ret X44 hx hlk (t := .boolean) Bd.returns rfl (Or.inl ⟨rfl, Or.inr (Or.inl rfl), _, rfl⟩) (bd at_456) (nl rfl) (nl rfl) ⟨rfl, N44⟩
      refine OD.go (B := (Tt.setTop (mkF m 219 #[.val (.int p0), .val (.int p1), .val (.int p2), .val (.int p3), .val (.int p4), .val (.int p5), .val (.int v11_1), .val w4, .val (.int 0), .val (.int u43_6), .val (.int v59_7), .val (.ref b10), .val (.ref b21), .val (.ref b22), .val vt, .val .null, .unset, .unset, .unset, .unset] [(.int v59_7)]))) (fun t k => XS.aconstNull Xt.here hx rfl (bd at_214) (XS.astore Xt.here hx rfl (bd at_215) rfl rfl (l' := #[.val (.int p0), .val (.int p1), .val (.int p2), .val (.int p3), .val (.int p4), .val (.int p5), .val (.int v11_1), .val w4, .val (.int 0), .val (.int u43_6), .val (.int v59_7), .val (.ref b10), .val (.ref b21), .val (.ref b22), .val vt, .val .null, .unset, .unset, .unset, .unset]) rfl (XS.iload Xt.here hx rfl (bd at_217) rfl k))) ?_
      by_cases c219_45 : v59_7 = (0 : Int32)
      · refine OD.go (B := (Tt.setTop (mkF m 260 #[.val (.int p0), .val (.int p1), .val (.int p2), .val (.int p3), .val (.int p4), .val (.int p5), .val (.int v11_1), .val w4, .val (.int 0), .val (.int u43_6), .val (.int v59_7), .val (.ref b10), .val (.ref b21), .val (.ref b22), .val vt, .val .null, .unset, .unset, .unset, .unset] []))) (fun t k => XS.ifYes Xt.here hx rfl (pc0 := 219) (pc' := 260) rfl (bd at_219) rfl (by rw [if0]; exact (teq c219_45).1) (by decide) (by decide) k) ?_
        obtain ⟨T46, h46, X46, e46, E46, A46, D46, -, st46⟩ := newO Xt hx hZ hown (Wd75 hw) (Wd76 hw) (Wd77 hw) et (g := (mkF m 260 #[.val (.int p0), .val (.int p1), .val (.int p2), .val (.int p3), .val (.int p4), .val (.int p5), .val (.int v11_1), .val w4, .val (.int 0), .val (.int u43_6), .val (.int v59_7), .val (.ref b10), .val (.ref b21), .val (.ref b22), .val vt, .val .null, .unset, .unset, .unset, .unset] [])) rfl (bd at_260) (nl rfl) (nl rfl)
        obtain ⟨b46, g46⟩ : ∃ z, z = ht.size := ⟨_, rfl⟩
        rw [← g46] at A46 D46 st46
        have Fn47 : Fld Z h46 b46 cS "connected" "Z" (.int 0) := D46 (Or.inr (Wd120 hw)) (ty := .boolean) (by decide)
        have Fn48 : Fld Z h46 b46 cS "severity" dV .null := D46 (Or.inr (Wd122 hw)) (ty := (.object cV)) (by decide)
        have Fn49 : Fld Z h46 b46 cS "precision" "I" (.int 0) := D46 (Or.inr (Wd124 hw)) (ty := .int) (by decide)
        have Fn50 : Fld Z h46 b46 cS "labels" "Ljava/util/List;" .null := D46 (Or.inr (Wd126 hw)) (ty := (.object "java/util/List")) (by decide)
        have Fn51 : Fld Z h46 b46 cS "value" oO .null := D46 (Or.inr (Wd128 hw)) (ty := (.object cO)) (by decide)
        have Fn52 : Fld Z h46 b46 cS "limits" dD .null := D46 (Or.inr (Wd130 hw)) (ty := (.object cD)) (by decide)
        refine OD.go st46 ?_
        refine OD.go (B := (T46.setTop (mkF m 273 #[.val (.int p0), .val (.int p1), .val (.int p2), .val (.int p3), .val (.int p4), .val (.int p5), .val (.int v11_1), .val w4, .val (.int 0), .val (.int u43_6), .val (.int v59_7), .val (.ref b10), .val (.ref b21), .val (.ref b22), .val vt, .val .null, .unset, .unset, .unset, .unset] [vt, (.ref b22), (.int p1), w4, (.int v11_1), (.ref b46), (.ref b46)]))) (fun t k => XS.dup X46.here hx rfl (bd at_263) rfl rfl (XS.iload X46.here hx rfl (bd at_264) rfl (XS.aload X46.here hx rfl (bd at_266) rfl (r4) (XS.iloadN X46.here hx rfl (bd at_268) rfl (XS.aload X46.here hx rfl (bd at_269) rfl rfl (XS.aload X46.here hx rfl (bd at_271) rfl (rt) k)))))) ?_
        have f53 := (g29.ext E46)
        have f54 := (g30.ext E46)
        obtain ⟨_, _, ⟨T55, L55, k55, n55⟩, -, X55, ⟨Lc55, hQ55, l55, y55, z55⟩, st55⟩ := X46.specialBack hx (y := (⟨cS, "<init>", zZ14⟩ : MethodName)) rfl hown (mvT hZ (Wd78 hw)) (mvT hZ (Wd79 hw)) (mvT hZ (Wd80 hw)) (by decide) (backOf (W := 1) (rmC5_A0 l Z a0 hw [] b46 v11_1 w4 r4 p1 b22 vt rt  h46 h0.size (Nat.le_trans szt E46.1) (oldt.ext E46) A46 Fn47 Fn48 Fn49 Fn50 Fn51 Fn52 (Nat.le_trans szt (Nat.le_of_eq g46.symm)) (nar .boolean v11_1) rfl el ea kE Se Ee Fa Fel Ae f53 f54 (Ne.symm (Nat.ne_of_lt (Nat.lt_of_lt_of_le g29.lt (Nat.le_of_eq g46.symm)))) ) hZ (Wd80 hw) (Wd77 hw) (by decide) (by decide)) (g := (mkF m 273 #[.val (.int p0), .val (.int p1), .val (.int p2), .val (.int p3), .val (.int p4), .val (.int p5), .val (.int v11_1), .val w4, .val (.int 0), .val (.int u43_6), .val (.int v59_7), .val (.ref b10), .val (.ref b21), .val (.ref b22), .val vt, .val .null, .unset, .unset, .unset, .unset] [vt, (.ref b22), (.int p1), w4, (.int v11_1), (.ref b46), (.ref b46)])) rfl (by rw [hml]; rfl) (Steps.refl _) (a := b46) (argsL := [(.int v11_1), w4, (.int p1), (.ref b22), vt]) (rest := [(.ref b46)]) (lenOf pd28 rfl) rfl (by show 2 * 0 + _ ≤ _; exact Nat.le_of_eq rfl) (bd at_273) (fun _ _ => ⟨rfl, e46, (nl rfl), (nl rfl)⟩)
        dsimp only [Pt.U, Pt.locs, Pt.cells, Pt.slots] at X55 l55 y55 z55 st55 hQ55
        subst l55 y55 z55
        obtain ⟨rfl, Nq55, K55, C0_55, C1_55, C2_55, C3_55, C4_55, C5_55⟩ := hQ55
        have N55 := Fr.app Nt Nq55
        refine OD.via st55 ?_
        refine OD.go (B := (T55.setTop (mkF m 278 #[.val (.int p0), .val (.int p1), .val (.int p2), .val (.int p3), .val (.int p4), .val (.int p5), .val (.int v11_1), .val w4, .val (.int 0), .val (.int u43_6), .val (.int v59_7), .val (.ref b10), .val (.ref b21), .val (.ref b22), .val vt, .val .null, .val (.ref b46), .unset, .unset, .unset] []))) (fun t k => XS.astore X55.here hx rfl (bd at_276) rfl rfl (l' := #[.val (.int p0), .val (.int p1), .val (.int p2), .val (.int p3), .val (.int p4), .val (.int p5), .val (.int v11_1), .val w4, .val (.int 0), .val (.int u43_6), .val (.int v59_7), .val (.ref b10), .val (.ref b21), .val (.ref b22), .val vt, .val .null, .val (.ref b46), .unset, .unset, .unset]) rfl k) ?_
        exact tail2 _ _ _ b46 .null (X55.more (nl rfl) (nl rfl)) rfl N55 (((Keep.refl ht []).ext E46).trans K55 (allS (Or.inr (Nat.le_trans (Nat.le_refl _) (Nat.le_of_eq g46.symm))) all0)) rfl (A46.keep K55) C0_55 C1_55 C2_55 C3_55 C4_55 C5_55 (Or.inl rfl)
      · refine OD.go (B := (Tt.setTop (mkF m 222 #[.val (.int p0), .val (.int p1), .val (.int p2), .val (.int p3), .val (.int p4), .val (.int p5), .val (.int v11_1), .val w4, .val (.int 0), .val (.int u43_6), .val (.int v59_7), .val (.ref b10), .val (.ref b21), .val (.ref b22), .val vt, .val .null, .unset, .unset, .unset, .unset] []))) (fun t k => XS.ifNo Xt.here hx rfl (bd at_219) rfl (by rw [if0]; exact (feq c219_45).1) k) ?_
        obtain ⟨T56, h56, X56, e56, E56, A56, D56, -, st56⟩ := newO Xt hx hZ hown (Wd308 hw) (Wd309 hw) (Wd310 hw) et (g := (mkF m 222 #[.val (.int p0), .val (.int p1), .val (.int p2), .val (.int p3), .val (.int p4), .val (.int p5), .val (.int v11_1), .val w4, .val (.int 0), .val (.int u43_6), .val (.int v59_7), .val (.ref b10), .val (.ref b21), .val (.ref b22), .val vt, .val .null, .unset, .unset, .unset, .unset] [])) rfl (bd at_222) (nl rfl) (nl rfl)
        obtain ⟨b56, g56⟩ : ∃ z, z = ht.size := ⟨_, rfl⟩
        rw [← g56] at A56 D56 st56
        have Fn57 : Fld Z h56 b56 cD "lower" "D" (.double (0 : UInt64)) := D56 (Or.inr (Wd316 hw)) (ty := .double) (by decide)
        have Fn58 : Fld Z h56 b56 cD "upper" "D" (.double (0 : UInt64)) := D56 (Or.inr (Wd318 hw)) (ty := .double) (by decide)
        refine OD.go st56 ?_
        refine OD.go (B := (T56.setTop (mkF m 232 #[.val (.int p0), .val (.int p1), .val (.int p2), .val (.int p3), .val (.int p4), .val (.int p5), .val (.int v11_1), .val w4, .val (.int 0), .val (.int u43_6), .val (.int v59_7), .val (.ref b10), .val (.ref b21), .val (.ref b22), .val vt, .val .null, .unset, .unset, .unset, .unset] [(.double (FP.i2d p5)), (.double (FP.i2d p4)), (.ref b56), (.ref b56)]))) (fun t k => XS.dup X56.here hx rfl (bd at_225) rfl rfl (XS.iload X56.here hx rfl (bd at_226) rfl (XS.i2dS X56.here hx rfl (bd at_228) rfl (v := (FP.i2d p4)) rfl (XS.iload X56.here hx rfl (bd at_229) rfl (XS.i2dS X56.here hx rfl (bd at_231) rfl (v := (FP.i2d p5)) rfl k))))) ?_
        obtain ⟨_, _, ⟨T59, L59, k59, n59⟩, -, X59, ⟨Lc59, hQ59, l59, y59, z59⟩, st59⟩ := X56.specialBack hx (y := (⟨cD, "<init>", "(DD)V"⟩ : MethodName)) rfl hown (mvT hZ (Wd311 hw)) (mvT hZ (Wd312 hw)) (mvT hZ (Wd313 hw)) (by decide) (backOf (W := 1) (rmDL l Z a0 hw [] b56 (FP.i2d p4) (FP.i2d p5) h56 h0.size (Nat.le_trans szt E56.1) A56 Fn57 Fn58 (Nat.le_trans szt (Nat.le_of_eq g56.symm))) hZ (Wd313 hw) (Wd310 hw) (by decide) (by decide)) (g := (mkF m 232 #[.val (.int p0), .val (.int p1), .val (.int p2), .val (.int p3), .val (.int p4), .val (.int p5), .val (.int v11_1), .val w4, .val (.int 0), .val (.int u43_6), .val (.int v59_7), .val (.ref b10), .val (.ref b21), .val (.ref b22), .val vt, .val .null, .unset, .unset, .unset, .unset] [(.double (FP.i2d p5)), (.double (FP.i2d p4)), (.ref b56), (.ref b56)])) rfl (by rw [hml]; rfl) (Steps.refl _) (a := b56) (argsL := [(.double (FP.i2d p4)), (.double (FP.i2d p5))]) (rest := [(.ref b56)]) (lenOf pd29 rfl) rfl (by show 2 * 0 + _ ≤ _; exact Nat.le_of_eq rfl) (bd at_232) (fun _ _ => ⟨rfl, e56, (nl rfl), (nl rfl)⟩)
        dsimp only [Pt.U, Pt.locs, Pt.cells, Pt.slots] at X59 l59 y59 z59 st59 hQ59
        subst l59 y59 z59
        obtain ⟨rfl, Nq59, K59, G0_59, G1_59⟩ := hQ59
        have N59 := Fr.app Nt Nq59
        refine OD.via st59 ?_
        refine OD.go (B := (T59.setTop (mkF m 237 #[.val (.int p0), .val (.int p1), .val (.int p2), .val (.int p3), .val (.int p4), .val (.int p5), .val (.int v11_1), .val w4, .val (.int 0), .val (.int u43_6), .val (.int v59_7), .val (.ref b10), .val (.ref b21), .val (.ref b22), .val vt, .val (.ref b56), .unset, .unset, .unset, .unset] []))) (fun t k => XS.astore X59.here hx rfl (bd at_235) rfl rfl (l' := #[.val (.int p0), .val (.int p1), .val (.int p2), .val (.int p3), .val (.int p4), .val (.int p5), .val (.int v11_1), .val w4, .val (.int 0), .val (.int u43_6), .val (.int v59_7), .val (.ref b10), .val (.ref b21), .val (.ref b22), .val vt, .val (.ref b56), .unset, .unset, .unset, .unset]) rfl k) ?_
        obtain ⟨T60, h60, X60, e60, E60, A60, D60, -, st60⟩ := newO X59 hx hZ hown (Wd75 hw) (Wd76 hw) (Wd77 hw) rfl (g := (mkF m 237 #[.val (.int p0), .val (.int p1), .val (.int p2), .val (.int p3), .val (.int p4), .val (.int p5), .val (.int v11_1), .val w4, .val (.int 0), .val (.int u43_6), .val (.int v59_7), .val (.ref b10), .val (.ref b21), .val (.ref b22), .val vt, .val (.ref b56), .unset, .unset, .unset, .unset] [])) rfl (bd at_237) (nl rfl) (nl rfl)
        obtain ⟨b60, g60⟩ : ∃ z, z = T59.heap.size := ⟨_, rfl⟩
        rw [← g60] at A60 D60 st60
        have Fn61 : Fld Z h60 b60 cS "connected" "Z" (.int 0) := D60 (Or.inr (Wd120 hw)) (ty := .boolean) (by decide)
        have Fn62 : Fld Z h60 b60 cS "severity" dV .null := D60 (Or.inr (Wd122 hw)) (ty := (.object cV)) (by decide)
        have Fn63 : Fld Z h60 b60 cS "precision" "I" (.int 0) := D60 (Or.inr (Wd124 hw)) (ty := .int) (by decide)
        have Fn64 : Fld Z h60 b60 cS "labels" "Ljava/util/List;" .null := D60 (Or.inr (Wd126 hw)) (ty := (.object "java/util/List")) (by decide)
        have Fn65 : Fld Z h60 b60 cS "value" oO .null := D60 (Or.inr (Wd128 hw)) (ty := (.object cO)) (by decide)
        have Fn66 : Fld Z h60 b60 cS "limits" dD .null := D60 (Or.inr (Wd130 hw)) (ty := (.object cD)) (by decide)
        refine OD.go st60 ?_
        refine OD.go (B := (T60.setTop (mkF m 252 #[.val (.int p0), .val (.int p1), .val (.int p2), .val (.int p3), .val (.int p4), .val (.int p5), .val (.int v11_1), .val w4, .val (.int 0), .val (.int u43_6), .val (.int v59_7), .val (.ref b10), .val (.ref b21), .val (.ref b22), .val vt, .val (.ref b56), .unset, .unset, .unset, .unset] [(.ref b56), vt, (.ref b22), (.int p1), w4, (.int v11_1), (.ref b60), (.ref b60)]))) (fun t k => XS.dup X60.here hx rfl (bd at_240) rfl rfl (XS.iload X60.here hx rfl (bd at_241) rfl (XS.aload X60.here hx rfl (bd at_243) rfl (r4) (XS.iloadN X60.here hx rfl (bd at_245) rfl (XS.aload X60.here hx rfl (bd at_246) rfl rfl (XS.aload X60.here hx rfl (bd at_248) rfl (rt) (XS.aload X60.here hx rfl (bd at_250) rfl rfl k))))))) ?_
        have f67 := (((g29.ext E56).keep K59).ext E60)
        have f68 := (((g30.ext E56).keep K59 (ninS (Nat.ne_of_lt (Nat.lt_of_lt_of_le g29.lt (Nat.le_of_eq g56.symm))) nin0)).ext E60)
        obtain ⟨_, _, ⟨T69, L69, k69, n69⟩, -, X69, ⟨Lc69, hQ69, l69, y69, z69⟩, st69⟩ := X60.specialBack hx (y := (⟨cS, "<init>", zZ5⟩ : MethodName)) rfl hown (mvT hZ (Wd319 hw)) (mvT hZ (Wd82 hw)) (mvT hZ (Wd83 hw)) (by decide) (backOf (W := 1) (rmC6_A0 l Z a0 hw [] b60 v11_1 w4 r4 p1 b22 vt rt (.ref b56) rfl h60 h0.size (Nat.le_trans (Nat.le_trans (Nat.le_trans szt E56.1) K59.1) E60.1) (((oldt.ext E56).keep K59 (allS (Nat.le_trans szt (Nat.le_of_eq g56.symm)) all0)).ext E60) A60 Fn61 Fn62 Fn63 Fn64 Fn65 Fn66 (Nat.le_trans (Nat.le_trans (Nat.le_trans szt E56.1) K59.1) (Nat.le_of_eq g60.symm)) (nar .boolean v11_1) rfl el ea kE Se Ee Fa Fel Ae f67 f68 (Ne.symm (Nat.ne_of_lt (Nat.lt_of_lt_of_le (Nat.lt_of_lt_of_le (Nat.lt_of_lt_of_le g29.lt E56.1) K59.1) (Nat.le_of_eq g60.symm)))) ) hZ (Wd83 hw) (Wd77 hw) (by decide) (by decide)) (g := (mkF m 252 #[.val (.int p0), .val (.int p1), .val (.int p2), .val (.int p3), .val (.int p4), .val (.int p5), .val (.int v11_1), .val w4, .val (.int 0), .val (.int u43_6), .val (.int v59_7), .val (.ref b10), .val (.ref b21), .val (.ref b22), .val vt, .val (.ref b56), .unset, .unset, .unset, .unset] [(.ref b56), vt, (.ref b22), (.int p1), w4, (.int v11_1), (.ref b60), (.ref b60)])) rfl (by rw [hml]; rfl) (Steps.refl _) (a := b60) (argsL := [(.int v11_1), w4, (.int p1), (.ref b22), vt, (.ref b56)]) (rest := [(.ref b60)]) (lenOf pd18 rfl) rfl (by show 2 * 0 + _ ≤ _; exact Nat.le_of_eq rfl) (bd at_252) (fun _ _ => ⟨rfl, e60, (nl rfl), (nl rfl)⟩)
        dsimp only [Pt.U, Pt.locs, Pt.cells, Pt.slots] at X69 l69 y69 z69 st69 hQ69
        subst l69 y69 z69
        obtain ⟨rfl, Nq69, K69, C0_69, C1_69, C2_69, C3_69, C4_69, C5_69⟩ := hQ69
        have N69 := Fr.app N59 Nq69
        refine OD.via st69 ?_
        refine OD.go (B := (T69.setTop (mkF m 278 #[.val (.int p0), .val (.int p1), .val (.int p2), .val (.int p3), .val (.int p4), .val (.int p5), .val (.int v11_1), .val w4, .val (.int 0), .val (.int u43_6), .val (.int v59_7), .val (.ref b10), .val (.ref b21), .val (.ref b22), .val vt, .val (.ref b56), .val (.ref b60), .unset, .unset, .unset] []))) (fun t k => XS.astore X69.here hx rfl (bd at_255) rfl rfl (l' := #[.val (.int p0), .val (.int p1), .val (.int p2), .val (.int p3), .val (.int p4), .val (.int p5), .val (.int v11_1), .val w4, .val (.int 0), .val (.int u43_6), .val (.int v59_7), .val (.ref b10), .val (.ref b21), .val (.ref b22), .val vt, .val (.ref b56), .val (.ref b60), .unset, .unset, .unset]) rfl (XS.goto X69.here hx rfl (pc0 := 257) (pc' := 278) rfl (bd at_257) (by decide) (by decide) k)) ?_
        exact tail2 _ _ _ b60 (.ref b56) (X69.more (nl rfl) (nl rfl)) rfl N69 (((((Keep.refl ht []).ext E56).trans K59 (allS (Or.inr (Nat.le_trans (Nat.le_refl _) (Nat.le_of_eq g56.symm))) all0)).ext E60).trans K69 (allS (Or.inr (Nat.le_trans (Nat.le_trans (Nat.le_trans (Nat.le_refl _) E56.1) K59.1) (Nat.le_of_eq g60.symm))) all0)) rfl (A60.keep K69) C0_69 C1_69 C2_69 C3_69 C4_69 C5_69 (Or.inr ⟨_, rfl, (((A56.keep K59).ext E60).keep K69), ((G0_59.ext E60).keep K69 (ninS (Nat.ne_of_lt (Nat.lt_of_lt_of_le (Nat.lt_of_lt_of_le A56.lt K59.1) (Nat.le_of_eq g60.symm))) nin0)), ((G1_59.ext E60).keep K69 (ninS (Nat.ne_of_lt (Nat.lt_of_lt_of_le (Nat.lt_of_lt_of_le A56.lt K59.1) (Nat.le_of_eq g60.symm))) nin0))⟩)
    refine OD.go (B := (T26.setTop (mkF m 151 #[.val (.int p0), .val (.int p1), .val (.int p2), .val (.int p3), .val (.int p4), .val (.int p5), .val (.int v11_1), .val w4, .val (.int 0), .val (.int u43_6), .val (.int v59_7), .val (.ref b10), .val (.ref b21), .val (.ref b22), .val .null, .unset, .unset, .unset, .unset, .unset] [(.int 1), (.int u43_6)]))) (fun t k => XS.iload X26.here hx rfl (bd at_148) rfl (XS.iconst X26.here hx rfl (bd at_150) k)) ?_
    by_cases c151_70 : u43_6 = (1 : Int32)
    · refine OD.go (B := (T26.setTop (mkF m 155 #[.val (.int p0), .val (.int p1), .val (.int p2), .val (.int p3), .val (.int p4), .val (.int p5), .val (.int v11_1), .val w4, .val (.int 0), .val (.int u43_6), .val (.int v59_7), .val (.ref b10), .val (.ref b21), .val (.ref b22), .val .null, .unset, .unset, .unset, .unset, .unset] [(.int p2)]))) (fun t k => XS.icmpNo X26.here hx rfl (bd at_151) rfl (teq c151_70).2 (XS.iloadN X26.here hx rfl (bd at_154) rfl k)) ?_
      obtain ⟨_, _, ⟨T71, L71, k71, n71⟩, -, X71, ⟨Lc71, hQ71, l71, y71, z71⟩, st71⟩ := Jvm.LawKit.callS X26 hx (y := (⟨"java/lang/Integer", "valueOf", "(I)Ljava/lang/Integer;"⟩ : MethodName)) hown (mvT hZ (Wd219 hw)) (mvT hZ (Wd220 hw)) (mvT hZ (Wd221 hw)) (mvT hZ (Wd222 hw)) (by decide) (backOf (W := 0) (rmIV l Z a0 hw [] p2 T26.heap h0.size (Nat.le_trans (Nat.le_trans (Nat.le_trans (Nat.le_trans (Nat.le_trans (Nat.le_trans (Nat.le_trans (Nat.le_trans (Nat.le_refl _) E10.1) E13.1) (Keep.of_wr W14).1) (Keep.of_wr W15).1) K20.1) K21.1) E22.1) K26.1) ((((((((X00.ext E10).ext E13).wr W14 (Nat.le_trans (Nat.le_trans (Nat.le_refl _) E10.1) (Nat.le_of_eq g13.symm))).wr W15 (Nat.le_trans (Nat.le_trans (Nat.le_refl _) E10.1) (Nat.le_of_eq g13.symm))).keep K20 (allS (Nat.le_trans (Nat.le_refl _) (Nat.le_of_eq g10.symm)) all0)).keep K21 all0).ext E22).keep K26 (allS (Nat.le_trans (Nat.le_trans (Nat.le_trans (Nat.le_trans (Nat.le_trans (Nat.le_trans (Nat.le_trans (Nat.le_refl _) E10.1) E13.1) (Keep.of_wr W14).1) (Keep.of_wr W15).1) K20.1) K21.1) (Nat.le_of_eq g22.symm)) all0)) ca Sh Sc Cc) hZ (Wd222 hw) (Wd221 hw) (by decide) (by decide)) (g := (mkF m 155 #[.val (.int p0), .val (.int p1), .val (.int p2), .val (.int p3), .val (.int p4), .val (.int p5), .val (.int v11_1), .val w4, .val (.int 0), .val (.int u43_6), .val (.int v59_7), .val (.ref b10), .val (.ref b21), .val (.ref b22), .val .null, .unset, .unset, .unset, .unset, .unset] [(.int p2)])) rfl (by rw [hml]; rfl) (argsL := [(.int p2)]) (rest := []) (lenOf pd30 rfl) rfl (by show 2 * 0 + _ ≤ _; exact Nat.le_of_eq rfl) (bd at_155) (fun _ _ => ⟨rfl, rfl, (nl rfl), (nl rfl)⟩)
      dsimp only [Pt.U, Pt.locs, Pt.cells, Pt.slots] at X71 l71 y71 z71 st71 hQ71
      subst l71 y71 z71
      obtain ⟨w71, rfl, r71, Nq71, K71⟩ := hQ71
      have N71 := Fr.app N26 Nq71
      refine OD.go st71 ?_
      refine OD.go (B := (T71.setTop (mkF m 214 #[.val (.int p0), .val (.int p1), .val (.int p2), .val (.int p3), .val (.int p4), .val (.int p5), .val (.int v11_1), .val w4, .val (.int 0), .val (.int u43_6), .val (.int v59_7), .val (.ref b10), .val (.ref b21), .val (.ref b22), .val w71, .unset, .unset, .unset, .unset, .unset] []))) (fun t k => XS.astore X71.here hx rfl (bd at_158) rfl (r71) (l' := #[.val (.int p0), .val (.int p1), .val (.int p2), .val (.int p3), .val (.int p4), .val (.int p5), .val (.int v11_1), .val w4, .val (.int 0), .val (.int u43_6), .val (.int v59_7), .val (.ref b10), .val (.ref b21), .val (.ref b22), .val w71, .unset, .unset, .unset, .unset, .unset]) (by rcases ref_cases r71 with rfl | ⟨_, rfl⟩ <;> rfl) (XS.goto X71.here hx rfl (pc0 := 160) (pc' := 214) rfl (bd at_160) (by decide) (by decide) k)) ?_
      exact tail _ _ _ w71 (X71.more (nl rfl) (nl rfl)) rfl N71 ((Keep.refl T26.heap []).trans K71 all0) r71
    · refine OD.go (B := (T26.setTop (mkF m 166 #[.val (.int p0), .val (.int p1), .val (.int p2), .val (.int p3), .val (.int p4), .val (.int p5), .val (.int v11_1), .val w4, .val (.int 0), .val (.int u43_6), .val (.int v59_7), .val (.ref b10), .val (.ref b21), .val (.ref b22), .val .null, .unset, .unset, .unset, .unset, .unset] [(.int 2), (.int u43_6)]))) (fun t k => XS.icmpYes X26.here hx rfl (pc0 := 151) (pc' := 163) rfl (bd at_151) rfl (feq c151_70).2 (by decide) (by decide) (XS.iload X26.here hx rfl (bd at_163) rfl (XS.iconst X26.here hx rfl (bd at_165) k))) ?_
      by_cases c166_72 : u43_6 = (2 : Int32)
      · refine OD.go (B := (T26.setTop (mkF m 169 #[.val (.int p0), .val (.int p1), .val (.int p2), .val (.int p3), .val (.int p4), .val (.int p5), .val (.int v11_1), .val w4, .val (.int 0), .val (.int u43_6), .val (.int v59_7), .val (.ref b10), .val (.ref b21), .val (.ref b22), .val .null, .unset, .unset, .unset, .unset, .unset] []))) (fun t k => XS.icmpNo X26.here hx rfl (bd at_166) rfl (teq c166_72).2 k) ?_
        obtain ⟨T73, h73, X73, e73, E73, A73, D73, -, st73⟩ := newO X26 hx hZ hown (Wd7 hw) (Wd8 hw) (Wd9 hw) rfl (g := (mkF m 169 #[.val (.int p0), .val (.int p1), .val (.int p2), .val (.int p3), .val (.int p4), .val (.int p5), .val (.int v11_1), .val w4, .val (.int 0), .val (.int u43_6), .val (.int v59_7), .val (.ref b10), .val (.ref b21), .val (.ref b22), .val .null, .unset, .unset, .unset, .unset, .unset] [])) rfl (bd at_169) (nl rfl) (nl rfl)
        obtain ⟨b73, g73⟩ : ∃ z, z = T26.heap.size := ⟨_, rfl⟩
        rw [← g73] at A73 D73 st73
        have Fn74 : Fld Z h73 b73 "java/lang/String" "coder" "B" (.int 0) := D73 (Or.inr (Wd34 hw)) (ty := .byte) (by decide)
        have Fn75 : Fld Z h73 b73 "java/lang/String" "value" "[B" .null := D73 (Or.inr (Wd36 hw)) (ty := (.array .byte)) (by decide)
        refine OD.go st73 ?_
        refine OD.go (B := (T73.setTop (mkF m 174 #[.val (.int p0), .val (.int p1), .val (.int p2), .val (.int p3), .val (.int p4), .val (.int p5), .val (.int v11_1), .val w4, .val (.int 0), .val (.int u43_6), .val (.int v59_7), .val (.ref b10), .val (.ref b21), .val (.ref b22), .val .null, .unset, .unset, .unset, .unset, .unset] [(.int 3), (.ref b73), (.ref b73)]))) (fun t k => XS.dup X73.here hx rfl (bd at_172) rfl rfl (XS.iconst X73.here hx rfl (bd at_173) k)) ?_
        obtain ⟨T76, h76, k76, X76, e76, E76, A76, st76⟩ := newP X73 hx hZ (aty := .char) (Wd10 hw) e73 (g := (mkF m 174 #[.val (.int p0), .val (.int p1), .val (.int p2), .val (.int p3), .val (.int p4), .val (.int p5), .val (.int v11_1), .val w4, .val (.int 0), .val (.int u43_6), .val (.int v59_7), .val (.ref b10), .val (.ref b21), .val (.ref b22), .val .null, .unset, .unset, .unset, .unset, .unset] [(.int 3), (.ref b73), (.ref b73)])) rfl (bd at_174) rfl (by decide) (cap := 3) (by decide) (by decide) (nl rfl) (nl rfl)
        obtain ⟨b76, g76⟩ : ∃ z, z = h73.size := ⟨_, rfl⟩
        rw [← g76] at A76 st76
        have V76 : Arv Z h76 b76 k76 .char (3 : Int32) [(.int 0), (.int 0), (.int 0)] (.int 0) := (Arv.new A76 (by decide)).pad (pad_rep [] (.int 0) 3)
        refine OD.go st76 ?_
        refine OD.go (B := (T76.setTop (mkF m 184 #[.val (.int p0), .val (.int p1), .val (.int p2), .val (.int p3), .val (.int p4), .val (.int p5), .val (.int v11_1), .val w4, .val (.int 0), .val (.int u43_6), .val (.int v59_7), .val (.ref b10), .val (.ref b21), .val (.ref b22), .val .null, .unset, .unset, .unset, .unset, .unset] [(.int (p2 &&& (255 : Int32)).toUInt32.toUInt16.toUInt32.toInt32), (.int 0), (.ref b76), (.ref b76), (.ref b73), (.ref b73)]))) (fun t k => XS.dup X76.here hx rfl (bd at_176) rfl rfl (XS.iconst X76.here hx rfl (bd at_177) (XS.iloadN X76.here hx rfl (bd at_178) rfl (XS.sipush X76.here hx rfl (bd at_179) (XS.iand X76.here hx rfl (bd at_182) rfl (XS.i2c X76.here hx rfl (bd at_183) rfl k)))))) ?_
        obtain ⟨cl77, Ar77, q77, S77, M77, H77, G77⟩ := id V76
        obtain ⟨T77, h77, X77, e77, W77, st77⟩ := stC X76 hx hZ e76 Ar77 (j := (0 : Int32)) (inb_of S77 ⟨by decide, by decide⟩) (g := (mkF m 184 #[.val (.int p0), .val (.int p1), .val (.int p2), .val (.int p3), .val (.int p4), .val (.int p5), .val (.int v11_1), .val w4, .val (.int 0), .val (.int u43_6), .val (.int v59_7), .val (.ref b10), .val (.ref b21), .val (.ref b22), .val .null, .unset, .unset, .unset, .unset, .unset] [(.int (p2 &&& (255 : Int32)).toUInt32.toUInt16.toUInt32.toInt32), (.int 0), (.ref b76), (.ref b76), (.ref b73), (.ref b73)])) rfl rfl (bd at_184)
        rw [(own_nar (own_c255 _))] at W77
        have V77 : Arv Z h77 b76 k76 .char (3 : Int32) [(.int (p2 &&& (255 : Int32)).toUInt32.toUInt16.toUInt32.toInt32), (.int 0), (.int 0)] (.int 0) := Arv.set Ar77 q77 S77 M77 H77 G77 ((own_nar (own_c255 _)) ▸ fits_nar_char _) W77 0 rfl (nl rfl)
        have N77 := Fr.snoc X77 N26 (Nat.le_trans (Nat.le_trans (Nat.le_trans (Nat.le_trans (Nat.le_trans (Nat.le_trans (Nat.le_trans (Nat.le_trans (Nat.le_trans (Nat.le_trans (Nat.le_refl _) E10.1) E13.1) (Keep.of_wr W14).1) (Keep.of_wr W15).1) K20.1) K21.1) E22.1) K26.1) E73.1) (Nat.le_of_eq g76.symm))
        refine OD.go st77 ?_
        refine OD.go (B := (T77.setTop (mkF m 196 #[.val (.int p0), .val (.int p1), .val (.int p2), .val (.int p3), .val (.int p4), .val (.int p5), .val (.int v11_1), .val w4, .val (.int 0), .val (.int u43_6), .val (.int v59_7), .val (.ref b10), .val (.ref b21), .val (.ref b22), .val .null, .unset, .unset, .unset, .unset, .unset] [(.int (((p2.toUInt32 >>> ((8 : Int32) &&& 31).toUInt32).toInt32) &&& (255 : Int32)).toUInt32.toUInt16.toUInt32.toInt32), (.int 1), (.ref b76), (.ref b76), (.ref b73), (.ref b73)]))) (fun t k => XS.dup X77.here hx rfl (bd at_185) rfl rfl (XS.iconst X77.here hx rfl (bd at_186) (XS.iloadN X77.here hx rfl (bd at_187) rfl (XS.bipush X77.here hx rfl (bd at_188) (XS.iushr X77.here hx rfl (bd at_190) rfl (XS.sipush X77.here hx rfl (bd at_191) (XS.iand X77.here hx rfl (bd at_194) rfl (XS.i2c X77.here hx rfl (bd at_195) rfl k)))))))) ?_
        obtain ⟨cl78, Ar78, q78, S78, M78, H78, G78⟩ := id V77
        obtain ⟨T78, h78, X78, e78, W78, st78⟩ := stC X77 hx hZ e77 Ar78 (j := (1 : Int32)) (inb_of S78 ⟨by decide, by decide⟩) (g := (mkF m 196 #[.val (.int p0), .val (.int p1), .val (.int p2), .val (.int p3), .val (.int p4), .val (.int p5), .val (.int v11_1), .val w4, .val (.int 0), .val (.int u43_6), .val (.int v59_7), .val (.ref b10), .val (.ref b21), .val (.ref b22), .val .null, .unset, .unset, .unset, .unset, .unset] [(.int (((p2.toUInt32 >>> ((8 : Int32) &&& 31).toUInt32).toInt32) &&& (255 : Int32)).toUInt32.toUInt16.toUInt32.toInt32), (.int 1), (.ref b76), (.ref b76), (.ref b73), (.ref b73)])) rfl rfl (bd at_196)
        rw [(own_nar (own_c255 _))] at W78
        have V78 : Arv Z h78 b76 k76 .char (3 : Int32) [(.int (p2 &&& (255 : Int32)).toUInt32.toUInt16.toUInt32.toInt32), (.int (((p2.toUInt32 >>> ((8 : Int32) &&& 31).toUInt32).toInt32) &&& (255 : Int32)).toUInt32.toUInt16.toUInt32.toInt32), (.int 0)] (.int 0) := Arv.set Ar78 q78 S78 M78 H78 G78 ((own_nar (own_c255 _)) ▸ fits_nar_char _) W78 1 rfl (nl rfl)
        have N78 := Fr.snoc X78 N77 (Nat.le_trans (Nat.le_trans (Nat.le_trans (Nat.le_trans (Nat.le_trans (Nat.le_trans (Nat.le_trans (Nat.le_trans (Nat.le_trans (Nat.le_trans (Nat.le_refl _) E10.1) E13.1) (Keep.of_wr W14).1) (Keep.of_wr W15).1) K20.1) K21.1) E22.1) K26.1) E73.1) (Nat.le_of_eq g76.symm))
        refine OD.go st78 ?_
        refine OD.go (B := (T78.setTop (mkF m 208 #[.val (.int p0), .val (.int p1), .val (.int p2), .val (.int p3), .val (.int p4), .val (.int p5), .val (.int v11_1), .val w4, .val (.int 0), .val (.int u43_6), .val (.int v59_7), .val (.ref b10), .val (.ref b21), .val (.ref b22), .val .null, .unset, .unset, .unset, .unset, .unset] [(.int (((p3.toUInt32 >>> ((24 : Int32) &&& 31).toUInt32).toInt32) &&& (255 : Int32)).toUInt32.toUInt16.toUInt32.toInt32), (.int 2), (.ref b76), (.ref b76), (.ref b73), (.ref b73)]))) (fun t k => XS.dup X78.here hx rfl (bd at_197) rfl rfl (XS.iconst X78.here hx rfl (bd at_198) (XS.iloadN X78.here hx rfl (bd at_199) rfl (XS.bipush X78.here hx rfl (bd at_200) (XS.iushr X78.here hx rfl (bd at_202) rfl (XS.sipush X78.here hx rfl (bd at_203) (XS.iand X78.here hx rfl (bd at_206) rfl (XS.i2c X78.here hx rfl (bd at_207) rfl k)))))))) ?_
        obtain ⟨cl79, Ar79, q79, S79, M79, H79, G79⟩ := id V78
        obtain ⟨T79, h79, X79, e79, W79, st79⟩ := stC X78 hx hZ e78 Ar79 (j := (2 : Int32)) (inb_of S79 ⟨by decide, by decide⟩) (g := (mkF m 208 #[.val (.int p0), .val (.int p1), .val (.int p2), .val (.int p3), .val (.int p4), .val (.int p5), .val (.int v11_1), .val w4, .val (.int 0), .val (.int u43_6), .val (.int v59_7), .val (.ref b10), .val (.ref b21), .val (.ref b22), .val .null, .unset, .unset, .unset, .unset, .unset] [(.int (((p3.toUInt32 >>> ((24 : Int32) &&& 31).toUInt32).toInt32) &&& (255 : Int32)).toUInt32.toUInt16.toUInt32.toInt32), (.int 2), (.ref b76), (.ref b76), (.ref b73), (.ref b73)])) rfl rfl (bd at_208)
        rw [(own_nar (own_c255 _))] at W79
        have V79 : Arv Z h79 b76 k76 .char (3 : Int32) [(.int (p2 &&& (255 : Int32)).toUInt32.toUInt16.toUInt32.toInt32), (.int (((p2.toUInt32 >>> ((8 : Int32) &&& 31).toUInt32).toInt32) &&& (255 : Int32)).toUInt32.toUInt16.toUInt32.toInt32), (.int (((p3.toUInt32 >>> ((24 : Int32) &&& 31).toUInt32).toInt32) &&& (255 : Int32)).toUInt32.toUInt16.toUInt32.toInt32)] (.int 0) := Arv.set Ar79 q79 S79 M79 H79 G79 ((own_nar (own_c255 _)) ▸ fits_nar_char _) W79 2 rfl (nl rfl)
        have N79 := Fr.snoc X79 N78 (Nat.le_trans (Nat.le_trans (Nat.le_trans (Nat.le_trans (Nat.le_trans (Nat.le_trans (Nat.le_trans (Nat.le_trans (Nat.le_trans (Nat.le_trans (Nat.le_refl _) E10.1) E13.1) (Keep.of_wr W14).1) (Keep.of_wr W15).1) K20.1) K21.1) E22.1) K26.1) E73.1) (Nat.le_of_eq g76.symm))
        refine OD.go (B := (T79.setTop (mkF m 209 #[.val (.int p0), .val (.int p1), .val (.int p2), .val (.int p3), .val (.int p4), .val (.int p5), .val (.int v11_1), .val w4, .val (.int 0), .val (.int u43_6), .val (.int v59_7), .val (.ref b10), .val (.ref b21), .val (.ref b22), .val .null, .unset, .unset, .unset, .unset, .unset] [(.ref b76), (.ref b73), (.ref b73)]))) st79 ?_
        have K80 : Arv Z h79 b76 k76 .char (3 : Int32) (([(p2 &&& (255 : Int32)).toUInt32.toUInt16.toUInt32.toInt32, (((p2.toUInt32 >>> ((8 : Int32) &&& 31).toUInt32).toInt32) &&& (255 : Int32)).toUInt32.toUInt16.toUInt32.toInt32, (((p3.toUInt32 >>> ((24 : Int32) &&& 31).toUInt32).toInt32) &&& (255 : Int32)).toUInt32.toUInt16.toUInt32.toInt32] : List Int32).map Value.int) (.int 0) := V79
        have f81 := ((((A73.ext E76).wr W77).wr W78).wr W79)
        have f82 := ((((Fn75.ext E76).other W77 (Or.inl (Nat.ne_of_lt (Nat.lt_of_lt_of_le A73.lt (Nat.le_of_eq g76.symm))))).other W78 (Or.inl (Nat.ne_of_lt (Nat.lt_of_lt_of_le A73.lt (Nat.le_of_eq g76.symm))))).other W79 (Or.inl (Nat.ne_of_lt (Nat.lt_of_lt_of_le A73.lt (Nat.le_of_eq g76.symm)))))
        have f83 := ((((Fn74.ext E76).other W77 (Or.inl (Nat.ne_of_lt (Nat.lt_of_lt_of_le A73.lt (Nat.le_of_eq g76.symm))))).other W78 (Or.inl (Nat.ne_of_lt (Nat.lt_of_lt_of_le A73.lt (Nat.le_of_eq g76.symm))))).other W79 (Or.inl (Nat.ne_of_lt (Nat.lt_of_lt_of_le A73.lt (Nat.le_of_eq g76.symm)))))
        obtain ⟨_, _, ⟨T84, L84, k84, n84⟩, -, X84, ⟨Lc84, hQ84, l84, y84, z84⟩, st84⟩ := X79.specialBack hx (y := (⟨"java/lang/String", "<init>", "([C)V"⟩ : MethodName)) rfl hown (mvT hZ (Wd11 hw)) (mvT hZ (Wd12 hw)) (mvT hZ (Wd13 hw)) (by decide) (StrChars.Road.backV (W := 1) hZ hws (kI := 4) (Wd8 hw) (cs := ([(p2 &&& (255 : Int32)).toUInt32.toUInt16.toUInt32.toInt32, (((p2.toUInt32 >>> ((8 : Int32) &&& 31).toUInt32).toInt32) &&& (255 : Int32)).toUInt32.toUInt16.toUInt32.toInt32, (((p3.toUInt32 >>> ((24 : Int32) &&& 31).toUInt32).toInt32) &&& (255 : Int32)).toUInt32.toUInt16.toUInt32.toInt32] : List Int32)) (bs := ([(p2 &&& (255 : Int32)).toUInt32.toUInt16.toUInt32.toInt32, (((p2.toUInt32 >>> ((8 : Int32) &&& 31).toUInt32).toInt32) &&& (255 : Int32)).toUInt32.toUInt16.toUInt32.toInt32, (((p3.toUInt32 >>> ((24 : Int32) &&& 31).toUInt32).toInt32) &&& (255 : Int32)).toUInt32.toUInt16.toUInt32.toInt32] : List Int32).map (fun c => c.toInt8.toInt32)) (n := 3) (n0 := h0.size) (Nat.le_trans (Nat.le_trans (Nat.le_trans (Nat.le_trans (Nat.le_trans (Nat.le_trans (Nat.le_trans (Nat.le_trans (Nat.le_trans (Nat.le_refl _) E10.1) E13.1) (Keep.of_wr W14).1) (Keep.of_wr W15).1) K20.1) K21.1) E22.1) K26.1) (Nat.le_of_eq g73.symm)) (Nat.le_trans (Nat.le_trans (Nat.le_trans (Nat.le_trans (Nat.le_trans (Nat.le_trans (Nat.le_trans (Nat.le_trans (Nat.le_trans (Nat.le_trans (Nat.le_trans (Nat.le_trans (Nat.le_trans (Nat.le_refl _) E10.1) E13.1) (Keep.of_wr W14).1) (Keep.of_wr W15).1) K20.1) K21.1) E22.1) K26.1) E73.1) E76.1) (Keep.of_wr W77).1) (Keep.of_wr W78).1) (Keep.of_wr W79).1) f81 f82 f83 K80 (O2.ext (((((((((((((X00.ext E10).ext E13).wr W14 (Nat.le_trans (Nat.le_trans (Nat.le_refl _) E10.1) (Nat.le_of_eq g13.symm))).wr W15 (Nat.le_trans (Nat.le_trans (Nat.le_refl _) E10.1) (Nat.le_of_eq g13.symm))).keep K20 (allS (Nat.le_trans (Nat.le_refl _) (Nat.le_of_eq g10.symm)) all0)).keep K21 all0).ext E22).keep K26 (allS (Nat.le_trans (Nat.le_trans (Nat.le_trans (Nat.le_trans (Nat.le_trans (Nat.le_trans (Nat.le_trans (Nat.le_refl _) E10.1) E13.1) (Keep.of_wr W14).1) (Keep.of_wr W15).1) K20.1) K21.1) (Nat.le_of_eq g22.symm)) all0)).ext E73).ext E76).wr W77 (Nat.le_trans (Nat.le_trans (Nat.le_trans (Nat.le_trans (Nat.le_trans (Nat.le_trans (Nat.le_trans (Nat.le_trans (Nat.le_trans (Nat.le_trans (Nat.le_refl _) E10.1) E13.1) (Keep.of_wr W14).1) (Keep.of_wr W15).1) K20.1) K21.1) E22.1) K26.1) E73.1) (Nat.le_of_eq g76.symm))).wr W78 (Nat.le_trans (Nat.le_trans (Nat.le_trans (Nat.le_trans (Nat.le_trans (Nat.le_trans (Nat.le_trans (Nat.le_trans (Nat.le_trans (Nat.le_trans (Nat.le_refl _) E10.1) E13.1) (Keep.of_wr W14).1) (Keep.of_wr W15).1) K20.1) K21.1) E22.1) K26.1) E73.1) (Nat.le_of_eq g76.symm))).wr W79 (Nat.le_trans (Nat.le_trans (Nat.le_trans (Nat.le_trans (Nat.le_trans (Nat.le_trans (Nat.le_trans (Nat.le_trans (Nat.le_trans (Nat.le_trans (Nat.le_refl _) E10.1) E13.1) (Keep.of_wr W14).1) (Keep.of_wr W15).1) K20.1) K21.1) E22.1) K26.1) E73.1) (Nat.le_of_eq g76.symm))).2) P5 rfl rfl (by decide) (by decide) (own_all3 (own_c255 _) (own_c255 _) (own_c255 _)) rfl (by decide) (by decide)) (g := (mkF m 209 #[.val (.int p0), .val (.int p1), .val (.int p2), .val (.int p3), .val (.int p4), .val (.int p5), .val (.int v11_1), .val w4, .val (.int 0), .val (.int u43_6), .val (.int v59_7), .val (.ref b10), .val (.ref b21), .val (.ref b22), .val .null, .unset, .unset, .unset, .unset, .unset] [(.ref b76), (.ref b73), (.ref b73)])) rfl (by rw [hml]; rfl) (Steps.refl _) (a := b73) (argsL := [(.ref b76)]) (rest := [(.ref b73)]) (lenOf pd20 rfl) rfl (by show 2 * 0 + _ ≤ _; exact Nat.le_of_eq rfl) (bd at_209) (fun _ _ => ⟨rfl, e79, (nl rfl), (nl rfl)⟩)
        dsimp only [Pt.U, Pt.locs, Pt.cells, Pt.slots] at X84 l84 y84 z84 st84 hQ84
        subst l84 y84 z84
        obtain ⟨rfl, Nq84, K84, E84, C84, t84, kb84, gt84, ht84, nt84, V84, A84⟩ := hQ84
        have N84 := Fr.app N79 Nq84
        have nt84_b10 : b10 ≠ t84 := Nat.ne_of_lt (Nat.lt_of_lt_of_le (Nat.lt_of_lt_of_le (Nat.lt_of_lt_of_le (Nat.lt_of_lt_of_le (Nat.lt_of_lt_of_le (Nat.lt_of_lt_of_le (Nat.lt_of_lt_of_le (Nat.lt_of_lt_of_le (Nat.lt_of_lt_of_le (Nat.lt_of_lt_of_le (Nat.lt_of_lt_of_le (Nat.lt_of_lt_of_le (Nat.lt_of_lt_of_le A10.lt E13.1) (Keep.of_wr W14).1) (Keep.of_wr W15).1) K20.1) K21.1) E22.1) K26.1) E73.1) E76.1) (Keep.of_wr W77).1) (Keep.of_wr W78).1) (Keep.of_wr W79).1) ht84)
        have nt84_b13 : b13 ≠ t84 := Nat.ne_of_lt (Nat.lt_of_lt_of_le (Nat.lt_of_lt_of_le (Nat.lt_of_lt_of_le (Nat.lt_of_lt_of_le (Nat.lt_of_lt_of_le (Nat.lt_of_lt_of_le (Nat.lt_of_lt_of_le (Nat.lt_of_lt_of_le (Nat.lt_of_lt_of_le (Nat.lt_of_lt_of_le (Nat.lt_of_lt_of_le (Nat.lt_of_lt_of_le V13.lt (Keep.of_wr W14).1) (Keep.of_wr W15).1) K20.1) K21.1) E22.1) K26.1) E73.1) E76.1) (Keep.of_wr W77).1) (Keep.of_wr W78).1) (Keep.of_wr W79).1) ht84)
        have nt84_t20 : t20 ≠ t84 := Nat.ne_of_lt (Nat.lt_of_lt_of_le (Nat.lt_of_lt_of_le (Nat.lt_of_lt_of_le (Nat.lt_of_lt_of_le (Nat.lt_of_lt_of_le (Nat.lt_of_lt_of_le (Nat.lt_of_lt_of_le (Nat.lt_of_lt_of_le (Nat.lt_of_lt_of_le A20.lt K21.1) E22.1) K26.1) E73.1) E76.1) (Keep.of_wr W77).1) (Keep.of_wr W78).1) (Keep.of_wr W79).1) ht84)
        have nt84_b21 : b21 ≠ t84 := Nat.ne_of_lt (Nat.lt_of_lt_of_le (Nat.lt_of_lt_of_le (Nat.lt_of_lt_of_le (Nat.lt_of_lt_of_le (Nat.lt_of_lt_of_le (Nat.lt_of_lt_of_le (Nat.lt_of_lt_of_le (Nat.lt_of_lt_of_le E21.lt E22.1) K26.1) E73.1) E76.1) (Keep.of_wr W77).1) (Keep.of_wr W78).1) (Keep.of_wr W79).1) ht84)
        have nt84_t21 : t21 ≠ t84 := Nat.ne_of_lt (Nat.lt_of_lt_of_le (Nat.lt_of_lt_of_le (Nat.lt_of_lt_of_le (Nat.lt_of_lt_of_le (Nat.lt_of_lt_of_le (Nat.lt_of_lt_of_le (Nat.lt_of_lt_of_le (Nat.lt_of_lt_of_le A21.lt E22.1) K26.1) E73.1) E76.1) (Keep.of_wr W77).1) (Keep.of_wr W78).1) (Keep.of_wr W79).1) ht84)
        have nt84_b22 : b22 ≠ t84 := Nat.ne_of_lt (Nat.lt_of_lt_of_le (Nat.lt_of_lt_of_le (Nat.lt_of_lt_of_le (Nat.lt_of_lt_of_le (Nat.lt_of_lt_of_le (Nat.lt_of_lt_of_le (Nat.lt_of_lt_of_le A22.lt K26.1) E73.1) E76.1) (Keep.of_wr W77).1) (Keep.of_wr W78).1) (Keep.of_wr W79).1) ht84)
        have nt84_b76 : b76 ≠ t84 := Nat.ne_of_lt (Nat.lt_of_lt_of_le (Nat.lt_of_lt_of_le (Nat.lt_of_lt_of_le (Nat.lt_of_lt_of_le V76.lt (Keep.of_wr W77).1) (Keep.of_wr W78).1) (Keep.of_wr W79).1) ht84)
        refine OD.via st84 ?_
        refine OD.go (B := (T84.setTop (mkF m 214 #[.val (.int p0), .val (.int p1), .val (.int p2), .val (.int p3), .val (.int p4), .val (.int p5), .val (.int v11_1), .val w4, .val (.int 0), .val (.int u43_6), .val (.int v59_7), .val (.ref b10), .val (.ref b21), .val (.ref b22), .val (.ref b73), .unset, .unset, .unset, .unset, .unset] []))) (fun t k => XS.astore X84.here hx rfl (bd at_212) rfl rfl (l' := #[.val (.int p0), .val (.int p1), .val (.int p2), .val (.int p3), .val (.int p4), .val (.int p5), .val (.int v11_1), .val w4, .val (.int 0), .val (.int u43_6), .val (.int v59_7), .val (.ref b10), .val (.ref b21), .val (.ref b22), .val (.ref b73), .unset, .unset, .unset, .unset, .unset]) rfl k) ?_
        exact tail _ _ _ (.ref b73) (X84.more (nl rfl) (nl rfl)) rfl N84 (((((((Keep.refl T26.heap []).ext E73).ext E76).wr W77 (Or.inr (Nat.le_trans (Nat.le_trans (Nat.le_refl _) E73.1) (Nat.le_of_eq g76.symm)))).wr W78 (Or.inr (Nat.le_trans (Nat.le_trans (Nat.le_refl _) E73.1) (Nat.le_of_eq g76.symm)))).wr W79 (Or.inr (Nat.le_trans (Nat.le_trans (Nat.le_refl _) E73.1) (Nat.le_of_eq g76.symm)))).trans K84 (allS (Or.inr (Nat.le_trans (Nat.le_refl _) (Nat.le_of_eq g73.symm))) all0)) rfl
      · refine OD.go (B := (T26.setTop (mkF m 214 #[.val (.int p0), .val (.int p1), .val (.int p2), .val (.int p3), .val (.int p4), .val (.int p5), .val (.int v11_1), .val w4, .val (.int 0), .val (.int u43_6), .val (.int v59_7), .val (.ref b10), .val (.ref b21), .val (.ref b22), .val .null, .unset, .unset, .unset, .unset, .unset] []))) (fun t k => XS.icmpYes X26.here hx rfl (pc0 := 166) (pc' := 214) rfl (bd at_166) rfl (feq c166_72).2 (by decide) (by decide) k) ?_
        exact tail _ _ _ .null (X26.more (nl rfl) (nl rfl)) rfl N26 (Keep.refl T26.heap []) rfl
  · show OD _ _ _ _ _ _ _ (T26.setTop (mkF m 117 #[.val (.int p0), .val (.int p1), .val (.int p2), .val (.int p3), .val (.int p4), .val (.int p5), .val (.int v11_1), .val w4, .val (.int 1), .val (.int u43_6), .val (.int v59_7), .val (.ref b10), .val (.ref b21), .val (.ref b22), .unset, .unset, .unset, .unset, .unset, .unset] []))
    refine OD.go (B := (T26.setTop (mkF m 127 #[.val (.int p0), .val (.int p1), .val (.int p2), .val (.int p3), .val (.int p4), .val (.int p5), .val (.int v11_1), .val w4, .val (.int 1), .val (.int u43_6), .val (.int v59_7), .val (.ref b10), .val (.ref b21), .val (.ref b22), .unset, .unset, .unset, .unset, .unset, .unset] [(.ref b10), (.ref b22)]))) (fun t k => XS.iload X26.here hx rfl (bd at_117) rfl (XS.iconst X26.here hx rfl (bd at_119) (XS.icmpNo X26.here hx rfl (bd at_120) rfl (flt (by decide : ¬ (1 : Int32) < (1 : Int32))).1 (XS.aload X26.here hx rfl (bd at_123) rfl rfl (XS.aload X26.here hx rfl (bd at_125) rfl rfl k))))) ?_
    have f85 := (A22.keep K26)
    have f86 := (((E20.keep K21).ext E22).keep K26)
    obtain ⟨cq87, kq87, qa87, qb87, qc87⟩ := isOf hZ rfl f85
    obtain ⟨_, _, ⟨T87, L87, k87, n87⟩, -, X87, ⟨Lc87, hQ87, l87, y87, z87⟩, st87⟩ := X26.virtualBack hx (y := (⟨cA, "add", "(Ljava/lang/Object;)Z"⟩ : MethodName)) (z := (⟨cA, "add", "(Ljava/lang/Object;)Z"⟩ : MethodName)) hown (mvT hZ (Wd190 hw)) (mvT hZ (Wd191 hw)) (notFace_of_selects (args := #[]) (mvT hZ (Wd193 hw))) (mvT hZ (Wd193 hw)) (mvT hZ (Wd192 hw)) (by decide) (backOf (W := 0) (rmA1_0 l Z a0 hw [] b22 b10 T26.heap dc kd h0.size (Nat.le_trans (Nat.le_trans (Nat.le_trans (Nat.le_trans (Nat.le_trans (Nat.le_trans (Nat.le_trans (Nat.le_trans (Nat.le_refl _) E10.1) E13.1) (Keep.of_wr W14).1) (Keep.of_wr W15).1) K20.1) K21.1) E22.1) K26.1) f85 (Nat.le_trans (Nat.le_trans (Nat.le_trans (Nat.le_trans (Nat.le_trans (Nat.le_trans (Nat.le_trans (Nat.le_refl _) E10.1) E13.1) (Keep.of_wr W14).1) (Keep.of_wr W15).1) K20.1) K21.1) (Nat.le_of_eq g22.symm)) G1_26 G2_26 f86 G0_26 ((((((((X00.ext E10).ext E13).wr W14 (Nat.le_trans (Nat.le_trans (Nat.le_refl _) E10.1) (Nat.le_of_eq g13.symm))).wr W15 (Nat.le_trans (Nat.le_trans (Nat.le_refl _) E10.1) (Nat.le_of_eq g13.symm))).keep K20 (allS (Nat.le_trans (Nat.le_refl _) (Nat.le_of_eq g10.symm)) all0)).keep K21 all0).ext E22).keep K26 (allS (Nat.le_trans (Nat.le_trans (Nat.le_trans (Nat.le_trans (Nat.le_trans (Nat.le_trans (Nat.le_trans (Nat.le_refl _) E10.1) E13.1) (Keep.of_wr W14).1) (Keep.of_wr W15).1) K20.1) K21.1) (Nat.le_of_eq g22.symm)) all0)) Odc Adc) hZ (Wd194 hw) (Wd53 hw) (by decide) (by decide)) qa87 qc87 (g := (mkF m 127 #[.val (.int p0), .val (.int p1), .val (.int p2), .val (.int p3), .val (.int p4), .val (.int p5), .val (.int v11_1), .val w4, .val (.int 1), .val (.int u43_6), .val (.int v59_7), .val (.ref b10), .val (.ref b21), .val (.ref b22), .unset, .unset, .unset, .unset, .unset, .unset] [(.ref b10), (.ref b22)])) rfl (by rw [hml]; rfl) (Steps.refl _) (argsL := [(.ref b10)]) (rest := []) (lenOf pd31 rfl) rfl (by show 2 * 0 + _ ≤ _; exact Nat.le_of_eq rfl) (bd at_127) (fun _ _ => ⟨rfl, rfl, (nl rfl), (nl rfl)⟩)
    dsimp only [Pt.U, Pt.locs, Pt.cells, Pt.slots] at X87 l87 y87 z87 st87 hQ87
    subst l87 y87 z87
    obtain ⟨b87, k87', rfl, Nq87, K87, ob87, G87, S87, A87, O87, M87⟩ := hQ87
    have N87 := Fr.app N26 Nq87
    have gb87 : h0.size ≤ b87 := Nat.le_trans (Nat.le_trans (Nat.le_trans (Nat.le_trans (Nat.le_trans (Nat.le_trans (Nat.le_trans (Nat.le_trans (Nat.le_trans (Nat.le_refl _) E10.1) E13.1) (Keep.of_wr W14).1) (Keep.of_wr W15).1) K20.1) K21.1) E22.1) K26.1) ob87
    have nb87_b10 : b10 ≠ b87 := Nat.ne_of_lt (Nat.lt_of_lt_of_le (Nat.lt_of_lt_of_le (Nat.lt_of_lt_of_le (Nat.lt_of_lt_of_le (Nat.lt_of_lt_of_le (Nat.lt_of_lt_of_le (Nat.lt_of_lt_of_le (Nat.lt_of_lt_of_le A10.lt E13.1) (Keep.of_wr W14).1) (Keep.of_wr W15).1) K20.1) K21.1) E22.1) K26.1) ob87)
    have nb87_b13 : b13 ≠ b87 := Nat.ne_of_lt (Nat.lt_of_lt_of_le (Nat.lt_of_lt_of_le (Nat.lt_of_lt_of_le (Nat.lt_of_lt_of_le (Nat.lt_of_lt_of_le (Nat.lt_of_lt_of_le (Nat.lt_of_lt_of_le V13.lt (Keep.of_wr W14).1) (Keep.of_wr W15).1) K20.1) K21.1) E22.1) K26.1) ob87)
    have nb87_t20 : t20 ≠ b87 := Nat.ne_of_lt (Nat.lt_of_lt_of_le (Nat.lt_of_lt_of_le (Nat.lt_of_lt_of_le (Nat.lt_of_lt_of_le A20.lt K21.1) E22.1) K26.1) ob87)
    have nb87_b21 : b21 ≠ b87 := Nat.ne_of_lt (Nat.lt_of_lt_of_le (Nat.lt_of_lt_of_le (Nat.lt_of_lt_of_le E21.lt E22.1) K26.1) ob87)
    have nb87_t21 : t21 ≠ b87 := Nat.ne_of_lt (Nat.lt_of_lt_of_le (Nat.lt_of_lt_of_le (Nat.lt_of_lt_of_le A21.lt E22.1) K26.1) ob87)
    have nb87_b22 : b22 ≠ b87 := Nat.ne_of_lt (Nat.lt_of_lt_of_le (Nat.lt_of_lt_of_le A22.lt K26.1) ob87)
    refine OD.via st87 ?_
    refine OD.go (B := (T87.setTop (mkF m 148 #[.val (.int p0), .val (.int p1), .val (.int p2), .val (.int p3), .val (.int p4), .val (.int p5), .val (.int v11_1), .val w4, .val (.int 1), .val (.int u43_6), .val (.int v59_7), .val (.ref b10), .val (.ref b21), .val (.ref b22), .val .null, .unset, .unset, .unset, .unset, .unset] []))) (fun t k => XS.pop X87.here hx rfl (bd at_130) rfl rfl (XS.iload X87.here hx rfl (bd at_131) rfl (XS.iconst X87.here hx rfl (bd at_133) (XS.icmpYes X87.here hx rfl (pc0 := 134) (pc' := 145) rfl (bd at_134) rfl (tlt (by decide : (1 : Int32) < (2 : Int32))).1 (by decide) (by decide) (XS.aconstNull X87.here hx rfl (bd at_145) (XS.astore X87.here hx rfl (bd at_146) rfl rfl (l' := #[.val (.int p0), .val (.int p1), .val (.int p2), .val (.int p3), .val (.int p4), .val (.int p5), .val (.int v11_1), .val w4, .val (.int 1), .val (.int u43_6), .val (.int v59_7), .val (.ref b10), .val (.ref b21), .val (.ref b22), .val .null, .unset, .unset, .unset, .unset, .unset]) rfl k)))))) ?_
    have tail : ∀ (Tt : State) (ht : Heap) (Lt : List Loc) (vt : Value) (Xt : Stand p l e room_1 s m #[(.int p0), (.int p1), (.int p2), (.int p3), (.int p4), (.int p5)] below meth c Tt Lt 16 80) (et : Tt.heap = ht) (Nt : Fr h0.size Lt) (Kt : Keep T87.heap ht []) (rt : vt.isRef = true), OD p e s below (Q_rm0 Z p0 p1 p2 p3 p4 p5 h0) 40 192 (Tt.setTop (mkF m 214 #[.val (.int p0), .val (.int p1), .val (.int p2), .val (.int p3), .val (.int p4), .val (.int p5), .val (.int v11_1), .val w4, .val (.int 1), .val (.int u43_6), .val (.int v59_7), .val (.ref b10), .val (.ref b21), .val (.ref b22), .val vt, .unset, .unset, .unset, .unset, .unset] [])) := by
      intro Tt ht Lt vt Xt et Nt Kt rt
      have szt : h0.size ≤ ht.size := (Nat.le_trans (Nat.le_trans (Nat.le_trans (Nat.le_trans (Nat.le_trans (Nat.le_trans (Nat.le_trans (Nat.le_trans (Nat.le_trans (Nat.le_trans (Nat.le_refl _) E10.1) E13.1) (Keep.of_wr W14).1) (Keep.of_wr W15).1) K20.1) K21.1) E22.1) K26.1) K87.1) Kt.1)
      have oldt : Old Z h0.size ht := ((((((((((X00.ext E10).ext E13).wr W14 (Nat.le_trans (Nat.le_trans (Nat.le_refl _) E10.1) (Nat.le_of_eq g13.symm))).wr W15 (Nat.le_trans (Nat.le_trans (Nat.le_refl _) E10.1) (Nat.le_of_eq g13.symm))).keep K20 (allS (Nat.le_trans (Nat.le_refl _) (Nat.le_of_eq g10.symm)) all0)).keep K21 all0).ext E22).keep K26 (allS (Nat.le_trans (Nat.le_trans (Nat.le_trans (Nat.le_trans (Nat.le_trans (Nat.le_trans (Nat.le_trans (Nat.le_refl _) E10.1) E13.1) (Keep.of_wr W14).1) (Keep.of_wr W15).1) K20.1) K21.1) (Nat.le_of_eq g22.symm)) all0)).keep K87 (allS (Nat.le_trans (Nat.le_trans (Nat.le_trans (Nat.le_trans (Nat.le_trans (Nat.le_trans (Nat.le_trans (Nat.le_refl _) E10.1) E13.1) (Keep.of_wr W14).1) (Keep.of_wr W15).1) K20.1) K21.1) (Nat.le_of_eq g22.symm)) all0)).keep Kt all0)
      have g88 := ((f86.keep K87).keep Kt)
      have gag88 : h0.size ≤ b10 := (Nat.le_trans (Nat.le_refl _) (Nat.le_of_eq g10.symm))
      have g89 := ((((E21.ext E22).keep K26).keep K87).keep Kt)
      have gag89 : h0.size ≤ b21 := gb21
      have g90 := ((f85.keep K87).keep Kt)
      have gag90 : h0.size ≤ b22 := (Nat.le_trans (Nat.le_trans (Nat.le_trans (Nat.le_trans (Nat.le_trans (Nat.le_trans (Nat.le_trans (Nat.le_refl _) E10.1) E13.1) (Keep.of_wr W14).1) (Keep.of_wr W15).1) K20.1) K21.1) (Nat.le_of_eq g22.symm))
      have g91 := (S87.keep Kt nin0)
      have g92 := (G87.keep Kt nin0)
      have g93 := (A87.keep Kt nin0)
      have gag93 : h0.size ≤ b87 := gb87
      have tail2 : ∀ (Tu : State) (hu : Heap) (Lu : List Loc) (x lb : Addr) (lm : Value) (Xu : Stand p l e room_1 s m #[(.int p0), (.int p1), (.int p2), (.int p3), (.int p4), (.int p5)] below meth c Tu Lu 24 120) (eu : Tu.heap = hu) (Nu : Fr h0.size Lu) (Ku : Keep ht hu []) (rlm : lm.isRef = true) (Eu : Exa Z hu x cS) (f0 : Fld Z hu x cS "connected" "Z" (.int (nar .boolean v11_1))) (f1 : Fld Z hu x cS "severity" dV w4) (f2 : Fld Z hu x cS "precision" "I" (.int p1)) (f3 : Fld Z hu x cS "labels" "Ljava/util/List;" (.ref lb)) (f4 : Fld Z hu x cS "value" oO vt) (f5 : Fld Z hu x cS "limits" dD lm) (El : Exa Z hu lb c2) (e0 : Fld Z hu lb c2 "e0" oO (.ref b10)) (e1 : Fld Z hu lb c2 "e1" oO (.ref em)) (hlm : lm = .null ∨ ∃ d, lm = .ref d ∧ Exa Z hu d cD ∧ Fld Z hu d cD "lower" "D" (.double (FP.i2d p4)) ∧ Fld Z hu d cD "upper" "D" (.double (FP.i2d p5))), OD p e s below (Q_rm0 Z p0 p1 p2 p3 p4 p5 h0) 40 192 (Tu.setTop (mkF m 278 #[.val (.int p0), .val (.int p1), .val (.int p2), .val (.int p3), .val (.int p4), .val (.int p5), .val (.int v11_1), .val w4, .val (.int 1), .val (.int u43_6), .val (.int v59_7), .val (.ref b10), .val (.ref b21), .val (.ref b22), .val vt, .val lm, .val (.ref x), .unset, .unset, .unset] [])) := by
        intro Tu hu Lu x lb lm Xu eu Nu Ku rlm Eu f0 f1 f2 f3 f4 f5 El e0 e1 hlm
        refine OD.go (B := (Tu.setTop (mkF m 280 #[.val (.int p0), .val (.int p1), .val (.int p2), .val (.int p3), .val (.int p4), .val (.int p5), .val (.int v11_1), .val w4, .val (.int 1), .val (.int u43_6), .val (.int v59_7), .val (.ref b10), .val (.ref b21), .val (.ref b22), .val vt, .val lm, .val (.ref x), .unset, .unset, .unset] [(.ref x)]))) (fun t k => XS.aload Xu.here hx rfl (bd at_278) rfl rfl k) ?_
        obtain ⟨cq94, kq94, qa94, qb94, qc94⟩ := isOf hZ eu Eu
        obtain ⟨_, _, ⟨T94, L94, k94, n94⟩, -, X94, ⟨Lc94, hQ94, l94, y94, z94⟩, st94⟩ := Xu.virtualBack hx (y := (⟨cS, "lost", zZ7⟩ : MethodName)) (z := (⟨cS, "lost", zZ7⟩ : MethodName)) hown (mvT hZ (Wd131 hw)) (mvT hZ (Wd132 hw)) (notFace_of_selects (args := #[]) (mvT hZ (Wd134 hw))) (mvT hZ (Wd134 hw)) (mvT hZ (Wd133 hw)) (by decide) (backOf (W := 0) (rmLs_L l Z a0 hw [] x hu h0.size (Nat.le_trans szt Ku.1) (oldt.keep Ku all0) Eu (nar .boolean v11_1) w4 r4 p1 lb vt rt lm rlm El f0 f1 f2 f3 f4 f5) hZ (Wd135 hw) (Wd77 hw) (by decide) (by decide)) qa94 qc94 (g := (mkF m 280 #[.val (.int p0), .val (.int p1), .val (.int p2), .val (.int p3), .val (.int p4), .val (.int p5), .val (.int v11_1), .val w4, .val (.int 1), .val (.int u43_6), .val (.int v59_7), .val (.ref b10), .val (.ref b21), .val (.ref b22), .val vt, .val lm, .val (.ref x), .unset, .unset, .unset] [(.ref x)])) rfl (by rw [hml]; rfl) (Steps.refl _) (argsL := []) (rest := []) (lenOf pd22 rfl) rfl (by show 2 * 0 + _ ≤ _; exact Nat.le_of_eq rfl) (bd at_280) (fun _ _ => ⟨rfl, eu, (nl rfl), (nl rfl)⟩)
        dsimp only [Pt.U, Pt.locs, Pt.cells, Pt.slots] at X94 l94 y94 z94 st94 hQ94
        subst l94 y94 z94
        obtain ⟨b94, rfl, Nq94, K94, ob94, E94, C0_94, C1_94, C2_94, C3_94, C4_94, C5_94⟩ := hQ94
        have N94 := Fr.app Nu Nq94
        have gb94 : h0.size ≤ b94 := Nat.le_trans (Nat.le_trans szt Ku.1) ob94
        refine OD.via st94 ?_
        refine OD.go (B := (T94.setTop (mkF m 287 #[.val (.int p0), .val (.int p1), .val (.int p2), .val (.int p3), .val (.int p4), .val (.int p5), .val (.int v11_1), .val w4, .val (.int 1), .val (.int u43_6), .val (.int v59_7), .val (.ref b10), .val (.ref b21), .val (.ref b22), .val vt, .val lm, .val (.ref x), .val (.ref b94), .unset, .unset] [(.ref b94)]))) (fun t k => XS.astore X94.here hx rfl (bd at_283) rfl rfl (l' := #[.val (.int p0), .val (.int p1), .val (.int p2), .val (.int p3), .val (.int p4), .val (.int p5), .val (.int v11_1), .val w4, .val (.int 1), .val (.int u43_6), .val (.int v59_7), .val (.ref b10), .val (.ref b21), .val (.ref b22), .val vt, .val lm, .val (.ref x), .val (.ref b94), .unset, .unset]) rfl (XS.aload X94.here hx rfl (bd at_285) rfl rfl k)) ?_
        obtain ⟨cq95, kq95, qa95, qb95, qc95⟩ := isOf hZ rfl E94
        obtain ⟨_, _, ⟨T95, L95, k95, n95⟩, -, X95, ⟨Lc95, hQ95, l95, y95, z95⟩, st95⟩ := X94.virtualBack hx (y := (⟨cS, "connected", "()Z"⟩ : MethodName)) (z := (⟨cS, "connected", "()Z"⟩ : MethodName)) hown (mvT hZ (Wd145 hw)) (mvT hZ (Wd146 hw)) (notFace_of_selects (args := #[]) (mvT hZ (Wd148 hw))) (mvT hZ (Wd148 hw)) (mvT hZ (Wd147 hw)) (by decide) (backOf (W := 0) (rmX0 l Z a0 hw [] b94 T94.heap  C0_94) hZ (Wd149 hw) (Wd77 hw) (by decide) (by decide)) qa95 qc95 (g := (mkF m 287 #[.val (.int p0), .val (.int p1), .val (.int p2), .val (.int p3), .val (.int p4), .val (.int p5), .val (.int v11_1), .val w4, .val (.int 1), .val (.int u43_6), .val (.int v59_7), .val (.ref b10), .val (.ref b21), .val (.ref b22), .val vt, .val lm, .val (.ref x), .val (.ref b94), .unset, .unset] [(.ref b94)])) rfl (by rw [hml]; rfl) (Steps.refl _) (argsL := []) (rest := []) (lenOf pd14 rfl) rfl (by show 2 * 0 + _ ≤ _; exact Nat.le_of_eq rfl) (bd at_287) (fun _ _ => ⟨rfl, rfl, (nl rfl), (nl rfl)⟩)
        dsimp only [Pt.U, Pt.locs, Pt.cells, Pt.slots] at X95 l95 y95 z95 st95 hQ95
        subst l95 y95 z95
        obtain ⟨rfl, rfl, e95⟩ := hQ95
        have N95 := Fr.app N94 (Fr.nil _)
        refine OD.via st95 ?_
        refine OD.go (B := (T95.setTop (mkF m 297 #[.val (.int p0), .val (.int p1), .val (.int p2), .val (.int p3), .val (.int p4), .val (.int p5), .val (.int v11_1), .val w4, .val (.int 1), .val (.int u43_6), .val (.int v59_7), .val (.ref b10), .val (.ref b21), .val (.ref b22), .val vt, .val lm, .val (.ref x), .val (.ref b94), .unset, .unset] [(.ref b94)]))) (fun t k => XS.ifYes X95.here hx rfl (pc0 := 290) (pc' := 295) rfl (bd at_290) rfl (by rw [if0]; exact (teq (by decide : (0 : Int32) = (0 : Int32))).1) (by decide) (by decide) (XS.aload X95.here hx rfl (bd at_295) rfl rfl k)) ?_
        obtain ⟨cq96, kq96, qa96, qb96, qc96⟩ := isOf hZ e95 E94
        obtain ⟨_, _, ⟨T96, L96, k96, n96⟩, -, X96, ⟨Lc96, hQ96, l96, y96, z96⟩, st96⟩ := X95.virtualBack hx (y := (⟨cS, "severity", zZ9⟩ : MethodName)) (z := (⟨cS, "severity", zZ9⟩ : MethodName)) hown (mvT hZ (Wd150 hw)) (mvT hZ (Wd151 hw)) (notFace_of_selects (args := #[]) (mvT hZ (Wd153 hw))) (mvT hZ (Wd153 hw)) (mvT hZ (Wd152 hw)) (by decide) (backOf (W := 0) (rmX1 l Z a0 hw [] b94 T94.heap w4 r4 C1_94) hZ (Wd154 hw) (Wd77 hw) (by decide) (by decide)) qa96 qc96 (g := (mkF m 297 #[.val (.int p0), .val (.int p1), .val (.int p2), .val (.int p3), .val (.int p4), .val (.int p5), .val (.int v11_1), .val w4, .val (.int 1), .val (.int u43_6), .val (.int v59_7), .val (.ref b10), .val (.ref b21), .val (.ref b22), .val vt, .val lm, .val (.ref x), .val (.ref b94), .unset, .unset] [(.ref b94)])) rfl (by rw [hml]; rfl) (Steps.refl _) (argsL := []) (rest := []) (lenOf pd23 rfl) rfl (by show 2 * 0 + _ ≤ _; exact Nat.le_of_eq rfl) (bd at_297) (fun _ _ => ⟨rfl, e95, (nl rfl), (nl rfl)⟩)
        dsimp only [Pt.U, Pt.locs, Pt.cells, Pt.slots] at X96 l96 y96 z96 st96 hQ96
        subst l96 y96 z96
        obtain ⟨rfl, rfl, e96⟩ := hQ96
        have N96 := Fr.app N95 (Fr.nil _)
        refine OD.via st96 ?_
        refine OD.go (B := (T96.setTop (mkF m 309 #[.val (.int p0), .val (.int p1), .val (.int p2), .val (.int p3), .val (.int p4), .val (.int p5), .val (.int v11_1), .val w4, .val (.int 1), .val (.int u43_6), .val (.int v59_7), .val (.ref b10), .val (.ref b21), .val (.ref b22), .val vt, .val lm, .val (.ref x), .val (.ref b94), .unset, .unset] [(.ref b94)]))) (fun t k => XS.aload X96.here hx rfl (bd at_300) rfl (r4) (RoadKit.acmp X96 hx rfl (x := w4) (y := w4) r4 r4 (pc0 := 302) (pc' := 307) (same := true) rfl (bd at_302) rfl (by simp) (by decide) (by decide) (XS.aload X96.here hx rfl (bd at_307) rfl rfl k))) ?_
        obtain ⟨cq97, kq97, qa97, qb97, qc97⟩ := isOf hZ e96 E94
        obtain ⟨_, _, ⟨T97, L97, k97, n97⟩, -, X97, ⟨Lc97, hQ97, l97, y97, z97⟩, st97⟩ := X96.virtualBack hx (y := (⟨cS, "precision", "()I"⟩ : MethodName)) (z := (⟨cS, "precision", "()I"⟩ : MethodName)) hown (mvT hZ (Wd155 hw)) (mvT hZ (Wd156 hw)) (notFace_of_selects (args := #[]) (mvT hZ (Wd158 hw))) (mvT hZ (Wd158 hw)) (mvT hZ (Wd157 hw)) (by decide) (backOf (W := 0) (rmX2 l Z a0 hw [] b94 T94.heap p1 C2_94) hZ (Wd159 hw) (Wd77 hw) (by decide) (by decide)) qa97 qc97 (g := (mkF m 309 #[.val (.int p0), .val (.int p1), .val (.int p2), .val (.int p3), .val (.int p4), .val (.int p5), .val (.int v11_1), .val w4, .val (.int 1), .val (.int u43_6), .val (.int v59_7), .val (.ref b10), .val (.ref b21), .val (.ref b22), .val vt, .val lm, .val (.ref x), .val (.ref b94), .unset, .unset] [(.ref b94)])) rfl (by rw [hml]; rfl) (Steps.refl _) (argsL := []) (rest := []) (lenOf pd24 rfl) rfl (by show 2 * 0 + _ ≤ _; exact Nat.le_of_eq rfl) (bd at_309) (fun _ _ => ⟨rfl, e96, (nl rfl), (nl rfl)⟩)
        dsimp only [Pt.U, Pt.locs, Pt.cells, Pt.slots] at X97 l97 y97 z97 st97 hQ97
        subst l97 y97 z97
        obtain ⟨rfl, rfl, e97⟩ := hQ97
        have N97 := Fr.app N96 (Fr.nil _)
        refine OD.via st97 ?_
        refine OD.go (B := (T97.setTop (mkF m 320 #[.val (.int p0), .val (.int p1), .val (.int p2), .val (.int p3), .val (.int p4), .val (.int p5), .val (.int v11_1), .val w4, .val (.int 1), .val (.int u43_6), .val (.int v59_7), .val (.ref b10), .val (.ref b21), .val (.ref b22), .val vt, .val lm, .val (.ref x), .val (.ref b94), .unset, .unset] [(.ref b94)]))) (fun t k => XS.iloadN X97.here hx rfl (bd at_312) rfl (XS.icmpYes X97.here hx rfl (pc0 := 313) (pc' := 318) rfl (bd at_313) rfl (teq rfl).1 (by decide) (by decide) (XS.aload X97.here hx rfl (bd at_318) rfl rfl k))) ?_
        obtain ⟨cq98, kq98, qa98, qb98, qc98⟩ := isOf hZ e97 E94
        obtain ⟨_, _, ⟨T98, L98, k98, n98⟩, -, X98, ⟨Lc98, hQ98, l98, y98, z98⟩, st98⟩ := X97.virtualBack hx (y := (⟨cS, "value", "()Ljava/lang/Object;"⟩ : MethodName)) (z := (⟨cS, "value", "()Ljava/lang/Object;"⟩ : MethodName)) hown (mvT hZ (Wd160 hw)) (mvT hZ (Wd161 hw)) (notFace_of_selects (args := #[]) (mvT hZ (Wd163 hw))) (mvT hZ (Wd163 hw)) (mvT hZ (Wd162 hw)) (by decide) (backOf (W := 0) (rmX4 l Z a0 hw [] b94 T94.heap vt rt C4_94) hZ (Wd164 hw) (Wd77 hw) (by decide) (by decide)) qa98 qc98 (g := (mkF m 320 #[.val (.int p0), .val (.int p1), .val (.int p2), .val (.int p3), .val (.int p4), .val (.int p5), .val (.int v11_1), .val w4, .val (.int 1), .val (.int u43_6), .val (.int v59_7), .val (.ref b10), .val (.ref b21), .val (.ref b22), .val vt, .val lm, .val (.ref x), .val (.ref b94), .unset, .unset] [(.ref b94)])) rfl (by rw [hml]; rfl) (Steps.refl _) (argsL := []) (rest := []) (lenOf pd25 rfl) rfl (by show 2 * 0 + _ ≤ _; exact Nat.le_of_eq rfl) (bd at_320) (fun _ _ => ⟨rfl, e97, (nl rfl), (nl rfl)⟩)
        dsimp only [Pt.U, Pt.locs, Pt.cells, Pt.slots] at X98 l98 y98 z98 st98 hQ98
        subst l98 y98 z98
        obtain ⟨rfl, rfl, e98⟩ := hQ98
        have N98 := Fr.app N97 (Fr.nil _)
        refine OD.via st98 ?_
        refine OD.go (B := (T98.setTop (mkF m 332 #[.val (.int p0), .val (.int p1), .val (.int p2), .val (.int p3), .val (.int p4), .val (.int p5), .val (.int v11_1), .val w4, .val (.int 1), .val (.int u43_6), .val (.int v59_7), .val (.ref b10), .val (.ref b21), .val (.ref b22), .val vt, .val lm, .val (.ref x), .val (.ref b94), .unset, .unset] [(.ref b94)]))) (fun t k => XS.aload X98.here hx rfl (bd at_323) rfl (rt) (RoadKit.acmp X98 hx rfl (x := vt) (y := vt) rt rt (pc0 := 325) (pc' := 330) (same := true) rfl (bd at_325) rfl (by simp) (by decide) (by decide) (XS.aload X98.here hx rfl (bd at_330) rfl rfl k))) ?_
        obtain ⟨cq99, kq99, qa99, qb99, qc99⟩ := isOf hZ e98 E94
        obtain ⟨_, _, ⟨T99, L99, k99, n99⟩, -, X99, ⟨Lc99, hQ99, l99, y99, z99⟩, st99⟩ := X98.virtualBack hx (y := (⟨cS, "labels", "()Ljava/util/List;"⟩ : MethodName)) (z := (⟨cS, "labels", "()Ljava/util/List;"⟩ : MethodName)) hown (mvT hZ (Wd165 hw)) (mvT hZ (Wd166 hw)) (notFace_of_selects (args := #[]) (mvT hZ (Wd168 hw))) (mvT hZ (Wd168 hw)) (mvT hZ (Wd167 hw)) (by decide) (backOf (W := 0) (rmX3 l Z a0 hw [] b94 T94.heap (.ref lb) rfl C3_94) hZ (Wd169 hw) (Wd77 hw) (by decide) (by decide)) qa99 qc99 (g := (mkF m 332 #[.val (.int p0), .val (.int p1), .val (.int p2), .val (.int p3), .val (.int p4), .val (.int p5), .val (.int v11_1), .val w4, .val (.int 1), .val (.int u43_6), .val (.int v59_7), .val (.ref b10), .val (.ref b21), .val (.ref b22), .val vt, .val lm, .val (.ref x), .val (.ref b94), .unset, .unset] [(.ref b94)])) rfl (by rw [hml]; rfl) (Steps.refl _) (argsL := []) (rest := []) (lenOf pd15 rfl) rfl (by show 2 * 0 + _ ≤ _; exact Nat.le_of_eq rfl) (bd at_332) (fun _ _ => ⟨rfl, e98, (nl rfl), (nl rfl)⟩)
        dsimp only [Pt.U, Pt.locs, Pt.cells, Pt.slots] at X99 l99 y99 z99 st99 hQ99
        subst l99 y99 z99
        obtain ⟨rfl, rfl, e99⟩ := hQ99
        have N99 := Fr.app N98 (Fr.nil _)
        refine OD.via st99 ?_
        refine OD.go (B := (T99.setTop (mkF m 339 #[.val (.int p0), .val (.int p1), .val (.int p2), .val (.int p3), .val (.int p4), .val (.int p5), .val (.int v11_1), .val w4, .val (.int 1), .val (.int u43_6), .val (.int v59_7), .val (.ref b10), .val (.ref b21), .val (.ref b22), .val vt, .val lm, .val (.ref x), .val (.ref b94), .val (.ref lb), .unset] [(.ref lb)]))) (fun t k => XS.astore X99.here hx rfl (bd at_335) rfl rfl (l' := #[.val (.int p0), .val (.int p1), .val (.int p2), .val (.int p3), .val (.int p4), .val (.int p5), .val (.int v11_1), .val w4, .val (.int 1), .val (.int u43_6), .val (.int v59_7), .val (.ref b10), .val (.ref b21), .val (.ref b22), .val vt, .val lm, .val (.ref x), .val (.ref b94), .val (.ref lb), .unset]) rfl (XS.aload X99.here hx rfl (bd at_337) rfl rfl k)) ?_
        have f100 := (El.keep K94)
        have f101 := (e0.keep K94 nin0)
        have f102 := (e1.keep K94 nin0)
        obtain ⟨cq103, kq103, qa103, qb103, qc103⟩ := isOf hZ e99 f100
        obtain ⟨_, _, ⟨T103, L103, k103, n103⟩, -, X103, ⟨Lc103, hQ103, l103, y103, z103⟩, st103⟩ := X99.interfaceBack hx (xi := (⟨"java/util/List", "size", "()I"⟩ : MethodName)) (y := (⟨c2, "size", "()I"⟩ : MethodName)) hown (mvT hZ (Wd170 hw)) (mvT hZ (Wd171 hw)) (mvT hZ (Wd172 hw)) (mvT hZ (Wd290 hw)) (mvT hZ (Wd291 hw)) (mvT hZ (Wd292 hw)) (mvT hZ (Wd293 hw)) (mvT hZ (Wd289 hw)) (by decide) (backOf (W := 0) (rmS12_1 l Z a0 hw [] lb T94.heap h0.size ((oldt.keep Ku all0).keep K94 all0) em Sm b10 f100 f101 f102) hZ (Wd294 hw) (Wd261 hw) (by decide) (by decide)) qa103 qb103 qc103 (g := (mkF m 339 #[.val (.int p0), .val (.int p1), .val (.int p2), .val (.int p3), .val (.int p4), .val (.int p5), .val (.int v11_1), .val w4, .val (.int 1), .val (.int u43_6), .val (.int v59_7), .val (.ref b10), .val (.ref b21), .val (.ref b22), .val vt, .val lm, .val (.ref x), .val (.ref b94), .val (.ref lb), .unset] [(.ref lb)])) rfl (by rw [hml]; rfl) (Steps.refl _) (argsL := []) (rest := []) (lenOf pd24 rfl) rfl (by show 2 * 0 + _ ≤ _; exact Nat.le_of_eq rfl) (bd at_339) (fun _ _ => ⟨rfl, e99, (nl rfl), (nl rfl)⟩)
        dsimp only [Pt.U, Pt.locs, Pt.cells, Pt.slots] at X103 l103 y103 z103 st103 hQ103
        subst l103 y103 z103
        obtain ⟨rfl, rfl, e103⟩ := hQ103
        have N103 := Fr.app N99 (Fr.nil _)
        refine OD.via st103 ?_
        refine OD.go (B := (T103.setTop (mkF m 362 #[.val (.int p0), .val (.int p1), .val (.int p2), .val (.int p3), .val (.int p4), .val (.int p5), .val (.int v11_1), .val w4, .val (.int 1), .val (.int u43_6), .val (.int v59_7), .val (.ref b10), .val (.ref b21), .val (.ref b22), .val vt, .val lm, .val (.ref x), .val (.ref b94), .val (.ref lb), .unset] [(.int 0), (.ref lb), (.ref b10)]))) (fun t k => XS.iload X103.here hx rfl (bd at_344) rfl (XS.icmpYes X103.here hx rfl (pc0 := 346) (pc' := 351) rfl (bd at_346) rfl (teq (by decide : (1 : Int32) = (1 : Int32))).1 (by decide) (by decide) (XS.iload X103.here hx rfl (bd at_351) rfl (XS.iconst X103.here hx rfl (bd at_353) (XS.icmpNo X103.here hx rfl (bd at_354) rfl (flt (by decide : ¬ (1 : Int32) < (1 : Int32))).1 (XS.aload X103.here hx rfl (bd at_357) rfl rfl (XS.aload X103.here hx rfl (bd at_359) rfl rfl (XS.iconst X103.here hx rfl (bd at_361) k)))))))) ?_
        obtain ⟨cq104, kq104, qa104, qb104, qc104⟩ := isOf hZ e103 f100
        obtain ⟨_, _, ⟨T104, L104, k104, n104⟩, -, X104, ⟨Lc104, hQ104, l104, y104, z104⟩, st104⟩ := X103.interfaceBack hx (xi := (⟨"java/util/List", "get", "(I)Ljava/lang/Object;"⟩ : MethodName)) (y := (⟨c2, "get", "(I)Ljava/lang/Object;"⟩ : MethodName)) hown (mvT hZ (Wd295 hw)) (mvT hZ (Wd296 hw)) (mvT hZ (Wd297 hw)) (mvT hZ (Wd298 hw)) (mvT hZ (Wd299 hw)) (mvT hZ (Wd300 hw)) (mvT hZ (Wd301 hw)) (mvT hZ (Wd289 hw)) (by decide) (backOf (W := 1) (rmG12_10 l Z a0 hw [] lb T94.heap h0.size ((oldt.keep Ku all0).keep K94 all0) em Sm b10 f100 f101 f102) hZ (Wd302 hw) (Wd261 hw) (by decide) (by decide)) qa104 qb104 qc104 (g := (mkF m 362 #[.val (.int p0), .val (.int p1), .val (.int p2), .val (.int p3), .val (.int p4), .val (.int p5), .val (.int v11_1), .val w4, .val (.int 1), .val (.int u43_6), .val (.int v59_7), .val (.ref b10), .val (.ref b21), .val (.ref b22), .val vt, .val lm, .val (.ref x), .val (.ref b94), .val (.ref lb), .unset] [(.int 0), (.ref lb), (.ref b10)])) rfl (by rw [hml]; rfl) (Steps.refl _) (argsL := [(.int 0)]) (rest := [(.ref b10)]) (lenOf pd32 rfl) rfl (by show 2 * 0 + _ ≤ _; exact Nat.le_of_eq rfl) (bd at_362) (fun _ _ => ⟨rfl, e103, (nl rfl), (nl rfl)⟩)
        dsimp only [Pt.U, Pt.locs, Pt.cells, Pt.slots] at X104 l104 y104 z104 st104 hQ104
        subst l104 y104 z104
        obtain ⟨rfl, rfl, e104⟩ := hQ104
        have N104 := Fr.app N103 (Fr.nil _)
        refine OD.via (B := (T104.setTop (mkF m 367 #[.val (.int p0), .val (.int p1), .val (.int p2), .val (.int p3), .val (.int p4), .val (.int p5), .val (.int v11_1), .val w4, .val (.int 1), .val (.int u43_6), .val (.int v59_7), .val (.ref b10), .val (.ref b21), .val (.ref b22), .val vt, .val lm, .val (.ref x), .val (.ref b94), .val (.ref lb), .unset] [(.ref b10), (.ref b10)]))) st104 ?_
        have f105 := ((g88.keep Ku).keep K94)
        obtain ⟨cq106, kq106, qa106, qb106, qc106⟩ := isOf hZ e104 f105
        obtain ⟨_, _, ⟨T106, L106, k106, n106⟩, -, X106, ⟨Lc106, hQ106, l106, y106, z106⟩, st106⟩ := X104.virtualBack hx (y := (⟨"java/lang/String", "equals", "(Ljava/lang/Object;)Z"⟩ : MethodName)) (z := (⟨"java/lang/String", "equals", "(Ljava/lang/Object;)Z"⟩ : MethodName)) hown (mvT hZ (Wd303 hw)) (mvT hZ (Wd304 hw)) (notFace_of_selects (args := #[]) (mvT hZ (Wd306 hw))) (mvT hZ (Wd306 hw)) (mvT hZ (Wd305 hw)) (by decide) (backOf (W := 0) (rmEq l Z a0 hw [] b10 T94.heap) hZ (Wd307 hw) (Wd9 hw) (by decide) (by decide)) qa106 qc106 (g := (mkF m 367 #[.val (.int p0), .val (.int p1), .val (.int p2), .val (.int p3), .val (.int p4), .val (.int p5), .val (.int v11_1), .val w4, .val (.int 1), .val (.int u43_6), .val (.int v59_7), .val (.ref b10), .val (.ref b21), .val (.ref b22), .val vt, .val lm, .val (.ref x), .val (.ref b94), .val (.ref lb), .unset] [(.ref b10), (.ref b10)])) rfl (by rw [hml]; rfl) (Steps.refl _) (argsL := [(.ref b10)]) (rest := []) (lenOf pd31 rfl) rfl (by show 2 * 0 + _ ≤ _; exact Nat.le_of_eq rfl) (bd at_367) (fun _ _ => ⟨rfl, e104, (nl rfl), (nl rfl)⟩)
        dsimp only [Pt.U, Pt.locs, Pt.cells, Pt.slots] at X106 l106 y106 z106 st106 hQ106
        subst l106 y106 z106
        obtain ⟨rfl, rfl, e106⟩ := hQ106
        have N106 := Fr.app N104 (Fr.nil _)
        refine OD.via st106 ?_
        refine OD.go (B := (T106.setTop (mkF m 401 #[.val (.int p0), .val (.int p1), .val (.int p2), .val (.int p3), .val (.int p4), .val (.int p5), .val (.int v11_1), .val w4, .val (.int 1), .val (.int u43_6), .val (.int v59_7), .val (.ref b10), .val (.ref b21), .val (.ref b22), .val vt, .val lm, .val (.ref x), .val (.ref b94), .val (.ref lb), .unset] [(.ref b94)]))) (fun t k => XS.ifYes X106.here hx rfl (pc0 := 370) (pc' := 375) rfl (bd at_370) rfl (by rw [if0]; exact (feq (by decide : ¬ (1 : Int32) = (0 : Int32))).2) (by decide) (by decide) (XS.iload X106.here hx rfl (bd at_375) rfl (XS.iconst X106.here hx rfl (bd at_377) (XS.icmpYes X106.here hx rfl (pc0 := 378) (pc' := 399) rfl (bd at_378) rfl (tlt (by decide : (1 : Int32) < (2 : Int32))).1 (by decide) (by decide) (XS.aload X106.here hx rfl (bd at_399) rfl rfl k))))) ?_
        obtain ⟨cq107, kq107, qa107, qb107, qc107⟩ := isOf hZ e106 E94
        obtain ⟨_, _, ⟨T107, L107, k107, n107⟩, -, X107, ⟨Lc107, hQ107, l107, y107, z107⟩, st107⟩ := X106.virtualBack hx (y := (⟨cS, "limits", zZ10⟩ : MethodName)) (z := (⟨cS, "limits", zZ10⟩ : MethodName)) hown (mvT hZ (Wd181 hw)) (mvT hZ (Wd182 hw)) (notFace_of_selects (args := #[]) (mvT hZ (Wd184 hw))) (mvT hZ (Wd184 hw)) (mvT hZ (Wd183 hw)) (by decide) (backOf (W := 0) (rmX5 l Z a0 hw [] b94 T94.heap lm rlm C5_94) hZ (Wd185 hw) (Wd77 hw) (by decide) (by decide)) qa107 qc107 (g := (mkF m 401 #[.val (.int p0), .val (.int p1), .val (.int p2), .val (.int p3), .val (.int p4), .val (.int p5), .val (.int v11_1), .val w4, .val (.int 1), .val (.int u43_6), .val (.int v59_7), .val (.ref b10), .val (.ref b21), .val (.ref b22), .val vt, .val lm, .val (.ref x), .val (.ref b94), .val (.ref lb), .unset] [(.ref b94)])) rfl (by rw [hml]; rfl) (Steps.refl _) (argsL := []) (rest := []) (lenOf pd26 rfl) rfl (by show 2 * 0 + _ ≤ _; exact Nat.le_of_eq rfl) (bd at_401) (fun _ _ => ⟨rfl, e106, (nl rfl), (nl rfl)⟩)
        dsimp only [Pt.U, Pt.locs, Pt.cells, Pt.slots] at X107 l107 y107 z107 st107 hQ107
        subst l107 y107 z107
        obtain ⟨rfl, rfl, e107⟩ := hQ107
        have N107 := Fr.app N106 (Fr.nil _)
        refine OD.via st107 ?_
        refine OD.go (B := (T107.setTop (mkF m 406 #[.val (.int p0), .val (.int p1), .val (.int p2), .val (.int p3), .val (.int p4), .val (.int p5), .val (.int v11_1), .val w4, .val (.int 1), .val (.int u43_6), .val (.int v59_7), .val (.ref b10), .val (.ref b21), .val (.ref b22), .val vt, .val lm, .val (.ref x), .val (.ref b94), .val (.ref lb), .val lm] []))) (fun t k => XS.astore X107.here hx rfl (bd at_404) rfl (rlm) (l' := #[.val (.int p0), .val (.int p1), .val (.int p2), .val (.int p3), .val (.int p4), .val (.int p5), .val (.int v11_1), .val w4, .val (.int 1), .val (.int u43_6), .val (.int v59_7), .val (.ref b10), .val (.ref b21), .val (.ref b22), .val vt, .val lm, .val (.ref x), .val (.ref b94), .val (.ref lb), .val lm]) (by rcases ref_cases rlm with rfl | ⟨_, rfl⟩ <;> rfl) k) ?_
        rcases hlm with rfl | ⟨d, rfl, Ed, Dl, Du⟩
        · show OD _ _ _ _ _ _ _ (T107.setTop (mkF m 406 #[.val (.int p0), .val (.int p1), .val (.int p2), .val (.int p3), .val (.int p4), .val (.int p5), .val (.int v11_1), .val w4, .val (.int 1), .val (.int u43_6), .val (.int v59_7), .val (.ref b10), .val (.ref b21), .val (.ref b22), .val vt, .val .null, .val (.ref x), .val (.ref b94), .val (.ref lb), .val .null] []))
          refine OD.go (B := (T107.setTop (mkF m 421 #[.val (.int p0), .val (.int p1), .val (.int p2), .val (.int p3), .val (.int p4), .val (.int p5), .val (.int v11_1), .val w4, .val (.int 1), .val (.int u43_6), .val (.int v59_7), .val (.ref b10), .val (.ref b21), .val (.ref b22), .val vt, .val .null, .val (.ref x), .val (.ref b94), .val (.ref lb), .val .null] [(.int 1)]))) (fun t k => XS.aload X107.here hx rfl (bd at_406) rfl rfl (XS.ifnonnullNo X107.here hx rfl (bd at_408) rfl (XS.aload X107.here hx rfl (bd at_411) rfl rfl (XS.ifnonnullNo X107.here hx rfl (bd at_413) rfl (XS.iconst X107.here hx rfl (bd at_416) (XS.goto X107.here hx rfl (pc0 := 417) (pc' := 421) rfl (bd at_417) (by decide) (by decide) k)))))) ?_
          exact OD.ret X107 hx hlk (t := .boolean) Bd.returns rfl (Or.inl ⟨rfl, Or.inr (Or.inl rfl), _, rfl⟩) (bd at_421) (nl rfl) (nl rfl) ⟨rfl, N107⟩
        · show OD _ _ _ _ _ _ _ (T107.setTop (mkF m 406 #[.val (.int p0), .val (.int p1), .val (.int p2), .val (.int p3), .val (.int p4), .val (.int p5), .val (.int v11_1), .val w4, .val (.int 1), .val (.int u43_6), .val (.int v59_7), .val (.ref b10), .val (.ref b21), .val (.ref b22), .val vt, .val (.ref d), .val (.ref x), .val (.ref b94), .val (.ref lb), .val (.ref d)] []))
          refine OD.go (B := (T107.setTop (mkF m 429 #[.val (.int p0), .val (.int p1), .val (.int p2), .val (.int p3), .val (.int p4), .val (.int p5), .val (.int v11_1), .val w4, .val (.int 1), .val (.int u43_6), .val (.int v59_7), .val (.ref b10), .val (.ref b21), .val (.ref b22), .val vt, .val (.ref d), .val (.ref x), .val (.ref b94), .val (.ref lb), .val (.ref d)] [(.ref d)]))) (fun t k => XS.aload X107.here hx rfl (bd at_406) rfl rfl (XS.ifnonnullYes X107.here hx rfl (pc0 := 408) (pc' := 422) rfl (bd at_408) rfl (by decide) (by decide) (XS.aload X107.here hx rfl (bd at_422) rfl rfl (XS.ifnullNo X107.here hx rfl (bd at_424) rfl (XS.aload X107.here hx rfl (bd at_427) rfl rfl k))))) ?_
          have f108 := (Dl.keep K94 nin0)
          have f109 := (Ed.keep K94)
          obtain ⟨cq110, kq110, qa110, qb110, qc110⟩ := isOf hZ e107 f109
          obtain ⟨_, _, ⟨T110, L110, k110, n110⟩, -, X110, ⟨Lc110, hQ110, l110, y110, z110⟩, st110⟩ := X107.virtualBack hx (y := (⟨cD, "lower", "()D"⟩ : MethodName)) (z := (⟨cD, "lower", "()D"⟩ : MethodName)) hown (mvT hZ (Wd323 hw)) (mvT hZ (Wd324 hw)) (notFace_of_selects (args := #[]) (mvT hZ (Wd326 hw))) (mvT hZ (Wd326 hw)) (mvT hZ (Wd325 hw)) (by decide) (backOf (W := 0) (rmDlower l Z a0 hw [] d T94.heap (FP.i2d p4) f108) hZ (Wd327 hw) (Wd310 hw) (by decide) (by decide)) qa110 qc110 (g := (mkF m 429 #[.val (.int p0), .val (.int p1), .val (.int p2), .val (.int p3), .val (.int p4), .val (.int p5), .val (.int v11_1), .val w4, .val (.int 1), .val (.int u43_6), .val (.int v59_7), .val (.ref b10), .val (.ref b21), .val (.ref b22), .val vt, .val (.ref d), .val (.ref x), .val (.ref b94), .val (.ref lb), .val (.ref d)] [(.ref d)])) rfl (by rw [hml]; rfl) (Steps.refl _) (argsL := []) (rest := []) (lenOf pd27 rfl) rfl (by show 2 * 0 + _ ≤ _; exact Nat.le_of_eq rfl) (bd at_429) (fun _ _ => ⟨rfl, e107, (nl rfl), (nl rfl)⟩)
          dsimp only [Pt.U, Pt.locs, Pt.cells, Pt.slots] at X110 l110 y110 z110 st110 hQ110
          subst l110 y110 z110
          obtain ⟨rfl, rfl, e110⟩ := hQ110
          have N110 := Fr.app N107 (Fr.nil _)
          refine OD.via st110 ?_
          refine OD.go (B := (T110.setTop (mkF m 441 #[.val (.int p0), .val (.int p1), .val (.int p2), .val (.int p3), .val (.int p4), .val (.int p5), .val (.int v11_1), .val w4, .val (.int 1), .val (.int u43_6), .val (.int v59_7), .val (.ref b10), .val (.ref b21), .val (.ref b22), .val vt, .val (.ref d), .val (.ref x), .val (.ref b94), .val (.ref lb), .val (.ref d)] [(.ref d)]))) (fun t k => XS.iload X110.here hx rfl (bd at_432) rfl (XS.i2dS X110.here hx rfl (bd at_434) rfl (v := (FP.i2d p4)) rfl (XS.dcmpS X110.here hx rfl (bd at_435) rfl (v := (cmpValue (FP.dcmp (FP.i2d p4) (FP.i2d p4)) .l)) rfl (XS.ifNo X110.here hx rfl (bd at_436) rfl (by rw [if0]; exact (teq (own_dself _)).2) (XS.aload X110.here hx rfl (bd at_439) rfl rfl k))))) ?_
          have f111 := (Du.keep K94 nin0)
          obtain ⟨cq112, kq112, qa112, qb112, qc112⟩ := isOf hZ e110 f109
          obtain ⟨_, _, ⟨T112, L112, k112, n112⟩, -, X112, ⟨Lc112, hQ112, l112, y112, z112⟩, st112⟩ := X110.virtualBack hx (y := (⟨cD, "upper", "()D"⟩ : MethodName)) (z := (⟨cD, "upper", "()D"⟩ : MethodName)) hown (mvT hZ (Wd328 hw)) (mvT hZ (Wd329 hw)) (notFace_of_selects (args := #[]) (mvT hZ (Wd331 hw))) (mvT hZ (Wd331 hw)) (mvT hZ (Wd330 hw)) (by decide) (backOf (W := 0) (rmDupper l Z a0 hw [] d T94.heap (FP.i2d p5) f111) hZ (Wd332 hw) (Wd310 hw) (by decide) (by decide)) qa112 qc112 (g := (mkF m 441 #[.val (.int p0), .val (.int p1), .val (.int p2), .val (.int p3), .val (.int p4), .val (.int p5), .val (.int v11_1), .val w4, .val (.int 1), .val (.int u43_6), .val (.int v59_7), .val (.ref b10), .val (.ref b21), .val (.ref b22), .val vt, .val (.ref d), .val (.ref x), .val (.ref b94), .val (.ref lb), .val (.ref d)] [(.ref d)])) rfl (by rw [hml]; rfl) (Steps.refl _) (argsL := []) (rest := []) (lenOf pd27 rfl) rfl (by show 2 * 0 + _ ≤ _; exact Nat.le_of_eq rfl) (bd at_441) (fun _ _ => ⟨rfl, e110, (nl rfl), (nl rfl)⟩)
          dsimp only [Pt.U, Pt.locs, Pt.cells, Pt.slots] at X112 l112 y112 z112 st112 hQ112
          subst l112 y112 z112
          obtain ⟨rfl, rfl, e112⟩ := hQ112
          have N112 := Fr.app N110 (Fr.nil _)
          refine OD.via st112 ?_
          refine OD.go (B := (T112.setTop (mkF m 456 #[.val (.int p0), .val (.int p1), .val (.int p2), .val (.int p3), .val (.int p4), .val (.int p5), .val (.int v11_1), .val w4, .val (.int 1), .val (.int u43_6), .val (.int v59_7), .val (.ref b10), .val (.ref b21), .val (.ref b22), .val vt, .val (.ref d), .val (.ref x), .val (.ref b94), .val (.ref lb), .val (.ref d)] [(.int 1)]))) (fun t k => XS.iload X112.here hx rfl (bd at_444) rfl (XS.i2dS X112.here hx rfl (bd at_446) rfl (v := (FP.i2d p5)) rfl (XS.dcmpS X112.here hx rfl (bd at_447) rfl (v := (cmpValue (FP.dcmp (FP.i2d p5) (FP.i2d p5)) .l)) rfl (XS.ifNo X112.here hx rfl (bd at_448) rfl (by rw [if0]; exact (teq (own_dself _)).2) (XS.iconst X112.here hx rfl (bd at_451) (XS.goto X112.here hx rfl (pc0 := 452) (pc' := 456) rfl (bd at_452) (by decide) (by decide) k)))))) ?_
          exact OD.ret X112 hx hlk (t := .boolean) Bd.returns rfl (Or.inl ⟨rfl, Or.inr (Or.inl rfl), _, rfl⟩) (bd at_456) (nl rfl) (nl rfl) ⟨rfl, N112⟩
      refine OD.go (B := (Tt.setTop (mkF m 219 #[.val (.int p0), .val (.int p1), .val (.int p2), .val (.int p3), .val (.int p4), .val (.int p5), .val (.int v11_1), .val w4, .val (.int 1), .val (.int u43_6), .val (.int v59_7), .val (.ref b10), .val (.ref b21), .val (.ref b22), .val vt, .val .null, .unset, .unset, .unset, .unset] [(.int v59_7)]))) (fun t k => XS.aconstNull Xt.here hx rfl (bd at_214) (XS.astore Xt.here hx rfl (bd at_215) rfl rfl (l' := #[.val (.int p0), .val (.int p1), .val (.int p2), .val (.int p3), .val (.int p4), .val (.int p5), .val (.int v11_1), .val w4, .val (.int 1), .val (.int u43_6), .val (.int v59_7), .val (.ref b10), .val (.ref b21), .val (.ref b22), .val vt, .val .null, .unset, .unset, .unset, .unset]) rfl (XS.iload Xt.here hx rfl (bd at_217) rfl k))) ?_
      by_cases c219_113 : v59_7 = (0 : Int32)
      · refine OD.go (B := (Tt.setTop (mkF m 260 #[.val (.int p0), .val (.int p1), .val (.int p2), .val (.int p3), .val (.int p4), .val (.int p5), .val (.int v11_1), .val w4, .val (.int 1), .val (.int u43_6), .val (.int v59_7), .val (.ref b10), .val (.ref b21), .val (.ref b22), .val vt, .val .null, .unset, .unset, .unset, .unset] []))) (fun t k => XS.ifYes Xt.here hx rfl (pc0 := 219) (pc' := 260) rfl (bd at_219) rfl (by rw [if0]; exact (teq c219_113).1) (by decide) (by decide) k) ?_
        obtain ⟨T114, h114, X114, e114, E114, A114, D114, -, st114⟩ := newO Xt hx hZ hown (Wd75 hw) (Wd76 hw) (Wd77 hw) et (g := (mkF m 260 #[.val (.int p0), .val (.int p1), .val (.int p2), .val (.int p3), .val (.int p4), .val (.int p5), .val (.int v11_1), .val w4, .val (.int 1), .val (.int u43_6), .val (.int v59_7), .val (.ref b10), .val (.ref b21), .val (.ref b22), .val vt, .val .null, .unset, .unset, .unset, .unset] [])) rfl (bd at_260) (nl rfl) (nl rfl)
        obtain ⟨b114, g114⟩ : ∃ z, z = ht.size := ⟨_, rfl⟩
        rw [← g114] at A114 D114 st114
        have Fn115 : Fld Z h114 b114 cS "connected" "Z" (.int 0) := D114 (Or.inr (Wd120 hw)) (ty := .boolean) (by decide)
        have Fn116 : Fld Z h114 b114 cS "severity" dV .null := D114 (Or.inr (Wd122 hw)) (ty := (.object cV)) (by decide)
        have Fn117 : Fld Z h114 b114 cS "precision" "I" (.int 0) := D114 (Or.inr (Wd124 hw)) (ty := .int) (by decide)
        have Fn118 : Fld Z h114 b114 cS "labels" "Ljava/util/List;" .null := D114 (Or.inr (Wd126 hw)) (ty := (.object "java/util/List")) (by decide)
        have Fn119 : Fld Z h114 b114 cS "value" oO .null := D114 (Or.inr (Wd128 hw)) (ty := (.object cO)) (by decide)
        have Fn120 : Fld Z h114 b114 cS "limits" dD .null := D114 (Or.inr (Wd130 hw)) (ty := (.object cD)) (by decide)
        refine OD.go st114 ?_
        refine OD.go (B := (T114.setTop (mkF m 273 #[.val (.int p0), .val (.int p1), .val (.int p2), .val (.int p3), .val (.int p4), .val (.int p5), .val (.int v11_1), .val w4, .val (.int 1), .val (.int u43_6), .val (.int v59_7), .val (.ref b10), .val (.ref b21), .val (.ref b22), .val vt, .val .null, .unset, .unset, .unset, .unset] [vt, (.ref b22), (.int p1), w4, (.int v11_1), (.ref b114), (.ref b114)]))) (fun t k => XS.dup X114.here hx rfl (bd at_263) rfl rfl (XS.iload X114.here hx rfl (bd at_264) rfl (XS.aload X114.here hx rfl (bd at_266) rfl (r4) (XS.iloadN X114.here hx rfl (bd at_268) rfl (XS.aload X114.here hx rfl (bd at_269) rfl rfl (XS.aload X114.here hx rfl (bd at_271) rfl (rt) k)))))) ?_
        have f121 := (g90.ext E114)
        have f122 := (g91.ext E114)
        have f123 := (g92.ext E114)
        have f124 := (g88.ext E114)
        have f125 := (g93.ext E114)
        obtain ⟨_, _, ⟨T126, L126, k126, n126⟩, -, X126, ⟨Lc126, hQ126, l126, y126, z126⟩, st126⟩ := X114.specialBack hx (y := (⟨cS, "<init>", zZ14⟩ : MethodName)) rfl hown (mvT hZ (Wd78 hw)) (mvT hZ (Wd79 hw)) (mvT hZ (Wd80 hw)) (by decide) (backOf (W := 1) (rmC5_A1 l Z a0 hw [] b114 v11_1 w4 r4 p1 b22 vt rt  h114 h0.size (Nat.le_trans szt E114.1) (oldt.ext E114) A114 Fn115 Fn116 Fn117 Fn118 Fn119 Fn120 (Nat.le_trans szt (Nat.le_of_eq g114.symm)) (nar .boolean v11_1) rfl em Sm f121 f122 b87 f123 b10 f124 k87' f125 O87 mr Mr (Ne.symm (Nat.ne_of_lt (Nat.lt_of_lt_of_le g90.lt (Nat.le_of_eq g114.symm)))) (Ne.symm (Nat.ne_of_lt (Nat.lt_of_lt_of_le g93.lt (Nat.le_of_eq g114.symm)))) (Ne.symm (Nat.ne_of_lt (Nat.lt_of_lt_of_le g88.lt (Nat.le_of_eq g114.symm)))) ) hZ (Wd80 hw) (Wd77 hw) (by decide) (by decide)) (g := (mkF m 273 #[.val (.int p0), .val (.int p1), .val (.int p2), .val (.int p3), .val (.int p4), .val (.int p5), .val (.int v11_1), .val w4, .val (.int 1), .val (.int u43_6), .val (.int v59_7), .val (.ref b10), .val (.ref b21), .val (.ref b22), .val vt, .val .null, .unset, .unset, .unset, .unset] [vt, (.ref b22), (.int p1), w4, (.int v11_1), (.ref b114), (.ref b114)])) rfl (by rw [hml]; rfl) (Steps.refl _) (a := b114) (argsL := [(.int v11_1), w4, (.int p1), (.ref b22), vt]) (rest := [(.ref b114)]) (lenOf pd28 rfl) rfl (by show 2 * 0 + _ ≤ _; exact Nat.le_of_eq rfl) (bd at_273) (fun _ _ => ⟨rfl, e114, (nl rfl), (nl rfl)⟩)
        dsimp only [Pt.U, Pt.locs, Pt.cells, Pt.slots] at X126 l126 y126 z126 st126 hQ126
        subst l126 y126 z126
        obtain ⟨b126, rfl, Nq126, K126, C0_126, C1_126, C2_126, C3_126, C4_126, C5_126, ob126, E126, G0126, G1126⟩ := hQ126
        have N126 := Fr.app Nt Nq126
        have gb126 : h0.size ≤ b126 := Nat.le_trans (Nat.le_trans szt E114.1) ob126
        refine OD.via st126 ?_
        refine OD.go (B := (T126.setTop (mkF m 278 #[.val (.int p0), .val (.int p1), .val (.int p2), .val (.int p3), .val (.int p4), .val (.int p5), .val (.int v11_1), .val w4, .val (.int 1), .val (.int u43_6), .val (.int v59_7), .val (.ref b10), .val (.ref b21), .val (.ref b22), .val vt, .val .null, .val (.ref b114), .unset, .unset, .unset] []))) (fun t k => XS.astore X126.here hx rfl (bd at_276) rfl rfl (l' := #[.val (.int p0), .val (.int p1), .val (.int p2), .val (.int p3), .val (.int p4), .val (.int p5), .val (.int v11_1), .val w4, .val (.int 1), .val (.int u43_6), .val (.int v59_7), .val (.ref b10), .val (.ref b21), .val (.ref b22), .val vt, .val .null, .val (.ref b114), .unset, .unset, .unset]) rfl k) ?_
        exact tail2 _ _ _ b114 b126 .null (X126.more (nl rfl) (nl rfl)) rfl N126 (((Keep.refl ht []).ext E114).trans K126 (allS (Or.inr (Nat.le_trans (Nat.le_refl _) (Nat.le_of_eq g114.symm))) all0)) rfl (A114.keep K126) C0_126 C1_126 C2_126 C3_126 C4_126 C5_126 E126 G0126 G1126 (Or.inl rfl)
      · refine OD.go (B := (Tt.setTop (mkF m 222 #[.val (.int p0), .val (.int p1), .val (.int p2), .val (.int p3), .val (.int p4), .val (.int p5), .val (.int v11_1), .val w4, .val (.int 1), .val (.int u43_6), .val (.int v59_7), .val (.ref b10), .val (.ref b21), .val (.ref b22), .val vt, .val .null, .unset, .unset, .unset, .unset] []))) (fun t k => XS.ifNo Xt.here hx rfl (bd at_219) rfl (by rw [if0]; exact (feq c219_113).1) k) ?_
        obtain ⟨T127, h127, X127, e127, E127, A127, D127, -, st127⟩ := newO Xt hx hZ hown (Wd308 hw) (Wd309 hw) (Wd310 hw) et (g := (mkF m 222 #[.val (.int p0), .val (.int p1), .val (.int p2), .val (.int p3), .val (.int p4), .val (.int p5), .val (.int v11_1), .val w4, .val (.int 1), .val (.int u43_6), .val (.int v59_7), .val (.ref b10), .val (.ref b21), .val (.ref b22), .val vt, .val .null, .unset, .unset, .unset, .unset] [])) rfl (bd at_222) (nl rfl) (nl rfl)
        obtain ⟨b127, g127⟩ : ∃ z, z = ht.size := ⟨_, rfl⟩
        rw [← g127] at A127 D127 st127
        have Fn128 : Fld Z h127 b127 cD "lower" "D" (.double (0 : UInt64)) := D127 (Or.inr (Wd316 hw)) (ty := .double) (by decide)
        have Fn129 : Fld Z h127 b127 cD "upper" "D" (.double (0 : UInt64)) := D127 (Or.inr (Wd318 hw)) (ty := .double) (by decide)
        refine OD.go st127 ?_
        refine OD.go (B := (T127.setTop (mkF m 232 #[.val (.int p0), .val (.int p1), .val (.int p2), .val (.int p3), .val (.int p4), .val (.int p5), .val (.int v11_1), .val w4, .val (.int 1), .val (.int u43_6), .val (.int v59_7), .val (.ref b10), .val (.ref b21), .val (.ref b22), .val vt, .val .null, .unset, .unset, .unset, .unset] [(.double (FP.i2d p5)), (.double (FP.i2d p4)), (.ref b127), (.ref b127)]))) (fun t k => XS.dup X127.here hx rfl (bd at_225) rfl rfl (XS.iload X127.here hx rfl (bd at_226) rfl (XS.i2dS X127.here hx rfl (bd at_228) rfl (v := (FP.i2d p4)) rfl (XS.iload X127.here hx rfl (bd at_229) rfl (XS.i2dS X127.here hx rfl (bd at_231) rfl (v := (FP.i2d p5)) rfl k))))) ?_
        obtain ⟨_, _, ⟨T130, L130, k130, n130⟩, -, X130, ⟨Lc130, hQ130, l130, y130, z130⟩, st130⟩ := X127.specialBack hx (y := (⟨cD, "<init>", "(DD)V"⟩ : MethodName)) rfl hown (mvT hZ (Wd311 hw)) (mvT hZ (Wd312 hw)) (mvT hZ (Wd313 hw)) (by decide) (backOf (W := 1) (rmDL l Z a0 hw [] b127 (FP.i2d p4) (FP.i2d p5) h127 h0.size (Nat.le_trans szt E127.1) A127 Fn128 Fn129 (Nat.le_trans szt (Nat.le_of_eq g127.symm))) hZ (Wd313 hw) (Wd310 hw) (by decide) (by decide)) (g := (mkF m 232 #[.val (.int p0), .val (.int p1), .val (.int p2), .val (.int p3), .val (.int p4), .val (.int p5), .val (.int v11_1), .val w4, .val (.int 1), .val (.int u43_6), .val (.int v59_7), .val (.ref b10), .val (.ref b21), .val (.ref b22), .val vt, .val .null, .unset, .unset, .unset, .unset] [(.double (FP.i2d p5)), (.double (FP.i2d p4)), (.ref b127), (.ref b127)])) rfl (by rw [hml]; rfl) (Steps.refl _) (a := b127) (argsL := [(.double (FP.i2d p4)), (.double (FP.i2d p5))]) (rest := [(.ref b127)]) (lenOf pd29 rfl) rfl (by show 2 * 0 + _ ≤ _; exact Nat.le_of_eq rfl) (bd at_232) (fun _ _ => ⟨rfl, e127, (nl rfl), (nl rfl)⟩)
        dsimp only [Pt.U, Pt.locs, Pt.cells, Pt.slots] at X130 l130 y130 z130 st130 hQ130
        subst l130 y130 z130
        obtain ⟨rfl, Nq130, K130, G0_130, G1_130⟩ := hQ130
        have N130 := Fr.app Nt Nq130
        refine OD.via st130 ?_
        refine OD.go (B := (T130.setTop (mkF m 237 #[.val (.int p0), .val (.int p1), .val (.int p2), .val (.int p3), .val (.int p4), .val (.int p5), .val (.int v11_1), .val w4, .val (.int 1), .val (.int u43_6), .val (.int v59_7), .val (.ref b10), .val (.ref b21), .val (.ref b22), .val vt, .val (.ref b127), .unset, .unset, .unset, .unset] []))) (fun t k => XS.astore X130.here hx rfl (bd at_235) rfl rfl (l' := #[.val (.int p0), .val (.int p1), .val (.int p2), .val (.int p3), .val (.int p4), .val (.int p5), .val (.int v11_1), .val w4, .val (.int 1), .val (.int u43_6), .val (.int v59_7), .val (.ref b10), .val (.ref b21), .val (.ref b22), .val vt, .val (.ref b127), .unset, .unset, .unset, .unset]) rfl k) ?_
        obtain ⟨T131, h131, X131, e131, E131, A131, D131, -, st131⟩ := newO X130 hx hZ hown (Wd75 hw) (Wd76 hw) (Wd77 hw) rfl (g := (mkF m 237 #[.val (.int p0), .val (.int p1), .val (.int p2), .val (.int p3), .val (.int p4), .val (.int p5), .val (.int v11_1), .val w4, .val (.int 1), .val (.int u43_6), .val (.int v59_7), .val (.ref b10), .val (.ref b21), .val (.ref b22), .val vt, .val (.ref b127), .unset, .unset, .unset, .unset] [])) rfl (bd at_237) (nl rfl) (nl rfl)
        obtain ⟨b131, g131⟩ : ∃ z, z = T130.heap.size := ⟨_, rfl⟩
        rw [← g131] at A131 D131 st131
        have Fn132 : Fld Z h131 b131 cS "connected" "Z" (.int 0) := D131 (Or.inr (Wd120 hw)) (ty := .boolean) (by decide)
        have Fn133 : Fld Z h131 b131 cS "severity" dV .null := D131 (Or.inr (Wd122 hw)) (ty := (.object cV)) (by decide)
        have Fn134 : Fld Z h131 b131 cS "precision" "I" (.int 0) := D131 (Or.inr (Wd124 hw)) (ty := .int) (by decide)
        have Fn135 : Fld Z h131 b131 cS "labels" "Ljava/util/List;" .null := D131 (Or.inr (Wd126 hw)) (ty := (.object "java/util/List")) (by decide)
        have Fn136 : Fld Z h131 b131 cS "value" oO .null := D131 (Or.inr (Wd128 hw)) (ty := (.object cO)) (by decide)
        have Fn137 : Fld Z h131 b131 cS "limits" dD .null := D131 (Or.inr (Wd130 hw)) (ty := (.object cD)) (by decide)
        refine OD.go st131 ?_
        refine OD.go (B := (T131.setTop (mkF m 252 #[.val (.int p0), .val (.int p1), .val (.int p2), .val (.int p3), .val (.int p4), .val (.int p5), .val (.int v11_1), .val w4, .val (.int 1), .val (.int u43_6), .val (.int v59_7), .val (.ref b10), .val (.ref b21), .val (.ref b22), .val vt, .val (.ref b127), .unset, .unset, .unset, .unset] [(.ref b127), vt, (.ref b22), (.int p1), w4, (.int v11_1), (.ref b131), (.ref b131)]))) (fun t k => XS.dup X131.here hx rfl (bd at_240) rfl rfl (XS.iload X131.here hx rfl (bd at_241) rfl (XS.aload X131.here hx rfl (bd at_243) rfl (r4) (XS.iloadN X131.here hx rfl (bd at_245) rfl (XS.aload X131.here hx rfl (bd at_246) rfl rfl (XS.aload X131.here hx rfl (bd at_248) rfl (rt) (XS.aload X131.here hx rfl (bd at_250) rfl rfl k))))))) ?_
        have f138 := (((g90.ext E127).keep K130).ext E131)
        have f139 := (((g91.ext E127).keep K130 (ninS (Nat.ne_of_lt (Nat.lt_of_lt_of_le g90.lt (Nat.le_of_eq g127.symm))) nin0)).ext E131)
        have f140 := (((g92.ext E127).keep K130 (ninS (Nat.ne_of_lt (Nat.lt_of_lt_of_le g90.lt (Nat.le_of_eq g127.symm))) nin0)).ext E131)
        have f141 := (((g88.ext E127).keep K130).ext E131)
        have f142 := (((g93.ext E127).keep K130 (ninS (Nat.ne_of_lt (Nat.lt_of_lt_of_le g93.lt (Nat.le_of_eq g127.symm))) nin0)).ext E131)
        obtain ⟨_, _, ⟨T143, L143, k143, n143⟩, -, X143, ⟨Lc143, hQ143, l143, y143, z143⟩, st143⟩ := X131.specialBack hx (y := (⟨cS, "<init>", zZ5⟩ : MethodName)) rfl hown (mvT hZ (Wd319 hw)) (mvT hZ (Wd82 hw)) (mvT hZ (Wd83 hw)) (by decide) (backOf (W := 1) (rmC6_A1 l Z a0 hw [] b131 v11_1 w4 r4 p1 b22 vt rt (.ref b127) rfl h131 h0.size (Nat.le_trans (Nat.le_trans (Nat.le_trans szt E127.1) K130.1) E131.1) (((oldt.ext E127).keep K130 (allS (Nat.le_trans szt (Nat.le_of_eq g127.symm)) all0)).ext E131) A131 Fn132 Fn133 Fn134 Fn135 Fn136 Fn137 (Nat.le_trans (Nat.le_trans (Nat.le_trans szt E127.1) K130.1) (Nat.le_of_eq g131.symm)) (nar .boolean v11_1) rfl em Sm f138 f139 b87 f140 b10 f141 k87' f142 O87 mr Mr (Ne.symm (Nat.ne_of_lt (Nat.lt_of_lt_of_le (Nat.lt_of_lt_of_le (Nat.lt_of_lt_of_le g90.lt E127.1) K130.1) (Nat.le_of_eq g131.symm)))) (Ne.symm (Nat.ne_of_lt (Nat.lt_of_lt_of_le (Nat.lt_of_lt_of_le (Nat.lt_of_lt_of_le g93.lt E127.1) K130.1) (Nat.le_of_eq g131.symm)))) (Ne.symm (Nat.ne_of_lt (Nat.lt_of_lt_of_le (Nat.lt_of_lt_of_le (Nat.lt_of_lt_of_le g88.lt E127.1) K130.1) (Nat.le_of_eq g131.symm)))) ) hZ (Wd83 hw) (Wd77 hw) (by decide) (by decide)) (g := (mkF m 252 #[.val (.int p0), .val (.int p1), .val (.int p2), .val (.int p3), .val (.int p4), .val (.int p5), .val (.int v11_1), .val w4, .val (.int 1), .val (.int u43_6), .val (.int v59_7), .val (.ref b10), .val (.ref b21), .val (.ref b22), .val vt, .val (.ref b127), .unset, .unset, .unset, .unset] [(.ref b127), vt, (.ref b22), (.int p1), w4, (.int v11_1), (.ref b131), (.ref b131)])) rfl (by rw [hml]; rfl) (Steps.refl _) (a := b131) (argsL := [(.int v11_1), w4, (.int p1), (.ref b22), vt, (.ref b127)]) (rest := [(.ref b131)]) (lenOf pd18 rfl) rfl (by show 2 * 0 + _ ≤ _; exact Nat.le_of_eq rfl) (bd at_252) (fun _ _ => ⟨rfl, e131, (nl rfl), (nl rfl)⟩)
        dsimp only [Pt.U, Pt.locs, Pt.cells, Pt.slots] at X143 l143 y143 z143 st143 hQ143
        subst l143 y143 z143
        obtain ⟨b143, rfl, Nq143, K143, C0_143, C1_143, C2_143, C3_143, C4_143, C5_143, ob143, E143, G0143, G1143⟩ := hQ143
        have N143 := Fr.app N130 Nq143
        have gb143 : h0.size ≤ b143 := Nat.le_trans (Nat.le_trans (Nat.le_trans (Nat.le_trans szt E127.1) K130.1) E131.1) ob143
        refine OD.via st143 ?_
        refine OD.go (B := (T143.setTop (mkF m 278 #[.val (.int p0), .val (.int p1), .val (.int p2), .val (.int p3), .val (.int p4), .val (.int p5), .val (.int v11_1), .val w4, .val (.int 1), .val (.int u43_6), .val (.int v59_7), .val (.ref b10), .val (.ref b21), .val (.ref b22), .val vt, .val (.ref b127), .val (.ref b131), .unset, .unset, .unset] []))) (fun t k => XS.astore X143.here hx rfl (bd at_255) rfl rfl (l' := #[.val (.int p0), .val (.int p1), .val (.int p2), .val (.int p3), .val (.int p4), .val (.int p5), .val (.int v11_1), .val w4, .val (.int 1), .val (.int u43_6), .val (.int v59_7), .val (.ref b10), .val (.ref b21), .val (.ref b22), .val vt, .val (.ref b127), .val (.ref b131), .unset, .unset, .unset]) rfl (XS.goto X143.here hx rfl (pc0 := 257) (pc' := 278) rfl (bd at_257) (by decide) (by decide) k)) ?_
        exact tail2 _ _ _ b131 b143 (.ref b127) (X143.more (nl rfl) (nl rfl)) rfl N143 (((((Keep.refl ht []).ext E127).trans K130 (allS (Or.inr (Nat.le_trans (Nat.le_refl _) (Nat.le_of_eq g127.symm))) all0)).ext E131).trans K143 (allS (Or.inr (Nat.le_trans (Nat.le_trans (Nat.le_trans (Nat.le_refl _) E127.1) K130.1) (Nat.le_of_eq g131.symm))) all0)) rfl (A131.keep K143) C0_143 C1_143 C2_143 C3_143 C4_143 C5_143 E143 G0143 G1143 (Or.inr ⟨_, rfl, (((A127.keep K130).ext E131).keep K143), ((G0_130.ext E131).keep K143 (ninS (Nat.ne_of_lt (Nat.lt_of_lt_of_le (Nat.lt_of_lt_of_le A127.lt K130.1) (Nat.le_of_eq g131.symm))) nin0)), ((G1_130.ext E131).keep K143 (ninS (Nat.ne_of_lt (Nat.lt_of_lt_of_le (Nat.lt_of_lt_of_le A127.lt K130.1) (Nat.le_of_eq g131.symm))) nin0))⟩)
    refine OD.go (B := (T87.setTop (mkF m 151 #[.val (.int p0), .val (.int p1), .val (.int p2), .val (.int p3), .val (.int p4), .val (.int p5), .val (.int v11_1), .val w4, .val (.int 1), .val (.int u43_6), .val (.int v59_7), .val (.ref b10), .val (.ref b21), .val (.ref b22), .val .null, .unset, .unset, .unset, .unset, .unset] [(.int 1), (.int u43_6)]))) (fun t k => XS.iload X87.here hx rfl (bd at_148) rfl (XS.iconst X87.here hx rfl (bd at_150) k)) ?_
    by_cases c151_144 : u43_6 = (1 : Int32)
    · refine OD.go (B := (T87.setTop (mkF m 155 #[.val (.int p0), .val (.int p1), .val (.int p2), .val (.int p3), .val (.int p4), .val (.int p5), .val (.int v11_1), .val w4, .val (.int 1), .val (.int u43_6), .val (.int v59_7), .val (.ref b10), .val (.ref b21), .val (.ref b22), .val .null, .unset, .unset, .unset, .unset, .unset] [(.int p2)]))) (fun t k => XS.icmpNo X87.here hx rfl (bd at_151) rfl (teq c151_144).2 (XS.iloadN X87.here hx rfl (bd at_154) rfl k)) ?_
      obtain ⟨_, _, ⟨T145, L145, k145, n145⟩, -, X145, ⟨Lc145, hQ145, l145, y145, z145⟩, st145⟩ := Jvm.LawKit.callS X87 hx (y := (⟨"java/lang/Integer", "valueOf", "(I)Ljava/lang/Integer;"⟩ : MethodName)) hown (mvT hZ (Wd219 hw)) (mvT hZ (Wd220 hw)) (mvT hZ (Wd221 hw)) (mvT hZ (Wd222 hw)) (by decide) (backOf (W := 0) (rmIV l Z a0 hw [] p2 T87.heap h0.size (Nat.le_trans (Nat.le_trans (Nat.le_trans (Nat.le_trans (Nat.le_trans (Nat.le_trans (Nat.le_trans (Nat.le_trans (Nat.le_trans (Nat.le_refl _) E10.1) E13.1) (Keep.of_wr W14).1) (Keep.of_wr W15).1) K20.1) K21.1) E22.1) K26.1) K87.1) (((((((((X00.ext E10).ext E13).wr W14 (Nat.le_trans (Nat.le_trans (Nat.le_refl _) E10.1) (Nat.le_of_eq g13.symm))).wr W15 (Nat.le_trans (Nat.le_trans (Nat.le_refl _) E10.1) (Nat.le_of_eq g13.symm))).keep K20 (allS (Nat.le_trans (Nat.le_refl _) (Nat.le_of_eq g10.symm)) all0)).keep K21 all0).ext E22).keep K26 (allS (Nat.le_trans (Nat.le_trans (Nat.le_trans (Nat.le_trans (Nat.le_trans (Nat.le_trans (Nat.le_trans (Nat.le_refl _) E10.1) E13.1) (Keep.of_wr W14).1) (Keep.of_wr W15).1) K20.1) K21.1) (Nat.le_of_eq g22.symm)) all0)).keep K87 (allS (Nat.le_trans (Nat.le_trans (Nat.le_trans (Nat.le_trans (Nat.le_trans (Nat.le_trans (Nat.le_trans (Nat.le_refl _) E10.1) E13.1) (Keep.of_wr W14).1) (Keep.of_wr W15).1) K20.1) K21.1) (Nat.le_of_eq g22.symm)) all0)) ca Sh Sc Cc) hZ (Wd222 hw) (Wd221 hw) (by decide) (by decide)) (g := (mkF m 155 #[.val (.int p0), .val (.int p1), .val (.int p2), .val (.int p3), .val (.int p4), .val (.int p5), .val (.int v11_1), .val w4, .val (.int 1), .val (.int u43_6), .val (.int v59_7), .val (.ref b10), .val (.ref b21), .val (.ref b22), .val .null, .unset, .unset, .unset, .unset, .unset] [(.int p2)])) rfl (by rw [hml]; rfl) (argsL := [(.int p2)]) (rest := []) (lenOf pd30 rfl) rfl (by show 2 * 0 + _ ≤ _; exact Nat.le_of_eq rfl) (bd at_155) (fun _ _ => ⟨rfl, rfl, (nl rfl), (nl rfl)⟩)
      dsimp only [Pt.U, Pt.locs, Pt.cells, Pt.slots] at X145 l145 y145 z145 st145 hQ145
      subst l145 y145 z145
      obtain ⟨w145, rfl, r145, Nq145, K145⟩ := hQ145
      have N145 := Fr.app N87 Nq145
      refine OD.go st145 ?_
      refine OD.go (B := (T145.setTop (mkF m 214 #[.val (.int p0), .val (.int p1), .val (.int p2), .val (.int p3), .val (.int p4), .val (.int p5), .val (.int v11_1), .val w4, .val (.int 1), .val (.int u43_6), .val (.int v59_7), .val (.ref b10), .val (.ref b21), .val (.ref b22), .val w145, .unset, .unset, .unset, .unset, .unset] []))) (fun t k => XS.astore X145.here hx rfl (bd at_158) rfl (r145) (l' := #[.val (.int p0), .val (.int p1), .val (.int p2), .val (.int p3), .val (.int p4), .val (.int p5), .val (.int v11_1), .val w4, .val (.int 1), .val (.int u43_6), .val (.int v59_7), .val (.ref b10), .val (.ref b21), .val (.ref b22), .val w145, .unset, .unset, .unset, .unset, .unset]) (by rcases ref_cases r145 with rfl | ⟨_, rfl⟩ <;> rfl) (XS.goto X145.here hx rfl (pc0 := 160) (pc' := 214) rfl (bd at_160) (by decide) (by decide) k)) ?_
      exact tail _ _ _ w145 (X145.more (nl rfl) (nl rfl)) rfl N145 ((Keep.refl T87.heap []).trans K145 all0) r145
    · refine OD.go (B := (T87.setTop (mkF m 166 #[.val (.int p0), .val (.int p1), .val (.int p2), .val (.int p3), .val (.int p4), .val (.int p5), .val (.int v11_1), .val w4, .val (.int 1), .val (.int u43_6), .val (.int v59_7), .val (.ref b10), .val (.ref b21), .val (.ref b22), .val .null, .unset, .unset, .unset, .unset, .unset] [(.int 2), (.int u43_6)]))) (fun t k => XS.icmpYes X87.here hx rfl (pc0 := 151) (pc' := 163) rfl (bd at_151) rfl (feq c151_144).2 (by decide) (by decide) (XS.iload X87.here hx rfl (bd at_163) rfl (XS.iconst X87.here hx rfl (bd at_165) k))) ?_
      by_cases c166_146 : u43_6 = (2 : Int32)
      · refine OD.go (B := (T87.setTop (mkF m 169 #[.val (.int p0), .val (.int p1), .val (.int p2), .val (.int p3), .val (.int p4), .val (.int p5), .val (.int v11_1), .val w4, .val (.int 1), .val (.int u43_6), .val (.int v59_7), .val (.ref b10), .val (.ref b21), .val (.ref b22), .val .null, .unset, .unset, .unset, .unset, .unset] []))) (fun t k => XS.icmpNo X87.here hx rfl (bd at_166) rfl (teq c166_146).2 k) ?_
        obtain ⟨T147, h147, X147, e147, E147, A147, D147, -, st147⟩ := newO X87 hx hZ hown (Wd7 hw) (Wd8 hw) (Wd9 hw) rfl (g := (mkF m 169 #[.val (.int p0), .val (.int p1), .val (.int p2), .val (.int p3), .val (.int p4), .val (.int p5), .val (.int v11_1), .val w4, .val (.int 1), .val (.int u43_6), .val (.int v59_7), .val (.ref b10), .val (.ref b21), .val (.ref b22), .val .null, .unset, .unset, .unset, .unset, .unset] [])) rfl (bd at_169) (nl rfl) (nl rfl)
        obtain ⟨b147, g147⟩ : ∃ z, z = T87.heap.size := ⟨_, rfl⟩
        rw [← g147] at A147 D147 st147
        have Fn148 : Fld Z h147 b147 "java/lang/String" "coder" "B" (.int 0) := D147 (Or.inr (Wd34 hw)) (ty := .byte) (by decide)
        have Fn149 : Fld Z h147 b147 "java/lang/String" "value" "[B" .null := D147 (Or.inr (Wd36 hw)) (ty := (.array .byte)) (by decide)
        refine OD.go st147 ?_
        refine OD.go (B := (T147.setTop (mkF m 174 #[.val (.int p0), .val (.int p1), .val (.int p2), .val (.int p3), .val (.int p4), .val (.int p5), .val (.int v11_1), .val w4, .val (.int 1), .val (.int u43_6), .val (.int v59_7), .val (.ref b10), .val (.ref b21), .val (.ref b22), .val .null, .unset, .unset, .unset, .unset, .unset] [(.int 3), (.ref b147), (.ref b147)]))) (fun t k => XS.dup X147.here hx rfl (bd at_172) rfl rfl (XS.iconst X147.here hx rfl (bd at_173) k)) ?_
        obtain ⟨T150, h150, k150, X150, e150, E150, A150, st150⟩ := newP X147 hx hZ (aty := .char) (Wd10 hw) e147 (g := (mkF m 174 #[.val (.int p0), .val (.int p1), .val (.int p2), .val (.int p3), .val (.int p4), .val (.int p5), .val (.int v11_1), .val w4, .val (.int 1), .val (.int u43_6), .val (.int v59_7), .val (.ref b10), .val (.ref b21), .val (.ref b22), .val .null, .unset, .unset, .unset, .unset, .unset] [(.int 3), (.ref b147), (.ref b147)])) rfl (bd at_174) rfl (by decide) (cap := 3) (by decide) (by decide) (nl rfl) (nl rfl)
        obtain ⟨b150, g150⟩ : ∃ z, z = h147.size := ⟨_, rfl⟩
        rw [← g150] at A150 st150
        have V150 : Arv Z h150 b150 k150 .char (3 : Int32) [(.int 0), (.int 0), (.int 0)] (.int 0) := (Arv.new A150 (by decide)).pad (pad_rep [] (.int 0) 3)
        refine OD.go st150 ?_
        refine OD.go (B := (T150.setTop (mkF m 184 #[.val (.int p0), .val (.int p1), .val (.int p2), .val (.int p3), .val (.int p4), .val (.int p5), .val (.int v11_1), .val w4, .val (.int 1), .val (.int u43_6), .val (.int v59_7), .val (.ref b10), .val (.ref b21), .val (.ref b22), .val .null, .unset, .unset, .unset, .unset, .unset] [(.int (p2 &&& (255 : Int32)).toUInt32.toUInt16.toUInt32.toInt32), (.int 0), (.ref b150), (.ref b150), (.ref b147), (.ref b147)]))) (fun t k => XS.dup X150.here hx rfl (bd at_176) rfl rfl (XS.iconst X150.here hx rfl (bd at_177) (XS.iloadN X150.here hx rfl (bd at_178) rfl (XS.sipush X150.here hx rfl (bd at_179) (XS.iand X150.here hx rfl (bd at_182) rfl (XS.i2c X150.here hx rfl (bd at_183) rfl k)))))) ?_
        obtain ⟨cl151, Ar151, q151, S151, M151, H151, G151⟩ := id V150
        obtain ⟨T151, h151, X151, e151, W151, st151⟩ := stC X150 hx hZ e150 Ar151 (j := (0 : Int32)) (inb_of S151 ⟨by decide, by decide⟩) (g := (mkF m 184 #[.val (.int p0), .val (.int p1), .val (.int p2), .val (.int p3), .val (.int p4), .val (.int p5), .val (.int v11_1), .val w4, .val (.int 1), .val (.int u43_6), .val (.int v59_7), .val (.ref b10), .val (.ref b21), .val (.ref b22), .val .null, .unset, .unset, .unset, .unset, .unset] [(.int (p2 &&& (255 : Int32)).toUInt32.toUInt16.toUInt32.toInt32), (.int 0), (.ref b150), (.ref b150), (.ref b147), (.ref b147)])) rfl rfl (bd at_184)
        rw [(own_nar (own_c255 _))] at W151
        have V151 : Arv Z h151 b150 k150 .char (3 : Int32) [(.int (p2 &&& (255 : Int32)).toUInt32.toUInt16.toUInt32.toInt32), (.int 0), (.int 0)] (.int 0) := Arv.set Ar151 q151 S151 M151 H151 G151 ((own_nar (own_c255 _)) ▸ fits_nar_char _) W151 0 rfl (nl rfl)
        have N151 := Fr.snoc X151 N87 (Nat.le_trans (Nat.le_trans (Nat.le_trans (Nat.le_trans (Nat.le_trans (Nat.le_trans (Nat.le_trans (Nat.le_trans (Nat.le_trans (Nat.le_trans (Nat.le_trans (Nat.le_refl _) E10.1) E13.1) (Keep.of_wr W14).1) (Keep.of_wr W15).1) K20.1) K21.1) E22.1) K26.1) K87.1) E147.1) (Nat.le_of_eq g150.symm))
        refine OD.go st151 ?_
        refine OD.go (B := (T151.setTop (mkF m 196 #[.val (.int p0), .val (.int p1), .val (.int p2), .val (.int p3), .val (.int p4), .val (.int p5), .val (.int v11_1), .val w4, .val (.int 1), .val (.int u43_6), .val (.int v59_7), .val (.ref b10), .val (.ref b21), .val (.ref b22), .val .null, .unset, .unset, .unset, .unset, .unset] [(.int (((p2.toUInt32 >>> ((8 : Int32) &&& 31).toUInt32).toInt32) &&& (255 : Int32)).toUInt32.toUInt16.toUInt32.toInt32), (.int 1), (.ref b150), (.ref b150), (.ref b147), (.ref b147)]))) (fun t k => XS.dup X151.here hx rfl (bd at_185) rfl rfl (XS.iconst X151.here hx rfl (bd at_186) (XS.iloadN X151.here hx rfl (bd at_187) rfl (XS.bipush X151.here hx rfl (bd at_188) (XS.iushr X151.here hx rfl (bd at_190) rfl (XS.sipush X151.here hx rfl (bd at_191) (XS.iand X151.here hx rfl (bd at_194) rfl (XS.i2c X151.here hx rfl (bd at_195) rfl k)))))))) ?_
        obtain ⟨cl152, Ar152, q152, S152, M152, H152, G152⟩ := id V151
        obtain ⟨T152, h152, X152, e152, W152, st152⟩ := stC X151 hx hZ e151 Ar152 (j := (1 : Int32)) (inb_of S152 ⟨by decide, by decide⟩) (g := (mkF m 196 #[.val (.int p0), .val (.int p1), .val (.int p2), .val (.int p3), .val (.int p4), .val (.int p5), .val (.int v11_1), .val w4, .val (.int 1), .val (.int u43_6), .val (.int v59_7), .val (.ref b10), .val (.ref b21), .val (.ref b22), .val .null, .unset, .unset, .unset, .unset, .unset] [(.int (((p2.toUInt32 >>> ((8 : Int32) &&& 31).toUInt32).toInt32) &&& (255 : Int32)).toUInt32.toUInt16.toUInt32.toInt32), (.int 1), (.ref b150), (.ref b150), (.ref b147), (.ref b147)])) rfl rfl (bd at_196)
        rw [(own_nar (own_c255 _))] at W152
        have V152 : Arv Z h152 b150 k150 .char (3 : Int32) [(.int (p2 &&& (255 : Int32)).toUInt32.toUInt16.toUInt32.toInt32), (.int (((p2.toUInt32 >>> ((8 : Int32) &&& 31).toUInt32).toInt32) &&& (255 : Int32)).toUInt32.toUInt16.toUInt32.toInt32), (.int 0)] (.int 0) := Arv.set Ar152 q152 S152 M152 H152 G152 ((own_nar (own_c255 _)) ▸ fits_nar_char _) W152 1 rfl (nl rfl)
        have N152 := Fr.snoc X152 N151 (Nat.le_trans (Nat.le_trans (Nat.le_trans (Nat.le_trans (Nat.le_trans (Nat.le_trans (Nat.le_trans (Nat.le_trans (Nat.le_trans (Nat.le_trans (Nat.le_trans (Nat.le_refl _) E10.1) E13.1) (Keep.of_wr W14).1) (Keep.of_wr W15).1) K20.1) K21.1) E22.1) K26.1) K87.1) E147.1) (Nat.le_of_eq g150.symm))
        refine OD.go st152 ?_
        refine OD.go (B := (T152.setTop (mkF m 208 #[.val (.int p0), .val (.int p1), .val (.int p2), .val (.int p3), .val (.int p4), .val (.int p5), .val (.int v11_1), .val w4, .val (.int 1), .val (.int u43_6), .val (.int v59_7), .val (.ref b10), .val (.ref b21), .val (.ref b22), .val .null, .unset, .unset, .unset, .unset, .unset] [(.int (((p3.toUInt32 >>> ((24 : Int32) &&& 31).toUInt32).toInt32) &&& (255 : Int32)).toUInt32.toUInt16.toUInt32.toInt32), (.int 2), (.ref b150), (.ref b150), (.ref b147), (.ref b147)]))) (fun t k => XS.dup X152.here hx rfl (bd at_197) rfl rfl (XS.iconst X152.here hx rfl (bd at_198) (XS.iloadN X152.here hx rfl (bd at_199) rfl (XS.bipush X152.here hx rfl (bd at_200) (XS.iushr X152.here hx rfl (bd at_202) rfl (XS.sipush X152.here hx rfl (bd at_203) (XS.iand X152.here hx rfl (bd at_206) rfl (XS.i2c X152.here hx rfl (bd at_207) rfl k)))))))) ?_
        obtain ⟨cl153, Ar153, q153, S153, M153, H153, G153⟩ := id V152
        obtain ⟨T153, h153, X153, e153, W153, st153⟩ := stC X152 hx hZ e152 Ar153 (j := (2 : Int32)) (inb_of S153 ⟨by decide, by decide⟩) (g := (mkF m 208 #[.val (.int p0), .val (.int p1), .val (.int p2), .val (.int p3), .val (.int p4), .val (.int p5), .val (.int v11_1), .val w4, .val (.int 1), .val (.int u43_6), .val (.int v59_7), .val (.ref b10), .val (.ref b21), .val (.ref b22), .val .null, .unset, .unset, .unset, .unset, .unset] [(.int (((p3.toUInt32 >>> ((24 : Int32) &&& 31).toUInt32).toInt32) &&& (255 : Int32)).toUInt32.toUInt16.toUInt32.toInt32), (.int 2), (.ref b150), (.ref b150), (.ref b147), (.ref b147)])) rfl rfl (bd at_208)
        rw [(own_nar (own_c255 _))] at W153
        have V153 : Arv Z h153 b150 k150 .char (3 : Int32) [(.int (p2 &&& (255 : Int32)).toUInt32.toUInt16.toUInt32.toInt32), (.int (((p2.toUInt32 >>> ((8 : Int32) &&& 31).toUInt32).toInt32) &&& (255 : Int32)).toUInt32.toUInt16.toUInt32.toInt32), (.int (((p3.toUInt32 >>> ((24 : Int32) &&& 31).toUInt32).toInt32) &&& (255 : Int32)).toUInt32.toUInt16.toUInt32.toInt32)] (.int 0) := Arv.set Ar153 q153 S153 M153 H153 G153 ((own_nar (own_c255 _)) ▸ fits_nar_char _) W153 2 rfl (nl rfl)
        have N153 := Fr.snoc X153 N152 (Nat.le_trans (Nat.le_trans (Nat.le_trans (Nat.le_trans (Nat.le_trans (Nat.le_trans (Nat.le_trans (Nat.le_trans (Nat.le_trans (Nat.le_trans (Nat.le_trans (Nat.le_refl _) E10.1) E13.1) (Keep.of_wr W14).1) (Keep.of_wr W15).1) K20.1) K21.1) E22.1) K26.1) K87.1) E147.1) (Nat.le_of_eq g150.symm))
        refine OD.go (B := (T153.setTop (mkF m 209 #[.val (.int p0), .val (.int p1), .val (.int p2), .val (.int p3), .val (.int p4), .val (.int p5), .val (.int v11_1), .val w4, .val (.int 1), .val (.int u43_6), .val (.int v59_7), .val (.ref b10), .val (.ref b21), .val (.ref b22), .val .null, .unset, .unset, .unset, .unset, .unset] [(.ref b150), (.ref b147), (.ref b147)]))) st153 ?_
        have K154 : Arv Z h153 b150 k150 .char (3 : Int32) (([(p2 &&& (255 : Int32)).toUInt32.toUInt16.toUInt32.toInt32, (((p2.toUInt32 >>> ((8 : Int32) &&& 31).toUInt32).toInt32) &&& (255 : Int32)).toUInt32.toUInt16.toUInt32.toInt32, (((p3.toUInt32 >>> ((24 : Int32) &&& 31).toUInt32).toInt32) &&& (255 : Int32)).toUInt32.toUInt16.toUInt32.toInt32] : List Int32).map Value.int) (.int 0) := V153
        have f155 := ((((A147.ext E150).wr W151).wr W152).wr W153)
        have f156 := ((((Fn149.ext E150).other W151 (Or.inl (Nat.ne_of_lt (Nat.lt_of_lt_of_le A147.lt (Nat.le_of_eq g150.symm))))).other W152 (Or.inl (Nat.ne_of_lt (Nat.lt_of_lt_of_le A147.lt (Nat.le_of_eq g150.symm))))).other W153 (Or.inl (Nat.ne_of_lt (Nat.lt_of_lt_of_le A147.lt (Nat.le_of_eq g150.symm)))))
        have f157 := ((((Fn148.ext E150).other W151 (Or.inl (Nat.ne_of_lt (Nat.lt_of_lt_of_le A147.lt (Nat.le_of_eq g150.symm))))).other W152 (Or.inl (Nat.ne_of_lt (Nat.lt_of_lt_of_le A147.lt (Nat.le_of_eq g150.symm))))).other W153 (Or.inl (Nat.ne_of_lt (Nat.lt_of_lt_of_le A147.lt (Nat.le_of_eq g150.symm)))))
        obtain ⟨_, _, ⟨T158, L158, k158, n158⟩, -, X158, ⟨Lc158, hQ158, l158, y158, z158⟩, st158⟩ := X153.specialBack hx (y := (⟨"java/lang/String", "<init>", "([C)V"⟩ : MethodName)) rfl hown (mvT hZ (Wd11 hw)) (mvT hZ (Wd12 hw)) (mvT hZ (Wd13 hw)) (by decide) (StrChars.Road.backV (W := 1) hZ hws (kI := 4) (Wd8 hw) (cs := ([(p2 &&& (255 : Int32)).toUInt32.toUInt16.toUInt32.toInt32, (((p2.toUInt32 >>> ((8 : Int32) &&& 31).toUInt32).toInt32) &&& (255 : Int32)).toUInt32.toUInt16.toUInt32.toInt32, (((p3.toUInt32 >>> ((24 : Int32) &&& 31).toUInt32).toInt32) &&& (255 : Int32)).toUInt32.toUInt16.toUInt32.toInt32] : List Int32)) (bs := ([(p2 &&& (255 : Int32)).toUInt32.toUInt16.toUInt32.toInt32, (((p2.toUInt32 >>> ((8 : Int32) &&& 31).toUInt32).toInt32) &&& (255 : Int32)).toUInt32.toUInt16.toUInt32.toInt32, (((p3.toUInt32 >>> ((24 : Int32) &&& 31).toUInt32).toInt32) &&& (255 : Int32)).toUInt32.toUInt16.toUInt32.toInt32] : List Int32).map (fun c => c.toInt8.toInt32)) (n := 3) (n0 := h0.size) (Nat.le_trans (Nat.le_trans (Nat.le_trans (Nat.le_trans (Nat.le_trans (Nat.le_trans (Nat.le_trans (Nat.le_trans (Nat.le_trans (Nat.le_trans (Nat.le_refl _) E10.1) E13.1) (Keep.of_wr W14).1) (Keep.of_wr W15).1) K20.1) K21.1) E22.1) K26.1) K87.1) (Nat.le_of_eq g147.symm)) (Nat.le_trans (Nat.le_trans (Nat.le_trans (Nat.le_trans (Nat.le_trans (Nat.le_trans (Nat.le_trans (Nat.le_trans (Nat.le_trans (Nat.le_trans (Nat.le_trans (Nat.le_trans (Nat.le_trans (Nat.le_trans (Nat.le_refl _) E10.1) E13.1) (Keep.of_wr W14).1) (Keep.of_wr W15).1) K20.1) K21.1) E22.1) K26.1) K87.1) E147.1) E150.1) (Keep.of_wr W151).1) (Keep.of_wr W152).1) (Keep.of_wr W153).1) f155 f156 f157 K154 (O2.ext ((((((((((((((X00.ext E10).ext E13).wr W14 (Nat.le_trans (Nat.le_trans (Nat.le_refl _) E10.1) (Nat.le_of_eq g13.symm))).wr W15 (Nat.le_trans (Nat.le_trans (Nat.le_refl _) E10.1) (Nat.le_of_eq g13.symm))).keep K20 (allS (Nat.le_trans (Nat.le_refl _) (Nat.le_of_eq g10.symm)) all0)).keep K21 all0).ext E22).keep K26 (allS (Nat.le_trans (Nat.le_trans (Nat.le_trans (Nat.le_trans (Nat.le_trans (Nat.le_trans (Nat.le_trans (Nat.le_refl _) E10.1) E13.1) (Keep.of_wr W14).1) (Keep.of_wr W15).1) K20.1) K21.1) (Nat.le_of_eq g22.symm)) all0)).keep K87 (allS (Nat.le_trans (Nat.le_trans (Nat.le_trans (Nat.le_trans (Nat.le_trans (Nat.le_trans (Nat.le_trans (Nat.le_refl _) E10.1) E13.1) (Keep.of_wr W14).1) (Keep.of_wr W15).1) K20.1) K21.1) (Nat.le_of_eq g22.symm)) all0)).ext E147).ext E150).wr W151 (Nat.le_trans (Nat.le_trans (Nat.le_trans (Nat.le_trans (Nat.le_trans (Nat.le_trans (Nat.le_trans (Nat.le_trans (Nat.le_trans (Nat.le_trans (Nat.le_trans (Nat.le_refl _) E10.1) E13.1) (Keep.of_wr W14).1) (Keep.of_wr W15).1) K20.1) K21.1) E22.1) K26.1) K87.1) E147.1) (Nat.le_of_eq g150.symm))).wr W152 (Nat.le_trans (Nat.le_trans (Nat.le_trans (Nat.le_trans (Nat.le_trans (Nat.le_trans (Nat.le_trans (Nat.le_trans (Nat.le_trans (Nat.le_trans (Nat.le_trans (Nat.le_refl _) E10.1) E13.1) (Keep.of_wr W14).1) (Keep.of_wr W15).1) K20.1) K21.1) E22.1) K26.1) K87.1) E147.1) (Nat.le_of_eq g150.symm))).wr W153 (Nat.le_trans (Nat.le_trans (Nat.le_trans (Nat.le_trans (Nat.le_trans (Nat.le_trans (Nat.le_trans (Nat.le_trans (Nat.le_trans (Nat.le_trans (Nat.le_trans (Nat.le_refl _) E10.1) E13.1) (Keep.of_wr W14).1) (Keep.of_wr W15).1) K20.1) K21.1) E22.1) K26.1) K87.1) E147.1) (Nat.le_of_eq g150.symm))).2) P5 rfl rfl (by decide) (by decide) (own_all3 (own_c255 _) (own_c255 _) (own_c255 _)) rfl (by decide) (by decide)) (g := (mkF m 209 #[.val (.int p0), .val (.int p1), .val (.int p2), .val (.int p3), .val (.int p4), .val (.int p5), .val (.int v11_1), .val w4, .val (.int 1), .val (.int u43_6), .val (.int v59_7), .val (.ref b10), .val (.ref b21), .val (.ref b22), .val .null, .unset, .unset, .unset, .unset, .unset] [(.ref b150), (.ref b147), (.ref b147)])) rfl (by rw [hml]; rfl) (Steps.refl _) (a := b147) (argsL := [(.ref b150)]) (rest := [(.ref b147)]) (lenOf pd20 rfl) rfl (by show 2 * 0 + _ ≤ _; exact Nat.le_of_eq rfl) (bd at_209) (fun _ _ => ⟨rfl, e153, (nl rfl), (nl rfl)⟩)
        dsimp only [Pt.U, Pt.locs, Pt.cells, Pt.slots] at X158 l158 y158 z158 st158 hQ158
        subst l158 y158 z158
        obtain ⟨rfl, Nq158, K158, E158, C158, t158, kb158, gt158, ht158, nt158, V158, A158⟩ := hQ158
        have N158 := Fr.app N153 Nq158
        have nt158_b10 : b10 ≠ t158 := Nat.ne_of_lt (Nat.lt_of_lt_of_le (Nat.lt_of_lt_of_le (Nat.lt_of_lt_of_le (Nat.lt_of_lt_of_le (Nat.lt_of_lt_of_le (Nat.lt_of_lt_of_le (Nat.lt_of_lt_of_le (Nat.lt_of_lt_of_le (Nat.lt_of_lt_of_le (Nat.lt_of_lt_of_le (Nat.lt_of_lt_of_le (Nat.lt_of_lt_of_le (Nat.lt_of_lt_of_le (Nat.lt_of_lt_of_le A10.lt E13.1) (Keep.of_wr W14).1) (Keep.of_wr W15).1) K20.1) K21.1) E22.1) K26.1) K87.1) E147.1) E150.1) (Keep.of_wr W151).1) (Keep.of_wr W152).1) (Keep.of_wr W153).1) ht158)
        have nt158_b13 : b13 ≠ t158 := Nat.ne_of_lt (Nat.lt_of_lt_of_le (Nat.lt_of_lt_of_le (Nat.lt_of_lt_of_le (Nat.lt_of_lt_of_le (Nat.lt_of_lt_of_le (Nat.lt_of_lt_of_le (Nat.lt_of_lt_of_le (Nat.lt_of_lt_of_le (Nat.lt_of_lt_of_le (Nat.lt_of_lt_of_le (Nat.lt_of_lt_of_le (Nat.lt_of_lt_of_le (Nat.lt_of_lt_of_le V13.lt (Keep.of_wr W14).1) (Keep.of_wr W15).1) K20.1) K21.1) E22.1) K26.1) K87.1) E147.1) E150.1) (Keep.of_wr W151).1) (Keep.of_wr W152).1) (Keep.of_wr W153).1) ht158)
        have nt158_t20 : t20 ≠ t158 := Nat.ne_of_lt (Nat.lt_of_lt_of_le (Nat.lt_of_lt_of_le (Nat.lt_of_lt_of_le (Nat.lt_of_lt_of_le (Nat.lt_of_lt_of_le (Nat.lt_of_lt_of_le (Nat.lt_of_lt_of_le (Nat.lt_of_lt_of_le (Nat.lt_of_lt_of_le (Nat.lt_of_lt_of_le A20.lt K21.1) E22.1) K26.1) K87.1) E147.1) E150.1) (Keep.of_wr W151).1) (Keep.of_wr W152).1) (Keep.of_wr W153).1) ht158)
        have nt158_b21 : b21 ≠ t158 := Nat.ne_of_lt (Nat.lt_of_lt_of_le (Nat.lt_of_lt_of_le (Nat.lt_of_lt_of_le (Nat.lt_of_lt_of_le (Nat.lt_of_lt_of_le (Nat.lt_of_lt_of_le (Nat.lt_of_lt_of_le (Nat.lt_of_lt_of_le (Nat.lt_of_lt_of_le E21.lt E22.1) K26.1) K87.1) E147.1) E150.1) (Keep.of_wr W151).1) (Keep.of_wr W152).1) (Keep.of_wr W153).1) ht158)
        have nt158_t21 : t21 ≠ t158 := Nat.ne_of_lt (Nat.lt_of_lt_of_le (Nat.lt_of_lt_of_le (Nat.lt_of_lt_of_le (Nat.lt_of_lt_of_le (Nat.lt_of_lt_of_le (Nat.lt_of_lt_of_le (Nat.lt_of_lt_of_le (Nat.lt_of_lt_of_le (Nat.lt_of_lt_of_le A21.lt E22.1) K26.1) K87.1) E147.1) E150.1) (Keep.of_wr W151).1) (Keep.of_wr W152).1) (Keep.of_wr W153).1) ht158)
        have nt158_b22 : b22 ≠ t158 := Nat.ne_of_lt (Nat.lt_of_lt_of_le (Nat.lt_of_lt_of_le (Nat.lt_of_lt_of_le (Nat.lt_of_lt_of_le (Nat.lt_of_lt_of_le (Nat.lt_of_lt_of_le (Nat.lt_of_lt_of_le (Nat.lt_of_lt_of_le A22.lt K26.1) K87.1) E147.1) E150.1) (Keep.of_wr W151).1) (Keep.of_wr W152).1) (Keep.of_wr W153).1) ht158)
        have nt158_b87 : b87 ≠ t158 := Nat.ne_of_lt (Nat.lt_of_lt_of_le (Nat.lt_of_lt_of_le (Nat.lt_of_lt_of_le (Nat.lt_of_lt_of_le (Nat.lt_of_lt_of_le (Nat.lt_of_lt_of_le A87.lt E147.1) E150.1) (Keep.of_wr W151).1) (Keep.of_wr W152).1) (Keep.of_wr W153).1) ht158)
        have nt158_b150 : b150 ≠ t158 := Nat.ne_of_lt (Nat.lt_of_lt_of_le (Nat.lt_of_lt_of_le (Nat.lt_of_lt_of_le (Nat.lt_of_lt_of_le V150.lt (Keep.of_wr W151).1) (Keep.of_wr W152).1) (Keep.of_wr W153).1) ht158)
        refine OD.via st158 ?_
        refine OD.go (B := (T158.setTop (mkF m 214 #[.val (.int p0), .val (.int p1), .val (.int p2), .val (.int p3), .val (.int p4), .val (.int p5), .val (.int v11_1), .val w4, .val (.int 1), .val (.int u43_6), .val (.int v59_7), .val (.ref b10), .val (.ref b21), .val (.ref b22), .val (.ref b147), .unset, .unset, .unset, .unset, .unset] []))) (fun t k => XS.astore X158.here hx rfl (bd at_212) rfl rfl (l' := #[.val (.int p0), .val (.int p1), .val (.int p2), .val (.int p3), .val (.int p4), .val (.int p5), .val (.int v11_1), .val w4, .val (.int 1), .val (.int u43_6), .val (.int v59_7), .val (.ref b10), .val (.ref b21), .val (.ref b22), .val (.ref b147), .unset, .unset, .unset, .unset, .unset]) rfl k) ?_
        exact tail _ _ _ (.ref b147) (X158.more (nl rfl) (nl rfl)) rfl N158 (((((((Keep.refl T87.heap []).ext E147).ext E150).wr W151 (Or.inr (Nat.le_trans (Nat.le_trans (Nat.le_refl _) E147.1) (Nat.le_of_eq g150.symm)))).wr W152 (Or.inr (Nat.le_trans (Nat.le_trans (Nat.le_refl _) E147.1) (Nat.le_of_eq g150.symm)))).wr W153 (Or.inr (Nat.le_trans (Nat.le_trans (Nat.le_refl _) E147.1) (Nat.le_of_eq g150.symm)))).trans K158 (allS (Or.inr (Nat.le_trans (Nat.le_refl _) (Nat.le_of_eq g147.symm))) all0)) rfl
      · refine OD.go (B := (T87.setTop (mkF m 214 #[.val (.int p0), .val (.int p1), .val (.int p2), .val (.int p3), .val (.int p4), .val (.int p5), .val (.int v11_1), .val w4, .val (.int 1), .val (.int u43_6), .val (.int v59_7), .val (.ref b10), .val (.ref b21), .val (.ref b22), .val .null, .unset, .unset, .unset, .unset, .unset] []))) (fun t k => XS.icmpYes X87.here hx rfl (pc0 := 166) (pc' := 214) rfl (bd at_166) rfl (feq c166_146).2 (by decide) (by decide) k) ?_
        exact tail _ _ _ .null (X87.more (nl rfl) (nl rfl)) rfl N87 (Keep.refl T87.heap []) rfl
  · show OD _ _ _ _ _ _ _ (T26.setTop (mkF m 117 #[.val (.int p0), .val (.int p1), .val (.int p2), .val (.int p3), .val (.int p4), .val (.int p5), .val (.int v11_1), .val w4, .val (.int 2), .val (.int u43_6), .val (.int v59_7), .val (.ref b10), .val (.ref b21), .val (.ref b22), .unset, .unset, .unset, .unset, .unset, .unset] []))
    refine OD.go (B := (T26.setTop (mkF m 127 #[.val (.int p0), .val (.int p1), .val (.int p2), .val (.int p3), .val (.int p4), .val (.int p5), .val (.int v11_1), .val w4, .val (.int 2), .val (.int u43_6), .val (.int v59_7), .val (.ref b10), .val (.ref b21), .val (.ref b22), .unset, .unset, .unset, .unset, .unset, .unset] [(.ref b10), (.ref b22)]))) (fun t k => XS.iload X26.here hx rfl (bd at_117) rfl (XS.iconst X26.here hx rfl (bd at_119) (XS.icmpNo X26.here hx rfl (bd at_120) rfl (flt (by decide : ¬ (2 : Int32) < (1 : Int32))).1 (XS.aload X26.here hx rfl (bd at_123) rfl rfl (XS.aload X26.here hx rfl (bd at_125) rfl rfl k))))) ?_
    have f159 := (A22.keep K26)
    have f160 := (((E20.keep K21).ext E22).keep K26)
    obtain ⟨cq161, kq161, qa161, qb161, qc161⟩ := isOf hZ rfl f159
    obtain ⟨_, _, ⟨T161, L161, k161, n161⟩, -, X161, ⟨Lc161, hQ161, l161, y161, z161⟩, st161⟩ := X26.virtualBack hx (y := (⟨cA, "add", "(Ljava/lang/Object;)Z"⟩ : MethodName)) (z := (⟨cA, "add", "(Ljava/lang/Object;)Z"⟩ : MethodName)) hown (mvT hZ (Wd190 hw)) (mvT hZ (Wd191 hw)) (notFace_of_selects (args := #[]) (mvT hZ (Wd193 hw))) (mvT hZ (Wd193 hw)) (mvT hZ (Wd192 hw)) (by decide) (backOf (W := 0) (rmA1_0 l Z a0 hw [] b22 b10 T26.heap dc kd h0.size (Nat.le_trans (Nat.le_trans (Nat.le_trans (Nat.le_trans (Nat.le_trans (Nat.le_trans (Nat.le_trans (Nat.le_trans (Nat.le_refl _) E10.1) E13.1) (Keep.of_wr W14).1) (Keep.of_wr W15).1) K20.1) K21.1) E22.1) K26.1) f159 (Nat.le_trans (Nat.le_trans (Nat.le_trans (Nat.le_trans (Nat.le_trans (Nat.le_trans (Nat.le_trans (Nat.le_refl _) E10.1) E13.1) (Keep.of_wr W14).1) (Keep.of_wr W15).1) K20.1) K21.1) (Nat.le_of_eq g22.symm)) G1_26 G2_26 f160 G0_26 ((((((((X00.ext E10).ext E13).wr W14 (Nat.le_trans (Nat.le_trans (Nat.le_refl _) E10.1) (Nat.le_of_eq g13.symm))).wr W15 (Nat.le_trans (Nat.le_trans (Nat.le_refl _) E10.1) (Nat.le_of_eq g13.symm))).keep K20 (allS (Nat.le_trans (Nat.le_refl _) (Nat.le_of_eq g10.symm)) all0)).keep K21 all0).ext E22).keep K26 (allS (Nat.le_trans (Nat.le_trans (Nat.le_trans (Nat.le_trans (Nat.le_trans (Nat.le_trans (Nat.le_trans (Nat.le_refl _) E10.1) E13.1) (Keep.of_wr W14).1) (Keep.of_wr W15).1) K20.1) K21.1) (Nat.le_of_eq g22.symm)) all0)) Odc Adc) hZ (Wd194 hw) (Wd53 hw) (by decide) (by decide)) qa161 qc161 (g := (mkF m 127 #[.val (.int p0), .val (.int p1), .val (.int p2), .val (.int p3), .val (.int p4), .val (.int p5), .val (.int v11_1), .val w4, .val (.int 2), .val (.int u43_6), .val (.int v59_7), .val (.ref b10), .val (.ref b21), .val (.ref b22), .unset, .unset, .unset, .unset, .unset, .unset] [(.ref b10), (.ref b22)])) rfl (by rw [hml]; rfl) (Steps.refl _) (argsL := [(.ref b10)]) (rest := []) (lenOf pd31 rfl) rfl (by show 2 * 0 + _ ≤ _; exact Nat.le_of_eq rfl) (bd at_127) (fun _ _ => ⟨rfl, rfl, (nl rfl), (nl rfl)⟩)
    dsimp only [Pt.U, Pt.locs, Pt.cells, Pt.slots] at X161 l161 y161 z161 st161 hQ161
    subst l161 y161 z161
    obtain ⟨b161, k161', rfl, Nq161, K161, ob161, G161, S161, A161, O161, M161⟩ := hQ161
    have N161 := Fr.app N26 Nq161
    have gb161 : h0.size ≤ b161 := Nat.le_trans (Nat.le_trans (Nat.le_trans (Nat.le_trans (Nat.le_trans (Nat.le_trans (Nat.le_trans (Nat.le_trans (Nat.le_trans (Nat.le_refl _) E10.1) E13.1) (Keep.of_wr W14).1) (Keep.of_wr W15).1) K20.1) K21.1) E22.1) K26.1) ob161
    have nb161_b10 : b10 ≠ b161 := Nat.ne_of_lt (Nat.lt_of_lt_of_le (Nat.lt_of_lt_of_le (Nat.lt_of_lt_of_le (Nat.lt_of_lt_of_le (Nat.lt_of_lt_of_le (Nat.lt_of_lt_of_le (Nat.lt_of_lt_of_le (Nat.lt_of_lt_of_le A10.lt E13.1) (Keep.of_wr W14).1) (Keep.of_wr W15).1) K20.1) K21.1) E22.1) K26.1) ob161)
    have nb161_b13 : b13 ≠ b161 := Nat.ne_of_lt (Nat.lt_of_lt_of_le (Nat.lt_of_lt_of_le (Nat.lt_of_lt_of_le (Nat.lt_of_lt_of_le (Nat.lt_of_lt_of_le (Nat.lt_of_lt_of_le (Nat.lt_of_lt_of_le V13.lt (Keep.of_wr W14).1) (Keep.of_wr W15).1) K20.1) K21.1) E22.1) K26.1) ob161)
    have nb161_t20 : t20 ≠ b161 := Nat.ne_of_lt (Nat.lt_of_lt_of_le (Nat.lt_of_lt_of_le (Nat.lt_of_lt_of_le (Nat.lt_of_lt_of_le A20.lt K21.1) E22.1) K26.1) ob161)
    have nb161_b21 : b21 ≠ b161 := Nat.ne_of_lt (Nat.lt_of_lt_of_le (Nat.lt_of_lt_of_le (Nat.lt_of_lt_of_le E21.lt E22.1) K26.1) ob161)
    have nb161_t21 : t21 ≠ b161 := Nat.ne_of_lt (Nat.lt_of_lt_of_le (Nat.lt_of_lt_of_le (Nat.lt_of_lt_of_le A21.lt E22.1) K26.1) ob161)
    have nb161_b22 : b22 ≠ b161 := Nat.ne_of_lt (Nat.lt_of_lt_of_le (Nat.lt_of_lt_of_le A22.lt K26.1) ob161)
    refine OD.via st161 ?_
    refine OD.go (B := (T161.setTop (mkF m 141 #[.val (.int p0), .val (.int p1), .val (.int p2), .val (.int p3), .val (.int p4), .val (.int p5), .val (.int v11_1), .val w4, .val (.int 2), .val (.int u43_6), .val (.int v59_7), .val (.ref b10), .val (.ref b21), .val (.ref b22), .unset, .unset, .unset, .unset, .unset, .unset] [(.ref b21), (.ref b22)]))) (fun t k => XS.pop X161.here hx rfl (bd at_130) rfl rfl (XS.iload X161.here hx rfl (bd at_131) rfl (XS.iconst X161.here hx rfl (bd at_133) (XS.icmpNo X161.here hx rfl (bd at_134) rfl (flt (by decide : ¬ (2 : Int32) < (2 : Int32))).1 (XS.aload X161.here hx rfl (bd at_137) rfl rfl (XS.aload X161.here hx rfl (bd at_139) rfl rfl k)))))) ?_
    have f162 := (f159.keep K161)
    have f163 := (((E21.ext E22).keep K26).keep K161)
    obtain ⟨cq164, kq164, qa164, qb164, qc164⟩ := isOf hZ rfl f162
    obtain ⟨_, _, ⟨T164, L164, k164, n164⟩, -, X164, ⟨Lc164, hQ164, l164, y164, z164⟩, st164⟩ := X161.virtualBack hx (y := (⟨cA, "add", "(Ljava/lang/Object;)Z"⟩ : MethodName)) (z := (⟨cA, "add", "(Ljava/lang/Object;)Z"⟩ : MethodName)) hown (mvT hZ (Wd190 hw)) (mvT hZ (Wd191 hw)) (notFace_of_selects (args := #[]) (mvT hZ (Wd193 hw))) (mvT hZ (Wd193 hw)) (mvT hZ (Wd192 hw)) (by decide) (backOf (W := 0) (rmA1_1 l Z a0 hw [] b22 b21 T161.heap h0.size (Nat.le_trans (Nat.le_trans (Nat.le_trans (Nat.le_trans (Nat.le_trans (Nat.le_trans (Nat.le_trans (Nat.le_trans (Nat.le_trans (Nat.le_refl _) E10.1) E13.1) (Keep.of_wr W14).1) (Keep.of_wr W15).1) K20.1) K21.1) E22.1) K26.1) K161.1) f162 (Nat.le_trans (Nat.le_trans (Nat.le_trans (Nat.le_trans (Nat.le_trans (Nat.le_trans (Nat.le_trans (Nat.le_refl _) E10.1) E13.1) (Keep.of_wr W14).1) (Keep.of_wr W15).1) K20.1) K21.1) (Nat.le_of_eq g22.symm)) S161 f163 b10 b161 k161' A161 O161 gb161 nb161_b22 G161 M161) hZ (Wd194 hw) (Wd53 hw) (by decide) (by decide)) qa164 qc164 (g := (mkF m 141 #[.val (.int p0), .val (.int p1), .val (.int p2), .val (.int p3), .val (.int p4), .val (.int p5), .val (.int v11_1), .val w4, .val (.int 2), .val (.int u43_6), .val (.int v59_7), .val (.ref b10), .val (.ref b21), .val (.ref b22), .unset, .unset, .unset, .unset, .unset, .unset] [(.ref b21), (.ref b22)])) rfl (by rw [hml]; rfl) (Steps.refl _) (argsL := [(.ref b21)]) (rest := []) (lenOf pd31 rfl) rfl (by show 2 * 0 + _ ≤ _; exact Nat.le_of_eq rfl) (bd at_141) (fun _ _ => ⟨rfl, rfl, (nl rfl), (nl rfl)⟩)
    dsimp only [Pt.U, Pt.locs, Pt.cells, Pt.slots] at X164 l164 y164 z164 st164 hQ164
    subst l164 y164 z164
    obtain ⟨rfl, Nq164, K164, S164, A164, G164, M164⟩ := hQ164
    have N164 := Fr.app N161 Nq164
    refine OD.via st164 ?_
    refine OD.go (B := (T164.setTop (mkF m 148 #[.val (.int p0), .val (.int p1), .val (.int p2), .val (.int p3), .val (.int p4), .val (.int p5), .val (.int v11_1), .val w4, .val (.int 2), .val (.int u43_6), .val (.int v59_7), .val (.ref b10), .val (.ref b21), .val (.ref b22), .val .null, .unset, .unset, .unset, .unset, .unset] []))) (fun t k => XS.pop X164.here hx rfl (bd at_144) rfl rfl (XS.aconstNull X164.here hx rfl (bd at_145) (XS.astore X164.here hx rfl (bd at_146) rfl rfl (l' := #[.val (.int p0), .val (.int p1), .val (.int p2), .val (.int p3), .val (.int p4), .val (.int p5), .val (.int v11_1), .val w4, .val (.int 2), .val (.int u43_6), .val (.int v59_7), .val (.ref b10), .val (.ref b21), .val (.ref b22), .val .null, .unset, .unset, .unset, .unset, .unset]) rfl k))) ?_
    have tail : ∀ (Tt : State) (ht : Heap) (Lt : List Loc) (vt : Value) (Xt : Stand p l e room_1 s m #[(.int p0), (.int p1), (.int p2), (.int p3), (.int p4), (.int p5)] below meth c Tt Lt 16 80) (et : Tt.heap = ht) (Nt : Fr h0.size Lt) (Kt : Keep T164.heap ht []) (rt : vt.isRef = true), OD p e s below (Q_rm0 Z p0 p1 p2 p3 p4 p5 h0) 40 192 (Tt.setTop (mkF m 214 #[.val (.int p0), .val (.int p1), .val (.int p2), .val (.int p3), .val (.int p4), .val (.int p5), .val (.int v11_1), .val w4, .val (.int 2), .val (.int u43_6), .val (.int v59_7), .val (.ref b10), .val (.ref b21), .val (.ref b22), .val vt, .unset, .unset, .unset, .unset, .unset] [])) := by
      intro Tt ht Lt vt Xt et Nt Kt rt
      have szt : h0.size ≤ ht.size := (Nat.le_trans (Nat.le_trans (Nat.le_trans (Nat.le_trans (Nat.le_trans (Nat.le_trans (Nat.le_trans (Nat.le_trans (Nat.le_trans (Nat.le_trans (Nat.le_trans (Nat.le_refl _) E10.1) E13.1) (Keep.of_wr W14).1) (Keep.of_wr W15).1) K20.1) K21.1) E22.1) K26.1) K161.1) K164.1) Kt.1)
      have oldt : Old Z h0.size ht := (((((((((((X00.ext E10).ext E13).wr W14 (Nat.le_trans (Nat.le_trans (Nat.le_refl _) E10.1) (Nat.le_of_eq g13.symm))).wr W15 (Nat.le_trans (Nat.le_trans (Nat.le_refl _) E10.1) (Nat.le_of_eq g13.symm))).keep K20 (allS (Nat.le_trans (Nat.le_refl _) (Nat.le_of_eq g10.symm)) all0)).keep K21 all0).ext E22).keep K26 (allS (Nat.le_trans (Nat.le_trans (Nat.le_trans (Nat.le_trans (Nat.le_trans (Nat.le_trans (Nat.le_trans (Nat.le_refl _) E10.1) E13.1) (Keep.of_wr W14).1) (Keep.of_wr W15).1) K20.1) K21.1) (Nat.le_of_eq g22.symm)) all0)).keep K161 (allS (Nat.le_trans (Nat.le_trans (Nat.le_trans (Nat.le_trans (Nat.le_trans (Nat.le_trans (Nat.le_trans (Nat.le_refl _) E10.1) E13.1) (Keep.of_wr W14).1) (Keep.of_wr W15).1) K20.1) K21.1) (Nat.le_of_eq g22.symm)) all0)).keep K164 (allS (Nat.le_trans (Nat.le_trans (Nat.le_trans (Nat.le_trans (Nat.le_trans (Nat.le_trans (Nat.le_trans (Nat.le_refl _) E10.1) E13.1) (Keep.of_wr W14).1) (Keep.of_wr W15).1) K20.1) K21.1) (Nat.le_of_eq g22.symm)) (allS gb161 all0))).keep Kt all0)
      have g165 := (((f160.keep K161).keep K164).keep Kt)
      have gag165 : h0.size ≤ b10 := (Nat.le_trans (Nat.le_refl _) (Nat.le_of_eq g10.symm))
      have g166 := ((f163.keep K164).keep Kt)
      have gag166 : h0.size ≤ b21 := gb21
      have g167 := ((f162.keep K164).keep Kt)
      have gag167 : h0.size ≤ b22 := (Nat.le_trans (Nat.le_trans (Nat.le_trans (Nat.le_trans (Nat.le_trans (Nat.le_trans (Nat.le_trans (Nat.le_refl _) E10.1) E13.1) (Keep.of_wr W14).1) (Keep.of_wr W15).1) K20.1) K21.1) (Nat.le_of_eq g22.symm))
      have g168 := (S164.keep Kt nin0)
      have g169 := (G164.keep Kt nin0)
      have g170 := (A164.keep Kt nin0)
      have gag170 : h0.size ≤ b161 := gb161
      have tail2 : ∀ (Tu : State) (hu : Heap) (Lu : List Loc) (x lb : Addr) (lm : Value) (Xu : Stand p l e room_1 s m #[(.int p0), (.int p1), (.int p2), (.int p3), (.int p4), (.int p5)] below meth c Tu Lu 24 120) (eu : Tu.heap = hu) (Nu : Fr h0.size Lu) (Ku : Keep ht hu []) (rlm : lm.isRef = true) (Eu : Exa Z hu x cS) (f0 : Fld Z hu x cS "connected" "Z" (.int (nar .boolean v11_1))) (f1 : Fld Z hu x cS "severity" dV w4) (f2 : Fld Z hu x cS "precision" "I" (.int p1)) (f3 : Fld Z hu x cS "labels" "Ljava/util/List;" (.ref lb)) (f4 : Fld Z hu x cS "value" oO vt) (f5 : Fld Z hu x cS "limits" dD lm) (El : Exa Z hu lb c2) (e0 : Fld Z hu lb c2 "e0" oO (.ref b10)) (e1 : Fld Z hu lb c2 "e1" oO (.ref b21)) (hlm : lm = .null ∨ ∃ d, lm = .ref d ∧ Exa Z hu d cD ∧ Fld Z hu d cD "lower" "D" (.double (FP.i2d p4)) ∧ Fld Z hu d cD "upper" "D" (.double (FP.i2d p5))), OD p e s below (Q_rm0 Z p0 p1 p2 p3 p4 p5 h0) 40 192 (Tu.setTop (mkF m 278 #[.val (.int p0), .val (.int p1), .val (.int p2), .val (.int p3), .val (.int p4), .val (.int p5), .val (.int v11_1), .val w4, .val (.int 2), .val (.int u43_6), .val (.int v59_7), .val (.ref b10), .val (.ref b21), .val (.ref b22), .val vt, .val lm, .val (.ref x), .unset, .unset, .unset] [])) := by
        intro Tu hu Lu x lb lm Xu eu Nu Ku rlm Eu f0 f1 f2 f3 f4 f5 El e0 e1 hlm
        refine OD.go (B := (Tu.setTop (mkF m 280 #[.val (.int p0), .val (.int p1), .val (.int p2), .val (.int p3), .val (.int p4), .val (.int p5), .val (.int v11_1), .val w4, .val (.int 2), .val (.int u43_6), .val (.int v59_7), .val (.ref b10), .val (.ref b21), .val (.ref b22), .val vt, .val lm, .val (.ref x), .unset, .unset, .unset] [(.ref x)]))) (fun t k => XS.aload Xu.here hx rfl (bd at_278) rfl rfl k) ?_
        obtain ⟨cq171, kq171, qa171, qb171, qc171⟩ := isOf hZ eu Eu
        obtain ⟨_, _, ⟨T171, L171, k171, n171⟩, -, X171, ⟨Lc171, hQ171, l171, y171, z171⟩, st171⟩ := Xu.virtualBack hx (y := (⟨cS, "lost", zZ7⟩ : MethodName)) (z := (⟨cS, "lost", zZ7⟩ : MethodName)) hown (mvT hZ (Wd131 hw)) (mvT hZ (Wd132 hw)) (notFace_of_selects (args := #[]) (mvT hZ (Wd134 hw))) (mvT hZ (Wd134 hw)) (mvT hZ (Wd133 hw)) (by decide) (backOf (W := 0) (rmLs_L l Z a0 hw [] x hu h0.size (Nat.le_trans szt Ku.1) (oldt.keep Ku all0) Eu (nar .boolean v11_1) w4 r4 p1 lb vt rt lm rlm El f0 f1 f2 f3 f4 f5) hZ (Wd135 hw) (Wd77 hw) (by decide) (by decide)) qa171 qc171 (g := (mkF m 280 #[.val (.int p0), .val (.int p1), .val (.int p2), .val (.int p3), .val (.int p4), .val (.int p5), .val (.int v11_1), .val w4, .val (.int 2), .val (.int u43_6), .val (.int v59_7), .val (.ref b10), .val (.ref b21), .val (.ref b22), .val vt, .val lm, .val (.ref x), .unset, .unset, .unset] [(.ref x)])) rfl (by rw [hml]; rfl) (Steps.refl _) (argsL := []) (rest := []) (lenOf pd22 rfl) rfl (by show 2 * 0 + _ ≤ _; exact Nat.le_of_eq rfl) (bd at_280) (fun _ _ => ⟨rfl, eu, (nl rfl), (nl rfl)⟩)
        dsimp only [Pt.U, Pt.locs, Pt.cells, Pt.slots] at X171 l171 y171 z171 st171 hQ171
        subst l171 y171 z171
        obtain ⟨b171, rfl, Nq171, K171, ob171, E171, C0_171, C1_171, C2_171, C3_171, C4_171, C5_171⟩ := hQ171
        have N171 := Fr.app Nu Nq171
        have gb171 : h0.size ≤ b171 := Nat.le_trans (Nat.le_trans szt Ku.1) ob171
        refine OD.via st171 ?_
        refine OD.go (B := (T171.setTop (mkF m 287 #[.val (.int p0), .val (.int p1), .val (.int p2), .val (.int p3), .val (.int p4), .val (.int p5), .val (.int v11_1), .val w4, .val (.int 2), .val (.int u43_6), .val (.int v59_7), .val (.ref b10), .val (.ref b21), .val (.ref b22), .val vt, .val lm, .val (.ref x), .val (.ref b171), .unset, .unset] [(.ref b171)]))) (fun t k => XS.astore X171.here hx rfl (bd at_283) rfl rfl (l' := #[.val (.int p0), .val (.int p1), .val (.int p2), .val (.int p3), .val (.int p4), .val (.int p5), .val (.int v11_1), .val w4, .val (.int 2), .val (.int u43_6), .val (.int v59_7), .val (.ref b10), .val (.ref b21), .val (.ref b22), .val vt, .val lm, .val (.ref x), .val (.ref b171), .unset, .unset]) rfl (XS.aload X171.here hx rfl (bd at_285) rfl rfl k)) ?_
        obtain ⟨cq172, kq172, qa172, qb172, qc172⟩ := isOf hZ rfl E171
        obtain ⟨_, _, ⟨T172, L172, k172, n172⟩, -, X172, ⟨Lc172, hQ172, l172, y172, z172⟩, st172⟩ := X171.virtualBack hx (y := (⟨cS, "connected", "()Z"⟩ : MethodName)) (z := (⟨cS, "connected", "()Z"⟩ : MethodName)) hown (mvT hZ (Wd145 hw)) (mvT hZ (Wd146 hw)) (notFace_of_selects (args := #[]) (mvT hZ (Wd148 hw))) (mvT hZ (Wd148 hw)) (mvT hZ (Wd147 hw)) (by decide) (backOf (W := 0) (rmX0 l Z a0 hw [] b171 T171.heap  C0_171) hZ (Wd149 hw) (Wd77 hw) (by decide) (by decide)) qa172 qc172 (g := (mkF m 287 #[.val (.int p0), .val (.int p1), .val (.int p2), .val (.int p3), .val (.int p4), .val (.int p5), .val (.int v11_1), .val w4, .val (.int 2), .val (.int u43_6), .val (.int v59_7), .val (.ref b10), .val (.ref b21), .val (.ref b22), .val vt, .val lm, .val (.ref x), .val (.ref b171), .unset, .unset] [(.ref b171)])) rfl (by rw [hml]; rfl) (Steps.refl _) (argsL := []) (rest := []) (lenOf pd14 rfl) rfl (by show 2 * 0 + _ ≤ _; exact Nat.le_of_eq rfl) (bd at_287) (fun _ _ => ⟨rfl, rfl, (nl rfl), (nl rfl)⟩)
        dsimp only [Pt.U, Pt.locs, Pt.cells, Pt.slots] at X172 l172 y172 z172 st172 hQ172
        subst l172 y172 z172
        obtain ⟨rfl, rfl, e172⟩ := hQ172
        have N172 := Fr.app N171 (Fr.nil _)
        refine OD.via st172 ?_
        refine OD.go (B := (T172.setTop (mkF m 297 #[.val (.int p0), .val (.int p1), .val (.int p2), .val (.int p3), .val (.int p4), .val (.int p5), .val (.int v11_1), .val w4, .val (.int 2), .val (.int u43_6), .val (.int v59_7), .val (.ref b10), .val (.ref b21), .val (.ref b22), .val vt, .val lm, .val (.ref x), .val (.ref b171), .unset, .unset] [(.ref b171)]))) (fun t k => XS.ifYes X172.here hx rfl (pc0 := 290) (pc' := 295) rfl (bd at_290) rfl (by rw [if0]; exact (teq (by decide : (0 : Int32) = (0 : Int32))).1) (by decide) (by decide) (XS.aload X172.here hx rfl (bd at_295) rfl rfl k)) ?_
        obtain ⟨cq173, kq173, qa173, qb173, qc173⟩ := isOf hZ e172 E171
        obtain ⟨_, _, ⟨T173, L173, k173, n173⟩, -, X173, ⟨Lc173, hQ173, l173, y173, z173⟩, st173⟩ := X172.virtualBack hx (y := (⟨cS, "severity", zZ9⟩ : MethodName)) (z := (⟨cS, "severity", zZ9⟩ : MethodName)) hown (mvT hZ (Wd150 hw)) (mvT hZ (Wd151 hw)) (notFace_of_selects (args := #[]) (mvT hZ (Wd153 hw))) (mvT hZ (Wd153 hw)) (mvT hZ (Wd152 hw)) (by decide) (backOf (W := 0) (rmX1 l Z a0 hw [] b171 T171.heap w4 r4 C1_171) hZ (Wd154 hw) (Wd77 hw) (by decide) (by decide)) qa173 qc173 (g := (mkF m 297 #[.val (.int p0), .val (.int p1), .val (.int p2), .val (.int p3), .val (.int p4), .val (.int p5), .val (.int v11_1), .val w4, .val (.int 2), .val (.int u43_6), .val (.int v59_7), .val (.ref b10), .val (.ref b21), .val (.ref b22), .val vt, .val lm, .val (.ref x), .val (.ref b171), .unset, .unset] [(.ref b171)])) rfl (by rw [hml]; rfl) (Steps.refl _) (argsL := []) (rest := []) (lenOf pd23 rfl) rfl (by show 2 * 0 + _ ≤ _; exact Nat.le_of_eq rfl) (bd at_297) (fun _ _ => ⟨rfl, e172, (nl rfl), (nl rfl)⟩)
        dsimp only [Pt.U, Pt.locs, Pt.cells, Pt.slots] at X173 l173 y173 z173 st173 hQ173
        subst l173 y173 z173
        obtain ⟨rfl, rfl, e173⟩ := hQ173
        have N173 := Fr.app N172 (Fr.nil _)
        refine OD.via st173 ?_
        refine OD.go (B := (T173.setTop (mkF m 309 #[.val (.int p0), .val (.int p1), .val (.int p2), .val (.int p3), .val (.int p4), .val (.int p5), .val (.int v11_1), .val w4, .val (.int 2), .val (.int u43_6), .val (.int v59_7), .val (.ref b10), .val (.ref b21), .val (.ref b22), .val vt, .val lm, .val (.ref x), .val (.ref b171), .unset, .unset] [(.ref b171)]))) (fun t k => XS.aload X173.here hx rfl (bd at_300) rfl (r4) (RoadKit.acmp X173 hx rfl (x := w4) (y := w4) r4 r4 (pc0 := 302) (pc' := 307) (same := true) rfl (bd at_302) rfl (by simp) (by decide) (by decide) (XS.aload X173.here hx rfl (bd at_307) rfl rfl k))) ?_
        obtain ⟨cq174, kq174, qa174, qb174, qc174⟩ := isOf hZ e173 E171
        obtain ⟨_, _, ⟨T174, L174, k174, n174⟩, -, X174, ⟨Lc174, hQ174, l174, y174, z174⟩, st174⟩ := X173.virtualBack hx (y := (⟨cS, "precision", "()I"⟩ : MethodName)) (z := (⟨cS, "precision", "()I"⟩ : MethodName)) hown (mvT hZ (Wd155 hw)) (mvT hZ (Wd156 hw)) (notFace_of_selects (args := #[]) (mvT hZ (Wd158 hw))) (mvT hZ (Wd158 hw)) (mvT hZ (Wd157 hw)) (by decide) (backOf (W := 0) (rmX2 l Z a0 hw [] b171 T171.heap p1 C2_171) hZ (Wd159 hw) (Wd77 hw) (by decide) (by decide)) qa174 qc174 (g := (mkF m 309 #[.val (.int p0), .val (.int p1), .val (.int p2), .val (.int p3), .val (.int p4), .val (.int p5), .val (.int v11_1), .val w4, .val (.int 2), .val (.int u43_6), .val (.int v59_7), .val (.ref b10), .val (.ref b21), .val (.ref b22), .val vt, .val lm, .val (.ref x), .val (.ref b171), .unset, .unset] [(.ref b171)])) rfl (by rw [hml]; rfl) (Steps.refl _) (argsL := []) (rest := []) (lenOf pd24 rfl) rfl (by show 2 * 0 + _ ≤ _; exact Nat.le_of_eq rfl) (bd at_309) (fun _ _ => ⟨rfl, e173, (nl rfl), (nl rfl)⟩)
        dsimp only [Pt.U, Pt.locs, Pt.cells, Pt.slots] at X174 l174 y174 z174 st174 hQ174
        subst l174 y174 z174
        obtain ⟨rfl, rfl, e174⟩ := hQ174
        have N174 := Fr.app N173 (Fr.nil _)
        refine OD.via st174 ?_
        refine OD.go (B := (T174.setTop (mkF m 320 #[.val (.int p0), .val (.int p1), .val (.int p2), .val (.int p3), .val (.int p4), .val (.int p5), .val (.int v11_1), .val w4, .val (.int 2), .val (.int u43_6), .val (.int v59_7), .val (.ref b10), .val (.ref b21), .val (.ref b22), .val vt, .val lm, .val (.ref x), .val (.ref b171), .unset, .unset] [(.ref b171)]))) (fun t k => XS.iloadN X174.here hx rfl (bd at_312) rfl (XS.icmpYes X174.here hx rfl (pc0 := 313) (pc' := 318) rfl (bd at_313) rfl (teq rfl).1 (by decide) (by decide) (XS.aload X174.here hx rfl (bd at_318) rfl rfl k))) ?_
        obtain ⟨cq175, kq175, qa175, qb175, qc175⟩ := isOf hZ e174 E171
        obtain ⟨_, _, ⟨T175, L175, k175, n175⟩, -, X175, ⟨Lc175, hQ175, l175, y175, z175⟩, st175⟩ := X174.virtualBack hx (y := (⟨cS, "value", "()Ljava/lang/Object;"⟩ : MethodName)) (z := (⟨cS, "value", "()Ljava/lang/Object;"⟩ : MethodName)) hown (mvT hZ (Wd160 hw)) (mvT hZ (Wd161 hw)) (notFace_of_selects (args := #[]) (mvT hZ (Wd163 hw))) (mvT hZ (Wd163 hw)) (mvT hZ (Wd162 hw)) (by decide) (backOf (W := 0) (rmX4 l Z a0 hw [] b171 T171.heap vt rt C4_171) hZ (Wd164 hw) (Wd77 hw) (by decide) (by decide)) qa175 qc175 (g := (mkF m 320 #[.val (.int p0), .val (.int p1), .val (.int p2), .val (.int p3), .val (.int p4), .val (.int p5), .val (.int v11_1), .val w4, .val (.int 2), .val (.int u43_6), .val (.int v59_7), .val (.ref b10), .val (.ref b21), .val (.ref b22), .val vt, .val lm, .val (.ref x), .val (.ref b171), .unset, .unset] [(.ref b171)])) rfl (by rw [hml]; rfl) (Steps.refl _) (argsL := []) (rest := []) (lenOf pd25 rfl) rfl (by show 2 * 0 + _ ≤ _; exact Nat.le_of_eq rfl) (bd at_320) (fun _ _ => ⟨rfl, e174, (nl rfl), (nl rfl)⟩)
        dsimp only [Pt.U, Pt.locs, Pt.cells, Pt.slots] at X175 l175 y175 z175 st175 hQ175
        subst l175 y175 z175
        obtain ⟨rfl, rfl, e175⟩ := hQ175
        have N175 := Fr.app N174 (Fr.nil _)
        refine OD.via st175 ?_
        refine OD.go (B := (T175.setTop (mkF m 332 #[.val (.int p0), .val (.int p1), .val (.int p2), .val (.int p3), .val (.int p4), .val (.int p5), .val (.int v11_1), .val w4, .val (.int 2), .val (.int u43_6), .val (.int v59_7), .val (.ref b10), .val (.ref b21), .val (.ref b22), .val vt, .val lm, .val (.ref x), .val (.ref b171), .unset, .unset] [(.ref b171)]))) (fun t k => XS.aload X175.here hx rfl (bd at_323) rfl (rt) (RoadKit.acmp X175 hx rfl (x := vt) (y := vt) rt rt (pc0 := 325) (pc' := 330) (same := true) rfl (bd at_325) rfl (by simp) (by decide) (by decide) (XS.aload X175.here hx rfl (bd at_330) rfl rfl k))) ?_
        obtain ⟨cq176, kq176, qa176, qb176, qc176⟩ := isOf hZ e175 E171
        obtain ⟨_, _, ⟨T176, L176, k176, n176⟩, -, X176, ⟨Lc176, hQ176, l176, y176, z176⟩, st176⟩ := X175.virtualBack hx (y := (⟨cS, "labels", "()Ljava/util/List;"⟩ : MethodName)) (z := (⟨cS, "labels", "()Ljava/util/List;"⟩ : MethodName)) hown (mvT hZ (Wd165 hw)) (mvT hZ (Wd166 hw)) (notFace_of_selects (args := #[]) (mvT hZ (Wd168 hw))) (mvT hZ (Wd168 hw)) (mvT hZ (Wd167 hw)) (by decide) (backOf (W := 0) (rmX3 l Z a0 hw [] b171 T171.heap (.ref lb) rfl C3_171) hZ (Wd169 hw) (Wd77 hw) (by decide) (by decide)) qa176 qc176 (g := (mkF m 332 #[.val (.int p0), .val (.int p1), .val (.int p2), .val (.int p3), .val (.int p4), .val (.int p5), .val (.int v11_1), .val w4, .val (.int 2), .val (.int u43_6), .val (.int v59_7), .val (.ref b10), .val (.ref b21), .val (.ref b22), .val vt, .val lm, .val (.ref x), .val (.ref b171), .unset, .unset] [(.ref b171)])) rfl (by rw [hml]; rfl) (Steps.refl _) (argsL := []) (rest := []) (lenOf pd15 rfl) rfl (by show 2 * 0 + _ ≤ _; exact Nat.le_of_eq rfl) (bd at_332) (fun _ _ => ⟨rfl, e175, (nl rfl), (nl rfl)⟩)
        dsimp only [Pt.U, Pt.locs, Pt.cells, Pt.slots] at X176 l176 y176 z176 st176 hQ176
        subst l176 y176 z176
        obtain ⟨rfl, rfl, e176⟩ := hQ176
        have N176 := Fr.app N175 (Fr.nil _)
        refine OD.via st176 ?_
        refine OD.go (B := (T176.setTop (mkF m 339 #[.val (.int p0), .val (.int p1), .val (.int p2), .val (.int p3), .val (.int p4), .val (.int p5), .val (.int v11_1), .val w4, .val (.int 2), .val (.int u43_6), .val (.int v59_7), .val (.ref b10), .val (.ref b21), .val (.ref b22), .val vt, .val lm, .val (.ref x), .val (.ref b171), .val (.ref lb), .unset] [(.ref lb)]))) (fun t k => XS.astore X176.here hx rfl (bd at_335) rfl rfl (l' := #[.val (.int p0), .val (.int p1), .val (.int p2), .val (.int p3), .val (.int p4), .val (.int p5), .val (.int v11_1), .val w4, .val (.int 2), .val (.int u43_6), .val (.int v59_7), .val (.ref b10), .val (.ref b21), .val (.ref b22), .val vt, .val lm, .val (.ref x), .val (.ref b171), .val (.ref lb), .unset]) rfl (XS.aload X176.here hx rfl (bd at_337) rfl rfl k)) ?_
        have f177 := (El.keep K171)
        have f178 := (e0.keep K171 nin0)
        have f179 := (e1.keep K171 nin0)
        obtain ⟨cq180, kq180, qa180, qb180, qc180⟩ := isOf hZ e176 f177
        obtain ⟨_, _, ⟨T180, L180, k180, n180⟩, -, X180, ⟨Lc180, hQ180, l180, y180, z180⟩, st180⟩ := X176.interfaceBack hx (xi := (⟨"java/util/List", "size", "()I"⟩ : MethodName)) (y := (⟨c2, "size", "()I"⟩ : MethodName)) hown (mvT hZ (Wd170 hw)) (mvT hZ (Wd171 hw)) (mvT hZ (Wd172 hw)) (mvT hZ (Wd290 hw)) (mvT hZ (Wd291 hw)) (mvT hZ (Wd292 hw)) (mvT hZ (Wd293 hw)) (mvT hZ (Wd289 hw)) (by decide) (backOf (W := 0) (rmS12_2 l Z a0 hw [] lb T171.heap h0.size ((oldt.keep Ku all0).keep K171 all0) em Sm b10 b21 (own_neOld X00 Emm gag166) f177 f178 f179) hZ (Wd294 hw) (Wd261 hw) (by decide) (by decide)) qa180 qb180 qc180 (g := (mkF m 339 #[.val (.int p0), .val (.int p1), .val (.int p2), .val (.int p3), .val (.int p4), .val (.int p5), .val (.int v11_1), .val w4, .val (.int 2), .val (.int u43_6), .val (.int v59_7), .val (.ref b10), .val (.ref b21), .val (.ref b22), .val vt, .val lm, .val (.ref x), .val (.ref b171), .val (.ref lb), .unset] [(.ref lb)])) rfl (by rw [hml]; rfl) (Steps.refl _) (argsL := []) (rest := []) (lenOf pd24 rfl) rfl (by show 2 * 0 + _ ≤ _; exact Nat.le_of_eq rfl) (bd at_339) (fun _ _ => ⟨rfl, e176, (nl rfl), (nl rfl)⟩)
        dsimp only [Pt.U, Pt.locs, Pt.cells, Pt.slots] at X180 l180 y180 z180 st180 hQ180
        subst l180 y180 z180
        obtain ⟨rfl, rfl, e180⟩ := hQ180
        have N180 := Fr.app N176 (Fr.nil _)
        refine OD.via st180 ?_
        refine OD.go (B := (T180.setTop (mkF m 362 #[.val (.int p0), .val (.int p1), .val (.int p2), .val (.int p3), .val (.int p4), .val (.int p5), .val (.int v11_1), .val w4, .val (.int 2), .val (.int u43_6), .val (.int v59_7), .val (.ref b10), .val (.ref b21), .val (.ref b22), .val vt, .val lm, .val (.ref x), .val (.ref b171), .val (.ref lb), .unset] [(.int 0), (.ref lb), (.ref b10)]))) (fun t k => XS.iload X180.here hx rfl (bd at_344) rfl (XS.icmpYes X180.here hx rfl (pc0 := 346) (pc' := 351) rfl (bd at_346) rfl (teq (by decide : (2 : Int32) = (2 : Int32))).1 (by decide) (by decide) (XS.iload X180.here hx rfl (bd at_351) rfl (XS.iconst X180.here hx rfl (bd at_353) (XS.icmpNo X180.here hx rfl (bd at_354) rfl (flt (by decide : ¬ (2 : Int32) < (1 : Int32))).1 (XS.aload X180.here hx rfl (bd at_357) rfl rfl (XS.aload X180.here hx rfl (bd at_359) rfl rfl (XS.iconst X180.here hx rfl (bd at_361) k)))))))) ?_
        obtain ⟨cq181, kq181, qa181, qb181, qc181⟩ := isOf hZ e180 f177
        obtain ⟨_, _, ⟨T181, L181, k181, n181⟩, -, X181, ⟨Lc181, hQ181, l181, y181, z181⟩, st181⟩ := X180.interfaceBack hx (xi := (⟨"java/util/List", "get", "(I)Ljava/lang/Object;"⟩ : MethodName)) (y := (⟨c2, "get", "(I)Ljava/lang/Object;"⟩ : MethodName)) hown (mvT hZ (Wd295 hw)) (mvT hZ (Wd296 hw)) (mvT hZ (Wd297 hw)) (mvT hZ (Wd298 hw)) (mvT hZ (Wd299 hw)) (mvT hZ (Wd300 hw)) (mvT hZ (Wd301 hw)) (mvT hZ (Wd289 hw)) (by decide) (backOf (W := 1) (rmG12_20 l Z a0 hw [] lb T171.heap h0.size ((oldt.keep Ku all0).keep K171 all0) em Sm b10 b21 (own_neOld X00 Emm gag166) f177 f178 f179) hZ (Wd302 hw) (Wd261 hw) (by decide) (by decide)) qa181 qb181 qc181 (g := (mkF m 362 #[.val (.int p0), .val (.int p1), .val (.int p2), .val (.int p3), .val (.int p4), .val (.int p5), .val (.int v11_1), .val w4, .val (.int 2), .val (.int u43_6), .val (.int v59_7), .val (.ref b10), .val (.ref b21), .val (.ref b22), .val vt, .val lm, .val (.ref x), .val (.ref b171), .val (.ref lb), .unset] [(.int 0), (.ref lb), (.ref b10)])) rfl (by rw [hml]; rfl) (Steps.refl _) (argsL := [(.int 0)]) (rest := [(.ref b10)]) (lenOf pd32 rfl) rfl (by show 2 * 0 + _ ≤ _; exact Nat.le_of_eq rfl) (bd at_362) (fun _ _ => ⟨rfl, e180, (nl rfl), (nl rfl)⟩)
        dsimp only [Pt.U, Pt.locs, Pt.cells, Pt.slots] at X181 l181 y181 z181 st181 hQ181
        subst l181 y181 z181
        obtain ⟨rfl, rfl, e181⟩ := hQ181
        have N181 := Fr.app N180 (Fr.nil _)
        refine OD.via (B := (T181.setTop (mkF m 367 #[.val (.int p0), .val (.int p1), .val (.int p2), .val (.int p3), .val (.int p4), .val (.int p5), .val (.int v11_1), .val w4, .val (.int 2), .val (.int u43_6), .val (.int v59_7), .val (.ref b10), .val (.ref b21), .val (.ref b22), .val vt, .val lm, .val (.ref x), .val (.ref b171), .val (.ref lb), .unset] [(.ref b10), (.ref b10)]))) st181 ?_
        have f182 := ((g165.keep Ku).keep K171)
        obtain ⟨cq183, kq183, qa183, qb183, qc183⟩ := isOf hZ e181 f182
        obtain ⟨_, _, ⟨T183, L183, k183, n183⟩, -, X183, ⟨Lc183, hQ183, l183, y183, z183⟩, st183⟩ := X181.virtualBack hx (y := (⟨"java/lang/String", "equals", "(Ljava/lang/Object;)Z"⟩ : MethodName)) (z := (⟨"java/lang/String", "equals", "(Ljava/lang/Object;)Z"⟩ : MethodName)) hown (mvT hZ (Wd303 hw)) (mvT hZ (Wd304 hw)) (notFace_of_selects (args := #[]) (mvT hZ (Wd306 hw))) (mvT hZ (Wd306 hw)) (mvT hZ (Wd305 hw)) (by decide) (backOf (W := 0) (rmEq l Z a0 hw [] b10 T171.heap) hZ (Wd307 hw) (Wd9 hw) (by decide) (by decide)) qa183 qc183 (g := (mkF m 367 #[.val (.int p0), .val (.int p1), .val (.int p2), .val (.int p3), .val (.int p4), .val (.int p5), .val (.int v11_1), .val w4, .val (.int 2), .val (.int u43_6), .val (.int v59_7), .val (.ref b10), .val (.ref b21), .val (.ref b22), .val vt, .val lm, .val (.ref x), .val (.ref b171), .val (.ref lb), .unset] [(.ref b10), (.ref b10)])) rfl (by rw [hml]; rfl) (Steps.refl _) (argsL := [(.ref b10)]) (rest := []) (lenOf pd31 rfl) rfl (by show 2 * 0 + _ ≤ _; exact Nat.le_of_eq rfl) (bd at_367) (fun _ _ => ⟨rfl, e181, (nl rfl), (nl rfl)⟩)
        dsimp only [Pt.U, Pt.locs, Pt.cells, Pt.slots] at X183 l183 y183 z183 st183 hQ183
        subst l183 y183 z183
        obtain ⟨rfl, rfl, e183⟩ := hQ183
        have N183 := Fr.app N181 (Fr.nil _)
        refine OD.via st183 ?_
        refine OD.go (B := (T183.setTop (mkF m 386 #[.val (.int p0), .val (.int p1), .val (.int p2), .val (.int p3), .val (.int p4), .val (.int p5), .val (.int v11_1), .val w4, .val (.int 2), .val (.int u43_6), .val (.int v59_7), .val (.ref b10), .val (.ref b21), .val (.ref b22), .val vt, .val lm, .val (.ref x), .val (.ref b171), .val (.ref lb), .unset] [(.int 1), (.ref lb), (.ref b21)]))) (fun t k => XS.ifYes X183.here hx rfl (pc0 := 370) (pc' := 375) rfl (bd at_370) rfl (by rw [if0]; exact (feq (by decide : ¬ (1 : Int32) = (0 : Int32))).2) (by decide) (by decide) (XS.iload X183.here hx rfl (bd at_375) rfl (XS.iconst X183.here hx rfl (bd at_377) (XS.icmpNo X183.here hx rfl (bd at_378) rfl (flt (by decide : ¬ (2 : Int32) < (2 : Int32))).1 (XS.aload X183.here hx rfl (bd at_381) rfl rfl (XS.aload X183.here hx rfl (bd at_383) rfl rfl (XS.iconst X183.here hx rfl (bd at_385) k))))))) ?_
        obtain ⟨cq184, kq184, qa184, qb184, qc184⟩ := isOf hZ e183 f177
        obtain ⟨_, _, ⟨T184, L184, k184, n184⟩, -, X184, ⟨Lc184, hQ184, l184, y184, z184⟩, st184⟩ := X183.interfaceBack hx (xi := (⟨"java/util/List", "get", "(I)Ljava/lang/Object;"⟩ : MethodName)) (y := (⟨c2, "get", "(I)Ljava/lang/Object;"⟩ : MethodName)) hown (mvT hZ (Wd295 hw)) (mvT hZ (Wd296 hw)) (mvT hZ (Wd297 hw)) (mvT hZ (Wd298 hw)) (mvT hZ (Wd299 hw)) (mvT hZ (Wd300 hw)) (mvT hZ (Wd301 hw)) (mvT hZ (Wd289 hw)) (by decide) (backOf (W := 1) (rmG12_21 l Z a0 hw [] lb T171.heap h0.size ((oldt.keep Ku all0).keep K171 all0) em Sm b10 b21 (own_neOld X00 Emm gag166) f177 f178 f179) hZ (Wd302 hw) (Wd261 hw) (by decide) (by decide)) qa184 qb184 qc184 (g := (mkF m 386 #[.val (.int p0), .val (.int p1), .val (.int p2), .val (.int p3), .val (.int p4), .val (.int p5), .val (.int v11_1), .val w4, .val (.int 2), .val (.int u43_6), .val (.int v59_7), .val (.ref b10), .val (.ref b21), .val (.ref b22), .val vt, .val lm, .val (.ref x), .val (.ref b171), .val (.ref lb), .unset] [(.int 1), (.ref lb), (.ref b21)])) rfl (by rw [hml]; rfl) (Steps.refl _) (argsL := [(.int 1)]) (rest := [(.ref b21)]) (lenOf pd32 rfl) rfl (by show 2 * 0 + _ ≤ _; exact Nat.le_of_eq rfl) (bd at_386) (fun _ _ => ⟨rfl, e183, (nl rfl), (nl rfl)⟩)
        dsimp only [Pt.U, Pt.locs, Pt.cells, Pt.slots] at X184 l184 y184 z184 st184 hQ184
        subst l184 y184 z184
        obtain ⟨rfl, rfl, e184⟩ := hQ184
        have N184 := Fr.app N183 (Fr.nil _)
        refine OD.via (B := (T184.setTop (mkF m 391 #[.val (.int p0), .val (.int p1), .val (.int p2), .val (.int p3), .val (.int p4), .val (.int p5), .val (.int v11_1), .val w4, .val (.int 2), .val (.int u43_6), .val (.int v59_7), .val (.ref b10), .val (.ref b21), .val (.ref b22), .val vt, .val lm, .val (.ref x), .val (.ref b171), .val (.ref lb), .unset] [(.ref b21), (.ref b21)]))) st184 ?_
        have f185 := ((g166.keep Ku).keep K171)
        obtain ⟨cq186, kq186, qa186, qb186, qc186⟩ := isOf hZ e184 f185
        obtain ⟨_, _, ⟨T186, L186, k186, n186⟩, -, X186, ⟨Lc186, hQ186, l186, y186, z186⟩, st186⟩ := X184.virtualBack hx (y := (⟨"java/lang/String", "equals", "(Ljava/lang/Object;)Z"⟩ : MethodName)) (z := (⟨"java/lang/String", "equals", "(Ljava/lang/Object;)Z"⟩ : MethodName)) hown (mvT hZ (Wd303 hw)) (mvT hZ (Wd304 hw)) (notFace_of_selects (args := #[]) (mvT hZ (Wd306 hw))) (mvT hZ (Wd306 hw)) (mvT hZ (Wd305 hw)) (by decide) (backOf (W := 0) (rmEq l Z a0 hw [] b21 T171.heap) hZ (Wd307 hw) (Wd9 hw) (by decide) (by decide)) qa186 qc186 (g := (mkF m 391 #[.val (.int p0), .val (.int p1), .val (.int p2), .val (.int p3), .val (.int p4), .val (.int p5), .val (.int v11_1), .val w4, .val (.int 2), .val (.int u43_6), .val (.int v59_7), .val (.ref b10), .val (.ref b21), .val (.ref b22), .val vt, .val lm, .val (.ref x), .val (.ref b171), .val (.ref lb), .unset] [(.ref b21), (.ref b21)])) rfl (by rw [hml]; rfl) (Steps.refl _) (argsL := [(.ref b21)]) (rest := []) (lenOf pd31 rfl) rfl (by show 2 * 0 + _ ≤ _; exact Nat.le_of_eq rfl) (bd at_391) (fun _ _ => ⟨rfl, e184, (nl rfl), (nl rfl)⟩)
        dsimp only [Pt.U, Pt.locs, Pt.cells, Pt.slots] at X186 l186 y186 z186 st186 hQ186
        subst l186 y186 z186
        obtain ⟨rfl, rfl, e186⟩ := hQ186
        have N186 := Fr.app N184 (Fr.nil _)
        refine OD.via st186 ?_
        refine OD.go (B := (T186.setTop (mkF m 401 #[.val (.int p0), .val (.int p1), .val (.int p2), .val (.int p3), .val (.int p4), .val (.int p5), .val (.int v11_1), .val w4, .val (.int 2), .val (.int u43_6), .val (.int v59_7), .val (.ref b10), .val (.ref b21), .val (.ref b22), .val vt, .val lm, .val (.ref x), .val (.ref b171), .val (.ref lb), .unset] [(.ref b171)]))) (fun t k => XS.ifYes X186.here hx rfl (pc0 := 394) (pc' := 399) rfl (bd at_394) rfl (by rw [if0]; exact (feq (by decide : ¬ (1 : Int32) = (0 : Int32))).2) (by decide) (by decide) (XS.aload X186.here hx rfl (bd at_399) rfl rfl k)) ?_
        obtain ⟨cq187, kq187, qa187, qb187, qc187⟩ := isOf hZ e186 E171
        obtain ⟨_, _, ⟨T187, L187, k187, n187⟩, -, X187, ⟨Lc187, hQ187, l187, y187, z187⟩, st187⟩ := X186.virtualBack hx (y := (⟨cS, "limits", zZ10⟩ : MethodName)) (z := (⟨cS, "limits", zZ10⟩ : MethodName)) hown (mvT hZ (Wd181 hw)) (mvT hZ (Wd182 hw)) (notFace_of_selects (args := #[]) (mvT hZ (Wd184 hw))) (mvT hZ (Wd184 hw)) (mvT hZ (Wd183 hw)) (by decide) (backOf (W := 0) (rmX5 l Z a0 hw [] b171 T171.heap lm rlm C5_171) hZ (Wd185 hw) (Wd77 hw) (by decide) (by decide)) qa187 qc187 (g := (mkF m 401 #[.val (.int p0), .val (.int p1), .val (.int p2), .val (.int p3), .val (.int p4), .val (.int p5), .val (.int v11_1), .val w4, .val (.int 2), .val (.int u43_6), .val (.int v59_7), .val (.ref b10), .val (.ref b21), .val (.ref b22), .val vt, .val lm, .val (.ref x), .val (.ref b171), .val (.ref lb), .unset] [(.ref b171)])) rfl (by rw [hml]; rfl) (Steps.refl _) (argsL := []) (rest := []) (lenOf pd26 rfl) rfl (by show 2 * 0 + _ ≤ _; exact Nat.le_of_eq rfl) (bd at_401) (fun _ _ => ⟨rfl, e186, (nl rfl), (nl rfl)⟩)
        dsimp only [Pt.U, Pt.locs, Pt.cells, Pt.slots] at X187 l187 y187 z187 st187 hQ187
        subst l187 y187 z187
        obtain ⟨rfl, rfl, e187⟩ := hQ187
        have N187 := Fr.app N186 (Fr.nil _)
        refine OD.via st187 ?_
        refine OD.go (B := (T187.setTop (mkF m 406 #[.val (.int p0), .val (.int p1), .val (.int p2), .val (.int p3), .val (.int p4), .val (.int p5), .val (.int v11_1), .val w4, .val (.int 2), .val (.int u43_6), .val (.int v59_7), .val (.ref b10), .val (.ref b21), .val (.ref b22), .val vt, .val lm, .val (.ref x), .val (.ref b171), .val (.ref lb), .val lm] []))) (fun t k => XS.astore X187.here hx rfl (bd at_404) rfl (rlm) (l' := #[.val (.int p0), .val (.int p1), .val (.int p2), .val (.int p3), .val (.int p4), .val (.int p5), .val (.int v11_1), .val w4, .val (.int 2), .val (.int u43_6), .val (.int v59_7), .val (.ref b10), .val (.ref b21), .val (.ref b22), .val vt, .val lm, .val (.ref x), .val (.ref b171), .val (.ref lb), .val lm]) (by rcases ref_cases rlm with rfl | ⟨_, rfl⟩ <;> rfl) k) ?_
        rcases hlm with rfl | ⟨d, rfl, Ed, Dl, Du⟩
        · show OD _ _ _ _ _ _ _ (T187.setTop (mkF m 406 #[.val (.int p0), .val (.int p1), .val (.int p2), .val (.int p3), .val (.int p4), .val (.int p5), .val (.int v11_1), .val w4, .val (.int 2), .val (.int u43_6), .val (.int v59_7), .val (.ref b10), .val (.ref b21), .val (.ref b22), .val vt, .val .null, .val (.ref x), .val (.ref b171), .val (.ref lb), .val .null] []))
          refine OD.go (B := (T187.setTop (mkF m 421 #[.val (.int p0), .val (.int p1), .val (.int p2), .val (.int p3), .val (.int p4), .val (.int p5), .val (.int v11_1), .val w4, .val (.int 2), .val (.int u43_6), .val (.int v59_7), .val (.ref b10), .val (.ref b21), .val (.ref b22), .val vt, .val .null, .val (.ref x), .val (.ref b171), .val (.ref lb), .val .null] [(.int 1)]))) (fun t k => XS.aload X187.here hx rfl (bd at_406) rfl rfl (XS.ifnonnullNo X187.here hx rfl (bd at_408) rfl (XS.aload X187.here hx rfl (bd at_411) rfl rfl (XS.ifnonnullNo X187.here hx rfl (bd at_413) rfl (XS.iconst X187.here hx rfl (bd at_416) (XS.goto X187.here hx rfl (pc0 := 417) (pc' := 421) rfl (bd at_417) (by decide) (by decide) k)))))) ?_
          exact OD.ret X187 hx hlk (t := .boolean) Bd.returns rfl (Or.inl ⟨rfl, Or.inr (Or.inl rfl), _, rfl⟩) (bd at_421) (nl rfl) (nl rfl) ⟨rfl, N187⟩
        · show OD _ _ _ _ _ _ _ (T187.setTop (mkF m 406 #[.val (.int p0), .val (.int p1), .val (.int p2), .val (.int p3), .val (.int p4), .val (.int p5), .val (.int v11_1), .val w4, .val (.int 2), .val (.int u43_6), .val (.int v59_7), .val (.ref b10), .val (.ref b21), .val (.ref b22), .val vt, .val (.ref d), .val (.ref x), .val (.ref b171), .val (.ref lb), .val (.ref d)] []))
          refine OD.go (B := (T187.setTop (mkF m 429 #[.val (.int p0), .val (.int p1), .val (.int p2), .val (.int p3), .val (.int p4), .val (.int p5), .val (.int v11_1), .val w4, .val (.int 2), .val (.int u43_6), .val (.int v59_7), .val (.ref b10), .val (.ref b21), .val (.ref b22), .val vt, .val (.ref d), .val (.ref x), .val (.ref b171), .val (.ref lb), .val (.ref d)] [(.ref d)]))) (fun t k => XS.aload X187.here hx rfl (bd at_406) rfl rfl (XS.ifnonnullYes X187.here hx rfl (pc0 := 408) (pc' := 422) rfl (bd at_408) rfl (by decide) (by decide) (XS.aload X187.here hx rfl (bd at_422) rfl rfl (XS.ifnullNo X187.here hx rfl (bd at_424) rfl (XS.aload X187.here hx rfl (bd at_427) rfl rfl k))))) ?_
          have f188 := (Dl.keep K171 nin0)
          have f189 := (Ed.keep K171)
          obtain ⟨cq190, kq190, qa190, qb190, qc190⟩ := isOf hZ e187 f189
          obtain ⟨_, _, ⟨T190, L190, k190, n190⟩, -, X190, ⟨Lc190, hQ190, l190, y190, z190⟩, st190⟩ := X187.virtualBack hx (y := (⟨cD, "lower", "()D"⟩ : MethodName)) (z := (⟨cD, "lower", "()D"⟩ : MethodName)) hown (mvT hZ (Wd323 hw)) (mvT hZ (Wd324 hw)) (notFace_of_selects (args := #[]) (mvT hZ (Wd326 hw))) (mvT hZ (Wd326 hw)) (mvT hZ (Wd325 hw)) (by decide) (backOf (W := 0) (rmDlower l Z a0 hw [] d T171.heap (FP.i2d p4) f188) hZ (Wd327 hw) (Wd310 hw) (by decide) (by decide)) qa190 qc190 (g := (mkF m 429 #[.val (.int p0), .val (.int p1), .val (.int p2), .val (.int p3), .val (.int p4), .val (.int p5), .val (.int v11_1), .val w4, .val (.int 2), .val (.int u43_6), .val (.int v59_7), .val (.ref b10), .val (.ref b21), .val (.ref b22), .val vt, .val (.ref d), .val (.ref x), .val (.ref b171), .val (.ref lb), .val (.ref d)] [(.ref d)])) rfl (by rw [hml]; rfl) (Steps.refl _) (argsL := []) (rest := []) (lenOf pd27 rfl) rfl (by show 2 * 0 + _ ≤ _; exact Nat.le_of_eq rfl) (bd at_429) (fun _ _ => ⟨rfl, e187, (nl rfl), (nl rfl)⟩)
          dsimp only [Pt.U, Pt.locs, Pt.cells, Pt.slots] at X190 l190 y190 z190 st190 hQ190
          subst l190 y190 z190
          obtain ⟨rfl, rfl, e190⟩ := hQ190
          have N190 := Fr.app N187 (Fr.nil _)
          refine OD.via st190 ?_
          refine OD.go (B := (T190.setTop (mkF m 441 #[.val (.int p0), .val (.int p1), .val (.int p2), .val (.int p3), .val (.int p4), .val (.int p5), .val (.int v11_1), .val w4, .val (.int 2), .val (.int u43_6), .val (.int v59_7), .val (.ref b10), .val (.ref b21), .val (.ref b22), .val vt, .val (.ref d), .val (.ref x), .val (.ref b171), .val (.ref lb), .val (.ref d)] [(.ref d)]))) (fun t k => XS.iload X190.here hx rfl (bd at_432) rfl (XS.i2dS X190.here hx rfl (bd at_434) rfl (v := (FP.i2d p4)) rfl (XS.dcmpS X190.here hx rfl (bd at_435) rfl (v := (cmpValue (FP.dcmp (FP.i2d p4) (FP.i2d p4)) .l)) rfl (XS.ifNo X190.here hx rfl (bd at_436) rfl (by rw [if0]; exact (teq (own_dself _)).2) (XS.aload X190.here hx rfl (bd at_439) rfl rfl k))))) ?_
          have f191 := (Du.keep K171 nin0)
          obtain ⟨cq192, kq192, qa192, qb192, qc192⟩ := isOf hZ e190 f189
          obtain ⟨_, _, ⟨T192, L192, k192, n192⟩, -, X192, ⟨Lc192, hQ192, l192, y192, z192⟩, st192⟩ := X190.virtualBack hx (y := (⟨cD, "upper", "()D"⟩ : MethodName)) (z := (⟨cD, "upper", "()D"⟩ : MethodName)) hown (mvT hZ (Wd328 hw)) (mvT hZ (Wd329 hw)) (notFace_of_selects (args := #[]) (mvT hZ (Wd331 hw))) (mvT hZ (Wd331 hw)) (mvT hZ (Wd330 hw)) (by decide) (backOf (W := 0) (rmDupper l Z a0 hw [] d T171.heap (FP.i2d p5) f191) hZ (Wd332 hw) (Wd310 hw) (by decide) (by decide)) qa192 qc192 (g := (mkF m 441 #[.val (.int p0), .val (.int p1), .val (.int p2), .val (.int p3), .val (.int p4), .val (.int p5), .val (.int v11_1), .val w4, .val (.int 2), .val (.int u43_6), .val (.int v59_7), .val (.ref b10), .val (.ref b21), .val (.ref b22), .val vt, .val (.ref d), .val (.ref x), .val (.ref b171), .val (.ref lb), .val (.ref d)] [(.ref d)])) rfl (by rw [hml]; rfl) (Steps.refl _) (argsL := []) (rest := []) (lenOf pd27 rfl) rfl (by show 2 * 0 + _ ≤ _; exact Nat.le_of_eq rfl) (bd at_441) (fun _ _ => ⟨rfl, e190, (nl rfl), (nl rfl)⟩)
          dsimp only [Pt.U, Pt.locs, Pt.cells, Pt.slots] at X192 l192 y192 z192 st192 hQ192
          subst l192 y192 z192
          obtain ⟨rfl, rfl, e192⟩ := hQ192
          have N192 := Fr.app N190 (Fr.nil _)
          refine OD.via st192 ?_
          refine OD.go (B := (T192.setTop (mkF m 456 #[.val (.int p0), .val (.int p1), .val (.int p2), .val (.int p3), .val (.int p4), .val (.int p5), .val (.int v11_1), .val w4, .val (.int 2), .val (.int u43_6), .val (.int v59_7), .val (.ref b10), .val (.ref b21), .val (.ref b22), .val vt, .val (.ref d), .val (.ref x), .val (.ref b171), .val (.ref lb), .val (.ref d)] [(.int 1)]))) (fun t k => XS.iload X192.here hx rfl (bd at_444) rfl (XS.i2dS X192.here hx rfl (bd at_446) rfl (v := (FP.i2d p5)) rfl (XS.dcmpS X192.here hx rfl (bd at_447) rfl (v := (cmpValue (FP.dcmp (FP.i2d p5) (FP.i2d p5)) .l)) rfl (XS.ifNo X192.here hx rfl (bd at_448) rfl (by rw [if0]; exact (teq (own_dself _)).2) (XS.iconst X192.here hx rfl (bd at_451) (XS.goto X192.here hx rfl (pc0 := 452) (pc' := 456) rfl (bd at_452) (by decide) (by decide) k)))))) ?_
          exact OD.ret X192 hx hlk (t := .boolean) Bd.returns rfl (Or.inl ⟨rfl, Or.inr (Or.inl rfl), _, rfl⟩) (bd at_456) (nl rfl) (nl rfl) ⟨rfl, N192⟩
      refine OD.go (B := (Tt.setTop (mkF m 219 #[.val (.int p0), .val (.int p1), .val (.int p2), .val (.int p3), .val (.int p4), .val (.int p5), .val (.int v11_1), .val w4, .val (.int 2), .val (.int u43_6), .val (.int v59_7), .val (.ref b10), .val (.ref b21), .val (.ref b22), .val vt, .val .null, .unset, .unset, .unset, .unset] [(.int v59_7)]))) (fun t k => XS.aconstNull Xt.here hx rfl (bd at_214) (XS.astore Xt.here hx rfl (bd at_215) rfl rfl (l' := #[.val (.int p0), .val (.int p1), .val (.int p2), .val (.int p3), .val (.int p4), .val (.int p5), .val (.int v11_1), .val w4, .val (.int 2), .val (.int u43_6), .val (.int v59_7), .val (.ref b10), .val (.ref b21), .val (.ref b22), .val vt, .val .null, .unset, .unset, .unset, .unset]) rfl (XS.iload Xt.here hx rfl (bd at_217) rfl k))) ?_
      by_cases c219_193 : v59_7 = (0 : Int32)
      · refine OD.go (B := (Tt.setTop (mkF m 260 #[.val (.int p0), .val (.int p1), .val (.int p2), .val (.int p3), .val (.int p4), .val (.int p5), .val (.int v11_1), .val w4, .val (.int 2), .val (.int u43_6), .val (.int v59_7), .val (.ref b10), .val (.ref b21), .val (.ref b22), .val vt, .val .null, .unset, .unset, .unset, .unset] []))) (fun t k => XS.ifYes Xt.here hx rfl (pc0 := 219) (pc' := 260) rfl (bd at_219) rfl (by rw [if0]; exact (teq c219_193).1) (by decide) (by decide) k) ?_
        obtain ⟨T194, h194, X194, e194, E194, A194, D194, -, st194⟩ := newO Xt hx hZ hown (Wd75 hw) (Wd76 hw) (Wd77 hw) et (g := (mkF m 260 #[.val (.int p0), .val (.int p1), .val (.int p2), .val (.int p3), .val (.int p4), .val (.int p5), .val (.int v11_1), .val w4, .val (.int 2), .val (.int u43_6), .val (.int v59_7), .val (.ref b10), .val (.ref b21), .val (.ref b22), .val vt, .val .null, .unset, .unset, .unset, .unset] [])) rfl (bd at_260) (nl rfl) (nl rfl)
        obtain ⟨b194, g194⟩ : ∃ z, z = ht.size := ⟨_, rfl⟩
        rw [← g194] at A194 D194 st194
        have Fn195 : Fld Z h194 b194 cS "connected" "Z" (.int 0) := D194 (Or.inr (Wd120 hw)) (ty := .boolean) (by decide)
        have Fn196 : Fld Z h194 b194 cS "severity" dV .null := D194 (Or.inr (Wd122 hw)) (ty := (.object cV)) (by decide)
        have Fn197 : Fld Z h194 b194 cS "precision" "I" (.int 0) := D194 (Or.inr (Wd124 hw)) (ty := .int) (by decide)
        have Fn198 : Fld Z h194 b194 cS "labels" "Ljava/util/List;" .null := D194 (Or.inr (Wd126 hw)) (ty := (.object "java/util/List")) (by decide)
        have Fn199 : Fld Z h194 b194 cS "value" oO .null := D194 (Or.inr (Wd128 hw)) (ty := (.object cO)) (by decide)
        have Fn200 : Fld Z h194 b194 cS "limits" dD .null := D194 (Or.inr (Wd130 hw)) (ty := (.object cD)) (by decide)
        refine OD.go st194 ?_
        refine OD.go (B := (T194.setTop (mkF m 273 #[.val (.int p0), .val (.int p1), .val (.int p2), .val (.int p3), .val (.int p4), .val (.int p5), .val (.int v11_1), .val w4, .val (.int 2), .val (.int u43_6), .val (.int v59_7), .val (.ref b10), .val (.ref b21), .val (.ref b22), .val vt, .val .null, .unset, .unset, .unset, .unset] [vt, (.ref b22), (.int p1), w4, (.int v11_1), (.ref b194), (.ref b194)]))) (fun t k => XS.dup X194.here hx rfl (bd at_263) rfl rfl (XS.iload X194.here hx rfl (bd at_264) rfl (XS.aload X194.here hx rfl (bd at_266) rfl (r4) (XS.iloadN X194.here hx rfl (bd at_268) rfl (XS.aload X194.here hx rfl (bd at_269) rfl rfl (XS.aload X194.here hx rfl (bd at_271) rfl (rt) k)))))) ?_
        have f201 := (g167.ext E194)
        have f202 := (g168.ext E194)
        have f203 := (g169.ext E194)
        have f204 := (g165.ext E194)
        have f205 := (g166.ext E194)
        have f206 := (g170.ext E194)
        obtain ⟨_, _, ⟨T207, L207, k207, n207⟩, -, X207, ⟨Lc207, hQ207, l207, y207, z207⟩, st207⟩ := X194.specialBack hx (y := (⟨cS, "<init>", zZ14⟩ : MethodName)) rfl hown (mvT hZ (Wd78 hw)) (mvT hZ (Wd79 hw)) (mvT hZ (Wd80 hw)) (by decide) (backOf (W := 1) (rmC5_A2 l Z a0 hw [] b194 v11_1 w4 r4 p1 b22 vt rt  h194 h0.size (Nat.le_trans szt E194.1) (oldt.ext E194) A194 Fn195 Fn196 Fn197 Fn198 Fn199 Fn200 (Nat.le_trans szt (Nat.le_of_eq g194.symm)) (nar .boolean v11_1) rfl em Sm f201 f202 b161 f203 b10 f204 b21 f205 k161' f206 O161 mr Mr (Ne.symm (Nat.ne_of_lt (Nat.lt_of_lt_of_le g167.lt (Nat.le_of_eq g194.symm)))) (Ne.symm (Nat.ne_of_lt (Nat.lt_of_lt_of_le g170.lt (Nat.le_of_eq g194.symm)))) (Ne.symm (Nat.ne_of_lt (Nat.lt_of_lt_of_le g165.lt (Nat.le_of_eq g194.symm)))) (Ne.symm (Nat.ne_of_lt (Nat.lt_of_lt_of_le g166.lt (Nat.le_of_eq g194.symm)))) ) hZ (Wd80 hw) (Wd77 hw) (by decide) (by decide)) (g := (mkF m 273 #[.val (.int p0), .val (.int p1), .val (.int p2), .val (.int p3), .val (.int p4), .val (.int p5), .val (.int v11_1), .val w4, .val (.int 2), .val (.int u43_6), .val (.int v59_7), .val (.ref b10), .val (.ref b21), .val (.ref b22), .val vt, .val .null, .unset, .unset, .unset, .unset] [vt, (.ref b22), (.int p1), w4, (.int v11_1), (.ref b194), (.ref b194)])) rfl (by rw [hml]; rfl) (Steps.refl _) (a := b194) (argsL := [(.int v11_1), w4, (.int p1), (.ref b22), vt]) (rest := [(.ref b194)]) (lenOf pd28 rfl) rfl (by show 2 * 0 + _ ≤ _; exact Nat.le_of_eq rfl) (bd at_273) (fun _ _ => ⟨rfl, e194, (nl rfl), (nl rfl)⟩)
        dsimp only [Pt.U, Pt.locs, Pt.cells, Pt.slots] at X207 l207 y207 z207 st207 hQ207
        subst l207 y207 z207
        obtain ⟨b207, rfl, Nq207, K207, C0_207, C1_207, C2_207, C3_207, C4_207, C5_207, ob207, E207, G0207, G1207⟩ := hQ207
        have N207 := Fr.app Nt Nq207
        have gb207 : h0.size ≤ b207 := Nat.le_trans (Nat.le_trans szt E194.1) ob207
        refine OD.via st207 ?_
        refine OD.go (B := (T207.setTop (mkF m 278 #[.val (.int p0), .val (.int p1), .val (.int p2), .val (.int p3), .val (.int p4), .val (.int p5), .val (.int v11_1), .val w4, .val (.int 2), .val (.int u43_6), .val (.int v59_7), .val (.ref b10), .val (.ref b21), .val (.ref b22), .val vt, .val .null, .val (.ref b194), .unset, .unset, .unset] []))) (fun t k => XS.astore X207.here hx rfl (bd at_276) rfl rfl (l' := #[.val (.int p0), .val (.int p1), .val (.int p2), .val (.int p3), .val (.int p4), .val (.int p5), .val (.int v11_1), .val w4, .val (.int 2), .val (.int u43_6), .val (.int v59_7), .val (.ref b10), .val (.ref b21), .val (.ref b22), .val vt, .val .null, .val (.ref b194), .unset, .unset, .unset]) rfl k) ?_
        exact tail2 _ _ _ b194 b207 .null (X207.more (nl rfl) (nl rfl)) rfl N207 (((Keep.refl ht []).ext E194).trans K207 (allS (Or.inr (Nat.le_trans (Nat.le_refl _) (Nat.le_of_eq g194.symm))) all0)) rfl (A194.keep K207) C0_207 C1_207 C2_207 C3_207 C4_207 C5_207 E207 G0207 G1207 (Or.inl rfl)
      · refine OD.go (B := (Tt.setTop (mkF m 222 #[.val (.int p0), .val (.int p1), .val (.int p2), .val (.int p3), .val (.int p4), .val (.int p5), .val (.int v11_1), .val w4, .val (.int 2), .val (.int u43_6), .val (.int v59_7), .val (.ref b10), .val (.ref b21), .val (.ref b22), .val vt, .val .null, .unset, .unset, .unset, .unset] []))) (fun t k => XS.ifNo Xt.here hx rfl (bd at_219) rfl (by rw [if0]; exact (feq c219_193).1) k) ?_
        obtain ⟨T208, h208, X208, e208, E208, A208, D208, -, st208⟩ := newO Xt hx hZ hown (Wd308 hw) (Wd309 hw) (Wd310 hw) et (g := (mkF m 222 #[.val (.int p0), .val (.int p1), .val (.int p2), .val (.int p3), .val (.int p4), .val (.int p5), .val (.int v11_1), .val w4, .val (.int 2), .val (.int u43_6), .val (.int v59_7), .val (.ref b10), .val (.ref b21), .val (.ref b22), .val vt, .val .null, .unset, .unset, .unset, .unset] [])) rfl (bd at_222) (nl rfl) (nl rfl)
        obtain ⟨b208, g208⟩ : ∃ z, z = ht.size := ⟨_, rfl⟩
        rw [← g208] at A208 D208 st208
        have Fn209 : Fld Z h208 b208 cD "lower" "D" (.double (0 : UInt64)) := D208 (Or.inr (Wd316 hw)) (ty := .double) (by decide)
        have Fn210 : Fld Z h208 b208 cD "upper" "D" (.double (0 : UInt64)) := D208 (Or.inr (Wd318 hw)) (ty := .double) (by decide)
        refine OD.go st208 ?_
        refine OD.go (B := (T208.setTop (mkF m 232 #[.val (.int p0), .val (.int p1), .val (.int p2), .val (.int p3), .val (.int p4), .val (.int p5), .val (.int v11_1), .val w4, .val (.int 2), .val (.int u43_6), .val (.int v59_7), .val (.ref b10), .val (.ref b21), .val (.ref b22), .val vt, .val .null, .unset, .unset, .unset, .unset] [(.double (FP.i2d p5)), (.double (FP.i2d p4)), (.ref b208), (.ref b208)]))) (fun t k => XS.dup X208.here hx rfl (bd at_225) rfl rfl (XS.iload X208.here hx rfl (bd at_226) rfl (XS.i2dS X208.here hx rfl (bd at_228) rfl (v := (FP.i2d p4)) rfl (XS.iload X208.here hx rfl (bd at_229) rfl (XS.i2dS X208.here hx rfl (bd at_231) rfl (v := (FP.i2d p5)) rfl k))))) ?_
        obtain ⟨_, _, ⟨T211, L211, k211, n211⟩, -, X211, ⟨Lc211, hQ211, l211, y211, z211⟩, st211⟩ := X208.specialBack hx (y := (⟨cD, "<init>", "(DD)V"⟩ : MethodName)) rfl hown (mvT hZ (Wd311 hw)) (mvT hZ (Wd312 hw)) (mvT hZ (Wd313 hw)) (by decide) (backOf (W := 1) (rmDL l Z a0 hw [] b208 (FP.i2d p4) (FP.i2d p5) h208 h0.size (Nat.le_trans szt E208.1) A208 Fn209 Fn210 (Nat.le_trans szt (Nat.le_of_eq g208.symm))) hZ (Wd313 hw) (Wd310 hw) (by decide) (by decide)) (g := (mkF m 232 #[.val (.int p0), .val (.int p1), .val (.int p2), .val (.int p3), .val (.int p4), .val (.int p5), .val (.int v11_1), .val w4, .val (.int 2), .val (.int u43_6), .val (.int v59_7), .val (.ref b10), .val (.ref b21), .val (.ref b22), .val vt, .val .null, .unset, .unset, .unset, .unset] [(.double (FP.i2d p5)), (.double (FP.i2d p4)), (.ref b208), (.ref b208)])) rfl (by rw [hml]; rfl) (Steps.refl _) (a := b208) (argsL := [(.double (FP.i2d p4)), (.double (FP.i2d p5))]) (rest := [(.ref b208)]) (lenOf pd29 rfl) rfl (by show 2 * 0 + _ ≤ _; exact Nat.le_of_eq rfl) (bd at_232) (fun _ _ => ⟨rfl, e208, (nl rfl), (nl rfl)⟩)
        dsimp only [Pt.U, Pt.locs, Pt.cells, Pt.slots] at X211 l211 y211 z211 st211 hQ211
        subst l211 y211 z211
        obtain ⟨rfl, Nq211, K211, G0_211, G1_211⟩ := hQ211
        have N211 := Fr.app Nt Nq211
        refine OD.via st211 ?_
        refine OD.go (B := (T211.setTop (mkF m 237 #[.val (.int p0), .val (.int p1), .val (.int p2), .val (.int p3), .val (.int p4), .val (.int p5), .val (.int v11_1), .val w4, .val (.int 2), .val (.int u43_6), .val (.int v59_7), .val (.ref b10), .val (.ref b21), .val (.ref b22), .val vt, .val (.ref b208), .unset, .unset, .unset, .unset] []))) (fun t k => XS.astore X211.here hx rfl (bd at_235) rfl rfl (l' := #[.val (.int p0), .val (.int p1), .val (.int p2), .val (.int p3), .val (.int p4), .val (.int p5), .val (.int v11_1), .val w4, .val (.int 2), .val (.int u43_6), .val (.int v59_7), .val (.ref b10), .val (.ref b21), .val (.ref b22), .val vt, .val (.ref b208), .unset, .unset, .unset, .unset]) rfl k) ?_
        obtain ⟨T212, h212, X212, e212, E212, A212, D212, -, st212⟩ := newO X211 hx hZ hown (Wd75 hw) (Wd76 hw) (Wd77 hw) rfl (g := (mkF m 237 #[.val (.int p0), .val (.int p1), .val (.int p2), .val (.int p3), .val (.int p4), .val (.int p5), .val (.int v11_1), .val w4, .val (.int 2), .val (.int u43_6), .val (.int v59_7), .val (.ref b10), .val (.ref b21), .val (.ref b22), .val vt, .val (.ref b208), .unset, .unset, .unset, .unset] [])) rfl (bd at_237) (nl rfl) (nl rfl)
        obtain ⟨b212, g212⟩ : ∃ z, z = T211.heap.size := ⟨_, rfl⟩
        rw [← g212] at A212 D212 st212
        have Fn213 : Fld Z h212 b212 cS "connected" "Z" (.int 0) := D212 (Or.inr (Wd120 hw)) (ty := .boolean) (by decide)
        have Fn214 : Fld Z h212 b212 cS "severity" dV .null := D212 (Or.inr (Wd122 hw)) (ty := (.object cV)) (by decide)
        have Fn215 : Fld Z h212 b212 cS "precision" "I" (.int 0) := D212 (Or.inr (Wd124 hw)) (ty := .int) (by decide)
        have Fn216 : Fld Z h212 b212 cS "labels" "Ljava/util/List;" .null := D212 (Or.inr (Wd126 hw)) (ty := (.object "java/util/List")) (by decide)
        have Fn217 : Fld Z h212 b212 cS "value" oO .null := D212 (Or.inr (Wd128 hw)) (ty := (.object cO)) (by decide)
        have Fn218 : Fld Z h212 b212 cS "limits" dD .null := D212 (Or.inr (Wd130 hw)) (ty := (.object cD)) (by decide)
        refine OD.go st212 ?_
        refine OD.go (B := (T212.setTop (mkF m 252 #[.val (.int p0), .val (.int p1), .val (.int p2), .val (.int p3), .val (.int p4), .val (.int p5), .val (.int v11_1), .val w4, .val (.int 2), .val (.int u43_6), .val (.int v59_7), .val (.ref b10), .val (.ref b21), .val (.ref b22), .val vt, .val (.ref b208), .unset, .unset, .unset, .unset] [(.ref b208), vt, (.ref b22), (.int p1), w4, (.int v11_1), (.ref b212), (.ref b212)]))) (fun t k => XS.dup X212.here hx rfl (bd at_240) rfl rfl (XS.iload X212.here hx rfl (bd at_241) rfl (XS.aload X212.here hx rfl (bd at_243) rfl (r4) (XS.iloadN X212.here hx rfl (bd at_245) rfl (XS.aload X212.here hx rfl (bd at_246) rfl rfl (XS.aload X212.here hx rfl (bd at_248) rfl (rt) (XS.aload X212.here hx rfl (bd at_250) rfl rfl k))))))) ?_
        have f219 := (((g167.ext E208).keep K211).ext E212)
        have f220 := (((g168.ext E208).keep K211 (ninS (Nat.ne_of_lt (Nat.lt_of_lt_of_le g167.lt (Nat.le_of_eq g208.symm))) nin0)).ext E212)
        have f221 := (((g169.ext E208).keep K211 (ninS (Nat.ne_of_lt (Nat.lt_of_lt_of_le g167.lt (Nat.le_of_eq g208.symm))) nin0)).ext E212)
        have f222 := (((g165.ext E208).keep K211).ext E212)
        have f223 := (((g166.ext E208).keep K211).ext E212)
        have f224 := (((g170.ext E208).keep K211 (ninS (Nat.ne_of_lt (Nat.lt_of_lt_of_le g170.lt (Nat.le_of_eq g208.symm))) nin0)).ext E212)
        obtain ⟨_, _, ⟨T225, L225, k225, n225⟩, -, X225, ⟨Lc225, hQ225, l225, y225, z225⟩, st225⟩ := X212.specialBack hx (y := (⟨cS, "<init>", zZ5⟩ : MethodName)) rfl hown (mvT hZ (Wd319 hw)) (mvT hZ (Wd82 hw)) (mvT hZ (Wd83 hw)) (by decide) (backOf (W := 1) (rmC6_A2 l Z a0 hw [] b212 v11_1 w4 r4 p1 b22 vt rt (.ref b208) rfl h212 h0.size (Nat.le_trans (Nat.le_trans (Nat.le_trans szt E208.1) K211.1) E212.1) (((oldt.ext E208).keep K211 (allS (Nat.le_trans szt (Nat.le_of_eq g208.symm)) all0)).ext E212) A212 Fn213 Fn214 Fn215 Fn216 Fn217 Fn218 (Nat.le_trans (Nat.le_trans (Nat.le_trans szt E208.1) K211.1) (Nat.le_of_eq g212.symm)) (nar .boolean v11_1) rfl em Sm f219 f220 b161 f221 b10 f222 b21 f223 k161' f224 O161 mr Mr (Ne.symm (Nat.ne_of_lt (Nat.lt_of_lt_of_le (Nat.lt_of_lt_of_le (Nat.lt_of_lt_of_le g167.lt E208.1) K211.1) (Nat.le_of_eq g212.symm)))) (Ne.symm (Nat.ne_of_lt (Nat.lt_of_lt_of_le (Nat.lt_of_lt_of_le (Nat.lt_of_lt_of_le g170.lt E208.1) K211.1) (Nat.le_of_eq g212.symm)))) (Ne.symm (Nat.ne_of_lt (Nat.lt_of_lt_of_le (Nat.lt_of_lt_of_le (Nat.lt_of_lt_of_le g165.lt E208.1) K211.1) (Nat.le_of_eq g212.symm)))) (Ne.symm (Nat.ne_of_lt (Nat.lt_of_lt_of_le (Nat.lt_of_lt_of_le (Nat.lt_of_lt_of_le g166.lt E208.1) K211.1) (Nat.le_of_eq g212.symm)))) ) hZ (Wd83 hw) (Wd77 hw) (by decide) (by decide)) (g := (mkF m 252 #[.val (.int p0), .val (.int p1), .val (.int p2), .val (.int p3), .val (.int p4), .val (.int p5), .val (.int v11_1), .val w4, .val (.int 2), .val (.int u43_6), .val (.int v59_7), .val (.ref b10), .val (.ref b21), .val (.ref b22), .val vt, .val (.ref b208), .unset, .unset, .unset, .unset] [(.ref b208), vt, (.ref b22), (.int p1), w4, (.int v11_1), (.ref b212), (.ref b212)])) rfl (by rw [hml]; rfl) (Steps.refl _) (a := b212) (argsL := [(.int v11_1), w4, (.int p1), (.ref b22), vt, (.ref b208)]) (rest := [(.ref b212)]) (lenOf pd18 rfl) rfl (by show 2 * 0 + _ ≤ _; exact Nat.le_of_eq rfl) (bd at_252) (fun _ _ => ⟨rfl, e212, (nl rfl), (nl rfl)⟩)
        dsimp only [Pt.U, Pt.locs, Pt.cells, Pt.slots] at X225 l225 y225 z225 st225 hQ225
        subst l225 y225 z225
        obtain ⟨b225, rfl, Nq225, K225, C0_225, C1_225, C2_225, C3_225, C4_225, C5_225, ob225, E225, G0225, G1225⟩ := hQ225
        have N225 := Fr.app N211 Nq225
        have gb225 : h0.size ≤ b225 := Nat.le_trans (Nat.le_trans (Nat.le_trans (Nat.le_trans szt E208.1) K211.1) E212.1) ob225
        refine OD.via st225 ?_
        refine OD.go (B := (T225.setTop (mkF m 278 #[.val (.int p0), .val (.int p1), .val (.int p2), .val (.int p3), .val (.int p4), .val (.int p5), .val (.int v11_1), .val w4, .val (.int 2), .val (.int u43_6), .val (.int v59_7), .val (.ref b10), .val (.ref b21), .val (.ref b22), .val vt, .val (.ref b208), .val (.ref b212), .unset, .unset, .unset] []))) (fun t k => XS.astore X225.here hx rfl (bd at_255) rfl rfl (l' := #[.val (.int p0), .val (.int p1), .val (.int p2), .val (.int p3), .val (.int p4), .val (.int p5), .val (.int v11_1), .val w4, .val (.int 2), .val (.int u43_6), .val (.int v59_7), .val (.ref b10), .val (.ref b21), .val (.ref b22), .val vt, .val (.ref b208), .val (.ref b212), .unset, .unset, .unset]) rfl (XS.goto X225.here hx rfl (pc0 := 257) (pc' := 278) rfl (bd at_257) (by decide) (by decide) k)) ?_
        exact tail2 _ _ _ b212 b225 (.ref b208) (X225.more (nl rfl) (nl rfl)) rfl N225 (((((Keep.refl ht []).ext E208).trans K211 (allS (Or.inr (Nat.le_trans (Nat.le_refl _) (Nat.le_of_eq g208.symm))) all0)).ext E212).trans K225 (allS (Or.inr (Nat.le_trans (Nat.le_trans (Nat.le_trans (Nat.le_refl _) E208.1) K211.1) (Nat.le_of_eq g212.symm))) all0)) rfl (A212.keep K225) C0_225 C1_225 C2_225 C3_225 C4_225 C5_225 E225 G0225 G1225 (Or.inr ⟨_, rfl, (((A208.keep K211).ext E212).keep K225), ((G0_211.ext E212).keep K225 (ninS (Nat.ne_of_lt (Nat.lt_of_lt_of_le (Nat.lt_of_lt_of_le A208.lt K211.1) (Nat.le_of_eq g212.symm))) nin0)), ((G1_211.ext E212).keep K225 (ninS (Nat.ne_of_lt (Nat.lt_of_lt_of_le (Nat.lt_of_lt_of_le A208.lt K211.1) (Nat.le_of_eq g212.symm))) nin0))⟩)
    refine OD.go (B := (T164.setTop (mkF m 151 #[.val (.int p0), .val (.int p1), .val (.int p2), .val (.int p3), .val (.int p4), .val (.int p5), .val (.int v11_1), .val w4, .val (.int 2), .val (.int u43_6), .val (.int v59_7), .val (.ref b10), .val (.ref b21), .val (.ref b22), .val .null, .unset, .unset, .unset, .unset, .unset] [(.int 1), (.int u43_6)]))) (fun t k => XS.iload X164.here hx rfl (bd at_148) rfl (XS.iconst X164.here hx rfl (bd at_150) k)) ?_
    by_cases c151_226 : u43_6 = (1 : Int32)
    · refine OD.go (B := (T164.setTop (mkF m 155 #[.val (.int p0), .val (.int p1), .val (.int p2), .val (.int p3), .val (.int p4), .val (.int p5), .val (.int v11_1), .val w4, .val (.int 2), .val (.int u43_6), .val (.int v59_7), .val (.ref b10), .val (.ref b21), .val (.ref b22), .val .null, .unset, .unset, .unset, .unset, .unset] [(.int p2)]))) (fun t k => XS.icmpNo X164.here hx rfl (bd at_151) rfl (teq c151_226).2 (XS.iloadN X164.here hx rfl (bd at_154) rfl k)) ?_
      obtain ⟨_, _, ⟨T227, L227, k227, n227⟩, -, X227, ⟨Lc227, hQ227, l227, y227, z227⟩, st227⟩ := Jvm.LawKit.callS X164 hx (y := (⟨"java/lang/Integer", "valueOf", "(I)Ljava/lang/Integer;"⟩ : MethodName)) hown (mvT hZ (Wd219 hw)) (mvT hZ (Wd220 hw)) (mvT hZ (Wd221 hw)) (mvT hZ (Wd222 hw)) (by decide) (backOf (W := 0) (rmIV l Z a0 hw [] p2 T164.heap h0.size (Nat.le_trans (Nat.le_trans (Nat.le_trans (Nat.le_trans (Nat.le_trans (Nat.le_trans (Nat.le_trans (Nat.le_trans (Nat.le_trans (Nat.le_trans (Nat.le_refl _) E10.1) E13.1) (Keep.of_wr W14).1) (Keep.of_wr W15).1) K20.1) K21.1) E22.1) K26.1) K161.1) K164.1) ((((((((((X00.ext E10).ext E13).wr W14 (Nat.le_trans (Nat.le_trans (Nat.le_refl _) E10.1) (Nat.le_of_eq g13.symm))).wr W15 (Nat.le_trans (Nat.le_trans (Nat.le_refl _) E10.1) (Nat.le_of_eq g13.symm))).keep K20 (allS (Nat.le_trans (Nat.le_refl _) (Nat.le_of_eq g10.symm)) all0)).keep K21 all0).ext E22).keep K26 (allS (Nat.le_trans (Nat.le_trans (Nat.le_trans (Nat.le_trans (Nat.le_trans (Nat.le_trans (Nat.le_trans (Nat.le_refl _) E10.1) E13.1) (Keep.of_wr W14).1) (Keep.of_wr W15).1) K20.1) K21.1) (Nat.le_of_eq g22.symm)) all0)).keep K161 (allS (Nat.le_trans (Nat.le_trans (Nat.le_trans (Nat.le_trans (Nat.le_trans (Nat.le_trans (Nat.le_trans (Nat.le_refl _) E10.1) E13.1) (Keep.of_wr W14).1) (Keep.of_wr W15).1) K20.1) K21.1) (Nat.le_of_eq g22.symm)) all0)).keep K164 (allS (Nat.le_trans (Nat.le_trans (Nat.le_trans (Nat.le_trans (Nat.le_trans (Nat.le_trans (Nat.le_trans (Nat.le_refl _) E10.1) E13.1) (Keep.of_wr W14).1) (Keep.of_wr W15).1) K20.1) K21.1) (Nat.le_of_eq g22.symm)) (allS gb161 all0))) ca Sh Sc Cc) hZ (Wd222 hw) (Wd221 hw) (by decide) (by decide)) (g := (mkF m 155 #[.val (.int p0), .val (.int p1), .val (.int p2), .val (.int p3), .val (.int p4), .val (.int p5), .val (.int v11_1), .val w4, .val (.int 2), .val (.int u43_6), .val (.int v59_7), .val (.ref b10), .val (.ref b21), .val (.ref b22), .val .null, .unset, .unset, .unset, .unset, .unset] [(.int p2)])) rfl (by rw [hml]; rfl) (argsL := [(.int p2)]) (rest := []) (lenOf pd30 rfl) rfl (by show 2 * 0 + _ ≤ _; exact Nat.le_of_eq rfl) (bd at_155) (fun _ _ => ⟨rfl, rfl, (nl rfl), (nl rfl)⟩)
      dsimp only [Pt.U, Pt.locs, Pt.cells, Pt.slots] at X227 l227 y227 z227 st227 hQ227
      subst l227 y227 z227
      obtain ⟨w227, rfl, r227, Nq227, K227⟩ := hQ227
      have N227 := Fr.app N164 Nq227
      refine OD.go st227 ?_
      refine OD.go (B := (T227.setTop (mkF m 214 #[.val (.int p0), .val (.int p1), .val (.int p2), .val (.int p3), .val (.int p4), .val (.int p5), .val (.int v11_1), .val w4, .val (.int 2), .val (.int u43_6), .val (.int v59_7), .val (.ref b10), .val (.ref b21), .val (.ref b22), .val w227, .unset, .unset, .unset, .unset, .unset] []))) (fun t k => XS.astore X227.here hx rfl (bd at_158) rfl (r227) (l' := #[.val (.int p0), .val (.int p1), .val (.int p2), .val (.int p3), .val (.int p4), .val (.int p5), .val (.int v11_1), .val w4, .val (.int 2), .val (.int u43_6), .val (.int v59_7), .val (.ref b10), .val (.ref b21), .val (.ref b22), .val w227, .unset, .unset, .unset, .unset, .unset]) (by rcases ref_cases r227 with rfl | ⟨_, rfl⟩ <;> rfl) (XS.goto X227.here hx rfl (pc0 := 160) (pc' := 214) rfl (bd at_160) (by decide) (by decide) k)) ?_
      exact tail _ _ _ w227 (X227.more (nl rfl) (nl rfl)) rfl N227 ((Keep.refl T164.heap []).trans K227 all0) r227
    · refine OD.go (B := (T164.setTop (mkF m 166 #[.val (.int p0), .val (.int p1), .val (.int p2), .val (.int p3), .val (.int p4), .val (.int p5), .val (.int v11_1), .val w4, .val (.int 2), .val (.int u43_6), .val (.int v59_7), .val (.ref b10), .val (.ref b21), .val (.ref b22), .val .null, .unset, .unset, .unset, .unset, .unset] [(.int 2), (.int u43_6)]))) (fun t k => XS.icmpYes X164.here hx rfl (pc0 := 151) (pc' := 163) rfl (bd at_151) rfl (feq c151_226).2 (by decide) (by decide) (XS.iload X164.here hx rfl (bd at_163) rfl (XS.iconst X164.here hx rfl (bd at_165) k))) ?_
      by_cases c166_228 : u43_6 = (2 : Int32)
      · refine OD.go (B := (T164.setTop (mkF m 169 #[.val (.int p0), .val (.int p1), .val (.int p2), .val (.int p3), .val (.int p4), .val (.int p5), .val (.int v11_1), .val w4, .val (.int 2), .val (.int u43_6), .val (.int v59_7), .val (.ref b10), .val (.ref b21), .val (.ref b22), .val .null, .unset, .unset, .unset, .unset, .unset] []))) (fun t k => XS.icmpNo X164.here hx rfl (bd at_166) rfl (teq c166_228).2 k) ?_
        obtain ⟨T229, h229, X229, e229, E229, A229, D229, -, st229⟩ := newO X164 hx hZ hown (Wd7 hw) (Wd8 hw) (Wd9 hw) rfl (g := (mkF m 169 #[.val (.int p0), .val (.int p1), .val (.int p2), .val (.int p3), .val (.int p4), .val (.int p5), .val (.int v11_1), .val w4, .val (.int 2), .val (.int u43_6), .val (.int v59_7), .val (.ref b10), .val (.ref b21), .val (.ref b22), .val .null, .unset, .unset, .unset, .unset, .unset] [])) rfl (bd at_169) (nl rfl) (nl rfl)
        obtain ⟨b229, g229⟩ : ∃ z, z = T164.heap.size := ⟨_, rfl⟩
        rw [← g229] at A229 D229 st229
        have Fn230 : Fld Z h229 b229 "java/lang/String" "coder" "B" (.int 0) := D229 (Or.inr (Wd34 hw)) (ty := .byte) (by decide)
        have Fn231 : Fld Z h229 b229 "java/lang/String" "value" "[B" .null := D229 (Or.inr (Wd36 hw)) (ty := (.array .byte)) (by decide)
        refine OD.go st229 ?_
        refine OD.go (B := (T229.setTop (mkF m 174 #[.val (.int p0), .val (.int p1), .val (.int p2), .val (.int p3), .val (.int p4), .val (.int p5), .val (.int v11_1), .val w4, .val (.int 2), .val (.int u43_6), .val (.int v59_7), .val (.ref b10), .val (.ref b21), .val (.ref b22), .val .null, .unset, .unset, .unset, .unset, .unset] [(.int 3), (.ref b229), (.ref b229)]))) (fun t k => XS.dup X229.here hx rfl (bd at_172) rfl rfl (XS.iconst X229.here hx rfl (bd at_173) k)) ?_
        obtain ⟨T232, h232, k232, X232, e232, E232, A232, st232⟩ := newP X229 hx hZ (aty := .char) (Wd10 hw) e229 (g := (mkF m 174 #[.val (.int p0), .val (.int p1), .val (.int p2), .val (.int p3), .val (.int p4), .val (.int p5), .val (.int v11_1), .val w4, .val (.int 2), .val (.int u43_6), .val (.int v59_7), .val (.ref b10), .val (.ref b21), .val (.ref b22), .val .null, .unset, .unset, .unset, .unset, .unset] [(.int 3), (.ref b229), (.ref b229)])) rfl (bd at_174) rfl (by decide) (cap := 3) (by decide) (by decide) (nl rfl) (nl rfl)
        obtain ⟨b232, g232⟩ : ∃ z, z = h229.size := ⟨_, rfl⟩
        rw [← g232] at A232 st232
        have V232 : Arv Z h232 b232 k232 .char (3 : Int32) [(.int 0), (.int 0), (.int 0)] (.int 0) := (Arv.new A232 (by decide)).pad (pad_rep [] (.int 0) 3)
        refine OD.go st232 ?_
        refine OD.go (B := (T232.setTop (mkF m 184 #[.val (.int p0), .val (.int p1), .val (.int p2), .val (.int p3), .val (.int p4), .val (.int p5), .val (.int v11_1), .val w4, .val (.int 2), .val (.int u43_6), .val (.int v59_7), .val (.ref b10), .val (.ref b21), .val (.ref b22), .val .null, .unset, .unset, .unset, .unset, .unset] [(.int (p2 &&& (255 : Int32)).toUInt32.toUInt16.toUInt32.toInt32), (.int 0), (.ref b232), (.ref b232), (.ref b229), (.ref b229)]))) (fun t k => XS.dup X232.here hx rfl (bd at_176) rfl rfl (XS.iconst X232.here hx rfl (bd at_177) (XS.iloadN X232.here hx rfl (bd at_178) rfl (XS.sipush X232.here hx rfl (bd at_179) (XS.iand X232.here hx rfl (bd at_182) rfl (XS.i2c X232.here hx rfl (bd at_183) rfl k)))))) ?_
        obtain ⟨cl233, Ar233, q233, S233, M233, H233, G233⟩ := id V232
        obtain ⟨T233, h233, X233, e233, W233, st233⟩ := stC X232 hx hZ e232 Ar233 (j := (0 : Int32)) (inb_of S233 ⟨by decide, by decide⟩) (g := (mkF m 184 #[.val (.int p0), .val (.int p1), .val (.int p2), .val (.int p3), .val (.int p4), .val (.int p5), .val (.int v11_1), .val w4, .val (.int 2), .val (.int u43_6), .val (.int v59_7), .val (.ref b10), .val (.ref b21), .val (.ref b22), .val .null, .unset, .unset, .unset, .unset, .unset] [(.int (p2 &&& (255 : Int32)).toUInt32.toUInt16.toUInt32.toInt32), (.int 0), (.ref b232), (.ref b232), (.ref b229), (.ref b229)])) rfl rfl (bd at_184)
        rw [(own_nar (own_c255 _))] at W233
        have V233 : Arv Z h233 b232 k232 .char (3 : Int32) [(.int (p2 &&& (255 : Int32)).toUInt32.toUInt16.toUInt32.toInt32), (.int 0), (.int 0)] (.int 0) := Arv.set Ar233 q233 S233 M233 H233 G233 ((own_nar (own_c255 _)) ▸ fits_nar_char _) W233 0 rfl (nl rfl)
        have N233 := Fr.snoc X233 N164 (Nat.le_trans (Nat.le_trans (Nat.le_trans (Nat.le_trans (Nat.le_trans (Nat.le_trans (Nat.le_trans (Nat.le_trans (Nat.le_trans (Nat.le_trans (Nat.le_trans (Nat.le_trans (Nat.le_refl _) E10.1) E13.1) (Keep.of_wr W14).1) (Keep.of_wr W15).1) K20.1) K21.1) E22.1) K26.1) K161.1) K164.1) E229.1) (Nat.le_of_eq g232.symm))
        refine OD.go st233 ?_
        refine OD.go (B := (T233.setTop (mkF m 196 #[.val (.int p0), .val (.int p1), .val (.int p2), .val (.int p3), .val (.int p4), .val (.int p5), .val (.int v11_1), .val w4, .val (.int 2), .val (.int u43_6), .val (.int v59_7), .val (.ref b10), .val (.ref b21), .val (.ref b22), .val .null, .unset, .unset, .unset, .unset, .unset] [(.int (((p2.toUInt32 >>> ((8 : Int32) &&& 31).toUInt32).toInt32) &&& (255 : Int32)).toUInt32.toUInt16.toUInt32.toInt32), (.int 1), (.ref b232), (.ref b232), (.ref b229), (.ref b229)]))) (fun t k => XS.dup X233.here hx rfl (bd at_185) rfl rfl (XS.iconst X233.here hx rfl (bd at_186) (XS.iloadN X233.here hx rfl (bd at_187) rfl (XS.bipush X233.here hx rfl (bd at_188) (XS.iushr X233.here hx rfl (bd at_190) rfl (XS.sipush X233.here hx rfl (bd at_191) (XS.iand X233.here hx rfl (bd at_194) rfl (XS.i2c X233.here hx rfl (bd at_195) rfl k)))))))) ?_
        obtain ⟨cl234, Ar234, q234, S234, M234, H234, G234⟩ := id V233
        obtain ⟨T234, h234, X234, e234, W234, st234⟩ := stC X233 hx hZ e233 Ar234 (j := (1 : Int32)) (inb_of S234 ⟨by decide, by decide⟩) (g := (mkF m 196 #[.val (.int p0), .val (.int p1), .val (.int p2), .val (.int p3), .val (.int p4), .val (.int p5), .val (.int v11_1), .val w4, .val (.int 2), .val (.int u43_6), .val (.int v59_7), .val (.ref b10), .val (.ref b21), .val (.ref b22), .val .null, .unset, .unset, .unset, .unset, .unset] [(.int (((p2.toUInt32 >>> ((8 : Int32) &&& 31).toUInt32).toInt32) &&& (255 : Int32)).toUInt32.toUInt16.toUInt32.toInt32), (.int 1), (.ref b232), (.ref b232), (.ref b229), (.ref b229)])) rfl rfl (bd at_196)
        rw [(own_nar (own_c255 _))] at W234
        have V234 : Arv Z h234 b232 k232 .char (3 : Int32) [(.int (p2 &&& (255 : Int32)).toUInt32.toUInt16.toUInt32.toInt32), (.int (((p2.toUInt32 >>> ((8 : Int32) &&& 31).toUInt32).toInt32) &&& (255 : Int32)).toUInt32.toUInt16.toUInt32.toInt32), (.int 0)] (.int 0) := Arv.set Ar234 q234 S234 M234 H234 G234 ((own_nar (own_c255 _)) ▸ fits_nar_char _) W234 1 rfl (nl rfl)
        have N234 := Fr.snoc X234 N233 (Nat.le_trans (Nat.le_trans (Nat.le_trans (Nat.le_trans (Nat.le_trans (Nat.le_trans (Nat.le_trans (Nat.le_trans (Nat.le_trans (Nat.le_trans (Nat.le_trans (Nat.le_trans (Nat.le_refl _) E10.1) E13.1) (Keep.of_wr W14).1) (Keep.of_wr W15).1) K20.1) K21.1) E22.1) K26.1) K161.1) K164.1) E229.1) (Nat.le_of_eq g232.symm))
        refine OD.go st234 ?_
        refine OD.go (B := (T234.setTop (mkF m 208 #[.val (.int p0), .val (.int p1), .val (.int p2), .val (.int p3), .val (.int p4), .val (.int p5), .val (.int v11_1), .val w4, .val (.int 2), .val (.int u43_6), .val (.int v59_7), .val (.ref b10), .val (.ref b21), .val (.ref b22), .val .null, .unset, .unset, .unset, .unset, .unset] [(.int (((p3.toUInt32 >>> ((24 : Int32) &&& 31).toUInt32).toInt32) &&& (255 : Int32)).toUInt32.toUInt16.toUInt32.toInt32), (.int 2), (.ref b232), (.ref b232), (.ref b229), (.ref b229)]))) (fun t k => XS.dup X234.here hx rfl (bd at_197) rfl rfl (XS.iconst X234.here hx rfl (bd at_198) (XS.iloadN X234.here hx rfl (bd at_199) rfl (XS.bipush X234.here hx rfl (bd at_200) (XS.iushr X234.here hx rfl (bd at_202) rfl (XS.sipush X234.here hx rfl (bd at_203) (XS.iand X234.here hx rfl (bd at_206) rfl (XS.i2c X234.here hx rfl (bd at_207) rfl k)))))))) ?_
        obtain ⟨cl235, Ar235, q235, S235, M235, H235, G235⟩ := id V234
        obtain ⟨T235, h235, X235, e235, W235, st235⟩ := stC X234 hx hZ e234 Ar235 (j := (2 : Int32)) (inb_of S235 ⟨by decide, by decide⟩) (g := (mkF m 208 #[.val (.int p0), .val (.int p1), .val (.int p2), .val (.int p3), .val (.int p4), .val (.int p5), .val (.int v11_1), .val w4, .val (.int 2), .val (.int u43_6), .val (.int v59_7), .val (.ref b10), .val (.ref b21), .val (.ref b22), .val .null, .unset, .unset, .unset, .unset, .unset] [(.int (((p3.toUInt32 >>> ((24 : Int32) &&& 31).toUInt32).toInt32) &&& (255 : Int32)).toUInt32.toUInt16.toUInt32.toInt32), (.int 2), (.ref b232), (.ref b232), (.ref b229), (.ref b229)])) rfl rfl (bd at_208)
        rw [(own_nar (own_c255 _))] at W235
        have V235 : Arv Z h235 b232 k232 .char (3 : Int32) [(.int (p2 &&& (255 : Int32)).toUInt32.toUInt16.toUInt32.toInt32), (.int (((p2.toUInt32 >>> ((8 : Int32) &&& 31).toUInt32).toInt32) &&& (255 : Int32)).toUInt32.toUInt16.toUInt32.toInt32), (.int (((p3.toUInt32 >>> ((24 : Int32) &&& 31).toUInt32).toInt32) &&& (255 : Int32)).toUInt32.toUInt16.toUInt32.toInt32)] (.int 0) := Arv.set Ar235 q235 S235 M235 H235 G235 ((own_nar (own_c255 _)) ▸ fits_nar_char _) W235 2 rfl (nl rfl)
        have N235 := Fr.snoc X235 N234 (Nat.le_trans (Nat.le_trans (Nat.le_trans (Nat.le_trans (Nat.le_trans (Nat.le_trans (Nat.le_trans (Nat.le_trans (Nat.le_trans (Nat.le_trans (Nat.le_trans (Nat.le_trans (Nat.le_refl _) E10.1) E13.1) (Keep.of_wr W14).1) (Keep.of_wr W15).1) K20.1) K21.1) E22.1) K26.1) K161.1) K164.1) E229.1) (Nat.le_of_eq g232.symm))
        refine OD.go (B := (T235.setTop (mkF m 209 #[.val (.int p0), .val (.int p1), .val (.int p2), .val (.int p3), .val (.int p4), .val (.int p5), .val (.int v11_1), .val w4, .val (.int 2), .val (.int u43_6), .val (.int v59_7), .val (.ref b10), .val (.ref b21), .val (.ref b22), .val .null, .unset, .unset, .unset, .unset, .unset] [(.ref b232), (.ref b229), (.ref b229)]))) st235 ?_
        have K236 : Arv Z h235 b232 k232 .char (3 : Int32) (([(p2 &&& (255 : Int32)).toUInt32.toUInt16.toUInt32.toInt32, (((p2.toUInt32 >>> ((8 : Int32) &&& 31).toUInt32).toInt32) &&& (255 : Int32)).toUInt32.toUInt16.toUInt32.toInt32, (((p3.toUInt32 >>> ((24 : Int32) &&& 31).toUInt32).toInt32) &&& (255 : Int32)).toUInt32.toUInt16.toUInt32.toInt32] : List Int32).map Value.int) (.int 0) := V235
        have f237 := ((((A229.ext E232).wr W233).wr W234).wr W235)
        have f238 := ((((Fn231.ext E232).other W233 (Or.inl (Nat.ne_of_lt (Nat.lt_of_lt_of_le A229.lt (Nat.le_of_eq g232.symm))))).other W234 (Or.inl (Nat.ne_of_lt (Nat.lt_of_lt_of_le A229.lt (Nat.le_of_eq g232.symm))))).other W235 (Or.inl (Nat.ne_of_lt (Nat.lt_of_lt_of_le A229.lt (Nat.le_of_eq g232.symm)))))
        have f239 := ((((Fn230.ext E232).other W233 (Or.inl (Nat.ne_of_lt (Nat.lt_of_lt_of_le A229.lt (Nat.le_of_eq g232.symm))))).other W234 (Or.inl (Nat.ne_of_lt (Nat.lt_of_lt_of_le A229.lt (Nat.le_of_eq g232.symm))))).other W235 (Or.inl (Nat.ne_of_lt (Nat.lt_of_lt_of_le A229.lt (Nat.le_of_eq g232.symm)))))
        obtain ⟨_, _, ⟨T240, L240, k240, n240⟩, -, X240, ⟨Lc240, hQ240, l240, y240, z240⟩, st240⟩ := X235.specialBack hx (y := (⟨"java/lang/String", "<init>", "([C)V"⟩ : MethodName)) rfl hown (mvT hZ (Wd11 hw)) (mvT hZ (Wd12 hw)) (mvT hZ (Wd13 hw)) (by decide) (StrChars.Road.backV (W := 1) hZ hws (kI := 4) (Wd8 hw) (cs := ([(p2 &&& (255 : Int32)).toUInt32.toUInt16.toUInt32.toInt32, (((p2.toUInt32 >>> ((8 : Int32) &&& 31).toUInt32).toInt32) &&& (255 : Int32)).toUInt32.toUInt16.toUInt32.toInt32, (((p3.toUInt32 >>> ((24 : Int32) &&& 31).toUInt32).toInt32) &&& (255 : Int32)).toUInt32.toUInt16.toUInt32.toInt32] : List Int32)) (bs := ([(p2 &&& (255 : Int32)).toUInt32.toUInt16.toUInt32.toInt32, (((p2.toUInt32 >>> ((8 : Int32) &&& 31).toUInt32).toInt32) &&& (255 : Int32)).toUInt32.toUInt16.toUInt32.toInt32, (((p3.toUInt32 >>> ((24 : Int32) &&& 31).toUInt32).toInt32) &&& (255 : Int32)).toUInt32.toUInt16.toUInt32.toInt32] : List Int32).map (fun c => c.toInt8.toInt32)) (n := 3) (n0 := h0.size) (Nat.le_trans (Nat.le_trans (Nat.le_trans (Nat.le_trans (Nat.le_trans (Nat.le_trans (Nat.le_trans (Nat.le_trans (Nat.le_trans (Nat.le_trans (Nat.le_trans (Nat.le_refl _) E10.1) E13.1) (Keep.of_wr W14).1) (Keep.of_wr W15).1) K20.1) K21.1) E22.1) K26.1) K161.1) K164.1) (Nat.le_of_eq g229.symm)) (Nat.le_trans (Nat.le_trans (Nat.le_trans (Nat.le_trans (Nat.le_trans (Nat.le_trans (Nat.le_trans (Nat.le_trans (Nat.le_trans (Nat.le_trans (Nat.le_trans (Nat.le_trans (Nat.le_trans (Nat.le_trans (Nat.le_trans (Nat.le_refl _) E10.1) E13.1) (Keep.of_wr W14).1) (Keep.of_wr W15).1) K20.1) K21.1) E22.1) K26.1) K161.1) K164.1) E229.1) E232.1) (Keep.of_wr W233).1) (Keep.of_wr W234).1) (Keep.of_wr W235).1) f237 f238 f239 K236 (O2.ext (((((((((((((((X00.ext E10).ext E13).wr W14 (Nat.le_trans (Nat.le_trans (Nat.le_refl _) E10.1) (Nat.le_of_eq g13.symm))).wr W15 (Nat.le_trans (Nat.le_trans (Nat.le_refl _) E10.1) (Nat.le_of_eq g13.symm))).keep K20 (allS (Nat.le_trans (Nat.le_refl _) (Nat.le_of_eq g10.symm)) all0)).keep K21 all0).ext E22).keep K26 (allS (Nat.le_trans (Nat.le_trans (Nat.le_trans (Nat.le_trans (Nat.le_trans (Nat.le_trans (Nat.le_trans (Nat.le_refl _) E10.1) E13.1) (Keep.of_wr W14).1) (Keep.of_wr W15).1) K20.1) K21.1) (Nat.le_of_eq g22.symm)) all0)).keep K161 (allS (Nat.le_trans (Nat.le_trans (Nat.le_trans (Nat.le_trans (Nat.le_trans (Nat.le_trans (Nat.le_trans (Nat.le_refl _) E10.1) E13.1) (Keep.of_wr W14).1) (Keep.of_wr W15).1) K20.1) K21.1) (Nat.le_of_eq g22.symm)) all0)).keep K164 (allS (Nat.le_trans (Nat.le_trans (Nat.le_trans (Nat.le_trans (Nat.le_trans (Nat.le_trans (Nat.le_trans (Nat.le_refl _) E10.1) E13.1) (Keep.of_wr W14).1) (Keep.of_wr W15).1) K20.1) K21.1) (Nat.le_of_eq g22.symm)) (allS gb161 all0))).ext E229).ext E232).wr W233 (Nat.le_trans (Nat.le_trans (Nat.le_trans (Nat.le_trans (Nat.le_trans (Nat.le_trans (Nat.le_trans (Nat.le_trans (Nat.le_trans (Nat.le_trans (Nat.le_trans (Nat.le_trans (Nat.le_refl _) E10.1) E13.1) (Keep.of_wr W14).1) (Keep.of_wr W15).1) K20.1) K21.1) E22.1) K26.1) K161.1) K164.1) E229.1) (Nat.le_of_eq g232.symm))).wr W234 (Nat.le_trans (Nat.le_trans (Nat.le_trans (Nat.le_trans (Nat.le_trans (Nat.le_trans (Nat.le_trans (Nat.le_trans (Nat.le_trans (Nat.le_trans (Nat.le_trans (Nat.le_trans (Nat.le_refl _) E10.1) E13.1) (Keep.of_wr W14).1) (Keep.of_wr W15).1) K20.1) K21.1) E22.1) K26.1) K161.1) K164.1) E229.1) (Nat.le_of_eq g232.symm))).wr W235 (Nat.le_trans (Nat.le_trans (Nat.le_trans (Nat.le_trans (Nat.le_trans (Nat.le_trans (Nat.le_trans (Nat.le_trans (Nat.le_trans (Nat.le_trans (Nat.le_trans (Nat.le_trans (Nat.le_refl _) E10.1) E13.1) (Keep.of_wr W14).1) (Keep.of_wr W15).1) K20.1) K21.1) E22.1) K26.1) K161.1) K164.1) E229.1) (Nat.le_of_eq g232.symm))).2) P5 rfl rfl (by decide) (by decide) (own_all3 (own_c255 _) (own_c255 _) (own_c255 _)) rfl (by decide) (by decide)) (g := (mkF m 209 #[.val (.int p0), .val (.int p1), .val (.int p2), .val (.int p3), .val (.int p4), .val (.int p5), .val (.int v11_1), .val w4, .val (.int 2), .val (.int u43_6), .val (.int v59_7), .val (.ref b10), .val (.ref b21), .val (.ref b22), .val .null, .unset, .unset, .unset, .unset, .unset] [(.ref b232), (.ref b229), (.ref b229)])) rfl (by rw [hml]; rfl) (Steps.refl _) (a := b229) (argsL := [(.ref b232)]) (rest := [(.ref b229)]) (lenOf pd20 rfl) rfl (by show 2 * 0 + _ ≤ _; exact Nat.le_of_eq rfl) (bd at_209) (fun _ _ => ⟨rfl, e235, (nl rfl), (nl rfl)⟩)
        dsimp only [Pt.U, Pt.locs, Pt.cells, Pt.slots] at X240 l240 y240 z240 st240 hQ240
        subst l240 y240 z240
        obtain ⟨rfl, Nq240, K240, E240, C240, t240, kb240, gt240, ht240, nt240, V240, A240⟩ := hQ240
        have N240 := Fr.app N235 Nq240
        have nt240_b10 : b10 ≠ t240 := Nat.ne_of_lt (Nat.lt_of_lt_of_le (Nat.lt_of_lt_of_le (Nat.lt_of_lt_of_le (Nat.lt_of_lt_of_le (Nat.lt_of_lt_of_le (Nat.lt_of_lt_of_le (Nat.lt_of_lt_of_le (Nat.lt_of_lt_of_le (Nat.lt_of_lt_of_le (Nat.lt_of_lt_of_le (Nat.lt_of_lt_of_le (Nat.lt_of_lt_of_le (Nat.lt_of_lt_of_le (Nat.lt_of_lt_of_le (Nat.lt_of_lt_of_le A10.lt E13.1) (Keep.of_wr W14).1) (Keep.of_wr W15).1) K20.1) K21.1) E22.1) K26.1) K161.1) K164.1) E229.1) E232.1) (Keep.of_wr W233).1) (Keep.of_wr W234).1) (Keep.of_wr W235).1) ht240)
        have nt240_b13 : b13 ≠ t240 := Nat.ne_of_lt (Nat.lt_of_lt_of_le (Nat.lt_of_lt_of_le (Nat.lt_of_lt_of_le (Nat.lt_of_lt_of_le (Nat.lt_of_lt_of_le (Nat.lt_of_lt_of_le (Nat.lt_of_lt_of_le (Nat.lt_of_lt_of_le (Nat.lt_of_lt_of_le (Nat.lt_of_lt_of_le (Nat.lt_of_lt_of_le (Nat.lt_of_lt_of_le (Nat.lt_of_lt_of_le (Nat.lt_of_lt_of_le V13.lt (Keep.of_wr W14).1) (Keep.of_wr W15).1) K20.1) K21.1) E22.1) K26.1) K161.1) K164.1) E229.1) E232.1) (Keep.of_wr W233).1) (Keep.of_wr W234).1) (Keep.of_wr W235).1) ht240)
        have nt240_t20 : t20 ≠ t240 := Nat.ne_of_lt (Nat.lt_of_lt_of_le (Nat.lt_of_lt_of_le (Nat.lt_of_lt_of_le (Nat.lt_of_lt_of_le (Nat.lt_of_lt_of_le (Nat.lt_of_lt_of_le (Nat.lt_of_lt_of_le (Nat.lt_of_lt_of_le (Nat.lt_of_lt_of_le (Nat.lt_of_lt_of_le (Nat.lt_of_lt_of_le A20.lt K21.1) E22.1) K26.1) K161.1) K164.1) E229.1) E232.1) (Keep.of_wr W233).1) (Keep.of_wr W234).1) (Keep.of_wr W235).1) ht240)
        have nt240_b21 : b21 ≠ t240 := Nat.ne_of_lt (Nat.lt_of_lt_of_le (Nat.lt_of_lt_of_le (Nat.lt_of_lt_of_le (Nat.lt_of_lt_of_le (Nat.lt_of_lt_of_le (Nat.lt_of_lt_of_le (Nat.lt_of_lt_of_le (Nat.lt_of_lt_of_le (Nat.lt_of_lt_of_le (Nat.lt_of_lt_of_le E21.lt E22.1) K26.1) K161.1) K164.1) E229.1) E232.1) (Keep.of_wr W233).1) (Keep.of_wr W234).1) (Keep.of_wr W235).1) ht240)
        have nt240_t21 : t21 ≠ t240 := Nat.ne_of_lt (Nat.lt_of_lt_of_le (Nat.lt_of_lt_of_le (Nat.lt_of_lt_of_le (Nat.lt_of_lt_of_le (Nat.lt_of_lt_of_le (Nat.lt_of_lt_of_le (Nat.lt_of_lt_of_le (Nat.lt_of_lt_of_le (Nat.lt_of_lt_of_le (Nat.lt_of_lt_of_le A21.lt E22.1) K26.1) K161.1) K164.1) E229.1) E232.1) (Keep.of_wr W233).1) (Keep.of_wr W234).1) (Keep.of_wr W235).1) ht240)
        have nt240_b22 : b22 ≠ t240 := Nat.ne_of_lt (Nat.lt_of_lt_of_le (Nat.lt_of_lt_of_le (Nat.lt_of_lt_of_le (Nat.lt_of_lt_of_le (Nat.lt_of_lt_of_le (Nat.lt_of_lt_of_le (Nat.lt_of_lt_of_le (Nat.lt_of_lt_of_le (Nat.lt_of_lt_of_le A22.lt K26.1) K161.1) K164.1) E229.1) E232.1) (Keep.of_wr W233).1) (Keep.of_wr W234).1) (Keep.of_wr W235).1) ht240)
        have nt240_b161 : b161 ≠ t240 := Nat.ne_of_lt (Nat.lt_of_lt_of_le (Nat.lt_of_lt_of_le (Nat.lt_of_lt_of_le (Nat.lt_of_lt_of_le (Nat.lt_of_lt_of_le (Nat.lt_of_lt_of_le (Nat.lt_of_lt_of_le A161.lt K164.1) E229.1) E232.1) (Keep.of_wr W233).1) (Keep.of_wr W234).1) (Keep.of_wr W235).1) ht240)
        have nt240_b232 : b232 ≠ t240 := Nat.ne_of_lt (Nat.lt_of_lt_of_le (Nat.lt_of_lt_of_le (Nat.lt_of_lt_of_le (Nat.lt_of_lt_of_le V232.lt (Keep.of_wr W233).1) (Keep.of_wr W234).1) (Keep.of_wr W235).1) ht240)
        refine OD.via st240 ?_
        refine OD.go (B := (T240.setTop (mkF m 214 #[.val (.int p0), .val (.int p1), .val (.int p2), .val (.int p3), .val (.int p4), .val (.int p5), .val (.int v11_1), .val w4, .val (.int 2), .val (.int u43_6), .val (.int v59_7), .val (.ref b10), .val (.ref b21), .val (.ref b22), .val (.ref b229), .unset, .unset, .unset, .unset, .unset] []))) (fun t k => XS.astore X240.here hx rfl (bd at_212) rfl rfl (l' := #[.val (.int p0), .val (.int p1), .val (.int p2), .val (.int p3), .val (.int p4), .val (.int p5), .val (.int v11_1), .val w4, .val (.int 2), .val (.int u43_6), .val (.int v59_7), .val (.ref b10), .val (.ref b21), .val (.ref b22), .val (.ref b229), .unset, .unset, .unset, .unset, .unset]) rfl k) ?_
        exact tail _ _ _ (.ref b229) (X240.more (nl rfl) (nl rfl)) rfl N240 (((((((Keep.refl T164.heap []).ext E229).ext E232).wr W233 (Or.inr (Nat.le_trans (Nat.le_trans (Nat.le_refl _) E229.1) (Nat.le_of_eq g232.symm)))).wr W234 (Or.inr (Nat.le_trans (Nat.le_trans (Nat.le_refl _) E229.1) (Nat.le_of_eq g232.symm)))).wr W235 (Or.inr (Nat.le_trans (Nat.le_trans (Nat.le_refl _) E229.1) (Nat.le_of_eq g232.symm)))).trans K240 (allS (Or.inr (Nat.le_trans (Nat.le_refl _) (Nat.le_of_eq g229.symm))) all0)) rfl
      · refine OD.go (B := (T164.setTop (mkF m 214 #[.val (.int p0), .val (.int p1), .val (.int p2), .val (.int p3), .val (.int p4), .val (.int p5), .val (.int v11_1), .val w4, .val (.int 2), .val (.int u43_6), .val (.int v59_7), .val (.ref b10), .val (.ref b21), .val (.ref b22), .val .null, .unset, .unset, .unset, .unset, .unset] []))) (fun t k => XS.icmpYes X164.here hx rfl (pc0 := 166) (pc' := 214) rfl (bd at_166) rfl (feq c166_228).2 (by decide) (by decide) k) ?_
        exact tail _ _ _ .null (X164.more (nl rfl) (nl rfl)) rfl N164 (Keep.refl T164.heap []) rfl
set_option maxRecDepth 65536 in
set_option maxHeartbeats 40000000 in
theorem comes_1 {Post : Tables → Env → Array Value → State → Outcome → State → Prop} (hpost : ∀ tb e args s v u, (limb_1_1.after args s (.returned v) u = true ∧ limb_1_2.after args s (.returned v) u = true ∧ True) → FrameEnd s (.returned v) u (Jvm.fieldLocs frame_1_writes args s ++ Jvm.arrayLocs frame_1_arrays args s ++ Jvm.staticLocs frame_1_statics s) 40 192 → Post tb e args s (.returned v) u) :
    ArmFor flags0 classFile x code maxLocals ret World_1 tables_1 room_1 Calls_1 rest_1 Pre_1 Post := by
  intro l hfl _ _ p e ha hc hk s m args below hf hA hF happ hP
  obtain ⟨hcalls, hrest, hpre⟩ := hP
  obtain ⟨-, -, -, hnamed, -, -, -, hat⟩ := (Spec.applies_iff hf).mp happ
  obtain ⟨hg, hn⟩ := and_e (Cond.before_iff.mp (show (Jvm.Cond.and given_1 narrow_1).before args s = true from hpre))
  obtain ⟨hg0, hr0⟩ := and_e hg
  obtain ⟨hg1, hr1⟩ := and_e hr0
  obtain ⟨hg2, hr2⟩ := and_e hr1
  obtain ⟨hg3, hr3⟩ := and_e hr2
  obtain ⟨hg4, hr4⟩ := and_e hr3
  obtain ⟨hg5, hr5⟩ := and_e hr4
  obtain ⟨w0, w1, w2, w3, w4, w5, rfl⟩ : ∃ w0 w1 w2 w3 w4 w5 : Value, args = #[w0, w1, w2, w3, w4, w5] := by
    have hs : args.size = 6 := by simpa [Cond.value, given_1] using hg0
    obtain ⟨L⟩ := args
    match L, hs with
    | [w0, w1, w2, w3, w4, w5], _ => exact ⟨w0, w1, w2, w3, w4, w5, rfl⟩
  have hw := fun d (hd : d ∈ tables_1) => atoms_spec (ws := Jvm.Cond.code x code maxLocals ret :: tables_1) hat d (List.mem_cons_of_mem _ hd)
  obtain ⟨i0, ei0⟩ := is_v hg1
  obtain rfl : w0 = (.int i0) := Option.some.inj ei0
  obtain ⟨i1, ei1⟩ := is_v hg2
  obtain rfl : w1 = (.int i1) := Option.some.inj ei1
  obtain ⟨i2, ei2⟩ := is_v hg3
  obtain rfl : w2 = (.int i2) := Option.some.inj ei2
  obtain ⟨i3, ei3⟩ := is_v hg4
  obtain rfl : w3 = (.int i3) := Option.some.inj ei3
  obtain ⟨i4, ei4⟩ := is_v hg5
  obtain rfl : w4 = (.int i4) := Option.some.inj ei4
  obtain ⟨i5, ei5⟩ := is_v hr5
  obtain rfl : w5 = (.int i5) := Option.some.inj ei5
  obtain ⟨hsets, hown0⟩ := atoms_of _ (rest_1_c_eq ▸ (show rest_1_c.before _ s = true from hrest))
  have hfit : Fit s := fun {y c} hc i hi => by
    obtain ⟨ha, rfl⟩ := Array.getElem?_eq_some_iff.mp hc
    have q := List.all_eq_true.mp ((Array.all_eq_true_iff_forall_mem.mp hF) _ (Array.getElem_mem ha)) i (List.mem_range.mpr hi)
    simpa [Array.getElem?_eq_getElem hi] using q
  have n5 := not_v (Cond.before_iff.mp (hsets _ (List.mem_of_getElem? (i := 2) rfl)))
  obtain ⟨zc, e10⟩ := is_v (Cond.before_iff.mp (hsets _ (List.mem_of_getElem? (i := 1) rfl)))
  have S12 : Sta s s.heap "java/lang/String" "COMPACT_STRINGS" "Z" (.int zc) := Sta.start e10 (Or.inl (hsets _ (List.mem_of_getElem? (i := 0) rfl)))
  have c17 : ¬ (zc = (0 : Int32)) := gotF (Cond.eq_ints e10 (Term.int_eval (0))) n5
  obtain ⟨el, ee⟩ := exa_v (Cond.before_iff.mp (hsets _ (List.mem_of_getElem? (i := 20) rfl)))
  have Se : Sta s s.heap cI "EMPTY_LIST" zZ12 (.ref el) := Sta.start ee (Or.inl (hsets _ (List.mem_of_getElem? (i := 19) rfl)))
  have Ee : Exa s s.heap el cN := Exa.start ee (Cond.before_iff.mp (hsets _ (List.mem_of_getElem? (i := 20) rfl)))
  have Fa : Fld s s.heap el cN "allowNulls" "Z" (.int 0) := Fld.start ((fld_at ee).symm.trans (own_eqI (Cond.before_iff.mp (hsets _ (List.mem_of_getElem? (i := 24) rfl)))))
  obtain ⟨ea, ef⟩ := arr_v (Cond.before_iff.mp (hsets _ (List.mem_of_getElem? (i := 21) rfl)))
  have Fel : Fld s s.heap el cN "elements" "[Ljava/lang/Object;" (.ref ea) := Fld.start ((fld_at ee).symm.trans ef)
  obtain ⟨ce, Ace⟩ := Arr.start ef (Cond.before_iff.mp (hsets _ (List.mem_of_getElem? (i := 21) rfl)))
  have Ae := own_arv0 hfit ef Ace (Cond.before_iff.mp (hsets _ (List.mem_of_getElem? (i := 23) rfl)))
  obtain ⟨em, eem⟩ := exa_v (Cond.before_iff.mp (hsets _ (List.mem_of_getElem? (i := 35) rfl)))
  have Sm : Sta s s.heap cI "EMPTY" oO (.ref em) := Sta.start eem (Or.inl (hsets _ (List.mem_of_getElem? (i := 34) rfl)))
  have Emm : Exa s s.heap em cO := Exa.start eem (Cond.before_iff.mp (hsets _ (List.mem_of_getElem? (i := 35) rfl)))
  have Sh : Sta s s.heap zZ20 "high" "I" (.int 127) := Sta.start (own_eqI (Cond.before_iff.mp (hsets _ (List.mem_of_getElem? (i := 28) rfl)))) (Or.inl (hsets _ (List.mem_of_getElem? (i := 26) rfl)))
  obtain ⟨ca, eca⟩ := arr_v (Cond.before_iff.mp (hsets _ (List.mem_of_getElem? (i := 29) rfl)))
  have Sc : Sta s s.heap zZ20 "cache" "[Ljava/lang/Integer;" (.ref ca) := Sta.start eca (Or.inr ⟨(hw _ (List.mem_of_getElem? (i := 224) rfl)), (hsets _ (List.mem_of_getElem? (i := 27) rfl))⟩)
  obtain ⟨cc, Acc⟩ := Arr.start eca (Cond.before_iff.mp (hsets _ (List.mem_of_getElem? (i := 29) rfl)))
  have Cc := own_cach hfit eca Acc (Cond.before_iff.mp (hsets _ (List.mem_of_getElem? (i := 31) rfl)))
  obtain ⟨dc, ed⟩ := arr_v (Cond.before_iff.mp (hsets _ (List.mem_of_getElem? (i := 15) rfl)))
  have Sdc : Sta s s.heap cA zZ21 "[Ljava/lang/Object;" (.ref dc) := Sta.start ed (Or.inr ⟨(hw _ (List.mem_of_getElem? (i := 53) rfl)), (hsets _ (List.mem_of_getElem? (i := 11) rfl))⟩)
  obtain ⟨cd, Acd⟩ := Arr.start ed (Cond.before_iff.mp (hsets _ (List.mem_of_getElem? (i := 15) rfl)))
  have Vdc := own_arv0 hfit ed Acd (Cond.before_iff.mp (hsets _ (List.mem_of_getElem? (i := 17) rfl)))
  obtain ⟨hn0, hnr⟩ := and_e hn
  obtain ⟨hn1, hnr⟩ := and_e hnr
  obtain ⟨hn2, hn3⟩ := and_e hnr
  obtain ⟨s0, es0⟩ := exa_v hn0
  have Ss0 : Sta s s.heap cV "NO_ALARM" dV (.ref s0) := Sta.start es0 (Or.inr ⟨(hw _ (List.mem_of_getElem? (i := 5) rfl)), (hw _ (List.mem_of_getElem? (i := 6) rfl))⟩)
  obtain ⟨s2, es2⟩ := exa_v hn1
  have Ss2 : Sta s s.heap cV "MAJOR" dV (.ref s2) := Sta.start es2 (Or.inr ⟨(hw _ (List.mem_of_getElem? (i := 5) rfl)), (hw _ (List.mem_of_getElem? (i := 187) rfl))⟩)
  obtain ⟨s1, es1⟩ := exa_v hn2
  have Ss1 : Sta s s.heap cV "MINOR" dV (.ref s1) := Sta.start es1 (Or.inr ⟨(hw _ (List.mem_of_getElem? (i := 5) rfl)), (hw _ (List.mem_of_getElem? (i := 189) rfl))⟩)
  obtain ⟨s3, es3⟩ := exa_v hn3
  have Ss3 : Sta s s.heap cV "INVALID" dV (.ref s3) := Sta.start es3 (Or.inr ⟨(hw _ (List.mem_of_getElem? (i := 5) rfl)), (hw _ (List.mem_of_getElem? (i := 334) rfl))⟩)
  obtain ⟨cM, kM, mr, mM1, mM2, mM3, -⟩ := hcalls.1
  obtain ⟨n, o, h1, h2, h3, _, L, rfl, ⟨rfl, N⟩, hq⟩ := rm0 l s _ hw tables_1 i0 i1 i2 i3 i4 i5 s.heap (Old.start s) zc S12 c17 el ea _ Se Ee Fa Fel Ae em Sm Emm ca Sh Sc Cc s0 Ss0 s1 Ss1 s2 Ss2 s3 Ss3 dc _ Sdc Vdc mr ⟨cM, kM, mM1, mM2, mM3⟩ p e ha hc hk s m _ below hf ((Spec.applies_iff_loose hf).mp happ).1 ⟨rfl, State.Warmed39.refl s, rfl⟩ trivial
  refine ⟨n, _, h1, h2, h3, hpost _ _ _ _ _ _ ⟨Cond.after_iff.mpr rfl, Cond.after_iff.mpr (eq_i res_at (Term.int_eval (1)) rfl), trivial⟩ ⟨hq.1, hq.2.1, (hq.2.2.sift fun y hy => Or.inr (N y hy)).mono (by decide) (by decide)⟩⟩
theorem main_1_1 : Claimed_1_1 := comes_1 fun _ _ _ _ _ _ h hF => ⟨h.1, hF⟩
theorem main_1_2 : Claimed_1_2 := comes_1 fun _ _ _ _ _ _ h hF => ⟨h.2.1, hF⟩
end Jvm.Pilot.@@N@@
namespace Jvm.Pilot.@@N@@
open Jvm Jvm.ClassFile Sem Op Lib Jvm.Free Jvm.Stand Jvm.Pilot.@@N@@.Jvm.D
/-! MADE BY PROGRAM (witnessworld.py) out of the Statement's table words and the real class files: 47 classes; the members and pool entries that the words name. The judged class is class 1, her method 2. -/
namespace start1
open Jvm.ClassFile
def u (s : String) : CpInfo := .utf8 (stringToUtf16 s)
/-- a pool by its gaps: so many unusable entries, then the entry; so many at the end -/
def gap : Nat → List CpInfo → List CpInfo
  | 0, r => r
  | n + 1, r => .unusable :: gap n r
def poolList (es : List (Nat × CpInfo)) (last : Nat) : List CpInfo := es.foldr (fun e r => gap e.1 (e.2 :: r)) (gap last [])
def pool (es : List (Nat × CpInfo)) (last : Nat) : Array CpInfo := ⟨poolList es last⟩
def fileOf (pool : Array CpInfo) (this : Nat) (attrs : Array Attribute := #[]) (ms : Array MethodInfo := #[]) (fl : Nat := 33) (sup : Nat := 0) (ifs : Array Nat := #[]) (fds : Array FieldInfo := #[]) : ClassFile where
  minorVersion := 0
  majorVersion := 65
  constantPool := pool
  accessFlags := fl
  thisClass := this
  superClass := sup
  interfaces := ifs
  fields := fds
  methods := ms
  attributes := attrs
def plain (name : String) (sup : Option ClassId) : Class where
  name := name
  kind := .ordinary
  loader := none
  accessFlags := 33
  super := sup
  interfaces := #[]
  cf := none
  fields := #[]
  methods := #[]
  instanceTypes := #[]
  staticTypes := #[]
  resolved := #[]
  callSites := []
  init := .initialized
  statics := none
  mirror := none

def pool0 : Array CpInfo := pool [(5, u "<init>"), (0, u "()V"), (1, .class_ 10), (1, u "java/lang/Object"), (0, u "getClass"), (0, u "()Ljava/lang/Class;")] 111

def k0c0 : Code := { maxStack := 0, maxLocals := 1, code := object_method_1_code, exceptionTable := #[], attributes := #[] }
def k0m0 : Method := { name := "<init>", desc := "()V", sig := { parameters := [], returnType := none }, accessFlags := 1, code := some k0c0 }
def k0m1 : Method := { name := "getClass", desc := "()Ljava/lang/Class;", sig := { parameters := [], returnType := some (.object "java/lang/Class") }, accessFlags := 273, code := none }
/-- java/lang/Object -/
def k0 : Class := { plain "java/lang/Object" none with
  accessFlags := 33
  interfaces := #[]
  cf := some (fileOf pool0 8 #[] #[{ accessFlags := 1, nameIndex := 5, descriptorIndex := 6, attributes := #[] }, { accessFlags := 273, nameIndex := 11, descriptorIndex := 12, attributes := #[] }] 33 0 #[] #[])
  fields := #[]
  methods := #[k0m0, k0m1]
  instanceTypes := #[]
  staticTypes := #[]
  resolved := Array.replicate 124 none
  statics := none }

def pool1 : Array CpInfo := pool [(2, .class_ 4), (0, .nameAndType 5 6), (0, u "java/lang/Object"), (0, u "<init>"), (0, u "()V"), (0, .fieldref 8 9), (0, .class_ 10), (0, .nameAndType 11 12), (0, u "com/example/echo_panel/echopanel/channel/Severity"), (0, u "NO_ALARM"), (0, u "Lcom/example/echo_panel/echopanel/channel/Severity;"), (0, .fieldref 8 14), (0, .nameAndType 15 12), (0, u "MINOR"), (0, .fieldref 8 17), (0, .nameAndType 18 12), (0, u "MAJOR"), (0, .fieldref 8 20), (0, .nameAndType 21 12), (0, u "INVALID"), (0, .methodref 23 24), (0, .class_ 25), (0, .nameAndType 26 27), (0, u "com/example/echo_panel/echopanel/channel/ChannelStateLostPinLaw"), (0, u "severityOf"), (0, u "(I)Lcom/example/echo_panel/echopanel/channel/Severity;"), (0, .class_ 29), (0, u "java/lang/String"), (0, .methodref 28 31), (0, .nameAndType 5 32), (0, u "([C)V"), (0, .methodref 28 34), (0, .nameAndType 35 36), (0, u "valueOf"), (0, u "(C)Ljava/lang/String;"), (0, .class_ 38), (0, u "java/util/ArrayList"), (0, .methodref 37 3), (0, .methodref 37 41), (0, .nameAndType 42 43), (0, u "add"), (0, u "(Ljava/lang/Object;)Z"), (0, .methodref 45 46), (0, .class_ 47), (0, .nameAndType 35 48), (0, u "java/lang/Integer"), (0, u "(I)Ljava/lang/Integer;"), (0, .class_ 50), (0, u "com/example/echo_panel/echopanel/channel/DisplayLimits"), (0, .methodref 49 52), (0, .nameAndType 5 53), (0, u "(DD)V"), (0, .class_ 55), (0, u "com/example/echo_panel/echopanel/channel/ChannelState"), (0, .methodref 54 57), (0, .nameAndType 5 58), (0, u "(ZLcom/example/echo_panel/echopanel/channel/Severity;ILjava/util/List;Ljava/lang/Object;Lcom/example/echo_panel/echopanel/channel/DisplayLimits;)V"), (0, .methodref 54 60), (0, .nameAndType 5 61), (0, u "(ZLcom/example/echo_panel/echopanel/channel/Severity;ILjava/util/List;Ljava/lang/Object;)V"), (0, .methodref 54 63), (0, .nameAndType 64 65), (0, u "lost"), (0, u "()Lcom/example/echo_panel/echopanel/channel/ChannelState;"), (0, .methodref 54 67), (0, .nameAndType 68 69), (0, u "connected"), (0, u "()Z"), (0, .methodref 54 71), (0, .nameAndType 72 73), (0, u "severity"), (0, u "()Lcom/example/echo_panel/echopanel/channel/Severity;"), (0, .methodref 54 75), (0, .nameAndType 76 77), (0, u "precision"), (0, u "()I"), (0, .methodref 54 79), (0, .nameAndType 80 81), (0, u "value"), (0, u "()Ljava/lang/Object;"), (0, .methodref 54 83), (0, .nameAndType 84 85), (0, u "labels"), (0, u "()Ljava/util/List;"), (0, .interfaceMethodref 87 88), (0, .class_ 89), (0, .nameAndType 90 77), (0, u "java/util/List"), (0, u "size"), (0, .interfaceMethodref 87 92), (0, .nameAndType 93 94), (0, u "get"), (0, u "(I)Ljava/lang/Object;"), (0, .methodref 28 96), (0, .nameAndType 97 43), (0, u "equals"), (0, .methodref 54 99), (0, .nameAndType 100 101), (0, u "limits"), (0, u "()Lcom/example/echo_panel/echopanel/channel/DisplayLimits;"), (0, .methodref 49 103), (0, .nameAndType 104 105), (0, u "lower"), (0, u "()D"), (0, .methodref 49 107), (0, .nameAndType 108 105), (0, u "upper"), (3, u "law"), (0, u "(IIIIII)Z")] 2

def k1m0 : Method := { name := "<init>", desc := "()V", sig := { parameters := [], returnType := none }, accessFlags := 1, code := none }
def k1c1 : Code := { maxStack := 2, maxLocals := 1, code := method_2_code, exceptionTable := #[], attributes := #[] }
def k1m1 : Method := { name := "severityOf", desc := "(I)Lcom/example/echo_panel/echopanel/channel/Severity;", sig := { parameters := [.int], returnType := some (.object "com/example/echo_panel/echopanel/channel/Severity") }, accessFlags := 10, code := some k1c1 }
def k1c2 : Code := { maxStack := 8, maxLocals := 20, code := code, exceptionTable := #[], attributes := #[] }
def k1m2 : Method := { name := "law", desc := "(IIIIII)Z", sig := { parameters := [.int, .int, .int, .int, .int, .int], returnType := some .boolean }, accessFlags := 9, code := some k1c2 }
/-- com/example/echo_panel/echopanel/channel/ChannelStateLostPinLaw -/
def k1 : Class := { plain "com/example/echo_panel/echopanel/channel/ChannelStateLostPinLaw" (some 0) with
  accessFlags := 49
  interfaces := #[]
  cf := some (fileOf pool1 23 #[] #[{ accessFlags := 1, nameIndex := 5, descriptorIndex := 6, attributes := #[] }, { accessFlags := 10, nameIndex := 26, descriptorIndex := 27, attributes := #[] }, { accessFlags := 9, nameIndex := 112, descriptorIndex := 113, attributes := #[] }] 49 2 #[] #[])
  fields := #[]
  methods := #[k1m0, k1m1, k1m2]
  instanceTypes := #[]
  staticTypes := #[]
  resolved := Array.replicate 116 none
  statics := none }

def pool2 : Array CpInfo := pool [(1, .class_ 2), (0, u "java/lang/constant/Constable"), (0, .class_ 4), (0, u "java/lang/Object")] 6

/-- java/lang/constant/Constable -/
def k2 : Class := { plain "java/lang/constant/Constable" (some 0) with
  accessFlags := 1537
  interfaces := #[]
  cf := some (fileOf pool2 1 #[] #[] 1537 3 #[] #[])
  fields := #[]
  methods := #[]
  instanceTypes := #[]
  staticTypes := #[]
  resolved := Array.replicate 11 none
  statics := none }

def pool3 : Array CpInfo := pool [(1, .class_ 2), (0, u "java/lang/Comparable"), (0, .class_ 4), (0, u "java/lang/Object")] 7

/-- java/lang/Comparable -/
def k3 : Class := { plain "java/lang/Comparable" (some 0) with
  accessFlags := 1537
  interfaces := #[]
  cf := some (fileOf pool3 1 #[] #[] 1537 3 #[] #[])
  fields := #[]
  methods := #[]
  instanceTypes := #[]
  staticTypes := #[]
  resolved := Array.replicate 12 none
  statics := none }

def pool4 : Array CpInfo := pool [(1, .class_ 2), (0, u "java/io/Serializable"), (0, .class_ 4), (0, u "java/lang/Object")] 2

/-- java/io/Serializable -/
def k4 : Class := { plain "java/io/Serializable" (some 0) with
  accessFlags := 1537
  interfaces := #[]
  cf := some (fileOf pool4 1 #[] #[] 1537 3 #[] #[])
  fields := #[]
  methods := #[]
  instanceTypes := #[]
  staticTypes := #[]
  resolved := Array.replicate 7 none
  statics := none }

def pool5 : Array CpInfo := pool [(2, .class_ 4), (1, u "java/lang/Enum"), (0, u "name"), (0, u "Ljava/lang/String;"), (2, u "ordinal"), (0, u "I"), (1, .class_ 14), (1, u "java/lang/Object"), (4, u "hash"), (86, .class_ 108), (1, u "java/lang/Enum$EnumDesc"), (2, .class_ 112), (0, u "java/lang/constant/Constable"), (0, .class_ 114), (0, u "java/lang/Comparable"), (0, .class_ 116), (0, u "java/io/Serializable")] 87

/-- java/lang/Enum -/
def k5 : Class := { plain "java/lang/Enum" (some 0) with
  accessFlags := 1057
  interfaces := #[2, 3, 4]
  cf := some (fileOf pool5 2 #[.nestMembers #[106]] #[] 1057 12 #[111, 113, 115] #[{ accessFlags := 18, nameIndex := 5, descriptorIndex := 6, attributes := #[] }, { accessFlags := 18, nameIndex := 9, descriptorIndex := 10, attributes := #[] }, { accessFlags := 2, nameIndex := 19, descriptorIndex := 10, attributes := #[] }])
  fields := #[{ name := "name", type := (.object "java/lang/String"), accessFlags := 18, slot := 0, constantValue := 0 }, { name := "ordinal", type := .int, accessFlags := 18, slot := 1, constantValue := 0 }, { name := "hash", type := .int, accessFlags := 2, slot := 2, constantValue := 0 }]
  methods := #[]
  instanceTypes := #[(.object "java/lang/String"), .int, .int]
  staticTypes := #[]
  resolved := Array.replicate 204 none
  statics := none }

def pool6 : Array CpInfo := pool [(1, .class_ 2), (0, u "com/example/echo_panel/echopanel/channel/Severity"), (2, u "NO_ALARM"), (0, u "Lcom/example/echo_panel/echopanel/channel/Severity;"), (2, u "MINOR"), (2, u "MAJOR"), (2, u "INVALID"), (2, u "$VALUES"), (0, u "[Lcom/example/echo_panel/echopanel/channel/Severity;"), (6, .class_ 28), (1, u "java/lang/Enum")] 26

/-- com/example/echo_panel/echopanel/channel/Severity -/
def k6 : Class := { plain "com/example/echo_panel/echopanel/channel/Severity" (some 5) with
  accessFlags := 16433
  interfaces := #[]
  cf := some (fileOf pool6 1 #[] #[] 16433 26 #[] #[{ accessFlags := 16409, nameIndex := 5, descriptorIndex := 6, attributes := #[] }, { accessFlags := 16409, nameIndex := 9, descriptorIndex := 6, attributes := #[] }, { accessFlags := 16409, nameIndex := 12, descriptorIndex := 6, attributes := #[] }, { accessFlags := 16409, nameIndex := 15, descriptorIndex := 6, attributes := #[] }, { accessFlags := 4122, nameIndex := 18, descriptorIndex := 19, attributes := #[] }])
  fields := #[{ name := "NO_ALARM", type := (.object "com/example/echo_panel/echopanel/channel/Severity"), accessFlags := 16409, slot := 0, constantValue := 0 }, { name := "MINOR", type := (.object "com/example/echo_panel/echopanel/channel/Severity"), accessFlags := 16409, slot := 1, constantValue := 0 }, { name := "MAJOR", type := (.object "com/example/echo_panel/echopanel/channel/Severity"), accessFlags := 16409, slot := 2, constantValue := 0 }, { name := "INVALID", type := (.object "com/example/echo_panel/echopanel/channel/Severity"), accessFlags := 16409, slot := 3, constantValue := 0 }, { name := "$VALUES", type := (.array (.object "com/example/echo_panel/echopanel/channel/Severity")), accessFlags := 4122, slot := 4, constantValue := 0 }]
  methods := #[]
  instanceTypes := #[(.object "java/lang/String"), .int, .int]
  staticTypes := #[(.object "com/example/echo_panel/echopanel/channel/Severity"), (.object "com/example/echo_panel/echopanel/channel/Severity"), (.object "com/example/echo_panel/echopanel/channel/Severity"), (.object "com/example/echo_panel/echopanel/channel/Severity"), (.array (.object "com/example/echo_panel/echopanel/channel/Severity"))]
  resolved := Array.replicate 55 none
  statics := some 0 }

def pool7 : Array CpInfo := pool [(2, .class_ 4), (1, u "java/lang/CharSequence"), (42, .class_ 48), (0, u "java/lang/CharSequence$1CodePointIterator"), (10, .class_ 60), (0, u "java/lang/CharSequence$1CharIterator"), (5, .class_ 67), (0, u "java/lang/Object")] 63

/-- java/lang/CharSequence -/
def k7 : Class := { plain "java/lang/CharSequence" (some 0) with
  accessFlags := 1537
  interfaces := #[]
  cf := some (fileOf pool7 2 #[.nestMembers #[47, 59]] #[] 1537 66 #[] #[])
  fields := #[]
  methods := #[]
  instanceTypes := #[]
  staticTypes := #[]
  resolved := Array.replicate 131 none
  statics := none }

def pool8 : Array CpInfo := pool [(1, .class_ 2), (0, u "java/lang/constant/ConstantDesc"), (0, .class_ 4), (0, u "java/lang/Object")] 32

/-- java/lang/constant/ConstantDesc -/
def k8 : Class := { plain "java/lang/constant/ConstantDesc" (some 0) with
  accessFlags := 1537
  interfaces := #[]
  cf := some (fileOf pool8 1 #[] #[] 1537 3 #[] #[])
  fields := #[]
  methods := #[]
  instanceTypes := #[]
  staticTypes := #[]
  resolved := Array.replicate 37 none
  statics := none }

def pool9 : Array CpInfo := pool [(1, .methodref 2 3), (0, .class_ 4), (0, .nameAndType 5 6), (0, u "java/lang/Object"), (0, u "<init>"), (0, u "()V"), (2, .fieldref 10 11), (0, .class_ 12), (0, .nameAndType 13 14), (0, u "java/lang/String"), (0, u "value"), (0, u "[B"), (0, .fieldref 10 16), (0, .nameAndType 17 18), (0, u "coder"), (0, u "B"), (2, u "hash"), (0, u "I"), (2, u "hashIsZero"), (0, u "Z"), (0, .methodref 10 28), (0, .nameAndType 5 29), (0, u "([CIILjava/lang/Void;)V"), (8, .fieldref 10 39), (0, .nameAndType 40 26), (0, u "COMPACT_STRINGS"), (1, .class_ 44), (1, u "java/lang/StringUTF16"), (0, u "compress"), (1, .methodref 42 48), (0, .nameAndType 49 50), (0, u "coderFromArrayLen"), (0, u "([BI)B"), (2, u "toBytes"), (53, .class_ 109), (1, u "java/lang/StringLatin1"), (67, .methodref 42 178), (0, .nameAndType 45 179), (0, u "([CII)[B"), (29, .methodref 10 210), (0, .nameAndType 5 211), (0, u "([BB)V"), (157, u "(C)Z"), (173, u "equals"), (29, u "(Ljava/lang/Object;)Z"), (1, .class_ 576), (0, u "java/lang/CharSequence"), (22, u "CASE_INSENSITIVE_ORDER"), (0, u "Ljava/util/Comparator;"), (181, u "valueOf"), (0, u "(C)Ljava/lang/String;"), (226, u "([C)V"), (4, .methodref 107 1016), (0, .nameAndType 1017 369), (0, u "canEncode"), (0, .methodref 107 1019), (0, .nameAndType 53 1020), (0, u "(C)[B"), (80, u "serialPersistentFields"), (0, u "[Ljava/io/ObjectStreamField;"), (0, .class_ 1104), (0, u "java/lang/String$CaseInsensitiveComparator"), (1, .class_ 1107), (0, u "java/io/Serializable"), (0, .class_ 1109), (0, u "java/lang/Comparable"), (0, .class_ 1111), (0, u "java/lang/constant/Constable"), (0, .class_ 1113), (0, u "java/lang/constant/ConstantDesc"), (2, u "serialVersionUID"), (0, u "J"), (3, u "REPL"), (0, u "C"), (2, u "LATIN1"), (1, u "UTF16")] 323

def k9m0 : Method := { name := "<init>", desc := "()V", sig := { parameters := [], returnType := none }, accessFlags := 1, code := none }
def k9c1 : Code := { maxStack := 5, maxLocals := 2, code := jdk_42_method_3_code, exceptionTable := #[], attributes := #[] }
def k9m1 : Method := { name := "<init>", desc := "([C)V", sig := { parameters := [(.array .char)], returnType := none }, accessFlags := 1, code := some k9c1 }
def k9c2 : Code := { maxStack := 2, maxLocals := 3, code := jdk_42_method_66_code, exceptionTable := #[], attributes := #[] }
def k9m2 : Method := { name := "equals", desc := "(Ljava/lang/Object;)Z", sig := { parameters := [(.object "java/lang/Object")], returnType := some .boolean }, accessFlags := 1, code := some k9c2 }
def k9c3 : Code := { maxStack := 4, maxLocals := 1, code := jdk_42_method_139_code, exceptionTable := #[], attributes := #[] }
def k9m3 : Method := { name := "valueOf", desc := "(C)Ljava/lang/String;", sig := { parameters := [.char], returnType := some (.object "java/lang/String") }, accessFlags := 9, code := some k9c3 }
def k9c4 : Code := { maxStack := 4, maxLocals := 6, code := jdk_42_method_149_code, exceptionTable := #[], attributes := #[] }
def k9m4 : Method := { name := "<init>", desc := "([CIILjava/lang/Void;)V", sig := { parameters := [(.array .char), .int, .int, (.object "java/lang/Void")], returnType := none }, accessFlags := 2, code := some k9c4 }
def k9c5 : Code := { maxStack := 2, maxLocals := 3, code := jdk_42_method_151_code, exceptionTable := #[], attributes := #[] }
def k9m5 : Method := { name := "<init>", desc := "([BB)V", sig := { parameters := [(.array .byte), .byte], returnType := none }, accessFlags := 0, code := some k9c5 }
/-- java/lang/String -/
def k9 : Class := { plain "java/lang/String" (some 0) with
  accessFlags := 49
  interfaces := #[4, 3, 7, 2, 8]
  cf := some (fileOf pool9 10 #[.nestMembers #[1103]] #[{ accessFlags := 1, nameIndex := 5, descriptorIndex := 6, attributes := #[] }, { accessFlags := 1, nameIndex := 5, descriptorIndex := 1010, attributes := #[] }, { accessFlags := 1, nameIndex := 543, descriptorIndex := 573, attributes := #[] }, { accessFlags := 9, nameIndex := 782, descriptorIndex := 783, attributes := #[] }, { accessFlags := 2, nameIndex := 5, descriptorIndex := 29, attributes := #[] }, { accessFlags := 0, nameIndex := 5, descriptorIndex := 211, attributes := #[] }] 49 2 #[1106, 1108, 575, 1110, 1112] #[{ accessFlags := 18, nameIndex := 13, descriptorIndex := 14, attributes := #[] }, { accessFlags := 18, nameIndex := 17, descriptorIndex := 18, attributes := #[] }, { accessFlags := 2, nameIndex := 21, descriptorIndex := 22, attributes := #[] }, { accessFlags := 2, nameIndex := 25, descriptorIndex := 26, attributes := #[] }, { accessFlags := 26, nameIndex := 1116, descriptorIndex := 1117, attributes := #[] }, { accessFlags := 24, nameIndex := 40, descriptorIndex := 26, attributes := #[] }, { accessFlags := 26, nameIndex := 1101, descriptorIndex := 1102, attributes := #[] }, { accessFlags := 26, nameIndex := 1121, descriptorIndex := 1122, attributes := #[] }, { accessFlags := 25, nameIndex := 599, descriptorIndex := 600, attributes := #[] }, { accessFlags := 24, nameIndex := 1125, descriptorIndex := 18, attributes := #[] }, { accessFlags := 24, nameIndex := 1127, descriptorIndex := 18, attributes := #[] }])
  fields := #[{ name := "value", type := (.array .byte), accessFlags := 18, slot := 0, constantValue := 0 }, { name := "coder", type := .byte, accessFlags := 18, slot := 1, constantValue := 0 }, { name := "hash", type := .int, accessFlags := 2, slot := 2, constantValue := 0 }, { name := "hashIsZero", type := .boolean, accessFlags := 2, slot := 3, constantValue := 0 }, { name := "serialVersionUID", type := .long, accessFlags := 26, slot := 0, constantValue := 0 }, { name := "COMPACT_STRINGS", type := .boolean, accessFlags := 24, slot := 1, constantValue := 0 }, { name := "serialPersistentFields", type := (.array (.object "java/io/ObjectStreamField")), accessFlags := 26, slot := 2, constantValue := 0 }, { name := "REPL", type := .char, accessFlags := 26, slot := 3, constantValue := 0 }, { name := "CASE_INSENSITIVE_ORDER", type := (.object "java/util/Comparator"), accessFlags := 25, slot := 4, constantValue := 0 }, { name := "LATIN1", type := .byte, accessFlags := 24, slot := 5, constantValue := 0 }, { name := "UTF16", type := .byte, accessFlags := 24, slot := 6, constantValue := 0 }]
  methods := #[k9m0, k9m1, k9m2, k9m3, k9m4, k9m5]
  instanceTypes := #[(.array .byte), .byte, .int, .boolean]
  staticTypes := #[.long, .boolean, (.array (.object "java/io/ObjectStreamField")), .char, (.object "java/util/Comparator"), .byte, .byte]
  resolved := Array.replicate 1451 none
  statics := some 1 }

def pool10 : Array CpInfo := pool [(6, .class_ 8), (1, u "java/lang/Object"), (0, u "<init>"), (0, u "()V"), (1, .class_ 14), (1, u "java/lang/StringUTF16"), (31, u "$assertionsDisabled"), (0, u "Z"), (13, u "HI_BYTE_SHIFT"), (0, u "I"), (2, u "LO_BYTE_SHIFT"), (49, .methodref 12 116), (0, .nameAndType 117 118), (0, u "compress"), (0, u "([CI[BII)I"), (3, u "([CII)[B"), (138, u "coderFromArrayLen"), (0, u "([BI)B"), (106, .class_ 371), (1, u "java/lang/StringUTF16$LinesSpliterator"), (58, u "MAX_LENGTH"), (196, .class_ 628), (0, u "java/lang/StringUTF16$CodePointsSpliterator"), (0, .class_ 630), (0, u "java/lang/StringUTF16$CharsSpliterator")] 4

def k10m0 : Method := { name := "<init>", desc := "()V", sig := { parameters := [], returnType := none }, accessFlags := 0, code := none }
def k10c1 : Code := { maxStack := 2, maxLocals := 2, code := jdk_52_method_15_code, exceptionTable := #[], attributes := #[] }
def k10m1 : Method := { name := "coderFromArrayLen", desc := "([BI)B", sig := { parameters := [(.array .byte), .int], returnType := some .byte }, accessFlags := 8, code := some k10c1 }
def k10c2 : Code := { maxStack := 5, maxLocals := 6, code := jdk_52_method_16_code, exceptionTable := #[], attributes := #[] }
def k10m2 : Method := { name := "compress", desc := "([CII)[B", sig := { parameters := [(.array .char), .int, .int], returnType := some (.array .byte) }, accessFlags := 9, code := some k10c2 }
def k10c3 : Code := { maxStack := 3, maxLocals := 7, code := jdk_52_method_21_code, exceptionTable := #[], attributes := #[] }
def k10m3 : Method := { name := "compress", desc := "([CI[BII)I", sig := { parameters := [(.array .char), .int, (.array .byte), .int, .int], returnType := some .int }, accessFlags := 9, code := some k10c3 }
/-- java/lang/StringUTF16 -/
def k10 : Class := { plain "java/lang/StringUTF16" (some 0) with
  accessFlags := 48
  interfaces := #[]
  cf := some (fileOf pool10 12 #[.nestMembers #[627, 629, 369]] #[{ accessFlags := 0, nameIndex := 9, descriptorIndex := 10, attributes := #[] }, { accessFlags := 8, nameIndex := 261, descriptorIndex := 262, attributes := #[] }, { accessFlags := 9, nameIndex := 117, descriptorIndex := 122, attributes := #[] }, { accessFlags := 9, nameIndex := 117, descriptorIndex := 118, attributes := #[] }] 48 6 #[] #[{ accessFlags := 26, nameIndex := 61, descriptorIndex := 62, attributes := #[] }, { accessFlags := 26, nameIndex := 65, descriptorIndex := 62, attributes := #[] }, { accessFlags := 24, nameIndex := 430, descriptorIndex := 62, attributes := #[] }, { accessFlags := 4120, nameIndex := 46, descriptorIndex := 47, attributes := #[] }])
  fields := #[{ name := "HI_BYTE_SHIFT", type := .int, accessFlags := 26, slot := 0, constantValue := 0 }, { name := "LO_BYTE_SHIFT", type := .int, accessFlags := 26, slot := 1, constantValue := 0 }, { name := "MAX_LENGTH", type := .int, accessFlags := 24, slot := 2, constantValue := 0 }, { name := "$assertionsDisabled", type := .boolean, accessFlags := 4120, slot := 3, constantValue := 0 }]
  methods := #[k10m0, k10m1, k10m2, k10m3]
  instanceTypes := #[]
  staticTypes := #[.int, .int, .int, .boolean]
  resolved := Array.replicate 635 none
  statics := none }

def pool11 : Array CpInfo := pool [(4, .class_ 6), (1, u "java/lang/Object"), (0, u "<init>"), (0, u "()V"), (5, .class_ 16), (1, u "java/lang/StringLatin1"), (73, u "canEncode"), (14, u "(C)Z"), (15, u "$assertionsDisabled"), (0, u "Z"), (98, .class_ 223), (1, u "java/lang/StringLatin1$LinesSpliterator"), (156, u "toBytes"), (1, u "(C)[B"), (7, .class_ 391), (0, u "java/lang/StringLatin1$CharsSpliterator")] 3

def k11m0 : Method := { name := "<init>", desc := "()V", sig := { parameters := [], returnType := none }, accessFlags := 0, code := none }
def k11c1 : Code := { maxStack := 2, maxLocals := 1, code := jdk_43_method_3_code, exceptionTable := #[], attributes := #[] }
def k11m1 : Method := { name := "canEncode", desc := "(C)Z", sig := { parameters := [.char], returnType := some .boolean }, accessFlags := 9, code := some k11c1 }
def k11c2 : Code := { maxStack := 4, maxLocals := 1, code := jdk_43_method_46_code, exceptionTable := #[], attributes := #[] }
def k11m2 : Method := { name := "toBytes", desc := "(C)[B", sig := { parameters := [.char], returnType := some (.array .byte) }, accessFlags := 9, code := some k11c2 }
/-- java/lang/StringLatin1 -/
def k11 : Class := { plain "java/lang/StringLatin1" (some 0) with
  accessFlags := 48
  interfaces := #[]
  cf := some (fileOf pool11 14 #[.nestMembers #[390, 221]] #[{ accessFlags := 0, nameIndex := 7, descriptorIndex := 8, attributes := #[] }, { accessFlags := 9, nameIndex := 90, descriptorIndex := 105, attributes := #[] }, { accessFlags := 9, nameIndex := 380, descriptorIndex := 382, attributes := #[] }] 48 4 #[] #[{ accessFlags := 4120, nameIndex := 121, descriptorIndex := 122, attributes := #[] }])
  fields := #[{ name := "$assertionsDisabled", type := .boolean, accessFlags := 4120, slot := 0, constantValue := 0 }]
  methods := #[k11m0, k11m1, k11m2]
  instanceTypes := #[]
  staticTypes := #[.boolean]
  resolved := Array.replicate 395 none
  statics := none }

def pool12 : Array CpInfo := pool [(8, .class_ 10), (1, u "java/lang/Iterable"), (24, .class_ 36), (0, u "java/lang/Object")] 25

/-- java/lang/Iterable -/
def k12 : Class := { plain "java/lang/Iterable" (some 0) with
  accessFlags := 1537
  interfaces := #[]
  cf := some (fileOf pool12 8 #[] #[] 1537 35 #[] #[])
  fields := #[]
  methods := #[]
  instanceTypes := #[]
  staticTypes := #[]
  resolved := Array.replicate 62 none
  statics := none }

def pool13 : Array CpInfo := pool [(10, .class_ 12), (1, u "java/util/Collection"), (0, u "toArray"), (16, u "()Z"), (29, .class_ 61), (0, u "java/lang/Object"), (0, .class_ 63), (0, u "java/lang/Iterable"), (2, u "isEmpty"), (3, u "()[Ljava/lang/Object;")] 44

def k13m0 : Method := { name := "isEmpty", desc := "()Z", sig := { parameters := [], returnType := some .boolean }, accessFlags := 1025, code := none }
def k13m1 : Method := { name := "toArray", desc := "()[Ljava/lang/Object;", sig := { parameters := [], returnType := some (.array (.object "java/lang/Object")) }, accessFlags := 1025, code := none }
/-- java/util/Collection -/
def k13 : Class := { plain "java/util/Collection" (some 0) with
  accessFlags := 1537
  interfaces := #[12]
  cf := some (fileOf pool13 10 #[] #[{ accessFlags := 1025, nameIndex := 66, descriptorIndex := 30, attributes := #[] }, { accessFlags := 1025, nameIndex := 13, descriptorIndex := 70, attributes := #[] }] 1537 60 #[62] #[])
  fields := #[]
  methods := #[k13m0, k13m1]
  instanceTypes := #[]
  staticTypes := #[]
  resolved := Array.replicate 115 none
  statics := none }

def pool14 : Array CpInfo := pool [(1, .methodref 2 3), (0, .class_ 4), (0, .nameAndType 5 6), (0, u "java/lang/Object"), (0, u "<init>"), (0, u "()V"), (1, .class_ 10), (1, u "java/util/AbstractCollection"), (66, .class_ 78), (0, u "java/util/Collection")] 81

def k14c0 : Code := { maxStack := 1, maxLocals := 1, code := jdk_22_method_1_code, exceptionTable := #[], attributes := #[] }
def k14m0 : Method := { name := "<init>", desc := "()V", sig := { parameters := [], returnType := none }, accessFlags := 4, code := some k14c0 }
/-- java/util/AbstractCollection -/
def k14 : Class := { plain "java/util/AbstractCollection" (some 0) with
  accessFlags := 1057
  interfaces := #[13]
  cf := some (fileOf pool14 8 #[] #[{ accessFlags := 4, nameIndex := 5, descriptorIndex := 6, attributes := #[] }] 1057 2 #[77] #[])
  fields := #[]
  methods := #[k14m0]
  instanceTypes := #[]
  staticTypes := #[]
  resolved := Array.replicate 160 none
  statics := none }

def pool15 : Array CpInfo := pool [(8, .class_ 10), (1, u "java/util/SequencedCollection"), (15, .class_ 27), (0, u "java/lang/Object"), (0, .class_ 29), (0, u "java/util/Collection")] 27

/-- java/util/SequencedCollection -/
def k15 : Class := { plain "java/util/SequencedCollection" (some 0) with
  accessFlags := 1537
  interfaces := #[13]
  cf := some (fileOf pool15 8 #[] #[] 1537 26 #[28] #[])
  fields := #[]
  methods := #[]
  instanceTypes := #[]
  staticTypes := #[]
  resolved := Array.replicate 57 none
  statics := none }

def pool16 : Array CpInfo := pool [(8, .class_ 10), (1, u "java/util/List"), (20, u "(Ljava/lang/Object;)V"), (16, u "<init>"), (26, u "get"), (0, u "(I)Ljava/lang/Object;"), (2, u "size"), (0, u "()I"), (7, u "of"), (1, .fieldref 91 92), (0, .class_ 93), (0, .nameAndType 94 95), (0, u "java/util/ImmutableCollections"), (0, u "EMPTY_LIST"), (0, u "Ljava/util/ImmutableCollections$ListN;"), (0, .class_ 97), (0, u "java/util/ImmutableCollections$List12"), (0, .methodref 96 99), (0, .nameAndType 48 31), (0, .methodref 96 101), (0, .nameAndType 48 102), (0, u "(Ljava/lang/Object;Ljava/lang/Object;)V"), (0, .class_ 104), (0, u "java/lang/Object"), (3, u "([Ljava/lang/Object;)Ljava/util/List;"), (3, .methodref 91 113), (0, .nameAndType 114 115), (0, u "listCopy"), (0, u "(Ljava/util/Collection;)Ljava/util/List;"), (3, u "()Ljava/util/List;"), (0, .class_ 121), (0, u "java/util/SequencedCollection"), (112, u "copyOf")] 16

def k16m0 : Method := { name := "size", desc := "()I", sig := { parameters := [], returnType := some .int }, accessFlags := 1025, code := none }
def k16m1 : Method := { name := "get", desc := "(I)Ljava/lang/Object;", sig := { parameters := [.int], returnType := some (.object "java/lang/Object") }, accessFlags := 1025, code := none }
def k16c2 : Code := { maxStack := 1, maxLocals := 0, code := jdk_40_method_36_code, exceptionTable := #[], attributes := #[] }
def k16m2 : Method := { name := "of", desc := "()Ljava/util/List;", sig := { parameters := [], returnType := some (.object "java/util/List") }, accessFlags := 9, code := some k16c2 }
def k16c3 : Code := { maxStack := 5, maxLocals := 2, code := jdk_40_method_47_code, exceptionTable := #[], attributes := #[] }
def k16m3 : Method := { name := "of", desc := "([Ljava/lang/Object;)Ljava/util/List;", sig := { parameters := [(.array (.object "java/lang/Object"))], returnType := some (.object "java/util/List") }, accessFlags := 137, code := some k16c3 }
def k16c4 : Code := { maxStack := 1, maxLocals := 1, code := jdk_40_method_48_code, exceptionTable := #[], attributes := #[] }
def k16m4 : Method := { name := "copyOf", desc := "(Ljava/util/Collection;)Ljava/util/List;", sig := { parameters := [(.object "java/util/Collection")], returnType := some (.object "java/util/List") }, accessFlags := 9, code := some k16c4 }
/-- java/util/List -/
def k16 : Class := { plain "java/util/List" (some 0) with
  accessFlags := 1537
  interfaces := #[15]
  cf := some (fileOf pool16 8 #[] #[{ accessFlags := 1025, nameIndex := 79, descriptorIndex := 80, attributes := #[] }, { accessFlags := 1025, nameIndex := 75, descriptorIndex := 76, attributes := #[] }, { accessFlags := 9, nameIndex := 88, descriptorIndex := 119, attributes := #[] }, { accessFlags := 137, nameIndex := 88, descriptorIndex := 108, attributes := #[] }, { accessFlags := 9, nameIndex := 234, descriptorIndex := 115, attributes := #[] }] 1537 103 #[120] #[])
  fields := #[]
  methods := #[k16m0, k16m1, k16m2, k16m3, k16m4]
  instanceTypes := #[]
  staticTypes := #[]
  resolved := Array.replicate 251 none
  statics := none }

def pool17 : Array CpInfo := pool [(1, .methodref 2 3), (0, .class_ 4), (0, .nameAndType 5 6), (0, u "java/util/AbstractCollection"), (0, u "<init>"), (0, u "()V"), (0, .fieldref 8 9), (0, .class_ 10), (0, .nameAndType 11 12), (0, u "java/util/AbstractList"), (0, u "modCount"), (0, u "I"), (64, .class_ 78), (0, u "java/util/AbstractList$Itr"), (3, .class_ 83), (0, u "java/util/AbstractList$ListItr"), (9, .class_ 94), (0, u "java/util/AbstractList$RandomAccessSubList"), (3, .class_ 99), (0, u "java/util/AbstractList$SubList"), (33, .class_ 134), (0, u "java/util/List"), (73, .class_ 209), (0, u "java/util/AbstractList$SubList$1"), (0, .class_ 211), (0, u "java/util/AbstractList$RandomAccessSpliterator")] 6

def k17c0 : Code := { maxStack := 2, maxLocals := 1, code := jdk_39_method_1_code, exceptionTable := #[], attributes := #[] }
def k17m0 : Method := { name := "<init>", desc := "()V", sig := { parameters := [], returnType := none }, accessFlags := 4, code := some k17c0 }
/-- java/util/AbstractList -/
def k17 : Class := { plain "java/util/AbstractList" (some 14) with
  accessFlags := 1057
  interfaces := #[16]
  cf := some (fileOf pool17 8 #[.nestMembers #[93, 98, 208, 210, 82, 77]] #[{ accessFlags := 4, nameIndex := 5, descriptorIndex := 6, attributes := #[] }] 1057 2 #[133] #[{ accessFlags := 132, nameIndex := 11, descriptorIndex := 12, attributes := #[] }])
  fields := #[{ name := "modCount", type := .int, accessFlags := 132, slot := 0, constantValue := 0 }]
  methods := #[k17m0]
  instanceTypes := #[.int]
  staticTypes := #[]
  resolved := Array.replicate 218 none
  statics := none }

def pool18 : Array CpInfo := pool [(1, .class_ 2), (0, u "java/util/RandomAccess"), (0, .class_ 4), (0, u "java/lang/Object")] 2

/-- java/util/RandomAccess -/
def k18 : Class := { plain "java/util/RandomAccess" (some 0) with
  accessFlags := 1537
  interfaces := #[]
  cf := some (fileOf pool18 1 #[] #[] 1537 3 #[] #[])
  fields := #[]
  methods := #[]
  instanceTypes := #[]
  staticTypes := #[]
  resolved := Array.replicate 7 none
  statics := none }

def pool19 : Array CpInfo := pool [(1, .class_ 2), (0, u "java/lang/Cloneable"), (0, .class_ 4), (0, u "java/lang/Object")] 2

/-- java/lang/Cloneable -/
def k19 : Class := { plain "java/lang/Cloneable" (some 0) with
  accessFlags := 1537
  interfaces := #[]
  cf := some (fileOf pool19 1 #[] #[] 1537 3 #[] #[])
  fields := #[]
  methods := #[]
  instanceTypes := #[]
  staticTypes := #[]
  resolved := Array.replicate 7 none
  statics := none }

def pool20 : Array CpInfo := pool [(1, .methodref 2 3), (0, .class_ 4), (0, .nameAndType 5 6), (0, u "java/util/AbstractList"), (0, u "<init>"), (0, u "()V"), (0, .class_ 8), (0, u "java/lang/Object"), (0, .fieldref 10 11), (0, .class_ 12), (0, .nameAndType 13 14), (0, u "java/util/ArrayList"), (0, u "elementData"), (0, u "[Ljava/lang/Object;"), (2, u "EMPTY_ELEMENTDATA"), (21, .fieldref 10 40), (0, .nameAndType 41 14), (0, u "DEFAULTCAPACITY_EMPTY_ELEMENTDATA"), (4, u "toArray"), (0, u "()[Ljava/lang/Object;"), (0, .fieldref 10 49), (0, .nameAndType 50 51), (0, u "size"), (0, u "I"), (6, .class_ 60), (1, u "java/util/Arrays"), (0, u "copyOf"), (1, .fieldref 10 64), (0, .nameAndType 65 51), (0, u "modCount"), (0, .methodref 58 67), (0, .nameAndType 61 68), (0, u "([Ljava/lang/Object;I)[Ljava/lang/Object;"), (0, .methodref 10 70), (0, .nameAndType 71 72), (0, u "grow"), (0, u "(I)[Ljava/lang/Object;"), (6, .methodref 80 81), (0, .class_ 82), (0, .nameAndType 83 84), (0, u "java/lang/Math"), (0, u "max"), (0, u "(II)I"), (11, u "(Ljava/lang/Object;)Z"), (32, .methodref 10 130), (0, .nameAndType 71 47), (0, .methodref 10 132), (0, .nameAndType 133 134), (0, u "add"), (0, u "(Ljava/lang/Object;[Ljava/lang/Object;I)V"), (13, .class_ 149), (0, u "java/util/List"), (23, u "()Z"), (88, .class_ 263), (0, u "java/util/ArrayList$ListItr"), (3, .class_ 268), (0, u "java/util/ArrayList$Itr"), (7, .class_ 277), (0, u "java/util/ArrayList$SubList"), (12, .class_ 291), (0, u "java/util/ArrayList$ArrayListSpliterator"), (37, .class_ 330), (0, u "java/util/RandomAccess"), (0, .class_ 332), (0, u "java/lang/Cloneable"), (0, .class_ 334), (0, u "java/io/Serializable"), (0, u "serialVersionUID"), (0, u "J"), (3, u "DEFAULT_CAPACITY"), (22, u "isEmpty"), (136, .class_ 501), (0, u "java/util/ArrayList$SubList$2"), (0, .class_ 503), (0, u "java/util/ArrayList$SubList$1")] 5

def k20c0 : Code := { maxStack := 2, maxLocals := 1, code := jdk_38_method_2_code, exceptionTable := #[], attributes := #[] }
def k20m0 : Method := { name := "<init>", desc := "()V", sig := { parameters := [], returnType := none }, accessFlags := 1, code := some k20c0 }
def k20c1 : Code := { maxStack := 4, maxLocals := 4, code := jdk_38_method_6_code, exceptionTable := #[], attributes := #[] }
def k20m1 : Method := { name := "grow", desc := "(I)[Ljava/lang/Object;", sig := { parameters := [.int], returnType := some (.array (.object "java/lang/Object")) }, accessFlags := 2, code := some k20c1 }
def k20c2 : Code := { maxStack := 3, maxLocals := 1, code := jdk_38_method_7_code, exceptionTable := #[], attributes := #[] }
def k20m2 : Method := { name := "grow", desc := "()[Ljava/lang/Object;", sig := { parameters := [], returnType := some (.array (.object "java/lang/Object")) }, accessFlags := 2, code := some k20c2 }
def k20c3 : Code := { maxStack := 1, maxLocals := 1, code := jdk_38_method_9_code, exceptionTable := #[], attributes := #[] }
def k20m3 : Method := { name := "isEmpty", desc := "()Z", sig := { parameters := [], returnType := some .boolean }, accessFlags := 1, code := some k20c3 }
def k20c4 : Code := { maxStack := 2, maxLocals := 1, code := jdk_38_method_16_code, exceptionTable := #[], attributes := #[] }
def k20m4 : Method := { name := "toArray", desc := "()[Ljava/lang/Object;", sig := { parameters := [], returnType := some (.array (.object "java/lang/Object")) }, accessFlags := 1, code := some k20c4 }
def k20c5 : Code := { maxStack := 3, maxLocals := 4, code := jdk_38_method_24_code, exceptionTable := #[], attributes := #[] }
def k20m5 : Method := { name := "add", desc := "(Ljava/lang/Object;[Ljava/lang/Object;I)V", sig := { parameters := [(.object "java/lang/Object"), (.array (.object "java/lang/Object")), .int], returnType := none }, accessFlags := 2, code := some k20c5 }
def k20c6 : Code := { maxStack := 4, maxLocals := 2, code := jdk_38_method_25_code, exceptionTable := #[], attributes := #[] }
def k20m6 : Method := { name := "add", desc := "(Ljava/lang/Object;)Z", sig := { parameters := [(.object "java/lang/Object")], returnType := some .boolean }, accessFlags := 1, code := some k20c6 }
/-- java/util/ArrayList -/
def k20 : Class := { plain "java/util/ArrayList" (some 17) with
  accessFlags := 33
  interfaces := #[16, 18, 19, 4]
  cf := some (fileOf pool20 10 #[.nestMembers #[290, 276, 500, 502, 262, 267]] #[{ accessFlags := 1, nameIndex := 5, descriptorIndex := 6, attributes := #[] }, { accessFlags := 2, nameIndex := 71, descriptorIndex := 72, attributes := #[] }, { accessFlags := 2, nameIndex := 71, descriptorIndex := 47, attributes := #[] }, { accessFlags := 1, nameIndex := 363, descriptorIndex := 173, attributes := #[] }, { accessFlags := 1, nameIndex := 46, descriptorIndex := 47, attributes := #[] }, { accessFlags := 2, nameIndex := 133, descriptorIndex := 134, attributes := #[] }, { accessFlags := 1, nameIndex := 133, descriptorIndex := 96, attributes := #[] }] 33 2 #[148, 329, 331, 333] #[{ accessFlags := 26, nameIndex := 335, descriptorIndex := 336, attributes := #[] }, { accessFlags := 26, nameIndex := 340, descriptorIndex := 51, attributes := #[] }, { accessFlags := 26, nameIndex := 17, descriptorIndex := 14, attributes := #[] }, { accessFlags := 26, nameIndex := 41, descriptorIndex := 14, attributes := #[] }, { accessFlags := 128, nameIndex := 13, descriptorIndex := 14, attributes := #[] }, { accessFlags := 2, nameIndex := 50, descriptorIndex := 51, attributes := #[] }])
  fields := #[{ name := "serialVersionUID", type := .long, accessFlags := 26, slot := 0, constantValue := 0 }, { name := "DEFAULT_CAPACITY", type := .int, accessFlags := 26, slot := 1, constantValue := 0 }, { name := "EMPTY_ELEMENTDATA", type := (.array (.object "java/lang/Object")), accessFlags := 26, slot := 2, constantValue := 0 }, { name := "DEFAULTCAPACITY_EMPTY_ELEMENTDATA", type := (.array (.object "java/lang/Object")), accessFlags := 26, slot := 3, constantValue := 0 }, { name := "elementData", type := (.array (.object "java/lang/Object")), accessFlags := 128, slot := 1, constantValue := 0 }, { name := "size", type := .int, accessFlags := 2, slot := 2, constantValue := 0 }]
  methods := #[k20m0, k20m1, k20m2, k20m3, k20m4, k20m5, k20m6]
  instanceTypes := #[.int, (.array (.object "java/lang/Object")), .int]
  staticTypes := #[.long, .int, (.array (.object "java/lang/Object")), (.array (.object "java/lang/Object"))]
  resolved := Array.replicate 509 none
  statics := some 2 }

def pool21 : Array CpInfo := pool [(1, .methodref 2 3), (0, .class_ 4), (0, .nameAndType 5 6), (0, u "java/lang/Object"), (0, u "<init>"), (0, u "()V"), (0, .class_ 8), (0, u "java/lang/Record")] 13

def k21c0 : Code := { maxStack := 1, maxLocals := 1, code := jdk_30_method_1_code, exceptionTable := #[], attributes := #[] }
def k21m0 : Method := { name := "<init>", desc := "()V", sig := { parameters := [], returnType := none }, accessFlags := 4, code := some k21c0 }
/-- java/lang/Record -/
def k21 : Class := { plain "java/lang/Record" (some 0) with
  accessFlags := 1057
  interfaces := #[]
  cf := some (fileOf pool21 7 #[] #[{ accessFlags := 4, nameIndex := 5, descriptorIndex := 6, attributes := #[] }] 1057 2 #[] #[])
  fields := #[]
  methods := #[k21m0]
  instanceTypes := #[]
  staticTypes := #[]
  resolved := Array.replicate 22 none
  statics := none }

def pool22 : Array CpInfo := pool [(1, .methodref 2 3), (0, .class_ 4), (0, .nameAndType 5 6), (0, u "java/lang/Record"), (0, u "<init>"), (0, u "()V"), (0, .interfaceMethodref 8 9), (0, .class_ 10), (0, .nameAndType 11 12), (0, u "java/util/List"), (0, u "copyOf"), (0, u "(Ljava/util/Collection;)Ljava/util/List;"), (0, .fieldref 14 15), (0, .class_ 16), (0, .nameAndType 17 18), (0, u "com/example/echo_panel/echopanel/channel/ChannelState"), (0, u "connected"), (0, u "Z"), (0, .fieldref 14 20), (0, .nameAndType 21 22), (0, u "severity"), (0, u "Lcom/example/echo_panel/echopanel/channel/Severity;"), (0, .fieldref 14 24), (0, .nameAndType 25 26), (0, u "precision"), (0, u "I"), (0, .fieldref 14 28), (0, .nameAndType 29 30), (0, u "labels"), (0, u "Ljava/util/List;"), (0, .fieldref 14 32), (0, .nameAndType 33 34), (0, u "value"), (0, u "Ljava/lang/Object;"), (0, .fieldref 14 36), (0, .nameAndType 37 38), (0, u "limits"), (0, u "Lcom/example/echo_panel/echopanel/channel/DisplayLimits;"), (0, .methodref 14 40), (0, .nameAndType 5 41), (0, u "(ZLcom/example/echo_panel/echopanel/channel/Severity;ILjava/util/List;Ljava/lang/Object;Lcom/example/echo_panel/echopanel/channel/DisplayLimits;)V"), (8, u "()Ljava/util/List;"), (2, u "(ZLcom/example/echo_panel/echopanel/channel/Severity;ILjava/util/List;Ljava/lang/Object;)V"), (14, u "DISCONNECTED"), (0, u "Lcom/example/echo_panel/echopanel/channel/ChannelState;"), (8, u "lost"), (0, u "()Lcom/example/echo_panel/echopanel/channel/ChannelState;"), (1, u "()I"), (1, u "()Z"), (0, u "()Lcom/example/echo_panel/echopanel/channel/Severity;"), (1, u "()Ljava/lang/Object;"), (0, u "()Lcom/example/echo_panel/echopanel/channel/DisplayLimits;")] 26

def k22c0 : Code := { maxStack := 2, maxLocals := 7, code := prog_15_method_1_code, exceptionTable := #[], attributes := #[] }
def k22m0 : Method := { name := "<init>", desc := "(ZLcom/example/echo_panel/echopanel/channel/Severity;ILjava/util/List;Ljava/lang/Object;Lcom/example/echo_panel/echopanel/channel/DisplayLimits;)V", sig := { parameters := [.boolean, (.object "com/example/echo_panel/echopanel/channel/Severity"), .int, (.object "java/util/List"), (.object "java/lang/Object"), (.object "com/example/echo_panel/echopanel/channel/DisplayLimits")], returnType := none }, accessFlags := 1, code := some k22c0 }
def k22c1 : Code := { maxStack := 7, maxLocals := 6, code := prog_15_method_2_code, exceptionTable := #[], attributes := #[] }
def k22m1 : Method := { name := "<init>", desc := "(ZLcom/example/echo_panel/echopanel/channel/Severity;ILjava/util/List;Ljava/lang/Object;)V", sig := { parameters := [.boolean, (.object "com/example/echo_panel/echopanel/channel/Severity"), .int, (.object "java/util/List"), (.object "java/lang/Object")], returnType := none }, accessFlags := 1, code := some k22c1 }
def k22c2 : Code := { maxStack := 8, maxLocals := 1, code := prog_15_method_4_code, exceptionTable := #[], attributes := #[] }
def k22m2 : Method := { name := "lost", desc := "()Lcom/example/echo_panel/echopanel/channel/ChannelState;", sig := { parameters := [], returnType := some (.object "com/example/echo_panel/echopanel/channel/ChannelState") }, accessFlags := 1, code := some k22c2 }
def k22c3 : Code := { maxStack := 1, maxLocals := 1, code := prog_15_method_8_code, exceptionTable := #[], attributes := #[] }
def k22m3 : Method := { name := "connected", desc := "()Z", sig := { parameters := [], returnType := some .boolean }, accessFlags := 1, code := some k22c3 }
def k22c4 : Code := { maxStack := 1, maxLocals := 1, code := prog_15_method_9_code, exceptionTable := #[], attributes := #[] }
def k22m4 : Method := { name := "severity", desc := "()Lcom/example/echo_panel/echopanel/channel/Severity;", sig := { parameters := [], returnType := some (.object "com/example/echo_panel/echopanel/channel/Severity") }, accessFlags := 1, code := some k22c4 }
def k22c5 : Code := { maxStack := 1, maxLocals := 1, code := prog_15_method_10_code, exceptionTable := #[], attributes := #[] }
def k22m5 : Method := { name := "precision", desc := "()I", sig := { parameters := [], returnType := some .int }, accessFlags := 1, code := some k22c5 }
def k22c6 : Code := { maxStack := 1, maxLocals := 1, code := prog_15_method_11_code, exceptionTable := #[], attributes := #[] }
def k22m6 : Method := { name := "labels", desc := "()Ljava/util/List;", sig := { parameters := [], returnType := some (.object "java/util/List") }, accessFlags := 1, code := some k22c6 }
def k22c7 : Code := { maxStack := 1, maxLocals := 1, code := prog_15_method_12_code, exceptionTable := #[], attributes := #[] }
def k22m7 : Method := { name := "value", desc := "()Ljava/lang/Object;", sig := { parameters := [], returnType := some (.object "java/lang/Object") }, accessFlags := 1, code := some k22c7 }
def k22c8 : Code := { maxStack := 1, maxLocals := 1, code := prog_15_method_13_code, exceptionTable := #[], attributes := #[] }
def k22m8 : Method := { name := "limits", desc := "()Lcom/example/echo_panel/echopanel/channel/DisplayLimits;", sig := { parameters := [], returnType := some (.object "com/example/echo_panel/echopanel/channel/DisplayLimits") }, accessFlags := 1, code := some k22c8 }
/-- com/example/echo_panel/echopanel/channel/ChannelState -/
def k22 : Class := { plain "com/example/echo_panel/echopanel/channel/ChannelState" (some 21) with
  accessFlags := 49
  interfaces := #[]
  cf := some (fileOf pool22 14 #[] #[{ accessFlags := 1, nameIndex := 5, descriptorIndex := 41, attributes := #[] }, { accessFlags := 1, nameIndex := 5, descriptorIndex := 53, attributes := #[] }, { accessFlags := 1, nameIndex := 78, descriptorIndex := 79, attributes := #[] }, { accessFlags := 1, nameIndex := 17, descriptorIndex := 83, attributes := #[] }, { accessFlags := 1, nameIndex := 21, descriptorIndex := 84, attributes := #[] }, { accessFlags := 1, nameIndex := 25, descriptorIndex := 81, attributes := #[] }, { accessFlags := 1, nameIndex := 29, descriptorIndex := 50, attributes := #[] }, { accessFlags := 1, nameIndex := 33, descriptorIndex := 86, attributes := #[] }, { accessFlags := 1, nameIndex := 37, descriptorIndex := 87, attributes := #[] }] 49 2 #[] #[{ accessFlags := 18, nameIndex := 17, descriptorIndex := 18, attributes := #[] }, { accessFlags := 18, nameIndex := 21, descriptorIndex := 22, attributes := #[] }, { accessFlags := 18, nameIndex := 25, descriptorIndex := 26, attributes := #[] }, { accessFlags := 18, nameIndex := 29, descriptorIndex := 30, attributes := #[] }, { accessFlags := 18, nameIndex := 33, descriptorIndex := 34, attributes := #[] }, { accessFlags := 18, nameIndex := 37, descriptorIndex := 38, attributes := #[] }, { accessFlags := 25, nameIndex := 68, descriptorIndex := 69, attributes := #[] }])
  fields := #[{ name := "connected", type := .boolean, accessFlags := 18, slot := 0, constantValue := 0 }, { name := "severity", type := (.object "com/example/echo_panel/echopanel/channel/Severity"), accessFlags := 18, slot := 1, constantValue := 0 }, { name := "precision", type := .int, accessFlags := 18, slot := 2, constantValue := 0 }, { name := "labels", type := (.object "java/util/List"), accessFlags := 18, slot := 3, constantValue := 0 }, { name := "value", type := (.object "java/lang/Object"), accessFlags := 18, slot := 4, constantValue := 0 }, { name := "limits", type := (.object "com/example/echo_panel/echopanel/channel/DisplayLimits"), accessFlags := 18, slot := 5, constantValue := 0 }, { name := "DISCONNECTED", type := (.object "com/example/echo_panel/echopanel/channel/ChannelState"), accessFlags := 25, slot := 0, constantValue := 0 }]
  methods := #[k22m0, k22m1, k22m2, k22m3, k22m4, k22m5, k22m6, k22m7, k22m8]
  instanceTypes := #[.boolean, (.object "com/example/echo_panel/echopanel/channel/Severity"), .int, (.object "java/util/List"), (.object "java/lang/Object"), (.object "com/example/echo_panel/echopanel/channel/DisplayLimits")]
  staticTypes := #[(.object "com/example/echo_panel/echopanel/channel/ChannelState")]
  resolved := Array.replicate 114 none
  statics := none }

def pool23 : Array CpInfo := pool [(2, .class_ 4), (1, u "java/lang/Object"), (0, u "<init>"), (0, u "()V"), (3, .class_ 11), (0, u "java/util/ImmutableCollections$List12"), (0, .class_ 13), (0, u "java/util/ImmutableCollections$ListN"), (0, .fieldref 12 15), (0, .nameAndType 16 17), (0, u "allowNulls"), (0, u "Z"), (0, .class_ 19), (0, u "java/util/List"), (0, .interfaceMethodref 21 22), (0, .class_ 23), (0, .nameAndType 24 25), (0, u "java/util/Collection"), (0, u "isEmpty"), (0, u "()Z"), (0, .interfaceMethodref 18 27), (0, .nameAndType 28 29), (0, u "of"), (0, u "()Ljava/util/List;"), (0, .interfaceMethodref 21 31), (0, .nameAndType 32 33), (0, u "toArray"), (0, u "()[Ljava/lang/Object;"), (0, .interfaceMethodref 18 35), (0, .nameAndType 28 36), (0, u "([Ljava/lang/Object;)Ljava/util/List;"), (10, .class_ 49), (1, u "java/util/ImmutableCollections"), (0, u "$assertionsDisabled"), (5, u "[Ljava/lang/Object;"), (5, u "EMPTY_LIST"), (0, u "Ljava/util/ImmutableCollections$ListN;"), (8, u "EMPTY_LIST_NULLS"), (22, u "SALT32L"), (0, u "J"), (2, u "REVERSE"), (6, u "archivedObjects"), (2, u "EMPTY"), (0, u "Ljava/lang/Object;"), (0, .class_ 112), (0, u "java/util/ImmutableCollections$SetN"), (5, u "EMPTY_SET"), (0, u "Ljava/util/ImmutableCollections$SetN;"), (0, .class_ 121), (0, u "java/util/ImmutableCollections$MapN"), (3, u "EMPTY_MAP"), (0, u "Ljava/util/ImmutableCollections$MapN;"), (4, u "EXPAND_FACTOR"), (0, u "I"), (9, u "listCopy"), (0, u "(Ljava/util/Collection;)Ljava/util/List;"), (25, .class_ 170), (0, u "java/util/ImmutableCollections$MapN$MapNIterator"), (0, .class_ 172), (0, u "java/util/ImmutableCollections$MapN$1"), (0, .class_ 174), (0, u "java/util/ImmutableCollections$Map1"), (0, .class_ 176), (0, u "java/util/ImmutableCollections$AbstractImmutableMap"), (0, .class_ 178), (0, u "java/util/ImmutableCollections$SetN$SetNIterator"), (0, .class_ 180), (0, u "java/util/ImmutableCollections$Set12"), (0, .class_ 182), (0, u "java/util/ImmutableCollections$Set12$1"), (0, .class_ 184), (0, u "java/util/ImmutableCollections$AbstractImmutableSet"), (0, .class_ 186), (0, u "java/util/ImmutableCollections$SubList"), (0, .class_ 188), (0, u "java/util/ImmutableCollections$ListItr"), (0, .class_ 190), (0, u "java/util/ImmutableCollections$AbstractImmutableList"), (0, .class_ 192), (0, u "java/util/ImmutableCollections$AbstractImmutableCollection"), (0, .class_ 194), (0, u "java/util/ImmutableCollections$Access"), (0, .class_ 196), (0, u "java/util/ImmutableCollections$Access$1")] 16

def k23m0 : Method := { name := "<init>", desc := "()V", sig := { parameters := [], returnType := none }, accessFlags := 2, code := none }
def k23c1 : Code := { maxStack := 1, maxLocals := 2, code := jdk_56_method_3_code, exceptionTable := #[], attributes := #[] }
def k23m1 : Method := { name := "listCopy", desc := "(Ljava/util/Collection;)Ljava/util/List;", sig := { parameters := [(.object "java/util/Collection")], returnType := some (.object "java/util/List") }, accessFlags := 8, code := some k23c1 }
/-- java/util/ImmutableCollections -/
def k23 : Class := { plain "java/util/ImmutableCollections" (some 0) with
  accessFlags := 32
  interfaces := #[]
  cf := some (fileOf pool23 47 #[.nestMembers #[120, 169, 171, 173, 175, 111, 177, 179, 181, 183, 12, 10, 185, 187, 189, 191, 193, 195]] #[{ accessFlags := 2, nameIndex := 5, descriptorIndex := 6, attributes := #[] }, { accessFlags := 8, nameIndex := 142, descriptorIndex := 143, attributes := #[] }] 32 2 #[] #[{ accessFlags := 26, nameIndex := 95, descriptorIndex := 96, attributes := #[] }, { accessFlags := 26, nameIndex := 99, descriptorIndex := 17, attributes := #[] }, { accessFlags := 10, nameIndex := 106, descriptorIndex := 56, attributes := #[] }, { accessFlags := 26, nameIndex := 109, descriptorIndex := 110, attributes := #[] }, { accessFlags := 24, nameIndex := 62, descriptorIndex := 63, attributes := #[] }, { accessFlags := 24, nameIndex := 72, descriptorIndex := 63, attributes := #[] }, { accessFlags := 24, nameIndex := 118, descriptorIndex := 119, attributes := #[] }, { accessFlags := 24, nameIndex := 125, descriptorIndex := 126, attributes := #[] }, { accessFlags := 24, nameIndex := 131, descriptorIndex := 132, attributes := #[] }, { accessFlags := 4120, nameIndex := 50, descriptorIndex := 17, attributes := #[] }])
  fields := #[{ name := "SALT32L", type := .long, accessFlags := 26, slot := 0, constantValue := 0 }, { name := "REVERSE", type := .boolean, accessFlags := 26, slot := 1, constantValue := 0 }, { name := "archivedObjects", type := (.array (.object "java/lang/Object")), accessFlags := 10, slot := 2, constantValue := 0 }, { name := "EMPTY", type := (.object "java/lang/Object"), accessFlags := 26, slot := 3, constantValue := 0 }, { name := "EMPTY_LIST", type := (.object "java/util/ImmutableCollections$ListN"), accessFlags := 24, slot := 4, constantValue := 0 }, { name := "EMPTY_LIST_NULLS", type := (.object "java/util/ImmutableCollections$ListN"), accessFlags := 24, slot := 5, constantValue := 0 }, { name := "EMPTY_SET", type := (.object "java/util/ImmutableCollections$SetN"), accessFlags := 24, slot := 6, constantValue := 0 }, { name := "EMPTY_MAP", type := (.object "java/util/ImmutableCollections$MapN"), accessFlags := 24, slot := 7, constantValue := 0 }, { name := "EXPAND_FACTOR", type := .int, accessFlags := 24, slot := 8, constantValue := 0 }, { name := "$assertionsDisabled", type := .boolean, accessFlags := 4120, slot := 9, constantValue := 0 }]
  methods := #[k23m0, k23m1]
  instanceTypes := #[]
  staticTypes := #[.long, .boolean, (.array (.object "java/lang/Object")), (.object "java/lang/Object"), (.object "java/util/ImmutableCollections$ListN"), (.object "java/util/ImmutableCollections$ListN"), (.object "java/util/ImmutableCollections$SetN"), (.object "java/util/ImmutableCollections$MapN"), .int, .boolean]
  resolved := Array.replicate 213 none
  statics := some 3 }

def pool24 : Array CpInfo := pool [(1, .methodref 2 3), (0, .class_ 4), (0, .nameAndType 5 6), (0, u "java/util/AbstractCollection"), (0, u "<init>"), (0, u "()V"), (1, .class_ 10), (1, u "java/util/ImmutableCollections"), (2, .class_ 14), (0, u "java/util/ImmutableCollections$AbstractImmutableCollection")] 41

def k24c0 : Code := { maxStack := 1, maxLocals := 1, code := jdk_47_method_1_code, exceptionTable := #[], attributes := #[] }
def k24m0 : Method := { name := "<init>", desc := "()V", sig := { parameters := [], returnType := none }, accessFlags := 0, code := some k24c0 }
/-- java/util/ImmutableCollections$AbstractImmutableCollection -/
def k24 : Class := { plain "java/util/ImmutableCollections$AbstractImmutableCollection" (some 14) with
  accessFlags := 1056
  interfaces := #[]
  cf := some (fileOf pool24 13 #[.nestHost 8] #[{ accessFlags := 0, nameIndex := 5, descriptorIndex := 6, attributes := #[] }] 1056 2 #[] #[])
  fields := #[]
  methods := #[k24m0]
  instanceTypes := #[]
  staticTypes := #[]
  resolved := Array.replicate 56 none
  statics := none }

def pool25 : Array CpInfo := pool [(1, .methodref 2 3), (0, .class_ 4), (0, .nameAndType 5 6), (0, u "java/util/ImmutableCollections$AbstractImmutableCollection"), (0, u "<init>"), (0, u "()V"), (1, .class_ 10), (1, u "java/util/ImmutableCollections"), (3, .class_ 16), (1, u "java/util/ImmutableCollections$AbstractImmutableList"), (60, .class_ 78), (0, u "java/util/List"), (45, .class_ 125), (0, u "java/util/RandomAccess")] 70

def k25c0 : Code := { maxStack := 1, maxLocals := 1, code := jdk_46_method_1_code, exceptionTable := #[], attributes := #[] }
def k25m0 : Method := { name := "<init>", desc := "()V", sig := { parameters := [], returnType := none }, accessFlags := 0, code := some k25c0 }
/-- java/util/ImmutableCollections$AbstractImmutableList -/
def k25 : Class := { plain "java/util/ImmutableCollections$AbstractImmutableList" (some 24) with
  accessFlags := 1056
  interfaces := #[16, 18]
  cf := some (fileOf pool25 14 #[.nestHost 8] #[{ accessFlags := 0, nameIndex := 5, descriptorIndex := 6, attributes := #[] }] 1056 2 #[77, 124] #[])
  fields := #[]
  methods := #[k25m0]
  instanceTypes := #[]
  staticTypes := #[]
  resolved := Array.replicate 196 none
  statics := none }

def pool26 : Array CpInfo := pool [(1, .methodref 2 3), (0, .class_ 4), (0, .nameAndType 5 6), (0, u "java/util/ImmutableCollections$AbstractImmutableList"), (0, u "<init>"), (0, u "()V"), (0, .methodref 8 9), (0, .class_ 10), (0, .nameAndType 11 12), (0, u "java/util/Objects"), (0, u "requireNonNull"), (0, u "(Ljava/lang/Object;)Ljava/lang/Object;"), (0, .fieldref 14 15), (0, .class_ 16), (0, .nameAndType 17 18), (0, u "java/util/ImmutableCollections$List12"), (0, u "e0"), (0, u "Ljava/lang/Object;"), (0, .fieldref 20 21), (0, .class_ 22), (0, .nameAndType 23 18), (0, u "java/util/ImmutableCollections"), (0, u "EMPTY"), (0, .fieldref 14 25), (0, .nameAndType 26 18), (0, u "e1"), (24, u "size"), (0, u "()I"), (17, .class_ 71), (0, u "java/io/Serializable"), (4, u "(Ljava/lang/Object;)V"), (8, u "(Ljava/lang/Object;Ljava/lang/Object;)V"), (4, u "get"), (0, u "(I)Ljava/lang/Object;")] 33

def k26c0 : Code := { maxStack := 2, maxLocals := 2, code := jdk_44_method_1_code, exceptionTable := #[], attributes := #[] }
def k26m0 : Method := { name := "<init>", desc := "(Ljava/lang/Object;)V", sig := { parameters := [(.object "java/lang/Object")], returnType := none }, accessFlags := 0, code := some k26c0 }
def k26c1 : Code := { maxStack := 2, maxLocals := 3, code := jdk_44_method_2_code, exceptionTable := #[], attributes := #[] }
def k26m1 : Method := { name := "<init>", desc := "(Ljava/lang/Object;Ljava/lang/Object;)V", sig := { parameters := [(.object "java/lang/Object"), (.object "java/lang/Object")], returnType := none }, accessFlags := 0, code := some k26c1 }
def k26c2 : Code := { maxStack := 2, maxLocals := 1, code := jdk_44_method_3_code, exceptionTable := #[], attributes := #[] }
def k26m2 : Method := { name := "size", desc := "()I", sig := { parameters := [], returnType := some .int }, accessFlags := 1, code := some k26c2 }
def k26c3 : Code := { maxStack := 2, maxLocals := 2, code := jdk_44_method_5_code, exceptionTable := #[], attributes := #[] }
def k26m3 : Method := { name := "get", desc := "(I)Ljava/lang/Object;", sig := { parameters := [.int], returnType := some (.object "java/lang/Object") }, accessFlags := 1, code := some k26c3 }
/-- java/util/ImmutableCollections$List12 -/
def k26 : Class := { plain "java/util/ImmutableCollections$List12" (some 25) with
  accessFlags := 48
  interfaces := #[4]
  cf := some (fileOf pool26 14 #[.nestHost 20] #[{ accessFlags := 0, nameIndex := 5, descriptorIndex := 76, attributes := #[] }, { accessFlags := 0, nameIndex := 5, descriptorIndex := 85, attributes := #[] }, { accessFlags := 1, nameIndex := 51, descriptorIndex := 52, attributes := #[] }, { accessFlags := 1, nameIndex := 90, descriptorIndex := 91, attributes := #[] }] 48 2 #[70] #[{ accessFlags := 18, nameIndex := 17, descriptorIndex := 18, attributes := #[] }, { accessFlags := 18, nameIndex := 26, descriptorIndex := 18, attributes := #[] }])
  fields := #[{ name := "e0", type := (.object "java/lang/Object"), accessFlags := 18, slot := 0, constantValue := 0 }, { name := "e1", type := (.object "java/lang/Object"), accessFlags := 18, slot := 1, constantValue := 0 }]
  methods := #[k26m0, k26m1, k26m2, k26m3]
  instanceTypes := #[(.object "java/lang/Object"), (.object "java/lang/Object")]
  staticTypes := #[]
  resolved := Array.replicate 125 none
  statics := none }

def pool27 : Array CpInfo := pool [(2, .class_ 4), (1, u "java/util/ImmutableCollections$AbstractImmutableList"), (2, .fieldref 8 9), (0, .class_ 10), (0, .nameAndType 11 12), (0, u "java/util/ImmutableCollections$ListN"), (0, u "elements"), (0, u "[Ljava/lang/Object;"), (2, u "allowNulls"), (0, u "Z"), (42, .class_ 60), (0, u "java/io/Serializable"), (16, u "size"), (0, u "()I"), (35, .class_ 115), (0, u "java/util/ImmutableCollections")] 3

def k27c0 : Code := { maxStack := 1, maxLocals := 1, code := jdk_45_method_3_code, exceptionTable := #[], attributes := #[] }
def k27m0 : Method := { name := "size", desc := "()I", sig := { parameters := [], returnType := some .int }, accessFlags := 1, code := some k27c0 }
/-- java/util/ImmutableCollections$ListN -/
def k27 : Class := { plain "java/util/ImmutableCollections$ListN" (some 25) with
  accessFlags := 48
  interfaces := #[4]
  cf := some (fileOf pool27 8 #[.nestHost 114] #[{ accessFlags := 1, nameIndex := 77, descriptorIndex := 78, attributes := #[] }] 48 2 #[59] #[{ accessFlags := 18, nameIndex := 11, descriptorIndex := 12, attributes := #[] }, { accessFlags := 18, nameIndex := 15, descriptorIndex := 16, attributes := #[] }])
  fields := #[{ name := "elements", type := (.array (.object "java/lang/Object")), accessFlags := 18, slot := 0, constantValue := 0 }, { name := "allowNulls", type := .boolean, accessFlags := 18, slot := 1, constantValue := 0 }]
  methods := #[k27m0]
  instanceTypes := #[(.array (.object "java/lang/Object")), .boolean]
  staticTypes := #[]
  resolved := Array.replicate 119 none
  statics := none }

def pool28 : Array CpInfo := pool [(1, .class_ 2), (0, u "java/lang/Math"), (1, .class_ 6), (1, u "java/lang/Object"), (0, u "<init>"), (0, u "()V"), (89, .class_ 100), (1, u "java/lang/Math$RandomNumberGeneratorHolder"), (71, u "negativeZeroFloatBits"), (0, u "J"), (2, u "negativeZeroDoubleBits"), (21, u "max"), (2, u "min"), (43, u "$assertionsDisabled"), (0, u "Z"), (88, u "(II)I"), (2, u "twoToTheDoubleScaleDown"), (0, u "D"), (4, u "twoToTheDoubleScaleUp"), (9, u "E"), (3, u "PI"), (2, u "TAU"), (2, u "DEGREES_TO_RADIANS"), (0, u "RADIANS_TO_DEGREES")] 94

def k28m0 : Method := { name := "<init>", desc := "()V", sig := { parameters := [], returnType := none }, accessFlags := 2, code := none }
def k28c1 : Code := { maxStack := 2, maxLocals := 2, code := jdk_29_method_65_code, exceptionTable := #[], attributes := #[] }
def k28m1 : Method := { name := "max", desc := "(II)I", sig := { parameters := [.int, .int], returnType := some .int }, accessFlags := 9, code := some k28c1 }
def k28c2 : Code := { maxStack := 2, maxLocals := 2, code := jdk_29_method_69_code, exceptionTable := #[], attributes := #[] }
def k28m2 : Method := { name := "min", desc := "(II)I", sig := { parameters := [.int, .int], returnType := some .int }, accessFlags := 9, code := some k28c2 }
/-- java/lang/Math -/
def k28 : Class := { plain "java/lang/Math" (some 0) with
  accessFlags := 49
  interfaces := #[]
  cf := some (fileOf pool28 1 #[.nestMembers #[98]] #[{ accessFlags := 2, nameIndex := 7, descriptorIndex := 8, attributes := #[] }, { accessFlags := 9, nameIndex := 198, descriptorIndex := 335, attributes := #[] }, { accessFlags := 9, nameIndex := 201, descriptorIndex := 335, attributes := #[] }] 49 4 #[] #[{ accessFlags := 25, nameIndex := 354, descriptorIndex := 339, attributes := #[] }, { accessFlags := 25, nameIndex := 358, descriptorIndex := 339, attributes := #[] }, { accessFlags := 25, nameIndex := 361, descriptorIndex := 339, attributes := #[] }, { accessFlags := 26, nameIndex := 364, descriptorIndex := 339, attributes := #[] }, { accessFlags := 26, nameIndex := 365, descriptorIndex := 339, attributes := #[] }, { accessFlags := 26, nameIndex := 172, descriptorIndex := 173, attributes := #[] }, { accessFlags := 26, nameIndex := 176, descriptorIndex := 173, attributes := #[] }, { accessFlags := 8, nameIndex := 344, descriptorIndex := 339, attributes := #[] }, { accessFlags := 8, nameIndex := 338, descriptorIndex := 339, attributes := #[] }, { accessFlags := 4120, nameIndex := 245, descriptorIndex := 246, attributes := #[] }])
  fields := #[{ name := "E", type := .double, accessFlags := 25, slot := 0, constantValue := 0 }, { name := "PI", type := .double, accessFlags := 25, slot := 1, constantValue := 0 }, { name := "TAU", type := .double, accessFlags := 25, slot := 2, constantValue := 0 }, { name := "DEGREES_TO_RADIANS", type := .double, accessFlags := 26, slot := 3, constantValue := 0 }, { name := "RADIANS_TO_DEGREES", type := .double, accessFlags := 26, slot := 4, constantValue := 0 }, { name := "negativeZeroFloatBits", type := .long, accessFlags := 26, slot := 5, constantValue := 0 }, { name := "negativeZeroDoubleBits", type := .long, accessFlags := 26, slot := 6, constantValue := 0 }, { name := "twoToTheDoubleScaleUp", type := .double, accessFlags := 8, slot := 7, constantValue := 0 }, { name := "twoToTheDoubleScaleDown", type := .double, accessFlags := 8, slot := 8, constantValue := 0 }, { name := "$assertionsDisabled", type := .boolean, accessFlags := 4120, slot := 9, constantValue := 0 }]
  methods := #[k28m0, k28m1, k28m2]
  instanceTypes := #[]
  staticTypes := #[.double, .double, .double, .double, .double, .long, .long, .double, .double, .boolean]
  resolved := Array.replicate 460 none
  statics := none }

def pool29 : Array CpInfo := pool [(1, .methodref 2 3), (0, .class_ 4), (0, .nameAndType 5 6), (0, u "java/lang/Object"), (0, u "<init>"), (0, u "()V"), (1, .class_ 10), (1, u "java/lang/Number"), (2, .class_ 14), (0, u "java/io/Serializable"), (0, u "serialVersionUID"), (0, u "J")] 20

def k29c0 : Code := { maxStack := 1, maxLocals := 1, code := jdk_18_method_1_code, exceptionTable := #[], attributes := #[] }
def k29m0 : Method := { name := "<init>", desc := "()V", sig := { parameters := [], returnType := none }, accessFlags := 1, code := some k29c0 }
/-- java/lang/Number -/
def k29 : Class := { plain "java/lang/Number" (some 0) with
  accessFlags := 1057
  interfaces := #[4]
  cf := some (fileOf pool29 8 #[] #[{ accessFlags := 1, nameIndex := 5, descriptorIndex := 6, attributes := #[] }] 1057 2 #[13] #[{ accessFlags := 26, nameIndex := 15, descriptorIndex := 16, attributes := #[] }])
  fields := #[{ name := "serialVersionUID", type := .long, accessFlags := 26, slot := 0, constantValue := 0 }]
  methods := #[k29m0]
  instanceTypes := #[]
  staticTypes := #[.long]
  resolved := Array.replicate 37 none
  statics := none }

def pool30 : Array CpInfo := pool [(1, .class_ 2), (0, u "java/lang/Integer"), (16, u "digits"), (0, u "[C"), (46, u "<init>"), (17, u "DigitOnes"), (0, u "[B"), (2, u "DigitTens"), (10, .nameAndType 67 101), (0, u "()V"), (85, u "valueOf"), (0, u "(I)Ljava/lang/Integer;"), (0, .class_ 190), (0, u "java/lang/Integer$IntegerCache"), (0, .fieldref 189 192), (0, .nameAndType 193 194), (0, u "high"), (0, u "I"), (0, .fieldref 189 196), (0, .nameAndType 197 198), (0, u "cache"), (0, u "[Ljava/lang/Integer;"), (0, .methodref 1 200), (0, .nameAndType 67 201), (0, u "(I)V"), (0, .methodref 203 100), (0, .class_ 204), (0, u "java/lang/Number"), (0, .fieldref 1 206), (0, .nameAndType 207 194), (0, u "value"), (94, u "TYPE"), (0, u "Ljava/lang/Class;"), (0, .class_ 305), (0, u "java/lang/Comparable"), (0, .class_ 307), (0, u "java/lang/constant/Constable"), (0, .class_ 309), (0, u "java/lang/constant/ConstantDesc"), (0, u "MIN_VALUE"), (1, u "MAX_VALUE"), (3, u "SIZE"), (1, u "BYTES"), (1, u "serialVersionUID"), (0, u "J")] 131

def k30c0 : Code := { maxStack := 3, maxLocals := 1, code := jdk_33_method_22_code, exceptionTable := #[], attributes := #[] }
def k30m0 : Method := { name := "valueOf", desc := "(I)Ljava/lang/Integer;", sig := { parameters := [.int], returnType := some (.object "java/lang/Integer") }, accessFlags := 9, code := some k30c0 }
def k30c1 : Code := { maxStack := 2, maxLocals := 2, code := jdk_33_method_23_code, exceptionTable := #[], attributes := #[] }
def k30m1 : Method := { name := "<init>", desc := "(I)V", sig := { parameters := [.int], returnType := none }, accessFlags := 1, code := some k30c1 }
/-- java/lang/Integer -/
def k30 : Class := { plain "java/lang/Integer" (some 29) with
  accessFlags := 49
  interfaces := #[3, 2, 8]
  cf := some (fileOf pool30 1 #[.nestMembers #[189]] #[{ accessFlags := 9, nameIndex := 187, descriptorIndex := 188, attributes := #[] }, { accessFlags := 1, nameIndex := 67, descriptorIndex := 201, attributes := #[] }] 49 203 #[304, 306, 308] #[{ accessFlags := 25, nameIndex := 310, descriptorIndex := 194, attributes := #[] }, { accessFlags := 25, nameIndex := 312, descriptorIndex := 194, attributes := #[] }, { accessFlags := 25, nameIndex := 302, descriptorIndex := 303, attributes := #[] }, { accessFlags := 24, nameIndex := 19, descriptorIndex := 20, attributes := #[] }, { accessFlags := 24, nameIndex := 89, descriptorIndex := 86, attributes := #[] }, { accessFlags := 24, nameIndex := 85, descriptorIndex := 86, attributes := #[] }, { accessFlags := 18, nameIndex := 207, descriptorIndex := 194, attributes := #[] }, { accessFlags := 25, nameIndex := 316, descriptorIndex := 194, attributes := #[] }, { accessFlags := 25, nameIndex := 318, descriptorIndex := 194, attributes := #[] }, { accessFlags := 26, nameIndex := 320, descriptorIndex := 321, attributes := #[] }])
  fields := #[{ name := "MIN_VALUE", type := .int, accessFlags := 25, slot := 0, constantValue := 0 }, { name := "MAX_VALUE", type := .int, accessFlags := 25, slot := 1, constantValue := 0 }, { name := "TYPE", type := (.object "java/lang/Class"), accessFlags := 25, slot := 2, constantValue := 0 }, { name := "digits", type := (.array .char), accessFlags := 24, slot := 3, constantValue := 0 }, { name := "DigitTens", type := (.array .byte), accessFlags := 24, slot := 4, constantValue := 0 }, { name := "DigitOnes", type := (.array .byte), accessFlags := 24, slot := 5, constantValue := 0 }, { name := "value", type := .int, accessFlags := 18, slot := 0, constantValue := 0 }, { name := "SIZE", type := .int, accessFlags := 25, slot := 6, constantValue := 0 }, { name := "BYTES", type := .int, accessFlags := 25, slot := 7, constantValue := 0 }, { name := "serialVersionUID", type := .long, accessFlags := 26, slot := 8, constantValue := 0 }]
  methods := #[k30m0, k30m1]
  instanceTypes := #[.int]
  staticTypes := #[.int, .int, (.object "java/lang/Class"), (.array .char), (.array .byte), (.array .byte), .int, .int, .long]
  resolved := Array.replicate 453 none
  statics := none }

def pool31 : Array CpInfo := pool [(2, .class_ 4), (1, u "java/lang/Object"), (0, u "<init>"), (0, u "()V"), (0, .class_ 8), (0, u "java/lang/Integer"), (7, .class_ 18), (1, u "java/lang/Integer$IntegerCache"), (0, u "$assertionsDisabled"), (0, u "Z"), (26, u "high"), (0, u "I"), (8, u "archivedCache"), (0, u "[Ljava/lang/Integer;"), (12, u "cache"), (0, u "low")] 27

def k31m0 : Method := { name := "<init>", desc := "()V", sig := { parameters := [], returnType := none }, accessFlags := 2, code := none }
/-- java/lang/Integer$IntegerCache -/
def k31 : Class := { plain "java/lang/Integer$IntegerCache" (some 0) with
  accessFlags := 48
  interfaces := #[]
  cf := some (fileOf pool31 16 #[.nestHost 7] #[{ accessFlags := 2, nameIndex := 5, descriptorIndex := 6, attributes := #[] }] 48 2 #[] #[{ accessFlags := 24, nameIndex := 72, descriptorIndex := 48, attributes := #[] }, { accessFlags := 24, nameIndex := 47, descriptorIndex := 48, attributes := #[] }, { accessFlags := 24, nameIndex := 71, descriptorIndex := 58, attributes := #[] }, { accessFlags := 8, nameIndex := 57, descriptorIndex := 58, attributes := #[] }, { accessFlags := 4120, nameIndex := 19, descriptorIndex := 20, attributes := #[] }])
  fields := #[{ name := "low", type := .int, accessFlags := 24, slot := 0, constantValue := 0 }, { name := "high", type := .int, accessFlags := 24, slot := 1, constantValue := 0 }, { name := "cache", type := (.array (.object "java/lang/Integer")), accessFlags := 24, slot := 2, constantValue := 0 }, { name := "archivedCache", type := (.array (.object "java/lang/Integer")), accessFlags := 8, slot := 3, constantValue := 0 }, { name := "$assertionsDisabled", type := .boolean, accessFlags := 4120, slot := 4, constantValue := 0 }]
  methods := #[k31m0]
  instanceTypes := #[]
  staticTypes := #[.int, .int, (.array (.object "java/lang/Integer")), (.array (.object "java/lang/Integer")), .boolean]
  resolved := Array.replicate 100 none
  statics := some 4 }

def pool32 : Array CpInfo := pool [(2, .class_ 4), (1, u "java/lang/Object"), (0, u "<init>"), (0, u "()V"), (7, .class_ 16), (1, u "java/util/Arrays"), (57, .class_ 76), (1, u "java/util/Arrays$NaturalOrder"), (9, .methodref 2 87), (0, .nameAndType 88 89), (0, u "getClass"), (0, u "()Ljava/lang/Class;"), (20, .class_ 111), (0, u "[Ljava/lang/Object;"), (1, .class_ 115), (1, u "java/util/Arrays$LegacyMergeSort"), (1, u "Z"), (32, .methodref 151 152), (0, .class_ 153), (0, .nameAndType 154 155), (0, u "java/lang/System"), (0, u "arraycopy"), (0, u "(Ljava/lang/Object;ILjava/lang/Object;II)V"), (144, .methodref 14 301), (0, .nameAndType 302 303), (0, u "copyOf"), (0, u "([Ljava/lang/Object;ILjava/lang/Class;)[Ljava/lang/Object;"), (0, .methodref 305 306), (0, .class_ 307), (0, .nameAndType 308 309), (0, u "java/lang/Math"), (0, u "min"), (0, u "(II)I"), (65, .class_ 376), (0, u "java/util/Arrays$ArrayList"), (68, u "$assertionsDisabled"), (269, u "MIN_ARRAY_SORT_GRAN"), (0, u "I"), (2, u "INSERTIONSORT_THRESHOLD"), (140, u "([Ljava/lang/Object;I)[Ljava/lang/Object;"), (114, .class_ 976), (0, u "java/util/Arrays$ArrayItr")] 52

def k32m0 : Method := { name := "<init>", desc := "()V", sig := { parameters := [], returnType := none }, accessFlags := 2, code := none }
def k32c1 : Code := { maxStack := 3, maxLocals := 2, code := jdk_65_method_119_code, exceptionTable := #[], attributes := #[] }
def k32m1 : Method := { name := "copyOf", desc := "([Ljava/lang/Object;I)[Ljava/lang/Object;", sig := { parameters := [(.array (.object "java/lang/Object")), .int], returnType := some (.array (.object "java/lang/Object")) }, accessFlags := 9, code := some k32c1 }
def k32c2 : Code := { maxStack := 6, maxLocals := 4, code := jdk_65_method_120_code, exceptionTable := #[], attributes := #[] }
def k32m2 : Method := { name := "copyOf", desc := "([Ljava/lang/Object;ILjava/lang/Class;)[Ljava/lang/Object;", sig := { parameters := [(.array (.object "java/lang/Object")), .int, (.object "java/lang/Class")], returnType := some (.array (.object "java/lang/Object")) }, accessFlags := 9, code := some k32c2 }
/-- java/util/Arrays -/
def k32 : Class := { plain "java/util/Arrays" (some 0) with
  accessFlags := 49
  interfaces := #[]
  cf := some (fileOf pool32 14 #[.nestMembers #[975, 375, 113, 74]] #[{ accessFlags := 2, nameIndex := 5, descriptorIndex := 6, attributes := #[] }, { accessFlags := 9, nameIndex := 302, descriptorIndex := 860, attributes := #[] }, { accessFlags := 9, nameIndex := 302, descriptorIndex := 303, attributes := #[] }] 49 2 #[] #[{ accessFlags := 26, nameIndex := 715, descriptorIndex := 716, attributes := #[] }, { accessFlags := 26, nameIndex := 719, descriptorIndex := 716, attributes := #[] }, { accessFlags := 4120, nameIndex := 445, descriptorIndex := 117, attributes := #[] }])
  fields := #[{ name := "MIN_ARRAY_SORT_GRAN", type := .int, accessFlags := 26, slot := 0, constantValue := 0 }, { name := "INSERTIONSORT_THRESHOLD", type := .int, accessFlags := 26, slot := 1, constantValue := 0 }, { name := "$assertionsDisabled", type := .boolean, accessFlags := 4120, slot := 2, constantValue := 0 }]
  methods := #[k32m0, k32m1, k32m2]
  instanceTypes := #[]
  staticTypes := #[.int, .int, .boolean]
  resolved := Array.replicate 1029 none
  statics := none }

def pool33 : Array CpInfo := pool [(2, .class_ 4), (1, u "java/lang/Object"), (0, u "<init>"), (0, u "()V"), (1, .class_ 10), (1, u "java/lang/System"), (0, u "allowSecurityManager"), (0, u "I"), (16, u "cons"), (0, u "Ljava/io/Console;"), (77, .class_ 110), (1, u "java/lang/System$CallersHolder"), (43, u "initialErrStream"), (0, u "Ljava/io/PrintStream;"), (19, u "security"), (0, u "Ljava/lang/SecurityManager;"), (31, .class_ 209), (0, u "java/lang/System$1"), (7, u "props"), (0, u "Ljava/util/Properties;"), (2, u "lineSeparator"), (0, u "Ljava/lang/String;"), (96, .class_ 321), (1, u "java/lang/System$LoggerFinder"), (5, .class_ 328), (0, u "java/lang/System$Logger"), (67, u "err"), (2, u "out"), (91, u "notSupportedJnuEncoding"), (15, u "in"), (17, u "initialIn"), (0, u "Ljava/io/InputStream;"), (35, u "bootLayer"), (0, u "Ljava/lang/ModuleLayer;"), (99, .class_ 664), (0, u "java/lang/System$2"), (9, u "NEVER"), (2, u "MAYBE"), (49, u "arraycopy"), (0, u "(Ljava/lang/Object;ILjava/lang/Object;II)V"), (72, .class_ 802), (0, u "java/lang/System$Logger$Level")] 31

def k33m0 : Method := { name := "<init>", desc := "()V", sig := { parameters := [], returnType := none }, accessFlags := 2, code := none }
def k33m1 : Method := { name := "arraycopy", desc := "(Ljava/lang/Object;ILjava/lang/Object;II)V", sig := { parameters := [(.object "java/lang/Object"), .int, (.object "java/lang/Object"), .int, .int], returnType := none }, accessFlags := 265, code := none }
/-- java/lang/System -/
def k33 : Class := { plain "java/lang/System" (some 0) with
  accessFlags := 49
  interfaces := #[]
  cf := some (fileOf pool33 8 #[.nestMembers #[319, 327, 801, 108, 663, 208]] #[{ accessFlags := 2, nameIndex := 5, descriptorIndex := 6, attributes := #[] }, { accessFlags := 265, nameIndex := 727, descriptorIndex := 728, attributes := #[] }] 49 2 #[] #[{ accessFlags := 25, nameIndex := 507, descriptorIndex := 526, attributes := #[] }, { accessFlags := 25, nameIndex := 399, descriptorIndex := 155, attributes := #[] }, { accessFlags := 25, nameIndex := 396, descriptorIndex := 155, attributes := #[] }, { accessFlags := 10, nameIndex := 525, descriptorIndex := 526, attributes := #[] }, { accessFlags := 26, nameIndex := 674, descriptorIndex := 12, attributes := #[] }, { accessFlags := 26, nameIndex := 677, descriptorIndex := 12, attributes := #[] }, { accessFlags := 10, nameIndex := 11, descriptorIndex := 12, attributes := #[] }, { accessFlags := 74, nameIndex := 175, descriptorIndex := 176, attributes := #[] }, { accessFlags := 10, nameIndex := 491, descriptorIndex := 222, attributes := #[] }, { accessFlags := 74, nameIndex := 29, descriptorIndex := 30, attributes := #[] }, { accessFlags := 74, nameIndex := 154, descriptorIndex := 155, attributes := #[] }, { accessFlags := 10, nameIndex := 217, descriptorIndex := 218, attributes := #[] }, { accessFlags := 10, nameIndex := 221, descriptorIndex := 222, attributes := #[] }, { accessFlags := 8, nameIndex := 562, descriptorIndex := 563, attributes := #[] }])
  fields := #[{ name := "in", type := (.object "java/io/InputStream"), accessFlags := 25, slot := 0, constantValue := 0 }, { name := "out", type := (.object "java/io/PrintStream"), accessFlags := 25, slot := 1, constantValue := 0 }, { name := "err", type := (.object "java/io/PrintStream"), accessFlags := 25, slot := 2, constantValue := 0 }, { name := "initialIn", type := (.object "java/io/InputStream"), accessFlags := 10, slot := 3, constantValue := 0 }, { name := "NEVER", type := .int, accessFlags := 26, slot := 4, constantValue := 0 }, { name := "MAYBE", type := .int, accessFlags := 26, slot := 5, constantValue := 0 }, { name := "allowSecurityManager", type := .int, accessFlags := 10, slot := 6, constantValue := 0 }, { name := "security", type := (.object "java/lang/SecurityManager"), accessFlags := 74, slot := 7, constantValue := 0 }, { name := "notSupportedJnuEncoding", type := (.object "java/lang/String"), accessFlags := 10, slot := 8, constantValue := 0 }, { name := "cons", type := (.object "java/io/Console"), accessFlags := 74, slot := 9, constantValue := 0 }, { name := "initialErrStream", type := (.object "java/io/PrintStream"), accessFlags := 74, slot := 10, constantValue := 0 }, { name := "props", type := (.object "java/util/Properties"), accessFlags := 10, slot := 11, constantValue := 0 }, { name := "lineSeparator", type := (.object "java/lang/String"), accessFlags := 10, slot := 12, constantValue := 0 }, { name := "bootLayer", type := (.object "java/lang/ModuleLayer"), accessFlags := 8, slot := 13, constantValue := 0 }]
  methods := #[k33m0, k33m1]
  instanceTypes := #[]
  staticTypes := #[(.object "java/io/InputStream"), (.object "java/io/PrintStream"), (.object "java/io/PrintStream"), (.object "java/io/InputStream"), .int, .int, .int, (.object "java/lang/SecurityManager"), (.object "java/lang/String"), (.object "java/io/Console"), (.object "java/io/PrintStream"), (.object "java/util/Properties"), (.object "java/lang/String"), (.object "java/lang/ModuleLayer")]
  resolved := Array.replicate 834 none
  statics := none }

def pool34 : Array CpInfo := pool [(2, .class_ 4), (1, u "java/lang/Object"), (0, u "<init>"), (0, u "()V"), (35, .class_ 44), (1, u "java/util/Objects"), (0, u "requireNonNull"), (0, u "(Ljava/lang/Object;)Ljava/lang/Object;")] 137

def k34m0 : Method := { name := "<init>", desc := "()V", sig := { parameters := [], returnType := none }, accessFlags := 2, code := none }
def k34c1 : Code := { maxStack := 2, maxLocals := 1, code := jdk_31_method_10_code, exceptionTable := #[], attributes := #[] }
def k34m1 : Method := { name := "requireNonNull", desc := "(Ljava/lang/Object;)Ljava/lang/Object;", sig := { parameters := [(.object "java/lang/Object")], returnType := some (.object "java/lang/Object") }, accessFlags := 9, code := some k34c1 }
/-- java/util/Objects -/
def k34 : Class := { plain "java/util/Objects" (some 0) with
  accessFlags := 49
  interfaces := #[]
  cf := some (fileOf pool34 42 #[] #[{ accessFlags := 2, nameIndex := 5, descriptorIndex := 6, attributes := #[] }, { accessFlags := 9, nameIndex := 45, descriptorIndex := 46, attributes := #[] }] 49 2 #[] #[])
  fields := #[]
  methods := #[k34m0, k34m1]
  instanceTypes := #[]
  staticTypes := #[]
  resolved := Array.replicate 184 none
  statics := none }

def pool35 : Array CpInfo := pool [(1, .methodref 2 3), (0, .class_ 4), (0, .nameAndType 5 6), (0, u "java/lang/Record"), (0, u "<init>"), (0, u "()V"), (0, .fieldref 8 9), (0, .class_ 10), (0, .nameAndType 11 12), (0, u "com/example/echo_panel/echopanel/channel/DisplayLimits"), (0, u "lower"), (0, u "D"), (0, .fieldref 8 14), (0, .nameAndType 15 12), (0, u "upper"), (12, u "(DD)V"), (6, u "()D")] 21

def k35c0 : Code := { maxStack := 3, maxLocals := 5, code := prog_18_method_1_code, exceptionTable := #[], attributes := #[] }
def k35m0 : Method := { name := "<init>", desc := "(DD)V", sig := { parameters := [.double, .double], returnType := none }, accessFlags := 1, code := some k35c0 }
def k35c1 : Code := { maxStack := 2, maxLocals := 1, code := prog_18_method_5_code, exceptionTable := #[], attributes := #[] }
def k35m1 : Method := { name := "lower", desc := "()D", sig := { parameters := [], returnType := some .double }, accessFlags := 1, code := some k35c1 }
def k35c2 : Code := { maxStack := 2, maxLocals := 1, code := prog_18_method_6_code, exceptionTable := #[], attributes := #[] }
def k35m2 : Method := { name := "upper", desc := "()D", sig := { parameters := [], returnType := some .double }, accessFlags := 1, code := some k35c2 }
/-- com/example/echo_panel/echopanel/channel/DisplayLimits -/
def k35 : Class := { plain "com/example/echo_panel/echopanel/channel/DisplayLimits" (some 21) with
  accessFlags := 49
  interfaces := #[]
  cf := some (fileOf pool35 8 #[] #[{ accessFlags := 1, nameIndex := 5, descriptorIndex := 28, attributes := #[] }, { accessFlags := 1, nameIndex := 11, descriptorIndex := 35, attributes := #[] }, { accessFlags := 1, nameIndex := 15, descriptorIndex := 35, attributes := #[] }] 49 2 #[] #[{ accessFlags := 18, nameIndex := 11, descriptorIndex := 12, attributes := #[] }, { accessFlags := 18, nameIndex := 15, descriptorIndex := 12, attributes := #[] }])
  fields := #[{ name := "lower", type := .double, accessFlags := 18, slot := 0, constantValue := 0 }, { name := "upper", type := .double, accessFlags := 18, slot := 1, constantValue := 0 }]
  methods := #[k35m0, k35m1, k35m2]
  instanceTypes := #[.double, .double]
  staticTypes := #[]
  resolved := Array.replicate 57 none
  statics := none }

def pool36 : Array CpInfo := pool [(2, .class_ 4), (1, u "java/lang/Object"), (0, u "<init>"), (0, u "()V"), (17, .class_ 26), (1, u "jdk/internal/util/Preconditions"), (28, .class_ 56), (0, u "jdk/internal/util/Preconditions$4"), (57, .class_ 115), (0, u "jdk/internal/util/Preconditions$1"), (7, u "SIOOBE_FORMATTER"), (0, u "Ljava/util/function/BiFunction;"), (0, .class_ 126), (0, u "jdk/internal/util/Preconditions$2"), (3, u "AIOOBE_FORMATTER"), (0, .class_ 132), (0, u "jdk/internal/util/Preconditions$3"), (3, u "IOOBE_FORMATTER")] 57

def k36m0 : Method := { name := "<init>", desc := "()V", sig := { parameters := [], returnType := none }, accessFlags := 1, code := none }
/-- jdk/internal/util/Preconditions -/
def k36 : Class := { plain "jdk/internal/util/Preconditions" (some 0) with
  accessFlags := 33
  interfaces := #[]
  cf := some (fileOf pool36 24 #[.nestMembers #[55, 131, 125, 114]] #[{ accessFlags := 1, nameIndex := 5, descriptorIndex := 6, attributes := #[] }] 33 2 #[] #[{ accessFlags := 25, nameIndex := 123, descriptorIndex := 124, attributes := #[] }, { accessFlags := 25, nameIndex := 130, descriptorIndex := 124, attributes := #[] }, { accessFlags := 25, nameIndex := 136, descriptorIndex := 124, attributes := #[] }])
  fields := #[{ name := "SIOOBE_FORMATTER", type := (.object "java/util/function/BiFunction"), accessFlags := 25, slot := 0, constantValue := 0 }, { name := "AIOOBE_FORMATTER", type := (.object "java/util/function/BiFunction"), accessFlags := 25, slot := 1, constantValue := 0 }, { name := "IOOBE_FORMATTER", type := (.object "java/util/function/BiFunction"), accessFlags := 25, slot := 2, constantValue := 0 }]
  methods := #[k36m0]
  instanceTypes := #[]
  staticTypes := #[(.object "java/util/function/BiFunction"), (.object "java/util/function/BiFunction"), (.object "java/util/function/BiFunction")]
  resolved := Array.replicate 194 none
  statics := some 5 }

def pool37 : Array CpInfo := pool [(9, u "<init>"), (6, .class_ 18), (1, u "java/lang/Object"), (0, u "()V"), (1, .class_ 23), (1, u "jdk/internal/util/ArraysSupport"), (0, u "LOG2_ARRAY_LONG_INDEX_SCALE"), (0, u "I"), (2, u "U"), (0, u "Ljdk/internal/misc/Unsafe;"), (8, u "BIG_ENDIAN"), (0, u "Z"), (8, u "LOG2_BYTE_BIT_SIZE"), (4, u "LOG2_ARRAY_INT_INDEX_SCALE"), (54, u "JLA"), (0, u "Ljdk/internal/access/JavaLangAccess;"), (11, u "LOG2_ARRAY_BOOLEAN_INDEX_SCALE"), (9, u "LOG2_ARRAY_BYTE_INDEX_SCALE"), (5, u "LOG2_ARRAY_CHAR_INDEX_SCALE"), (5, u "LOG2_ARRAY_SHORT_INDEX_SCALE"), (18, u "LOG2_ARRAY_FLOAT_INDEX_SCALE"), (24, u "LOG2_ARRAY_DOUBLE_INDEX_SCALE"), (89, u "T_BOOLEAN"), (2, u "T_CHAR"), (1, u "T_FLOAT"), (1, u "T_DOUBLE"), (1, u "T_BYTE"), (1, u "T_SHORT"), (1, u "T_INT"), (1, u "T_LONG"), (1, u "SOFT_MAX_ARRAY_LENGTH")] 83

def k37m0 : Method := { name := "<init>", desc := "()V", sig := { parameters := [], returnType := none }, accessFlags := 2, code := none }
/-- jdk/internal/util/ArraysSupport -/
def k37 : Class := { plain "jdk/internal/util/ArraysSupport" (some 0) with
  accessFlags := 33
  interfaces := #[]
  cf := some (fileOf pool37 21 #[] #[{ accessFlags := 2, nameIndex := 9, descriptorIndex := 19, attributes := #[] }] 33 16 #[] #[{ accessFlags := 24, nameIndex := 28, descriptorIndex := 29, attributes := #[] }, { accessFlags := 26, nameIndex := 38, descriptorIndex := 39, attributes := #[] }, { accessFlags := 25, nameIndex := 121, descriptorIndex := 25, attributes := #[] }, { accessFlags := 25, nameIndex := 131, descriptorIndex := 25, attributes := #[] }, { accessFlags := 25, nameIndex := 137, descriptorIndex := 25, attributes := #[] }, { accessFlags := 25, nameIndex := 143, descriptorIndex := 25, attributes := #[] }, { accessFlags := 25, nameIndex := 53, descriptorIndex := 25, attributes := #[] }, { accessFlags := 25, nameIndex := 24, descriptorIndex := 25, attributes := #[] }, { accessFlags := 25, nameIndex := 162, descriptorIndex := 25, attributes := #[] }, { accessFlags := 25, nameIndex := 187, descriptorIndex := 25, attributes := #[] }, { accessFlags := 26, nameIndex := 48, descriptorIndex := 25, attributes := #[] }, { accessFlags := 25, nameIndex := 277, descriptorIndex := 25, attributes := #[] }, { accessFlags := 25, nameIndex := 280, descriptorIndex := 25, attributes := #[] }, { accessFlags := 25, nameIndex := 282, descriptorIndex := 25, attributes := #[] }, { accessFlags := 25, nameIndex := 284, descriptorIndex := 25, attributes := #[] }, { accessFlags := 25, nameIndex := 286, descriptorIndex := 25, attributes := #[] }, { accessFlags := 25, nameIndex := 288, descriptorIndex := 25, attributes := #[] }, { accessFlags := 25, nameIndex := 290, descriptorIndex := 25, attributes := #[] }, { accessFlags := 25, nameIndex := 292, descriptorIndex := 25, attributes := #[] }, { accessFlags := 26, nameIndex := 108, descriptorIndex := 109, attributes := #[] }, { accessFlags := 25, nameIndex := 294, descriptorIndex := 25, attributes := #[] }])
  fields := #[{ name := "U", type := (.object "jdk/internal/misc/Unsafe"), accessFlags := 24, slot := 0, constantValue := 0 }, { name := "BIG_ENDIAN", type := .boolean, accessFlags := 26, slot := 1, constantValue := 0 }, { name := "LOG2_ARRAY_BOOLEAN_INDEX_SCALE", type := .int, accessFlags := 25, slot := 2, constantValue := 0 }, { name := "LOG2_ARRAY_BYTE_INDEX_SCALE", type := .int, accessFlags := 25, slot := 3, constantValue := 0 }, { name := "LOG2_ARRAY_CHAR_INDEX_SCALE", type := .int, accessFlags := 25, slot := 4, constantValue := 0 }, { name := "LOG2_ARRAY_SHORT_INDEX_SCALE", type := .int, accessFlags := 25, slot := 5, constantValue := 0 }, { name := "LOG2_ARRAY_INT_INDEX_SCALE", type := .int, accessFlags := 25, slot := 6, constantValue := 0 }, { name := "LOG2_ARRAY_LONG_INDEX_SCALE", type := .int, accessFlags := 25, slot := 7, constantValue := 0 }, { name := "LOG2_ARRAY_FLOAT_INDEX_SCALE", type := .int, accessFlags := 25, slot := 8, constantValue := 0 }, { name := "LOG2_ARRAY_DOUBLE_INDEX_SCALE", type := .int, accessFlags := 25, slot := 9, constantValue := 0 }, { name := "LOG2_BYTE_BIT_SIZE", type := .int, accessFlags := 26, slot := 10, constantValue := 0 }, { name := "T_BOOLEAN", type := .int, accessFlags := 25, slot := 11, constantValue := 0 }, { name := "T_CHAR", type := .int, accessFlags := 25, slot := 12, constantValue := 0 }, { name := "T_FLOAT", type := .int, accessFlags := 25, slot := 13, constantValue := 0 }, { name := "T_DOUBLE", type := .int, accessFlags := 25, slot := 14, constantValue := 0 }, { name := "T_BYTE", type := .int, accessFlags := 25, slot := 15, constantValue := 0 }, { name := "T_SHORT", type := .int, accessFlags := 25, slot := 16, constantValue := 0 }, { name := "T_INT", type := .int, accessFlags := 25, slot := 17, constantValue := 0 }, { name := "T_LONG", type := .int, accessFlags := 25, slot := 18, constantValue := 0 }, { name := "JLA", type := (.object "jdk/internal/access/JavaLangAccess"), accessFlags := 26, slot := 19, constantValue := 0 }, { name := "SOFT_MAX_ARRAY_LENGTH", type := .int, accessFlags := 25, slot := 20, constantValue := 0 }]
  methods := #[k37m0]
  instanceTypes := #[]
  staticTypes := #[(.object "jdk/internal/misc/Unsafe"), .boolean, .int, .int, .int, .int, .int, .int, .int, .int, .int, .int, .int, .int, .int, .int, .int, .int, .int, (.object "jdk/internal/access/JavaLangAccess"), .int]
  resolved := Array.replicate 378 none
  statics := none }

def pool38 : Array CpInfo := pool [(1, u "java/lang/Class"), (0, .class_ 1), (0, u "java/lang/Object"), (0, .class_ 3)] 3

/-- java/lang/Class -/
def k38 : Class := { plain "java/lang/Class" (some 0) with
  accessFlags := 49
  interfaces := #[]
  cf := some (fileOf pool38 2 #[] #[] 49 4 #[] #[])
  fields := #[]
  methods := #[]
  instanceTypes := #[]
  staticTypes := #[]
  resolved := Array.replicate 8 none
  statics := none }

/-- the primitive byte -/
def k39 : Class := { plain "byte" none with kind := .primitive 'B', accessFlags := 0x411 }
/-- [B -/
def k40 : Class := { plain "[B" (some 0) with kind := .array 39 .byte, interfaces := #[19, 4], accessFlags := 1041 }

/-- the primitive char -/
def k41 : Class := { plain "char" none with kind := .primitive 'C', accessFlags := 0x411 }
/-- [C -/
def k42 : Class := { plain "[C" (some 0) with kind := .array 41 .char, interfaces := #[19, 4], accessFlags := 1041 }

/-- the primitive int -/
def k43 : Class := { plain "int" none with kind := .primitive 'I', accessFlags := 0x411 }
/-- [I -/
def k44 : Class := { plain "[I" (some 0) with kind := .array 43 .int, interfaces := #[19, 4], accessFlags := 1041 }

/-- [Ljava/lang/Integer; -/
def k45 : Class := { plain "[Ljava/lang/Integer;" (some 0) with kind := .array 30 (.object "java/lang/Integer"), interfaces := #[19, 4], accessFlags := 1041 }

/-- [Ljava/lang/Object; -/
def k46 : Class := { plain "[Ljava/lang/Object;" (some 0) with kind := .array 0 (.object "java/lang/Object"), interfaces := #[19, 4], accessFlags := 1041, mirror := some 6 }

def heap : Heap := #[{ cls := 6, slots := #[.ref 266, .ref 267, .ref 268, .ref 269, .null], vm := .statics 6 },
  { cls := 9, slots := #[.long 0, .int 1, .null, .int 0, .null, .int 0, .int 0], vm := .statics 9 },
  { cls := 20, slots := #[.long 0, .int 0, .ref 271, .ref 272], vm := .statics 20 },
  { cls := 23, slots := #[.long 0, .int 0, .null, .ref 270, .ref 265, .null, .null, .null, .int 0, .int 1], vm := .statics 23 },
  { cls := 31, slots := #[.int 0, .int 127, .ref 7, .null, .int 0], vm := .statics 31 },
  { cls := 36, slots := #[.null, .null, .null], vm := .statics 36 },
  { cls := 38, slots := #[], vm := .mirror 46 },
  { cls := 45, slots := #[.ref 9, .ref 10, .ref 11, .ref 12, .ref 13, .ref 14, .ref 15, .ref 16, .ref 17, .ref 18, .ref 19, .ref 20, .ref 21, .ref 22, .ref 23, .ref 24, .ref 25, .ref 26, .ref 27, .ref 28, .ref 29, .ref 30, .ref 31, .ref 32, .ref 33, .ref 34, .ref 35, .ref 36, .ref 37, .ref 38, .ref 39, .ref 40, .ref 41, .ref 42, .ref 43, .ref 44, .ref 45, .ref 46, .ref 47, .ref 48, .ref 49, .ref 50, .ref 51, .ref 52, .ref 53, .ref 54, .ref 55, .ref 56, .ref 57, .ref 58, .ref 59, .ref 60, .ref 61, .ref 62, .ref 63, .ref 64, .ref 65, .ref 66, .ref 67, .ref 68, .ref 69, .ref 70, .ref 71, .ref 72, .ref 73, .ref 74, .ref 75, .ref 76, .ref 77, .ref 78, .ref 79, .ref 80, .ref 81, .ref 82, .ref 83, .ref 84, .ref 85, .ref 86, .ref 87, .ref 88, .ref 89, .ref 90, .ref 91, .ref 92, .ref 93, .ref 94, .ref 95, .ref 96, .ref 97, .ref 98, .ref 99, .ref 100, .ref 101, .ref 102, .ref 103, .ref 104, .ref 105, .ref 106, .ref 107, .ref 108, .ref 109, .ref 110, .ref 111, .ref 112, .ref 113, .ref 114, .ref 115, .ref 116, .ref 117, .ref 118, .ref 119, .ref 120, .ref 121, .ref 122, .ref 123, .ref 124, .ref 125, .ref 126, .ref 127, .ref 128, .ref 129, .ref 130, .ref 131, .ref 132, .ref 133, .ref 134, .ref 135, .ref 136, .ref 137, .ref 138, .ref 139, .ref 140, .ref 141, .ref 142, .ref 143, .ref 144, .ref 145, .ref 146, .ref 147, .ref 148, .ref 149, .ref 150, .ref 151, .ref 152, .ref 153, .ref 154, .ref 155, .ref 156, .ref 157, .ref 158, .ref 159, .ref 160, .ref 161, .ref 162, .ref 163, .ref 164, .ref 165, .ref 166, .ref 167, .ref 168, .ref 169, .ref 170, .ref 171, .ref 172, .ref 173, .ref 174, .ref 175, .ref 176, .ref 177, .ref 178, .ref 179, .ref 180, .ref 181, .ref 182, .ref 183, .ref 184, .ref 185, .ref 186, .ref 187, .ref 188, .ref 189, .ref 190, .ref 191, .ref 192, .ref 193, .ref 194, .ref 195, .ref 196, .ref 197, .ref 198, .ref 199, .ref 200, .ref 201, .ref 202, .ref 203, .ref 204, .ref 205, .ref 206, .ref 207, .ref 208, .ref 209, .ref 210, .ref 211, .ref 212, .ref 213, .ref 214, .ref 215, .ref 216, .ref 217, .ref 218, .ref 219, .ref 220, .ref 221, .ref 222, .ref 223, .ref 224, .ref 225, .ref 226, .ref 227, .ref 228, .ref 229, .ref 230, .ref 231, .ref 232, .ref 233, .ref 234, .ref 235, .ref 236, .ref 237, .ref 238, .ref 239, .ref 240, .ref 241, .ref 242, .ref 243, .ref 244, .ref 245, .ref 246, .ref 247, .ref 248, .ref 249, .ref 250, .ref 251, .ref 252, .ref 253, .ref 254, .ref 255, .ref 256, .ref 257, .ref 258, .ref 259, .ref 260, .ref 261, .ref 262, .ref 263, .ref 264], vm := .none },
  { cls := 46, slots := #[], vm := .none },
  { cls := 30, slots := #[.int (-128)], vm := .none },
  { cls := 30, slots := #[.int (-127)], vm := .none },
  { cls := 30, slots := #[.int (-126)], vm := .none },
  { cls := 30, slots := #[.int (-125)], vm := .none },
  { cls := 30, slots := #[.int (-124)], vm := .none },
  { cls := 30, slots := #[.int (-123)], vm := .none },
  { cls := 30, slots := #[.int (-122)], vm := .none },
  { cls := 30, slots := #[.int (-121)], vm := .none },
  { cls := 30, slots := #[.int (-120)], vm := .none },
  { cls := 30, slots := #[.int (-119)], vm := .none },
  { cls := 30, slots := #[.int (-118)], vm := .none },
  { cls := 30, slots := #[.int (-117)], vm := .none },
  { cls := 30, slots := #[.int (-116)], vm := .none },
  { cls := 30, slots := #[.int (-115)], vm := .none },
  { cls := 30, slots := #[.int (-114)], vm := .none },
  { cls := 30, slots := #[.int (-113)], vm := .none },
  { cls := 30, slots := #[.int (-112)], vm := .none },
  { cls := 30, slots := #[.int (-111)], vm := .none },
  { cls := 30, slots := #[.int (-110)], vm := .none },
  { cls := 30, slots := #[.int (-109)], vm := .none },
  { cls := 30, slots := #[.int (-108)], vm := .none },
  { cls := 30, slots := #[.int (-107)], vm := .none },
  { cls := 30, slots := #[.int (-106)], vm := .none },
  { cls := 30, slots := #[.int (-105)], vm := .none },
  { cls := 30, slots := #[.int (-104)], vm := .none },
  { cls := 30, slots := #[.int (-103)], vm := .none },
  { cls := 30, slots := #[.int (-102)], vm := .none },
  { cls := 30, slots := #[.int (-101)], vm := .none },
  { cls := 30, slots := #[.int (-100)], vm := .none },
  { cls := 30, slots := #[.int (-99)], vm := .none },
  { cls := 30, slots := #[.int (-98)], vm := .none },
  { cls := 30, slots := #[.int (-97)], vm := .none },
  { cls := 30, slots := #[.int (-96)], vm := .none },
  { cls := 30, slots := #[.int (-95)], vm := .none },
  { cls := 30, slots := #[.int (-94)], vm := .none },
  { cls := 30, slots := #[.int (-93)], vm := .none },
  { cls := 30, slots := #[.int (-92)], vm := .none },
  { cls := 30, slots := #[.int (-91)], vm := .none },
  { cls := 30, slots := #[.int (-90)], vm := .none },
  { cls := 30, slots := #[.int (-89)], vm := .none },
  { cls := 30, slots := #[.int (-88)], vm := .none },
  { cls := 30, slots := #[.int (-87)], vm := .none },
  { cls := 30, slots := #[.int (-86)], vm := .none },
  { cls := 30, slots := #[.int (-85)], vm := .none },
  { cls := 30, slots := #[.int (-84)], vm := .none },
  { cls := 30, slots := #[.int (-83)], vm := .none },
  { cls := 30, slots := #[.int (-82)], vm := .none },
  { cls := 30, slots := #[.int (-81)], vm := .none },
  { cls := 30, slots := #[.int (-80)], vm := .none },
  { cls := 30, slots := #[.int (-79)], vm := .none },
  { cls := 30, slots := #[.int (-78)], vm := .none },
  { cls := 30, slots := #[.int (-77)], vm := .none },
  { cls := 30, slots := #[.int (-76)], vm := .none },
  { cls := 30, slots := #[.int (-75)], vm := .none },
  { cls := 30, slots := #[.int (-74)], vm := .none },
  { cls := 30, slots := #[.int (-73)], vm := .none },
  { cls := 30, slots := #[.int (-72)], vm := .none },
  { cls := 30, slots := #[.int (-71)], vm := .none },
  { cls := 30, slots := #[.int (-70)], vm := .none },
  { cls := 30, slots := #[.int (-69)], vm := .none },
  { cls := 30, slots := #[.int (-68)], vm := .none },
  { cls := 30, slots := #[.int (-67)], vm := .none },
  { cls := 30, slots := #[.int (-66)], vm := .none },
  { cls := 30, slots := #[.int (-65)], vm := .none },
  { cls := 30, slots := #[.int (-64)], vm := .none },
  { cls := 30, slots := #[.int (-63)], vm := .none },
  { cls := 30, slots := #[.int (-62)], vm := .none },
  { cls := 30, slots := #[.int (-61)], vm := .none },
  { cls := 30, slots := #[.int (-60)], vm := .none },
  { cls := 30, slots := #[.int (-59)], vm := .none },
  { cls := 30, slots := #[.int (-58)], vm := .none },
  { cls := 30, slots := #[.int (-57)], vm := .none },
  { cls := 30, slots := #[.int (-56)], vm := .none },
  { cls := 30, slots := #[.int (-55)], vm := .none },
  { cls := 30, slots := #[.int (-54)], vm := .none },
  { cls := 30, slots := #[.int (-53)], vm := .none },
  { cls := 30, slots := #[.int (-52)], vm := .none },
  { cls := 30, slots := #[.int (-51)], vm := .none },
  { cls := 30, slots := #[.int (-50)], vm := .none },
  { cls := 30, slots := #[.int (-49)], vm := .none },
  { cls := 30, slots := #[.int (-48)], vm := .none },
  { cls := 30, slots := #[.int (-47)], vm := .none },
  { cls := 30, slots := #[.int (-46)], vm := .none },
  { cls := 30, slots := #[.int (-45)], vm := .none },
  { cls := 30, slots := #[.int (-44)], vm := .none },
  { cls := 30, slots := #[.int (-43)], vm := .none },
  { cls := 30, slots := #[.int (-42)], vm := .none },
  { cls := 30, slots := #[.int (-41)], vm := .none },
  { cls := 30, slots := #[.int (-40)], vm := .none },
  { cls := 30, slots := #[.int (-39)], vm := .none },
  { cls := 30, slots := #[.int (-38)], vm := .none },
  { cls := 30, slots := #[.int (-37)], vm := .none },
  { cls := 30, slots := #[.int (-36)], vm := .none },
  { cls := 30, slots := #[.int (-35)], vm := .none },
  { cls := 30, slots := #[.int (-34)], vm := .none },
  { cls := 30, slots := #[.int (-33)], vm := .none },
  { cls := 30, slots := #[.int (-32)], vm := .none },
  { cls := 30, slots := #[.int (-31)], vm := .none },
  { cls := 30, slots := #[.int (-30)], vm := .none },
  { cls := 30, slots := #[.int (-29)], vm := .none },
  { cls := 30, slots := #[.int (-28)], vm := .none },
  { cls := 30, slots := #[.int (-27)], vm := .none },
  { cls := 30, slots := #[.int (-26)], vm := .none },
  { cls := 30, slots := #[.int (-25)], vm := .none },
  { cls := 30, slots := #[.int (-24)], vm := .none },
  { cls := 30, slots := #[.int (-23)], vm := .none },
  { cls := 30, slots := #[.int (-22)], vm := .none },
  { cls := 30, slots := #[.int (-21)], vm := .none },
  { cls := 30, slots := #[.int (-20)], vm := .none },
  { cls := 30, slots := #[.int (-19)], vm := .none },
  { cls := 30, slots := #[.int (-18)], vm := .none },
  { cls := 30, slots := #[.int (-17)], vm := .none },
  { cls := 30, slots := #[.int (-16)], vm := .none },
  { cls := 30, slots := #[.int (-15)], vm := .none },
  { cls := 30, slots := #[.int (-14)], vm := .none },
  { cls := 30, slots := #[.int (-13)], vm := .none },
  { cls := 30, slots := #[.int (-12)], vm := .none },
  { cls := 30, slots := #[.int (-11)], vm := .none },
  { cls := 30, slots := #[.int (-10)], vm := .none },
  { cls := 30, slots := #[.int (-9)], vm := .none },
  { cls := 30, slots := #[.int (-8)], vm := .none },
  { cls := 30, slots := #[.int (-7)], vm := .none },
  { cls := 30, slots := #[.int (-6)], vm := .none },
  { cls := 30, slots := #[.int (-5)], vm := .none },
  { cls := 30, slots := #[.int (-4)], vm := .none },
  { cls := 30, slots := #[.int (-3)], vm := .none },
  { cls := 30, slots := #[.int (-2)], vm := .none },
  { cls := 30, slots := #[.int (-1)], vm := .none },
  { cls := 30, slots := #[.int 0], vm := .none },
  { cls := 30, slots := #[.int 1], vm := .none },
  { cls := 30, slots := #[.int 2], vm := .none },
  { cls := 30, slots := #[.int 3], vm := .none },
  { cls := 30, slots := #[.int 4], vm := .none },
  { cls := 30, slots := #[.int 5], vm := .none },
  { cls := 30, slots := #[.int 6], vm := .none },
  { cls := 30, slots := #[.int 7], vm := .none },
  { cls := 30, slots := #[.int 8], vm := .none },
  { cls := 30, slots := #[.int 9], vm := .none },
  { cls := 30, slots := #[.int 10], vm := .none },
  { cls := 30, slots := #[.int 11], vm := .none },
  { cls := 30, slots := #[.int 12], vm := .none },
  { cls := 30, slots := #[.int 13], vm := .none },
  { cls := 30, slots := #[.int 14], vm := .none },
  { cls := 30, slots := #[.int 15], vm := .none },
  { cls := 30, slots := #[.int 16], vm := .none },
  { cls := 30, slots := #[.int 17], vm := .none },
  { cls := 30, slots := #[.int 18], vm := .none },
  { cls := 30, slots := #[.int 19], vm := .none },
  { cls := 30, slots := #[.int 20], vm := .none },
  { cls := 30, slots := #[.int 21], vm := .none },
  { cls := 30, slots := #[.int 22], vm := .none },
  { cls := 30, slots := #[.int 23], vm := .none },
  { cls := 30, slots := #[.int 24], vm := .none },
  { cls := 30, slots := #[.int 25], vm := .none },
  { cls := 30, slots := #[.int 26], vm := .none },
  { cls := 30, slots := #[.int 27], vm := .none },
  { cls := 30, slots := #[.int 28], vm := .none },
  { cls := 30, slots := #[.int 29], vm := .none },
  { cls := 30, slots := #[.int 30], vm := .none },
  { cls := 30, slots := #[.int 31], vm := .none },
  { cls := 30, slots := #[.int 32], vm := .none },
  { cls := 30, slots := #[.int 33], vm := .none },
  { cls := 30, slots := #[.int 34], vm := .none },
  { cls := 30, slots := #[.int 35], vm := .none },
  { cls := 30, slots := #[.int 36], vm := .none },
  { cls := 30, slots := #[.int 37], vm := .none },
  { cls := 30, slots := #[.int 38], vm := .none },
  { cls := 30, slots := #[.int 39], vm := .none },
  { cls := 30, slots := #[.int 40], vm := .none },
  { cls := 30, slots := #[.int 41], vm := .none },
  { cls := 30, slots := #[.int 42], vm := .none },
  { cls := 30, slots := #[.int 43], vm := .none },
  { cls := 30, slots := #[.int 44], vm := .none },
  { cls := 30, slots := #[.int 45], vm := .none },
  { cls := 30, slots := #[.int 46], vm := .none },
  { cls := 30, slots := #[.int 47], vm := .none },
  { cls := 30, slots := #[.int 48], vm := .none },
  { cls := 30, slots := #[.int 49], vm := .none },
  { cls := 30, slots := #[.int 50], vm := .none },
  { cls := 30, slots := #[.int 51], vm := .none },
  { cls := 30, slots := #[.int 52], vm := .none },
  { cls := 30, slots := #[.int 53], vm := .none },
  { cls := 30, slots := #[.int 54], vm := .none },
  { cls := 30, slots := #[.int 55], vm := .none },
  { cls := 30, slots := #[.int 56], vm := .none },
  { cls := 30, slots := #[.int 57], vm := .none },
  { cls := 30, slots := #[.int 58], vm := .none },
  { cls := 30, slots := #[.int 59], vm := .none },
  { cls := 30, slots := #[.int 60], vm := .none },
  { cls := 30, slots := #[.int 61], vm := .none },
  { cls := 30, slots := #[.int 62], vm := .none },
  { cls := 30, slots := #[.int 63], vm := .none },
  { cls := 30, slots := #[.int 64], vm := .none },
  { cls := 30, slots := #[.int 65], vm := .none },
  { cls := 30, slots := #[.int 66], vm := .none },
  { cls := 30, slots := #[.int 67], vm := .none },
  { cls := 30, slots := #[.int 68], vm := .none },
  { cls := 30, slots := #[.int 69], vm := .none },
  { cls := 30, slots := #[.int 70], vm := .none },
  { cls := 30, slots := #[.int 71], vm := .none },
  { cls := 30, slots := #[.int 72], vm := .none },
  { cls := 30, slots := #[.int 73], vm := .none },
  { cls := 30, slots := #[.int 74], vm := .none },
  { cls := 30, slots := #[.int 75], vm := .none },
  { cls := 30, slots := #[.int 76], vm := .none },
  { cls := 30, slots := #[.int 77], vm := .none },
  { cls := 30, slots := #[.int 78], vm := .none },
  { cls := 30, slots := #[.int 79], vm := .none },
  { cls := 30, slots := #[.int 80], vm := .none },
  { cls := 30, slots := #[.int 81], vm := .none },
  { cls := 30, slots := #[.int 82], vm := .none },
  { cls := 30, slots := #[.int 83], vm := .none },
  { cls := 30, slots := #[.int 84], vm := .none },
  { cls := 30, slots := #[.int 85], vm := .none },
  { cls := 30, slots := #[.int 86], vm := .none },
  { cls := 30, slots := #[.int 87], vm := .none },
  { cls := 30, slots := #[.int 88], vm := .none },
  { cls := 30, slots := #[.int 89], vm := .none },
  { cls := 30, slots := #[.int 90], vm := .none },
  { cls := 30, slots := #[.int 91], vm := .none },
  { cls := 30, slots := #[.int 92], vm := .none },
  { cls := 30, slots := #[.int 93], vm := .none },
  { cls := 30, slots := #[.int 94], vm := .none },
  { cls := 30, slots := #[.int 95], vm := .none },
  { cls := 30, slots := #[.int 96], vm := .none },
  { cls := 30, slots := #[.int 97], vm := .none },
  { cls := 30, slots := #[.int 98], vm := .none },
  { cls := 30, slots := #[.int 99], vm := .none },
  { cls := 30, slots := #[.int 100], vm := .none },
  { cls := 30, slots := #[.int 101], vm := .none },
  { cls := 30, slots := #[.int 102], vm := .none },
  { cls := 30, slots := #[.int 103], vm := .none },
  { cls := 30, slots := #[.int 104], vm := .none },
  { cls := 30, slots := #[.int 105], vm := .none },
  { cls := 30, slots := #[.int 106], vm := .none },
  { cls := 30, slots := #[.int 107], vm := .none },
  { cls := 30, slots := #[.int 108], vm := .none },
  { cls := 30, slots := #[.int 109], vm := .none },
  { cls := 30, slots := #[.int 110], vm := .none },
  { cls := 30, slots := #[.int 111], vm := .none },
  { cls := 30, slots := #[.int 112], vm := .none },
  { cls := 30, slots := #[.int 113], vm := .none },
  { cls := 30, slots := #[.int 114], vm := .none },
  { cls := 30, slots := #[.int 115], vm := .none },
  { cls := 30, slots := #[.int 116], vm := .none },
  { cls := 30, slots := #[.int 117], vm := .none },
  { cls := 30, slots := #[.int 118], vm := .none },
  { cls := 30, slots := #[.int 119], vm := .none },
  { cls := 30, slots := #[.int 120], vm := .none },
  { cls := 30, slots := #[.int 121], vm := .none },
  { cls := 30, slots := #[.int 122], vm := .none },
  { cls := 30, slots := #[.int 123], vm := .none },
  { cls := 30, slots := #[.int 124], vm := .none },
  { cls := 30, slots := #[.int 125], vm := .none },
  { cls := 30, slots := #[.int 126], vm := .none },
  { cls := 30, slots := #[.int 127], vm := .none },
  { cls := 27, slots := #[.ref 8, .int 0], vm := .none },
  { cls := 6, slots := #[.null, .int 0, .int 0], vm := .none },
  { cls := 6, slots := #[.null, .int 0, .int 1], vm := .none },
  { cls := 6, slots := #[.null, .int 0, .int 2], vm := .none },
  { cls := 6, slots := #[.null, .int 0, .int 3], vm := .none },
  { cls := 0, slots := #[], vm := .none },
  { cls := 46, slots := #[], vm := .none },
  { cls := 46, slots := #[], vm := .none }]
def classes : Array Class := #[k0, k1, k2, k3, k4, k5, k6, k7, k8, k9, k10, k11, k12, k13, k14, k15, k16, k17, k18, k19, k20, k21, k22, k23, k24, k25, k26, k27, k28, k29, k30, k31, k32, k33, k34, k35, k36, k37, k38, k39, k40, k41, k42, k43, k44, k45, k46]
def interned : List (Array UInt16 × Addr) := []
def slotsUsed : Nat := 560
def theMethod : MethodId := ⟨1, 2⟩
def args0 : Array Value := #[.int 0, .int 5, .int 7, .int 1, .int 2, .int 3]
def aboutOver (below : List Frame) : State where
  vm := { classes := classes, interned := interned.toArray }
  heap := heap
  slotsUsed := slotsUsed
  threads := #[{ frames := .invoking theMethod args0 :: below }]
def below0 : List Frame := [.native { method := ⟨0, 0⟩, args := #[] }]
def about1 : State := aboutOver below0
def p0 : Program := .bare "" "" ""
def e0 : Env := launch0.env 0 0 0
theorem w_frames : about1.frames = Frame.invoking theMethod args0 :: below0 := rfl
set_option maxRecDepth 65536 in
theorem w_args : argsFit about1.vm theMethod args0 = true := by decide +kernel
set_option maxRecDepth 65536 in
theorem w_heap : heapFits about1 = true := by decide +kernel
set_option maxRecDepth 65536 in
theorem w_runnable : about1.curStatus? = some .runnable := by decide +kernel
set_option maxRecDepth 65536 in
theorem w_alone : about1.alone = true := by decide +kernel
set_option maxRecDepth 65536 in
theorem w_named : about1.methodNamed? x = some theMethod := by decide +kernel
set_option maxRecDepth 65536 in
theorem w_hears : about1.hears theMethod below0 = true := by decide +kernel
set_option maxRecDepth 65536 in
theorem w_ripe : about1.ripe theMethod args0 below0 = true := by decide +kernel
theorem w_running : about1.status = .running := rfl
set_option maxRecDepth 65536 in
theorem w_room : about1.hasRoom e0.platform room_1 = true :=
  launch0.hasRoom_least _ room_1 (by decide +kernel) (by decide +kernel) (by decide +kernel) (by decide +kernel) (by decide +kernel) (by decide +kernel)
theorem allAtoms_all (ts : List Jvm.Cond) (a : Array Jvm.Value) (st : Jvm.State) : (allAtoms ts).before a st = ts.all (fun c => c.before a st) := by
  induction ts with
  | nil => rfl
  | cons c t ih =>
    show (Jvm.Cond.and c (allAtoms t)).before a st = _
    rw [Jvm.Cond.before_and, ih, List.all_cons]
def words1 : List Jvm.Cond := Jvm.Cond.code x code maxLocals ret :: tables_1
/-- a 'code' word, met by the world's own term for the bytes: nothing is compared byte by byte -/
theorem code_word {y : MethodName} {bytes : ByteArray} {mx : Nat} {rt : Option FieldType} {a : Array Value} {s : State} {m : MethodId} {meth : Method} {c : Code} (h1 : s.methodNamed? y = some m) (h2 : s.vm.method? m = some meth) (h3 : meth.code = some c) (h4 : c.code = bytes)
    (h5 : (c.maxLocals == mx && c.exceptionTable.isEmpty && decide (c.maxStack ≤ mostOperands) && decide (meth.sig.returnType = rt) && !meth.locks && decide (parseMethodDescriptor y.desc = some meth.sig)) = true) : (Jvm.Cond.code y bytes mx rt).before a s = true := by
  simp only [Bool.and_eq_true, beq_iff_eq, Bool.not_eq_true', decide_eq_true_eq] at h5
  obtain ⟨⟨⟨⟨⟨g1, g2⟩, g3⟩, g4⟩, g5⟩, g6⟩ := h5
  simp [Cond.before, Cond.holds, Cond.value, h1, h2, h3, h4, g1, g2, g3, g4, g5, g6]
def isCode : Jvm.Cond → Bool
  | .code _ _ _ _ => true
  | _ => false
theorem all_split {L : List Jvm.Cond} {P : Jvm.Cond → Bool} (h1 : L.all (fun c => isCode c || P c) = true) (h2 : ∀ c ∈ L.filter isCode, P c = true) : L.all P = true := by
  refine List.all_eq_true.mpr fun c hc => ?_
  have h := List.all_eq_true.mp h1 c hc
  rcases Bool.eq_false_or_eq_true (isCode c) with hi | hi
  · exact h2 c (List.mem_filter.mpr ⟨hc, hi⟩)
  · simpa [hi] using h
set_option maxRecDepth 65536 in
theorem w_c0 : (Jvm.Cond.code x code maxLocals ret).before args0 about1 = true := code_word (m := ⟨1, 2⟩) (meth := k1m2) (c := k1c2) (by decide +kernel) rfl rfl rfl (by decide +kernel)
set_option maxRecDepth 65536 in
theorem w_c1 : (Jvm.Cond.code ({ cls := "com/example/echo_panel/echopanel/channel/ChannelStateLostPinLaw", name := "severityOf", desc := "(I)Lcom/example/echo_panel/echopanel/channel/Severity;" } : Jvm.MethodName) method_2_code (1 : Nat) (Option.some (Jvm.ClassFile.FieldType.object "com/example/echo_panel/echopanel/channel/Severity"))).before args0 about1 = true := code_word (m := ⟨1, 1⟩) (meth := k1m1) (c := k1c1) (by decide +kernel) rfl rfl rfl (by decide +kernel)
set_option maxRecDepth 65536 in
theorem w_c2 : (Jvm.Cond.code ({ cls := "java/lang/String", name := "<init>", desc := "([C)V" } : Jvm.MethodName) jdk_42_method_3_code (2 : Nat) (Option.none : Option Jvm.ClassFile.FieldType)).before args0 about1 = true := code_word (m := ⟨9, 1⟩) (meth := k9m1) (c := k9c1) (by decide +kernel) rfl rfl rfl (by decide +kernel)
set_option maxRecDepth 65536 in
theorem w_c3 : (Jvm.Cond.code ({ cls := "java/lang/String", name := "<init>", desc := "([CIILjava/lang/Void;)V" } : Jvm.MethodName) jdk_42_method_149_code (6 : Nat) (Option.none : Option Jvm.ClassFile.FieldType)).before args0 about1 = true := code_word (m := ⟨9, 4⟩) (meth := k9m4) (c := k9c4) (by decide +kernel) rfl rfl rfl (by decide +kernel)
set_option maxRecDepth 65536 in
theorem w_c4 : (Jvm.Cond.code ({ cls := "java/lang/Object", name := "<init>", desc := "()V" } : Jvm.MethodName) object_method_1_code (1 : Nat) (Option.none : Option Jvm.ClassFile.FieldType)).before args0 about1 = true := code_word (m := ⟨0, 0⟩) (meth := k0m0) (c := k0c0) (by decide +kernel) rfl rfl rfl (by decide +kernel)
set_option maxRecDepth 65536 in
theorem w_c5 : (Jvm.Cond.code ({ cls := "java/lang/StringUTF16", name := "compress", desc := "([CII)[B" } : Jvm.MethodName) jdk_52_method_16_code (6 : Nat) (Option.some (Jvm.ClassFile.FieldType.array Jvm.ClassFile.FieldType.byte))).before args0 about1 = true := code_word (m := ⟨10, 2⟩) (meth := k10m2) (c := k10c2) (by decide +kernel) rfl rfl rfl (by decide +kernel)
set_option maxRecDepth 65536 in
theorem w_c6 : (Jvm.Cond.code ({ cls := "java/lang/StringUTF16", name := "compress", desc := "([CI[BII)I" } : Jvm.MethodName) jdk_52_method_21_code (7 : Nat) (Option.some Jvm.ClassFile.FieldType.int)).before args0 about1 = true := code_word (m := ⟨10, 3⟩) (meth := k10m3) (c := k10c3) (by decide +kernel) rfl rfl rfl (by decide +kernel)
set_option maxRecDepth 65536 in
theorem w_c7 : (Jvm.Cond.code ({ cls := "java/lang/StringUTF16", name := "coderFromArrayLen", desc := "([BI)B" } : Jvm.MethodName) jdk_52_method_15_code (2 : Nat) (Option.some Jvm.ClassFile.FieldType.byte)).before args0 about1 = true := code_word (m := ⟨10, 1⟩) (meth := k10m1) (c := k10c1) (by decide +kernel) rfl rfl rfl (by decide +kernel)
set_option maxRecDepth 65536 in
theorem w_c8 : (Jvm.Cond.code ({ cls := "java/lang/String", name := "valueOf", desc := "(C)Ljava/lang/String;" } : Jvm.MethodName) jdk_42_method_139_code (1 : Nat) (Option.some (Jvm.ClassFile.FieldType.object "java/lang/String"))).before args0 about1 = true := code_word (m := ⟨9, 3⟩) (meth := k9m3) (c := k9c3) (by decide +kernel) rfl rfl rfl (by decide +kernel)
set_option maxRecDepth 65536 in
theorem w_c9 : (Jvm.Cond.code ({ cls := "java/lang/StringLatin1", name := "canEncode", desc := "(C)Z" } : Jvm.MethodName) jdk_43_method_3_code (1 : Nat) (Option.some Jvm.ClassFile.FieldType.boolean)).before args0 about1 = true := code_word (m := ⟨11, 1⟩) (meth := k11m1) (c := k11c1) (by decide +kernel) rfl rfl rfl (by decide +kernel)
set_option maxRecDepth 65536 in
theorem w_c10 : (Jvm.Cond.code ({ cls := "java/lang/StringLatin1", name := "toBytes", desc := "(C)[B" } : Jvm.MethodName) jdk_43_method_46_code (1 : Nat) (Option.some (Jvm.ClassFile.FieldType.array Jvm.ClassFile.FieldType.byte))).before args0 about1 = true := code_word (m := ⟨11, 2⟩) (meth := k11m2) (c := k11c2) (by decide +kernel) rfl rfl rfl (by decide +kernel)
set_option maxRecDepth 65536 in
theorem w_c11 : (Jvm.Cond.code ({ cls := "java/lang/String", name := "<init>", desc := "([BB)V" } : Jvm.MethodName) jdk_42_method_151_code (3 : Nat) (Option.none : Option Jvm.ClassFile.FieldType)).before args0 about1 = true := code_word (m := ⟨9, 5⟩) (meth := k9m5) (c := k9c5) (by decide +kernel) rfl rfl rfl (by decide +kernel)
set_option maxRecDepth 65536 in
theorem w_c12 : (Jvm.Cond.code ({ cls := "java/util/ArrayList", name := "<init>", desc := "()V" } : Jvm.MethodName) jdk_38_method_2_code (1 : Nat) (Option.none : Option Jvm.ClassFile.FieldType)).before args0 about1 = true := code_word (m := ⟨20, 0⟩) (meth := k20m0) (c := k20c0) (by decide +kernel) rfl rfl rfl (by decide +kernel)
set_option maxRecDepth 65536 in
theorem w_c13 : (Jvm.Cond.code ({ cls := "java/util/AbstractList", name := "<init>", desc := "()V" } : Jvm.MethodName) jdk_39_method_1_code (1 : Nat) (Option.none : Option Jvm.ClassFile.FieldType)).before args0 about1 = true := code_word (m := ⟨17, 0⟩) (meth := k17m0) (c := k17c0) (by decide +kernel) rfl rfl rfl (by decide +kernel)
set_option maxRecDepth 65536 in
theorem w_c14 : (Jvm.Cond.code ({ cls := "java/util/AbstractCollection", name := "<init>", desc := "()V" } : Jvm.MethodName) jdk_22_method_1_code (1 : Nat) (Option.none : Option Jvm.ClassFile.FieldType)).before args0 about1 = true := code_word (m := ⟨14, 0⟩) (meth := k14m0) (c := k14c0) (by decide +kernel) rfl rfl rfl (by decide +kernel)
set_option maxRecDepth 65536 in
theorem w_c15 : (Jvm.Cond.code ({ cls := "com/example/echo_panel/echopanel/channel/ChannelState", name := "<init>", desc := "(ZLcom/example/echo_panel/echopanel/channel/Severity;ILjava/util/List;Ljava/lang/Object;)V" } : Jvm.MethodName) prog_15_method_2_code (6 : Nat) (Option.none : Option Jvm.ClassFile.FieldType)).before args0 about1 = true := code_word (m := ⟨22, 1⟩) (meth := k22m1) (c := k22c1) (by decide +kernel) rfl rfl rfl (by decide +kernel)
set_option maxRecDepth 65536 in
theorem w_c16 : (Jvm.Cond.code ({ cls := "com/example/echo_panel/echopanel/channel/ChannelState", name := "<init>", desc := "(ZLcom/example/echo_panel/echopanel/channel/Severity;ILjava/util/List;Ljava/lang/Object;Lcom/example/echo_panel/echopanel/channel/DisplayLimits;)V" } : Jvm.MethodName) prog_15_method_1_code (7 : Nat) (Option.none : Option Jvm.ClassFile.FieldType)).before args0 about1 = true := code_word (m := ⟨22, 0⟩) (meth := k22m0) (c := k22c0) (by decide +kernel) rfl rfl rfl (by decide +kernel)
set_option maxRecDepth 65536 in
theorem w_c17 : (Jvm.Cond.code ({ cls := "java/lang/Record", name := "<init>", desc := "()V" } : Jvm.MethodName) jdk_30_method_1_code (1 : Nat) (Option.none : Option Jvm.ClassFile.FieldType)).before args0 about1 = true := code_word (m := ⟨21, 0⟩) (meth := k21m0) (c := k21c0) (by decide +kernel) rfl rfl rfl (by decide +kernel)
set_option maxRecDepth 65536 in
theorem w_c18 : (Jvm.Cond.code ({ cls := "java/util/List", name := "copyOf", desc := "(Ljava/util/Collection;)Ljava/util/List;" } : Jvm.MethodName) jdk_40_method_48_code (1 : Nat) (Option.some (Jvm.ClassFile.FieldType.object "java/util/List"))).before args0 about1 = true := code_word (m := ⟨16, 4⟩) (meth := k16m4) (c := k16c4) (by decide +kernel) rfl rfl rfl (by decide +kernel)
set_option maxRecDepth 65536 in
theorem w_c19 : (Jvm.Cond.code ({ cls := "java/util/ImmutableCollections", name := "listCopy", desc := "(Ljava/util/Collection;)Ljava/util/List;" } : Jvm.MethodName) jdk_56_method_3_code (2 : Nat) (Option.some (Jvm.ClassFile.FieldType.object "java/util/List"))).before args0 about1 = true := code_word (m := ⟨23, 1⟩) (meth := k23m1) (c := k23c1) (by decide +kernel) rfl rfl rfl (by decide +kernel)
set_option maxRecDepth 65536 in
theorem w_c20 : (Jvm.Cond.code ({ cls := "java/util/ArrayList", name := "isEmpty", desc := "()Z" } : Jvm.MethodName) jdk_38_method_9_code (1 : Nat) (Option.some Jvm.ClassFile.FieldType.boolean)).before args0 about1 = true := code_word (m := ⟨20, 3⟩) (meth := k20m3) (c := k20c3) (by decide +kernel) rfl rfl rfl (by decide +kernel)
set_option maxRecDepth 65536 in
theorem w_c21 : (Jvm.Cond.code ({ cls := "java/util/List", name := "of", desc := "()Ljava/util/List;" } : Jvm.MethodName) jdk_40_method_36_code (0 : Nat) (Option.some (Jvm.ClassFile.FieldType.object "java/util/List"))).before args0 about1 = true := code_word (m := ⟨16, 2⟩) (meth := k16m2) (c := k16c2) (by decide +kernel) rfl rfl rfl (by decide +kernel)
set_option maxRecDepth 65536 in
theorem w_c22 : (Jvm.Cond.code ({ cls := "com/example/echo_panel/echopanel/channel/ChannelState", name := "lost", desc := "()Lcom/example/echo_panel/echopanel/channel/ChannelState;" } : Jvm.MethodName) prog_15_method_4_code (1 : Nat) (Option.some (Jvm.ClassFile.FieldType.object "com/example/echo_panel/echopanel/channel/ChannelState"))).before args0 about1 = true := code_word (m := ⟨22, 2⟩) (meth := k22m2) (c := k22c2) (by decide +kernel) rfl rfl rfl (by decide +kernel)
set_option maxRecDepth 65536 in
theorem w_c23 : (Jvm.Cond.code ({ cls := "com/example/echo_panel/echopanel/channel/ChannelState", name := "connected", desc := "()Z" } : Jvm.MethodName) prog_15_method_8_code (1 : Nat) (Option.some Jvm.ClassFile.FieldType.boolean)).before args0 about1 = true := code_word (m := ⟨22, 3⟩) (meth := k22m3) (c := k22c3) (by decide +kernel) rfl rfl rfl (by decide +kernel)
set_option maxRecDepth 65536 in
theorem w_c24 : (Jvm.Cond.code ({ cls := "com/example/echo_panel/echopanel/channel/ChannelState", name := "severity", desc := "()Lcom/example/echo_panel/echopanel/channel/Severity;" } : Jvm.MethodName) prog_15_method_9_code (1 : Nat) (Option.some (Jvm.ClassFile.FieldType.object "com/example/echo_panel/echopanel/channel/Severity"))).before args0 about1 = true := code_word (m := ⟨22, 4⟩) (meth := k22m4) (c := k22c4) (by decide +kernel) rfl rfl rfl (by decide +kernel)
set_option maxRecDepth 65536 in
theorem w_c25 : (Jvm.Cond.code ({ cls := "com/example/echo_panel/echopanel/channel/ChannelState", name := "precision", desc := "()I" } : Jvm.MethodName) prog_15_method_10_code (1 : Nat) (Option.some Jvm.ClassFile.FieldType.int)).before args0 about1 = true := code_word (m := ⟨22, 5⟩) (meth := k22m5) (c := k22c5) (by decide +kernel) rfl rfl rfl (by decide +kernel)
set_option maxRecDepth 65536 in
theorem w_c26 : (Jvm.Cond.code ({ cls := "com/example/echo_panel/echopanel/channel/ChannelState", name := "value", desc := "()Ljava/lang/Object;" } : Jvm.MethodName) prog_15_method_12_code (1 : Nat) (Option.some (Jvm.ClassFile.FieldType.object "java/lang/Object"))).before args0 about1 = true := code_word (m := ⟨22, 7⟩) (meth := k22m7) (c := k22c7) (by decide +kernel) rfl rfl rfl (by decide +kernel)
set_option maxRecDepth 65536 in
theorem w_c27 : (Jvm.Cond.code ({ cls := "com/example/echo_panel/echopanel/channel/ChannelState", name := "labels", desc := "()Ljava/util/List;" } : Jvm.MethodName) prog_15_method_11_code (1 : Nat) (Option.some (Jvm.ClassFile.FieldType.object "java/util/List"))).before args0 about1 = true := code_word (m := ⟨22, 6⟩) (meth := k22m6) (c := k22c6) (by decide +kernel) rfl rfl rfl (by decide +kernel)
set_option maxRecDepth 65536 in
theorem w_c28 : (Jvm.Cond.code ({ cls := "java/util/ImmutableCollections$ListN", name := "size", desc := "()I" } : Jvm.MethodName) jdk_45_method_3_code (1 : Nat) (Option.some Jvm.ClassFile.FieldType.int)).before args0 about1 = true := code_word (m := ⟨27, 0⟩) (meth := k27m0) (c := k27c0) (by decide +kernel) rfl rfl rfl (by decide +kernel)
set_option maxRecDepth 65536 in
theorem w_c29 : (Jvm.Cond.code ({ cls := "com/example/echo_panel/echopanel/channel/ChannelState", name := "limits", desc := "()Lcom/example/echo_panel/echopanel/channel/DisplayLimits;" } : Jvm.MethodName) prog_15_method_13_code (1 : Nat) (Option.some (Jvm.ClassFile.FieldType.object "com/example/echo_panel/echopanel/channel/DisplayLimits"))).before args0 about1 = true := code_word (m := ⟨22, 8⟩) (meth := k22m8) (c := k22c8) (by decide +kernel) rfl rfl rfl (by decide +kernel)
set_option maxRecDepth 65536 in
theorem w_c30 : (Jvm.Cond.code ({ cls := "java/util/ArrayList", name := "add", desc := "(Ljava/lang/Object;)Z" } : Jvm.MethodName) jdk_38_method_25_code (2 : Nat) (Option.some Jvm.ClassFile.FieldType.boolean)).before args0 about1 = true := code_word (m := ⟨20, 6⟩) (meth := k20m6) (c := k20c6) (by decide +kernel) rfl rfl rfl (by decide +kernel)
set_option maxRecDepth 65536 in
theorem w_c31 : (Jvm.Cond.code ({ cls := "java/util/ArrayList", name := "add", desc := "(Ljava/lang/Object;[Ljava/lang/Object;I)V" } : Jvm.MethodName) jdk_38_method_24_code (4 : Nat) (Option.none : Option Jvm.ClassFile.FieldType)).before args0 about1 = true := code_word (m := ⟨20, 5⟩) (meth := k20m5) (c := k20c5) (by decide +kernel) rfl rfl rfl (by decide +kernel)
set_option maxRecDepth 65536 in
theorem w_c32 : (Jvm.Cond.code ({ cls := "java/util/ArrayList", name := "grow", desc := "()[Ljava/lang/Object;" } : Jvm.MethodName) jdk_38_method_7_code (1 : Nat) (Option.some (Jvm.ClassFile.FieldType.array (Jvm.ClassFile.FieldType.object "java/lang/Object")))).before args0 about1 = true := code_word (m := ⟨20, 2⟩) (meth := k20m2) (c := k20c2) (by decide +kernel) rfl rfl rfl (by decide +kernel)
set_option maxRecDepth 65536 in
theorem w_c33 : (Jvm.Cond.code ({ cls := "java/util/ArrayList", name := "grow", desc := "(I)[Ljava/lang/Object;" } : Jvm.MethodName) jdk_38_method_6_code (4 : Nat) (Option.some (Jvm.ClassFile.FieldType.array (Jvm.ClassFile.FieldType.object "java/lang/Object")))).before args0 about1 = true := code_word (m := ⟨20, 1⟩) (meth := k20m1) (c := k20c1) (by decide +kernel) rfl rfl rfl (by decide +kernel)
set_option maxRecDepth 65536 in
theorem w_c34 : (Jvm.Cond.code ({ cls := "java/lang/Math", name := "max", desc := "(II)I" } : Jvm.MethodName) jdk_29_method_65_code (2 : Nat) (Option.some Jvm.ClassFile.FieldType.int)).before args0 about1 = true := code_word (m := ⟨28, 1⟩) (meth := k28m1) (c := k28c1) (by decide +kernel) rfl rfl rfl (by decide +kernel)
set_option maxRecDepth 65536 in
theorem w_c35 : (Jvm.Cond.code ({ cls := "java/lang/Integer", name := "valueOf", desc := "(I)Ljava/lang/Integer;" } : Jvm.MethodName) jdk_33_method_22_code (1 : Nat) (Option.some (Jvm.ClassFile.FieldType.object "java/lang/Integer"))).before args0 about1 = true := code_word (m := ⟨30, 0⟩) (meth := k30m0) (c := k30c0) (by decide +kernel) rfl rfl rfl (by decide +kernel)
set_option maxRecDepth 65536 in
theorem w_c36 : (Jvm.Cond.code ({ cls := "java/util/ArrayList", name := "toArray", desc := "()[Ljava/lang/Object;" } : Jvm.MethodName) jdk_38_method_16_code (1 : Nat) (Option.some (Jvm.ClassFile.FieldType.array (Jvm.ClassFile.FieldType.object "java/lang/Object")))).before args0 about1 = true := code_word (m := ⟨20, 4⟩) (meth := k20m4) (c := k20c4) (by decide +kernel) rfl rfl rfl (by decide +kernel)
set_option maxRecDepth 65536 in
theorem w_c37 : (Jvm.Cond.code ({ cls := "java/util/Arrays", name := "copyOf", desc := "([Ljava/lang/Object;I)[Ljava/lang/Object;" } : Jvm.MethodName) jdk_65_method_119_code (2 : Nat) (Option.some (Jvm.ClassFile.FieldType.array (Jvm.ClassFile.FieldType.object "java/lang/Object")))).before args0 about1 = true := code_word (m := ⟨32, 1⟩) (meth := k32m1) (c := k32c1) (by decide +kernel) rfl rfl rfl (by decide +kernel)
set_option maxRecDepth 65536 in
theorem w_c38 : (Jvm.Cond.code ({ cls := "java/util/Arrays", name := "copyOf", desc := "([Ljava/lang/Object;ILjava/lang/Class;)[Ljava/lang/Object;" } : Jvm.MethodName) jdk_65_method_120_code (4 : Nat) (Option.some (Jvm.ClassFile.FieldType.array (Jvm.ClassFile.FieldType.object "java/lang/Object")))).before args0 about1 = true := code_word (m := ⟨32, 2⟩) (meth := k32m2) (c := k32c2) (by decide +kernel) rfl rfl rfl (by decide +kernel)
set_option maxRecDepth 65536 in
theorem w_c39 : (Jvm.Cond.code ({ cls := "java/lang/Math", name := "min", desc := "(II)I" } : Jvm.MethodName) jdk_29_method_69_code (2 : Nat) (Option.some Jvm.ClassFile.FieldType.int)).before args0 about1 = true := code_word (m := ⟨28, 2⟩) (meth := k28m2) (c := k28c2) (by decide +kernel) rfl rfl rfl (by decide +kernel)
set_option maxRecDepth 65536 in
theorem w_c40 : (Jvm.Cond.code ({ cls := "java/util/List", name := "of", desc := "([Ljava/lang/Object;)Ljava/util/List;" } : Jvm.MethodName) jdk_40_method_47_code (2 : Nat) (Option.some (Jvm.ClassFile.FieldType.object "java/util/List"))).before args0 about1 = true := code_word (m := ⟨16, 3⟩) (meth := k16m3) (c := k16c3) (by decide +kernel) rfl rfl rfl (by decide +kernel)
set_option maxRecDepth 65536 in
theorem w_c41 : (Jvm.Cond.code ({ cls := "java/util/ImmutableCollections$List12", name := "<init>", desc := "(Ljava/lang/Object;)V" } : Jvm.MethodName) jdk_44_method_1_code (2 : Nat) (Option.none : Option Jvm.ClassFile.FieldType)).before args0 about1 = true := code_word (m := ⟨26, 0⟩) (meth := k26m0) (c := k26c0) (by decide +kernel) rfl rfl rfl (by decide +kernel)
set_option maxRecDepth 65536 in
theorem w_c42 : (Jvm.Cond.code ({ cls := "java/util/ImmutableCollections$AbstractImmutableList", name := "<init>", desc := "()V" } : Jvm.MethodName) jdk_46_method_1_code (1 : Nat) (Option.none : Option Jvm.ClassFile.FieldType)).before args0 about1 = true := code_word (m := ⟨25, 0⟩) (meth := k25m0) (c := k25c0) (by decide +kernel) rfl rfl rfl (by decide +kernel)
set_option maxRecDepth 65536 in
theorem w_c43 : (Jvm.Cond.code ({ cls := "java/util/ImmutableCollections$AbstractImmutableCollection", name := "<init>", desc := "()V" } : Jvm.MethodName) jdk_47_method_1_code (1 : Nat) (Option.none : Option Jvm.ClassFile.FieldType)).before args0 about1 = true := code_word (m := ⟨24, 0⟩) (meth := k24m0) (c := k24c0) (by decide +kernel) rfl rfl rfl (by decide +kernel)
set_option maxRecDepth 65536 in
theorem w_c44 : (Jvm.Cond.code ({ cls := "java/util/Objects", name := "requireNonNull", desc := "(Ljava/lang/Object;)Ljava/lang/Object;" } : Jvm.MethodName) jdk_31_method_10_code (1 : Nat) (Option.some (Jvm.ClassFile.FieldType.object "java/lang/Object"))).before args0 about1 = true := code_word (m := ⟨34, 1⟩) (meth := k34m1) (c := k34c1) (by decide +kernel) rfl rfl rfl (by decide +kernel)
set_option maxRecDepth 65536 in
theorem w_c45 : (Jvm.Cond.code ({ cls := "java/util/ImmutableCollections$List12", name := "size", desc := "()I" } : Jvm.MethodName) jdk_44_method_3_code (1 : Nat) (Option.some Jvm.ClassFile.FieldType.int)).before args0 about1 = true := code_word (m := ⟨26, 2⟩) (meth := k26m2) (c := k26c2) (by decide +kernel) rfl rfl rfl (by decide +kernel)
set_option maxRecDepth 65536 in
theorem w_c46 : (Jvm.Cond.code ({ cls := "java/util/ImmutableCollections$List12", name := "get", desc := "(I)Ljava/lang/Object;" } : Jvm.MethodName) jdk_44_method_5_code (2 : Nat) (Option.some (Jvm.ClassFile.FieldType.object "java/lang/Object"))).before args0 about1 = true := code_word (m := ⟨26, 3⟩) (meth := k26m3) (c := k26c3) (by decide +kernel) rfl rfl rfl (by decide +kernel)
set_option maxRecDepth 65536 in
theorem w_c47 : (Jvm.Cond.code ({ cls := "java/lang/String", name := "equals", desc := "(Ljava/lang/Object;)Z" } : Jvm.MethodName) jdk_42_method_66_code (3 : Nat) (Option.some Jvm.ClassFile.FieldType.boolean)).before args0 about1 = true := code_word (m := ⟨9, 2⟩) (meth := k9m2) (c := k9c2) (by decide +kernel) rfl rfl rfl (by decide +kernel)
set_option maxRecDepth 65536 in
theorem w_c48 : (Jvm.Cond.code ({ cls := "com/example/echo_panel/echopanel/channel/DisplayLimits", name := "<init>", desc := "(DD)V" } : Jvm.MethodName) prog_18_method_1_code (5 : Nat) (Option.none : Option Jvm.ClassFile.FieldType)).before args0 about1 = true := code_word (m := ⟨35, 0⟩) (meth := k35m0) (c := k35c0) (by decide +kernel) rfl rfl rfl (by decide +kernel)
set_option maxRecDepth 65536 in
theorem w_c49 : (Jvm.Cond.code ({ cls := "java/util/ImmutableCollections$List12", name := "<init>", desc := "(Ljava/lang/Object;Ljava/lang/Object;)V" } : Jvm.MethodName) jdk_44_method_2_code (3 : Nat) (Option.none : Option Jvm.ClassFile.FieldType)).before args0 about1 = true := code_word (m := ⟨26, 1⟩) (meth := k26m1) (c := k26c1) (by decide +kernel) rfl rfl rfl (by decide +kernel)
set_option maxRecDepth 65536 in
theorem w_c50 : (Jvm.Cond.code ({ cls := "com/example/echo_panel/echopanel/channel/DisplayLimits", name := "lower", desc := "()D" } : Jvm.MethodName) prog_18_method_5_code (1 : Nat) (Option.some Jvm.ClassFile.FieldType.double)).before args0 about1 = true := code_word (m := ⟨35, 1⟩) (meth := k35m1) (c := k35c1) (by decide +kernel) rfl rfl rfl (by decide +kernel)
set_option maxRecDepth 65536 in
theorem w_c51 : (Jvm.Cond.code ({ cls := "com/example/echo_panel/echopanel/channel/DisplayLimits", name := "upper", desc := "()D" } : Jvm.MethodName) prog_18_method_6_code (1 : Nat) (Option.some Jvm.ClassFile.FieldType.double)).before args0 about1 = true := code_word (m := ⟨35, 2⟩) (meth := k35m2) (c := k35c2) (by decide +kernel) rfl rfl rfl (by decide +kernel)
set_option maxRecDepth 65536 in
theorem w_c52 : (Jvm.Cond.code ({ cls := "java/lang/Integer", name := "<init>", desc := "(I)V" } : Jvm.MethodName) jdk_33_method_23_code (2 : Nat) (Option.none : Option Jvm.ClassFile.FieldType)).before args0 about1 = true := code_word (m := ⟨30, 1⟩) (meth := k30m1) (c := k30c1) (by decide +kernel) rfl rfl rfl (by decide +kernel)
set_option maxRecDepth 65536 in
theorem w_c53 : (Jvm.Cond.code ({ cls := "java/lang/Number", name := "<init>", desc := "()V" } : Jvm.MethodName) jdk_18_method_1_code (1 : Nat) (Option.none : Option Jvm.ClassFile.FieldType)).before args0 about1 = true := code_word (m := ⟨29, 0⟩) (meth := k29m0) (c := k29c0) (by decide +kernel) rfl rfl rfl (by decide +kernel)
def codes1 : List Jvm.Cond := [Jvm.Cond.code x code maxLocals ret, Jvm.Cond.code ({ cls := "com/example/echo_panel/echopanel/channel/ChannelStateLostPinLaw", name := "severityOf", desc := "(I)Lcom/example/echo_panel/echopanel/channel/Severity;" } : Jvm.MethodName) method_2_code (1 : Nat) (Option.some (Jvm.ClassFile.FieldType.object "com/example/echo_panel/echopanel/channel/Severity")), Jvm.Cond.code ({ cls := "java/lang/String", name := "<init>", desc := "([C)V" } : Jvm.MethodName) jdk_42_method_3_code (2 : Nat) (Option.none : Option Jvm.ClassFile.FieldType), Jvm.Cond.code ({ cls := "java/lang/String", name := "<init>", desc := "([CIILjava/lang/Void;)V" } : Jvm.MethodName) jdk_42_method_149_code (6 : Nat) (Option.none : Option Jvm.ClassFile.FieldType), Jvm.Cond.code ({ cls := "java/lang/Object", name := "<init>", desc := "()V" } : Jvm.MethodName) object_method_1_code (1 : Nat) (Option.none : Option Jvm.ClassFile.FieldType), Jvm.Cond.code ({ cls := "java/lang/StringUTF16", name := "compress", desc := "([CII)[B" } : Jvm.MethodName) jdk_52_method_16_code (6 : Nat) (Option.some (Jvm.ClassFile.FieldType.array Jvm.ClassFile.FieldType.byte)), Jvm.Cond.code ({ cls := "java/lang/StringUTF16", name := "compress", desc := "([CI[BII)I" } : Jvm.MethodName) jdk_52_method_21_code (7 : Nat) (Option.some Jvm.ClassFile.FieldType.int), Jvm.Cond.code ({ cls := "java/lang/StringUTF16", name := "coderFromArrayLen", desc := "([BI)B" } : Jvm.MethodName) jdk_52_method_15_code (2 : Nat) (Option.some Jvm.ClassFile.FieldType.byte), Jvm.Cond.code ({ cls := "java/lang/String", name := "valueOf", desc := "(C)Ljava/lang/String;" } : Jvm.MethodName) jdk_42_method_139_code (1 : Nat) (Option.some (Jvm.ClassFile.FieldType.object "java/lang/String")), Jvm.Cond.code ({ cls := "java/lang/StringLatin1", name := "canEncode", desc := "(C)Z" } : Jvm.MethodName) jdk_43_method_3_code (1 : Nat) (Option.some Jvm.ClassFile.FieldType.boolean), Jvm.Cond.code ({ cls := "java/lang/StringLatin1", name := "toBytes", desc := "(C)[B" } : Jvm.MethodName) jdk_43_method_46_code (1 : Nat) (Option.some (Jvm.ClassFile.FieldType.array Jvm.ClassFile.FieldType.byte)), Jvm.Cond.code ({ cls := "java/lang/String", name := "<init>", desc := "([BB)V" } : Jvm.MethodName) jdk_42_method_151_code (3 : Nat) (Option.none : Option Jvm.ClassFile.FieldType), Jvm.Cond.code ({ cls := "java/util/ArrayList", name := "<init>", desc := "()V" } : Jvm.MethodName) jdk_38_method_2_code (1 : Nat) (Option.none : Option Jvm.ClassFile.FieldType), Jvm.Cond.code ({ cls := "java/util/AbstractList", name := "<init>", desc := "()V" } : Jvm.MethodName) jdk_39_method_1_code (1 : Nat) (Option.none : Option Jvm.ClassFile.FieldType), Jvm.Cond.code ({ cls := "java/util/AbstractCollection", name := "<init>", desc := "()V" } : Jvm.MethodName) jdk_22_method_1_code (1 : Nat) (Option.none : Option Jvm.ClassFile.FieldType), Jvm.Cond.code ({ cls := "com/example/echo_panel/echopanel/channel/ChannelState", name := "<init>", desc := "(ZLcom/example/echo_panel/echopanel/channel/Severity;ILjava/util/List;Ljava/lang/Object;)V" } : Jvm.MethodName) prog_15_method_2_code (6 : Nat) (Option.none : Option Jvm.ClassFile.FieldType), Jvm.Cond.code ({ cls := "com/example/echo_panel/echopanel/channel/ChannelState", name := "<init>", desc := "(ZLcom/example/echo_panel/echopanel/channel/Severity;ILjava/util/List;Ljava/lang/Object;Lcom/example/echo_panel/echopanel/channel/DisplayLimits;)V" } : Jvm.MethodName) prog_15_method_1_code (7 : Nat) (Option.none : Option Jvm.ClassFile.FieldType), Jvm.Cond.code ({ cls := "java/lang/Record", name := "<init>", desc := "()V" } : Jvm.MethodName) jdk_30_method_1_code (1 : Nat) (Option.none : Option Jvm.ClassFile.FieldType), Jvm.Cond.code ({ cls := "java/util/List", name := "copyOf", desc := "(Ljava/util/Collection;)Ljava/util/List;" } : Jvm.MethodName) jdk_40_method_48_code (1 : Nat) (Option.some (Jvm.ClassFile.FieldType.object "java/util/List")), Jvm.Cond.code ({ cls := "java/util/ImmutableCollections", name := "listCopy", desc := "(Ljava/util/Collection;)Ljava/util/List;" } : Jvm.MethodName) jdk_56_method_3_code (2 : Nat) (Option.some (Jvm.ClassFile.FieldType.object "java/util/List")), Jvm.Cond.code ({ cls := "java/util/ArrayList", name := "isEmpty", desc := "()Z" } : Jvm.MethodName) jdk_38_method_9_code (1 : Nat) (Option.some Jvm.ClassFile.FieldType.boolean), Jvm.Cond.code ({ cls := "java/util/List", name := "of", desc := "()Ljava/util/List;" } : Jvm.MethodName) jdk_40_method_36_code (0 : Nat) (Option.some (Jvm.ClassFile.FieldType.object "java/util/List")), Jvm.Cond.code ({ cls := "com/example/echo_panel/echopanel/channel/ChannelState", name := "lost", desc := "()Lcom/example/echo_panel/echopanel/channel/ChannelState;" } : Jvm.MethodName) prog_15_method_4_code (1 : Nat) (Option.some (Jvm.ClassFile.FieldType.object "com/example/echo_panel/echopanel/channel/ChannelState")), Jvm.Cond.code ({ cls := "com/example/echo_panel/echopanel/channel/ChannelState", name := "connected", desc := "()Z" } : Jvm.MethodName) prog_15_method_8_code (1 : Nat) (Option.some Jvm.ClassFile.FieldType.boolean), Jvm.Cond.code ({ cls := "com/example/echo_panel/echopanel/channel/ChannelState", name := "severity", desc := "()Lcom/example/echo_panel/echopanel/channel/Severity;" } : Jvm.MethodName) prog_15_method_9_code (1 : Nat) (Option.some (Jvm.ClassFile.FieldType.object "com/example/echo_panel/echopanel/channel/Severity")), Jvm.Cond.code ({ cls := "com/example/echo_panel/echopanel/channel/ChannelState", name := "precision", desc := "()I" } : Jvm.MethodName) prog_15_method_10_code (1 : Nat) (Option.some Jvm.ClassFile.FieldType.int), Jvm.Cond.code ({ cls := "com/example/echo_panel/echopanel/channel/ChannelState", name := "value", desc := "()Ljava/lang/Object;" } : Jvm.MethodName) prog_15_method_12_code (1 : Nat) (Option.some (Jvm.ClassFile.FieldType.object "java/lang/Object")), Jvm.Cond.code ({ cls := "com/example/echo_panel/echopanel/channel/ChannelState", name := "labels", desc := "()Ljava/util/List;" } : Jvm.MethodName) prog_15_method_11_code (1 : Nat) (Option.some (Jvm.ClassFile.FieldType.object "java/util/List")), Jvm.Cond.code ({ cls := "java/util/ImmutableCollections$ListN", name := "size", desc := "()I" } : Jvm.MethodName) jdk_45_method_3_code (1 : Nat) (Option.some Jvm.ClassFile.FieldType.int), Jvm.Cond.code ({ cls := "com/example/echo_panel/echopanel/channel/ChannelState", name := "limits", desc := "()Lcom/example/echo_panel/echopanel/channel/DisplayLimits;" } : Jvm.MethodName) prog_15_method_13_code (1 : Nat) (Option.some (Jvm.ClassFile.FieldType.object "com/example/echo_panel/echopanel/channel/DisplayLimits")), Jvm.Cond.code ({ cls := "java/util/ArrayList", name := "add", desc := "(Ljava/lang/Object;)Z" } : Jvm.MethodName) jdk_38_method_25_code (2 : Nat) (Option.some Jvm.ClassFile.FieldType.boolean), Jvm.Cond.code ({ cls := "java/util/ArrayList", name := "add", desc := "(Ljava/lang/Object;[Ljava/lang/Object;I)V" } : Jvm.MethodName) jdk_38_method_24_code (4 : Nat) (Option.none : Option Jvm.ClassFile.FieldType), Jvm.Cond.code ({ cls := "java/util/ArrayList", name := "grow", desc := "()[Ljava/lang/Object;" } : Jvm.MethodName) jdk_38_method_7_code (1 : Nat) (Option.some (Jvm.ClassFile.FieldType.array (Jvm.ClassFile.FieldType.object "java/lang/Object"))), Jvm.Cond.code ({ cls := "java/util/ArrayList", name := "grow", desc := "(I)[Ljava/lang/Object;" } : Jvm.MethodName) jdk_38_method_6_code (4 : Nat) (Option.some (Jvm.ClassFile.FieldType.array (Jvm.ClassFile.FieldType.object "java/lang/Object"))), Jvm.Cond.code ({ cls := "java/lang/Math", name := "max", desc := "(II)I" } : Jvm.MethodName) jdk_29_method_65_code (2 : Nat) (Option.some Jvm.ClassFile.FieldType.int), Jvm.Cond.code ({ cls := "java/lang/Integer", name := "valueOf", desc := "(I)Ljava/lang/Integer;" } : Jvm.MethodName) jdk_33_method_22_code (1 : Nat) (Option.some (Jvm.ClassFile.FieldType.object "java/lang/Integer")), Jvm.Cond.code ({ cls := "java/util/ArrayList", name := "toArray", desc := "()[Ljava/lang/Object;" } : Jvm.MethodName) jdk_38_method_16_code (1 : Nat) (Option.some (Jvm.ClassFile.FieldType.array (Jvm.ClassFile.FieldType.object "java/lang/Object"))), Jvm.Cond.code ({ cls := "java/util/Arrays", name := "copyOf", desc := "([Ljava/lang/Object;I)[Ljava/lang/Object;" } : Jvm.MethodName) jdk_65_method_119_code (2 : Nat) (Option.some (Jvm.ClassFile.FieldType.array (Jvm.ClassFile.FieldType.object "java/lang/Object"))), Jvm.Cond.code ({ cls := "java/util/Arrays", name := "copyOf", desc := "([Ljava/lang/Object;ILjava/lang/Class;)[Ljava/lang/Object;" } : Jvm.MethodName) jdk_65_method_120_code (4 : Nat) (Option.some (Jvm.ClassFile.FieldType.array (Jvm.ClassFile.FieldType.object "java/lang/Object"))), Jvm.Cond.code ({ cls := "java/lang/Math", name := "min", desc := "(II)I" } : Jvm.MethodName) jdk_29_method_69_code (2 : Nat) (Option.some Jvm.ClassFile.FieldType.int), Jvm.Cond.code ({ cls := "java/util/List", name := "of", desc := "([Ljava/lang/Object;)Ljava/util/List;" } : Jvm.MethodName) jdk_40_method_47_code (2 : Nat) (Option.some (Jvm.ClassFile.FieldType.object "java/util/List")), Jvm.Cond.code ({ cls := "java/util/ImmutableCollections$List12", name := "<init>", desc := "(Ljava/lang/Object;)V" } : Jvm.MethodName) jdk_44_method_1_code (2 : Nat) (Option.none : Option Jvm.ClassFile.FieldType), Jvm.Cond.code ({ cls := "java/util/ImmutableCollections$AbstractImmutableList", name := "<init>", desc := "()V" } : Jvm.MethodName) jdk_46_method_1_code (1 : Nat) (Option.none : Option Jvm.ClassFile.FieldType), Jvm.Cond.code ({ cls := "java/util/ImmutableCollections$AbstractImmutableCollection", name := "<init>", desc := "()V" } : Jvm.MethodName) jdk_47_method_1_code (1 : Nat) (Option.none : Option Jvm.ClassFile.FieldType), Jvm.Cond.code ({ cls := "java/util/Objects", name := "requireNonNull", desc := "(Ljava/lang/Object;)Ljava/lang/Object;" } : Jvm.MethodName) jdk_31_method_10_code (1 : Nat) (Option.some (Jvm.ClassFile.FieldType.object "java/lang/Object")), Jvm.Cond.code ({ cls := "java/util/ImmutableCollections$List12", name := "size", desc := "()I" } : Jvm.MethodName) jdk_44_method_3_code (1 : Nat) (Option.some Jvm.ClassFile.FieldType.int), Jvm.Cond.code ({ cls := "java/util/ImmutableCollections$List12", name := "get", desc := "(I)Ljava/lang/Object;" } : Jvm.MethodName) jdk_44_method_5_code (2 : Nat) (Option.some (Jvm.ClassFile.FieldType.object "java/lang/Object")), Jvm.Cond.code ({ cls := "java/lang/String", name := "equals", desc := "(Ljava/lang/Object;)Z" } : Jvm.MethodName) jdk_42_method_66_code (3 : Nat) (Option.some Jvm.ClassFile.FieldType.boolean), Jvm.Cond.code ({ cls := "com/example/echo_panel/echopanel/channel/DisplayLimits", name := "<init>", desc := "(DD)V" } : Jvm.MethodName) prog_18_method_1_code (5 : Nat) (Option.none : Option Jvm.ClassFile.FieldType), Jvm.Cond.code ({ cls := "java/util/ImmutableCollections$List12", name := "<init>", desc := "(Ljava/lang/Object;Ljava/lang/Object;)V" } : Jvm.MethodName) jdk_44_method_2_code (3 : Nat) (Option.none : Option Jvm.ClassFile.FieldType), Jvm.Cond.code ({ cls := "com/example/echo_panel/echopanel/channel/DisplayLimits", name := "lower", desc := "()D" } : Jvm.MethodName) prog_18_method_5_code (1 : Nat) (Option.some Jvm.ClassFile.FieldType.double), Jvm.Cond.code ({ cls := "com/example/echo_panel/echopanel/channel/DisplayLimits", name := "upper", desc := "()D" } : Jvm.MethodName) prog_18_method_6_code (1 : Nat) (Option.some Jvm.ClassFile.FieldType.double), Jvm.Cond.code ({ cls := "java/lang/Integer", name := "<init>", desc := "(I)V" } : Jvm.MethodName) jdk_33_method_23_code (2 : Nat) (Option.none : Option Jvm.ClassFile.FieldType), Jvm.Cond.code ({ cls := "java/lang/Number", name := "<init>", desc := "()V" } : Jvm.MethodName) jdk_18_method_1_code (1 : Nat) (Option.none : Option Jvm.ClassFile.FieldType)]
set_option maxRecDepth 65536 in
theorem codes_eq : words1.filter isCode = codes1 := rfl
theorem w_codes : ∀ c ∈ words1.filter isCode, c.before args0 about1 = true := by
  rw [codes_eq]
  intro c hc
  simp only [codes1, List.mem_cons, List.not_mem_nil, or_false] at hc
  rcases hc with rfl | rfl | rfl | rfl | rfl | rfl | rfl | rfl | rfl | rfl | rfl | rfl | rfl | rfl | rfl | rfl | rfl | rfl | rfl | rfl | rfl | rfl | rfl | rfl | rfl | rfl | rfl | rfl | rfl | rfl | rfl | rfl | rfl | rfl | rfl | rfl | rfl | rfl | rfl | rfl | rfl | rfl | rfl | rfl | rfl | rfl | rfl | rfl | rfl | rfl | rfl | rfl | rfl | rfl
  · exact w_c0
  · exact w_c1
  · exact w_c2
  · exact w_c3
  · exact w_c4
  · exact w_c5
  · exact w_c6
  · exact w_c7
  · exact w_c8
  · exact w_c9
  · exact w_c10
  · exact w_c11
  · exact w_c12
  · exact w_c13
  · exact w_c14
  · exact w_c15
  · exact w_c16
  · exact w_c17
  · exact w_c18
  · exact w_c19
  · exact w_c20
  · exact w_c21
  · exact w_c22
  · exact w_c23
  · exact w_c24
  · exact w_c25
  · exact w_c26
  · exact w_c27
  · exact w_c28
  · exact w_c29
  · exact w_c30
  · exact w_c31
  · exact w_c32
  · exact w_c33
  · exact w_c34
  · exact w_c35
  · exact w_c36
  · exact w_c37
  · exact w_c38
  · exact w_c39
  · exact w_c40
  · exact w_c41
  · exact w_c42
  · exact w_c43
  · exact w_c44
  · exact w_c45
  · exact w_c46
  · exact w_c47
  · exact w_c48
  · exact w_c49
  · exact w_c50
  · exact w_c51
  · exact w_c52
  · exact w_c53
set_option maxRecDepth 65536 in
theorem w_t1 : (words1.take 24).all (fun c => isCode c || c.before args0 about1) = true := by decide +kernel
set_option maxRecDepth 65536 in
theorem w_t2 : ((words1.drop 24).take 24).all (fun c => isCode c || c.before args0 about1) = true := by decide +kernel
set_option maxRecDepth 65536 in
theorem w_t3 : (((words1.drop 24).drop 24).take 24).all (fun c => isCode c || c.before args0 about1) = true := by decide +kernel
set_option maxRecDepth 65536 in
theorem w_t4 : ((((words1.drop 24).drop 24).drop 24).take 24).all (fun c => isCode c || c.before args0 about1) = true := by decide +kernel
set_option maxRecDepth 65536 in
theorem w_t5 : (((((words1.drop 24).drop 24).drop 24).drop 24).take 24).all (fun c => isCode c || c.before args0 about1) = true := by decide +kernel
set_option maxRecDepth 65536 in
theorem w_t6 : ((((((words1.drop 24).drop 24).drop 24).drop 24).drop 24).take 24).all (fun c => isCode c || c.before args0 about1) = true := by decide +kernel
set_option maxRecDepth 65536 in
theorem w_t7 : (((((((words1.drop 24).drop 24).drop 24).drop 24).drop 24).drop 24).take 24).all (fun c => isCode c || c.before args0 about1) = true := by decide +kernel
set_option maxRecDepth 65536 in
theorem w_t8 : ((((((((words1.drop 24).drop 24).drop 24).drop 24).drop 24).drop 24).drop 24).take 24).all (fun c => isCode c || c.before args0 about1) = true := by decide +kernel
set_option maxRecDepth 65536 in
theorem w_t9 : (((((((((words1.drop 24).drop 24).drop 24).drop 24).drop 24).drop 24).drop 24).drop 24).take 24).all (fun c => isCode c || c.before args0 about1) = true := by decide +kernel
set_option maxRecDepth 65536 in
theorem w_t10 : ((((((((((words1.drop 24).drop 24).drop 24).drop 24).drop 24).drop 24).drop 24).drop 24).drop 24).take 24).all (fun c => isCode c || c.before args0 about1) = true := by decide +kernel
set_option maxRecDepth 65536 in
theorem w_t11 : (((((((((((words1.drop 24).drop 24).drop 24).drop 24).drop 24).drop 24).drop 24).drop 24).drop 24).drop 24).take 24).all (fun c => isCode c || c.before args0 about1) = true := by decide +kernel
set_option maxRecDepth 65536 in
theorem w_t12 : ((((((((((((words1.drop 24).drop 24).drop 24).drop 24).drop 24).drop 24).drop 24).drop 24).drop 24).drop 24).drop 24).take 24).all (fun c => isCode c || c.before args0 about1) = true := by decide +kernel
set_option maxRecDepth 65536 in
theorem w_t13 : (((((((((((((words1.drop 24).drop 24).drop 24).drop 24).drop 24).drop 24).drop 24).drop 24).drop 24).drop 24).drop 24).drop 24).take 24).all (fun c => isCode c || c.before args0 about1) = true := by decide +kernel
set_option maxRecDepth 65536 in
theorem w_t14 : ((((((((((((((words1.drop 24).drop 24).drop 24).drop 24).drop 24).drop 24).drop 24).drop 24).drop 24).drop 24).drop 24).drop 24).drop 24).take 24).all (fun c => isCode c || c.before args0 about1) = true := by decide +kernel
set_option maxRecDepth 65536 in
theorem w_t15 : ((((((((((((((words1.drop 24).drop 24).drop 24).drop 24).drop 24).drop 24).drop 24).drop 24).drop 24).drop 24).drop 24).drop 24).drop 24).drop 24).all (fun c => isCode c || c.before args0 about1) = true := by decide +kernel
theorem w_tables : (allAtoms (Jvm.Cond.code x code maxLocals ret :: tables_1)).before args0 about1 = true := by
  rw [allAtoms_all]
  show words1.all (fun c => c.before args0 about1) = true
  refine all_split ?_ w_codes
  rw [← List.take_append_drop 24 words1, List.all_append, w_t1, ← List.take_append_drop 24 (words1.drop 24), List.all_append, w_t2, ← List.take_append_drop 24 ((words1.drop 24).drop 24), List.all_append, w_t3, ← List.take_append_drop 24 (((words1.drop 24).drop 24).drop 24), List.all_append, w_t4, ← List.take_append_drop 24 ((((words1.drop 24).drop 24).drop 24).drop 24), List.all_append, w_t5, ← List.take_append_drop 24 (((((words1.drop 24).drop 24).drop 24).drop 24).drop 24), List.all_append, w_t6, ← List.take_append_drop 24 ((((((words1.drop 24).drop 24).drop 24).drop 24).drop 24).drop 24), List.all_append, w_t7, ← List.take_append_drop 24 (((((((words1.drop 24).drop 24).drop 24).drop 24).drop 24).drop 24).drop 24), List.all_append, w_t8, ← List.take_append_drop 24 ((((((((words1.drop 24).drop 24).drop 24).drop 24).drop 24).drop 24).drop 24).drop 24), List.all_append, w_t9, ← List.take_append_drop 24 (((((((((words1.drop 24).drop 24).drop 24).drop 24).drop 24).drop 24).drop 24).drop 24).drop 24), List.all_append, w_t10, ← List.take_append_drop 24 ((((((((((words1.drop 24).drop 24).drop 24).drop 24).drop 24).drop 24).drop 24).drop 24).drop 24).drop 24), List.all_append, w_t11, ← List.take_append_drop 24 (((((((((((words1.drop 24).drop 24).drop 24).drop 24).drop 24).drop 24).drop 24).drop 24).drop 24).drop 24).drop 24), List.all_append, w_t12, ← List.take_append_drop 24 ((((((((((((words1.drop 24).drop 24).drop 24).drop 24).drop 24).drop 24).drop 24).drop 24).drop 24).drop 24).drop 24).drop 24), List.all_append, w_t13, ← List.take_append_drop 24 (((((((((((((words1.drop 24).drop 24).drop 24).drop 24).drop 24).drop 24).drop 24).drop 24).drop 24).drop 24).drop 24).drop 24).drop 24), List.all_append, w_t14, w_t15]
  rfl
set_option maxRecDepth 65536 in
theorem w_rest : rest_1_c.before args0 about1 = true := by decide +kernel
set_option maxRecDepth 65536 in
theorem w_case : (Jvm.Cond.and given_1 narrow_1).before args0 about1 = true := by decide +kernel
theorem w_applies : (headSpec (Jvm.Cond.code x code maxLocals ret :: tables_1) room_1).applies x e0.platform about1 = true :=
  (Spec.applies_iff w_frames).mpr ⟨w_running, w_runnable, w_alone, w_named, w_hears, w_ripe, w_room, w_tables⟩
set_option maxRecDepth 65536 in
theorem atStart : AtStart classFile x code maxLocals ret World_1 tables_1 room_1 Calls_1 rest_1 Pre_1 launch0 p0 e0 about1 theMethod args0 below0 :=
  ⟨lists_1, trivial, launch0.admits_env _ _ _, launch0.least_env, fairChoices_fair.cas, fairChoices_fair.clock, w_frames, w_args, w_heap, w_applies, ⟨⟨46, k46, 6, by decide +kernel, rfl, rfl, _, rfl, rfl⟩, trivial⟩, w_rest, w_case⟩
end start1
theorem witness_1 : WitnessClaimed_1 := ⟨start1.p0, start1.e0, start1.about1, start1.theMethod, start1.args0, start1.below0, start1.atStart⟩
end Jvm.Pilot.@@N@@
