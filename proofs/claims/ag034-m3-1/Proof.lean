import JvmDerived
import JvmDerived.Pilot.@@N@@Statement
import JvmDerived.Pilot.@@N@@Code
set_option linter.unusedVariables false
set_option linter.unusedSimpArgs false
/- laws to paste: Road.backV (cut by pick.py; bodies as the Statement names them) -/
namespace Jvm.Pilot.@@N@@
namespace StrChars
open Jvm Sem ClassFile Op Lib Jvm.Stand Jvm.Free.XT Jvm.Free.ALB Jvm.Free.JM Jvm.Free
open Jvm.Lib.Cold (StaticIs)
/-- a char array whose places are chars -/
def Ch (a : Addr) (A : Cell) (U : State) : Prop := Arr .char a A U ∧ Typed .char A
theorem Ch.mv {a : Addr} {A : Cell} {U U' : State} (h : Ch a A U) (hal : U.vm.Alike U'.vm) (hh : U'.heap = U.heap) : Ch a A U' := ⟨h.1.mv hal hh, h.2⟩
theorem Ch.keep {a : Addr} {A : Cell} {U U' : State} (h : Ch a A U) (hal : U.vm.Alike U'.vm) (hk : U'.heap[a]? = some A) : Ch a A U' := ⟨h.1.keep hal hk, h.2⟩
/-- what place i of a char[]'s cell holds -/
def cv (A : Cell) (i : Nat) : Int32 := match A.slots[i]? with | some (.int x) => x | _ => 0
theorem Ch.get {a : Addr} {A : Cell} {U : State} (h : Ch a A U) {i : Nat} (hi : i < A.slots.size) : A.slots[i]? = some (.int (cv A i)) := by
  have e := Array.getElem?_eq_getElem hi
  have f := h.2 i _ e
  unfold cv; rw [e]
  generalize A.slots[i] = v at f
  cases v <;> simp [fits] at f ⊢
/-- the byte that i2b leaves of a char -/
def lo8 (x : Int32) : Int32 := x.toInt8.toInt32
theorem fits_lo8 (y : Int32) : fits .byte (.int (lo8 y)) = true := by
  have h1 := y.toInt8.le_toInt
  have h2 := y.toInt8.toInt_lt
  simp only [lo8, fits, Bool.and_eq_true, decide_eq_true_eq, Int32.le_iff_toInt_le, Int8.toInt_toInt32, show (-128 : Int32).toInt = -128 from by decide, show (127 : Int32).toInt = 127 from by decide]
  omega
/-- A' is A but that each place j of lo .. hi - 1 holds f j -/
def Laid (A A' : Cell) (lo hi : Nat) (f : Nat → Value) : Prop := A'.cls = A.cls ∧ A'.vm = A.vm ∧ A'.slots.size = A.slots.size ∧ ∀ i, A'.slots[i]? = if lo ≤ i ∧ i < hi then some (f i) else A.slots[i]?
theorem Laid.zero (A : Cell) (lo : Nat) (f : Nat → Value) : Laid A A lo (lo + 0) f := ⟨rfl, rfl, rfl, fun i => by rw [if_neg (by omega)]⟩
theorem Laid.step {A Ak : Cell} {lo k : Nat} {f : Nat → Value} {v : Value} (h : Laid A Ak lo k f) (hlo : lo ≤ k) (hk : k < Ak.slots.size) (hv : v = f k) : Laid A (Ak.setSlot k v) lo (k + 1) f := by
  refine ⟨h.1, h.2.1, by simpa [Cell.setSlot] using h.2.2.1, fun i => ?_⟩
  by_cases e : k = i
  · subst e; rw [Cell.slots_setSlot_self v hk, if_pos (by omega), hv]
  · rw [Cell.slots_setSlot_ne v e, h.2.2.2 i]
    by_cases q : lo ≤ i ∧ i < k
    · rw [if_pos q, if_pos (by omega)]
    · rw [if_neg q, if_neg (by omega)]
def U16 : String := "java/lang/StringUTF16"
namespace Cmp5
def yN : MethodName := ⟨"java/lang/StringUTF16", "compress", "([CI[BII)I"⟩
abbrev yB : ByteArray := jdk_52_method_21_code
theorem d0 : decode yB 0 = .ok (.iconst 0, 1) := by decide +kernel
theorem d1 : decode yB 1 = .ok (.istore 5, 2) := by decide +kernel
theorem d3 : decode yB 3 = .ok (.iload 5, 2) := by decide +kernel
theorem d5 : decode yB 5 = .ok (.iload 4, 2) := by decide +kernel
theorem d7 : decode yB 7 = .ok (.if_icmp (.ge) 37, 3) := by decide +kernel
theorem d10 : decode yB 10 = .ok (.aload_n 0, 1) := by decide +kernel
theorem d11 : decode yB 11 = .ok (.iload_n 1, 1) := by decide +kernel
theorem d12 : decode yB 12 = .ok (.caload, 1) := by decide +kernel
theorem d13 : decode yB 13 = .ok (.istore 6, 2) := by decide +kernel
theorem d15 : decode yB 15 = .ok (.iload 6, 2) := by decide +kernel
theorem d17 : decode yB 17 = .ok (.sipush 255, 3) := by decide +kernel
theorem d20 : decode yB 20 = .ok (.if_icmp (.le) 6, 3) := by decide +kernel
theorem d26 : decode yB 26 = .ok (.aload_n 2, 1) := by decide +kernel
theorem d27 : decode yB 27 = .ok (.iload_n 3, 1) := by decide +kernel
theorem d28 : decode yB 28 = .ok (.iload 6, 2) := by decide +kernel
theorem d30 : decode yB 30 = .ok (.i2b, 1) := by decide +kernel
theorem d31 : decode yB 31 = .ok (.bastore, 1) := by decide +kernel
theorem d32 : decode yB 32 = .ok (.iinc 1 1, 3) := by decide +kernel
theorem d35 : decode yB 35 = .ok (.iinc 3 1, 3) := by decide +kernel
theorem d38 : decode yB 38 = .ok (.iinc 5 1, 3) := by decide +kernel
theorem d41 : decode yB 41 = .ok (.goto (-38), 3) := by decide +kernel
theorem d44 : decode yB 44 = .ok (.iload 4, 2) := by decide +kernel
theorem d46 : decode yB 46 = .ok (.ireturn, 1) := by decide +kernel
def site : List Cond := []
def tab : Cond := tabOf yN yB 7 (some .int) site
def P (b : Addr) (A : Cell) (d : Addr) (B : Cell) (o q len : Nat) (args : Array Value) (s : State) : Prop := args = #[.ref b, .int (Int32.ofNat o), .ref d, .int (Int32.ofNat q), .int (Int32.ofNat len)] ∧ Ch b A s ∧ Arr .byte d B s ∧ b ≠ d ∧ o + len ≤ A.slots.size ∧ q + len ≤ B.slots.size ∧ ∀ i, i < len → ¬ 255 < cv A (o + i)
def E (b : Addr) (A : Cell) (d : Addr) (B : Cell) (o q len : Nat) (r : Option Value) (s u : State) : Prop := r = some (.int (Int32.ofNat len)) ∧ ∃ B', Put d B' s u ∧ Laid B B' q (q + len) (fun j => Value.int (lo8 (cv A (o + (j - q)))))
/-- no char of the range above 255: len; the places written hold each char's low byte -/
theorem law (l : Launch) (b : Addr) (A : Cell) (d : Addr) (B : Cell) (o q len : Nat) : Law l yN 5 5 0 0 yB 7 (some .int) site (P b A d B o q len) (E b A d B o q len) (copyLocs d q len) 0 0 := by
  refine Law.of_walk (plainFor_of_name (by decide +kernel)) (by decide +kernel) (by decide +kernel) (by decide) (fun _ _ h => by rw [h.1]; rfl) (fun _ U U' hal hh h => ⟨h.1, h.2.1.mv hal hh, h.2.2.1.mv hal hh, h.2.2.2⟩) (fun r U U' V V' h1 hal h2 h => ⟨h.1, h.2.elim fun B' q => ⟨B', q.1.mv h1 h2, q.2⟩⟩) ?_
  intro p e s m args below meth c s₁ X0 hexec hbytes hml hret hlk hnm hown hh0 W hP
  obtain ⟨rfl, hA, hB, hne, l1, l2, hp⟩ := hP
  have c1 : Steps p.tables e below (s₁.setTop (entryFrame m #[.ref b, .int (Int32.ofNat o), .ref d, .int (Int32.ofNat q), .int (Int32.ofNat len)] 7)) (s₁.setTop (mkF m 0 #[.val (.ref b), .val (.int (Int32.ofNat o)), .val (.ref d), .val (.int (Int32.ofNat q)), .val (.int (Int32.ofNat len)), .unset, .unset] [])) := entry rfl
  have hA0 := hA.1.mv X0.warmed.alike hh0
  have hB0 := hB.mv X0.warmed.alike hh0
  have a31 := hA.1.2.2.2
  have c2 : Steps p.tables e below (s₁.setTop (entryFrame m #[.ref b, .int (Int32.ofNat o), .ref d, .int (Int32.ofNat q), .int (Int32.ofNat len)] 7)) (s₁.setTop (mkF m 3 #[.val (.ref b), .val (.int (Int32.ofNat o)), .val (.ref d), .val (.int (Int32.ofNat q)), .val (.int (Int32.ofNat len)), .val (.int 0), .unset] [])) := c1.trans (by
    refine iconstV X0.here hexec rfl 0 (hb hbytes d0) (by decide) ?_
    refine XS.istore X0.here hexec rfl (hb hbytes d1) rfl rfl ?_
    exact Steps.refl _)
  have loop : ∀ (r i : Nat), i + r = len → ∀ (z : Slot), (z = .unset ∨ ∃ w, z = .val w ∧ w.category = 1) → ∀ (Tl : State) (Bk : Cell), Stand p l e { frames := 0, locals := 0, cells := 0, slots := 0 } s m #[.ref b, .int (Int32.ofNat o), .ref d, .int (Int32.ofNat q), .int (Int32.ofNat len)] below meth c Tl ([] ++ copyLocs d q i) 0 0 → Put d Bk s₁ Tl → Laid B Bk q (q + i) (fun j => Value.int (lo8 (cv A (o + (j - q))))) →
      Steps p.tables e below (s₁.setTop (entryFrame m #[.ref b, .int (Int32.ofNat o), .ref d, .int (Int32.ofNat q), .int (Int32.ofNat len)] 7)) (Tl.setTop (mkF m 3 #[.val (.ref b), .val (.int (Int32.ofNat (o + i))), .val (.ref d), .val (.int (Int32.ofNat (q + i))), .val (.int (Int32.ofNat len)), .val (.int (Int32.ofNat i)), z] [])) → ∃ (T' : State) (B' : Cell) (z' : Slot), Stand p l e { frames := 0, locals := 0, cells := 0, slots := 0 } s m #[.ref b, .int (Int32.ofNat o), .ref d, .int (Int32.ofNat q), .int (Int32.ofNat len)] below meth c T' ([] ++ copyLocs d q len) 0 0 ∧ Put d B' s₁ T' ∧ Laid B B' q (q + len) (fun j => Value.int (lo8 (cv A (o + (j - q))))) ∧
      Steps p.tables e below (s₁.setTop (entryFrame m #[.ref b, .int (Int32.ofNat o), .ref d, .int (Int32.ofNat q), .int (Int32.ofNat len)] 7)) (T'.setTop (mkF m 3 #[.val (.ref b), .val (.int (Int32.ofNat (o + len))), .val (.ref d), .val (.int (Int32.ofNat (q + len))), .val (.int (Int32.ofNat len)), .val (.int (Int32.ofNat len)), z'] [])) := by
    intro r
    induction r with
    | zero =>
      intro i hi z hz Tl Bk Xl pl fl cl
      have hil : i = len := by omega
      rw [hil] at Xl fl cl
      exact ⟨Tl, Bk, z, Xl, pl, fl, cl⟩
    | succ r ih =>
      intro i hi z hz Tl Bk Xl pl fl cl
      have all := X0.warmed.alike.symm.trans Xl.warmed.alike
      have hAl := hA0.keep all (pl.other hne hA0.1)
      have hBk := hB0.like all pl.1 fl.1 fl.2.1 fl.2.2.1
      have hlt : q + i < Bk.slots.size := by rw [fl.2.2.1]; omega
      have c3 : Steps p.tables e below (s₁.setTop (entryFrame m #[.ref b, .int (Int32.ofNat o), .ref d, .int (Int32.ofNat q), .int (Int32.ofNat len)] 7)) (Tl.setTop (mkF m 12 #[.val (.ref b), .val (.int (Int32.ofNat (o + i))), .val (.ref d), .val (.int (Int32.ofNat (q + i))), .val (.int (Int32.ofNat len)), .val (.int (Int32.ofNat i)), z] [.int (Int32.ofNat (o + i)), .ref b])) := cl.trans (by
        refine XS.iload Xl.here hexec rfl (hb hbytes d3) rfl ?_
        refine XS.iload Xl.here hexec rfl (hb hbytes d5) rfl ?_
        refine XS.icmpNo Xl.here hexec rfl (hb hbytes d7) rfl (ii_ge_f (lt32 (by omega) (by omega))) ?_
        refine XS.aloadN Xl.here hexec rfl (hb hbytes d10) rfl rfl ?_
        refine XS.iloadN Xl.here hexec rfl (hb hbytes d11) rfl ?_
        exact Steps.refl _)
      have c4 : Steps p.tables e below (s₁.setTop (entryFrame m #[.ref b, .int (Int32.ofNat o), .ref d, .int (Int32.ofNat q), .int (Int32.ofNat len)] 7)) (Tl.setTop (mkF m 13 #[.val (.ref b), .val (.int (Int32.ofNat (o + i))), .val (.ref d), .val (.int (Int32.ofNat (q + i))), .val (.int (Int32.ofNat len)), .val (.int (Int32.ofNat i)), z] [.int (cv A (o + i))])) := c3.trans (by
        refine Xl.aget hexec hAl rfl (hA.get (i := o + i) (by omega)) rfl rfl (hb hbytes d12) ?_
        exact Steps.refl _)
      have c5 : Steps p.tables e below (s₁.setTop (entryFrame m #[.ref b, .int (Int32.ofNat o), .ref d, .int (Int32.ofNat q), .int (Int32.ofNat len)] 7)) (Tl.setTop (mkF m 15 #[.val (.ref b), .val (.int (Int32.ofNat (o + i))), .val (.ref d), .val (.int (Int32.ofNat (q + i))), .val (.int (Int32.ofNat len)), .val (.int (Int32.ofNat i)), .val (.int (cv A (o + i)))] [])) := c4.trans (by
        refine XS.istoreS Xl.here hexec rfl (hb hbytes d13) rfl rfl hz ?_
        exact Steps.refl _)
      have c6 : Steps p.tables e below (s₁.setTop (entryFrame m #[.ref b, .int (Int32.ofNat o), .ref d, .int (Int32.ofNat q), .int (Int32.ofNat len)] 7)) (Tl.setTop (mkF m 31 #[.val (.ref b), .val (.int (Int32.ofNat (o + i))), .val (.ref d), .val (.int (Int32.ofNat (q + i))), .val (.int (Int32.ofNat len)), .val (.int (Int32.ofNat i)), .val (.int (cv A (o + i)))] [.int (lo8 (cv A (o + i))), .int (Int32.ofNat (q + i)), .ref d])) := c5.trans (by
        refine XS.iload Xl.here hexec rfl (hb hbytes d15) rfl ?_
        refine sipushV Xl.here hexec rfl 255 (hb hbytes d17) (by decide) ?_
        refine XS.icmpYes Xl.here hexec rfl (pc0 := 20) rfl (hb hbytes d20) rfl (ii_le_t (hp i (by omega))) (by decide) rfl ?_
        refine XS.aloadN Xl.here hexec rfl (hb hbytes d26) rfl rfl ?_
        refine XS.iloadN Xl.here hexec rfl (hb hbytes d27) rfl ?_
        refine XS.iload Xl.here hexec rfl (hb hbytes d28) rfl ?_
        refine i2b Xl.here hexec rfl (hb hbytes d30) rfl ?_
        exact Steps.refl _)
      obtain ⟨T7, X7, p7, st7⟩ := Xl.aput hexec hBk rfl hlt rfl (fits_lo8 (cv A (o + i))) (g := (mkF m 31 #[.val (.ref b), .val (.int (Int32.ofNat (o + i))), .val (.ref d), .val (.int (Int32.ofNat (q + i))), .val (.int (Int32.ofNat len)), .val (.int (Int32.ofNat i)), .val (.int (cv A (o + i)))] [.int (lo8 (cv A (o + i))), .int (Int32.ofNat (q + i)), .ref d])) rfl (rest := []) rfl (hb hbytes d31)
      have c8 : Steps p.tables e below (s₁.setTop (entryFrame m #[.ref b, .int (Int32.ofNat o), .ref d, .int (Int32.ofNat q), .int (Int32.ofNat len)] 7)) (T7.setTop (mkF m 32 #[.val (.ref b), .val (.int (Int32.ofNat (o + i))), .val (.ref d), .val (.int (Int32.ofNat (q + i))), .val (.int (Int32.ofNat len)), .val (.int (Int32.ofNat i)), .val (.int (cv A (o + i)))] [])) := c6.trans (st7 _ (Steps.refl _))
      have c9 : Steps p.tables e below (s₁.setTop (entryFrame m #[.ref b, .int (Int32.ofNat o), .ref d, .int (Int32.ofNat q), .int (Int32.ofNat len)] 7)) (T7.setTop (mkF m 3 #[.val (.ref b), .val (.int (Int32.ofNat (o + i) + 1)), .val (.ref d), .val (.int (Int32.ofNat (q + i) + 1)), .val (.int (Int32.ofNat len)), .val (.int (Int32.ofNat i + 1)), .val (.int (cv A (o + i)))] [])) := c8.trans (by
        refine iincV X7.here hexec rfl 1 (hb hbytes d32) (by decide) rfl rfl ?_
        refine iincV X7.here hexec rfl 1 (hb hbytes d35) (by decide) rfl rfl ?_
        refine iincV X7.here hexec rfl 1 (hb hbytes d38) (by decide) rfl rfl ?_
        refine XS.goto X7.here hexec rfl (pc0 := 41) rfl (hb hbytes d41) (by decide) rfl ?_
        exact Steps.refl _)
      have c10 : Steps p.tables e below (s₁.setTop (entryFrame m #[.ref b, .int (Int32.ofNat o), .ref d, .int (Int32.ofNat q), .int (Int32.ofNat len)] 7)) (T7.setTop (mkF m 3 #[.val (.ref b), .val (.int (Int32.ofNat (o + (i + 1)))), .val (.ref d), .val (.int (Int32.ofNat (q + (i + 1)))), .val (.int (Int32.ofNat len)), .val (.int (Int32.ofNat (i + 1))), .val (.int (cv A (o + i)))] [])) := by
        have := c9
        rw [succ32, succ32, succ32] at this
        exact this
      exact ih (i + 1) (by omega) _ (Or.inr ⟨_, rfl, rfl⟩) T7 _ (by rw [copyLocs_step, ← List.append_assoc]; exact X7) (pl.trans p7) (fl.step (by omega) hlt (by simp)) c10
  obtain ⟨T9, B9, z9, X9, p9, f9, g9⟩ := loop len 0 (by omega) .unset (Or.inl rfl) s₁ B (by simpa [copyLocs] using X0) ⟨hB0.1, fun _ _ => rfl, rfl⟩ (Laid.zero _ _ _) c2
  have c11 : Steps p.tables e below (s₁.setTop (entryFrame m #[.ref b, .int (Int32.ofNat o), .ref d, .int (Int32.ofNat q), .int (Int32.ofNat len)] 7)) (T9.setTop (mkF m 46 #[.val (.ref b), .val (.int (Int32.ofNat (o + len))), .val (.ref d), .val (.int (Int32.ofNat (q + len))), .val (.int (Int32.ofNat len)), .val (.int (Int32.ofNat len)), z9] [.int (Int32.ofNat len)])) := g9.trans (by
    refine XS.iload X9.here hexec rfl (hb hbytes d3) rfl ?_
    refine XS.iload X9.here hexec rfl (hb hbytes d5) rfl ?_
    refine XS.icmpYes X9.here hexec rfl (pc0 := 7) rfl (hb hbytes d7) rfl (ii_ge_t (nlt32 (by omega) (Nat.le_refl _))) (by decide) rfl ?_
    refine XS.iload X9.here hexec rfl (hb hbytes d44) rfl ?_
    exact Steps.refl _)
  exact ⟨T9, some (.int (Int32.ofNat len)), _, _, _, X9, by simp, rfl, rfl, (fun h => by cases h), ⟨rfl, B9, p9.from hh0, f9⟩, fun fs hl => c11.trans (X9.ireturnOut hexec hret rfl (Or.inl rfl) (hb hbytes d46) hl)⟩
end Cmp5
namespace Cmp3
def yN : MethodName := ⟨"java/lang/StringUTF16", "compress", "([CII)[B"⟩
abbrev yB : ByteArray := jdk_52_method_16_code
theorem d0 : decode yB 0 = .ok (.iload_n 2, 1) := by decide +kernel
theorem d1 : decode yB 1 = .ok (.newarray .byte, 2) := by decide +kernel
theorem d3 : decode yB 3 = .ok (.astore_n 3, 1) := by decide +kernel
theorem d4 : decode yB 4 = .ok (.aload_n 0, 1) := by decide +kernel
theorem d5 : decode yB 5 = .ok (.iload_n 1, 1) := by decide +kernel
theorem d6 : decode yB 6 = .ok (.aload_n 3, 1) := by decide +kernel
theorem d7 : decode yB 7 = .ok (.iconst 0, 1) := by decide +kernel
theorem d8 : decode yB 8 = .ok (.iload_n 2, 1) := by decide +kernel
theorem d9 : decode yB 9 = .ok (.invokestatic 115, 3) := by decide +kernel
theorem d12 : decode yB 12 = .ok (.istore 4, 2) := by decide +kernel
theorem d14 : decode yB 14 = .ok (.iload 4, 2) := by decide +kernel
theorem d16 : decode yB 16 = .ok (.iload_n 2, 1) := by decide +kernel
theorem d17 : decode yB 17 = .ok (.if_icmp (.eq) 40, 3) := by decide +kernel
theorem d57 : decode yB 57 = .ok (.aload_n 3, 1) := by decide +kernel
theorem d58 : decode yB 58 = .ok (.areturn, 1) := by decide +kernel
def site : List Cond := [.arrayClass .byte, Cmp5.tab] ++ staticW U16 115 Cmp5.yN
def tab : Cond := tabOf yN yB 6 (some (.array .byte)) site
def P (b : Addr) (A : Cell) (o len : Nat) (args : Array Value) (s : State) : Prop := args = #[.ref b, .int (Int32.ofNat o), .int (Int32.ofNat len)] ∧ Ch b A s ∧ o + len ≤ A.slots.size ∧ len ≤ 536870912 ∧ ∀ i, i < len → ¬ 255 < cv A (o + i)
def E (b : Addr) (A : Cell) (o len : Nat) (r : Option Value) (s u : State) : Prop := NewArr .byte "[B" len (fun j => .int (lo8 (cv A (o + j)))) r s u ∧ u.heap.size = s.heap.size + 1
/-- no char of the range above 255: a new byte[] of their low bytes -/
theorem law (l : Launch) (b : Addr) (A : Cell) (o len : Nat) : Law l yN 3 3 1 18 yB 6 (some (.array .byte)) site (P b A o len) (E b A o len) [] 1 len := by
  refine Law.of_walk (plainFor_of_name (by decide +kernel)) (by decide +kernel) (by decide +kernel) (by decide) (fun _ _ h => by rw [h.1]; rfl) (fun _ U U' hal hh h => ⟨h.1, h.2.1.mv hal hh, h.2.2⟩) (fun r U U' V V' h1 hal h2 h => ⟨NewArr.mv r U U' V V' h1 hal h2 h.1, by rw [h1, h2]; exact h.2⟩) ?_
  intro p e s m args below meth c s₁ X0 hexec hbytes hml hret hlk hnm hown hh0 W hP
  obtain ⟨rfl, hA, l1, l2, hp⟩ := hP
  have a31 := hA.1.2.2.2
  have c1 : Steps p.tables e below (s₁.setTop (entryFrame m #[.ref b, .int (Int32.ofNat o), .int (Int32.ofNat len)] 6)) (s₁.setTop (mkF m 0 #[.val (.ref b), .val (.int (Int32.ofNat o)), .val (.int (Int32.ofNat len)), .unset, .unset, .unset] [])) := entry rfl
  have c2 : Steps p.tables e below (s₁.setTop (entryFrame m #[.ref b, .int (Int32.ofNat o), .int (Int32.ofNat len)] 6)) (s₁.setTop (mkF m 1 #[.val (.ref b), .val (.int (Int32.ofNat o)), .val (.int (Int32.ofNat len)), .unset, .unset, .unset] [.int (Int32.ofNat len)])) := c1.trans (by
    refine XS.iloadN X0.here hexec rfl (hb hbytes d0) rfl ?_
    exact Steps.refl _)
  obtain ⟨T3, B3, X3, ba3, bs3, bv3, bh3, bf3, st3⟩ := X0.anew hexec (atype := .byte) (wk W (.arrayClass .byte)) rfl (by show len * 1 ≤ _; omega) (by omega) (g := (mkF m 1 #[.val (.ref b), .val (.int (Int32.ofNat o)), .val (.int (Int32.ofNat len)), .unset, .unset, .unset] [.int (Int32.ofNat len)])) rfl (hb hbytes d1) (rest := []) rfl (Nat.le_refl _) (by show 0 + len ≤ len; omega)
  rw [hh0] at ba3 st3
  have kp3 : XT.Kept s T3 := (XT.Kept.of_eq hh0).push bh3
  have hA3 := hA.keep X3.warmed.alike (kp3 _ _ hA.1.1)
  have hne : b ≠ s.heap.size := hA.1.ne
  have c4 : Steps p.tables e below (s₁.setTop (entryFrame m #[.ref b, .int (Int32.ofNat o), .int (Int32.ofNat len)] 6)) (T3.setTop (mkF m 3 #[.val (.ref b), .val (.int (Int32.ofNat o)), .val (.int (Int32.ofNat len)), .unset, .unset, .unset] [.ref s.heap.size])) := c2.trans (st3 _ (Steps.refl _))
  have c5 : Steps p.tables e below (s₁.setTop (entryFrame m #[.ref b, .int (Int32.ofNat o), .int (Int32.ofNat len)] 6)) (T3.setTop (mkF m 9 #[.val (.ref b), .val (.int (Int32.ofNat o)), .val (.int (Int32.ofNat len)), .val (.ref s.heap.size), .unset, .unset] [.int (Int32.ofNat len), .int 0, .ref s.heap.size, .int (Int32.ofNat o), .ref b])) := c4.trans (by
    refine XS.astoreN X3.here hexec rfl (hb hbytes d3) rfl rfl rfl ?_
    refine XS.aloadN X3.here hexec rfl (hb hbytes d4) rfl rfl ?_
    refine XS.iloadN X3.here hexec rfl (hb hbytes d5) rfl ?_
    refine XS.aloadN X3.here hexec rfl (hb hbytes d6) rfl rfl ?_
    refine iconstV X3.here hexec rfl 0 (hb hbytes d7) (by decide) ?_
    refine XS.iloadN X3.here hexec rfl (hb hbytes d8) rfl ?_
    exact Steps.refl _)
  obtain ⟨v6, T6, X6, E6, g6⟩ := X3.callS hexec (Cmp5.law l b A s.heap.size B3 o 0 len) hown (wks W (staticW U16 115 Cmp5.yN)) (wk W Cmp5.tab) (W := 0) (Nat.le_of_ble_eq_true rfl) (Nat.le_of_ble_eq_true rfl) (Nat.le_refl _) (by show 0 + len + 0 ≤ len; omega) (g := (mkF m 9 #[.val (.ref b), .val (.int (Int32.ofNat o)), .val (.int (Int32.ofNat len)), .val (.ref s.heap.size), .unset, .unset] [.int (Int32.ofNat len), .int (Int32.ofNat 0), .ref s.heap.size, .int (Int32.ofNat o), .ref b])) rfl (by rw [hml]; rfl) c5 (argsL := [.ref b, .int (Int32.ofNat o), .ref s.heap.size, .int (Int32.ofNat 0), .int (Int32.ofNat len)]) (rest := []) rfl rfl (by show 2 * 0 + 0 ≤ _; decide) (hb hbytes d9) (⟨rfl, hA3, ba3, hne, l1, by rw [bs3]; simp, hp⟩)
  obtain ⟨rfl, B6, p6, f6⟩ := E6
  have c7 : Steps p.tables e below (s₁.setTop (entryFrame m #[.ref b, .int (Int32.ofNat o), .int (Int32.ofNat len)] 6)) (T6.setTop (mkF m 12 #[.val (.ref b), .val (.int (Int32.ofNat o)), .val (.int (Int32.ofNat len)), .val (.ref s.heap.size), .unset, .unset] [.int (Int32.ofNat len)])) := g6
  have c8 : Steps p.tables e below (s₁.setTop (entryFrame m #[.ref b, .int (Int32.ofNat o), .int (Int32.ofNat len)] 6)) (T6.setTop (mkF m 58 #[.val (.ref b), .val (.int (Int32.ofNat o)), .val (.int (Int32.ofNat len)), .val (.ref s.heap.size), .val (.int (Int32.ofNat len)), .unset] [.ref s.heap.size])) := c7.trans (by
    refine XS.istore X6.here hexec rfl (hb hbytes d12) rfl rfl ?_
    refine XS.iload X6.here hexec rfl (hb hbytes d14) rfl ?_
    refine XS.iloadN X6.here hexec rfl (hb hbytes d16) rfl ?_
    refine XS.icmpYes X6.here hexec rfl (pc0 := 17) rfl (hb hbytes d17) rfl (ii_eq_t rfl) (by decide) rfl ?_
    refine XS.aloadN X6.here hexec rfl (hb hbytes d57) rfl rfl ?_
    exact Steps.refl _)
  have X8 := X6.wide (L' := []) (cells' := 1) (slots' := len) (fun x hx hlt => by
    simp only [List.nil_append, copyLocs, List.mem_map, List.mem_range] at hx
    obtain ⟨i, -, rfl⟩ := hx
    exact absurd hlt (Nat.lt_irrefl _)) (Nat.le_refl _) (by omega)
  exact ⟨T6, some (.ref s.heap.size), _, _, _, X8, rfl, rfl, rfl, (fun h => by cases h), ⟨⟨rfl, B6, ba3.like (X3.warmed.alike.symm.trans X6.warmed.alike) p6.1 f6.1 f6.2.1 f6.2.2.1, f6.2.1.trans bv3, by rw [X6.warmed.alike.findClass, f6.1]; exact bf3, by rw [f6.2.2.1, bs3]; simp, fun j hj => by rw [f6.2.2.2 j, if_pos (by omega)]; rfl, kp3.put p6 (Nat.le_refl _)⟩, by rw [p6.2.2, bh3, hh0]; simp⟩, fun fs hl => c8.trans (X8.areturnOut hexec rfl hret rfl (hb hbytes d58) hl)⟩
end Cmp3
namespace CodL
def yN : MethodName := ⟨"java/lang/StringUTF16", "coderFromArrayLen", "([BI)B"⟩
abbrev yB : ByteArray := jdk_52_method_15_code
theorem d0 : decode yB 0 = .ok (.iload_n 1, 1) := by decide +kernel
theorem d1 : decode yB 1 = .ok (.aload_n 0, 1) := by decide +kernel
theorem d2 : decode yB 2 = .ok (.arraylength, 1) := by decide +kernel
theorem d3 : decode yB 3 = .ok (.isub, 1) := by decide +kernel
theorem d4 : decode yB 4 = .ok (.bipush 31, 2) := by decide +kernel
theorem d6 : decode yB 6 = .ok (.iushr, 1) := by decide +kernel
theorem d7 : decode yB 7 = .ok (.i2b, 1) := by decide +kernel
theorem d8 : decode yB 8 = .ok (.ireturn, 1) := by decide +kernel
def site : List Cond := []
def tab : Cond := tabOf yN yB 2 (some .byte) site
def P (d : Addr) (B : Cell) (args : Array Value) (s : State) : Prop := args = #[.ref d, .int (Int32.ofNat B.slots.size)] ∧ Arr .byte d B s
def E (r : Option Value) (s u : State) : Prop := XT.PureE (some (.int 0)) r s u
/-- an array as long as the number of chars: LATIN1 -/
theorem law (l : Launch) (d : Addr) (B : Cell) : Law l yN 2 2 0 0 yB 2 (some .byte) site (P d B) E [] 0 0 := by
  refine Law.of_walk (plainFor_of_name (by decide +kernel)) (by decide +kernel) (by decide +kernel) (by decide) (fun _ _ h => by rw [h.1]; rfl) (fun _ U U' hal hh h => ⟨h.1, h.2.mv hal hh⟩) (fun r U U' V V' h1 hal h2 h => XT.PureE.mv r U U' V V' h1 hal h2 h) ?_
  intro p e s m args below meth c s₁ X0 hexec hbytes hml hret hlk hnm hown hh0 W hP
  obtain ⟨rfl, hB⟩ := hP
  have hB0 := hB.mv X0.warmed.alike hh0
  have c1 : Steps p.tables e below (s₁.setTop (entryFrame m #[.ref d, .int (Int32.ofNat B.slots.size)] 2)) (s₁.setTop (mkF m 0 #[.val (.ref d), .val (.int (Int32.ofNat B.slots.size))] [])) := entry rfl
  have c2 : Steps p.tables e below (s₁.setTop (entryFrame m #[.ref d, .int (Int32.ofNat B.slots.size)] 2)) (s₁.setTop (mkF m 2 #[.val (.ref d), .val (.int (Int32.ofNat B.slots.size))] [.ref d, .int (Int32.ofNat B.slots.size)])) := c1.trans (by
    refine XS.iloadN X0.here hexec rfl (hb hbytes d0) rfl ?_
    refine XS.aloadN X0.here hexec rfl (hb hbytes d1) rfl rfl ?_
    exact Steps.refl _)
  have c3 : Steps p.tables e below (s₁.setTop (entryFrame m #[.ref d, .int (Int32.ofNat B.slots.size)] 2)) (s₁.setTop (mkF m 8 #[.val (.ref d), .val (.int (Int32.ofNat B.slots.size))] [.int (lo8 (ushr (Int32.ofNat B.slots.size - Int32.ofNat B.slots.size) 31))])) := c2.trans (by
    refine X0.alen hexec hB0 rfl rfl (hb hbytes d2) ?_
    refine XS.isub X0.here hexec rfl (hb hbytes d3) rfl ?_
    refine bipushV X0.here hexec rfl 31 (hb hbytes d4) (by decide) ?_
    refine iushr X0.here hexec rfl (hb hbytes d6) rfl ?_
    refine i2b X0.here hexec rfl (hb hbytes d7) rfl ?_
    exact Steps.refl _)
  have e0 : lo8 (ushr (Int32.ofNat B.slots.size - Int32.ofNat B.slots.size) 31) = 0 := by rw [Int32.sub_self]; decide
  rw [e0] at c3
  exact ⟨s₁, some (.int 0), _, _, _, X0, rfl, rfl, rfl, (fun h => by cases h), ⟨rfl, hh0⟩, fun fs hl => c3.trans (X0.ireturnOut hexec hret rfl (Or.inr (Or.inr (Or.inl rfl))) (hb hbytes d8) hl)⟩
end CodL
/-- the String at a is Latin-1 over a new byte[] (the heap's one new cell): the low bytes of the len chars of A from o on; every cell but a is kept -/
def Got (a : Addr) (D : Cell) (fV fC : Field) (A : Cell) (o len : Nat) (r : Option Value) (s u : State) : Prop := r = none ∧ ∃ D' V : Cell, Blank "java/lang/String" a D' u ∧ Same D D' [fV.slot, fC.slot] ∧ D'.slots[fV.slot]? = some (.ref s.heap.size) ∧ D'.slots[fC.slot]? = some (.int 0) ∧ Arr .byte s.heap.size V u ∧ V.vm = .none ∧ u.vm.findClass "[B" = some V.cls ∧ V.slots.size = len ∧ (∀ j, j < len → V.slots[j]? = some (.int (lo8 (cv A (o + j))))) ∧ (∀ (y : Addr) (c : Cell), y ≠ a → s.heap[y]? = some c → u.heap[y]? = some c) ∧ u.heap.size = s.heap.size + 1
theorem Got.mv {a : Addr} {D A : Cell} {fV fC : Field} {o len : Nat} : ∀ r (U U' V V' : State), U'.heap = U.heap → V.vm.Alike V'.vm → V'.heap = V.heap → Got a D fV fC A o len r U V → Got a D fV fC A o len r U' V' :=
  fun r U U' V V' h1 hal h2 ⟨e0, D', X, a1, a2, a3, a4, a5, a6, a7, a8, a9, a10, a11⟩ => ⟨e0, D', X, a1.mv hal h2, a2, by rw [h1]; exact a3, a4, by rw [h1]; exact a5.mv hal h2, a6, by rw [hal.findClass]; exact a7, a8, a9, by rw [h1, h2]; exact a10, by rw [h1, h2]; exact a11⟩
namespace New4
def yN : MethodName := ⟨"java/lang/String", "<init>", "([CIILjava/lang/Void;)V"⟩
abbrev yB : ByteArray := jdk_42_method_149_code
theorem d0 : decode yB 0 = .ok (.aload_n 0, 1) := by decide +kernel
theorem d1 : decode yB 1 = .ok (.invokespecial 1, 3) := by decide +kernel
theorem d4 : decode yB 4 = .ok (.iload_n 3, 1) := by decide +kernel
theorem d5 : decode yB 5 = .ok (.ifCond (.ne) 22, 3) := by decide +kernel
theorem d27 : decode yB 27 = .ok (.getstatic 38, 3) := by decide +kernel
theorem d30 : decode yB 30 = .ok (.ifCond (.eq) 28, 3) := by decide +kernel
theorem d33 : decode yB 33 = .ok (.aload_n 1, 1) := by decide +kernel
theorem d34 : decode yB 34 = .ok (.iload_n 2, 1) := by decide +kernel
theorem d35 : decode yB 35 = .ok (.iload_n 3, 1) := by decide +kernel
theorem d36 : decode yB 36 = .ok (.invokestatic 177, 3) := by decide +kernel
theorem d39 : decode yB 39 = .ok (.astore 5, 2) := by decide +kernel
theorem d41 : decode yB 41 = .ok (.aload_n 0, 1) := by decide +kernel
theorem d42 : decode yB 42 = .ok (.aload 5, 2) := by decide +kernel
theorem d44 : decode yB 44 = .ok (.iload_n 3, 1) := by decide +kernel
theorem d45 : decode yB 45 = .ok (.invokestatic 47, 3) := by decide +kernel
theorem d48 : decode yB 48 = .ok (.putfield 15, 3) := by decide +kernel
theorem d51 : decode yB 51 = .ok (.aload_n 0, 1) := by decide +kernel
theorem d52 : decode yB 52 = .ok (.aload 5, 2) := by decide +kernel
theorem d54 : decode yB 54 = .ok (.putfield 9, 3) := by decide +kernel
theorem d57 : decode yB 57 = .ok (.return_, 1) := by decide +kernel
def site : List Cond := [.fieldLink "java/lang/String" 38 "java/lang/String" "COMPACT_STRINGS" "Z", Cmp3.tab, CodL.tab, .laysFinal "java/lang/String" "java/lang/String" "value" "[B", .fieldLink "java/lang/String" 9 "java/lang/String" "value" "[B", .laysFinal "java/lang/String" "java/lang/String" "coder" "B", .fieldLink "java/lang/String" 15 "java/lang/String" "coder" "B"] ++ objW "java/lang/String" 1 ++ staticW "java/lang/String" 177 Cmp3.yN ++ staticW "java/lang/String" 47 CodL.yN
def tab : Cond := tabOf yN yB 6 none site
def P (a : Addr) (D : Cell) (fV fC : Field) (b : Addr) (A : Cell) (z : Int32) (o len : Nat) (args : Array Value) (s : State) : Prop := args = #[.ref a, .ref b, .int (Int32.ofNat o), .int (Int32.ofNat len), .null] ∧ Blank "java/lang/String" a D s ∧ Found "java/lang/String" "value" "[B" fV s ∧ Found "java/lang/String" "coder" "B" fC s ∧ Ch b A s ∧ StaticIs s "java/lang/String" "COMPACT_STRINGS" "Z" (.int z) ∧ ¬ z = 0 ∧ 0 < len ∧ o + len ≤ A.slots.size ∧ len ≤ 536870912 ∧ ∀ i, i < len → ¬ 255 < cv A (o + i)
def E (a : Addr) (D : Cell) (fV fC : Field) (A : Cell) (o len : Nat) (r : Option Value) (s u : State) : Prop := Got a D fV fC A o len r s u
/-- len > 0, no char of the range above 255: a Latin-1 String of their low bytes -/
theorem law (l : Launch) (a : Addr) (D : Cell) (fV fC : Field) (b : Addr) (A : Cell) (z : Int32) (o len : Nat) : Law l yN 5 4 2 35 yB 6 none site (P a D fV fC b A z o len) (E a D fV fC A o len) [⟨a, fC.slot⟩, ⟨a, fV.slot⟩] 1 len := by
  refine Law.of_walk (plainFor_of_name (by decide +kernel)) (by decide +kernel) (by decide +kernel) (by decide) (fun _ _ h => by rw [h.1]; rfl) (fun _ U U' hal hh h => ⟨h.1, h.2.1.mv hal hh, h.2.2.1.al hal, h.2.2.2.1.al hal, h.2.2.2.2.1.mv hal hh, h.2.2.2.2.2.1.there hal hh, h.2.2.2.2.2.2⟩) (fun r U U' V V' h1 hal h2 h => Got.mv r U U' V V' h1 hal h2 h) ?_
  intro p e s m args below meth c s₁ X0 hexec hbytes hml hret hlk hnm hown hh0 W hP
  obtain ⟨rfl, hB, f1, f2, hA, s1, hz, l0, l1, l2, hp⟩ := hP
  have a31 := hA.1.2.2.2
  have c1 : Steps p.tables e below (s₁.setTop (entryFrame m #[.ref a, .ref b, .int (Int32.ofNat o), .int (Int32.ofNat len), .null] 6)) (s₁.setTop (mkF m 0 #[.val (.ref a), .val (.ref b), .val (.int (Int32.ofNat o)), .val (.int (Int32.ofNat len)), .val .null, .unset] [])) := entry rfl
  have c2 : Steps p.tables e below (s₁.setTop (entryFrame m #[.ref a, .ref b, .int (Int32.ofNat o), .int (Int32.ofNat len), .null] 6)) (s₁.setTop (mkF m 1 #[.val (.ref a), .val (.ref b), .val (.int (Int32.ofNat o)), .val (.int (Int32.ofNat len)), .val .null, .unset] [.ref a])) := c1.trans (by
    refine XS.aloadN X0.here hexec rfl (hb hbytes d0) rfl rfl ?_
    exact Steps.refl _)
  obtain ⟨T3, X3, q3, st3⟩ := X0.oinit hexec hown (wks W (objW "java/lang/String" 1)) (g := (mkF m 1 #[.val (.ref a), .val (.ref b), .val (.int (Int32.ofNat o)), .val (.int (Int32.ofNat len)), .val .null, .unset] [.ref a])) rfl (by rw [hml]; rfl) (rest := []) rfl (hb hbytes d1) (W := 0) (by show 2 * 0 + 0 ≤ _; decide) (Nat.le_of_ble_eq_true rfl) (Nat.le_of_ble_eq_true rfl)
  have hh3 := q3.trans hh0
  have c4 : Steps p.tables e below (s₁.setTop (entryFrame m #[.ref a, .ref b, .int (Int32.ofNat o), .int (Int32.ofNat len), .null] 6)) (T3.setTop (mkF m 27 #[.val (.ref a), .val (.ref b), .val (.int (Int32.ofNat o)), .val (.int (Int32.ofNat len)), .val .null, .unset] [])) := (c2.trans (st3 _ (Steps.refl _))).trans (by
    refine XS.iloadN X3.here hexec rfl (hb hbytes d4) rfl ?_
    refine XS.ifYes X3.here hexec rfl (pc0 := 5) rfl (hb hbytes d5) rfl (i0_ne_t (nz32 (by omega) l0)) (by decide) rfl ?_
    exact Steps.refl _)
  obtain ⟨T5, X5, q5, st5⟩ := X3.sget hexec hown (wk W (.fieldLink "java/lang/String" 38 "java/lang/String" "COMPACT_STRINGS" "Z")) s1 (fun _ _ h => by rw [hh3]; exact h) (g := (mkF m 27 #[.val (.ref a), .val (.ref b), .val (.int (Int32.ofNat o)), .val (.int (Int32.ofNat len)), .val .null, .unset] [])) rfl (hb hbytes d27)
  have hh5 := q5.trans hh3
  have c6 : Steps p.tables e below (s₁.setTop (entryFrame m #[.ref a, .ref b, .int (Int32.ofNat o), .int (Int32.ofNat len), .null] 6)) (T5.setTop (mkF m 30 #[.val (.ref a), .val (.ref b), .val (.int (Int32.ofNat o)), .val (.int (Int32.ofNat len)), .val .null, .unset] [.int z])) := c4.trans (st5 _ (Steps.refl _))
  have c7 : Steps p.tables e below (s₁.setTop (entryFrame m #[.ref a, .ref b, .int (Int32.ofNat o), .int (Int32.ofNat len), .null] 6)) (T5.setTop (mkF m 36 #[.val (.ref a), .val (.ref b), .val (.int (Int32.ofNat o)), .val (.int (Int32.ofNat len)), .val .null, .unset] [.int (Int32.ofNat len), .int (Int32.ofNat o), .ref b])) := c6.trans (by
    refine XS.ifNo X5.here hexec rfl (hb hbytes d30) rfl (i0_eq_f hz) ?_
    refine XS.aloadN X5.here hexec rfl (hb hbytes d33) rfl rfl ?_
    refine XS.iloadN X5.here hexec rfl (hb hbytes d34) rfl ?_
    refine XS.iloadN X5.here hexec rfl (hb hbytes d35) rfl ?_
    exact Steps.refl _)
  obtain ⟨v8, T8, X8, E8, g8⟩ := X5.callS hexec (Cmp3.law l b A o len) hown (wks W (staticW "java/lang/String" 177 Cmp3.yN)) (wk W Cmp3.tab) (W := 0) (Nat.le_of_ble_eq_true rfl) (Nat.le_of_ble_eq_true rfl) (Nat.le_refl _) (by show 0 + len ≤ len; omega) (g := (mkF m 36 #[.val (.ref a), .val (.ref b), .val (.int (Int32.ofNat o)), .val (.int (Int32.ofNat len)), .val .null, .unset] [.int (Int32.ofNat len), .int (Int32.ofNat o), .ref b])) rfl (by rw [hml]; rfl) c7 (argsL := [.ref b, .int (Int32.ofNat o), .int (Int32.ofNat len)]) (rest := []) rfl rfl (by show 2 * 0 + 0 ≤ _; decide) (hb hbytes d36) (⟨rfl, hA.mv X5.warmed.alike hh5, l1, l2, hp⟩)
  obtain ⟨e8, z8⟩ := E8
  obtain ⟨rfl, N, n1, n2, n3, n4, n5, n6⟩ := NewArr.mv _ T5 s _ _ hh5.symm (Vm.Alike.refl _) rfl e8
  rw [hh5] at z8
  have hB1 := hB.keep X8.warmed.alike (n6 _ _ hB.1)
  have hne : s.heap.size ≠ a := (Nat.ne_of_lt (Array.getElem?_eq_some_iff.mp hB.1).1).symm
  have c9 : Steps p.tables e below (s₁.setTop (entryFrame m #[.ref a, .ref b, .int (Int32.ofNat o), .int (Int32.ofNat len), .null] 6)) (T8.setTop (mkF m 39 #[.val (.ref a), .val (.ref b), .val (.int (Int32.ofNat o)), .val (.int (Int32.ofNat len)), .val .null, .unset] [.ref s.heap.size])) := g8
  have c10 : Steps p.tables e below (s₁.setTop (entryFrame m #[.ref a, .ref b, .int (Int32.ofNat o), .int (Int32.ofNat len), .null] 6)) (T8.setTop (mkF m 45 #[.val (.ref a), .val (.ref b), .val (.int (Int32.ofNat o)), .val (.int (Int32.ofNat len)), .val .null, .val (.ref s.heap.size)] [.int (Int32.ofNat N.slots.size), .ref s.heap.size, .ref a])) := by
    have hc : Steps p.tables e below (s₁.setTop (entryFrame m #[.ref a, .ref b, .int (Int32.ofNat o), .int (Int32.ofNat len), .null] 6)) (T8.setTop (mkF m 45 #[.val (.ref a), .val (.ref b), .val (.int (Int32.ofNat o)), .val (.int (Int32.ofNat len)), .val .null, .val (.ref s.heap.size)] [.int (Int32.ofNat len), .ref s.heap.size, .ref a])) := c9.trans (by
      refine XS.astore X8.here hexec rfl (hb hbytes d39) rfl rfl rfl ?_
      refine XS.aloadN X8.here hexec rfl (hb hbytes d41) rfl rfl ?_
      refine XS.aload X8.here hexec rfl (hb hbytes d42) rfl rfl ?_
      refine XS.iloadN X8.here hexec rfl (hb hbytes d44) rfl ?_
      exact Steps.refl _)
    rw [n4]; exact hc
  obtain ⟨v11, T11, X11, E11, g11⟩ := X8.callS hexec (CodL.law l s.heap.size N) hown (wks W (staticW "java/lang/String" 47 CodL.yN)) (wk W CodL.tab) (W := 1) (Nat.le_of_ble_eq_true rfl) (Nat.le_of_ble_eq_true rfl) (Nat.le_refl _) (by show 0 + len + 0 ≤ len; omega) (g := (mkF m 45 #[.val (.ref a), .val (.ref b), .val (.int (Int32.ofNat o)), .val (.int (Int32.ofNat len)), .val .null, .val (.ref s.heap.size)] [.int (Int32.ofNat N.slots.size), .ref s.heap.size, .ref a])) rfl (by rw [hml]; rfl) c10 (argsL := [.ref s.heap.size, .int (Int32.ofNat N.slots.size)]) (rest := [.ref a]) rfl rfl (by show 2 * 0 + (1 + 0) ≤ _; decide) (hb hbytes d45) (⟨rfl, n1⟩)
  obtain ⟨rfl, q11⟩ := E11
  have hB11 := hB1.mv (X8.warmed.alike.symm.trans X11.warmed.alike) q11
  have c12 : Steps p.tables e below (s₁.setTop (entryFrame m #[.ref a, .ref b, .int (Int32.ofNat o), .int (Int32.ofNat len), .null] 6)) (T11.setTop (mkF m 48 #[.val (.ref a), .val (.ref b), .val (.int (Int32.ofNat o)), .val (.int (Int32.ofNat len)), .val .null, .val (.ref s.heap.size)] [.int 0, .ref a])) := g11
  obtain ⟨T13, X13, p13, bl13, sl13, st13⟩ := X11.finit hexec hown (wk W (.fieldLink "java/lang/String" 15 "java/lang/String" "coder" "B")) (Or.inr ⟨_, (wk W (.laysFinal "java/lang/String" "java/lang/String" "coder" "B"))⟩) (Or.inl ⟨rfl, hnm⟩) f2 (Or.inl rfl) hB11 (t := .byte) (by decide +kernel) rfl (g := (mkF m 48 #[.val (.ref a), .val (.ref b), .val (.int (Int32.ofNat o)), .val (.int (Int32.ofNat len)), .val .null, .val (.ref s.heap.size)] [.int 0, .ref a])) rfl (rest := []) rfl (hb hbytes d48)
  have c14 : Steps p.tables e below (s₁.setTop (entryFrame m #[.ref a, .ref b, .int (Int32.ofNat o), .int (Int32.ofNat len), .null] 6)) (T13.setTop (mkF m 54 #[.val (.ref a), .val (.ref b), .val (.int (Int32.ofNat o)), .val (.int (Int32.ofNat len)), .val .null, .val (.ref s.heap.size)] [.ref s.heap.size, .ref a])) := (c12.trans (st13 _ (Steps.refl _))).trans (by
    refine XS.aloadN X13.here hexec rfl (hb hbytes d51) rfl rfl ?_
    refine XS.aload X13.here hexec rfl (hb hbytes d52) rfl rfl ?_
    exact Steps.refl _)
  obtain ⟨T15, X15, p15, bl15, sl15, st15⟩ := X13.finit hexec hown (wk W (.fieldLink "java/lang/String" 9 "java/lang/String" "value" "[B")) (Or.inr ⟨_, (wk W (.laysFinal "java/lang/String" "java/lang/String" "value" "[B"))⟩) (Or.inl ⟨rfl, hnm⟩) f1 (Or.inl rfl) bl13 (t := (.array .byte)) (by decide +kernel) rfl (g := (mkF m 54 #[.val (.ref a), .val (.ref b), .val (.int (Int32.ofNat o)), .val (.int (Int32.ofNat len)), .val .null, .val (.ref s.heap.size)] [.ref s.heap.size, .ref a])) rfl (rest := []) rfl (hb hbytes d54)
  have c16 : Steps p.tables e below (s₁.setTop (entryFrame m #[.ref a, .ref b, .int (Int32.ofNat o), .int (Int32.ofNat len), .null] 6)) (T15.setTop (mkF m 57 #[.val (.ref a), .val (.ref b), .val (.int (Int32.ofNat o)), .val (.int (Int32.ofNat len)), .val .null, .val (.ref s.heap.size)] [])) := c14.trans (st15 _ (Steps.refl _))
  have ap := apart (Or.inr ⟨_, (wk W (.laysFinal "java/lang/String" "java/lang/String" "value" "[B"))⟩) (Or.inr ⟨_, (wk W (.laysFinal "java/lang/String" "java/lang/String" "coder" "B"))⟩) f1 f2 (t₁ := .array .byte) (t₂ := .byte) (by decide +kernel) (by decide +kernel) (by decide)
  have al := X8.warmed.alike.symm.trans X15.warmed.alike
  have n7 : T11.heap[s.heap.size]? = some N := by rw [q11]; exact n1.1
  exact ⟨T15, none, _, _, _, X15, by simp, rfl, by omega, (fun _ => rfl), ⟨rfl, _, N, bl15, ((Same.refl D _).set _ (by simp)).set _ (by simp), sl15, (Cell.slots_setSlot_ne _ ap).trans sl13, n1.keep al (p15.other hne (p13.other hne n7)), n2, by rw [al.findClass]; exact n3, n4, n5, fun y c h1 h2 => p15.other h1 (p13.other h1 (by rw [q11]; exact n6 y c h2)), by rw [p15.2.2, p13.2.2, q11]; exact z8⟩, fun fs hl => c16.trans (X15.returnOut hexec hret (hb hbytes d57) hl)⟩
end New4
namespace New1
def yN : MethodName := ⟨"java/lang/String", "<init>", "([C)V"⟩
abbrev yB : ByteArray := jdk_42_method_3_code
theorem d0 : decode yB 0 = .ok (.aload_n 0, 1) := by decide +kernel
theorem d1 : decode yB 1 = .ok (.aload_n 1, 1) := by decide +kernel
theorem d2 : decode yB 2 = .ok (.iconst 0, 1) := by decide +kernel
theorem d3 : decode yB 3 = .ok (.aload_n 1, 1) := by decide +kernel
theorem d4 : decode yB 4 = .ok (.arraylength, 1) := by decide +kernel
theorem d5 : decode yB 5 = .ok (.aconst_null, 1) := by decide +kernel
theorem d6 : decode yB 6 = .ok (.invokespecial 27, 3) := by decide +kernel
theorem d9 : decode yB 9 = .ok (.return_, 1) := by decide +kernel
def site : List Cond := [New4.tab] ++ initW "java/lang/String" 27 New4.yN
def tab : Cond := tabOf yN yB 2 none site
def P (a : Addr) (D : Cell) (fV fC : Field) (b : Addr) (A : Cell) (z : Int32) (args : Array Value) (s : State) : Prop := args = #[.ref a, .ref b] ∧ Blank "java/lang/String" a D s ∧ Found "java/lang/String" "value" "[B" fV s ∧ Found "java/lang/String" "coder" "B" fC s ∧ Ch b A s ∧ StaticIs s "java/lang/String" "COMPACT_STRINGS" "Z" (.int z) ∧ ¬ z = 0 ∧ 0 < A.slots.size ∧ A.slots.size ≤ 536870912 ∧ ∀ i, i < A.slots.size → ¬ 255 < cv A i
def E (a : Addr) (D : Cell) (fV fC : Field) (A : Cell) (r : Option Value) (s u : State) : Prop := Got a D fV fC A 0 A.slots.size r s u
/-- new String(chars), not empty, no char above 255: a Latin-1 String of their low bytes -/
theorem law (l : Launch) (a : Addr) (D : Cell) (fV fC : Field) (b : Addr) (A : Cell) (z : Int32) : Law l yN 2 1 3 52 yB 2 none site (P a D fV fC b A z) (E a D fV fC A) [⟨a, fC.slot⟩, ⟨a, fV.slot⟩] 1 A.slots.size := by
  refine Law.of_walk (plainFor_of_name (by decide +kernel)) (by decide +kernel) (by decide +kernel) (by decide) (fun _ _ h => by rw [h.1]; rfl) (fun _ U U' hal hh h => ⟨h.1, h.2.1.mv hal hh, h.2.2.1.al hal, h.2.2.2.1.al hal, h.2.2.2.2.1.mv hal hh, h.2.2.2.2.2.1.there hal hh, h.2.2.2.2.2.2⟩) (fun r U U' V V' h1 hal h2 h => Got.mv r U U' V V' h1 hal h2 h) ?_
  intro p e s m args below meth c s₁ X0 hexec hbytes hml hret hlk hnm hown hh0 W hP
  obtain ⟨rfl, hB, f1, f2, hA, s1, hz, l0, l2, hp⟩ := hP
  have c1 : Steps p.tables e below (s₁.setTop (entryFrame m #[.ref a, .ref b] 2)) (s₁.setTop (mkF m 0 #[.val (.ref a), .val (.ref b)] [])) := entry rfl
  have c2 : Steps p.tables e below (s₁.setTop (entryFrame m #[.ref a, .ref b] 2)) (s₁.setTop (mkF m 6 #[.val (.ref a), .val (.ref b)] [.null, .int (Int32.ofNat A.slots.size), .int 0, .ref b, .ref a])) := c1.trans (by
    refine XS.aloadN X0.here hexec rfl (hb hbytes d0) rfl rfl ?_
    refine XS.aloadN X0.here hexec rfl (hb hbytes d1) rfl rfl ?_
    refine iconstV X0.here hexec rfl 0 (hb hbytes d2) (by decide) ?_
    refine XS.aloadN X0.here hexec rfl (hb hbytes d3) rfl rfl ?_
    refine X0.alen hexec (hA.1.mv X0.warmed.alike hh0) rfl rfl (hb hbytes d4) ?_
    refine XS.aconstNull X0.here hexec rfl (hb hbytes d5) ?_
    exact Steps.refl _)
  obtain ⟨v3, T3, X3, E3, g3⟩ := X0.callN hexec (New4.law l a D fV fC b A z 0 A.slots.size) rfl hown (wks W (initW "java/lang/String" 27 New4.yN)) (W New4.tab (by simp only [site, List.mem_cons, List.mem_append, true_or, or_true])) (W := 0) (Nat.le_of_ble_eq_true rfl) (Nat.le_of_ble_eq_true rfl) (Nat.le_refl _) (by show 0 + A.slots.size ≤ A.slots.size; omega) (g := (mkF m 6 #[.val (.ref a), .val (.ref b)] [.null, .int (Int32.ofNat A.slots.size), .int (Int32.ofNat 0), .ref b, .ref a])) rfl (by rw [hml]; rfl) c2 (argsL := [.ref b, .int (Int32.ofNat 0), .int (Int32.ofNat A.slots.size), .null]) (rest := []) rfl rfl (by show 2 * 0 + 0 ≤ _; decide) (hb hbytes d6) (⟨rfl, hB.mv X0.warmed.alike hh0, f1.al X0.warmed.alike, f2.al X0.warmed.alike, hA.mv X0.warmed.alike hh0, s1.there X0.warmed.alike hh0, hz, l0, by omega, l2, fun i hi => by rw [Nat.zero_add]; exact hp i hi⟩)
  have e0 := Got.mv _ s₁ s _ _ hh0.symm (Vm.Alike.refl _) rfl E3
  obtain rfl := e0.1
  have c4 : Steps p.tables e below (s₁.setTop (entryFrame m #[.ref a, .ref b] 2)) (T3.setTop (mkF m 9 #[.val (.ref a), .val (.ref b)] [])) := g3
  exact ⟨T3, none, _, _, _, X3, by simp, rfl, by omega, (fun _ => rfl), e0, fun fs hl => c4.trans (X3.returnOut hexec hret (hb hbytes d9) hl)⟩
theorem pays {l : Launch} {R : Room} {p : Program} {e : Env} {below : List Frame} {s : State} {sargs : Array Value} {len W : Nat} (a : Addr) (D : Cell) (fV fC : Field) (b : Addr) (A : Cell) (z : Int32) (htab : tab.before sargs s = true) (hfr : 4 ≤ R.frames) (hlo : W + 65 ≤ R.locals) :
    Back l R p e below s sargs yN len W (fun A₁ a₁ => A₁.cells + 1 ≤ R.cells ∧ A₁.slots + A.slots.size ≤ R.slots ∧ P a D fV fC b A z a₁ A₁.U) (fun A₁ _ v₁ B₁ => E a D fV fC A v₁ A₁.U B₁.U ∧ B₁.locs = A₁.locs ++ [⟨a, fC.slot⟩, ⟨a, fV.slot⟩] ∧ B₁.cells = A₁.cells + 1 ∧ B₁.slots = A₁.slots + A.slots.size) :=
  (law l a D fV fC b A z).pays htab hfr (by omega)
end New1
end StrChars
namespace StrChars.Road
open Jvm Sem ClassFile Op Lib Jvm.Stand Jvm.Free Jvm.Free.XT
open Jvm.Lib.Cold (StaticIs)
abbrev ST : String := "java/lang/String"
/-- every table word that New1's law asks, flat -/
abbrev words : List Jvm.Cond := [.code New1.yN New1.yB 2 none, .initialized ST, .methodLink ST 27 New4.yN, .instanceMethod New4.yN,
  .code New4.yN New4.yB 6 none, .fieldLink ST 38 ST "COMPACT_STRINGS" "Z", .laysFinal ST ST "value" "[B", .fieldLink ST 9 ST "value" "[B", .laysFinal ST ST "coder" "B", .fieldLink ST 15 ST "coder" "B",
  .methodLink ST 1 Lib.objectInit, .instanceMethod Lib.objectInit, .code Lib.objectInit ⟨#[0xb1]⟩ 1 none, .methodLink ST 177 Cmp3.yN, .static Cmp3.yN, .methodLink ST 47 CodL.yN, .static CodL.yN,
  .code Cmp3.yN Cmp3.yB 6 (some (.array .byte)), .initialized U16, .arrayClass .byte, .methodLink U16 115 Cmp5.yN, .static Cmp5.yN, .code Cmp5.yN Cmp5.yB 7 (some .int), .code CodL.yN CodL.yB 2 (some .byte)]
theorem tab_of {a : Array Value} {s : State} (h : ∀ w ∈ words, w.before a s = true) : New1.tab.before a s = true := by
  have h5 : Cmp5.tab.before a s = true := unparts (wk h (.code Cmp5.yN Cmp5.yB 7 (some .int))) (wks h (.initialized Cmp5.yN.cls :: Cmp5.site))
  have hc : CodL.tab.before a s = true := unparts (wk h (.code CodL.yN CodL.yB 2 (some .byte))) (wks h (.initialized CodL.yN.cls :: CodL.site))
  have q5 : ∀ w ∈ Cmp5.tab :: words, w.before a s = true := fun w hw => (List.mem_cons.mp hw).elim (fun e => e ▸ h5) (h w)
  have h3 : Cmp3.tab.before a s = true := unparts (wk q5 (.code Cmp3.yN Cmp3.yB 6 (some (.array .byte)))) (wks q5 (.initialized Cmp3.yN.cls :: Cmp3.site))
  have q3 : ∀ w ∈ Cmp3.tab :: CodL.tab :: words, w.before a s = true := fun w hw => (List.mem_cons.mp hw).elim (fun e => e ▸ h3) fun hw => (List.mem_cons.mp hw).elim (fun e => e ▸ hc) (h w)
  have h4 : New4.tab.before a s = true := unparts (wk q3 (.code New4.yN New4.yB 6 none)) (wks q3 (.initialized New4.yN.cls :: New4.site))
  have q4 : ∀ w ∈ New4.tab :: words, w.before a s = true := fun w hw => (List.mem_cons.mp hw).elim (fun e => e ▸ h4) (h w)
  exact unparts (wk q4 (.code New1.yN New1.yB 2 none)) (wks q4 (.initialized New1.yN.cls :: New1.site))
/-- the words ride from the start Z to the walk's own state -/
theorem moved {Z s : State} {a0 args : Array Value} (hZ : Z.Warmed39 s.vm) (hw : ∀ d ∈ words, d.before a0 Z = true) : ∀ d ∈ words, d.before args s = true := fun d hd => by
  have q := hw d hd
  have t : ∀ d ∈ words, d = .arrayClass .byte ∨ (d.onTables && d.keepsFace) = true := by decide +kernel
  rcases t d hd with rfl | t
  · exact RoadKit.mvA hZ q
  · exact RoadKit.mv hZ q t
/-- WHAT COMES BACK, over the tables of the start Z: h the heap at the call, h' behind it -/
def Q (Z : State) (x : Addr) (A : Cell) (h : Heap) (v : Option Value) (h' : Heap) (L : List Loc) : Prop := v = none ∧ (∀ y ∈ L, y.base = x) ∧ RoadKit.Keep h h' [x] ∧ h'.size = h.size + 1 ∧ RoadKit.Exa Z h' x ST ∧ RoadKit.Fld Z h' x ST "value" "[B" (.ref h.size) ∧ RoadKit.Fld Z h' x ST "coder" "B" (.int 0) ∧
  (∃ V : Cell, RoadKit.Arr Z h' h.size V .byte ∧ V.vm = .none ∧ Z.vm.findClass "[B" = some V.cls ∧ V.slots.size = A.slots.size ∧ ∀ j, j < A.slots.size → V.slots[j]? = some (.int (lo8 (cv A j)))) ∧
  ∀ (O n d : String) (w : Value), RoadKit.Fld Z h x O n d w → RoadKit.slotOf Z O n d ≠ RoadKit.slotOf Z ST "value" "[B" → RoadKit.slotOf Z O n d ≠ RoadKit.slotOf Z ST "coder" "B" → RoadKit.Fld Z h' x O n d w
/-- **new String(chars) AT A CALL, IN THE ROAD'S FORM**: for specialBack behind newO: x the fresh String, b the char[] with the cell A -/
theorem back {p : Program} {l : Launch} {e : Env} {R : Room} {s : State} {args : Array Value} {below : List Frame} {len W : Nat} {Z : State} {a0 : Array Value} {h : Heap} (hZ : Z.Warmed39 s.vm) (hw : ∀ d ∈ words, d.before a0 Z = true) {kI : Nat} (wi : (Jvm.Cond.instantiable ST kI).before a0 Z = true)
    {x b : Addr} {A : Cell} {z : Int32} {v0 c0 : Value} (E : RoadKit.Exa Z h x ST) (V : RoadKit.Fld Z h x ST "value" "[B" v0) (C : RoadKit.Fld Z h x ST "coder" "B" c0) (K : RoadKit.Arr Z h b A .char) (hty : Typed .char A) (S : RoadKit.Sta Z h ST "COMPACT_STRINGS" "Z" (.int z)) (hz : ¬ z = 0)
    (l0 : 0 < A.slots.size) (l2 : A.slots.size ≤ 536870912) (hp : ∀ i, i < A.slots.size → ¬ 255 < cv A i) (hfr : 4 ≤ R.frames) (hlo : W + 65 ≤ R.locals) :
    Back l R p e below s args New1.yN len W (fun P a => a = #[.ref x, .ref b] ∧ P.U.heap = h ∧ P.cells + 1 ≤ R.cells ∧ P.slots + A.slots.size ≤ R.slots)
      (fun P _ v B => ∃ L, Q Z x A h v B.U.heap L ∧ B.locs = P.locs ++ L ∧ B.cells = P.cells + 1 ∧ B.slots = P.slots + A.slots.size) := by
  intro m meth c P g ig mk a X hg hsize hdg hW hn hp'
  obtain ⟨rfl, rfl, r1, r2⟩ := hp'
  have al : Z.vm.Alike P.U.vm := hZ.alike.trans X.warmed.alike
  obtain ⟨D, cfV, kV, iV, fV, hD, gV, stV, knV, obV, asV, slV⟩ := id V
  obtain ⟨D', cfC, kC, iC, fC, hD', gC, stC, -, -, asC, slC⟩ := id C
  cases hD.symm.trans hD'
  obtain ⟨D2, kD, e1, e2, e3, e4, e5⟩ := id E
  cases hD.symm.trans e1
  obtain ⟨c2, k2, i1, i2, i3, -⟩ := Cond.instantiable_spec wi
  cases e2.symm.trans i1
  cases e3.symm.trans i2
  obtain ⟨kU, u1, u2⟩ := al.2.2 _ _ e3
  have hB : Blank ST x D P.U := ⟨hD, ⟨knV, fun q hq => by rw [hq] at obV; cases obV⟩, by rw [al.findClass]; exact e2, kU, u1, by rw [u2]; exact i3, by rw [u2]; exact e5 i3⟩
  have F1 : Found ST "value" "[B" fV P.U := ⟨SBG.found_only al ⟨cfV, kV, iV, gV⟩, stV⟩
  have F2 : Found ST "coder" "B" fC P.U := ⟨SBG.found_only al ⟨cfC, kC, iC, gC⟩, stC⟩
  have hA : Ch b A P.U := ⟨⟨K.1, State.isArrayOf_alike al K.2.1, K.2.2, by omega⟩, hty⟩
  have hS : StaticIs P.U ST "COMPACT_STRINGS" "Z" (.int z) := by
    obtain ⟨cfS, iS, kS, fS, st, cS, t1, t2, t3, t4, t5, t6, t7⟩ := S
    exact StaticIs.there (s := { Z with heap := P.U.heap }) ⟨cfS, iS, kS, fS, st, cS, t1, t2, t3, t4, t5, (fun q => by rw [q] at t6; cases t6), t7⟩ al rfl
  obtain ⟨v, B, X', ⟨⟨hv, E', V', q1, q2, q3, q4, q5, q6, q7, q8, q9, q10, q11⟩, hl, hc, hs⟩, st⟩ := New1.pays x D fV fC b A z (tab_of (moved hZ hw)) hfr hlo m meth c P g ig mk _ X hg hsize hdg hW hn ⟨r1, r2, rfl, hB, F1, F2, hA, hS, hz, l0, l2, hp⟩
  have al' : Z.vm.Alike B.U.vm := hZ.alike.trans X'.warmed.alike
  have hsz : E'.slots.size = D.slots.size := by
    obtain ⟨-, -, -, kB, w1, w2, w3⟩ := q1
    obtain ⟨kB', y1, y2⟩ := al'.2.2 _ _ e3
    rw [q2.2.1] at w1
    cases w1.symm.trans y1
    rw [w3, e5 i3, y2]
  refine ⟨v, B, X', ⟨_, ⟨hv, ?_, ⟨by omega, fun y cy hy hn' => q10 y cy (by simpa using hn') hy, fun y cy hy => ?_⟩, q11, ⟨E', _, q1.1, by rw [q2.2.1]; exact e2, by rw [q2.2.1]; exact e3, by rw [q2.1]; exact obV, fun _ => by rw [hsz]; exact e5 i3⟩,
    ⟨E', cfV, kV, iV, fV, q1.1, gV, stV, by rw [q2.1]; exact knV, by rw [q2.1]; exact obV, by rw [q2.2.1]; exact asV, q3⟩, ⟨E', cfC, kC, iC, fC, q1.1, gC, stC, by rw [q2.1]; exact knV, by rw [q2.1]; exact obV, by rw [q2.2.1]; exact asC, q4⟩,
    ⟨V', ⟨q5.1, State.isArrayOf_alike al'.symm q5.2.1, q5.2.2.1⟩, q6, by rw [← al'.findClass]; exact q7, q8, fun j hj => by have := q9 j hj; rwa [Nat.zero_add] at this⟩, fun O n d w F n1 n2 => ?_⟩, hl, hc, hs⟩, st⟩
  · intro y hy
    simp only [List.mem_cons, List.not_mem_nil, or_false] at hy
    rcases hy with rfl | rfl <;> rfl
  · by_cases q : y = x
    · subst q
      cases hD.symm.trans hy
      exact ⟨E', q1.1, q2.2.1, q2.1, hsz⟩
    · exact ⟨cy, q10 y cy q hy, rfl, rfl, rfl⟩
  · obtain ⟨D3, cf, k, i, f, g1, g2, g3, g4, g5, g6, g7⟩ := F
    cases hD.symm.trans g1
    simp only [RoadKit.slotOf, g2, gV, gC, Option.map_some, Option.getD_some] at n1 n2
    exact ⟨E', cf, k, i, f, q1.1, g2, g3, by rw [q2.1]; exact g4, by rw [q2.1]; exact g5, by rw [q2.2.1]; exact g6, by rw [q2.2.2 f.slot (by simp [n1, n2])]; exact g7⟩
end StrChars.Road
namespace StrChars.Road
open Jvm Sem ClassFile Op Lib Jvm.Stand Jvm.Free Jvm.Free.XT
/-- WHAT COMES BACK, the byte[] as a list of values -/
def QA (Z : State) (x : Addr) (zn : Int32) (cs : List Int32) (h : Heap) (v : Option Value) (h' : Heap) (L : List Loc) : Prop := v = none ∧ (∀ y ∈ L, y.base = x) ∧ RoadKit.Keep h h' [x] ∧ h'.size = h.size + 1 ∧ RoadKit.Exa Z h' x ST ∧ RoadKit.Fld Z h' x ST "value" "[B" (.ref h.size) ∧ RoadKit.Fld Z h' x ST "coder" "B" (.int 0) ∧
  (∃ kb, Z.vm.findClass "[B" = some kb ∧ RoadKit.Arv Z h' h.size kb .byte zn (cs.map fun c => .int (lo8 c)) (.int 0)) ∧
  ∀ (O n d : String) (w : Value), RoadKit.Fld Z h x O n d w → RoadKit.slotOf Z O n d ≠ RoadKit.slotOf Z ST "value" "[B" → RoadKit.slotOf Z O n d ≠ RoadKit.slotOf Z ST "coder" "B" → RoadKit.Fld Z h' x O n d w
/-- **new String(chars) AT A CALL, THE ARRAYS AS LISTS**: the char[] at b holds cs, not empty, no char above 255 -/
theorem backArv {p : Program} {l : Launch} {e : Env} {R : Room} {s : State} {args : Array Value} {below : List Frame} {len W : Nat} {Z : State} {a0 : Array Value} {h : Heap} (hZ : Z.Warmed39 s.vm) (hw : ∀ d ∈ words, d.before a0 Z = true) {kI : Nat} (wi : (Jvm.Cond.instantiable ST kI).before a0 Z = true)
    {x b : Addr} {k : ClassId} {zn z : Int32} {cs : List Int32} {dv v0 c0 : Value} (E : RoadKit.Exa Z h x ST) (V : RoadKit.Fld Z h x ST "value" "[B" v0) (C : RoadKit.Fld Z h x ST "coder" "B" c0) (K : RoadKit.Arv Z h b k .char zn (cs.map Value.int) dv) (S : RoadKit.Sta Z h ST "COMPACT_STRINGS" "Z" (.int z)) (hz : ¬ z = 0)
    (hlen : zn.toNatClampNeg = cs.length) (h0 : 0 < cs.length) (hbig : cs.length ≤ 536870912) (hall : ∀ c ∈ cs, ¬ 255 < c) (hfr : 4 ≤ R.frames) (hlo : W + 65 ≤ R.locals) :
    Back l R p e below s args New1.yN len W (fun P a => a = #[.ref x, .ref b] ∧ P.U.heap = h ∧ P.cells + 1 ≤ R.cells ∧ P.slots + cs.length ≤ R.slots)
      (fun P _ v B => ∃ L, QA Z x zn cs h v B.U.heap L ∧ B.locs = P.locs ++ L ∧ B.cells = P.cells + 1 ∧ B.slots = P.slots + cs.length) := by
  obtain ⟨A, K1, K2, K3, K4, K5, K6⟩ := K
  have e : A.slots.size = cs.length := K3.trans hlen
  have hat : ∀ (i : Nat) (hi : i < cs.length), A.slots[i]? = some (.int cs[i]) := fun i hi => by rw [K5 i (by omega)]; simp [List.getD_eq_getElem?_getD, hi]
  have hcv : ∀ (i : Nat) (hi : i < cs.length), cv A i = cs[i] := fun i hi => by unfold cv; rw [hat i hi]
  have hty : Typed .char A := fun i v hv => by
    have hi : i < A.slots.size := (Array.getElem?_eq_some_iff.mp hv).1
    have q := K5 i hi
    rw [hv] at q
    rw [Option.some.inj q]
    exact K6 i hi
  refine Back.mono (back hZ hw wi E V C K1 hty S hz (by omega) (by omega) (fun i hi => by rw [hcv i (by omega)]; exact hall _ (List.getElem_mem _)) hfr hlo) (fun P a hp => ⟨hp.1, hp.2.1, hp.2.2.1, by rw [e]; exact hp.2.2.2⟩) (fun P a v B hp hq => ?_)
  obtain ⟨L, ⟨q1, q2, q3, q4, q5, q6, q7, ⟨V', v1, v2, v3, v4, v5⟩, q9⟩, hl, hc, hs⟩ := hq
  refine ⟨L, ⟨q1, q2, q3, q4, q5, q6, q7, ⟨V'.cls, v3, V', v1, rfl, by rw [v4, e, hlen], K4, fun i hi => ?_, fun i hi => ?_⟩, q9⟩, hl, hc, by rw [hs, e]⟩
  · have hi' : i < cs.length := by omega
    rw [v5 i (by omega), hcv i hi']; simp [List.getD_eq_getElem?_getD, hi']
  · have hi' : i < cs.length := by omega
    simp only [List.getD_eq_getElem?_getD, List.getElem?_map, List.getElem?_eq_getElem hi', Option.map_some, Option.getD_some]
    exact fits_lo8 _
end StrChars.Road
namespace StrChars.Road
open Jvm Sem ClassFile Op Lib Jvm.Stand Jvm.Free Jvm.Free.XT
/-- WHAT COMES BACK, in the writer's own shape -/
def QV (Z : State) (x : Addr) (N : Int32) (bs : List Int32) (h : Heap) (n0 : Nat) (v : Option Value) (h' : Heap) (L : List Loc) : Prop := v = none ∧ RoadKit.Fr n0 L ∧ RoadKit.Keep h h' [x] ∧ RoadKit.Exa Z h' x ST ∧ RoadKit.Fld Z h' x ST "coder" "B" (.int 0) ∧
  ∃ (t : Addr) (kb : ClassId), n0 ≤ t ∧ h.size ≤ t ∧ ¬ t = x ∧ RoadKit.Fld Z h' x ST "value" "[B" (.ref t) ∧ RoadKit.Arv Z h' t kb .byte N (bs.map Value.int) (.int 0)
/-- **new String(chars) AT A CALL, FOR THE WRITER**: a char[] of n known ints, each 0 to 255 -/
theorem backV {p : Program} {l : Launch} {e : Env} {R : Room} {s : State} {args : Array Value} {below : List Frame} {len W : Nat} {Z : State} {a0 : Array Value} {h : Heap} (hZ : Z.Warmed39 s.vm) (hw : ∀ d ∈ words, d.before a0 Z = true) {kI : Nat} (wi : (Jvm.Cond.instantiable ST kI).before a0 Z = true)
    {x b : Addr} {kC : ClassId} {cs bs : List Int32} {d v0 c0 : Value} {z N : Int32} {n n0 : Nat} (hx0 : n0 ≤ x) (hh0 : n0 ≤ h.size) (E : RoadKit.Exa Z h x ST) (V : RoadKit.Fld Z h x ST "value" "[B" v0) (C : RoadKit.Fld Z h x ST "coder" "B" c0) (K : RoadKit.Arv Z h b kC .char N (cs.map Value.int) d) (S : RoadKit.Sta Z h ST "COMPACT_STRINGS" "Z" (.int z)) (hz : ¬ z = 0)
    (hn : cs.length = n) (hN : N = Int32.ofNat n) (l0 : 0 < n) (l2 : n ≤ 4000) (hp : ∀ c ∈ cs, ¬ c < 0 ∧ ¬ (255 : Int32) < c) (hb : bs = cs.map (fun c => c.toInt8.toInt32)) (hfr : 4 ≤ R.frames) (hlo : W + 65 ≤ R.locals) :
    Back l R p e below s args (⟨"java/lang/String", "<init>", "([C)V"⟩ : MethodName) len W (fun P a => a = #[.ref x, .ref b] ∧ P.U.heap = h ∧ P.cells + 1 ≤ R.cells ∧ P.slots + n ≤ R.slots)
      (fun P _ v B => ∃ L, QV Z x N bs h n0 v B.U.heap L ∧ B.locs = P.locs ++ L ∧ B.cells = P.cells + 1 ∧ B.slots = P.slots + n) := by
  subst hn hN hb
  refine Back.mono (backArv hZ hw wi E V C K S hz (n32 (by omega)) l0 (by omega) (fun c hc => (hp c hc).2) hfr hlo) (fun P a hp => hp) (fun P a v B hp hq => ?_)
  obtain ⟨L, ⟨q1, q2, q3, q4, q5, q6, q7, ⟨kb, v1, v2⟩, q9⟩, hl, hc, hs⟩ := hq
  exact ⟨L, ⟨q1, fun y hy => by rw [q2 y hy]; exact hx0, q3, q5, q7, h.size, kb, hh0, Nat.le_refl _, Nat.ne_of_gt E.lt, q6, by rw [List.map_map]; exact v2⟩, hl, hc, hs⟩
end StrChars.Road
end Jvm.Pilot.@@N@@

namespace Jvm.Pilot.@@N@@
open Jvm Jvm.ClassFile Sem Op Lib Jvm.Free Jvm.Stand Jvm.LawKit Jvm.RoadKit Bundle Jvm.Pilot.@@N@@.Jvm.D

section OwnKit
variable {p : Program} {l : Launch} {e : Env} {R : Room} {s : State} {m : MethodId} {args : Array Value} {below : List Frame} {meth : Method} {c : Code} {T : State} {locs : List Loc} {cells slots : Nat}
/-- from A the invocation ends, and what it leaves is Q, within K cells and N slots -/
def OD (p : Program) (e : Env) (s : State) (below : List Frame) (Q : Option Value → Heap → List Loc → Prop) (K N : Nat) (A : State) : Prop :=
  ∃ s₂ o, Steps p.tables e below A s₂ ∧ s₂.status = .running ∧ Ended s₂ below o ∧ ∃ v L, o = .returned v ∧ Q v s₂.heap L ∧ FrameEnd s o s₂ L K N
theorem OD.go {Q : Option Value → Heap → List Loc → Prop} {K N : Nat} {A B : State} (h : ∀ t, Steps p.tables e below B t → Steps p.tables e below A t) (k : OD p e s below Q K N B) : OD p e s below Q K N A := by
  obtain ⟨s₂, o, h1, r⟩ := k
  exact ⟨s₂, o, h _ h1, r⟩
theorem OD.via {Q : Option Value → Heap → List Loc → Prop} {K N : Nat} {A B : State} (h : Steps p.tables e below A B) (k : OD p e s below Q K N B) : OD p e s below Q K N A := OD.go (fun _ q => h.trans q) k
theorem OD.cut {Q : Option Value → Heap → List Loc → Prop} {K N : Nat} {A B : State} (f : OD p e s below Q K N B → OD p e s below Q K N A) (g : OD p e s below Q K N B) : OD p e s below Q K N A := f g
theorem OD.cutA {Q : Option Value → Heap → List Loc → Prop} {K N : Nat} {A : State} {P : State → Prop} {B : State → State} (f : (∀ T, P T → OD p e s below Q K N (B T)) → OD p e s below Q K N A) (g : ∀ T, P T → OD p e s below Q K N (B T)) : OD p e s below Q K N A := f g
theorem OD.ret {Q : Option Value → Heap → List Loc → Prop} {K N : Nat} (X : Stand p l e R s m args below meth c T locs cells slots) (hx : p.tables.exec = Jvm.exec) (hlk : meth.locks = false) {pc : Nat} {Ls : Array Slot} {w : Value} {t : FieldType} {i : Instr} {rest : List Value} (hret : meth.sig.returnType = some t) (hn : narrow t w = w)
    (hi : (i = .ireturn ∧ (t = .int ∨ t = .boolean ∨ t = .byte ∨ t = .char ∨ t = .short) ∧ ∃ z, w = .int z) ∨ (i = .lreturn ∧ t = .long ∧ ∃ z, w = .long z) ∨ (i = .dreturn ∧ t = .double ∧ ∃ z, w = .double z) ∨ (i = .freturn ∧ t = .float ∧ ∃ z, w = .float z) ∨ (i = .areturn ∧ t.isReference = true ∧ w.isRef = true))
    (hd : decode c.code pc = .ok (i, 1)) (hk : cells ≤ K) (hs : slots ≤ N) (hQ : Q (some w) T.heap locs) : OD p e s below Q K N (T.setTop (mkF m pc Ls (w :: rest))) := by
  obtain ⟨fs, hr, hrun, hended, hW, hsame⟩ := X.leave (v := some w) (fun h => by rw [hret] at h; cases h) hlk
  exact ⟨_, _, retOut X hx hret hn hi hd hr, hrun, hended, _, _, rfl, hQ, ⟨_, rfl⟩, hW, hsame.mono hk hs⟩
theorem OD.retV {Q : Option Value → Heap → List Loc → Prop} {K N : Nat} (X : Stand p l e R s m args below meth c T locs cells slots) (hx : p.tables.exec = Jvm.exec) (hlk : meth.locks = false) {pc : Nat} {Ls : Array Slot} (hret : meth.sig.returnType = none)
    (hd : decode c.code pc = .ok (.return_, 1)) (hk : cells ≤ K) (hs : slots ≤ N) (hQ : Q none T.heap locs) : OD p e s below Q K N (T.setTop (mkF m pc Ls [])) := by
  obtain ⟨fs, hr, hrun, hended, hW, hsame⟩ := X.leave (v := none) (fun _ => rfl) hlk
  exact ⟨_, _, X.returnOut hx hret hd hr, hrun, hended, _, _, rfl, hQ, ⟨_, rfl⟩, hW, hsame.mono hk hs⟩
theorem own_len {Z : State} {h : Heap} {a : Addr} {k : ClassId} {ty : FieldType} {z : Int32} {vs : List Value} {dv : Value} (F : Arv Z h a k ty z vs dv) : ∃ cl : Cell, Arr Z h a cl ty ∧ cl.slots.size.toInt32 = z := by
  obtain ⟨cl, A, -, S, M, -⟩ := F
  exact ⟨cl, A, len_of S M⟩
theorem own_at {Z : State} {h : Heap} {a : Addr} {k : ClassId} {ty : FieldType} {z j : Int32} {vs : List Value} {dv v : Value} (F : Arv Z h a k ty z vs dv) (q : ¬ j < 0 ∧ j < z) (u : vs.getD j.toNatClampNeg dv = v) : ∃ cl : Cell, Arr Z h a cl ty ∧ ¬ (j < 0 ∨ cl.slots.size ≤ j.toNatClampNeg) ∧ cl.slots[j.toNatClampNeg]? = some v := by
  obtain ⟨cl, A, -, S, M, H, -⟩ := F
  exact ⟨cl, A, inb_of S q, H.at (inb_of S q) u⟩
theorem own_inst {Z : State} {a0 : Array Value} {h : Heap} {own C K : String} {index : Nat} {a : Addr} (X : Stand p l e R s m args below meth c T locs cells slots) (hZ : Z.Warmed39 s.vm) (hown : s.vm.findClass own = some m.cls) (w : (Jvm.Cond.classLink own index K).before a0 Z = true) (E : Exa Z h a C) : Ins Z h a K true ∨ ∃ c t, Z.vm.findClass C = some c ∧ Z.vm.findClass K = some t ∧ Z.vm.assignable c t = false := by
  have hpl : e.platform.magicAccessors = ({} : Platform).magicAccessors := by rw [X.admits.platform]
  obtain ⟨c', hc', -⟩ := Cond.classLink_spec (args := args) hown (mv hZ w) e.platform hpl
  rw [hZ.alike.findClass] at hc'
  obtain ⟨cell, k, h1, h2, h3, h4, -⟩ := E
  cases ha : Z.vm.assignable cell.cls c' with
  | true => exact Or.inl ⟨cell, c', h1, hc', by rw [ha, h4]; rfl⟩
  | false => exact Or.inr ⟨_, _, h2, hc', ha⟩
end OwnKit
/-- a cache: an array of references, 256 long -/
def OCach (Z : State) (a : Addr) (C : String) : Prop := ∃ q : Cell, Arr Z Z.heap a q (.object C) ∧ ∀ j : Int32, (¬ j < 0 ∧ j < 256) → ¬ (j < 0 ∨ q.slots.size ≤ j.toNatClampNeg) ∧ ∃ w, q.slots[j.toNatClampNeg]? = some w ∧ w.isRef = true
theorem own_ci {x : Int32} (h1 : ¬ x < (-128 : Int32)) (h2 : ¬ (127 : Int32) < x) : ¬ (x + (128 : Int32)) < 0 ∧ (x + (128 : Int32)) < 256 := by
  have e1 : (-128 : Int32).toInt = -128 := rfl
  have e2 : (127 : Int32).toInt = 127 := rfl
  have e3 : (128 : Int32).toInt = 128 := rfl
  have e4 : (256 : Int32).toInt = 256 := rfl
  have e0 : (0 : Int32).toInt = 0 := rfl
  have q := c_iadd x 128
  have r := rng32 (x + 128)
  rw [Int32.lt_iff_toInt_lt] at h1 h2
  rw [Int32.lt_iff_toInt_lt, Int32.lt_iff_toInt_lt]
  omega
theorem own_cl {x : Int64} (h1 : ¬ lcmpW x (-128 : Int64) < (0 : Int32)) (h2 : ¬ (0 : Int32) < lcmpW x (127 : Int64)) : ¬ (x.toInt32 + (128 : Int32)) < 0 ∧ (x.toInt32 + (128 : Int32)) < 256 := by
  rw [lw_lt] at h1
  rw [lw_gt] at h2
  rw [Int64.lt_iff_toInt_lt] at h1 h2
  have e1 : (-128 : Int64).toInt = -128 := rfl
  have e2 : (127 : Int64).toInt = 127 := rfl
  have e3 : (128 : Int32).toInt = 128 := rfl
  have e4 : (256 : Int32).toInt = 256 := rfl
  have e0 : (0 : Int32).toInt = 0 := rfl
  have q := c_iadd x.toInt32 128
  have q2 := c_l2i x
  have r := rng32 (x.toInt32 + 128)
  have r2 := rng32 x.toInt32
  rw [Int32.lt_iff_toInt_lt, Int32.lt_iff_toInt_lt]
  omega
theorem own_b255 (x : Int32) : ¬ (x &&& 255) < 0 ∧ ¬ (255 : Int32) < (x &&& 255) := by
  have q := c_and x 255 (by decide)
  have e0 : (0 : Int32).toInt = 0 := rfl
  have e1 : (255 : Int32).toInt = 255 := rfl
  rw [Int32.lt_iff_toInt_lt, Int32.lt_iff_toInt_lt]
  omega
theorem own_c255 (x : Int32) : ¬ (x &&& (255 : Int32)).toUInt32.toUInt16.toUInt32.toInt32 < 0 ∧ ¬ (255 : Int32) < (x &&& (255 : Int32)).toUInt32.toUInt16.toUInt32.toInt32 := by
  rw [i2c_mask]
  exact own_b255 x
theorem own_mask {u : Int32} (h : ¬ u < 0 ∧ ¬ (255 : Int32) < u) : u &&& 255 = u := by
  have q := c_mask u 255 8 (by decide) (by decide)
  have e0 : (0 : Int32).toInt = 0 := rfl
  have e1 : (255 : Int32).toInt = 255 := rfl
  obtain ⟨h1, h2⟩ := h
  rw [Int32.lt_iff_toInt_lt] at h1 h2
  refine Int32.toInt_inj.mp ?_
  rw [q]
  omega
theorem own_nar {u : Int32} (h : ¬ u < 0 ∧ ¬ (255 : Int32) < u) : nar .char u = u := by
  have q := i2c_mask u
  rw [own_mask h] at q
  exact q
theorem own_all2 {a b : Int32} (h1 : ¬ a < 0 ∧ ¬ (255 : Int32) < a) (h2 : ¬ b < 0 ∧ ¬ (255 : Int32) < b) : ∀ x ∈ ([a, b] : List Int32), ¬ x < 0 ∧ ¬ (255 : Int32) < x := by
  intro x hx
  simp only [List.mem_cons, List.not_mem_nil, or_false] at hx
  rcases hx with rfl | rfl
  · exact h1
  · exact h2
theorem own_narR {t : String} {w : Value} (h : w.isRef = true) : narrow (.object t) w = w := by
  rcases ref_cases h with rfl | ⟨a, rfl⟩ <;> rfl
theorem own_eqI {s : State} {args : Array Value} {t : Term} {n : Int32} (h : (Cond.eq t (Term.int n)).value args s none s [] = some true) : t.eval args s none [] s = some (.int n) := by
  obtain ⟨x, y, e1, e2, k1, k2⟩ := cmp_v (Or.inl h)
  have e2' : (Term.int n).eval args s none [] s = some (.int n) := Term.int_eval n
  cases e2.symm.trans e2'
  obtain ⟨z, rfl⟩ := k2
  have := gotT (Cond.eq_ints e1 e2') h
  rw [e1, this]
theorem own_lenT {s : State} {args : Array Value} {t : Term} {a : Addr} {q : Cell} {ty : FieldType} {n : Int32} (ev : t.eval args s none [] s = some (.ref a)) (A : Arr s s.heap a q ty) (hl : (Cond.eq (Term.length t) (Term.int n)).value args s none s [] = some true) : q.slots.size < 2 ^ 31 ∧ q.slots.size.toInt32 = n := by
  have ha : s.arrayAt? a = some q := Arr.fin (Vm.Alike.refl _) A
  have e1 := own_eqI hl
  obtain ⟨b, cell, q1, q2, q4⟩ := Term.length_spec e1
  cases ev.symm.trans q1
  cases ha.symm.trans q2
  have q3 : q.slots.size < 2 ^ 31 := by
    have r := e1
    simp only [Term.eval, q1, q2, Option.bind_eq_bind, Option.bind_some] at r
    split at r
    · assumption
    · cases r
  exact ⟨q3, (Value.int.inj q4).symm⟩
theorem own_arv0 {s : State} {args : Array Value} {t : Term} {a : Addr} {q : Cell} (hf : Fit s) (ev : t.eval args s none [] s = some (.ref a)) (A : Arr s s.heap a q (.object "java/lang/Object")) (hl : (Cond.eq (Term.length t) (Term.int 0)).value args s none s [] = some true) : Arv s s.heap a q.cls (.object "java/lang/Object") (0 : Int32) [] .null := by
  obtain ⟨h1, h2⟩ := own_lenT ev A hl
  exact Arv.start hf A h1 h2 (by decide) rfl trivial
theorem own_cach {s : State} {args : Array Value} {t : Term} {a : Addr} {q : Cell} {C : String} (hf : Fit s) (ev : t.eval args s none [] s = some (.ref a)) (A : Arr s s.heap a q (.object C)) (hl : (Cond.eq (Term.length t) (Term.int 256)).value args s none s [] = some true) : OCach s a C := by
  obtain ⟨h1, h2⟩ := own_lenT ev A hl
  refine ⟨q, A, fun j hj => ?_⟩
  have S : q.slots.size = (256 : Int32).toNatClampNeg := by
    have e := len_toInt h1
    rw [h2] at e
    have e4 : (256 : Int32).toInt = 256 := rfl
    simp only [Int32.toNatClampNeg, e4] at e ⊢
    omega
  have hin := inb_of S hj
  obtain ⟨w, g1, g2⟩ := elem_fit hf A hin
  exact ⟨hin, w, g1, fit_R g2 rfl⟩
theorem ef0 (m : MethodId) (x0 : Addr) : entryFrame m #[(.ref x0)] 1 = mkF m 0 #[.val (.ref x0)] [] := by first | (simp [entryFrame, mkF, argsToLocals, Value.category]; done) | rfl
theorem pn0 : plainName "java/lang/Record" = true := by first | (simp [plainName, overriddenIn]; done) | decide +kernel
theorem d5_0 : decode jdk_30_method_1_code 0 = .ok (.aload_n 0, 1) := by decide +kernel
theorem Wd27 {Z : State} {a0 : Array Value} (hw : ∀ d ∈ tables_1, d.before a0 Z = true) : ((Jvm.Cond.methodLink "java/lang/Record" (1 : Nat) ({ cls := "java/lang/Object", name := "<init>", desc := "()V" } : Jvm.MethodName)) : Jvm.Cond).before a0 Z = true := hw _ (List.mem_of_getElem? (i := 27) rfl)
theorem Wd28 {Z : State} {a0 : Array Value} (hw : ∀ d ∈ tables_1, d.before a0 Z = true) : ((Jvm.Cond.instanceMethod ({ cls := "java/lang/Object", name := "<init>", desc := "()V" } : Jvm.MethodName)) : Jvm.Cond).before a0 Z = true := hw _ (List.mem_of_getElem? (i := 28) rfl)
theorem Wd29 {Z : State} {a0 : Array Value} (hw : ∀ d ∈ tables_1, d.before a0 Z = true) : ((Jvm.Cond.code ({ cls := "java/lang/Object", name := "<init>", desc := "()V" } : Jvm.MethodName) object_method_1_code (1 : Nat) (Option.none : Option Jvm.ClassFile.FieldType)) : Jvm.Cond).before a0 Z = true := hw _ (List.mem_of_getElem? (i := 29) rfl)
theorem d5_1 : decode jdk_30_method_1_code 1 = .ok (.invokespecial 1, 3) := by decide +kernel
theorem d5_4 : decode jdk_30_method_1_code 4 = .ok (.return_, 1) := by decide +kernel
theorem pn1 : plainName "java/lang/Number" = true := by first | (simp [plainName, overriddenIn]; done) | decide +kernel
theorem d23_0 : decode jdk_18_method_1_code 0 = .ok (.aload_n 0, 1) := by decide +kernel
theorem Wd148 {Z : State} {a0 : Array Value} (hw : ∀ d ∈ tables_1, d.before a0 Z = true) : ((Jvm.Cond.methodLink "java/lang/Number" (1 : Nat) ({ cls := "java/lang/Object", name := "<init>", desc := "()V" } : Jvm.MethodName)) : Jvm.Cond).before a0 Z = true := hw _ (List.mem_of_getElem? (i := 148) rfl)
theorem d23_1 : decode jdk_18_method_1_code 1 = .ok (.invokespecial 1, 3) := by decide +kernel
theorem d23_4 : decode jdk_18_method_1_code 4 = .ok (.return_, 1) := by decide +kernel
theorem ef1 (m : MethodId) (x0 : Addr) (x1 : Int32) : entryFrame m #[(.ref x0), (.int x1)] 2 = mkF m 0 #[.val (.ref x0), .val (.int x1)] [] := by first | (simp [entryFrame, mkF, argsToLocals, Value.category]; done) | rfl
theorem pn2 : plainName "java/lang/Integer" = true := by first | (simp [plainName, overriddenIn]; done) | decide +kernel
theorem d22_0 : decode jdk_33_method_23_code 0 = .ok (.aload_n 0, 1) := by decide +kernel
theorem Wd142 {Z : State} {a0 : Array Value} (hw : ∀ d ∈ tables_1, d.before a0 Z = true) : ((Jvm.Cond.methodLink "java/lang/Integer" (202 : Nat) ({ cls := "java/lang/Number", name := "<init>", desc := "()V" } : Jvm.MethodName)) : Jvm.Cond).before a0 Z = true := hw _ (List.mem_of_getElem? (i := 142) rfl)
theorem Wd147 {Z : State} {a0 : Array Value} (hw : ∀ d ∈ tables_1, d.before a0 Z = true) : ((Jvm.Cond.code ({ cls := "java/lang/Number", name := "<init>", desc := "()V" } : Jvm.MethodName) jdk_18_method_1_code (1 : Nat) (Option.none : Option Jvm.ClassFile.FieldType)) : Jvm.Cond).before a0 Z = true := hw _ (List.mem_of_getElem? (i := 147) rfl)
theorem Wd146 {Z : State} {a0 : Array Value} (hw : ∀ d ∈ tables_1, d.before a0 Z = true) : ((Jvm.Cond.initialized "java/lang/Number") : Jvm.Cond).before a0 Z = true := hw _ (List.mem_of_getElem? (i := 146) rfl)
theorem pd0 : parseMethodDescriptor "()V" = some ⟨[], none⟩ := by decide +kernel
theorem d22_1 : decode jdk_33_method_23_code 1 = .ok (.invokespecial 202, 3) := by decide +kernel
theorem Wd143 {Z : State} {a0 : Array Value} (hw : ∀ d ∈ tables_1, d.before a0 Z = true) : ((Jvm.Cond.instanceMethod ({ cls := "java/lang/Number", name := "<init>", desc := "()V" } : Jvm.MethodName)) : Jvm.Cond).before a0 Z = true := hw _ (List.mem_of_getElem? (i := 143) rfl)
theorem d22_4 : decode jdk_33_method_23_code 4 = .ok (.aload_n 0, 1) := by decide +kernel
theorem d22_5 : decode jdk_33_method_23_code 5 = .ok (.iload_n 1, 1) := by decide +kernel
theorem d22_6 : decode jdk_33_method_23_code 6 = .ok (.putfield 205, 3) := by decide +kernel
theorem Wd149 {Z : State} {a0 : Array Value} (hw : ∀ d ∈ tables_1, d.before a0 Z = true) : ((Jvm.Cond.fieldLink "java/lang/Integer" (205 : Nat) "java/lang/Integer" "value" "I") : Jvm.Cond).before a0 Z = true := hw _ (List.mem_of_getElem? (i := 149) rfl)
theorem Wd150 {Z : State} {a0 : Array Value} (hw : ∀ d ∈ tables_1, d.before a0 Z = true) : ((Jvm.Cond.laysFinal "java/lang/Integer" "java/lang/Integer" "value" "I") : Jvm.Cond).before a0 Z = true := hw _ (List.mem_of_getElem? (i := 150) rfl)
theorem Wd137 {Z : State} {a0 : Array Value} (hw : ∀ d ∈ tables_1, d.before a0 Z = true) : ((Jvm.Cond.instantiable "java/lang/Integer" (1 : Nat)) : Jvm.Cond).before a0 Z = true := hw _ (List.mem_of_getElem? (i := 137) rfl)
theorem d22_9 : decode jdk_33_method_23_code 9 = .ok (.return_, 1) := by decide +kernel
theorem ef2 (m : MethodId) (x0 : Addr) (x1 : Int64) : entryFrame m #[(.ref x0), (.long x1)] 3 = mkF m 0 #[.val (.ref x0), .val (.long x1), .second] [] := by first | (simp [entryFrame, mkF, argsToLocals, Value.category]; done) | rfl
theorem pn3 : plainName "java/lang/Long" = true := by first | (simp [plainName, overriddenIn]; done) | decide +kernel
theorem d25_0 : decode jdk_35_method_26_code 0 = .ok (.aload_n 0, 1) := by decide +kernel
theorem Wd165 {Z : State} {a0 : Array Value} (hw : ∀ d ∈ tables_1, d.before a0 Z = true) : ((Jvm.Cond.methodLink "java/lang/Long" (270 : Nat) ({ cls := "java/lang/Number", name := "<init>", desc := "()V" } : Jvm.MethodName)) : Jvm.Cond).before a0 Z = true := hw _ (List.mem_of_getElem? (i := 165) rfl)
theorem d25_1 : decode jdk_35_method_26_code 1 = .ok (.invokespecial 270, 3) := by decide +kernel
theorem d25_4 : decode jdk_35_method_26_code 4 = .ok (.aload_n 0, 1) := by decide +kernel
theorem d25_5 : decode jdk_35_method_26_code 5 = .ok (.lload_n 1, 1) := by decide +kernel
theorem d25_6 : decode jdk_35_method_26_code 6 = .ok (.putfield 273, 3) := by decide +kernel
theorem Wd167 {Z : State} {a0 : Array Value} (hw : ∀ d ∈ tables_1, d.before a0 Z = true) : ((Jvm.Cond.fieldLink "java/lang/Long" (273 : Nat) "java/lang/Long" "value" "J") : Jvm.Cond).before a0 Z = true := hw _ (List.mem_of_getElem? (i := 167) rfl)
theorem Wd168 {Z : State} {a0 : Array Value} (hw : ∀ d ∈ tables_1, d.before a0 Z = true) : ((Jvm.Cond.laysFinal "java/lang/Long" "java/lang/Long" "value" "J") : Jvm.Cond).before a0 Z = true := hw _ (List.mem_of_getElem? (i := 168) rfl)
theorem Wd160 {Z : State} {a0 : Array Value} (hw : ∀ d ∈ tables_1, d.before a0 Z = true) : ((Jvm.Cond.instantiable "java/lang/Long" (1 : Nat)) : Jvm.Cond).before a0 Z = true := hw _ (List.mem_of_getElem? (i := 160) rfl)
theorem d25_9 : decode jdk_35_method_26_code 9 = .ok (.return_, 1) := by decide +kernel
theorem ef3 (m : MethodId) (x0 : Int32) : entryFrame m #[(.int x0)] 1 = mkF m 0 #[.val (.int x0)] [] := by first | (simp [entryFrame, mkF, argsToLocals, Value.category]; done) | rfl
theorem d16_0 : decode jdk_33_method_22_code 0 = .ok (.iload_n 0, 1) := by decide +kernel
theorem d16_1 : decode jdk_33_method_22_code 1 = .ok (.bipush (-128), 2) := by decide +kernel
theorem d16_3 : decode jdk_33_method_22_code 3 = .ok (.if_icmp .lt 20, 3) := by decide +kernel
theorem d16_23 : decode jdk_33_method_22_code 23 = .ok (.new 1, 3) := by decide +kernel
theorem Wd136 {Z : State} {a0 : Array Value} (hw : ∀ d ∈ tables_1, d.before a0 Z = true) : ((Jvm.Cond.classLink "java/lang/Integer" (1 : Nat) "java/lang/Integer") : Jvm.Cond).before a0 Z = true := hw _ (List.mem_of_getElem? (i := 136) rfl)
theorem Wd104 {Z : State} {a0 : Array Value} (hw : ∀ d ∈ tables_1, d.before a0 Z = true) : ((Jvm.Cond.initialized "java/lang/Integer") : Jvm.Cond).before a0 Z = true := hw _ (List.mem_of_getElem? (i := 104) rfl)
theorem d16_26 : decode jdk_33_method_22_code 26 = .ok (.dup, 1) := by decide +kernel
theorem d16_27 : decode jdk_33_method_22_code 27 = .ok (.iload_n 0, 1) := by decide +kernel
theorem Wd138 {Z : State} {a0 : Array Value} (hw : ∀ d ∈ tables_1, d.before a0 Z = true) : ((Jvm.Cond.methodLink "java/lang/Integer" (199 : Nat) ({ cls := "java/lang/Integer", name := "<init>", desc := "(I)V" } : Jvm.MethodName)) : Jvm.Cond).before a0 Z = true := hw _ (List.mem_of_getElem? (i := 138) rfl)
theorem Wd141 {Z : State} {a0 : Array Value} (hw : ∀ d ∈ tables_1, d.before a0 Z = true) : ((Jvm.Cond.code ({ cls := "java/lang/Integer", name := "<init>", desc := "(I)V" } : Jvm.MethodName) jdk_33_method_23_code (2 : Nat) (Option.none : Option Jvm.ClassFile.FieldType)) : Jvm.Cond).before a0 Z = true := hw _ (List.mem_of_getElem? (i := 141) rfl)
theorem pd1 : parseMethodDescriptor "(I)V" = some ⟨[.int], none⟩ := by decide +kernel
theorem d16_28 : decode jdk_33_method_22_code 28 = .ok (.invokespecial 199, 3) := by decide +kernel
theorem Wd139 {Z : State} {a0 : Array Value} (hw : ∀ d ∈ tables_1, d.before a0 Z = true) : ((Jvm.Cond.instanceMethod ({ cls := "java/lang/Integer", name := "<init>", desc := "(I)V" } : Jvm.MethodName)) : Jvm.Cond).before a0 Z = true := hw _ (List.mem_of_getElem? (i := 139) rfl)
theorem d16_31 : decode jdk_33_method_22_code 31 = .ok (.areturn, 1) := by decide +kernel
theorem d16_6 : decode jdk_33_method_22_code 6 = .ok (.iload_n 0, 1) := by decide +kernel
theorem d16_7 : decode jdk_33_method_22_code 7 = .ok (.getstatic 191, 3) := by decide +kernel
theorem Wd106 {Z : State} {a0 : Array Value} (hw : ∀ d ∈ tables_1, d.before a0 Z = true) : ((Jvm.Cond.fieldLink "java/lang/Integer" (191 : Nat) "java/lang/Integer$IntegerCache" "high" "I") : Jvm.Cond).before a0 Z = true := hw _ (List.mem_of_getElem? (i := 106) rfl)
theorem d16_10 : decode jdk_33_method_22_code 10 = .ok (.if_icmp .gt 13, 3) := by decide +kernel
theorem d16_13 : decode jdk_33_method_22_code 13 = .ok (.getstatic 195, 3) := by decide +kernel
theorem Wd108 {Z : State} {a0 : Array Value} (hw : ∀ d ∈ tables_1, d.before a0 Z = true) : ((Jvm.Cond.fieldLink "java/lang/Integer" (195 : Nat) "java/lang/Integer$IntegerCache" "cache" "[Ljava/lang/Integer;") : Jvm.Cond).before a0 Z = true := hw _ (List.mem_of_getElem? (i := 108) rfl)
theorem d16_16 : decode jdk_33_method_22_code 16 = .ok (.iload_n 0, 1) := by decide +kernel
theorem d16_17 : decode jdk_33_method_22_code 17 = .ok (.sipush 128, 3) := by decide +kernel
theorem d16_20 : decode jdk_33_method_22_code 20 = .ok (.iadd, 1) := by decide +kernel
theorem d16_21 : decode jdk_33_method_22_code 21 = .ok (.aaload, 1) := by decide +kernel
theorem d16_22 : decode jdk_33_method_22_code 22 = .ok (.areturn, 1) := by decide +kernel
theorem ef4 (m : MethodId) (x0 : Int64) : entryFrame m #[(.long x0)] 3 = mkF m 0 #[.val (.long x0), .second, .unset] [] := by first | (simp [entryFrame, mkF, argsToLocals, Value.category]; done) | rfl
theorem d24_0 : decode jdk_35_method_24_code 0 = .ok (.sipush 128, 3) := by decide +kernel
theorem d24_3 : decode jdk_35_method_24_code 3 = .ok (.istore_n 2, 1) := by decide +kernel
theorem d24_4 : decode jdk_35_method_24_code 4 = .ok (.lload_n 0, 1) := by decide +kernel
theorem d24_5 : decode jdk_35_method_24_code 5 = .ok (.ldc2_w 230, 3) := by decide +kernel
theorem Wd155 {Z : State} {a0 : Array Value} (hw : ∀ d ∈ tables_1, d.before a0 Z = true) : ((Jvm.Cond.constantLong "java/lang/Long" (230 : Nat) (-128 : Int64)) : Jvm.Cond).before a0 Z = true := hw _ (List.mem_of_getElem? (i := 155) rfl)
theorem d24_8 : decode jdk_35_method_24_code 8 = .ok (.lcmp, 1) := by decide +kernel
theorem d24_9 : decode jdk_35_method_24_code 9 = .ok (.ifCond .lt 22, 3) := by decide +kernel
theorem d24_31 : decode jdk_35_method_24_code 31 = .ok (.new 1, 3) := by decide +kernel
theorem Wd159 {Z : State} {a0 : Array Value} (hw : ∀ d ∈ tables_1, d.before a0 Z = true) : ((Jvm.Cond.classLink "java/lang/Long" (1 : Nat) "java/lang/Long") : Jvm.Cond).before a0 Z = true := hw _ (List.mem_of_getElem? (i := 159) rfl)
theorem Wd153 {Z : State} {a0 : Array Value} (hw : ∀ d ∈ tables_1, d.before a0 Z = true) : ((Jvm.Cond.initialized "java/lang/Long") : Jvm.Cond).before a0 Z = true := hw _ (List.mem_of_getElem? (i := 153) rfl)
theorem d24_34 : decode jdk_35_method_24_code 34 = .ok (.dup, 1) := by decide +kernel
theorem d24_35 : decode jdk_35_method_24_code 35 = .ok (.lload_n 0, 1) := by decide +kernel
theorem Wd161 {Z : State} {a0 : Array Value} (hw : ∀ d ∈ tables_1, d.before a0 Z = true) : ((Jvm.Cond.methodLink "java/lang/Long" (240 : Nat) ({ cls := "java/lang/Long", name := "<init>", desc := "(J)V" } : Jvm.MethodName)) : Jvm.Cond).before a0 Z = true := hw _ (List.mem_of_getElem? (i := 161) rfl)
theorem Wd164 {Z : State} {a0 : Array Value} (hw : ∀ d ∈ tables_1, d.before a0 Z = true) : ((Jvm.Cond.code ({ cls := "java/lang/Long", name := "<init>", desc := "(J)V" } : Jvm.MethodName) jdk_35_method_26_code (3 : Nat) (Option.none : Option Jvm.ClassFile.FieldType)) : Jvm.Cond).before a0 Z = true := hw _ (List.mem_of_getElem? (i := 164) rfl)
theorem pd2 : parseMethodDescriptor "(J)V" = some ⟨[.long], none⟩ := by decide +kernel
theorem d24_36 : decode jdk_35_method_24_code 36 = .ok (.invokespecial 240, 3) := by decide +kernel
theorem Wd162 {Z : State} {a0 : Array Value} (hw : ∀ d ∈ tables_1, d.before a0 Z = true) : ((Jvm.Cond.instanceMethod ({ cls := "java/lang/Long", name := "<init>", desc := "(J)V" } : Jvm.MethodName)) : Jvm.Cond).before a0 Z = true := hw _ (List.mem_of_getElem? (i := 162) rfl)
theorem d24_39 : decode jdk_35_method_24_code 39 = .ok (.areturn, 1) := by decide +kernel
theorem d24_12 : decode jdk_35_method_24_code 12 = .ok (.lload_n 0, 1) := by decide +kernel
theorem d24_13 : decode jdk_35_method_24_code 13 = .ok (.ldc2_w 232, 3) := by decide +kernel
theorem Wd156 {Z : State} {a0 : Array Value} (hw : ∀ d ∈ tables_1, d.before a0 Z = true) : ((Jvm.Cond.constantLong "java/lang/Long" (232 : Nat) (127 : Int64)) : Jvm.Cond).before a0 Z = true := hw _ (List.mem_of_getElem? (i := 156) rfl)
theorem d24_16 : decode jdk_35_method_24_code 16 = .ok (.lcmp, 1) := by decide +kernel
theorem d24_17 : decode jdk_35_method_24_code 17 = .ok (.ifCond .gt 14, 3) := by decide +kernel
theorem d24_20 : decode jdk_35_method_24_code 20 = .ok (.getstatic 234, 3) := by decide +kernel
theorem Wd157 {Z : State} {a0 : Array Value} (hw : ∀ d ∈ tables_1, d.before a0 Z = true) : ((Jvm.Cond.fieldLink "java/lang/Long" (234 : Nat) "java/lang/Long$LongCache" "cache" "[Ljava/lang/Long;") : Jvm.Cond).before a0 Z = true := hw _ (List.mem_of_getElem? (i := 157) rfl)
theorem d24_23 : decode jdk_35_method_24_code 23 = .ok (.lload_n 0, 1) := by decide +kernel
theorem d24_24 : decode jdk_35_method_24_code 24 = .ok (.l2i, 1) := by decide +kernel
theorem d24_25 : decode jdk_35_method_24_code 25 = .ok (.sipush 128, 3) := by decide +kernel
theorem d24_28 : decode jdk_35_method_24_code 28 = .ok (.iadd, 1) := by decide +kernel
theorem d24_29 : decode jdk_35_method_24_code 29 = .ok (.aaload, 1) := by decide +kernel
theorem d24_30 : decode jdk_35_method_24_code 30 = .ok (.areturn, 1) := by decide +kernel
theorem ef5 (m : MethodId)  : entryFrame m #[] 0 = mkF m 0 #[] [] := by first | (simp [entryFrame, mkF, argsToLocals, Value.category]; done) | rfl
theorem pn4 : plainName "java/util/List" = true := by first | (simp [plainName, overriddenIn]; done) | decide +kernel
theorem d2_0 : decode jdk_40_method_36_code 0 = .ok (.getstatic 90, 3) := by decide +kernel
theorem Wd14 {Z : State} {a0 : Array Value} (hw : ∀ d ∈ tables_1, d.before a0 Z = true) : ((Jvm.Cond.fieldLink "java/util/List" (90 : Nat) "java/util/ImmutableCollections" "EMPTY_LIST" "Ljava/util/ImmutableCollections$ListN;") : Jvm.Cond).before a0 Z = true := hw _ (List.mem_of_getElem? (i := 14) rfl)
theorem d2_3 : decode jdk_40_method_36_code 3 = .ok (.areturn, 1) := by decide +kernel
theorem ef6 (m : MethodId) (x0 : Addr) : entryFrame m #[(.ref x0)] 2 = mkF m 0 #[.val (.ref x0), .unset] [] := by first | (simp [entryFrame, mkF, argsToLocals, Value.category]; done) | rfl
theorem pn5 : plainName "java/util/ImmutableCollections" = true := by first | (simp [plainName, overriddenIn]; done) | decide +kernel
theorem d8_0 : decode jdk_56_method_3_code 0 = .ok (.aload_n 0, 1) := by decide +kernel
theorem Wd36 {Z : State} {a0 : Array Value} (hw : ∀ d ∈ tables_1, d.before a0 Z = true) : ((Jvm.Cond.classLink "java/util/ImmutableCollections" (10 : Nat) "java/util/ImmutableCollections$List12") : Jvm.Cond).before a0 Z = true := hw _ (List.mem_of_getElem? (i := 36) rfl)
theorem d8_1 : decode jdk_56_method_3_code 1 = .ok (.instanceof 10, 3) := by decide +kernel
theorem d8_4 : decode jdk_56_method_3_code 4 = .ok (.ifCond .ne 22, 3) := by decide +kernel
theorem d8_26 : decode jdk_56_method_3_code 26 = .ok (.aload_n 0, 1) := by decide +kernel
theorem d8_27 : decode jdk_56_method_3_code 27 = .ok (.checkcast 18, 3) := by decide +kernel
theorem Wd46 {Z : State} {a0 : Array Value} (hw : ∀ d ∈ tables_1, d.before a0 Z = true) : ((Jvm.Cond.classLink "java/util/ImmutableCollections" (18 : Nat) "java/util/List") : Jvm.Cond).before a0 Z = true := hw _ (List.mem_of_getElem? (i := 46) rfl)
theorem Wd47 {Z : State} {a0 : Array Value} (hw : ∀ d ∈ tables_1, d.before a0 Z = true) : ((Jvm.Cond.castable "java/util/ImmutableCollections$ListN" "java/util/List") : Jvm.Cond).before a0 Z = true := hw _ (List.mem_of_getElem? (i := 47) rfl)
theorem d8_30 : decode jdk_56_method_3_code 30 = .ok (.areturn, 1) := by decide +kernel
theorem d8_7 : decode jdk_56_method_3_code 7 = .ok (.aload_n 0, 1) := by decide +kernel
theorem Wd42 {Z : State} {a0 : Array Value} (hw : ∀ d ∈ tables_1, d.before a0 Z = true) : ((Jvm.Cond.classLink "java/util/ImmutableCollections" (12 : Nat) "java/util/ImmutableCollections$ListN") : Jvm.Cond).before a0 Z = true := hw _ (List.mem_of_getElem? (i := 42) rfl)
theorem d8_8 : decode jdk_56_method_3_code 8 = .ok (.instanceof 12, 3) := by decide +kernel
theorem d8_11 : decode jdk_56_method_3_code 11 = .ok (.ifCond .eq 20, 3) := by decide +kernel
theorem d8_14 : decode jdk_56_method_3_code 14 = .ok (.aload_n 0, 1) := by decide +kernel
theorem d8_15 : decode jdk_56_method_3_code 15 = .ok (.checkcast 12, 3) := by decide +kernel
theorem d8_18 : decode jdk_56_method_3_code 18 = .ok (.astore_n 1, 1) := by decide +kernel
theorem d8_19 : decode jdk_56_method_3_code 19 = .ok (.aload_n 1, 1) := by decide +kernel
theorem d8_20 : decode jdk_56_method_3_code 20 = .ok (.getfield 14, 3) := by decide +kernel
theorem Wd44 {Z : State} {a0 : Array Value} (hw : ∀ d ∈ tables_1, d.before a0 Z = true) : ((Jvm.Cond.fieldLinkNest "java/util/ImmutableCollections" (14 : Nat) "java/util/ImmutableCollections$ListN" "allowNulls" "Z" "java/util/ImmutableCollections") : Jvm.Cond).before a0 Z = true := hw _ (List.mem_of_getElem? (i := 44) rfl)
theorem d8_23 : decode jdk_56_method_3_code 23 = .ok (.ifCond .ne 8, 3) := by decide +kernel
theorem d7_0 : decode jdk_40_method_48_code 0 = .ok (.aload_n 0, 1) := by decide +kernel
theorem Wd33 {Z : State} {a0 : Array Value} (hw : ∀ d ∈ tables_1, d.before a0 Z = true) : ((Jvm.Cond.methodLink "java/util/List" (112 : Nat) ({ cls := "java/util/ImmutableCollections", name := "listCopy", desc := "(Ljava/util/Collection;)Ljava/util/List;" } : Jvm.MethodName)) : Jvm.Cond).before a0 Z = true := hw _ (List.mem_of_getElem? (i := 33) rfl)
theorem Wd35 {Z : State} {a0 : Array Value} (hw : ∀ d ∈ tables_1, d.before a0 Z = true) : ((Jvm.Cond.code ({ cls := "java/util/ImmutableCollections", name := "listCopy", desc := "(Ljava/util/Collection;)Ljava/util/List;" } : Jvm.MethodName) jdk_56_method_3_code (2 : Nat) (Option.some (Jvm.ClassFile.FieldType.object "java/util/List"))) : Jvm.Cond).before a0 Z = true := hw _ (List.mem_of_getElem? (i := 35) rfl)
theorem Wd15 {Z : State} {a0 : Array Value} (hw : ∀ d ∈ tables_1, d.before a0 Z = true) : ((Jvm.Cond.initialized "java/util/ImmutableCollections") : Jvm.Cond).before a0 Z = true := hw _ (List.mem_of_getElem? (i := 15) rfl)
theorem pd3 : parseMethodDescriptor "(Ljava/util/Collection;)Ljava/util/List;" = some ⟨[(.object "java/util/Collection")], some (.object "java/util/List")⟩ := by decide +kernel
theorem d7_1 : decode jdk_40_method_48_code 1 = .ok (.invokestatic 112, 3) := by decide +kernel
theorem Wd34 {Z : State} {a0 : Array Value} (hw : ∀ d ∈ tables_1, d.before a0 Z = true) : ((Jvm.Cond.static ({ cls := "java/util/ImmutableCollections", name := "listCopy", desc := "(Ljava/util/Collection;)Ljava/util/List;" } : Jvm.MethodName)) : Jvm.Cond).before a0 Z = true := hw _ (List.mem_of_getElem? (i := 34) rfl)
theorem d7_4 : decode jdk_40_method_48_code 4 = .ok (.areturn, 1) := by decide +kernel
theorem pn6 : plainName "java/util/ImmutableCollections$ListN" = true := by first | (simp [plainName, overriddenIn]; done) | decide +kernel
theorem d13_0 : decode jdk_45_method_3_code 0 = .ok (.aload_n 0, 1) := by decide +kernel
theorem d13_1 : decode jdk_45_method_3_code 1 = .ok (.getfield 7, 3) := by decide +kernel
theorem Wd90 {Z : State} {a0 : Array Value} (hw : ∀ d ∈ tables_1, d.before a0 Z = true) : ((Jvm.Cond.fieldLink "java/util/ImmutableCollections$ListN" (7 : Nat) "java/util/ImmutableCollections$ListN" "elements" "[Ljava/lang/Object;") : Jvm.Cond).before a0 Z = true := hw _ (List.mem_of_getElem? (i := 90) rfl)
theorem d13_4 : decode jdk_45_method_3_code 4 = .ok (.arraylength, 1) := by decide +kernel
theorem d13_5 : decode jdk_45_method_3_code 5 = .ok (.ireturn, 1) := by decide +kernel
theorem ef7 (m : MethodId) (x0 : Addr) (x1 : Int32) (x3 : Int32) (x4 : Addr) : entryFrame m #[(.ref x0), (.int x1), .null, (.int x3), (.ref x4), .null, .null] 7 = mkF m 0 #[.val (.ref x0), .val (.int x1), .val .null, .val (.int x3), .val (.ref x4), .val .null, .val .null] [] := by first | (simp [entryFrame, mkF, argsToLocals, Value.category]; done) | rfl
theorem pn7 : plainName "com/example/echo_panel/echopanel/channel/ChannelState" = true := by first | (simp [plainName, overriddenIn]; done) | decide +kernel
theorem d4_0 : decode prog_15_method_1_code 0 = .ok (.aload_n 0, 1) := by decide +kernel
theorem Wd22 {Z : State} {a0 : Array Value} (hw : ∀ d ∈ tables_1, d.before a0 Z = true) : ((Jvm.Cond.methodLink "com/example/echo_panel/echopanel/channel/ChannelState" (1 : Nat) ({ cls := "java/lang/Record", name := "<init>", desc := "()V" } : Jvm.MethodName)) : Jvm.Cond).before a0 Z = true := hw _ (List.mem_of_getElem? (i := 22) rfl)
theorem Wd26 {Z : State} {a0 : Array Value} (hw : ∀ d ∈ tables_1, d.before a0 Z = true) : ((Jvm.Cond.code ({ cls := "java/lang/Record", name := "<init>", desc := "()V" } : Jvm.MethodName) jdk_30_method_1_code (1 : Nat) (Option.none : Option Jvm.ClassFile.FieldType)) : Jvm.Cond).before a0 Z = true := hw _ (List.mem_of_getElem? (i := 26) rfl)
theorem Wd25 {Z : State} {a0 : Array Value} (hw : ∀ d ∈ tables_1, d.before a0 Z = true) : ((Jvm.Cond.initialized "java/lang/Record") : Jvm.Cond).before a0 Z = true := hw _ (List.mem_of_getElem? (i := 25) rfl)
theorem d4_1 : decode prog_15_method_1_code 1 = .ok (.invokespecial 1, 3) := by decide +kernel
theorem Wd23 {Z : State} {a0 : Array Value} (hw : ∀ d ∈ tables_1, d.before a0 Z = true) : ((Jvm.Cond.instanceMethod ({ cls := "java/lang/Record", name := "<init>", desc := "()V" } : Jvm.MethodName)) : Jvm.Cond).before a0 Z = true := hw _ (List.mem_of_getElem? (i := 23) rfl)
theorem d4_4 : decode prog_15_method_1_code 4 = .ok (.aload 4, 2) := by decide +kernel
theorem Wd30 {Z : State} {a0 : Array Value} (hw : ∀ d ∈ tables_1, d.before a0 Z = true) : ((Jvm.Cond.methodLink "com/example/echo_panel/echopanel/channel/ChannelState" (7 : Nat) ({ cls := "java/util/List", name := "copyOf", desc := "(Ljava/util/Collection;)Ljava/util/List;" } : Jvm.MethodName)) : Jvm.Cond).before a0 Z = true := hw _ (List.mem_of_getElem? (i := 30) rfl)
theorem Wd32 {Z : State} {a0 : Array Value} (hw : ∀ d ∈ tables_1, d.before a0 Z = true) : ((Jvm.Cond.code ({ cls := "java/util/List", name := "copyOf", desc := "(Ljava/util/Collection;)Ljava/util/List;" } : Jvm.MethodName) jdk_40_method_48_code (1 : Nat) (Option.some (Jvm.ClassFile.FieldType.object "java/util/List"))) : Jvm.Cond).before a0 Z = true := hw _ (List.mem_of_getElem? (i := 32) rfl)
theorem Wd12 {Z : State} {a0 : Array Value} (hw : ∀ d ∈ tables_1, d.before a0 Z = true) : ((Jvm.Cond.initialized "java/util/List") : Jvm.Cond).before a0 Z = true := hw _ (List.mem_of_getElem? (i := 12) rfl)
theorem d4_6 : decode prog_15_method_1_code 6 = .ok (.invokestatic 7, 3) := by decide +kernel
theorem Wd31 {Z : State} {a0 : Array Value} (hw : ∀ d ∈ tables_1, d.before a0 Z = true) : ((Jvm.Cond.static ({ cls := "java/util/List", name := "copyOf", desc := "(Ljava/util/Collection;)Ljava/util/List;" } : Jvm.MethodName)) : Jvm.Cond).before a0 Z = true := hw _ (List.mem_of_getElem? (i := 31) rfl)
theorem d4_9 : decode prog_15_method_1_code 9 = .ok (.astore 4, 2) := by decide +kernel
theorem d4_11 : decode prog_15_method_1_code 11 = .ok (.aload_n 0, 1) := by decide +kernel
theorem d4_12 : decode prog_15_method_1_code 12 = .ok (.iload_n 1, 1) := by decide +kernel
theorem d4_13 : decode prog_15_method_1_code 13 = .ok (.putfield 13, 3) := by decide +kernel
theorem Wd48 {Z : State} {a0 : Array Value} (hw : ∀ d ∈ tables_1, d.before a0 Z = true) : ((Jvm.Cond.fieldLink "com/example/echo_panel/echopanel/channel/ChannelState" (13 : Nat) "com/example/echo_panel/echopanel/channel/ChannelState" "connected" "Z") : Jvm.Cond).before a0 Z = true := hw _ (List.mem_of_getElem? (i := 48) rfl)
theorem Wd49 {Z : State} {a0 : Array Value} (hw : ∀ d ∈ tables_1, d.before a0 Z = true) : ((Jvm.Cond.laysFinal "com/example/echo_panel/echopanel/channel/ChannelState" "com/example/echo_panel/echopanel/channel/ChannelState" "connected" "Z") : Jvm.Cond).before a0 Z = true := hw _ (List.mem_of_getElem? (i := 49) rfl)
theorem Wd6 {Z : State} {a0 : Array Value} (hw : ∀ d ∈ tables_1, d.before a0 Z = true) : ((Jvm.Cond.instantiable "com/example/echo_panel/echopanel/channel/ChannelState" (6 : Nat)) : Jvm.Cond).before a0 Z = true := hw _ (List.mem_of_getElem? (i := 6) rfl)
theorem d4_16 : decode prog_15_method_1_code 16 = .ok (.aload_n 0, 1) := by decide +kernel
theorem d4_17 : decode prog_15_method_1_code 17 = .ok (.aload_n 2, 1) := by decide +kernel
theorem d4_18 : decode prog_15_method_1_code 18 = .ok (.putfield 19, 3) := by decide +kernel
theorem Wd50 {Z : State} {a0 : Array Value} (hw : ∀ d ∈ tables_1, d.before a0 Z = true) : ((Jvm.Cond.fieldLink "com/example/echo_panel/echopanel/channel/ChannelState" (19 : Nat) "com/example/echo_panel/echopanel/channel/ChannelState" "severity" "Lcom/example/echo_panel/echopanel/channel/Severity;") : Jvm.Cond).before a0 Z = true := hw _ (List.mem_of_getElem? (i := 50) rfl)
theorem Wd51 {Z : State} {a0 : Array Value} (hw : ∀ d ∈ tables_1, d.before a0 Z = true) : ((Jvm.Cond.laysFinal "com/example/echo_panel/echopanel/channel/ChannelState" "com/example/echo_panel/echopanel/channel/ChannelState" "severity" "Lcom/example/echo_panel/echopanel/channel/Severity;") : Jvm.Cond).before a0 Z = true := hw _ (List.mem_of_getElem? (i := 51) rfl)
theorem d4_21 : decode prog_15_method_1_code 21 = .ok (.aload_n 0, 1) := by decide +kernel
theorem d4_22 : decode prog_15_method_1_code 22 = .ok (.iload_n 3, 1) := by decide +kernel
theorem d4_23 : decode prog_15_method_1_code 23 = .ok (.putfield 23, 3) := by decide +kernel
theorem Wd52 {Z : State} {a0 : Array Value} (hw : ∀ d ∈ tables_1, d.before a0 Z = true) : ((Jvm.Cond.fieldLink "com/example/echo_panel/echopanel/channel/ChannelState" (23 : Nat) "com/example/echo_panel/echopanel/channel/ChannelState" "precision" "I") : Jvm.Cond).before a0 Z = true := hw _ (List.mem_of_getElem? (i := 52) rfl)
theorem Wd53 {Z : State} {a0 : Array Value} (hw : ∀ d ∈ tables_1, d.before a0 Z = true) : ((Jvm.Cond.laysFinal "com/example/echo_panel/echopanel/channel/ChannelState" "com/example/echo_panel/echopanel/channel/ChannelState" "precision" "I") : Jvm.Cond).before a0 Z = true := hw _ (List.mem_of_getElem? (i := 53) rfl)
theorem d4_26 : decode prog_15_method_1_code 26 = .ok (.aload_n 0, 1) := by decide +kernel
theorem d4_27 : decode prog_15_method_1_code 27 = .ok (.aload 4, 2) := by decide +kernel
theorem d4_29 : decode prog_15_method_1_code 29 = .ok (.putfield 27, 3) := by decide +kernel
theorem Wd54 {Z : State} {a0 : Array Value} (hw : ∀ d ∈ tables_1, d.before a0 Z = true) : ((Jvm.Cond.fieldLink "com/example/echo_panel/echopanel/channel/ChannelState" (27 : Nat) "com/example/echo_panel/echopanel/channel/ChannelState" "labels" "Ljava/util/List;") : Jvm.Cond).before a0 Z = true := hw _ (List.mem_of_getElem? (i := 54) rfl)
theorem Wd55 {Z : State} {a0 : Array Value} (hw : ∀ d ∈ tables_1, d.before a0 Z = true) : ((Jvm.Cond.laysFinal "com/example/echo_panel/echopanel/channel/ChannelState" "com/example/echo_panel/echopanel/channel/ChannelState" "labels" "Ljava/util/List;") : Jvm.Cond).before a0 Z = true := hw _ (List.mem_of_getElem? (i := 55) rfl)
theorem d4_32 : decode prog_15_method_1_code 32 = .ok (.aload_n 0, 1) := by decide +kernel
theorem d4_33 : decode prog_15_method_1_code 33 = .ok (.aload 5, 2) := by decide +kernel
theorem d4_35 : decode prog_15_method_1_code 35 = .ok (.putfield 31, 3) := by decide +kernel
theorem Wd56 {Z : State} {a0 : Array Value} (hw : ∀ d ∈ tables_1, d.before a0 Z = true) : ((Jvm.Cond.fieldLink "com/example/echo_panel/echopanel/channel/ChannelState" (31 : Nat) "com/example/echo_panel/echopanel/channel/ChannelState" "value" "Ljava/lang/Object;") : Jvm.Cond).before a0 Z = true := hw _ (List.mem_of_getElem? (i := 56) rfl)
theorem Wd57 {Z : State} {a0 : Array Value} (hw : ∀ d ∈ tables_1, d.before a0 Z = true) : ((Jvm.Cond.laysFinal "com/example/echo_panel/echopanel/channel/ChannelState" "com/example/echo_panel/echopanel/channel/ChannelState" "value" "Ljava/lang/Object;") : Jvm.Cond).before a0 Z = true := hw _ (List.mem_of_getElem? (i := 57) rfl)
theorem d4_38 : decode prog_15_method_1_code 38 = .ok (.aload_n 0, 1) := by decide +kernel
theorem d4_39 : decode prog_15_method_1_code 39 = .ok (.aload 6, 2) := by decide +kernel
theorem d4_41 : decode prog_15_method_1_code 41 = .ok (.putfield 35, 3) := by decide +kernel
theorem Wd58 {Z : State} {a0 : Array Value} (hw : ∀ d ∈ tables_1, d.before a0 Z = true) : ((Jvm.Cond.fieldLink "com/example/echo_panel/echopanel/channel/ChannelState" (35 : Nat) "com/example/echo_panel/echopanel/channel/ChannelState" "limits" "Lcom/example/echo_panel/echopanel/channel/DisplayLimits;") : Jvm.Cond).before a0 Z = true := hw _ (List.mem_of_getElem? (i := 58) rfl)
theorem Wd59 {Z : State} {a0 : Array Value} (hw : ∀ d ∈ tables_1, d.before a0 Z = true) : ((Jvm.Cond.laysFinal "com/example/echo_panel/echopanel/channel/ChannelState" "com/example/echo_panel/echopanel/channel/ChannelState" "limits" "Lcom/example/echo_panel/echopanel/channel/DisplayLimits;") : Jvm.Cond).before a0 Z = true := hw _ (List.mem_of_getElem? (i := 59) rfl)
theorem d4_44 : decode prog_15_method_1_code 44 = .ok (.return_, 1) := by decide +kernel
theorem ef8 (m : MethodId) (x0 : Addr) (x1 : Int32) (x3 : Int32) (x4 : Addr) : entryFrame m #[(.ref x0), (.int x1), .null, (.int x3), (.ref x4), .null] 6 = mkF m 0 #[.val (.ref x0), .val (.int x1), .val .null, .val (.int x3), .val (.ref x4), .val .null] [] := by first | (simp [entryFrame, mkF, argsToLocals, Value.category]; done) | rfl
theorem d3_0 : decode prog_15_method_2_code 0 = .ok (.aload_n 0, 1) := by decide +kernel
theorem d3_1 : decode prog_15_method_2_code 1 = .ok (.iload_n 1, 1) := by decide +kernel
theorem d3_2 : decode prog_15_method_2_code 2 = .ok (.aload_n 2, 1) := by decide +kernel
theorem d3_3 : decode prog_15_method_2_code 3 = .ok (.iload_n 3, 1) := by decide +kernel
theorem d3_4 : decode prog_15_method_2_code 4 = .ok (.aload 4, 2) := by decide +kernel
theorem d3_6 : decode prog_15_method_2_code 6 = .ok (.aload 5, 2) := by decide +kernel
theorem d3_8 : decode prog_15_method_2_code 8 = .ok (.aconst_null, 1) := by decide +kernel
theorem Wd19 {Z : State} {a0 : Array Value} (hw : ∀ d ∈ tables_1, d.before a0 Z = true) : ((Jvm.Cond.methodLink "com/example/echo_panel/echopanel/channel/ChannelState" (39 : Nat) ({ cls := "com/example/echo_panel/echopanel/channel/ChannelState", name := "<init>", desc := "(ZLcom/example/echo_panel/echopanel/channel/Severity;ILjava/util/List;Ljava/lang/Object;Lcom/example/echo_panel/echopanel/channel/DisplayLimits;)V" } : Jvm.MethodName)) : Jvm.Cond).before a0 Z = true := hw _ (List.mem_of_getElem? (i := 19) rfl)
theorem Wd21 {Z : State} {a0 : Array Value} (hw : ∀ d ∈ tables_1, d.before a0 Z = true) : ((Jvm.Cond.code ({ cls := "com/example/echo_panel/echopanel/channel/ChannelState", name := "<init>", desc := "(ZLcom/example/echo_panel/echopanel/channel/Severity;ILjava/util/List;Ljava/lang/Object;Lcom/example/echo_panel/echopanel/channel/DisplayLimits;)V" } : Jvm.MethodName) prog_15_method_1_code (7 : Nat) (Option.none : Option Jvm.ClassFile.FieldType)) : Jvm.Cond).before a0 Z = true := hw _ (List.mem_of_getElem? (i := 21) rfl)
theorem Wd3 {Z : State} {a0 : Array Value} (hw : ∀ d ∈ tables_1, d.before a0 Z = true) : ((Jvm.Cond.initialized "com/example/echo_panel/echopanel/channel/ChannelState") : Jvm.Cond).before a0 Z = true := hw _ (List.mem_of_getElem? (i := 3) rfl)
theorem pd4 : parseMethodDescriptor "(ZLcom/example/echo_panel/echopanel/channel/Severity;ILjava/util/List;Ljava/lang/Object;Lcom/example/echo_panel/echopanel/channel/DisplayLimits;)V" = some ⟨[.boolean, (.object "com/example/echo_panel/echopanel/channel/Severity"), .int, (.object "java/util/List"), (.object "java/lang/Object"), (.object "com/example/echo_panel/echopanel/channel/DisplayLimits")], none⟩ := by decide +kernel
theorem d3_9 : decode prog_15_method_2_code 9 = .ok (.invokespecial 39, 3) := by decide +kernel
theorem Wd20 {Z : State} {a0 : Array Value} (hw : ∀ d ∈ tables_1, d.before a0 Z = true) : ((Jvm.Cond.instanceMethod ({ cls := "com/example/echo_panel/echopanel/channel/ChannelState", name := "<init>", desc := "(ZLcom/example/echo_panel/echopanel/channel/Severity;ILjava/util/List;Ljava/lang/Object;Lcom/example/echo_panel/echopanel/channel/DisplayLimits;)V" } : Jvm.MethodName)) : Jvm.Cond).before a0 Z = true := hw _ (List.mem_of_getElem? (i := 20) rfl)
theorem d3_12 : decode prog_15_method_2_code 12 = .ok (.return_, 1) := by decide +kernel
theorem ef9 (m : MethodId) (x0 : Addr) (x1 : Int32) (x3 : Int32) (x4 : Addr) (x5 : Addr) : entryFrame m #[(.ref x0), (.int x1), .null, (.int x3), (.ref x4), (.ref x5), .null] 7 = mkF m 0 #[.val (.ref x0), .val (.int x1), .val .null, .val (.int x3), .val (.ref x4), .val (.ref x5), .val .null] [] := by first | (simp [entryFrame, mkF, argsToLocals, Value.category]; done) | rfl
theorem ef10 (m : MethodId) (x0 : Addr) (x1 : Int32) (x3 : Int32) (x4 : Addr) (x5 : Addr) : entryFrame m #[(.ref x0), (.int x1), .null, (.int x3), (.ref x4), (.ref x5)] 6 = mkF m 0 #[.val (.ref x0), .val (.int x1), .val .null, .val (.int x3), .val (.ref x4), .val (.ref x5)] [] := by first | (simp [entryFrame, mkF, argsToLocals, Value.category]; done) | rfl
theorem ef11 (m : MethodId) (x0 : Addr) (x1 : Int32) (x2 : Addr) (x3 : Int32) (x4 : Addr) : entryFrame m #[(.ref x0), (.int x1), (.ref x2), (.int x3), (.ref x4), .null, .null] 7 = mkF m 0 #[.val (.ref x0), .val (.int x1), .val (.ref x2), .val (.int x3), .val (.ref x4), .val .null, .val .null] [] := by first | (simp [entryFrame, mkF, argsToLocals, Value.category]; done) | rfl
theorem ef12 (m : MethodId) (x0 : Addr) (x1 : Int32) (x2 : Addr) (x3 : Int32) (x4 : Addr) : entryFrame m #[(.ref x0), (.int x1), (.ref x2), (.int x3), (.ref x4), .null] 6 = mkF m 0 #[.val (.ref x0), .val (.int x1), .val (.ref x2), .val (.int x3), .val (.ref x4), .val .null] [] := by first | (simp [entryFrame, mkF, argsToLocals, Value.category]; done) | rfl
theorem ef13 (m : MethodId) (x0 : Addr) (x1 : Int32) (x2 : Addr) (x3 : Int32) (x4 : Addr) (x5 : Addr) : entryFrame m #[(.ref x0), (.int x1), (.ref x2), (.int x3), (.ref x4), (.ref x5), .null] 7 = mkF m 0 #[.val (.ref x0), .val (.int x1), .val (.ref x2), .val (.int x3), .val (.ref x4), .val (.ref x5), .val .null] [] := by first | (simp [entryFrame, mkF, argsToLocals, Value.category]; done) | rfl
theorem ef14 (m : MethodId) (x0 : Addr) (x1 : Int32) (x2 : Addr) (x3 : Int32) (x4 : Addr) (x5 : Addr) : entryFrame m #[(.ref x0), (.int x1), (.ref x2), (.int x3), (.ref x4), (.ref x5)] 6 = mkF m 0 #[.val (.ref x0), .val (.int x1), .val (.ref x2), .val (.int x3), .val (.ref x4), .val (.ref x5)] [] := by first | (simp [entryFrame, mkF, argsToLocals, Value.category]; done) | rfl
theorem ef15 (m : MethodId)  : entryFrame m #[.null] 1 = mkF m 0 #[.val .null] [] := by first | (simp [entryFrame, mkF, argsToLocals, Value.category]; done) | rfl
theorem d1_0 : decode prog_15_method_3_code 0 = .ok (.new 14, 3) := by decide +kernel
theorem Wd5 {Z : State} {a0 : Array Value} (hw : ∀ d ∈ tables_1, d.before a0 Z = true) : ((Jvm.Cond.classLink "com/example/echo_panel/echopanel/channel/ChannelState" (14 : Nat) "com/example/echo_panel/echopanel/channel/ChannelState") : Jvm.Cond).before a0 Z = true := hw _ (List.mem_of_getElem? (i := 5) rfl)
theorem d1_3 : decode prog_15_method_3_code 3 = .ok (.dup, 1) := by decide +kernel
theorem d1_4 : decode prog_15_method_3_code 4 = .ok (.iconst 1, 1) := by decide +kernel
theorem d1_5 : decode prog_15_method_3_code 5 = .ok (.getstatic 42, 3) := by decide +kernel
theorem Wd7 {Z : State} {a0 : Array Value} (hw : ∀ d ∈ tables_1, d.before a0 Z = true) : ((Jvm.Cond.fieldLink "com/example/echo_panel/echopanel/channel/ChannelState" (42 : Nat) "com/example/echo_panel/echopanel/channel/Severity" "NO_ALARM" "Lcom/example/echo_panel/echopanel/channel/Severity;") : Jvm.Cond).before a0 Z = true := hw _ (List.mem_of_getElem? (i := 7) rfl)
theorem d1_8 : decode prog_15_method_3_code 8 = .ok (.iconst 0, 1) := by decide +kernel
theorem Wd10 {Z : State} {a0 : Array Value} (hw : ∀ d ∈ tables_1, d.before a0 Z = true) : ((Jvm.Cond.methodLink "com/example/echo_panel/echopanel/channel/ChannelState" (47 : Nat) ({ cls := "java/util/List", name := "of", desc := "()Ljava/util/List;" } : Jvm.MethodName)) : Jvm.Cond).before a0 Z = true := hw _ (List.mem_of_getElem? (i := 10) rfl)
theorem Wd13 {Z : State} {a0 : Array Value} (hw : ∀ d ∈ tables_1, d.before a0 Z = true) : ((Jvm.Cond.code ({ cls := "java/util/List", name := "of", desc := "()Ljava/util/List;" } : Jvm.MethodName) jdk_40_method_36_code (0 : Nat) (Option.some (Jvm.ClassFile.FieldType.object "java/util/List"))) : Jvm.Cond).before a0 Z = true := hw _ (List.mem_of_getElem? (i := 13) rfl)
theorem pd5 : parseMethodDescriptor "()Ljava/util/List;" = some ⟨[], some (.object "java/util/List")⟩ := by decide +kernel
theorem d1_9 : decode prog_15_method_3_code 9 = .ok (.invokestatic 47, 3) := by decide +kernel
theorem Wd11 {Z : State} {a0 : Array Value} (hw : ∀ d ∈ tables_1, d.before a0 Z = true) : ((Jvm.Cond.static ({ cls := "java/util/List", name := "of", desc := "()Ljava/util/List;" } : Jvm.MethodName)) : Jvm.Cond).before a0 Z = true := hw _ (List.mem_of_getElem? (i := 11) rfl)
theorem d1_12 : decode prog_15_method_3_code 12 = .ok (.aload_n 0, 1) := by decide +kernel
theorem Wd16 {Z : State} {a0 : Array Value} (hw : ∀ d ∈ tables_1, d.before a0 Z = true) : ((Jvm.Cond.methodLink "com/example/echo_panel/echopanel/channel/ChannelState" (51 : Nat) ({ cls := "com/example/echo_panel/echopanel/channel/ChannelState", name := "<init>", desc := "(ZLcom/example/echo_panel/echopanel/channel/Severity;ILjava/util/List;Ljava/lang/Object;)V" } : Jvm.MethodName)) : Jvm.Cond).before a0 Z = true := hw _ (List.mem_of_getElem? (i := 16) rfl)
theorem Wd18 {Z : State} {a0 : Array Value} (hw : ∀ d ∈ tables_1, d.before a0 Z = true) : ((Jvm.Cond.code ({ cls := "com/example/echo_panel/echopanel/channel/ChannelState", name := "<init>", desc := "(ZLcom/example/echo_panel/echopanel/channel/Severity;ILjava/util/List;Ljava/lang/Object;)V" } : Jvm.MethodName) prog_15_method_2_code (6 : Nat) (Option.none : Option Jvm.ClassFile.FieldType)) : Jvm.Cond).before a0 Z = true := hw _ (List.mem_of_getElem? (i := 18) rfl)
theorem pd6 : parseMethodDescriptor "(ZLcom/example/echo_panel/echopanel/channel/Severity;ILjava/util/List;Ljava/lang/Object;)V" = some ⟨[.boolean, (.object "com/example/echo_panel/echopanel/channel/Severity"), .int, (.object "java/util/List"), (.object "java/lang/Object")], none⟩ := by decide +kernel
theorem d1_13 : decode prog_15_method_3_code 13 = .ok (.invokespecial 51, 3) := by decide +kernel
theorem Wd17 {Z : State} {a0 : Array Value} (hw : ∀ d ∈ tables_1, d.before a0 Z = true) : ((Jvm.Cond.instanceMethod ({ cls := "com/example/echo_panel/echopanel/channel/ChannelState", name := "<init>", desc := "(ZLcom/example/echo_panel/echopanel/channel/Severity;ILjava/util/List;Ljava/lang/Object;)V" } : Jvm.MethodName)) : Jvm.Cond).before a0 Z = true := hw _ (List.mem_of_getElem? (i := 17) rfl)
theorem d1_16 : decode prog_15_method_3_code 16 = .ok (.areturn, 1) := by decide +kernel
theorem d9_0 : decode prog_15_method_8_code 0 = .ok (.aload_n 0, 1) := by decide +kernel
theorem d9_1 : decode prog_15_method_8_code 1 = .ok (.getfield 13, 3) := by decide +kernel
theorem d9_4 : decode prog_15_method_8_code 4 = .ok (.ireturn, 1) := by decide +kernel
theorem d10_0 : decode prog_15_method_9_code 0 = .ok (.aload_n 0, 1) := by decide +kernel
theorem d10_1 : decode prog_15_method_9_code 1 = .ok (.getfield 19, 3) := by decide +kernel
theorem d10_4 : decode prog_15_method_9_code 4 = .ok (.areturn, 1) := by decide +kernel
theorem d11_0 : decode prog_15_method_10_code 0 = .ok (.aload_n 0, 1) := by decide +kernel
theorem d11_1 : decode prog_15_method_10_code 1 = .ok (.getfield 23, 3) := by decide +kernel
theorem d11_4 : decode prog_15_method_10_code 4 = .ok (.ireturn, 1) := by decide +kernel
theorem d12_0 : decode prog_15_method_11_code 0 = .ok (.aload_n 0, 1) := by decide +kernel
theorem d12_1 : decode prog_15_method_11_code 1 = .ok (.getfield 27, 3) := by decide +kernel
theorem d12_4 : decode prog_15_method_11_code 4 = .ok (.areturn, 1) := by decide +kernel
theorem d14_0 : decode prog_15_method_12_code 0 = .ok (.aload_n 0, 1) := by decide +kernel
theorem d14_1 : decode prog_15_method_12_code 1 = .ok (.getfield 31, 3) := by decide +kernel
theorem d14_4 : decode prog_15_method_12_code 4 = .ok (.areturn, 1) := by decide +kernel
theorem d15_0 : decode prog_15_method_13_code 0 = .ok (.aload_n 0, 1) := by decide +kernel
theorem d15_1 : decode prog_15_method_13_code 1 = .ok (.getfield 35, 3) := by decide +kernel
theorem d15_4 : decode prog_15_method_13_code 4 = .ok (.areturn, 1) := by decide +kernel
theorem ef16 (m : MethodId) (x0 : Int32) (x1 : Int32) (x2 : Int64) (x3 : Int32) (x4 : Int32) : entryFrame m #[(.int x0), (.int x1), (.long x2), (.int x3), (.int x4)] maxLocals = mkF m 0 #[.val (.int x0), .val (.int x1), .val (.long x2), .second, .val (.int x3), .val (.int x4), .unset, .unset, .unset, .unset] [] := by first | (simp [entryFrame, mkF, argsToLocals, Value.category, maxLocals]; done) | rfl
theorem pn8 : plainName "com/example/echo_panel/echopanel/channel/ChannelStateOfPinLaw" = true := by first | (simp [plainName, overriddenIn]; done) | decide +kernel
theorem Wd0 {Z : State} {a0 : Array Value} (hw : ∀ d ∈ tables_1, d.before a0 Z = true) : ((Jvm.Cond.arrayClass Jvm.ClassFile.FieldType.char) : Jvm.Cond).before a0 Z = true := hw _ (List.mem_of_getElem? (i := 0) rfl)
theorem Wd1 {Z : State} {a0 : Array Value} (hw : ∀ d ∈ tables_1, d.before a0 Z = true) : ((Jvm.Cond.methodLink "com/example/echo_panel/echopanel/channel/ChannelStateOfPinLaw" (23 : Nat) ({ cls := "com/example/echo_panel/echopanel/channel/ChannelState", name := "of", desc := "(Ljava/lang/Object;)Lcom/example/echo_panel/echopanel/channel/ChannelState;" } : Jvm.MethodName)) : Jvm.Cond).before a0 Z = true := hw _ (List.mem_of_getElem? (i := 1) rfl)
theorem Wd4 {Z : State} {a0 : Array Value} (hw : ∀ d ∈ tables_1, d.before a0 Z = true) : ((Jvm.Cond.code ({ cls := "com/example/echo_panel/echopanel/channel/ChannelState", name := "of", desc := "(Ljava/lang/Object;)Lcom/example/echo_panel/echopanel/channel/ChannelState;" } : Jvm.MethodName) prog_15_method_3_code (1 : Nat) (Option.some (Jvm.ClassFile.FieldType.object "com/example/echo_panel/echopanel/channel/ChannelState"))) : Jvm.Cond).before a0 Z = true := hw _ (List.mem_of_getElem? (i := 4) rfl)
theorem pd7 : parseMethodDescriptor "(Ljava/lang/Object;)Lcom/example/echo_panel/echopanel/channel/ChannelState;" = some ⟨[(.object "java/lang/Object")], some (.object "com/example/echo_panel/echopanel/channel/ChannelState")⟩ := by decide +kernel
theorem Wd2 {Z : State} {a0 : Array Value} (hw : ∀ d ∈ tables_1, d.before a0 Z = true) : ((Jvm.Cond.static ({ cls := "com/example/echo_panel/echopanel/channel/ChannelState", name := "of", desc := "(Ljava/lang/Object;)Lcom/example/echo_panel/echopanel/channel/ChannelState;" } : Jvm.MethodName)) : Jvm.Cond).before a0 Z = true := hw _ (List.mem_of_getElem? (i := 2) rfl)
theorem Wd60 {Z : State} {a0 : Array Value} (hw : ∀ d ∈ tables_1, d.before a0 Z = true) : ((Jvm.Cond.methodLink "com/example/echo_panel/echopanel/channel/ChannelStateOfPinLaw" (29 : Nat) ({ cls := "com/example/echo_panel/echopanel/channel/ChannelState", name := "connected", desc := "()Z" } : Jvm.MethodName)) : Jvm.Cond).before a0 Z = true := hw _ (List.mem_of_getElem? (i := 60) rfl)
theorem Wd63 {Z : State} {a0 : Array Value} (hw : ∀ d ∈ tables_1, d.before a0 Z = true) : ((Jvm.Cond.selects "com/example/echo_panel/echopanel/channel/ChannelState" ({ cls := "com/example/echo_panel/echopanel/channel/ChannelState", name := "connected", desc := "()Z" } : Jvm.MethodName) ({ cls := "com/example/echo_panel/echopanel/channel/ChannelState", name := "connected", desc := "()Z" } : Jvm.MethodName)) : Jvm.Cond).before a0 Z = true := hw _ (List.mem_of_getElem? (i := 63) rfl)
theorem Wd64 {Z : State} {a0 : Array Value} (hw : ∀ d ∈ tables_1, d.before a0 Z = true) : ((Jvm.Cond.code ({ cls := "com/example/echo_panel/echopanel/channel/ChannelState", name := "connected", desc := "()Z" } : Jvm.MethodName) prog_15_method_8_code (1 : Nat) (Option.some Jvm.ClassFile.FieldType.boolean)) : Jvm.Cond).before a0 Z = true := hw _ (List.mem_of_getElem? (i := 64) rfl)
theorem pd8 : parseMethodDescriptor "()Z" = some ⟨[], some .boolean⟩ := by decide +kernel
theorem Wd61 {Z : State} {a0 : Array Value} (hw : ∀ d ∈ tables_1, d.before a0 Z = true) : ((Jvm.Cond.declares ({ cls := "com/example/echo_panel/echopanel/channel/ChannelState", name := "connected", desc := "()Z" } : Jvm.MethodName)) : Jvm.Cond).before a0 Z = true := hw _ (List.mem_of_getElem? (i := 61) rfl)
theorem Wd62 {Z : State} {a0 : Array Value} (hw : ∀ d ∈ tables_1, d.before a0 Z = true) : ((Jvm.Cond.instanceMethod ({ cls := "com/example/echo_panel/echopanel/channel/ChannelState", name := "connected", desc := "()Z" } : Jvm.MethodName)) : Jvm.Cond).before a0 Z = true := hw _ (List.mem_of_getElem? (i := 62) rfl)
theorem Wd65 {Z : State} {a0 : Array Value} (hw : ∀ d ∈ tables_1, d.before a0 Z = true) : ((Jvm.Cond.methodLink "com/example/echo_panel/echopanel/channel/ChannelStateOfPinLaw" (33 : Nat) ({ cls := "com/example/echo_panel/echopanel/channel/ChannelState", name := "severity", desc := "()Lcom/example/echo_panel/echopanel/channel/Severity;" } : Jvm.MethodName)) : Jvm.Cond).before a0 Z = true := hw _ (List.mem_of_getElem? (i := 65) rfl)
theorem Wd68 {Z : State} {a0 : Array Value} (hw : ∀ d ∈ tables_1, d.before a0 Z = true) : ((Jvm.Cond.selects "com/example/echo_panel/echopanel/channel/ChannelState" ({ cls := "com/example/echo_panel/echopanel/channel/ChannelState", name := "severity", desc := "()Lcom/example/echo_panel/echopanel/channel/Severity;" } : Jvm.MethodName) ({ cls := "com/example/echo_panel/echopanel/channel/ChannelState", name := "severity", desc := "()Lcom/example/echo_panel/echopanel/channel/Severity;" } : Jvm.MethodName)) : Jvm.Cond).before a0 Z = true := hw _ (List.mem_of_getElem? (i := 68) rfl)
theorem Wd69 {Z : State} {a0 : Array Value} (hw : ∀ d ∈ tables_1, d.before a0 Z = true) : ((Jvm.Cond.code ({ cls := "com/example/echo_panel/echopanel/channel/ChannelState", name := "severity", desc := "()Lcom/example/echo_panel/echopanel/channel/Severity;" } : Jvm.MethodName) prog_15_method_9_code (1 : Nat) (Option.some (Jvm.ClassFile.FieldType.object "com/example/echo_panel/echopanel/channel/Severity"))) : Jvm.Cond).before a0 Z = true := hw _ (List.mem_of_getElem? (i := 69) rfl)
theorem pd9 : parseMethodDescriptor "()Lcom/example/echo_panel/echopanel/channel/Severity;" = some ⟨[], some (.object "com/example/echo_panel/echopanel/channel/Severity")⟩ := by decide +kernel
theorem Wd66 {Z : State} {a0 : Array Value} (hw : ∀ d ∈ tables_1, d.before a0 Z = true) : ((Jvm.Cond.declares ({ cls := "com/example/echo_panel/echopanel/channel/ChannelState", name := "severity", desc := "()Lcom/example/echo_panel/echopanel/channel/Severity;" } : Jvm.MethodName)) : Jvm.Cond).before a0 Z = true := hw _ (List.mem_of_getElem? (i := 66) rfl)
theorem Wd67 {Z : State} {a0 : Array Value} (hw : ∀ d ∈ tables_1, d.before a0 Z = true) : ((Jvm.Cond.instanceMethod ({ cls := "com/example/echo_panel/echopanel/channel/ChannelState", name := "severity", desc := "()Lcom/example/echo_panel/echopanel/channel/Severity;" } : Jvm.MethodName)) : Jvm.Cond).before a0 Z = true := hw _ (List.mem_of_getElem? (i := 67) rfl)
theorem Wd70 {Z : State} {a0 : Array Value} (hw : ∀ d ∈ tables_1, d.before a0 Z = true) : ((Jvm.Cond.fieldLink "com/example/echo_panel/echopanel/channel/ChannelStateOfPinLaw" (37 : Nat) "com/example/echo_panel/echopanel/channel/Severity" "NO_ALARM" "Lcom/example/echo_panel/echopanel/channel/Severity;") : Jvm.Cond).before a0 Z = true := hw _ (List.mem_of_getElem? (i := 70) rfl)
theorem Wd71 {Z : State} {a0 : Array Value} (hw : ∀ d ∈ tables_1, d.before a0 Z = true) : ((Jvm.Cond.methodLink "com/example/echo_panel/echopanel/channel/ChannelStateOfPinLaw" (43 : Nat) ({ cls := "com/example/echo_panel/echopanel/channel/ChannelState", name := "precision", desc := "()I" } : Jvm.MethodName)) : Jvm.Cond).before a0 Z = true := hw _ (List.mem_of_getElem? (i := 71) rfl)
theorem Wd74 {Z : State} {a0 : Array Value} (hw : ∀ d ∈ tables_1, d.before a0 Z = true) : ((Jvm.Cond.selects "com/example/echo_panel/echopanel/channel/ChannelState" ({ cls := "com/example/echo_panel/echopanel/channel/ChannelState", name := "precision", desc := "()I" } : Jvm.MethodName) ({ cls := "com/example/echo_panel/echopanel/channel/ChannelState", name := "precision", desc := "()I" } : Jvm.MethodName)) : Jvm.Cond).before a0 Z = true := hw _ (List.mem_of_getElem? (i := 74) rfl)
theorem Wd75 {Z : State} {a0 : Array Value} (hw : ∀ d ∈ tables_1, d.before a0 Z = true) : ((Jvm.Cond.code ({ cls := "com/example/echo_panel/echopanel/channel/ChannelState", name := "precision", desc := "()I" } : Jvm.MethodName) prog_15_method_10_code (1 : Nat) (Option.some Jvm.ClassFile.FieldType.int)) : Jvm.Cond).before a0 Z = true := hw _ (List.mem_of_getElem? (i := 75) rfl)
theorem pd10 : parseMethodDescriptor "()I" = some ⟨[], some .int⟩ := by decide +kernel
theorem Wd72 {Z : State} {a0 : Array Value} (hw : ∀ d ∈ tables_1, d.before a0 Z = true) : ((Jvm.Cond.declares ({ cls := "com/example/echo_panel/echopanel/channel/ChannelState", name := "precision", desc := "()I" } : Jvm.MethodName)) : Jvm.Cond).before a0 Z = true := hw _ (List.mem_of_getElem? (i := 72) rfl)
theorem Wd73 {Z : State} {a0 : Array Value} (hw : ∀ d ∈ tables_1, d.before a0 Z = true) : ((Jvm.Cond.instanceMethod ({ cls := "com/example/echo_panel/echopanel/channel/ChannelState", name := "precision", desc := "()I" } : Jvm.MethodName)) : Jvm.Cond).before a0 Z = true := hw _ (List.mem_of_getElem? (i := 73) rfl)
theorem Wd76 {Z : State} {a0 : Array Value} (hw : ∀ d ∈ tables_1, d.before a0 Z = true) : ((Jvm.Cond.methodLink "com/example/echo_panel/echopanel/channel/ChannelStateOfPinLaw" (47 : Nat) ({ cls := "com/example/echo_panel/echopanel/channel/ChannelState", name := "labels", desc := "()Ljava/util/List;" } : Jvm.MethodName)) : Jvm.Cond).before a0 Z = true := hw _ (List.mem_of_getElem? (i := 76) rfl)
theorem Wd79 {Z : State} {a0 : Array Value} (hw : ∀ d ∈ tables_1, d.before a0 Z = true) : ((Jvm.Cond.selects "com/example/echo_panel/echopanel/channel/ChannelState" ({ cls := "com/example/echo_panel/echopanel/channel/ChannelState", name := "labels", desc := "()Ljava/util/List;" } : Jvm.MethodName) ({ cls := "com/example/echo_panel/echopanel/channel/ChannelState", name := "labels", desc := "()Ljava/util/List;" } : Jvm.MethodName)) : Jvm.Cond).before a0 Z = true := hw _ (List.mem_of_getElem? (i := 79) rfl)
theorem Wd80 {Z : State} {a0 : Array Value} (hw : ∀ d ∈ tables_1, d.before a0 Z = true) : ((Jvm.Cond.code ({ cls := "com/example/echo_panel/echopanel/channel/ChannelState", name := "labels", desc := "()Ljava/util/List;" } : Jvm.MethodName) prog_15_method_11_code (1 : Nat) (Option.some (Jvm.ClassFile.FieldType.object "java/util/List"))) : Jvm.Cond).before a0 Z = true := hw _ (List.mem_of_getElem? (i := 80) rfl)
theorem Wd77 {Z : State} {a0 : Array Value} (hw : ∀ d ∈ tables_1, d.before a0 Z = true) : ((Jvm.Cond.declares ({ cls := "com/example/echo_panel/echopanel/channel/ChannelState", name := "labels", desc := "()Ljava/util/List;" } : Jvm.MethodName)) : Jvm.Cond).before a0 Z = true := hw _ (List.mem_of_getElem? (i := 77) rfl)
theorem Wd78 {Z : State} {a0 : Array Value} (hw : ∀ d ∈ tables_1, d.before a0 Z = true) : ((Jvm.Cond.instanceMethod ({ cls := "com/example/echo_panel/echopanel/channel/ChannelState", name := "labels", desc := "()Ljava/util/List;" } : Jvm.MethodName)) : Jvm.Cond).before a0 Z = true := hw _ (List.mem_of_getElem? (i := 78) rfl)
theorem Wd81 {Z : State} {a0 : Array Value} (hw : ∀ d ∈ tables_1, d.before a0 Z = true) : ((Jvm.Cond.methodLink "com/example/echo_panel/echopanel/channel/ChannelStateOfPinLaw" (51 : Nat) ({ cls := "java/util/List", name := "size", desc := "()I" } : Jvm.MethodName)) : Jvm.Cond).before a0 Z = true := hw _ (List.mem_of_getElem? (i := 81) rfl)
theorem Wd84 {Z : State} {a0 : Array Value} (hw : ∀ d ∈ tables_1, d.before a0 Z = true) : ((Jvm.Cond.selects "java/util/ImmutableCollections$ListN" ({ cls := "java/util/List", name := "size", desc := "()I" } : Jvm.MethodName) ({ cls := "java/util/ImmutableCollections$ListN", name := "size", desc := "()I" } : Jvm.MethodName)) : Jvm.Cond).before a0 Z = true := hw _ (List.mem_of_getElem? (i := 84) rfl)
theorem Wd89 {Z : State} {a0 : Array Value} (hw : ∀ d ∈ tables_1, d.before a0 Z = true) : ((Jvm.Cond.code ({ cls := "java/util/ImmutableCollections$ListN", name := "size", desc := "()I" } : Jvm.MethodName) jdk_45_method_3_code (1 : Nat) (Option.some Jvm.ClassFile.FieldType.int)) : Jvm.Cond).before a0 Z = true := hw _ (List.mem_of_getElem? (i := 89) rfl)
theorem Wd88 {Z : State} {a0 : Array Value} (hw : ∀ d ∈ tables_1, d.before a0 Z = true) : ((Jvm.Cond.initialized "java/util/ImmutableCollections$ListN") : Jvm.Cond).before a0 Z = true := hw _ (List.mem_of_getElem? (i := 88) rfl)
theorem Wd82 {Z : State} {a0 : Array Value} (hw : ∀ d ∈ tables_1, d.before a0 Z = true) : ((Jvm.Cond.declares ({ cls := "java/util/List", name := "size", desc := "()I" } : Jvm.MethodName)) : Jvm.Cond).before a0 Z = true := hw _ (List.mem_of_getElem? (i := 82) rfl)
theorem Wd83 {Z : State} {a0 : Array Value} (hw : ∀ d ∈ tables_1, d.before a0 Z = true) : ((Jvm.Cond.interfaceMethod "java/util/List" "java/util/List" "size" "()I") : Jvm.Cond).before a0 Z = true := hw _ (List.mem_of_getElem? (i := 83) rfl)
theorem Wd85 {Z : State} {a0 : Array Value} (hw : ∀ d ∈ tables_1, d.before a0 Z = true) : ((Jvm.Cond.instanceMethod ({ cls := "java/util/ImmutableCollections$ListN", name := "size", desc := "()I" } : Jvm.MethodName)) : Jvm.Cond).before a0 Z = true := hw _ (List.mem_of_getElem? (i := 85) rfl)
theorem Wd86 {Z : State} {a0 : Array Value} (hw : ∀ d ∈ tables_1, d.before a0 Z = true) : ((Jvm.Cond.publicMethod ({ cls := "java/util/ImmutableCollections$ListN", name := "size", desc := "()I" } : Jvm.MethodName)) : Jvm.Cond).before a0 Z = true := hw _ (List.mem_of_getElem? (i := 86) rfl)
theorem Wd87 {Z : State} {a0 : Array Value} (hw : ∀ d ∈ tables_1, d.before a0 Z = true) : ((Jvm.Cond.unhidden "java/util/ImmutableCollections$ListN" "size" "()I") : Jvm.Cond).before a0 Z = true := hw _ (List.mem_of_getElem? (i := 87) rfl)
theorem Wd92 {Z : State} {a0 : Array Value} (hw : ∀ d ∈ tables_1, d.before a0 Z = true) : ((Jvm.Cond.methodLink "com/example/echo_panel/echopanel/channel/ChannelStateOfPinLaw" (56 : Nat) ({ cls := "com/example/echo_panel/echopanel/channel/ChannelState", name := "value", desc := "()Ljava/lang/Object;" } : Jvm.MethodName)) : Jvm.Cond).before a0 Z = true := hw _ (List.mem_of_getElem? (i := 92) rfl)
theorem Wd95 {Z : State} {a0 : Array Value} (hw : ∀ d ∈ tables_1, d.before a0 Z = true) : ((Jvm.Cond.selects "com/example/echo_panel/echopanel/channel/ChannelState" ({ cls := "com/example/echo_panel/echopanel/channel/ChannelState", name := "value", desc := "()Ljava/lang/Object;" } : Jvm.MethodName) ({ cls := "com/example/echo_panel/echopanel/channel/ChannelState", name := "value", desc := "()Ljava/lang/Object;" } : Jvm.MethodName)) : Jvm.Cond).before a0 Z = true := hw _ (List.mem_of_getElem? (i := 95) rfl)
theorem Wd96 {Z : State} {a0 : Array Value} (hw : ∀ d ∈ tables_1, d.before a0 Z = true) : ((Jvm.Cond.code ({ cls := "com/example/echo_panel/echopanel/channel/ChannelState", name := "value", desc := "()Ljava/lang/Object;" } : Jvm.MethodName) prog_15_method_12_code (1 : Nat) (Option.some (Jvm.ClassFile.FieldType.object "java/lang/Object"))) : Jvm.Cond).before a0 Z = true := hw _ (List.mem_of_getElem? (i := 96) rfl)
theorem pd11 : parseMethodDescriptor "()Ljava/lang/Object;" = some ⟨[], some (.object "java/lang/Object")⟩ := by decide +kernel
theorem Wd93 {Z : State} {a0 : Array Value} (hw : ∀ d ∈ tables_1, d.before a0 Z = true) : ((Jvm.Cond.declares ({ cls := "com/example/echo_panel/echopanel/channel/ChannelState", name := "value", desc := "()Ljava/lang/Object;" } : Jvm.MethodName)) : Jvm.Cond).before a0 Z = true := hw _ (List.mem_of_getElem? (i := 93) rfl)
theorem Wd94 {Z : State} {a0 : Array Value} (hw : ∀ d ∈ tables_1, d.before a0 Z = true) : ((Jvm.Cond.instanceMethod ({ cls := "com/example/echo_panel/echopanel/channel/ChannelState", name := "value", desc := "()Ljava/lang/Object;" } : Jvm.MethodName)) : Jvm.Cond).before a0 Z = true := hw _ (List.mem_of_getElem? (i := 94) rfl)
theorem Wd97 {Z : State} {a0 : Array Value} (hw : ∀ d ∈ tables_1, d.before a0 Z = true) : ((Jvm.Cond.methodLink "com/example/echo_panel/echopanel/channel/ChannelStateOfPinLaw" (60 : Nat) ({ cls := "com/example/echo_panel/echopanel/channel/ChannelState", name := "limits", desc := "()Lcom/example/echo_panel/echopanel/channel/DisplayLimits;" } : Jvm.MethodName)) : Jvm.Cond).before a0 Z = true := hw _ (List.mem_of_getElem? (i := 97) rfl)
theorem Wd100 {Z : State} {a0 : Array Value} (hw : ∀ d ∈ tables_1, d.before a0 Z = true) : ((Jvm.Cond.selects "com/example/echo_panel/echopanel/channel/ChannelState" ({ cls := "com/example/echo_panel/echopanel/channel/ChannelState", name := "limits", desc := "()Lcom/example/echo_panel/echopanel/channel/DisplayLimits;" } : Jvm.MethodName) ({ cls := "com/example/echo_panel/echopanel/channel/ChannelState", name := "limits", desc := "()Lcom/example/echo_panel/echopanel/channel/DisplayLimits;" } : Jvm.MethodName)) : Jvm.Cond).before a0 Z = true := hw _ (List.mem_of_getElem? (i := 100) rfl)
theorem Wd101 {Z : State} {a0 : Array Value} (hw : ∀ d ∈ tables_1, d.before a0 Z = true) : ((Jvm.Cond.code ({ cls := "com/example/echo_panel/echopanel/channel/ChannelState", name := "limits", desc := "()Lcom/example/echo_panel/echopanel/channel/DisplayLimits;" } : Jvm.MethodName) prog_15_method_13_code (1 : Nat) (Option.some (Jvm.ClassFile.FieldType.object "com/example/echo_panel/echopanel/channel/DisplayLimits"))) : Jvm.Cond).before a0 Z = true := hw _ (List.mem_of_getElem? (i := 101) rfl)
theorem pd12 : parseMethodDescriptor "()Lcom/example/echo_panel/echopanel/channel/DisplayLimits;" = some ⟨[], some (.object "com/example/echo_panel/echopanel/channel/DisplayLimits")⟩ := by decide +kernel
theorem Wd98 {Z : State} {a0 : Array Value} (hw : ∀ d ∈ tables_1, d.before a0 Z = true) : ((Jvm.Cond.declares ({ cls := "com/example/echo_panel/echopanel/channel/ChannelState", name := "limits", desc := "()Lcom/example/echo_panel/echopanel/channel/DisplayLimits;" } : Jvm.MethodName)) : Jvm.Cond).before a0 Z = true := hw _ (List.mem_of_getElem? (i := 98) rfl)
theorem Wd99 {Z : State} {a0 : Array Value} (hw : ∀ d ∈ tables_1, d.before a0 Z = true) : ((Jvm.Cond.instanceMethod ({ cls := "com/example/echo_panel/echopanel/channel/ChannelState", name := "limits", desc := "()Lcom/example/echo_panel/echopanel/channel/DisplayLimits;" } : Jvm.MethodName)) : Jvm.Cond).before a0 Z = true := hw _ (List.mem_of_getElem? (i := 99) rfl)
theorem Wd102 {Z : State} {a0 : Array Value} (hw : ∀ d ∈ tables_1, d.before a0 Z = true) : ((Jvm.Cond.methodLink "com/example/echo_panel/echopanel/channel/ChannelStateOfPinLaw" (7 : Nat) ({ cls := "java/lang/Integer", name := "valueOf", desc := "(I)Ljava/lang/Integer;" } : Jvm.MethodName)) : Jvm.Cond).before a0 Z = true := hw _ (List.mem_of_getElem? (i := 102) rfl)
theorem Wd105 {Z : State} {a0 : Array Value} (hw : ∀ d ∈ tables_1, d.before a0 Z = true) : ((Jvm.Cond.code ({ cls := "java/lang/Integer", name := "valueOf", desc := "(I)Ljava/lang/Integer;" } : Jvm.MethodName) jdk_33_method_22_code (1 : Nat) (Option.some (Jvm.ClassFile.FieldType.object "java/lang/Integer"))) : Jvm.Cond).before a0 Z = true := hw _ (List.mem_of_getElem? (i := 105) rfl)
theorem pd13 : parseMethodDescriptor "(I)Ljava/lang/Integer;" = some ⟨[.int], some (.object "java/lang/Integer")⟩ := by decide +kernel
theorem Wd103 {Z : State} {a0 : Array Value} (hw : ∀ d ∈ tables_1, d.before a0 Z = true) : ((Jvm.Cond.static ({ cls := "java/lang/Integer", name := "valueOf", desc := "(I)Ljava/lang/Integer;" } : Jvm.MethodName)) : Jvm.Cond).before a0 Z = true := hw _ (List.mem_of_getElem? (i := 103) rfl)
theorem Wd151 {Z : State} {a0 : Array Value} (hw : ∀ d ∈ tables_1, d.before a0 Z = true) : ((Jvm.Cond.methodLink "com/example/echo_panel/echopanel/channel/ChannelStateOfPinLaw" (13 : Nat) ({ cls := "java/lang/Long", name := "valueOf", desc := "(J)Ljava/lang/Long;" } : Jvm.MethodName)) : Jvm.Cond).before a0 Z = true := hw _ (List.mem_of_getElem? (i := 151) rfl)
theorem Wd154 {Z : State} {a0 : Array Value} (hw : ∀ d ∈ tables_1, d.before a0 Z = true) : ((Jvm.Cond.code ({ cls := "java/lang/Long", name := "valueOf", desc := "(J)Ljava/lang/Long;" } : Jvm.MethodName) jdk_35_method_24_code (3 : Nat) (Option.some (Jvm.ClassFile.FieldType.object "java/lang/Long"))) : Jvm.Cond).before a0 Z = true := hw _ (List.mem_of_getElem? (i := 154) rfl)
theorem pd14 : parseMethodDescriptor "(J)Ljava/lang/Long;" = some ⟨[.long], some (.object "java/lang/Long")⟩ := by decide +kernel
theorem Wd152 {Z : State} {a0 : Array Value} (hw : ∀ d ∈ tables_1, d.before a0 Z = true) : ((Jvm.Cond.static ({ cls := "java/lang/Long", name := "valueOf", desc := "(J)Ljava/lang/Long;" } : Jvm.MethodName)) : Jvm.Cond).before a0 Z = true := hw _ (List.mem_of_getElem? (i := 152) rfl)
theorem Wd109 {Z : State} {a0 : Array Value} (hw : ∀ d ∈ tables_1, d.before a0 Z = true) : ((Jvm.Cond.classLink "com/example/echo_panel/echopanel/channel/ChannelStateOfPinLaw" (18 : Nat) "java/lang/String") : Jvm.Cond).before a0 Z = true := hw _ (List.mem_of_getElem? (i := 109) rfl)
theorem Wd110 {Z : State} {a0 : Array Value} (hw : ∀ d ∈ tables_1, d.before a0 Z = true) : ((Jvm.Cond.instantiable "java/lang/String" (4 : Nat)) : Jvm.Cond).before a0 Z = true := hw _ (List.mem_of_getElem? (i := 110) rfl)
theorem Wd111 {Z : State} {a0 : Array Value} (hw : ∀ d ∈ tables_1, d.before a0 Z = true) : ((Jvm.Cond.initialized "java/lang/String") : Jvm.Cond).before a0 Z = true := hw _ (List.mem_of_getElem? (i := 111) rfl)
theorem Wd133 {Z : State} {a0 : Array Value} (hw : ∀ d ∈ tables_1, d.before a0 Z = true) : ((Jvm.Cond.laysFinal "java/lang/String" "java/lang/String" "coder" "B") : Jvm.Cond).before a0 Z = true := hw _ (List.mem_of_getElem? (i := 133) rfl)
theorem Wd135 {Z : State} {a0 : Array Value} (hw : ∀ d ∈ tables_1, d.before a0 Z = true) : ((Jvm.Cond.laysFinal "java/lang/String" "java/lang/String" "value" "[B") : Jvm.Cond).before a0 Z = true := hw _ (List.mem_of_getElem? (i := 135) rfl)
theorem Wd112 {Z : State} {a0 : Array Value} (hw : ∀ d ∈ tables_1, d.before a0 Z = true) : ((Jvm.Cond.methodLink "com/example/echo_panel/echopanel/channel/ChannelStateOfPinLaw" (20 : Nat) ({ cls := "java/lang/String", name := "<init>", desc := "([C)V" } : Jvm.MethodName)) : Jvm.Cond).before a0 Z = true := hw _ (List.mem_of_getElem? (i := 112) rfl)
theorem Wd114 {Z : State} {a0 : Array Value} (hw : ∀ d ∈ tables_1, d.before a0 Z = true) : ((Jvm.Cond.code ({ cls := "java/lang/String", name := "<init>", desc := "([C)V" } : Jvm.MethodName) jdk_42_method_3_code (2 : Nat) (Option.none : Option Jvm.ClassFile.FieldType)) : Jvm.Cond).before a0 Z = true := hw _ (List.mem_of_getElem? (i := 114) rfl)
theorem pd15 : parseMethodDescriptor "([C)V" = some ⟨[(.array .char)], none⟩ := by decide +kernel
theorem Wd113 {Z : State} {a0 : Array Value} (hw : ∀ d ∈ tables_1, d.before a0 Z = true) : ((Jvm.Cond.instanceMethod ({ cls := "java/lang/String", name := "<init>", desc := "([C)V" } : Jvm.MethodName)) : Jvm.Cond).before a0 Z = true := hw _ (List.mem_of_getElem? (i := 113) rfl)
def Q_rmR (Z : State) (a1 : Addr) (h0 : Heap) (v : Option Value) (h : Heap) (L : List Loc) : Prop := v = none ∧ L = [] ∧ h = h0
set_option maxRecDepth 65536 in
set_option maxHeartbeats 40000000 in
theorem rmR (l : Launch) (Z : State) (a0 : Array Value) (hw : ∀ d ∈ tables_1, d.before a0 Z = true) (ws : List Jvm.Cond) (a1 : Addr) (h0 : Heap)  :
    MetFree l (⟨"java/lang/Record", "<init>", "()V"⟩ : MethodName) (head1 (Jvm.Cond.code (⟨"java/lang/Record", "<init>", "()V"⟩ : MethodName) jdk_30_method_1_code 1 none :: ws) ({ frames := 1, cells := 0, slots := 0, locals := 12 } : Room)) (fun a U => a = #[(.ref a1)] ∧ Z.Warmed39 U.vm ∧ U.heap = h0) (fun _ _ _ _ _ => True) (fun _ U o U' => ∃ v L, o = .returned v ∧ Q_rmR Z a1 h0 v U'.heap L ∧ FrameEnd U o U' L ({ frames := 1, cells := 0, slots := 0, locals := 12 } : Room).cells ({ frames := 1, cells := 0, slots := 0, locals := 12 } : Room).slots) := by
  refine MetFree.of_bodySF (plainFor_of_name pn0) hisR ?_
  intro p e s m args below meth c s₁ Bd hml0 hP hK
  obtain ⟨rfl, hZ, hh⟩ := hP
  have hx := Bd.exec
  have hby := Bd.bytes
  have hlk : meth.locks = false := Bd.notSynchronized
  have hml : c.maxLocals = 1 := hml0
  have hown : s.vm.findClass "java/lang/Record" = some m.cls := findClass_of_methodNamed Bd.named
  have hnm := (name_of_methodNamed Bd.named Bd.method).1
  have X0 : Stand p l e ({ frames := 1, cells := 0, slots := 0, locals := 12 } : Room) s m #[(.ref a1)] below meth c s₁ [] 0 0 := Stand.of_body Bd
  have e0 : s₁.heap = h0 := by rw [← hh, Bd.state]; rfl
  suffices hgo : OD p e s below (Q_rmR Z a1 h0) ({ frames := 1, cells := 0, slots := 0, locals := 12 } : Room).cells ({ frames := 1, cells := 0, slots := 0, locals := 12 } : Room).slots (s₁.setTop (mkF m 0 #[.val (.ref a1)] [])) by
    obtain ⟨s₂, o, hgo1, hgo2⟩ := hgo
    exact ⟨s₂, o, castTop (ef0 m a1) hgo1, hgo2⟩
  refine OD.go (B := (s₁.setTop (mkF m 1 #[.val (.ref a1)] [(.ref a1)]))) (fun t k => XS.aloadN X0.here hx rfl (hb hby d5_0) rfl rfl k) ?_
  obtain ⟨T1, X1, e1, st1⟩ := initO X0 hx hZ hown (Wd27 hw) (Wd28 hw) (Wd29 hw) e0 (g := (mkF m 1 #[.val (.ref a1)] [(.ref a1)])) rfl (by rw [hml]; rfl) rfl (hb hby d5_1) (by decide) (W := 0) (by show 2 * 0 + _ ≤ _; exact Nat.le_of_eq rfl) (by decide)
  refine OD.go (B := (T1.setTop (mkF m 4 #[.val (.ref a1)] []))) st1 ?_
  exact OD.retV X1 hx hlk Bd.returns (hb hby d5_4) (Nat.le_of_ble_eq_true rfl) (Nat.le_of_ble_eq_true rfl) ⟨rfl, rfl, e1⟩
def Q_rmNu (Z : State) (a1 : Addr) (h0 : Heap) (v : Option Value) (h : Heap) (L : List Loc) : Prop := v = none ∧ L = [] ∧ h = h0
set_option maxRecDepth 65536 in
set_option maxHeartbeats 40000000 in
theorem rmNu (l : Launch) (Z : State) (a0 : Array Value) (hw : ∀ d ∈ tables_1, d.before a0 Z = true) (ws : List Jvm.Cond) (a1 : Addr) (h0 : Heap)  :
    MetFree l (⟨"java/lang/Number", "<init>", "()V"⟩ : MethodName) (head1 (Jvm.Cond.code (⟨"java/lang/Number", "<init>", "()V"⟩ : MethodName) jdk_18_method_1_code 1 none :: ws) ({ frames := 1, cells := 0, slots := 0, locals := 12 } : Room)) (fun a U => a = #[(.ref a1)] ∧ Z.Warmed39 U.vm ∧ U.heap = h0) (fun _ _ _ _ _ => True) (fun _ U o U' => ∃ v L, o = .returned v ∧ Q_rmNu Z a1 h0 v U'.heap L ∧ FrameEnd U o U' L ({ frames := 1, cells := 0, slots := 0, locals := 12 } : Room).cells ({ frames := 1, cells := 0, slots := 0, locals := 12 } : Room).slots) := by
  refine MetFree.of_bodySF (plainFor_of_name pn1) hisR ?_
  intro p e s m args below meth c s₁ Bd hml0 hP hK
  obtain ⟨rfl, hZ, hh⟩ := hP
  have hx := Bd.exec
  have hby := Bd.bytes
  have hlk : meth.locks = false := Bd.notSynchronized
  have hml : c.maxLocals = 1 := hml0
  have hown : s.vm.findClass "java/lang/Number" = some m.cls := findClass_of_methodNamed Bd.named
  have hnm := (name_of_methodNamed Bd.named Bd.method).1
  have X0 : Stand p l e ({ frames := 1, cells := 0, slots := 0, locals := 12 } : Room) s m #[(.ref a1)] below meth c s₁ [] 0 0 := Stand.of_body Bd
  have e0 : s₁.heap = h0 := by rw [← hh, Bd.state]; rfl
  suffices hgo : OD p e s below (Q_rmNu Z a1 h0) ({ frames := 1, cells := 0, slots := 0, locals := 12 } : Room).cells ({ frames := 1, cells := 0, slots := 0, locals := 12 } : Room).slots (s₁.setTop (mkF m 0 #[.val (.ref a1)] [])) by
    obtain ⟨s₂, o, hgo1, hgo2⟩ := hgo
    exact ⟨s₂, o, castTop (ef0 m a1) hgo1, hgo2⟩
  refine OD.go (B := (s₁.setTop (mkF m 1 #[.val (.ref a1)] [(.ref a1)]))) (fun t k => XS.aloadN X0.here hx rfl (hb hby d23_0) rfl rfl k) ?_
  obtain ⟨T1, X1, e1, st1⟩ := initO X0 hx hZ hown (Wd148 hw) (Wd28 hw) (Wd29 hw) e0 (g := (mkF m 1 #[.val (.ref a1)] [(.ref a1)])) rfl (by rw [hml]; rfl) rfl (hb hby d23_1) (by decide) (W := 0) (by show 2 * 0 + _ ≤ _; exact Nat.le_of_eq rfl) (by decide)
  refine OD.go (B := (T1.setTop (mkF m 4 #[.val (.ref a1)] []))) st1 ?_
  exact OD.retV X1 hx hlk Bd.returns (hb hby d23_4) (Nat.le_of_ble_eq_true rfl) (Nat.le_of_ble_eq_true rfl) ⟨rfl, rfl, e1⟩
def Q_rmIi (Z : State) (a1 : Addr) (p1 : Int32) (h0 : Heap) (n0 : Nat) (v : Option Value) (h : Heap) (L : List Loc) : Prop := v = none ∧ Fr n0 L ∧ Keep h0 h [a1] ∧ Fld Z h a1 "java/lang/Integer" "value" "I" (.int p1)
set_option maxRecDepth 65536 in
set_option maxHeartbeats 40000000 in
theorem rmIi (l : Launch) (Z : State) (a0 : Array Value) (hw : ∀ d ∈ tables_1, d.before a0 Z = true) (ws : List Jvm.Cond) (a1 : Addr) (p1 : Int32) (h0 : Heap) (n0 : Nat) (Z0 : n0 ≤ h0.size) (E1 : Exa Z h0 a1 "java/lang/Integer") (F0 : Fld Z h0 a1 "java/lang/Integer" "value" "I" (.int (0 : Int32))) (g1 : n0 ≤ a1) :
    MetFree l (⟨"java/lang/Integer", "<init>", "(I)V"⟩ : MethodName) (head1 (Jvm.Cond.code (⟨"java/lang/Integer", "<init>", "(I)V"⟩ : MethodName) jdk_33_method_23_code 2 none :: ws) ({ frames := 2, cells := 0, slots := 0, locals := 24 } : Room)) (fun a U => a = #[(.ref a1), (.int p1)] ∧ Z.Warmed39 U.vm ∧ U.heap = h0) (fun _ _ _ _ _ => True) (fun _ U o U' => ∃ v L, o = .returned v ∧ Q_rmIi Z a1 p1 h0 n0 v U'.heap L ∧ FrameEnd U o U' L ({ frames := 2, cells := 0, slots := 0, locals := 24 } : Room).cells ({ frames := 2, cells := 0, slots := 0, locals := 24 } : Room).slots) := by
  refine MetFree.of_bodySF (plainFor_of_name pn2) hisR ?_
  intro p e s m args below meth c s₁ Bd hml0 hP hK
  obtain ⟨rfl, hZ, hh⟩ := hP
  have hx := Bd.exec
  have hby := Bd.bytes
  have hlk : meth.locks = false := Bd.notSynchronized
  have hml : c.maxLocals = 2 := hml0
  have hown : s.vm.findClass "java/lang/Integer" = some m.cls := findClass_of_methodNamed Bd.named
  have hnm := (name_of_methodNamed Bd.named Bd.method).1
  have X0 : Stand p l e ({ frames := 2, cells := 0, slots := 0, locals := 24 } : Room) s m #[(.ref a1), (.int p1)] below meth c s₁ [] 0 0 := Stand.of_body Bd
  have e0 : s₁.heap = h0 := by rw [← hh, Bd.state]; rfl
  have N0 := Fr.nil n0
  suffices hgo : OD p e s below (Q_rmIi Z a1 p1 h0 n0) ({ frames := 2, cells := 0, slots := 0, locals := 24 } : Room).cells ({ frames := 2, cells := 0, slots := 0, locals := 24 } : Room).slots (s₁.setTop (mkF m 0 #[.val (.ref a1), .val (.int p1)] [])) by
    obtain ⟨s₂, o, hgo1, hgo2⟩ := hgo
    exact ⟨s₂, o, castTop (ef1 m a1 p1) hgo1, hgo2⟩
  refine OD.go (B := (s₁.setTop (mkF m 1 #[.val (.ref a1), .val (.int p1)] [(.ref a1)]))) (fun t k => XS.aloadN X0.here hx rfl (hb hby d22_0) rfl rfl k) ?_
  obtain ⟨_, _, ⟨T1, L1, k1, n1⟩, -, X1, ⟨Lc1, hQ1, l1, y1, z1⟩, st1⟩ := X0.specialBack hx (y := (⟨"java/lang/Number", "<init>", "()V"⟩ : MethodName)) rfl hown (mvT hZ (Wd142 hw)) (mvT hZ (Wd143 hw)) (mvT hZ (Wd147 hw)) (by decide) (backOf (W := 0) (rmNu l Z a0 hw [] a1 h0) hZ (Wd147 hw) (Wd146 hw) (by decide) (by decide)) (g := (mkF m 1 #[.val (.ref a1), .val (.int p1)] [(.ref a1)])) rfl (by rw [hml]; rfl) (Steps.refl _) (a := a1) (argsL := []) (rest := []) (lenOf pd0 rfl) rfl (by show 2 * 0 + _ ≤ _; exact Nat.le_of_eq rfl) (hb hby d22_1) (fun _ _ => ⟨rfl, e0, (Nat.le_of_ble_eq_true rfl), (Nat.le_of_ble_eq_true rfl)⟩)
  dsimp only [Pt.U, Pt.locs, Pt.cells, Pt.slots] at X1 l1 y1 z1 st1 hQ1
  subst l1 y1 z1
  obtain ⟨rfl, rfl, e1⟩ := hQ1
  have N1 := Fr.app N0 (Fr.nil _)
  refine OD.via (B := (T1.setTop (mkF m 4 #[.val (.ref a1), .val (.int p1)] []))) st1 ?_
  refine OD.go (B := (T1.setTop (mkF m 5 #[.val (.ref a1), .val (.int p1)] [(.ref a1)]))) (fun t k => XS.aloadN X1.here hx rfl (hb hby d22_4) rfl rfl k) ?_
  refine OD.go (B := (T1.setTop (mkF m 6 #[.val (.ref a1), .val (.int p1)] [(.int p1), (.ref a1)]))) (fun t k => XS.iloadN X1.here hx rfl (hb hby d22_5) rfl k) ?_
  obtain ⟨T2, h2, X2, e2, W2, st2⟩ := putF X1 hx hZ hown (host := "") (Or.inl (Wd149 hw)) Via.refl e1 F0 E1 (Or.inr ⟨(Wd150 hw), rfl, hnm⟩) (Wd137 hw) (ty := .int) (by decide) rfl rfl (g := (mkF m 6 #[.val (.ref a1), .val (.int p1)] [(.int p1), (.ref a1)])) rfl rfl (hb hby d22_6)
  have Fx2 := F0.same W2
  have N2 := Fr.snoc X2 N1 g1
  refine OD.go (B := (T2.setTop (mkF m 9 #[.val (.ref a1), .val (.int p1)] []))) st2 ?_
  exact OD.retV X2 hx hlk Bd.returns (hb hby d22_9) (Nat.le_of_ble_eq_true rfl) (Nat.le_of_ble_eq_true rfl) ⟨rfl, N2, by rw [e2]; exact ((Keep.refl h0 [a1]).wr W2 (Or.inl (List.mem_of_getElem? (i := 0) rfl))), by rw [e2]; exact Fx2⟩
def Q_rmLi (Z : State) (a1 : Addr) (lq : Int64) (h0 : Heap) (n0 : Nat) (v : Option Value) (h : Heap) (L : List Loc) : Prop := v = none ∧ Fr n0 L ∧ Keep h0 h [a1] ∧ Fld Z h a1 "java/lang/Long" "value" "J" (.long lq)
set_option maxRecDepth 65536 in
set_option maxHeartbeats 40000000 in
theorem rmLi (l : Launch) (Z : State) (a0 : Array Value) (hw : ∀ d ∈ tables_1, d.before a0 Z = true) (ws : List Jvm.Cond) (a1 : Addr) (lq : Int64) (h0 : Heap) (n0 : Nat) (Z0 : n0 ≤ h0.size) (E1 : Exa Z h0 a1 "java/lang/Long") (F0 : Fld Z h0 a1 "java/lang/Long" "value" "J" (.long (0 : Int64))) (g1 : n0 ≤ a1) :
    MetFree l (⟨"java/lang/Long", "<init>", "(J)V"⟩ : MethodName) (head1 (Jvm.Cond.code (⟨"java/lang/Long", "<init>", "(J)V"⟩ : MethodName) jdk_35_method_26_code 3 none :: ws) ({ frames := 2, cells := 0, slots := 0, locals := 24 } : Room)) (fun a U => a = #[(.ref a1), (.long lq)] ∧ Z.Warmed39 U.vm ∧ U.heap = h0) (fun _ _ _ _ _ => True) (fun _ U o U' => ∃ v L, o = .returned v ∧ Q_rmLi Z a1 lq h0 n0 v U'.heap L ∧ FrameEnd U o U' L ({ frames := 2, cells := 0, slots := 0, locals := 24 } : Room).cells ({ frames := 2, cells := 0, slots := 0, locals := 24 } : Room).slots) := by
  refine MetFree.of_bodySF (plainFor_of_name pn3) hisR ?_
  intro p e s m args below meth c s₁ Bd hml0 hP hK
  obtain ⟨rfl, hZ, hh⟩ := hP
  have hx := Bd.exec
  have hby := Bd.bytes
  have hlk : meth.locks = false := Bd.notSynchronized
  have hml : c.maxLocals = 3 := hml0
  have hown : s.vm.findClass "java/lang/Long" = some m.cls := findClass_of_methodNamed Bd.named
  have hnm := (name_of_methodNamed Bd.named Bd.method).1
  have X0 : Stand p l e ({ frames := 2, cells := 0, slots := 0, locals := 24 } : Room) s m #[(.ref a1), (.long lq)] below meth c s₁ [] 0 0 := Stand.of_body Bd
  have e0 : s₁.heap = h0 := by rw [← hh, Bd.state]; rfl
  have N0 := Fr.nil n0
  suffices hgo : OD p e s below (Q_rmLi Z a1 lq h0 n0) ({ frames := 2, cells := 0, slots := 0, locals := 24 } : Room).cells ({ frames := 2, cells := 0, slots := 0, locals := 24 } : Room).slots (s₁.setTop (mkF m 0 #[.val (.ref a1), .val (.long lq), .second] [])) by
    obtain ⟨s₂, o, hgo1, hgo2⟩ := hgo
    exact ⟨s₂, o, castTop (ef2 m a1 lq) hgo1, hgo2⟩
  refine OD.go (B := (s₁.setTop (mkF m 1 #[.val (.ref a1), .val (.long lq), .second] [(.ref a1)]))) (fun t k => XS.aloadN X0.here hx rfl (hb hby d25_0) rfl rfl k) ?_
  obtain ⟨_, _, ⟨T1, L1, k1, n1⟩, -, X1, ⟨Lc1, hQ1, l1, y1, z1⟩, st1⟩ := X0.specialBack hx (y := (⟨"java/lang/Number", "<init>", "()V"⟩ : MethodName)) rfl hown (mvT hZ (Wd165 hw)) (mvT hZ (Wd143 hw)) (mvT hZ (Wd147 hw)) (by decide) (backOf (W := 0) (rmNu l Z a0 hw [] a1 h0) hZ (Wd147 hw) (Wd146 hw) (by decide) (by decide)) (g := (mkF m 1 #[.val (.ref a1), .val (.long lq), .second] [(.ref a1)])) rfl (by rw [hml]; rfl) (Steps.refl _) (a := a1) (argsL := []) (rest := []) (lenOf pd0 rfl) rfl (by show 2 * 0 + _ ≤ _; exact Nat.le_of_eq rfl) (hb hby d25_1) (fun _ _ => ⟨rfl, e0, (Nat.le_of_ble_eq_true rfl), (Nat.le_of_ble_eq_true rfl)⟩)
  dsimp only [Pt.U, Pt.locs, Pt.cells, Pt.slots] at X1 l1 y1 z1 st1 hQ1
  subst l1 y1 z1
  obtain ⟨rfl, rfl, e1⟩ := hQ1
  have N1 := Fr.app N0 (Fr.nil _)
  refine OD.via (B := (T1.setTop (mkF m 4 #[.val (.ref a1), .val (.long lq), .second] []))) st1 ?_
  refine OD.go (B := (T1.setTop (mkF m 5 #[.val (.ref a1), .val (.long lq), .second] [(.ref a1)]))) (fun t k => XS.aloadN X1.here hx rfl (hb hby d25_4) rfl rfl k) ?_
  refine OD.go (B := (T1.setTop (mkF m 6 #[.val (.ref a1), .val (.long lq), .second] [(.long lq), (.ref a1)]))) (fun t k => XS.lloadN X1.here hx rfl (hb hby d25_5) rfl k) ?_
  obtain ⟨T2, h2, X2, e2, W2, st2⟩ := putF X1 hx hZ hown (host := "") (Or.inl (Wd167 hw)) Via.refl e1 F0 E1 (Or.inr ⟨(Wd168 hw), rfl, hnm⟩) (Wd160 hw) (ty := .long) (by decide) rfl rfl (g := (mkF m 6 #[.val (.ref a1), .val (.long lq), .second] [(.long lq), (.ref a1)])) rfl rfl (hb hby d25_6)
  have Fx2 := F0.same W2
  have N2 := Fr.snoc X2 N1 g1
  refine OD.go (B := (T2.setTop (mkF m 9 #[.val (.ref a1), .val (.long lq), .second] []))) st2 ?_
  exact OD.retV X2 hx hlk Bd.returns (hb hby d25_9) (Nat.le_of_ble_eq_true rfl) (Nat.le_of_ble_eq_true rfl) ⟨rfl, N2, by rw [e2]; exact ((Keep.refl h0 [a1]).wr W2 (Or.inl (List.mem_of_getElem? (i := 0) rfl))), by rw [e2]; exact Fx2⟩
def Q_rmIV (Z : State) (x0 : Int32) (h0 : Heap) (n0 : Nat) (v : Option Value) (h : Heap) (L : List Loc) : Prop := ∃ w, v = some w ∧ w.isRef = true ∧ Fr n0 L ∧ Keep h0 h []
set_option maxRecDepth 65536 in
set_option maxHeartbeats 40000000 in
theorem rmIV (l : Launch) (Z : State) (a0 : Array Value) (hw : ∀ d ∈ tables_1, d.before a0 Z = true) (ws : List Jvm.Cond) (x0 : Int32) (h0 : Heap) (n0 : Nat) (Z0 : n0 ≤ h0.size) (X00 : Old Z n0 h0) (ca : Addr) (Sh : Sta Z Z.heap "java/lang/Integer$IntegerCache" "high" "I" (.int (127 : Int32))) (Sc : Sta Z Z.heap "java/lang/Integer$IntegerCache" "cache" "[Ljava/lang/Integer;" (.ref ca)) (Cc : OCach Z ca "java/lang/Integer") :
    MetFree l (⟨"java/lang/Integer", "valueOf", "(I)Ljava/lang/Integer;"⟩ : MethodName) (head1 (Jvm.Cond.code (⟨"java/lang/Integer", "valueOf", "(I)Ljava/lang/Integer;"⟩ : MethodName) jdk_33_method_22_code 1 (some (.object "java/lang/Integer")) :: ws) ({ frames := 3, cells := 1, slots := 1, locals := 38 } : Room)) (fun a U => a = #[(.int x0)] ∧ Z.Warmed39 U.vm ∧ U.heap = h0) (fun _ _ _ _ _ => True) (fun _ U o U' => ∃ v L, o = .returned v ∧ Q_rmIV Z x0 h0 n0 v U'.heap L ∧ FrameEnd U o U' L ({ frames := 3, cells := 1, slots := 1, locals := 38 } : Room).cells ({ frames := 3, cells := 1, slots := 1, locals := 38 } : Room).slots) := by
  refine MetFree.of_bodySF (plainFor_of_name pn2) hisR ?_
  intro p e s m args below meth c s₁ Bd hml0 hP hK
  obtain ⟨rfl, hZ, hh⟩ := hP
  have hx := Bd.exec
  have hby := Bd.bytes
  have hlk : meth.locks = false := Bd.notSynchronized
  have hml : c.maxLocals = 1 := hml0
  have hown : s.vm.findClass "java/lang/Integer" = some m.cls := findClass_of_methodNamed Bd.named
  have hnm := (name_of_methodNamed Bd.named Bd.method).1
  have X0 : Stand p l e ({ frames := 3, cells := 1, slots := 1, locals := 38 } : Room) s m #[(.int x0)] below meth c s₁ [] 0 0 := Stand.of_body Bd
  have e0 : s₁.heap = h0 := by rw [← hh, Bd.state]; rfl
  have N0 := Fr.nil n0
  suffices hgo : OD p e s below (Q_rmIV Z x0 h0 n0) ({ frames := 3, cells := 1, slots := 1, locals := 38 } : Room).cells ({ frames := 3, cells := 1, slots := 1, locals := 38 } : Room).slots (s₁.setTop (mkF m 0 #[.val (.int x0)] [])) by
    obtain ⟨s₂, o, hgo1, hgo2⟩ := hgo
    exact ⟨s₂, o, castTop (ef3 m x0) hgo1, hgo2⟩
  refine OD.go (B := (s₁.setTop (mkF m 1 #[.val (.int x0)] [(.int x0)]))) (fun t k => XS.iloadN X0.here hx rfl (hb hby d16_0) rfl k) ?_
  refine OD.go (B := (s₁.setTop (mkF m 3 #[.val (.int x0)] [(.int (-128 : Int32)), (.int x0)]))) (fun t k => XS.bipush X0.here hx rfl (hb hby d16_1) k) ?_
  by_cases c3_1 : x0 < (-128 : Int32)
  · refine OD.go (B := (s₁.setTop (mkF m 23 #[.val (.int x0)] []))) (fun t k => XS.icmpYes X0.here hx rfl (pc0 := 3) (pc' := 23) rfl (hb hby d16_3) rfl (tlt c3_1).1 (by decide) (by decide) k) ?_
    obtain ⟨T2, h2, X2, e2, E2, A2, D2, -, st2⟩ := newO X0 hx hZ hown (Wd136 hw) (Wd137 hw) (Wd104 hw) e0 (g := (mkF m 23 #[.val (.int x0)] [])) rfl (hb hby d16_23) (Nat.le_of_ble_eq_true rfl) (Nat.le_of_ble_eq_true rfl)
    obtain ⟨b2, g2⟩ : ∃ z, z = h0.size := ⟨_, rfl⟩
    rw [← g2] at A2 D2 st2
    have Fn3 : Fld Z h2 b2 "java/lang/Integer" "value" "I" (.int (0 : Int32)) := D2 (Or.inr (Wd150 hw)) (ty := .int) (by decide)
    refine OD.go (B := (T2.setTop (mkF m 26 #[.val (.int x0)] [(.ref b2)]))) st2 ?_
    refine OD.go (B := (T2.setTop (mkF m 27 #[.val (.int x0)] [(.ref b2), (.ref b2)]))) (fun t k => XS.dup X2.here hx rfl (hb hby d16_26) rfl rfl k) ?_
    refine OD.go (B := (T2.setTop (mkF m 28 #[.val (.int x0)] [(.int x0), (.ref b2), (.ref b2)]))) (fun t k => XS.iloadN X2.here hx rfl (hb hby d16_27) rfl k) ?_
    obtain ⟨_, _, ⟨T4, L4, k4, n4⟩, -, X4, ⟨Lc4, hQ4, l4, y4, z4⟩, st4⟩ := X2.specialBack hx (y := (⟨"java/lang/Integer", "<init>", "(I)V"⟩ : MethodName)) rfl hown (mvT hZ (Wd138 hw)) (mvT hZ (Wd139 hw)) (mvT hZ (Wd141 hw)) (by decide) (backOf (W := 1) (rmIi l Z a0 hw [] b2 x0 h2 n0 (Nat.le_trans Z0 E2.1) A2 Fn3 (Nat.le_trans Z0 (Nat.le_of_eq g2.symm))) hZ (Wd141 hw) (Wd104 hw) (by decide) (by decide)) (g := (mkF m 28 #[.val (.int x0)] [(.int x0), (.ref b2), (.ref b2)])) rfl (by rw [hml]; rfl) (Steps.refl _) (a := b2) (argsL := [(.int x0)]) (rest := [(.ref b2)]) (lenOf pd1 rfl) rfl (by show 2 * 0 + _ ≤ _; exact Nat.le_of_eq rfl) (hb hby d16_28) (fun _ _ => ⟨rfl, e2, (Nat.le_of_ble_eq_true rfl), (Nat.le_of_ble_eq_true rfl)⟩)
    dsimp only [Pt.U, Pt.locs, Pt.cells, Pt.slots] at X4 l4 y4 z4 st4 hQ4
    subst l4 y4 z4
    obtain ⟨rfl, Nq4, K4, G0_4⟩ := hQ4
    have N4 := Fr.app N0 Nq4
    refine OD.via (B := (T4.setTop (mkF m 31 #[.val (.int x0)] [(.ref b2)]))) st4 ?_
    exact OD.ret X4 hx hlk (t := (.object "java/lang/Integer")) Bd.returns rfl (Or.inr (Or.inr (Or.inr (Or.inr ⟨rfl, rfl, rfl⟩)))) (hb hby d16_31) (Nat.le_of_ble_eq_true rfl) (Nat.le_of_ble_eq_true rfl) ⟨_, rfl, rfl, N4, by exact (((Keep.refl h0 []).ext E2).trans K4 (allS (Or.inr (Nat.le_trans (Nat.le_refl _) (Nat.le_of_eq g2.symm))) all0))⟩
  · refine OD.go (B := (s₁.setTop (mkF m 6 #[.val (.int x0)] []))) (fun t k => XS.icmpNo X0.here hx rfl (hb hby d16_3) rfl (flt c3_1).1 k) ?_
    refine OD.go (B := (s₁.setTop (mkF m 7 #[.val (.int x0)] [(.int x0)]))) (fun t k => XS.iloadN X0.here hx rfl (hb hby d16_6) rfl k) ?_
    have f5 := (Sh.ext X00.2)
    obtain ⟨T6, X6, e6, st6⟩ := getS2 X0 hx hZ hown (host := "") (Or.inl (Wd106 hw)) Via.refl e0 f5 (g := (mkF m 7 #[.val (.int x0)] [(.int x0)])) rfl (hb hby d16_7)
    refine OD.go (B := (T6.setTop (mkF m 10 #[.val (.int x0)] [(.int (127 : Int32)), (.int x0)]))) st6 ?_
    by_cases c10_7 : (127 : Int32) < x0
    · refine OD.go (B := (T6.setTop (mkF m 23 #[.val (.int x0)] []))) (fun t k => XS.icmpYes X6.here hx rfl (pc0 := 10) (pc' := 23) rfl (hb hby d16_10) rfl (tlt c10_7).2.2.1 (by decide) (by decide) k) ?_
      obtain ⟨T8, h8, X8, e8, E8, A8, D8, -, st8⟩ := newO X6 hx hZ hown (Wd136 hw) (Wd137 hw) (Wd104 hw) e6 (g := (mkF m 23 #[.val (.int x0)] [])) rfl (hb hby d16_23) (Nat.le_of_ble_eq_true rfl) (Nat.le_of_ble_eq_true rfl)
      obtain ⟨b8, g8⟩ : ∃ z, z = h0.size := ⟨_, rfl⟩
      rw [← g8] at A8 D8 st8
      have Fn9 : Fld Z h8 b8 "java/lang/Integer" "value" "I" (.int (0 : Int32)) := D8 (Or.inr (Wd150 hw)) (ty := .int) (by decide)
      refine OD.go (B := (T8.setTop (mkF m 26 #[.val (.int x0)] [(.ref b8)]))) st8 ?_
      refine OD.go (B := (T8.setTop (mkF m 27 #[.val (.int x0)] [(.ref b8), (.ref b8)]))) (fun t k => XS.dup X8.here hx rfl (hb hby d16_26) rfl rfl k) ?_
      refine OD.go (B := (T8.setTop (mkF m 28 #[.val (.int x0)] [(.int x0), (.ref b8), (.ref b8)]))) (fun t k => XS.iloadN X8.here hx rfl (hb hby d16_27) rfl k) ?_
      obtain ⟨_, _, ⟨T10, L10, k10, n10⟩, -, X10, ⟨Lc10, hQ10, l10, y10, z10⟩, st10⟩ := X8.specialBack hx (y := (⟨"java/lang/Integer", "<init>", "(I)V"⟩ : MethodName)) rfl hown (mvT hZ (Wd138 hw)) (mvT hZ (Wd139 hw)) (mvT hZ (Wd141 hw)) (by decide) (backOf (W := 1) (rmIi l Z a0 hw [] b8 x0 h8 n0 (Nat.le_trans Z0 E8.1) A8 Fn9 (Nat.le_trans Z0 (Nat.le_of_eq g8.symm))) hZ (Wd141 hw) (Wd104 hw) (by decide) (by decide)) (g := (mkF m 28 #[.val (.int x0)] [(.int x0), (.ref b8), (.ref b8)])) rfl (by rw [hml]; rfl) (Steps.refl _) (a := b8) (argsL := [(.int x0)]) (rest := [(.ref b8)]) (lenOf pd1 rfl) rfl (by show 2 * 0 + _ ≤ _; exact Nat.le_of_eq rfl) (hb hby d16_28) (fun _ _ => ⟨rfl, e8, (Nat.le_of_ble_eq_true rfl), (Nat.le_of_ble_eq_true rfl)⟩)
      dsimp only [Pt.U, Pt.locs, Pt.cells, Pt.slots] at X10 l10 y10 z10 st10 hQ10
      subst l10 y10 z10
      obtain ⟨rfl, Nq10, K10, G0_10⟩ := hQ10
      have N10 := Fr.app N0 Nq10
      refine OD.via (B := (T10.setTop (mkF m 31 #[.val (.int x0)] [(.ref b8)]))) st10 ?_
      exact OD.ret X10 hx hlk (t := (.object "java/lang/Integer")) Bd.returns rfl (Or.inr (Or.inr (Or.inr (Or.inr ⟨rfl, rfl, rfl⟩)))) (hb hby d16_31) (Nat.le_of_ble_eq_true rfl) (Nat.le_of_ble_eq_true rfl) ⟨_, rfl, rfl, N10, by exact (((Keep.refl h0 []).ext E8).trans K10 (allS (Or.inr (Nat.le_trans (Nat.le_refl _) (Nat.le_of_eq g8.symm))) all0))⟩
    · refine OD.go (B := (T6.setTop (mkF m 13 #[.val (.int x0)] []))) (fun t k => XS.icmpNo X6.here hx rfl (hb hby d16_10) rfl (flt c10_7).2.2.1 k) ?_
      have f11 := (Sc.ext X00.2)
      obtain ⟨T12, X12, e12, st12⟩ := getS2 X6 hx hZ hown (host := "") (Or.inl (Wd108 hw)) Via.refl e6 f11 (g := (mkF m 13 #[.val (.int x0)] [])) rfl (hb hby d16_13)
      refine OD.go (B := (T12.setTop (mkF m 16 #[.val (.int x0)] [(.ref ca)]))) st12 ?_
      refine OD.go (B := (T12.setTop (mkF m 17 #[.val (.int x0)] [(.int x0), (.ref ca)]))) (fun t k => XS.iloadN X12.here hx rfl (hb hby d16_16) rfl k) ?_
      refine OD.go (B := (T12.setTop (mkF m 20 #[.val (.int x0)] [(.int (128 : Int32)), (.int x0), (.ref ca)]))) (fun t k => XS.sipush X12.here hx rfl (hb hby d16_17) k) ?_
      refine OD.go (B := (T12.setTop (mkF m 21 #[.val (.int x0)] [(.int (x0 + (128 : Int32))), (.ref ca)]))) (fun t k => XS.iadd X12.here hx rfl (hb hby d16_20) rfl k) ?_
      obtain ⟨cl13, Ar13, hj13⟩ := Cc
      obtain ⟨hi13, w13, ha13, rw13⟩ := hj13 (x0 + (128 : Int32)) (own_ci c3_1 c10_7)
      refine OD.go (B := (T12.setTop (mkF m 22 #[.val (.int x0)] [w13]))) (fun t k => X12.aaload hx (j := (x0 + (128 : Int32))) (v := w13) (by rw [e12]; exact (Ar13.ext X00.2).1) (State.isArrayOf_alike hZ.alike Ar13.2.1) rfl Ar13.2.2 hi13 ha13 (g := (mkF m 21 #[.val (.int x0)] [(.int (x0 + (128 : Int32))), (.ref ca)])) rfl rfl (hb hby d16_21) _ k) ?_
      exact OD.ret X12 hx hlk (t := (.object "java/lang/Integer")) Bd.returns (own_narR rw13) (Or.inr (Or.inr (Or.inr (Or.inr ⟨rfl, rfl, rw13⟩)))) (hb hby d16_22) (Nat.zero_le _) (Nat.zero_le _) ⟨_, rfl, rw13, N0, by rw [e12]; exact (Keep.refl h0 [])⟩
def Q_rmLV (Z : State) (x0 : Int64) (h0 : Heap) (n0 : Nat) (v : Option Value) (h : Heap) (L : List Loc) : Prop := ∃ w, v = some w ∧ w.isRef = true ∧ Fr n0 L ∧ Keep h0 h []
set_option maxRecDepth 65536 in
set_option maxHeartbeats 40000000 in
theorem rmLV (l : Launch) (Z : State) (a0 : Array Value) (hw : ∀ d ∈ tables_1, d.before a0 Z = true) (ws : List Jvm.Cond) (x0 : Int64) (h0 : Heap) (n0 : Nat) (Z0 : n0 ≤ h0.size) (X00 : Old Z n0 h0) (cb : Addr) (Sl : Sta Z Z.heap "java/lang/Long$LongCache" "cache" "[Ljava/lang/Long;" (.ref cb)) (Cl : OCach Z cb "java/lang/Long") :
    MetFree l (⟨"java/lang/Long", "valueOf", "(J)Ljava/lang/Long;"⟩ : MethodName) (head1 (Jvm.Cond.code (⟨"java/lang/Long", "valueOf", "(J)Ljava/lang/Long;"⟩ : MethodName) jdk_35_method_24_code 3 (some (.object "java/lang/Long")) :: ws) ({ frames := 3, cells := 1, slots := 1, locals := 39 } : Room)) (fun a U => a = #[(.long x0)] ∧ Z.Warmed39 U.vm ∧ U.heap = h0) (fun _ _ _ _ _ => True) (fun _ U o U' => ∃ v L, o = .returned v ∧ Q_rmLV Z x0 h0 n0 v U'.heap L ∧ FrameEnd U o U' L ({ frames := 3, cells := 1, slots := 1, locals := 39 } : Room).cells ({ frames := 3, cells := 1, slots := 1, locals := 39 } : Room).slots) := by
  refine MetFree.of_bodySF (plainFor_of_name pn3) hisR ?_
  intro p e s m args below meth c s₁ Bd hml0 hP hK
  obtain ⟨rfl, hZ, hh⟩ := hP
  have hx := Bd.exec
  have hby := Bd.bytes
  have hlk : meth.locks = false := Bd.notSynchronized
  have hml : c.maxLocals = 3 := hml0
  have hown : s.vm.findClass "java/lang/Long" = some m.cls := findClass_of_methodNamed Bd.named
  have hnm := (name_of_methodNamed Bd.named Bd.method).1
  have X0 : Stand p l e ({ frames := 3, cells := 1, slots := 1, locals := 39 } : Room) s m #[(.long x0)] below meth c s₁ [] 0 0 := Stand.of_body Bd
  have e0 : s₁.heap = h0 := by rw [← hh, Bd.state]; rfl
  have N0 := Fr.nil n0
  suffices hgo : OD p e s below (Q_rmLV Z x0 h0 n0) ({ frames := 3, cells := 1, slots := 1, locals := 39 } : Room).cells ({ frames := 3, cells := 1, slots := 1, locals := 39 } : Room).slots (s₁.setTop (mkF m 0 #[.val (.long x0), .second, .unset] [])) by
    obtain ⟨s₂, o, hgo1, hgo2⟩ := hgo
    exact ⟨s₂, o, castTop (ef4 m x0) hgo1, hgo2⟩
  refine OD.go (B := (s₁.setTop (mkF m 3 #[.val (.long x0), .second, .unset] [(.int (128 : Int32))]))) (fun t k => XS.sipush X0.here hx rfl (hb hby d24_0) k) ?_
  refine OD.go (B := (s₁.setTop (mkF m 4 #[.val (.long x0), .second, .val (.int (128 : Int32))] []))) (fun t k => XS.istoreN X0.here hx rfl (hb hby d24_3) rfl (l' := #[.val (.long x0), .second, .val (.int (128 : Int32))]) rfl k) ?_
  refine OD.go (B := (s₁.setTop (mkF m 5 #[.val (.long x0), .second, .val (.int (128 : Int32))] [(.long x0)]))) (fun t k => XS.lloadN X0.here hx rfl (hb hby d24_4) rfl k) ?_
  refine OD.go (B := (s₁.setTop (mkF m 8 #[.val (.long x0), .second, .val (.int (128 : Int32))] [(.long (-128 : Int64)), (.long x0)]))) (fun t k => X0.ldc2Long hx hown (mv hZ (Wd155 hw)) (g := (mkF m 5 #[.val (.long x0), .second, .val (.int (128 : Int32))] [(.long x0)])) rfl (hb hby d24_5) _ k) ?_
  refine OD.go (B := (s₁.setTop (mkF m 9 #[.val (.long x0), .second, .val (.int (128 : Int32))] [(.int (lcmpW x0 (-128 : Int64)))]))) (fun t k => XS.lcmp X0.here hx rfl (hb hby d24_8) rfl k) ?_
  by_cases c9_1 : (lcmpW x0 (-128 : Int64)) < (0 : Int32)
  · refine OD.go (B := (s₁.setTop (mkF m 31 #[.val (.long x0), .second, .val (.int (128 : Int32))] []))) (fun t k => XS.ifYes X0.here hx rfl (pc0 := 9) (pc' := 31) rfl (hb hby d24_9) rfl (by rw [if0]; exact (tlt c9_1).1) (by decide) (by decide) k) ?_
    obtain ⟨T2, h2, X2, e2, E2, A2, D2, -, st2⟩ := newO X0 hx hZ hown (Wd159 hw) (Wd160 hw) (Wd153 hw) e0 (g := (mkF m 31 #[.val (.long x0), .second, .val (.int (128 : Int32))] [])) rfl (hb hby d24_31) (Nat.le_of_ble_eq_true rfl) (Nat.le_of_ble_eq_true rfl)
    obtain ⟨b2, g2⟩ : ∃ z, z = h0.size := ⟨_, rfl⟩
    rw [← g2] at A2 D2 st2
    have Fn3 : Fld Z h2 b2 "java/lang/Long" "value" "J" (.long (0 : Int64)) := D2 (Or.inr (Wd168 hw)) (ty := .long) (by decide)
    refine OD.go (B := (T2.setTop (mkF m 34 #[.val (.long x0), .second, .val (.int (128 : Int32))] [(.ref b2)]))) st2 ?_
    refine OD.go (B := (T2.setTop (mkF m 35 #[.val (.long x0), .second, .val (.int (128 : Int32))] [(.ref b2), (.ref b2)]))) (fun t k => XS.dup X2.here hx rfl (hb hby d24_34) rfl rfl k) ?_
    refine OD.go (B := (T2.setTop (mkF m 36 #[.val (.long x0), .second, .val (.int (128 : Int32))] [(.long x0), (.ref b2), (.ref b2)]))) (fun t k => XS.lloadN X2.here hx rfl (hb hby d24_35) rfl k) ?_
    obtain ⟨_, _, ⟨T4, L4, k4, n4⟩, -, X4, ⟨Lc4, hQ4, l4, y4, z4⟩, st4⟩ := X2.specialBack hx (y := (⟨"java/lang/Long", "<init>", "(J)V"⟩ : MethodName)) rfl hown (mvT hZ (Wd161 hw)) (mvT hZ (Wd162 hw)) (mvT hZ (Wd164 hw)) (by decide) (backOf (W := 1) (rmLi l Z a0 hw [] b2 x0 h2 n0 (Nat.le_trans Z0 E2.1) A2 Fn3 (Nat.le_trans Z0 (Nat.le_of_eq g2.symm))) hZ (Wd164 hw) (Wd153 hw) (by decide) (by decide)) (g := (mkF m 36 #[.val (.long x0), .second, .val (.int (128 : Int32))] [(.long x0), (.ref b2), (.ref b2)])) rfl (by rw [hml]; rfl) (Steps.refl _) (a := b2) (argsL := [(.long x0)]) (rest := [(.ref b2)]) (lenOf pd2 rfl) rfl (by show 2 * 0 + _ ≤ _; exact Nat.le_of_eq rfl) (hb hby d24_36) (fun _ _ => ⟨rfl, e2, (Nat.le_of_ble_eq_true rfl), (Nat.le_of_ble_eq_true rfl)⟩)
    dsimp only [Pt.U, Pt.locs, Pt.cells, Pt.slots] at X4 l4 y4 z4 st4 hQ4
    subst l4 y4 z4
    obtain ⟨rfl, Nq4, K4, G0_4⟩ := hQ4
    have N4 := Fr.app N0 Nq4
    refine OD.via (B := (T4.setTop (mkF m 39 #[.val (.long x0), .second, .val (.int (128 : Int32))] [(.ref b2)]))) st4 ?_
    exact OD.ret X4 hx hlk (t := (.object "java/lang/Long")) Bd.returns rfl (Or.inr (Or.inr (Or.inr (Or.inr ⟨rfl, rfl, rfl⟩)))) (hb hby d24_39) (Nat.le_of_ble_eq_true rfl) (Nat.le_of_ble_eq_true rfl) ⟨_, rfl, rfl, N4, by exact (((Keep.refl h0 []).ext E2).trans K4 (allS (Or.inr (Nat.le_trans (Nat.le_refl _) (Nat.le_of_eq g2.symm))) all0))⟩
  · refine OD.go (B := (s₁.setTop (mkF m 12 #[.val (.long x0), .second, .val (.int (128 : Int32))] []))) (fun t k => XS.ifNo X0.here hx rfl (hb hby d24_9) rfl (by rw [if0]; exact (flt c9_1).1) k) ?_
    refine OD.go (B := (s₁.setTop (mkF m 13 #[.val (.long x0), .second, .val (.int (128 : Int32))] [(.long x0)]))) (fun t k => XS.lloadN X0.here hx rfl (hb hby d24_12) rfl k) ?_
    refine OD.go (B := (s₁.setTop (mkF m 16 #[.val (.long x0), .second, .val (.int (128 : Int32))] [(.long (127 : Int64)), (.long x0)]))) (fun t k => X0.ldc2Long hx hown (mv hZ (Wd156 hw)) (g := (mkF m 13 #[.val (.long x0), .second, .val (.int (128 : Int32))] [(.long x0)])) rfl (hb hby d24_13) _ k) ?_
    refine OD.go (B := (s₁.setTop (mkF m 17 #[.val (.long x0), .second, .val (.int (128 : Int32))] [(.int (lcmpW x0 (127 : Int64)))]))) (fun t k => XS.lcmp X0.here hx rfl (hb hby d24_16) rfl k) ?_
    by_cases c17_5 : (0 : Int32) < (lcmpW x0 (127 : Int64))
    · refine OD.go (B := (s₁.setTop (mkF m 31 #[.val (.long x0), .second, .val (.int (128 : Int32))] []))) (fun t k => XS.ifYes X0.here hx rfl (pc0 := 17) (pc' := 31) rfl (hb hby d24_17) rfl (by rw [if0]; exact (tlt c17_5).2.2.1) (by decide) (by decide) k) ?_
      obtain ⟨T6, h6, X6, e6, E6, A6, D6, -, st6⟩ := newO X0 hx hZ hown (Wd159 hw) (Wd160 hw) (Wd153 hw) e0 (g := (mkF m 31 #[.val (.long x0), .second, .val (.int (128 : Int32))] [])) rfl (hb hby d24_31) (Nat.le_of_ble_eq_true rfl) (Nat.le_of_ble_eq_true rfl)
      obtain ⟨b6, g6⟩ : ∃ z, z = h0.size := ⟨_, rfl⟩
      rw [← g6] at A6 D6 st6
      have Fn7 : Fld Z h6 b6 "java/lang/Long" "value" "J" (.long (0 : Int64)) := D6 (Or.inr (Wd168 hw)) (ty := .long) (by decide)
      refine OD.go (B := (T6.setTop (mkF m 34 #[.val (.long x0), .second, .val (.int (128 : Int32))] [(.ref b6)]))) st6 ?_
      refine OD.go (B := (T6.setTop (mkF m 35 #[.val (.long x0), .second, .val (.int (128 : Int32))] [(.ref b6), (.ref b6)]))) (fun t k => XS.dup X6.here hx rfl (hb hby d24_34) rfl rfl k) ?_
      refine OD.go (B := (T6.setTop (mkF m 36 #[.val (.long x0), .second, .val (.int (128 : Int32))] [(.long x0), (.ref b6), (.ref b6)]))) (fun t k => XS.lloadN X6.here hx rfl (hb hby d24_35) rfl k) ?_
      obtain ⟨_, _, ⟨T8, L8, k8, n8⟩, -, X8, ⟨Lc8, hQ8, l8, y8, z8⟩, st8⟩ := X6.specialBack hx (y := (⟨"java/lang/Long", "<init>", "(J)V"⟩ : MethodName)) rfl hown (mvT hZ (Wd161 hw)) (mvT hZ (Wd162 hw)) (mvT hZ (Wd164 hw)) (by decide) (backOf (W := 1) (rmLi l Z a0 hw [] b6 x0 h6 n0 (Nat.le_trans Z0 E6.1) A6 Fn7 (Nat.le_trans Z0 (Nat.le_of_eq g6.symm))) hZ (Wd164 hw) (Wd153 hw) (by decide) (by decide)) (g := (mkF m 36 #[.val (.long x0), .second, .val (.int (128 : Int32))] [(.long x0), (.ref b6), (.ref b6)])) rfl (by rw [hml]; rfl) (Steps.refl _) (a := b6) (argsL := [(.long x0)]) (rest := [(.ref b6)]) (lenOf pd2 rfl) rfl (by show 2 * 0 + _ ≤ _; exact Nat.le_of_eq rfl) (hb hby d24_36) (fun _ _ => ⟨rfl, e6, (Nat.le_of_ble_eq_true rfl), (Nat.le_of_ble_eq_true rfl)⟩)
      dsimp only [Pt.U, Pt.locs, Pt.cells, Pt.slots] at X8 l8 y8 z8 st8 hQ8
      subst l8 y8 z8
      obtain ⟨rfl, Nq8, K8, G0_8⟩ := hQ8
      have N8 := Fr.app N0 Nq8
      refine OD.via (B := (T8.setTop (mkF m 39 #[.val (.long x0), .second, .val (.int (128 : Int32))] [(.ref b6)]))) st8 ?_
      exact OD.ret X8 hx hlk (t := (.object "java/lang/Long")) Bd.returns rfl (Or.inr (Or.inr (Or.inr (Or.inr ⟨rfl, rfl, rfl⟩)))) (hb hby d24_39) (Nat.le_of_ble_eq_true rfl) (Nat.le_of_ble_eq_true rfl) ⟨_, rfl, rfl, N8, by exact (((Keep.refl h0 []).ext E6).trans K8 (allS (Or.inr (Nat.le_trans (Nat.le_refl _) (Nat.le_of_eq g6.symm))) all0))⟩
    · refine OD.go (B := (s₁.setTop (mkF m 20 #[.val (.long x0), .second, .val (.int (128 : Int32))] []))) (fun t k => XS.ifNo X0.here hx rfl (hb hby d24_17) rfl (by rw [if0]; exact (flt c17_5).2.2.1) k) ?_
      have f9 := (Sl.ext X00.2)
      obtain ⟨T10, X10, e10, st10⟩ := getS2 X0 hx hZ hown (host := "") (Or.inl (Wd157 hw)) Via.refl e0 f9 (g := (mkF m 20 #[.val (.long x0), .second, .val (.int (128 : Int32))] [])) rfl (hb hby d24_20)
      refine OD.go (B := (T10.setTop (mkF m 23 #[.val (.long x0), .second, .val (.int (128 : Int32))] [(.ref cb)]))) st10 ?_
      refine OD.go (B := (T10.setTop (mkF m 24 #[.val (.long x0), .second, .val (.int (128 : Int32))] [(.long x0), (.ref cb)]))) (fun t k => XS.lloadN X10.here hx rfl (hb hby d24_23) rfl k) ?_
      refine OD.go (B := (T10.setTop (mkF m 25 #[.val (.long x0), .second, .val (.int (128 : Int32))] [(.int x0.toInt32), (.ref cb)]))) (fun t k => XS.l2i X10.here hx rfl (hb hby d24_24) rfl k) ?_
      refine OD.go (B := (T10.setTop (mkF m 28 #[.val (.long x0), .second, .val (.int (128 : Int32))] [(.int (128 : Int32)), (.int x0.toInt32), (.ref cb)]))) (fun t k => XS.sipush X10.here hx rfl (hb hby d24_25) k) ?_
      refine OD.go (B := (T10.setTop (mkF m 29 #[.val (.long x0), .second, .val (.int (128 : Int32))] [(.int (x0.toInt32 + (128 : Int32))), (.ref cb)]))) (fun t k => XS.iadd X10.here hx rfl (hb hby d24_28) rfl k) ?_
      obtain ⟨cl11, Ar11, hj11⟩ := Cl
      obtain ⟨hi11, w11, ha11, rw11⟩ := hj11 (x0.toInt32 + (128 : Int32)) (own_cl c9_1 c17_5)
      refine OD.go (B := (T10.setTop (mkF m 30 #[.val (.long x0), .second, .val (.int (128 : Int32))] [w11]))) (fun t k => X10.aaload hx (j := (x0.toInt32 + (128 : Int32))) (v := w11) (by rw [e10]; exact (Ar11.ext X00.2).1) (State.isArrayOf_alike hZ.alike Ar11.2.1) rfl Ar11.2.2 hi11 ha11 (g := (mkF m 29 #[.val (.long x0), .second, .val (.int (128 : Int32))] [(.int (x0.toInt32 + (128 : Int32))), (.ref cb)])) rfl rfl (hb hby d24_29) _ k) ?_
      exact OD.ret X10 hx hlk (t := (.object "java/lang/Long")) Bd.returns (own_narR rw11) (Or.inr (Or.inr (Or.inr (Or.inr ⟨rfl, rfl, rw11⟩)))) (hb hby d24_30) (Nat.zero_le _) (Nat.zero_le _) ⟨_, rfl, rw11, N0, by rw [e10]; exact (Keep.refl h0 [])⟩
def Q_rmLO (Z : State) (h0 : Heap) (el : Addr) (v : Option Value) (h : Heap) (L : List Loc) : Prop := v = some (.ref el) ∧ L = [] ∧ h = h0
set_option maxRecDepth 65536 in
set_option maxHeartbeats 40000000 in
theorem rmLO (l : Launch) (Z : State) (a0 : Array Value) (hw : ∀ d ∈ tables_1, d.before a0 Z = true) (ws : List Jvm.Cond)  (h0 : Heap) (n0 : Nat) (X00 : Old Z n0 h0) (el ea : Addr) (kE : ClassId) (Se : Sta Z Z.heap "java/util/ImmutableCollections" "EMPTY_LIST" "Ljava/util/ImmutableCollections$ListN;" (.ref el)) (Ee : Exa Z Z.heap el "java/util/ImmutableCollections$ListN") (Fa : Fld Z Z.heap el "java/util/ImmutableCollections$ListN" "allowNulls" "Z" (.int (0 : Int32))) (Fel : Fld Z Z.heap el "java/util/ImmutableCollections$ListN" "elements" "[Ljava/lang/Object;" (.ref ea)) (Ae : Arv Z Z.heap ea kE (.object "java/lang/Object") (0 : Int32) [] .null) :
    MetFree l (⟨"java/util/List", "of", "()Ljava/util/List;"⟩ : MethodName) (head1 (Jvm.Cond.code (⟨"java/util/List", "of", "()Ljava/util/List;"⟩ : MethodName) jdk_40_method_36_code 0 (some (.object "java/util/List")) :: ws) ({ frames := 0, cells := 0, slots := 0, locals := 0 } : Room)) (fun a U => a = #[] ∧ Z.Warmed39 U.vm ∧ U.heap = h0) (fun _ _ _ _ _ => True) (fun _ U o U' => ∃ v L, o = .returned v ∧ Q_rmLO Z h0 el v U'.heap L ∧ FrameEnd U o U' L ({ frames := 0, cells := 0, slots := 0, locals := 0 } : Room).cells ({ frames := 0, cells := 0, slots := 0, locals := 0 } : Room).slots) := by
  refine MetFree.of_bodySF (plainFor_of_name pn4) hisR ?_
  intro p e s m args below meth c s₁ Bd hml0 hP hK
  obtain ⟨rfl, hZ, hh⟩ := hP
  have hx := Bd.exec
  have hby := Bd.bytes
  have hlk : meth.locks = false := Bd.notSynchronized
  have hml : c.maxLocals = 0 := hml0
  have hown : s.vm.findClass "java/util/List" = some m.cls := findClass_of_methodNamed Bd.named
  have hnm := (name_of_methodNamed Bd.named Bd.method).1
  have X0 : Stand p l e ({ frames := 0, cells := 0, slots := 0, locals := 0 } : Room) s m #[] below meth c s₁ [] 0 0 := Stand.of_body Bd
  have e0 : s₁.heap = h0 := by rw [← hh, Bd.state]; rfl
  suffices hgo : OD p e s below (Q_rmLO Z h0 el) ({ frames := 0, cells := 0, slots := 0, locals := 0 } : Room).cells ({ frames := 0, cells := 0, slots := 0, locals := 0 } : Room).slots (s₁.setTop (mkF m 0 #[] [])) by
    obtain ⟨s₂, o, hgo1, hgo2⟩ := hgo
    exact ⟨s₂, o, castTop (ef5 m ) hgo1, hgo2⟩
  have f1 := (Se.ext X00.2)
  obtain ⟨T2, X2, e2, st2⟩ := getS2 X0 hx hZ hown (host := "") (Or.inl (Wd14 hw)) Via.refl e0 f1 (g := (mkF m 0 #[] [])) rfl (hb hby d2_0)
  refine OD.go (B := (T2.setTop (mkF m 3 #[] [(.ref el)]))) st2 ?_
  exact OD.ret X2 hx hlk (t := (.object "java/util/List")) Bd.returns rfl (Or.inr (Or.inr (Or.inr (Or.inr ⟨rfl, rfl, rfl⟩)))) (hb hby d2_3) (Nat.le_of_ble_eq_true rfl) (Nat.le_of_ble_eq_true rfl) ⟨rfl, rfl, e2⟩
def Q_rmLC (Z : State) (el : Addr) (h0 : Heap) (v : Option Value) (h : Heap) (L : List Loc) : Prop := v = some (.ref el) ∧ L = [] ∧ h = h0
set_option maxRecDepth 65536 in
set_option maxHeartbeats 40000000 in
theorem rmLC (l : Launch) (Z : State) (a0 : Array Value) (hw : ∀ d ∈ tables_1, d.before a0 Z = true) (ws : List Jvm.Cond) (el : Addr) (h0 : Heap) (n0 : Nat) (X00 : Old Z n0 h0) (ea : Addr) (kE : ClassId) (Se : Sta Z Z.heap "java/util/ImmutableCollections" "EMPTY_LIST" "Ljava/util/ImmutableCollections$ListN;" (.ref el)) (Ee : Exa Z Z.heap el "java/util/ImmutableCollections$ListN") (Fa : Fld Z Z.heap el "java/util/ImmutableCollections$ListN" "allowNulls" "Z" (.int (0 : Int32))) (Fel : Fld Z Z.heap el "java/util/ImmutableCollections$ListN" "elements" "[Ljava/lang/Object;" (.ref ea)) (Ae : Arv Z Z.heap ea kE (.object "java/lang/Object") (0 : Int32) [] .null) :
    MetFree l (⟨"java/util/ImmutableCollections", "listCopy", "(Ljava/util/Collection;)Ljava/util/List;"⟩ : MethodName) (head1 (Jvm.Cond.code (⟨"java/util/ImmutableCollections", "listCopy", "(Ljava/util/Collection;)Ljava/util/List;"⟩ : MethodName) jdk_56_method_3_code 2 (some (.object "java/util/List")) :: ws) ({ frames := 0, cells := 0, slots := 0, locals := 0 } : Room)) (fun a U => a = #[(.ref el)] ∧ Z.Warmed39 U.vm ∧ U.heap = h0) (fun _ _ _ _ _ => True) (fun _ U o U' => ∃ v L, o = .returned v ∧ Q_rmLC Z el h0 v U'.heap L ∧ FrameEnd U o U' L ({ frames := 0, cells := 0, slots := 0, locals := 0 } : Room).cells ({ frames := 0, cells := 0, slots := 0, locals := 0 } : Room).slots) := by
  refine MetFree.of_bodySF (plainFor_of_name pn5) hisR ?_
  intro p e s m args below meth c s₁ Bd hml0 hP hK
  obtain ⟨rfl, hZ, hh⟩ := hP
  have hx := Bd.exec
  have hby := Bd.bytes
  have hlk : meth.locks = false := Bd.notSynchronized
  have hml : c.maxLocals = 2 := hml0
  have hown : s.vm.findClass "java/util/ImmutableCollections" = some m.cls := findClass_of_methodNamed Bd.named
  have hnm := (name_of_methodNamed Bd.named Bd.method).1
  have X0 : Stand p l e ({ frames := 0, cells := 0, slots := 0, locals := 0 } : Room) s m #[(.ref el)] below meth c s₁ [] 0 0 := Stand.of_body Bd
  have e0 : s₁.heap = h0 := by rw [← hh, Bd.state]; rfl
  suffices hgo : OD p e s below (Q_rmLC Z el h0) ({ frames := 0, cells := 0, slots := 0, locals := 0 } : Room).cells ({ frames := 0, cells := 0, slots := 0, locals := 0 } : Room).slots (s₁.setTop (mkF m 0 #[.val (.ref el), .unset] [])) by
    obtain ⟨s₂, o, hgo1, hgo2⟩ := hgo
    exact ⟨s₂, o, castTop (ef6 m el) hgo1, hgo2⟩
  refine OD.go (B := (s₁.setTop (mkF m 1 #[.val (.ref el), .unset] [(.ref el)]))) (fun t k => XS.aloadN X0.here hx rfl (hb hby d8_0) rfl rfl k) ?_
  have f1 := (Ee.ext X00.2)
  rcases own_inst X0 hZ hown (Wd36 hw) f1 with I2 | I2
  · skip
    obtain ⟨T2, X2, e2, st2⟩ := instY X0 hx hZ hown (Wd36 hw) e0 I2 (g := (mkF m 1 #[.val (.ref el), .unset] [(.ref el)])) rfl rfl (hb hby d8_1)
    refine OD.go (B := (T2.setTop (mkF m 4 #[.val (.ref el), .unset] [(.int (1 : Int32))]))) st2 ?_
    refine OD.go (B := (T2.setTop (mkF m 26 #[.val (.ref el), .unset] []))) (fun t k => XS.ifYes X2.here hx rfl (pc0 := 4) (pc' := 26) rfl (hb hby d8_4) rfl (by rw [if0]; exact (feq (by decide : ¬ (1 : Int32) = (0 : Int32))).2) (by decide) (by decide) k) ?_
    refine OD.go (B := (T2.setTop (mkF m 27 #[.val (.ref el), .unset] [(.ref el)]))) (fun t k => XS.aloadN X2.here hx rfl (hb hby d8_26) rfl rfl k) ?_
    have f3 := (Ee.ext X00.2)
    obtain ⟨T4, X4, e4, st4⟩ := castY X2 hx hZ hown (Wd46 hw) e2 (Ins.of_exa f3 (Wd47 hw)) (g := (mkF m 27 #[.val (.ref el), .unset] [(.ref el)])) rfl rfl (hb hby d8_27)
    refine OD.go (B := (T4.setTop (mkF m 30 #[.val (.ref el), .unset] [(.ref el)]))) st4 ?_
    exact OD.ret X4 hx hlk (t := (.object "java/util/List")) Bd.returns rfl (Or.inr (Or.inr (Or.inr (Or.inr ⟨rfl, rfl, rfl⟩)))) (hb hby d8_30) (Nat.le_of_ble_eq_true rfl) (Nat.le_of_ble_eq_true rfl) ⟨rfl, rfl, e4⟩
  · skip
    obtain ⟨T2, X2, e2, st2⟩ := instNo X0 hx hZ hown (Wd36 hw) e0 f1 I2 (g := (mkF m 1 #[.val (.ref el), .unset] [(.ref el)])) rfl rfl (hb hby d8_1)
    refine OD.go (B := (T2.setTop (mkF m 4 #[.val (.ref el), .unset] [(.int (0 : Int32))]))) st2 ?_
    refine OD.go (B := (T2.setTop (mkF m 7 #[.val (.ref el), .unset] []))) (fun t k => XS.ifNo X2.here hx rfl (hb hby d8_4) rfl (by rw [if0]; exact (teq (by decide : (0 : Int32) = (0 : Int32))).2) k) ?_
    refine OD.go (B := (T2.setTop (mkF m 8 #[.val (.ref el), .unset] [(.ref el)]))) (fun t k => XS.aloadN X2.here hx rfl (hb hby d8_7) rfl rfl k) ?_
    have f5 := (Ee.ext X00.2)
    obtain ⟨T6, X6, e6, st6⟩ := instY X2 hx hZ hown (Wd42 hw) e2 (Ins.self f5) (g := (mkF m 8 #[.val (.ref el), .unset] [(.ref el)])) rfl rfl (hb hby d8_8)
    refine OD.go (B := (T6.setTop (mkF m 11 #[.val (.ref el), .unset] [(.int (1 : Int32))]))) st6 ?_
    refine OD.go (B := (T6.setTop (mkF m 14 #[.val (.ref el), .unset] []))) (fun t k => XS.ifNo X6.here hx rfl (hb hby d8_11) rfl (by rw [if0]; exact (feq (by decide : ¬ (1 : Int32) = (0 : Int32))).1) k) ?_
    refine OD.go (B := (T6.setTop (mkF m 15 #[.val (.ref el), .unset] [(.ref el)]))) (fun t k => XS.aloadN X6.here hx rfl (hb hby d8_14) rfl rfl k) ?_
    have f7 := (Ee.ext X00.2)
    obtain ⟨T8, X8, e8, st8⟩ := castY X6 hx hZ hown (Wd42 hw) e6 (Ins.self f7) (g := (mkF m 15 #[.val (.ref el), .unset] [(.ref el)])) rfl rfl (hb hby d8_15)
    refine OD.go (B := (T8.setTop (mkF m 18 #[.val (.ref el), .unset] [(.ref el)]))) st8 ?_
    refine OD.go (B := (T8.setTop (mkF m 19 #[.val (.ref el), .val (.ref el)] []))) (fun t k => XS.astoreN X8.here hx rfl (hb hby d8_18) rfl rfl (l' := #[.val (.ref el), .val (.ref el)]) rfl k) ?_
    refine OD.go (B := (T8.setTop (mkF m 20 #[.val (.ref el), .val (.ref el)] [(.ref el)]))) (fun t k => XS.aloadN X8.here hx rfl (hb hby d8_19) rfl rfl k) ?_
    have f9 := (Fa.ext X00.2)
    obtain ⟨T10, X10, e10, st10⟩ := getF X8 hx hZ hown (Or.inr (Wd44 hw)) Via.refl e8 f9 (g := (mkF m 20 #[.val (.ref el), .val (.ref el)] [(.ref el)])) rfl rfl (hb hby d8_20)
    refine OD.go (B := (T10.setTop (mkF m 23 #[.val (.ref el), .val (.ref el)] [(.int (0 : Int32))]))) st10 ?_
    refine OD.go (B := (T10.setTop (mkF m 26 #[.val (.ref el), .val (.ref el)] []))) (fun t k => XS.ifNo X10.here hx rfl (hb hby d8_23) rfl (by rw [if0]; exact (teq (by decide : (0 : Int32) = (0 : Int32))).2) k) ?_
    refine OD.go (B := (T10.setTop (mkF m 27 #[.val (.ref el), .val (.ref el)] [(.ref el)]))) (fun t k => XS.aloadN X10.here hx rfl (hb hby d8_26) rfl rfl k) ?_
    have f11 := (Ee.ext X00.2)
    obtain ⟨T12, X12, e12, st12⟩ := castY X10 hx hZ hown (Wd46 hw) e10 (Ins.of_exa f11 (Wd47 hw)) (g := (mkF m 27 #[.val (.ref el), .val (.ref el)] [(.ref el)])) rfl rfl (hb hby d8_27)
    refine OD.go (B := (T12.setTop (mkF m 30 #[.val (.ref el), .val (.ref el)] [(.ref el)]))) st12 ?_
    exact OD.ret X12 hx hlk (t := (.object "java/util/List")) Bd.returns rfl (Or.inr (Or.inr (Or.inr (Or.inr ⟨rfl, rfl, rfl⟩)))) (hb hby d8_30) (Nat.le_of_ble_eq_true rfl) (Nat.le_of_ble_eq_true rfl) ⟨rfl, rfl, e12⟩
def Q_rmCO (Z : State) (el : Addr) (h0 : Heap) (v : Option Value) (h : Heap) (L : List Loc) : Prop := v = some (.ref el) ∧ L = [] ∧ h = h0
set_option maxRecDepth 65536 in
set_option maxHeartbeats 40000000 in
theorem rmCO (l : Launch) (Z : State) (a0 : Array Value) (hw : ∀ d ∈ tables_1, d.before a0 Z = true) (ws : List Jvm.Cond) (el : Addr) (h0 : Heap) (n0 : Nat) (X00 : Old Z n0 h0) (ea : Addr) (kE : ClassId) (Se : Sta Z Z.heap "java/util/ImmutableCollections" "EMPTY_LIST" "Ljava/util/ImmutableCollections$ListN;" (.ref el)) (Ee : Exa Z Z.heap el "java/util/ImmutableCollections$ListN") (Fa : Fld Z Z.heap el "java/util/ImmutableCollections$ListN" "allowNulls" "Z" (.int (0 : Int32))) (Fel : Fld Z Z.heap el "java/util/ImmutableCollections$ListN" "elements" "[Ljava/lang/Object;" (.ref ea)) (Ae : Arv Z Z.heap ea kE (.object "java/lang/Object") (0 : Int32) [] .null) :
    MetFree l (⟨"java/util/List", "copyOf", "(Ljava/util/Collection;)Ljava/util/List;"⟩ : MethodName) (head1 (Jvm.Cond.code (⟨"java/util/List", "copyOf", "(Ljava/util/Collection;)Ljava/util/List;"⟩ : MethodName) jdk_40_method_48_code 1 (some (.object "java/util/List")) :: ws) ({ frames := 1, cells := 0, slots := 0, locals := 13 } : Room)) (fun a U => a = #[(.ref el)] ∧ Z.Warmed39 U.vm ∧ U.heap = h0) (fun _ _ _ _ _ => True) (fun _ U o U' => ∃ v L, o = .returned v ∧ Q_rmCO Z el h0 v U'.heap L ∧ FrameEnd U o U' L ({ frames := 1, cells := 0, slots := 0, locals := 13 } : Room).cells ({ frames := 1, cells := 0, slots := 0, locals := 13 } : Room).slots) := by
  refine MetFree.of_bodySF (plainFor_of_name pn4) hisR ?_
  intro p e s m args below meth c s₁ Bd hml0 hP hK
  obtain ⟨rfl, hZ, hh⟩ := hP
  have hx := Bd.exec
  have hby := Bd.bytes
  have hlk : meth.locks = false := Bd.notSynchronized
  have hml : c.maxLocals = 1 := hml0
  have hown : s.vm.findClass "java/util/List" = some m.cls := findClass_of_methodNamed Bd.named
  have hnm := (name_of_methodNamed Bd.named Bd.method).1
  have X0 : Stand p l e ({ frames := 1, cells := 0, slots := 0, locals := 13 } : Room) s m #[(.ref el)] below meth c s₁ [] 0 0 := Stand.of_body Bd
  have e0 : s₁.heap = h0 := by rw [← hh, Bd.state]; rfl
  suffices hgo : OD p e s below (Q_rmCO Z el h0) ({ frames := 1, cells := 0, slots := 0, locals := 13 } : Room).cells ({ frames := 1, cells := 0, slots := 0, locals := 13 } : Room).slots (s₁.setTop (mkF m 0 #[.val (.ref el)] [])) by
    obtain ⟨s₂, o, hgo1, hgo2⟩ := hgo
    exact ⟨s₂, o, castTop (ef0 m el) hgo1, hgo2⟩
  refine OD.go (B := (s₁.setTop (mkF m 1 #[.val (.ref el)] [(.ref el)]))) (fun t k => XS.aloadN X0.here hx rfl (hb hby d7_0) rfl rfl k) ?_
  obtain ⟨_, _, ⟨T1, L1, k1, n1⟩, -, X1, ⟨Lc1, hQ1, l1, y1, z1⟩, st1⟩ := Jvm.LawKit.callS X0 hx (y := (⟨"java/util/ImmutableCollections", "listCopy", "(Ljava/util/Collection;)Ljava/util/List;"⟩ : MethodName)) hown (mvT hZ (Wd33 hw)) (mvT hZ (Wd34 hw)) (mvT hZ (Wd15 hw)) (mvT hZ (Wd35 hw)) (by decide) (backOf (W := 0) (rmLC l Z a0 hw [] el h0 n0 X00 ea kE Se Ee Fa Fel Ae) hZ (Wd35 hw) (Wd15 hw) (by decide) (by decide)) (g := (mkF m 1 #[.val (.ref el)] [(.ref el)])) rfl (by rw [hml]; rfl) (argsL := [(.ref el)]) (rest := []) (lenOf pd3 rfl) rfl (by show 2 * 0 + _ ≤ _; exact Nat.le_of_eq rfl) (hb hby d7_1) (fun _ _ => ⟨rfl, e0, (Nat.le_of_ble_eq_true rfl), (Nat.le_of_ble_eq_true rfl)⟩)
  dsimp only [Pt.U, Pt.locs, Pt.cells, Pt.slots] at X1 l1 y1 z1 st1 hQ1
  subst l1 y1 z1
  obtain ⟨rfl, rfl, e1⟩ := hQ1
  refine OD.go (B := (T1.setTop (mkF m 4 #[.val (.ref el)] [(.ref el)]))) st1 ?_
  exact OD.ret X1 hx hlk (t := (.object "java/util/List")) Bd.returns rfl (Or.inr (Or.inr (Or.inr (Or.inr ⟨rfl, rfl, rfl⟩)))) (hb hby d7_4) (Nat.le_of_ble_eq_true rfl) (Nat.le_of_ble_eq_true rfl) ⟨rfl, rfl, e1⟩
def Q_rmSZ (Z : State) (el : Addr) (h0 : Heap) (v : Option Value) (h : Heap) (L : List Loc) : Prop := v = some (.int (0 : Int32)) ∧ L = [] ∧ h = h0
set_option maxRecDepth 65536 in
set_option maxHeartbeats 40000000 in
theorem rmSZ (l : Launch) (Z : State) (a0 : Array Value) (hw : ∀ d ∈ tables_1, d.before a0 Z = true) (ws : List Jvm.Cond) (el : Addr) (h0 : Heap) (n0 : Nat) (X00 : Old Z n0 h0) (ea : Addr) (kE : ClassId) (Se : Sta Z Z.heap "java/util/ImmutableCollections" "EMPTY_LIST" "Ljava/util/ImmutableCollections$ListN;" (.ref el)) (Ee : Exa Z Z.heap el "java/util/ImmutableCollections$ListN") (Fa : Fld Z Z.heap el "java/util/ImmutableCollections$ListN" "allowNulls" "Z" (.int (0 : Int32))) (Fel : Fld Z Z.heap el "java/util/ImmutableCollections$ListN" "elements" "[Ljava/lang/Object;" (.ref ea)) (Ae : Arv Z Z.heap ea kE (.object "java/lang/Object") (0 : Int32) [] .null) :
    MetFree l (⟨"java/util/ImmutableCollections$ListN", "size", "()I"⟩ : MethodName) (head1 (Jvm.Cond.code (⟨"java/util/ImmutableCollections$ListN", "size", "()I"⟩ : MethodName) jdk_45_method_3_code 1 (some .int) :: ws) ({ frames := 0, cells := 0, slots := 0, locals := 0 } : Room)) (fun a U => a = #[(.ref el)] ∧ Z.Warmed39 U.vm ∧ U.heap = h0) (fun _ _ _ _ _ => True) (fun _ U o U' => ∃ v L, o = .returned v ∧ Q_rmSZ Z el h0 v U'.heap L ∧ FrameEnd U o U' L ({ frames := 0, cells := 0, slots := 0, locals := 0 } : Room).cells ({ frames := 0, cells := 0, slots := 0, locals := 0 } : Room).slots) := by
  refine MetFree.of_bodySF (plainFor_of_name pn6) hisR ?_
  intro p e s m args below meth c s₁ Bd hml0 hP hK
  obtain ⟨rfl, hZ, hh⟩ := hP
  have hx := Bd.exec
  have hby := Bd.bytes
  have hlk : meth.locks = false := Bd.notSynchronized
  have hml : c.maxLocals = 1 := hml0
  have hown : s.vm.findClass "java/util/ImmutableCollections$ListN" = some m.cls := findClass_of_methodNamed Bd.named
  have hnm := (name_of_methodNamed Bd.named Bd.method).1
  have X0 : Stand p l e ({ frames := 0, cells := 0, slots := 0, locals := 0 } : Room) s m #[(.ref el)] below meth c s₁ [] 0 0 := Stand.of_body Bd
  have e0 : s₁.heap = h0 := by rw [← hh, Bd.state]; rfl
  suffices hgo : OD p e s below (Q_rmSZ Z el h0) ({ frames := 0, cells := 0, slots := 0, locals := 0 } : Room).cells ({ frames := 0, cells := 0, slots := 0, locals := 0 } : Room).slots (s₁.setTop (mkF m 0 #[.val (.ref el)] [])) by
    obtain ⟨s₂, o, hgo1, hgo2⟩ := hgo
    exact ⟨s₂, o, castTop (ef0 m el) hgo1, hgo2⟩
  refine OD.go (B := (s₁.setTop (mkF m 1 #[.val (.ref el)] [(.ref el)]))) (fun t k => XS.aloadN X0.here hx rfl (hb hby d13_0) rfl rfl k) ?_
  have f1 := (Fel.ext X00.2)
  obtain ⟨T2, X2, e2, st2⟩ := getF X0 hx hZ hown (host := "") (Or.inl (Wd90 hw)) Via.refl e0 f1 (g := (mkF m 1 #[.val (.ref el)] [(.ref el)])) rfl rfl (hb hby d13_1)
  refine OD.go (B := (T2.setTop (mkF m 4 #[.val (.ref el)] [(.ref ea)]))) st2 ?_
  have f3 := (Ae.ext X00.2)
  obtain ⟨cl4, Ar4, hl4⟩ := own_len f3
  refine OD.go (B := (T2.setTop (mkF m 5 #[.val (.ref el)] [(.int (0 : Int32))]))) (fun t k => X2.arraylength hx (by rw [e2]; exact Ar4.1) (State.isArrayOf_alike hZ.alike Ar4.2.1) (g := (mkF m 4 #[.val (.ref el)] [(.ref ea)])) rfl rfl (hb hby d13_4) _ (by rw [hl4]; exact k)) ?_
  exact OD.ret X2 hx hlk (t := .int) Bd.returns rfl (Or.inl ⟨rfl, Or.inl rfl, _, rfl⟩) (hb hby d13_5) (Nat.le_of_ble_eq_true rfl) (Nat.le_of_ble_eq_true rfl) ⟨rfl, rfl, e2⟩
def Q_rmC6_00 (Z : State) (a1 : Addr) (el : Addr) (h0 : Heap) (n0 : Nat) (v : Option Value) (h : Heap) (L : List Loc) : Prop := v = none ∧ Fr n0 L ∧ Keep h0 h [a1] ∧ Fld Z h a1 "com/example/echo_panel/echopanel/channel/ChannelState" "connected" "Z" (.int (1 : Int32)) ∧ Fld Z h a1 "com/example/echo_panel/echopanel/channel/ChannelState" "severity" "Lcom/example/echo_panel/echopanel/channel/Severity;" .null ∧ Fld Z h a1 "com/example/echo_panel/echopanel/channel/ChannelState" "precision" "I" (.int (0 : Int32)) ∧ Fld Z h a1 "com/example/echo_panel/echopanel/channel/ChannelState" "labels" "Ljava/util/List;" (.ref el) ∧ Fld Z h a1 "com/example/echo_panel/echopanel/channel/ChannelState" "value" "Ljava/lang/Object;" .null ∧ Fld Z h a1 "com/example/echo_panel/echopanel/channel/ChannelState" "limits" "Lcom/example/echo_panel/echopanel/channel/DisplayLimits;" .null
set_option maxRecDepth 65536 in
set_option maxHeartbeats 40000000 in
theorem rmC6_00 (l : Launch) (Z : State) (a0 : Array Value) (hw : ∀ d ∈ tables_1, d.before a0 Z = true) (ws : List Jvm.Cond) (a1 : Addr) (el : Addr) (h0 : Heap) (n0 : Nat) (Z0 : n0 ≤ h0.size) (E1 : Exa Z h0 a1 "com/example/echo_panel/echopanel/channel/ChannelState") (F0 : Fld Z h0 a1 "com/example/echo_panel/echopanel/channel/ChannelState" "connected" "Z" (.int (0 : Int32))) (F1 : Fld Z h0 a1 "com/example/echo_panel/echopanel/channel/ChannelState" "severity" "Lcom/example/echo_panel/echopanel/channel/Severity;" .null) (F2 : Fld Z h0 a1 "com/example/echo_panel/echopanel/channel/ChannelState" "precision" "I" (.int (0 : Int32))) (F3 : Fld Z h0 a1 "com/example/echo_panel/echopanel/channel/ChannelState" "labels" "Ljava/util/List;" .null) (F4 : Fld Z h0 a1 "com/example/echo_panel/echopanel/channel/ChannelState" "value" "Ljava/lang/Object;" .null) (F5 : Fld Z h0 a1 "com/example/echo_panel/echopanel/channel/ChannelState" "limits" "Lcom/example/echo_panel/echopanel/channel/DisplayLimits;" .null) (g1 : n0 ≤ a1) (X00 : Old Z n0 h0) (ea : Addr) (kE : ClassId) (Se : Sta Z Z.heap "java/util/ImmutableCollections" "EMPTY_LIST" "Ljava/util/ImmutableCollections$ListN;" (.ref el)) (Ee : Exa Z Z.heap el "java/util/ImmutableCollections$ListN") (Fa : Fld Z Z.heap el "java/util/ImmutableCollections$ListN" "allowNulls" "Z" (.int (0 : Int32))) (Fel : Fld Z Z.heap el "java/util/ImmutableCollections$ListN" "elements" "[Ljava/lang/Object;" (.ref ea)) (Ae : Arv Z Z.heap ea kE (.object "java/lang/Object") (0 : Int32) [] .null) :
    MetFree l (⟨"com/example/echo_panel/echopanel/channel/ChannelState", "<init>", "(ZLcom/example/echo_panel/echopanel/channel/Severity;ILjava/util/List;Ljava/lang/Object;Lcom/example/echo_panel/echopanel/channel/DisplayLimits;)V"⟩ : MethodName) (head1 (Jvm.Cond.code (⟨"com/example/echo_panel/echopanel/channel/ChannelState", "<init>", "(ZLcom/example/echo_panel/echopanel/channel/Severity;ILjava/util/List;Ljava/lang/Object;Lcom/example/echo_panel/echopanel/channel/DisplayLimits;)V"⟩ : MethodName) prog_15_method_1_code 7 none :: ws) ({ frames := 2, cells := 0, slots := 0, locals := 25 } : Room)) (fun a U => a = #[(.ref a1), (.int (1 : Int32)), .null, (.int (0 : Int32)), (.ref el), .null, .null] ∧ Z.Warmed39 U.vm ∧ U.heap = h0) (fun _ _ _ _ _ => True) (fun _ U o U' => ∃ v L, o = .returned v ∧ Q_rmC6_00 Z a1 el h0 n0 v U'.heap L ∧ FrameEnd U o U' L ({ frames := 2, cells := 0, slots := 0, locals := 25 } : Room).cells ({ frames := 2, cells := 0, slots := 0, locals := 25 } : Room).slots) := by
  refine MetFree.of_bodySF (plainFor_of_name pn7) hisR ?_
  intro p e s m args below meth c s₁ Bd hml0 hP hK
  obtain ⟨rfl, hZ, hh⟩ := hP
  have hx := Bd.exec
  have hby := Bd.bytes
  have hlk : meth.locks = false := Bd.notSynchronized
  have hml : c.maxLocals = 7 := hml0
  have hown : s.vm.findClass "com/example/echo_panel/echopanel/channel/ChannelState" = some m.cls := findClass_of_methodNamed Bd.named
  have hnm := (name_of_methodNamed Bd.named Bd.method).1
  have X0 : Stand p l e ({ frames := 2, cells := 0, slots := 0, locals := 25 } : Room) s m #[(.ref a1), (.int (1 : Int32)), .null, (.int (0 : Int32)), (.ref el), .null, .null] below meth c s₁ [] 0 0 := Stand.of_body Bd
  have e0 : s₁.heap = h0 := by rw [← hh, Bd.state]; rfl
  have N0 := Fr.nil n0
  suffices hgo : OD p e s below (Q_rmC6_00 Z a1 el h0 n0) ({ frames := 2, cells := 0, slots := 0, locals := 25 } : Room).cells ({ frames := 2, cells := 0, slots := 0, locals := 25 } : Room).slots (s₁.setTop (mkF m 0 #[.val (.ref a1), .val (.int (1 : Int32)), .val .null, .val (.int (0 : Int32)), .val (.ref el), .val .null, .val .null] [])) by
    obtain ⟨s₂, o, hgo1, hgo2⟩ := hgo
    exact ⟨s₂, o, castTop (ef7 m a1 (1 : Int32) (0 : Int32) el) hgo1, hgo2⟩
  refine OD.go (B := (s₁.setTop (mkF m 1 #[.val (.ref a1), .val (.int (1 : Int32)), .val .null, .val (.int (0 : Int32)), .val (.ref el), .val .null, .val .null] [(.ref a1)]))) (fun t k => XS.aloadN X0.here hx rfl (hb hby d4_0) rfl rfl k) ?_
  obtain ⟨_, _, ⟨T1, L1, k1, n1⟩, -, X1, ⟨Lc1, hQ1, l1, y1, z1⟩, st1⟩ := X0.specialBack hx (y := (⟨"java/lang/Record", "<init>", "()V"⟩ : MethodName)) rfl hown (mvT hZ (Wd22 hw)) (mvT hZ (Wd23 hw)) (mvT hZ (Wd26 hw)) (by decide) (backOf (W := 0) (rmR l Z a0 hw [] a1 h0) hZ (Wd26 hw) (Wd25 hw) (by decide) (by decide)) (g := (mkF m 1 #[.val (.ref a1), .val (.int (1 : Int32)), .val .null, .val (.int (0 : Int32)), .val (.ref el), .val .null, .val .null] [(.ref a1)])) rfl (by rw [hml]; rfl) (Steps.refl _) (a := a1) (argsL := []) (rest := []) (lenOf pd0 rfl) rfl (by show 2 * 0 + _ ≤ _; exact Nat.le_of_eq rfl) (hb hby d4_1) (fun _ _ => ⟨rfl, e0, (Nat.le_of_ble_eq_true rfl), (Nat.le_of_ble_eq_true rfl)⟩)
  dsimp only [Pt.U, Pt.locs, Pt.cells, Pt.slots] at X1 l1 y1 z1 st1 hQ1
  subst l1 y1 z1
  obtain ⟨rfl, rfl, e1⟩ := hQ1
  have N1 := Fr.app N0 (Fr.nil _)
  refine OD.via (B := (T1.setTop (mkF m 4 #[.val (.ref a1), .val (.int (1 : Int32)), .val .null, .val (.int (0 : Int32)), .val (.ref el), .val .null, .val .null] []))) st1 ?_
  refine OD.go (B := (T1.setTop (mkF m 6 #[.val (.ref a1), .val (.int (1 : Int32)), .val .null, .val (.int (0 : Int32)), .val (.ref el), .val .null, .val .null] [(.ref el)]))) (fun t k => XS.aload X1.here hx rfl (hb hby d4_4) rfl rfl k) ?_
  obtain ⟨_, _, ⟨T2, L2, k2, n2⟩, -, X2, ⟨Lc2, hQ2, l2, y2, z2⟩, st2⟩ := Jvm.LawKit.callS X1 hx (y := (⟨"java/util/List", "copyOf", "(Ljava/util/Collection;)Ljava/util/List;"⟩ : MethodName)) hown (mvT hZ (Wd30 hw)) (mvT hZ (Wd31 hw)) (mvT hZ (Wd12 hw)) (mvT hZ (Wd32 hw)) (by decide) (backOf (W := 0) (rmCO l Z a0 hw [] el h0 n0 X00 ea kE Se Ee Fa Fel Ae) hZ (Wd32 hw) (Wd12 hw) (by decide) (by decide)) (g := (mkF m 6 #[.val (.ref a1), .val (.int (1 : Int32)), .val .null, .val (.int (0 : Int32)), .val (.ref el), .val .null, .val .null] [(.ref el)])) rfl (by rw [hml]; rfl) (argsL := [(.ref el)]) (rest := []) (lenOf pd3 rfl) rfl (by show 2 * 0 + _ ≤ _; exact Nat.le_of_eq rfl) (hb hby d4_6) (fun _ _ => ⟨rfl, e1, (Nat.le_of_ble_eq_true rfl), (Nat.le_of_ble_eq_true rfl)⟩)
  dsimp only [Pt.U, Pt.locs, Pt.cells, Pt.slots] at X2 l2 y2 z2 st2 hQ2
  subst l2 y2 z2
  obtain ⟨rfl, rfl, e2⟩ := hQ2
  have N2 := Fr.app N1 (Fr.nil _)
  refine OD.go (B := (T2.setTop (mkF m 9 #[.val (.ref a1), .val (.int (1 : Int32)), .val .null, .val (.int (0 : Int32)), .val (.ref el), .val .null, .val .null] [(.ref el)]))) st2 ?_
  refine OD.go (B := (T2.setTop (mkF m 11 #[.val (.ref a1), .val (.int (1 : Int32)), .val .null, .val (.int (0 : Int32)), .val (.ref el), .val .null, .val .null] []))) (fun t k => XS.astore X2.here hx rfl (hb hby d4_9) rfl rfl (l' := #[.val (.ref a1), .val (.int (1 : Int32)), .val .null, .val (.int (0 : Int32)), .val (.ref el), .val .null, .val .null]) rfl k) ?_
  refine OD.go (B := (T2.setTop (mkF m 12 #[.val (.ref a1), .val (.int (1 : Int32)), .val .null, .val (.int (0 : Int32)), .val (.ref el), .val .null, .val .null] [(.ref a1)]))) (fun t k => XS.aloadN X2.here hx rfl (hb hby d4_11) rfl rfl k) ?_
  refine OD.go (B := (T2.setTop (mkF m 13 #[.val (.ref a1), .val (.int (1 : Int32)), .val .null, .val (.int (0 : Int32)), .val (.ref el), .val .null, .val .null] [(.int (1 : Int32)), (.ref a1)]))) (fun t k => XS.iloadN X2.here hx rfl (hb hby d4_12) rfl k) ?_
  obtain ⟨T3, h3, X3, e3, W3, st3⟩ := putFN X2 hx hZ hown (Wd48 hw) Via.refl e2 F0 E1 (Or.inr ⟨(Wd49 hw), rfl, hnm⟩) (Wd6 hw) (ty := .boolean) (v' := (.int (1 : Int32))) (by decide) rfl (by decide) (g := (mkF m 13 #[.val (.ref a1), .val (.int (1 : Int32)), .val .null, .val (.int (0 : Int32)), .val (.ref el), .val .null, .val .null] [(.int (1 : Int32)), (.ref a1)])) rfl rfl (hb hby d4_13)
  have Fx3 := F0.same W3
  have N3 := Fr.snoc X3 N2 g1
  refine OD.go (B := (T3.setTop (mkF m 16 #[.val (.ref a1), .val (.int (1 : Int32)), .val .null, .val (.int (0 : Int32)), .val (.ref el), .val .null, .val .null] []))) st3 ?_
  refine OD.go (B := (T3.setTop (mkF m 17 #[.val (.ref a1), .val (.int (1 : Int32)), .val .null, .val (.int (0 : Int32)), .val (.ref el), .val .null, .val .null] [(.ref a1)]))) (fun t k => XS.aloadN X3.here hx rfl (hb hby d4_16) rfl rfl k) ?_
  refine OD.go (B := (T3.setTop (mkF m 18 #[.val (.ref a1), .val (.int (1 : Int32)), .val .null, .val (.int (0 : Int32)), .val (.ref el), .val .null, .val .null] [.null, (.ref a1)]))) (fun t k => XS.aloadN X3.here hx rfl (hb hby d4_17) rfl rfl k) ?_
  have f4 := (F1.other W3 (Or.inr (slot_ne (Or.inr (Wd51 hw)) (Or.inr (Wd49 hw)) (by decide) (t := (.object "com/example/echo_panel/echopanel/channel/Severity")) (t' := .boolean) (by decide) (by decide))))
  have f5 := (E1.wr W3)
  obtain ⟨T6, h6, X6, e6, W6, st6⟩ := putF X3 hx hZ hown (host := "") (Or.inl (Wd50 hw)) Via.refl e3 f4 f5 (Or.inr ⟨(Wd51 hw), rfl, hnm⟩) (Wd6 hw) (ty := (.object "com/example/echo_panel/echopanel/channel/Severity")) (by decide) rfl rfl (g := (mkF m 18 #[.val (.ref a1), .val (.int (1 : Int32)), .val .null, .val (.int (0 : Int32)), .val (.ref el), .val .null, .val .null] [.null, (.ref a1)])) rfl rfl (hb hby d4_18)
  have Fx6 := f4.same W6
  have N6 := Fr.snoc X6 N3 g1
  refine OD.go (B := (T6.setTop (mkF m 21 #[.val (.ref a1), .val (.int (1 : Int32)), .val .null, .val (.int (0 : Int32)), .val (.ref el), .val .null, .val .null] []))) st6 ?_
  refine OD.go (B := (T6.setTop (mkF m 22 #[.val (.ref a1), .val (.int (1 : Int32)), .val .null, .val (.int (0 : Int32)), .val (.ref el), .val .null, .val .null] [(.ref a1)]))) (fun t k => XS.aloadN X6.here hx rfl (hb hby d4_21) rfl rfl k) ?_
  refine OD.go (B := (T6.setTop (mkF m 23 #[.val (.ref a1), .val (.int (1 : Int32)), .val .null, .val (.int (0 : Int32)), .val (.ref el), .val .null, .val .null] [(.int (0 : Int32)), (.ref a1)]))) (fun t k => XS.iloadN X6.here hx rfl (hb hby d4_22) rfl k) ?_
  have f7 := ((F2.other W3 (Or.inr (slot_ne (Or.inr (Wd53 hw)) (Or.inr (Wd49 hw)) (by decide) (t := .int) (t' := .boolean) (by decide) (by decide)))).other W6 (Or.inr (slot_ne (Or.inr (Wd53 hw)) (Or.inr (Wd51 hw)) (by decide) (t := .int) (t' := (.object "com/example/echo_panel/echopanel/channel/Severity")) (by decide) (by decide))))
  have f8 := (f5.wr W6)
  obtain ⟨T9, h9, X9, e9, W9, st9⟩ := putF X6 hx hZ hown (host := "") (Or.inl (Wd52 hw)) Via.refl e6 f7 f8 (Or.inr ⟨(Wd53 hw), rfl, hnm⟩) (Wd6 hw) (ty := .int) (by decide) rfl rfl (g := (mkF m 23 #[.val (.ref a1), .val (.int (1 : Int32)), .val .null, .val (.int (0 : Int32)), .val (.ref el), .val .null, .val .null] [(.int (0 : Int32)), (.ref a1)])) rfl rfl (hb hby d4_23)
  have Fx9 := f7.same W9
  have N9 := Fr.snoc X9 N6 g1
  refine OD.go (B := (T9.setTop (mkF m 26 #[.val (.ref a1), .val (.int (1 : Int32)), .val .null, .val (.int (0 : Int32)), .val (.ref el), .val .null, .val .null] []))) st9 ?_
  refine OD.go (B := (T9.setTop (mkF m 27 #[.val (.ref a1), .val (.int (1 : Int32)), .val .null, .val (.int (0 : Int32)), .val (.ref el), .val .null, .val .null] [(.ref a1)]))) (fun t k => XS.aloadN X9.here hx rfl (hb hby d4_26) rfl rfl k) ?_
  refine OD.go (B := (T9.setTop (mkF m 29 #[.val (.ref a1), .val (.int (1 : Int32)), .val .null, .val (.int (0 : Int32)), .val (.ref el), .val .null, .val .null] [(.ref el), (.ref a1)]))) (fun t k => XS.aload X9.here hx rfl (hb hby d4_27) rfl rfl k) ?_
  have f10 := (((F3.other W3 (Or.inr (slot_ne (Or.inr (Wd55 hw)) (Or.inr (Wd49 hw)) (by decide) (t := (.object "java/util/List")) (t' := .boolean) (by decide) (by decide)))).other W6 (Or.inr (slot_ne (Or.inr (Wd55 hw)) (Or.inr (Wd51 hw)) (by decide) (t := (.object "java/util/List")) (t' := (.object "com/example/echo_panel/echopanel/channel/Severity")) (by decide) (by decide)))).other W9 (Or.inr (slot_ne (Or.inr (Wd55 hw)) (Or.inr (Wd53 hw)) (by decide) (t := (.object "java/util/List")) (t' := .int) (by decide) (by decide))))
  have f11 := (f8.wr W9)
  obtain ⟨T12, h12, X12, e12, W12, st12⟩ := putF X9 hx hZ hown (host := "") (Or.inl (Wd54 hw)) Via.refl e9 f10 f11 (Or.inr ⟨(Wd55 hw), rfl, hnm⟩) (Wd6 hw) (ty := (.object "java/util/List")) (by decide) rfl rfl (g := (mkF m 29 #[.val (.ref a1), .val (.int (1 : Int32)), .val .null, .val (.int (0 : Int32)), .val (.ref el), .val .null, .val .null] [(.ref el), (.ref a1)])) rfl rfl (hb hby d4_29)
  have Fx12 := f10.same W12
  have N12 := Fr.snoc X12 N9 g1
  refine OD.go (B := (T12.setTop (mkF m 32 #[.val (.ref a1), .val (.int (1 : Int32)), .val .null, .val (.int (0 : Int32)), .val (.ref el), .val .null, .val .null] []))) st12 ?_
  refine OD.go (B := (T12.setTop (mkF m 33 #[.val (.ref a1), .val (.int (1 : Int32)), .val .null, .val (.int (0 : Int32)), .val (.ref el), .val .null, .val .null] [(.ref a1)]))) (fun t k => XS.aloadN X12.here hx rfl (hb hby d4_32) rfl rfl k) ?_
  refine OD.go (B := (T12.setTop (mkF m 35 #[.val (.ref a1), .val (.int (1 : Int32)), .val .null, .val (.int (0 : Int32)), .val (.ref el), .val .null, .val .null] [.null, (.ref a1)]))) (fun t k => XS.aload X12.here hx rfl (hb hby d4_33) rfl rfl k) ?_
  have f13 := ((((F4.other W3 (Or.inr (slot_ne (Or.inr (Wd57 hw)) (Or.inr (Wd49 hw)) (by decide) (t := (.object "java/lang/Object")) (t' := .boolean) (by decide) (by decide)))).other W6 (Or.inr (slot_ne (Or.inr (Wd57 hw)) (Or.inr (Wd51 hw)) (by decide) (t := (.object "java/lang/Object")) (t' := (.object "com/example/echo_panel/echopanel/channel/Severity")) (by decide) (by decide)))).other W9 (Or.inr (slot_ne (Or.inr (Wd57 hw)) (Or.inr (Wd53 hw)) (by decide) (t := (.object "java/lang/Object")) (t' := .int) (by decide) (by decide)))).other W12 (Or.inr (slot_ne (Or.inr (Wd57 hw)) (Or.inr (Wd55 hw)) (by decide) (t := (.object "java/lang/Object")) (t' := (.object "java/util/List")) (by decide) (by decide))))
  have f14 := (f11.wr W12)
  obtain ⟨T15, h15, X15, e15, W15, st15⟩ := putF X12 hx hZ hown (host := "") (Or.inl (Wd56 hw)) Via.refl e12 f13 f14 (Or.inr ⟨(Wd57 hw), rfl, hnm⟩) (Wd6 hw) (ty := (.object "java/lang/Object")) (by decide) rfl rfl (g := (mkF m 35 #[.val (.ref a1), .val (.int (1 : Int32)), .val .null, .val (.int (0 : Int32)), .val (.ref el), .val .null, .val .null] [.null, (.ref a1)])) rfl rfl (hb hby d4_35)
  have Fx15 := f13.same W15
  have N15 := Fr.snoc X15 N12 g1
  refine OD.go (B := (T15.setTop (mkF m 38 #[.val (.ref a1), .val (.int (1 : Int32)), .val .null, .val (.int (0 : Int32)), .val (.ref el), .val .null, .val .null] []))) st15 ?_
  refine OD.go (B := (T15.setTop (mkF m 39 #[.val (.ref a1), .val (.int (1 : Int32)), .val .null, .val (.int (0 : Int32)), .val (.ref el), .val .null, .val .null] [(.ref a1)]))) (fun t k => XS.aloadN X15.here hx rfl (hb hby d4_38) rfl rfl k) ?_
  refine OD.go (B := (T15.setTop (mkF m 41 #[.val (.ref a1), .val (.int (1 : Int32)), .val .null, .val (.int (0 : Int32)), .val (.ref el), .val .null, .val .null] [.null, (.ref a1)]))) (fun t k => XS.aload X15.here hx rfl (hb hby d4_39) rfl rfl k) ?_
  have f16 := (((((F5.other W3 (Or.inr (slot_ne (Or.inr (Wd59 hw)) (Or.inr (Wd49 hw)) (by decide) (t := (.object "com/example/echo_panel/echopanel/channel/DisplayLimits")) (t' := .boolean) (by decide) (by decide)))).other W6 (Or.inr (slot_ne (Or.inr (Wd59 hw)) (Or.inr (Wd51 hw)) (by decide) (t := (.object "com/example/echo_panel/echopanel/channel/DisplayLimits")) (t' := (.object "com/example/echo_panel/echopanel/channel/Severity")) (by decide) (by decide)))).other W9 (Or.inr (slot_ne (Or.inr (Wd59 hw)) (Or.inr (Wd53 hw)) (by decide) (t := (.object "com/example/echo_panel/echopanel/channel/DisplayLimits")) (t' := .int) (by decide) (by decide)))).other W12 (Or.inr (slot_ne (Or.inr (Wd59 hw)) (Or.inr (Wd55 hw)) (by decide) (t := (.object "com/example/echo_panel/echopanel/channel/DisplayLimits")) (t' := (.object "java/util/List")) (by decide) (by decide)))).other W15 (Or.inr (slot_ne (Or.inr (Wd59 hw)) (Or.inr (Wd57 hw)) (by decide) (t := (.object "com/example/echo_panel/echopanel/channel/DisplayLimits")) (t' := (.object "java/lang/Object")) (by decide) (by decide))))
  have f17 := (f14.wr W15)
  obtain ⟨T18, h18, X18, e18, W18, st18⟩ := putF X15 hx hZ hown (host := "") (Or.inl (Wd58 hw)) Via.refl e15 f16 f17 (Or.inr ⟨(Wd59 hw), rfl, hnm⟩) (Wd6 hw) (ty := (.object "com/example/echo_panel/echopanel/channel/DisplayLimits")) (by decide) rfl rfl (g := (mkF m 41 #[.val (.ref a1), .val (.int (1 : Int32)), .val .null, .val (.int (0 : Int32)), .val (.ref el), .val .null, .val .null] [.null, (.ref a1)])) rfl rfl (hb hby d4_41)
  have Fx18 := f16.same W18
  have N18 := Fr.snoc X18 N15 g1
  refine OD.go (B := (T18.setTop (mkF m 44 #[.val (.ref a1), .val (.int (1 : Int32)), .val .null, .val (.int (0 : Int32)), .val (.ref el), .val .null, .val .null] []))) st18 ?_
  exact OD.retV X18 hx hlk Bd.returns (hb hby d4_44) (Nat.le_of_ble_eq_true rfl) (Nat.le_of_ble_eq_true rfl) ⟨rfl, N18, by rw [e18]; exact (((((((Keep.refl h0 [a1]).wr W3 (Or.inl (List.mem_of_getElem? (i := 0) rfl))).wr W6 (Or.inl (List.mem_of_getElem? (i := 0) rfl))).wr W9 (Or.inl (List.mem_of_getElem? (i := 0) rfl))).wr W12 (Or.inl (List.mem_of_getElem? (i := 0) rfl))).wr W15 (Or.inl (List.mem_of_getElem? (i := 0) rfl))).wr W18 (Or.inl (List.mem_of_getElem? (i := 0) rfl))), by rw [e18]; exact (((((Fx3.other W6 (Or.inr (slot_ne (Or.inr (Wd49 hw)) (Or.inr (Wd51 hw)) (by decide) (t := .boolean) (t' := (.object "com/example/echo_panel/echopanel/channel/Severity")) (by decide) (by decide)))).other W9 (Or.inr (slot_ne (Or.inr (Wd49 hw)) (Or.inr (Wd53 hw)) (by decide) (t := .boolean) (t' := .int) (by decide) (by decide)))).other W12 (Or.inr (slot_ne (Or.inr (Wd49 hw)) (Or.inr (Wd55 hw)) (by decide) (t := .boolean) (t' := (.object "java/util/List")) (by decide) (by decide)))).other W15 (Or.inr (slot_ne (Or.inr (Wd49 hw)) (Or.inr (Wd57 hw)) (by decide) (t := .boolean) (t' := (.object "java/lang/Object")) (by decide) (by decide)))).other W18 (Or.inr (slot_ne (Or.inr (Wd49 hw)) (Or.inr (Wd59 hw)) (by decide) (t := .boolean) (t' := (.object "com/example/echo_panel/echopanel/channel/DisplayLimits")) (by decide) (by decide)))), by rw [e18]; exact ((((Fx6.other W9 (Or.inr (slot_ne (Or.inr (Wd51 hw)) (Or.inr (Wd53 hw)) (by decide) (t := (.object "com/example/echo_panel/echopanel/channel/Severity")) (t' := .int) (by decide) (by decide)))).other W12 (Or.inr (slot_ne (Or.inr (Wd51 hw)) (Or.inr (Wd55 hw)) (by decide) (t := (.object "com/example/echo_panel/echopanel/channel/Severity")) (t' := (.object "java/util/List")) (by decide) (by decide)))).other W15 (Or.inr (slot_ne (Or.inr (Wd51 hw)) (Or.inr (Wd57 hw)) (by decide) (t := (.object "com/example/echo_panel/echopanel/channel/Severity")) (t' := (.object "java/lang/Object")) (by decide) (by decide)))).other W18 (Or.inr (slot_ne (Or.inr (Wd51 hw)) (Or.inr (Wd59 hw)) (by decide) (t := (.object "com/example/echo_panel/echopanel/channel/Severity")) (t' := (.object "com/example/echo_panel/echopanel/channel/DisplayLimits")) (by decide) (by decide)))), by rw [e18]; exact (((Fx9.other W12 (Or.inr (slot_ne (Or.inr (Wd53 hw)) (Or.inr (Wd55 hw)) (by decide) (t := .int) (t' := (.object "java/util/List")) (by decide) (by decide)))).other W15 (Or.inr (slot_ne (Or.inr (Wd53 hw)) (Or.inr (Wd57 hw)) (by decide) (t := .int) (t' := (.object "java/lang/Object")) (by decide) (by decide)))).other W18 (Or.inr (slot_ne (Or.inr (Wd53 hw)) (Or.inr (Wd59 hw)) (by decide) (t := .int) (t' := (.object "com/example/echo_panel/echopanel/channel/DisplayLimits")) (by decide) (by decide)))), by rw [e18]; exact ((Fx12.other W15 (Or.inr (slot_ne (Or.inr (Wd55 hw)) (Or.inr (Wd57 hw)) (by decide) (t := (.object "java/util/List")) (t' := (.object "java/lang/Object")) (by decide) (by decide)))).other W18 (Or.inr (slot_ne (Or.inr (Wd55 hw)) (Or.inr (Wd59 hw)) (by decide) (t := (.object "java/util/List")) (t' := (.object "com/example/echo_panel/echopanel/channel/DisplayLimits")) (by decide) (by decide)))), by rw [e18]; exact (Fx15.other W18 (Or.inr (slot_ne (Or.inr (Wd57 hw)) (Or.inr (Wd59 hw)) (by decide) (t := (.object "java/lang/Object")) (t' := (.object "com/example/echo_panel/echopanel/channel/DisplayLimits")) (by decide) (by decide)))), by rw [e18]; exact Fx18⟩
def Q_rmC5_00 (Z : State) (a1 : Addr) (el : Addr) (h0 : Heap) (n0 : Nat) (v : Option Value) (h : Heap) (L : List Loc) : Prop := v = none ∧ Fr n0 L ∧ Keep h0 h [a1] ∧ Fld Z h a1 "com/example/echo_panel/echopanel/channel/ChannelState" "connected" "Z" (.int (1 : Int32)) ∧ Fld Z h a1 "com/example/echo_panel/echopanel/channel/ChannelState" "severity" "Lcom/example/echo_panel/echopanel/channel/Severity;" .null ∧ Fld Z h a1 "com/example/echo_panel/echopanel/channel/ChannelState" "precision" "I" (.int (0 : Int32)) ∧ Fld Z h a1 "com/example/echo_panel/echopanel/channel/ChannelState" "labels" "Ljava/util/List;" (.ref el) ∧ Fld Z h a1 "com/example/echo_panel/echopanel/channel/ChannelState" "value" "Ljava/lang/Object;" .null ∧ Fld Z h a1 "com/example/echo_panel/echopanel/channel/ChannelState" "limits" "Lcom/example/echo_panel/echopanel/channel/DisplayLimits;" .null
set_option maxRecDepth 65536 in
set_option maxHeartbeats 40000000 in
theorem rmC5_00 (l : Launch) (Z : State) (a0 : Array Value) (hw : ∀ d ∈ tables_1, d.before a0 Z = true) (ws : List Jvm.Cond) (a1 : Addr) (el : Addr) (h0 : Heap) (n0 : Nat) (Z0 : n0 ≤ h0.size) (E1 : Exa Z h0 a1 "com/example/echo_panel/echopanel/channel/ChannelState") (F0 : Fld Z h0 a1 "com/example/echo_panel/echopanel/channel/ChannelState" "connected" "Z" (.int (0 : Int32))) (F1 : Fld Z h0 a1 "com/example/echo_panel/echopanel/channel/ChannelState" "severity" "Lcom/example/echo_panel/echopanel/channel/Severity;" .null) (F2 : Fld Z h0 a1 "com/example/echo_panel/echopanel/channel/ChannelState" "precision" "I" (.int (0 : Int32))) (F3 : Fld Z h0 a1 "com/example/echo_panel/echopanel/channel/ChannelState" "labels" "Ljava/util/List;" .null) (F4 : Fld Z h0 a1 "com/example/echo_panel/echopanel/channel/ChannelState" "value" "Ljava/lang/Object;" .null) (F5 : Fld Z h0 a1 "com/example/echo_panel/echopanel/channel/ChannelState" "limits" "Lcom/example/echo_panel/echopanel/channel/DisplayLimits;" .null) (g1 : n0 ≤ a1) (X00 : Old Z n0 h0) (ea : Addr) (kE : ClassId) (Se : Sta Z Z.heap "java/util/ImmutableCollections" "EMPTY_LIST" "Ljava/util/ImmutableCollections$ListN;" (.ref el)) (Ee : Exa Z Z.heap el "java/util/ImmutableCollections$ListN") (Fa : Fld Z Z.heap el "java/util/ImmutableCollections$ListN" "allowNulls" "Z" (.int (0 : Int32))) (Fel : Fld Z Z.heap el "java/util/ImmutableCollections$ListN" "elements" "[Ljava/lang/Object;" (.ref ea)) (Ae : Arv Z Z.heap ea kE (.object "java/lang/Object") (0 : Int32) [] .null) :
    MetFree l (⟨"com/example/echo_panel/echopanel/channel/ChannelState", "<init>", "(ZLcom/example/echo_panel/echopanel/channel/Severity;ILjava/util/List;Ljava/lang/Object;)V"⟩ : MethodName) (head1 (Jvm.Cond.code (⟨"com/example/echo_panel/echopanel/channel/ChannelState", "<init>", "(ZLcom/example/echo_panel/echopanel/channel/Severity;ILjava/util/List;Ljava/lang/Object;)V"⟩ : MethodName) prog_15_method_2_code 6 none :: ws) ({ frames := 3, cells := 0, slots := 0, locals := 43 } : Room)) (fun a U => a = #[(.ref a1), (.int (1 : Int32)), .null, (.int (0 : Int32)), (.ref el), .null] ∧ Z.Warmed39 U.vm ∧ U.heap = h0) (fun _ _ _ _ _ => True) (fun _ U o U' => ∃ v L, o = .returned v ∧ Q_rmC5_00 Z a1 el h0 n0 v U'.heap L ∧ FrameEnd U o U' L ({ frames := 3, cells := 0, slots := 0, locals := 43 } : Room).cells ({ frames := 3, cells := 0, slots := 0, locals := 43 } : Room).slots) := by
  refine MetFree.of_bodySF (plainFor_of_name pn7) hisR ?_
  intro p e s m args below meth c s₁ Bd hml0 hP hK
  obtain ⟨rfl, hZ, hh⟩ := hP
  have hx := Bd.exec
  have hby := Bd.bytes
  have hlk : meth.locks = false := Bd.notSynchronized
  have hml : c.maxLocals = 6 := hml0
  have hown : s.vm.findClass "com/example/echo_panel/echopanel/channel/ChannelState" = some m.cls := findClass_of_methodNamed Bd.named
  have hnm := (name_of_methodNamed Bd.named Bd.method).1
  have X0 : Stand p l e ({ frames := 3, cells := 0, slots := 0, locals := 43 } : Room) s m #[(.ref a1), (.int (1 : Int32)), .null, (.int (0 : Int32)), (.ref el), .null] below meth c s₁ [] 0 0 := Stand.of_body Bd
  have e0 : s₁.heap = h0 := by rw [← hh, Bd.state]; rfl
  have N0 := Fr.nil n0
  suffices hgo : OD p e s below (Q_rmC5_00 Z a1 el h0 n0) ({ frames := 3, cells := 0, slots := 0, locals := 43 } : Room).cells ({ frames := 3, cells := 0, slots := 0, locals := 43 } : Room).slots (s₁.setTop (mkF m 0 #[.val (.ref a1), .val (.int (1 : Int32)), .val .null, .val (.int (0 : Int32)), .val (.ref el), .val .null] [])) by
    obtain ⟨s₂, o, hgo1, hgo2⟩ := hgo
    exact ⟨s₂, o, castTop (ef8 m a1 (1 : Int32) (0 : Int32) el) hgo1, hgo2⟩
  refine OD.go (B := (s₁.setTop (mkF m 1 #[.val (.ref a1), .val (.int (1 : Int32)), .val .null, .val (.int (0 : Int32)), .val (.ref el), .val .null] [(.ref a1)]))) (fun t k => XS.aloadN X0.here hx rfl (hb hby d3_0) rfl rfl k) ?_
  refine OD.go (B := (s₁.setTop (mkF m 2 #[.val (.ref a1), .val (.int (1 : Int32)), .val .null, .val (.int (0 : Int32)), .val (.ref el), .val .null] [(.int (1 : Int32)), (.ref a1)]))) (fun t k => XS.iloadN X0.here hx rfl (hb hby d3_1) rfl k) ?_
  refine OD.go (B := (s₁.setTop (mkF m 3 #[.val (.ref a1), .val (.int (1 : Int32)), .val .null, .val (.int (0 : Int32)), .val (.ref el), .val .null] [.null, (.int (1 : Int32)), (.ref a1)]))) (fun t k => XS.aloadN X0.here hx rfl (hb hby d3_2) rfl rfl k) ?_
  refine OD.go (B := (s₁.setTop (mkF m 4 #[.val (.ref a1), .val (.int (1 : Int32)), .val .null, .val (.int (0 : Int32)), .val (.ref el), .val .null] [(.int (0 : Int32)), .null, (.int (1 : Int32)), (.ref a1)]))) (fun t k => XS.iloadN X0.here hx rfl (hb hby d3_3) rfl k) ?_
  refine OD.go (B := (s₁.setTop (mkF m 6 #[.val (.ref a1), .val (.int (1 : Int32)), .val .null, .val (.int (0 : Int32)), .val (.ref el), .val .null] [(.ref el), (.int (0 : Int32)), .null, (.int (1 : Int32)), (.ref a1)]))) (fun t k => XS.aload X0.here hx rfl (hb hby d3_4) rfl rfl k) ?_
  refine OD.go (B := (s₁.setTop (mkF m 8 #[.val (.ref a1), .val (.int (1 : Int32)), .val .null, .val (.int (0 : Int32)), .val (.ref el), .val .null] [.null, (.ref el), (.int (0 : Int32)), .null, (.int (1 : Int32)), (.ref a1)]))) (fun t k => XS.aload X0.here hx rfl (hb hby d3_6) rfl rfl k) ?_
  refine OD.go (B := (s₁.setTop (mkF m 9 #[.val (.ref a1), .val (.int (1 : Int32)), .val .null, .val (.int (0 : Int32)), .val (.ref el), .val .null] [.null, .null, (.ref el), (.int (0 : Int32)), .null, (.int (1 : Int32)), (.ref a1)]))) (fun t k => XS.aconstNull X0.here hx rfl (hb hby d3_8) k) ?_
  obtain ⟨_, _, ⟨T1, L1, k1, n1⟩, -, X1, ⟨Lc1, hQ1, l1, y1, z1⟩, st1⟩ := X0.specialBack hx (y := (⟨"com/example/echo_panel/echopanel/channel/ChannelState", "<init>", "(ZLcom/example/echo_panel/echopanel/channel/Severity;ILjava/util/List;Ljava/lang/Object;Lcom/example/echo_panel/echopanel/channel/DisplayLimits;)V"⟩ : MethodName)) rfl hown (mvT hZ (Wd19 hw)) (mvT hZ (Wd20 hw)) (mvT hZ (Wd21 hw)) (by decide) (backOf (W := 0) (rmC6_00 l Z a0 hw [] a1 el h0 n0 Z0 E1 F0 F1 F2 F3 F4 F5 g1 X00 ea kE Se Ee Fa Fel Ae) hZ (Wd21 hw) (Wd3 hw) (by decide) (by decide)) (g := (mkF m 9 #[.val (.ref a1), .val (.int (1 : Int32)), .val .null, .val (.int (0 : Int32)), .val (.ref el), .val .null] [.null, .null, (.ref el), (.int (0 : Int32)), .null, (.int (1 : Int32)), (.ref a1)])) rfl (by rw [hml]; rfl) (Steps.refl _) (a := a1) (argsL := [(.int (1 : Int32)), .null, (.int (0 : Int32)), (.ref el), .null, .null]) (rest := []) (lenOf pd4 rfl) rfl (by show 2 * 0 + _ ≤ _; exact Nat.le_of_eq rfl) (hb hby d3_9) (fun _ _ => ⟨rfl, e0, (Nat.le_of_ble_eq_true rfl), (Nat.le_of_ble_eq_true rfl)⟩)
  dsimp only [Pt.U, Pt.locs, Pt.cells, Pt.slots] at X1 l1 y1 z1 st1 hQ1
  subst l1 y1 z1
  obtain ⟨rfl, Nq1, K1, G0_1, G1_1, G2_1, G3_1, G4_1, G5_1⟩ := hQ1
  have N1 := Fr.app N0 Nq1
  refine OD.via (B := (T1.setTop (mkF m 12 #[.val (.ref a1), .val (.int (1 : Int32)), .val .null, .val (.int (0 : Int32)), .val (.ref el), .val .null] []))) st1 ?_
  exact OD.retV X1 hx hlk Bd.returns (hb hby d3_12) (Nat.le_of_ble_eq_true rfl) (Nat.le_of_ble_eq_true rfl) ⟨rfl, N1, by exact ((Keep.refl h0 [a1]).trans K1 (allS (Or.inl (List.mem_of_getElem? (i := 0) rfl)) all0)), by exact G0_1, by exact G1_1, by exact G2_1, by exact G3_1, by exact G4_1, by exact G5_1⟩
def Q_rmC6_01 (Z : State) (a1 : Addr) (el : Addr) (vv : Addr) (h0 : Heap) (n0 : Nat) (v : Option Value) (h : Heap) (L : List Loc) : Prop := v = none ∧ Fr n0 L ∧ Keep h0 h [a1] ∧ Fld Z h a1 "com/example/echo_panel/echopanel/channel/ChannelState" "connected" "Z" (.int (1 : Int32)) ∧ Fld Z h a1 "com/example/echo_panel/echopanel/channel/ChannelState" "severity" "Lcom/example/echo_panel/echopanel/channel/Severity;" .null ∧ Fld Z h a1 "com/example/echo_panel/echopanel/channel/ChannelState" "precision" "I" (.int (0 : Int32)) ∧ Fld Z h a1 "com/example/echo_panel/echopanel/channel/ChannelState" "labels" "Ljava/util/List;" (.ref el) ∧ Fld Z h a1 "com/example/echo_panel/echopanel/channel/ChannelState" "value" "Ljava/lang/Object;" (.ref vv) ∧ Fld Z h a1 "com/example/echo_panel/echopanel/channel/ChannelState" "limits" "Lcom/example/echo_panel/echopanel/channel/DisplayLimits;" .null
set_option maxRecDepth 65536 in
set_option maxHeartbeats 40000000 in
theorem rmC6_01 (l : Launch) (Z : State) (a0 : Array Value) (hw : ∀ d ∈ tables_1, d.before a0 Z = true) (ws : List Jvm.Cond) (a1 : Addr) (el : Addr) (vv : Addr) (h0 : Heap) (n0 : Nat) (Z0 : n0 ≤ h0.size) (E1 : Exa Z h0 a1 "com/example/echo_panel/echopanel/channel/ChannelState") (F0 : Fld Z h0 a1 "com/example/echo_panel/echopanel/channel/ChannelState" "connected" "Z" (.int (0 : Int32))) (F1 : Fld Z h0 a1 "com/example/echo_panel/echopanel/channel/ChannelState" "severity" "Lcom/example/echo_panel/echopanel/channel/Severity;" .null) (F2 : Fld Z h0 a1 "com/example/echo_panel/echopanel/channel/ChannelState" "precision" "I" (.int (0 : Int32))) (F3 : Fld Z h0 a1 "com/example/echo_panel/echopanel/channel/ChannelState" "labels" "Ljava/util/List;" .null) (F4 : Fld Z h0 a1 "com/example/echo_panel/echopanel/channel/ChannelState" "value" "Ljava/lang/Object;" .null) (F5 : Fld Z h0 a1 "com/example/echo_panel/echopanel/channel/ChannelState" "limits" "Lcom/example/echo_panel/echopanel/channel/DisplayLimits;" .null) (g1 : n0 ≤ a1) (X00 : Old Z n0 h0) (ea : Addr) (kE : ClassId) (Se : Sta Z Z.heap "java/util/ImmutableCollections" "EMPTY_LIST" "Ljava/util/ImmutableCollections$ListN;" (.ref el)) (Ee : Exa Z Z.heap el "java/util/ImmutableCollections$ListN") (Fa : Fld Z Z.heap el "java/util/ImmutableCollections$ListN" "allowNulls" "Z" (.int (0 : Int32))) (Fel : Fld Z Z.heap el "java/util/ImmutableCollections$ListN" "elements" "[Ljava/lang/Object;" (.ref ea)) (Ae : Arv Z Z.heap ea kE (.object "java/lang/Object") (0 : Int32) [] .null) :
    MetFree l (⟨"com/example/echo_panel/echopanel/channel/ChannelState", "<init>", "(ZLcom/example/echo_panel/echopanel/channel/Severity;ILjava/util/List;Ljava/lang/Object;Lcom/example/echo_panel/echopanel/channel/DisplayLimits;)V"⟩ : MethodName) (head1 (Jvm.Cond.code (⟨"com/example/echo_panel/echopanel/channel/ChannelState", "<init>", "(ZLcom/example/echo_panel/echopanel/channel/Severity;ILjava/util/List;Ljava/lang/Object;Lcom/example/echo_panel/echopanel/channel/DisplayLimits;)V"⟩ : MethodName) prog_15_method_1_code 7 none :: ws) ({ frames := 2, cells := 0, slots := 0, locals := 25 } : Room)) (fun a U => a = #[(.ref a1), (.int (1 : Int32)), .null, (.int (0 : Int32)), (.ref el), (.ref vv), .null] ∧ Z.Warmed39 U.vm ∧ U.heap = h0) (fun _ _ _ _ _ => True) (fun _ U o U' => ∃ v L, o = .returned v ∧ Q_rmC6_01 Z a1 el vv h0 n0 v U'.heap L ∧ FrameEnd U o U' L ({ frames := 2, cells := 0, slots := 0, locals := 25 } : Room).cells ({ frames := 2, cells := 0, slots := 0, locals := 25 } : Room).slots) := by
  refine MetFree.of_bodySF (plainFor_of_name pn7) hisR ?_
  intro p e s m args below meth c s₁ Bd hml0 hP hK
  obtain ⟨rfl, hZ, hh⟩ := hP
  have hx := Bd.exec
  have hby := Bd.bytes
  have hlk : meth.locks = false := Bd.notSynchronized
  have hml : c.maxLocals = 7 := hml0
  have hown : s.vm.findClass "com/example/echo_panel/echopanel/channel/ChannelState" = some m.cls := findClass_of_methodNamed Bd.named
  have hnm := (name_of_methodNamed Bd.named Bd.method).1
  have X0 : Stand p l e ({ frames := 2, cells := 0, slots := 0, locals := 25 } : Room) s m #[(.ref a1), (.int (1 : Int32)), .null, (.int (0 : Int32)), (.ref el), (.ref vv), .null] below meth c s₁ [] 0 0 := Stand.of_body Bd
  have e0 : s₁.heap = h0 := by rw [← hh, Bd.state]; rfl
  have N0 := Fr.nil n0
  suffices hgo : OD p e s below (Q_rmC6_01 Z a1 el vv h0 n0) ({ frames := 2, cells := 0, slots := 0, locals := 25 } : Room).cells ({ frames := 2, cells := 0, slots := 0, locals := 25 } : Room).slots (s₁.setTop (mkF m 0 #[.val (.ref a1), .val (.int (1 : Int32)), .val .null, .val (.int (0 : Int32)), .val (.ref el), .val (.ref vv), .val .null] [])) by
    obtain ⟨s₂, o, hgo1, hgo2⟩ := hgo
    exact ⟨s₂, o, castTop (ef9 m a1 (1 : Int32) (0 : Int32) el vv) hgo1, hgo2⟩
  refine OD.go (B := (s₁.setTop (mkF m 1 #[.val (.ref a1), .val (.int (1 : Int32)), .val .null, .val (.int (0 : Int32)), .val (.ref el), .val (.ref vv), .val .null] [(.ref a1)]))) (fun t k => XS.aloadN X0.here hx rfl (hb hby d4_0) rfl rfl k) ?_
  obtain ⟨_, _, ⟨T1, L1, k1, n1⟩, -, X1, ⟨Lc1, hQ1, l1, y1, z1⟩, st1⟩ := X0.specialBack hx (y := (⟨"java/lang/Record", "<init>", "()V"⟩ : MethodName)) rfl hown (mvT hZ (Wd22 hw)) (mvT hZ (Wd23 hw)) (mvT hZ (Wd26 hw)) (by decide) (backOf (W := 0) (rmR l Z a0 hw [] a1 h0) hZ (Wd26 hw) (Wd25 hw) (by decide) (by decide)) (g := (mkF m 1 #[.val (.ref a1), .val (.int (1 : Int32)), .val .null, .val (.int (0 : Int32)), .val (.ref el), .val (.ref vv), .val .null] [(.ref a1)])) rfl (by rw [hml]; rfl) (Steps.refl _) (a := a1) (argsL := []) (rest := []) (lenOf pd0 rfl) rfl (by show 2 * 0 + _ ≤ _; exact Nat.le_of_eq rfl) (hb hby d4_1) (fun _ _ => ⟨rfl, e0, (Nat.le_of_ble_eq_true rfl), (Nat.le_of_ble_eq_true rfl)⟩)
  dsimp only [Pt.U, Pt.locs, Pt.cells, Pt.slots] at X1 l1 y1 z1 st1 hQ1
  subst l1 y1 z1
  obtain ⟨rfl, rfl, e1⟩ := hQ1
  have N1 := Fr.app N0 (Fr.nil _)
  refine OD.via (B := (T1.setTop (mkF m 4 #[.val (.ref a1), .val (.int (1 : Int32)), .val .null, .val (.int (0 : Int32)), .val (.ref el), .val (.ref vv), .val .null] []))) st1 ?_
  refine OD.go (B := (T1.setTop (mkF m 6 #[.val (.ref a1), .val (.int (1 : Int32)), .val .null, .val (.int (0 : Int32)), .val (.ref el), .val (.ref vv), .val .null] [(.ref el)]))) (fun t k => XS.aload X1.here hx rfl (hb hby d4_4) rfl rfl k) ?_
  obtain ⟨_, _, ⟨T2, L2, k2, n2⟩, -, X2, ⟨Lc2, hQ2, l2, y2, z2⟩, st2⟩ := Jvm.LawKit.callS X1 hx (y := (⟨"java/util/List", "copyOf", "(Ljava/util/Collection;)Ljava/util/List;"⟩ : MethodName)) hown (mvT hZ (Wd30 hw)) (mvT hZ (Wd31 hw)) (mvT hZ (Wd12 hw)) (mvT hZ (Wd32 hw)) (by decide) (backOf (W := 0) (rmCO l Z a0 hw [] el h0 n0 X00 ea kE Se Ee Fa Fel Ae) hZ (Wd32 hw) (Wd12 hw) (by decide) (by decide)) (g := (mkF m 6 #[.val (.ref a1), .val (.int (1 : Int32)), .val .null, .val (.int (0 : Int32)), .val (.ref el), .val (.ref vv), .val .null] [(.ref el)])) rfl (by rw [hml]; rfl) (argsL := [(.ref el)]) (rest := []) (lenOf pd3 rfl) rfl (by show 2 * 0 + _ ≤ _; exact Nat.le_of_eq rfl) (hb hby d4_6) (fun _ _ => ⟨rfl, e1, (Nat.le_of_ble_eq_true rfl), (Nat.le_of_ble_eq_true rfl)⟩)
  dsimp only [Pt.U, Pt.locs, Pt.cells, Pt.slots] at X2 l2 y2 z2 st2 hQ2
  subst l2 y2 z2
  obtain ⟨rfl, rfl, e2⟩ := hQ2
  have N2 := Fr.app N1 (Fr.nil _)
  refine OD.go (B := (T2.setTop (mkF m 9 #[.val (.ref a1), .val (.int (1 : Int32)), .val .null, .val (.int (0 : Int32)), .val (.ref el), .val (.ref vv), .val .null] [(.ref el)]))) st2 ?_
  refine OD.go (B := (T2.setTop (mkF m 11 #[.val (.ref a1), .val (.int (1 : Int32)), .val .null, .val (.int (0 : Int32)), .val (.ref el), .val (.ref vv), .val .null] []))) (fun t k => XS.astore X2.here hx rfl (hb hby d4_9) rfl rfl (l' := #[.val (.ref a1), .val (.int (1 : Int32)), .val .null, .val (.int (0 : Int32)), .val (.ref el), .val (.ref vv), .val .null]) rfl k) ?_
  refine OD.go (B := (T2.setTop (mkF m 12 #[.val (.ref a1), .val (.int (1 : Int32)), .val .null, .val (.int (0 : Int32)), .val (.ref el), .val (.ref vv), .val .null] [(.ref a1)]))) (fun t k => XS.aloadN X2.here hx rfl (hb hby d4_11) rfl rfl k) ?_
  refine OD.go (B := (T2.setTop (mkF m 13 #[.val (.ref a1), .val (.int (1 : Int32)), .val .null, .val (.int (0 : Int32)), .val (.ref el), .val (.ref vv), .val .null] [(.int (1 : Int32)), (.ref a1)]))) (fun t k => XS.iloadN X2.here hx rfl (hb hby d4_12) rfl k) ?_
  obtain ⟨T3, h3, X3, e3, W3, st3⟩ := putFN X2 hx hZ hown (Wd48 hw) Via.refl e2 F0 E1 (Or.inr ⟨(Wd49 hw), rfl, hnm⟩) (Wd6 hw) (ty := .boolean) (v' := (.int (1 : Int32))) (by decide) rfl (by decide) (g := (mkF m 13 #[.val (.ref a1), .val (.int (1 : Int32)), .val .null, .val (.int (0 : Int32)), .val (.ref el), .val (.ref vv), .val .null] [(.int (1 : Int32)), (.ref a1)])) rfl rfl (hb hby d4_13)
  have Fx3 := F0.same W3
  have N3 := Fr.snoc X3 N2 g1
  refine OD.go (B := (T3.setTop (mkF m 16 #[.val (.ref a1), .val (.int (1 : Int32)), .val .null, .val (.int (0 : Int32)), .val (.ref el), .val (.ref vv), .val .null] []))) st3 ?_
  refine OD.go (B := (T3.setTop (mkF m 17 #[.val (.ref a1), .val (.int (1 : Int32)), .val .null, .val (.int (0 : Int32)), .val (.ref el), .val (.ref vv), .val .null] [(.ref a1)]))) (fun t k => XS.aloadN X3.here hx rfl (hb hby d4_16) rfl rfl k) ?_
  refine OD.go (B := (T3.setTop (mkF m 18 #[.val (.ref a1), .val (.int (1 : Int32)), .val .null, .val (.int (0 : Int32)), .val (.ref el), .val (.ref vv), .val .null] [.null, (.ref a1)]))) (fun t k => XS.aloadN X3.here hx rfl (hb hby d4_17) rfl rfl k) ?_
  have f4 := (F1.other W3 (Or.inr (slot_ne (Or.inr (Wd51 hw)) (Or.inr (Wd49 hw)) (by decide) (t := (.object "com/example/echo_panel/echopanel/channel/Severity")) (t' := .boolean) (by decide) (by decide))))
  have f5 := (E1.wr W3)
  obtain ⟨T6, h6, X6, e6, W6, st6⟩ := putF X3 hx hZ hown (host := "") (Or.inl (Wd50 hw)) Via.refl e3 f4 f5 (Or.inr ⟨(Wd51 hw), rfl, hnm⟩) (Wd6 hw) (ty := (.object "com/example/echo_panel/echopanel/channel/Severity")) (by decide) rfl rfl (g := (mkF m 18 #[.val (.ref a1), .val (.int (1 : Int32)), .val .null, .val (.int (0 : Int32)), .val (.ref el), .val (.ref vv), .val .null] [.null, (.ref a1)])) rfl rfl (hb hby d4_18)
  have Fx6 := f4.same W6
  have N6 := Fr.snoc X6 N3 g1
  refine OD.go (B := (T6.setTop (mkF m 21 #[.val (.ref a1), .val (.int (1 : Int32)), .val .null, .val (.int (0 : Int32)), .val (.ref el), .val (.ref vv), .val .null] []))) st6 ?_
  refine OD.go (B := (T6.setTop (mkF m 22 #[.val (.ref a1), .val (.int (1 : Int32)), .val .null, .val (.int (0 : Int32)), .val (.ref el), .val (.ref vv), .val .null] [(.ref a1)]))) (fun t k => XS.aloadN X6.here hx rfl (hb hby d4_21) rfl rfl k) ?_
  refine OD.go (B := (T6.setTop (mkF m 23 #[.val (.ref a1), .val (.int (1 : Int32)), .val .null, .val (.int (0 : Int32)), .val (.ref el), .val (.ref vv), .val .null] [(.int (0 : Int32)), (.ref a1)]))) (fun t k => XS.iloadN X6.here hx rfl (hb hby d4_22) rfl k) ?_
  have f7 := ((F2.other W3 (Or.inr (slot_ne (Or.inr (Wd53 hw)) (Or.inr (Wd49 hw)) (by decide) (t := .int) (t' := .boolean) (by decide) (by decide)))).other W6 (Or.inr (slot_ne (Or.inr (Wd53 hw)) (Or.inr (Wd51 hw)) (by decide) (t := .int) (t' := (.object "com/example/echo_panel/echopanel/channel/Severity")) (by decide) (by decide))))
  have f8 := (f5.wr W6)
  obtain ⟨T9, h9, X9, e9, W9, st9⟩ := putF X6 hx hZ hown (host := "") (Or.inl (Wd52 hw)) Via.refl e6 f7 f8 (Or.inr ⟨(Wd53 hw), rfl, hnm⟩) (Wd6 hw) (ty := .int) (by decide) rfl rfl (g := (mkF m 23 #[.val (.ref a1), .val (.int (1 : Int32)), .val .null, .val (.int (0 : Int32)), .val (.ref el), .val (.ref vv), .val .null] [(.int (0 : Int32)), (.ref a1)])) rfl rfl (hb hby d4_23)
  have Fx9 := f7.same W9
  have N9 := Fr.snoc X9 N6 g1
  refine OD.go (B := (T9.setTop (mkF m 26 #[.val (.ref a1), .val (.int (1 : Int32)), .val .null, .val (.int (0 : Int32)), .val (.ref el), .val (.ref vv), .val .null] []))) st9 ?_
  refine OD.go (B := (T9.setTop (mkF m 27 #[.val (.ref a1), .val (.int (1 : Int32)), .val .null, .val (.int (0 : Int32)), .val (.ref el), .val (.ref vv), .val .null] [(.ref a1)]))) (fun t k => XS.aloadN X9.here hx rfl (hb hby d4_26) rfl rfl k) ?_
  refine OD.go (B := (T9.setTop (mkF m 29 #[.val (.ref a1), .val (.int (1 : Int32)), .val .null, .val (.int (0 : Int32)), .val (.ref el), .val (.ref vv), .val .null] [(.ref el), (.ref a1)]))) (fun t k => XS.aload X9.here hx rfl (hb hby d4_27) rfl rfl k) ?_
  have f10 := (((F3.other W3 (Or.inr (slot_ne (Or.inr (Wd55 hw)) (Or.inr (Wd49 hw)) (by decide) (t := (.object "java/util/List")) (t' := .boolean) (by decide) (by decide)))).other W6 (Or.inr (slot_ne (Or.inr (Wd55 hw)) (Or.inr (Wd51 hw)) (by decide) (t := (.object "java/util/List")) (t' := (.object "com/example/echo_panel/echopanel/channel/Severity")) (by decide) (by decide)))).other W9 (Or.inr (slot_ne (Or.inr (Wd55 hw)) (Or.inr (Wd53 hw)) (by decide) (t := (.object "java/util/List")) (t' := .int) (by decide) (by decide))))
  have f11 := (f8.wr W9)
  obtain ⟨T12, h12, X12, e12, W12, st12⟩ := putF X9 hx hZ hown (host := "") (Or.inl (Wd54 hw)) Via.refl e9 f10 f11 (Or.inr ⟨(Wd55 hw), rfl, hnm⟩) (Wd6 hw) (ty := (.object "java/util/List")) (by decide) rfl rfl (g := (mkF m 29 #[.val (.ref a1), .val (.int (1 : Int32)), .val .null, .val (.int (0 : Int32)), .val (.ref el), .val (.ref vv), .val .null] [(.ref el), (.ref a1)])) rfl rfl (hb hby d4_29)
  have Fx12 := f10.same W12
  have N12 := Fr.snoc X12 N9 g1
  refine OD.go (B := (T12.setTop (mkF m 32 #[.val (.ref a1), .val (.int (1 : Int32)), .val .null, .val (.int (0 : Int32)), .val (.ref el), .val (.ref vv), .val .null] []))) st12 ?_
  refine OD.go (B := (T12.setTop (mkF m 33 #[.val (.ref a1), .val (.int (1 : Int32)), .val .null, .val (.int (0 : Int32)), .val (.ref el), .val (.ref vv), .val .null] [(.ref a1)]))) (fun t k => XS.aloadN X12.here hx rfl (hb hby d4_32) rfl rfl k) ?_
  refine OD.go (B := (T12.setTop (mkF m 35 #[.val (.ref a1), .val (.int (1 : Int32)), .val .null, .val (.int (0 : Int32)), .val (.ref el), .val (.ref vv), .val .null] [(.ref vv), (.ref a1)]))) (fun t k => XS.aload X12.here hx rfl (hb hby d4_33) rfl rfl k) ?_
  have f13 := ((((F4.other W3 (Or.inr (slot_ne (Or.inr (Wd57 hw)) (Or.inr (Wd49 hw)) (by decide) (t := (.object "java/lang/Object")) (t' := .boolean) (by decide) (by decide)))).other W6 (Or.inr (slot_ne (Or.inr (Wd57 hw)) (Or.inr (Wd51 hw)) (by decide) (t := (.object "java/lang/Object")) (t' := (.object "com/example/echo_panel/echopanel/channel/Severity")) (by decide) (by decide)))).other W9 (Or.inr (slot_ne (Or.inr (Wd57 hw)) (Or.inr (Wd53 hw)) (by decide) (t := (.object "java/lang/Object")) (t' := .int) (by decide) (by decide)))).other W12 (Or.inr (slot_ne (Or.inr (Wd57 hw)) (Or.inr (Wd55 hw)) (by decide) (t := (.object "java/lang/Object")) (t' := (.object "java/util/List")) (by decide) (by decide))))
  have f14 := (f11.wr W12)
  obtain ⟨T15, h15, X15, e15, W15, st15⟩ := putF X12 hx hZ hown (host := "") (Or.inl (Wd56 hw)) Via.refl e12 f13 f14 (Or.inr ⟨(Wd57 hw), rfl, hnm⟩) (Wd6 hw) (ty := (.object "java/lang/Object")) (by decide) rfl rfl (g := (mkF m 35 #[.val (.ref a1), .val (.int (1 : Int32)), .val .null, .val (.int (0 : Int32)), .val (.ref el), .val (.ref vv), .val .null] [(.ref vv), (.ref a1)])) rfl rfl (hb hby d4_35)
  have Fx15 := f13.same W15
  have N15 := Fr.snoc X15 N12 g1
  refine OD.go (B := (T15.setTop (mkF m 38 #[.val (.ref a1), .val (.int (1 : Int32)), .val .null, .val (.int (0 : Int32)), .val (.ref el), .val (.ref vv), .val .null] []))) st15 ?_
  refine OD.go (B := (T15.setTop (mkF m 39 #[.val (.ref a1), .val (.int (1 : Int32)), .val .null, .val (.int (0 : Int32)), .val (.ref el), .val (.ref vv), .val .null] [(.ref a1)]))) (fun t k => XS.aloadN X15.here hx rfl (hb hby d4_38) rfl rfl k) ?_
  refine OD.go (B := (T15.setTop (mkF m 41 #[.val (.ref a1), .val (.int (1 : Int32)), .val .null, .val (.int (0 : Int32)), .val (.ref el), .val (.ref vv), .val .null] [.null, (.ref a1)]))) (fun t k => XS.aload X15.here hx rfl (hb hby d4_39) rfl rfl k) ?_
  have f16 := (((((F5.other W3 (Or.inr (slot_ne (Or.inr (Wd59 hw)) (Or.inr (Wd49 hw)) (by decide) (t := (.object "com/example/echo_panel/echopanel/channel/DisplayLimits")) (t' := .boolean) (by decide) (by decide)))).other W6 (Or.inr (slot_ne (Or.inr (Wd59 hw)) (Or.inr (Wd51 hw)) (by decide) (t := (.object "com/example/echo_panel/echopanel/channel/DisplayLimits")) (t' := (.object "com/example/echo_panel/echopanel/channel/Severity")) (by decide) (by decide)))).other W9 (Or.inr (slot_ne (Or.inr (Wd59 hw)) (Or.inr (Wd53 hw)) (by decide) (t := (.object "com/example/echo_panel/echopanel/channel/DisplayLimits")) (t' := .int) (by decide) (by decide)))).other W12 (Or.inr (slot_ne (Or.inr (Wd59 hw)) (Or.inr (Wd55 hw)) (by decide) (t := (.object "com/example/echo_panel/echopanel/channel/DisplayLimits")) (t' := (.object "java/util/List")) (by decide) (by decide)))).other W15 (Or.inr (slot_ne (Or.inr (Wd59 hw)) (Or.inr (Wd57 hw)) (by decide) (t := (.object "com/example/echo_panel/echopanel/channel/DisplayLimits")) (t' := (.object "java/lang/Object")) (by decide) (by decide))))
  have f17 := (f14.wr W15)
  obtain ⟨T18, h18, X18, e18, W18, st18⟩ := putF X15 hx hZ hown (host := "") (Or.inl (Wd58 hw)) Via.refl e15 f16 f17 (Or.inr ⟨(Wd59 hw), rfl, hnm⟩) (Wd6 hw) (ty := (.object "com/example/echo_panel/echopanel/channel/DisplayLimits")) (by decide) rfl rfl (g := (mkF m 41 #[.val (.ref a1), .val (.int (1 : Int32)), .val .null, .val (.int (0 : Int32)), .val (.ref el), .val (.ref vv), .val .null] [.null, (.ref a1)])) rfl rfl (hb hby d4_41)
  have Fx18 := f16.same W18
  have N18 := Fr.snoc X18 N15 g1
  refine OD.go (B := (T18.setTop (mkF m 44 #[.val (.ref a1), .val (.int (1 : Int32)), .val .null, .val (.int (0 : Int32)), .val (.ref el), .val (.ref vv), .val .null] []))) st18 ?_
  exact OD.retV X18 hx hlk Bd.returns (hb hby d4_44) (Nat.le_of_ble_eq_true rfl) (Nat.le_of_ble_eq_true rfl) ⟨rfl, N18, by rw [e18]; exact (((((((Keep.refl h0 [a1]).wr W3 (Or.inl (List.mem_of_getElem? (i := 0) rfl))).wr W6 (Or.inl (List.mem_of_getElem? (i := 0) rfl))).wr W9 (Or.inl (List.mem_of_getElem? (i := 0) rfl))).wr W12 (Or.inl (List.mem_of_getElem? (i := 0) rfl))).wr W15 (Or.inl (List.mem_of_getElem? (i := 0) rfl))).wr W18 (Or.inl (List.mem_of_getElem? (i := 0) rfl))), by rw [e18]; exact (((((Fx3.other W6 (Or.inr (slot_ne (Or.inr (Wd49 hw)) (Or.inr (Wd51 hw)) (by decide) (t := .boolean) (t' := (.object "com/example/echo_panel/echopanel/channel/Severity")) (by decide) (by decide)))).other W9 (Or.inr (slot_ne (Or.inr (Wd49 hw)) (Or.inr (Wd53 hw)) (by decide) (t := .boolean) (t' := .int) (by decide) (by decide)))).other W12 (Or.inr (slot_ne (Or.inr (Wd49 hw)) (Or.inr (Wd55 hw)) (by decide) (t := .boolean) (t' := (.object "java/util/List")) (by decide) (by decide)))).other W15 (Or.inr (slot_ne (Or.inr (Wd49 hw)) (Or.inr (Wd57 hw)) (by decide) (t := .boolean) (t' := (.object "java/lang/Object")) (by decide) (by decide)))).other W18 (Or.inr (slot_ne (Or.inr (Wd49 hw)) (Or.inr (Wd59 hw)) (by decide) (t := .boolean) (t' := (.object "com/example/echo_panel/echopanel/channel/DisplayLimits")) (by decide) (by decide)))), by rw [e18]; exact ((((Fx6.other W9 (Or.inr (slot_ne (Or.inr (Wd51 hw)) (Or.inr (Wd53 hw)) (by decide) (t := (.object "com/example/echo_panel/echopanel/channel/Severity")) (t' := .int) (by decide) (by decide)))).other W12 (Or.inr (slot_ne (Or.inr (Wd51 hw)) (Or.inr (Wd55 hw)) (by decide) (t := (.object "com/example/echo_panel/echopanel/channel/Severity")) (t' := (.object "java/util/List")) (by decide) (by decide)))).other W15 (Or.inr (slot_ne (Or.inr (Wd51 hw)) (Or.inr (Wd57 hw)) (by decide) (t := (.object "com/example/echo_panel/echopanel/channel/Severity")) (t' := (.object "java/lang/Object")) (by decide) (by decide)))).other W18 (Or.inr (slot_ne (Or.inr (Wd51 hw)) (Or.inr (Wd59 hw)) (by decide) (t := (.object "com/example/echo_panel/echopanel/channel/Severity")) (t' := (.object "com/example/echo_panel/echopanel/channel/DisplayLimits")) (by decide) (by decide)))), by rw [e18]; exact (((Fx9.other W12 (Or.inr (slot_ne (Or.inr (Wd53 hw)) (Or.inr (Wd55 hw)) (by decide) (t := .int) (t' := (.object "java/util/List")) (by decide) (by decide)))).other W15 (Or.inr (slot_ne (Or.inr (Wd53 hw)) (Or.inr (Wd57 hw)) (by decide) (t := .int) (t' := (.object "java/lang/Object")) (by decide) (by decide)))).other W18 (Or.inr (slot_ne (Or.inr (Wd53 hw)) (Or.inr (Wd59 hw)) (by decide) (t := .int) (t' := (.object "com/example/echo_panel/echopanel/channel/DisplayLimits")) (by decide) (by decide)))), by rw [e18]; exact ((Fx12.other W15 (Or.inr (slot_ne (Or.inr (Wd55 hw)) (Or.inr (Wd57 hw)) (by decide) (t := (.object "java/util/List")) (t' := (.object "java/lang/Object")) (by decide) (by decide)))).other W18 (Or.inr (slot_ne (Or.inr (Wd55 hw)) (Or.inr (Wd59 hw)) (by decide) (t := (.object "java/util/List")) (t' := (.object "com/example/echo_panel/echopanel/channel/DisplayLimits")) (by decide) (by decide)))), by rw [e18]; exact (Fx15.other W18 (Or.inr (slot_ne (Or.inr (Wd57 hw)) (Or.inr (Wd59 hw)) (by decide) (t := (.object "java/lang/Object")) (t' := (.object "com/example/echo_panel/echopanel/channel/DisplayLimits")) (by decide) (by decide)))), by rw [e18]; exact Fx18⟩
def Q_rmC5_01 (Z : State) (a1 : Addr) (el : Addr) (vv : Addr) (h0 : Heap) (n0 : Nat) (v : Option Value) (h : Heap) (L : List Loc) : Prop := v = none ∧ Fr n0 L ∧ Keep h0 h [a1] ∧ Fld Z h a1 "com/example/echo_panel/echopanel/channel/ChannelState" "connected" "Z" (.int (1 : Int32)) ∧ Fld Z h a1 "com/example/echo_panel/echopanel/channel/ChannelState" "severity" "Lcom/example/echo_panel/echopanel/channel/Severity;" .null ∧ Fld Z h a1 "com/example/echo_panel/echopanel/channel/ChannelState" "precision" "I" (.int (0 : Int32)) ∧ Fld Z h a1 "com/example/echo_panel/echopanel/channel/ChannelState" "labels" "Ljava/util/List;" (.ref el) ∧ Fld Z h a1 "com/example/echo_panel/echopanel/channel/ChannelState" "value" "Ljava/lang/Object;" (.ref vv) ∧ Fld Z h a1 "com/example/echo_panel/echopanel/channel/ChannelState" "limits" "Lcom/example/echo_panel/echopanel/channel/DisplayLimits;" .null
set_option maxRecDepth 65536 in
set_option maxHeartbeats 40000000 in
theorem rmC5_01 (l : Launch) (Z : State) (a0 : Array Value) (hw : ∀ d ∈ tables_1, d.before a0 Z = true) (ws : List Jvm.Cond) (a1 : Addr) (el : Addr) (vv : Addr) (h0 : Heap) (n0 : Nat) (Z0 : n0 ≤ h0.size) (E1 : Exa Z h0 a1 "com/example/echo_panel/echopanel/channel/ChannelState") (F0 : Fld Z h0 a1 "com/example/echo_panel/echopanel/channel/ChannelState" "connected" "Z" (.int (0 : Int32))) (F1 : Fld Z h0 a1 "com/example/echo_panel/echopanel/channel/ChannelState" "severity" "Lcom/example/echo_panel/echopanel/channel/Severity;" .null) (F2 : Fld Z h0 a1 "com/example/echo_panel/echopanel/channel/ChannelState" "precision" "I" (.int (0 : Int32))) (F3 : Fld Z h0 a1 "com/example/echo_panel/echopanel/channel/ChannelState" "labels" "Ljava/util/List;" .null) (F4 : Fld Z h0 a1 "com/example/echo_panel/echopanel/channel/ChannelState" "value" "Ljava/lang/Object;" .null) (F5 : Fld Z h0 a1 "com/example/echo_panel/echopanel/channel/ChannelState" "limits" "Lcom/example/echo_panel/echopanel/channel/DisplayLimits;" .null) (g1 : n0 ≤ a1) (X00 : Old Z n0 h0) (ea : Addr) (kE : ClassId) (Se : Sta Z Z.heap "java/util/ImmutableCollections" "EMPTY_LIST" "Ljava/util/ImmutableCollections$ListN;" (.ref el)) (Ee : Exa Z Z.heap el "java/util/ImmutableCollections$ListN") (Fa : Fld Z Z.heap el "java/util/ImmutableCollections$ListN" "allowNulls" "Z" (.int (0 : Int32))) (Fel : Fld Z Z.heap el "java/util/ImmutableCollections$ListN" "elements" "[Ljava/lang/Object;" (.ref ea)) (Ae : Arv Z Z.heap ea kE (.object "java/lang/Object") (0 : Int32) [] .null) :
    MetFree l (⟨"com/example/echo_panel/echopanel/channel/ChannelState", "<init>", "(ZLcom/example/echo_panel/echopanel/channel/Severity;ILjava/util/List;Ljava/lang/Object;)V"⟩ : MethodName) (head1 (Jvm.Cond.code (⟨"com/example/echo_panel/echopanel/channel/ChannelState", "<init>", "(ZLcom/example/echo_panel/echopanel/channel/Severity;ILjava/util/List;Ljava/lang/Object;)V"⟩ : MethodName) prog_15_method_2_code 6 none :: ws) ({ frames := 3, cells := 0, slots := 0, locals := 43 } : Room)) (fun a U => a = #[(.ref a1), (.int (1 : Int32)), .null, (.int (0 : Int32)), (.ref el), (.ref vv)] ∧ Z.Warmed39 U.vm ∧ U.heap = h0) (fun _ _ _ _ _ => True) (fun _ U o U' => ∃ v L, o = .returned v ∧ Q_rmC5_01 Z a1 el vv h0 n0 v U'.heap L ∧ FrameEnd U o U' L ({ frames := 3, cells := 0, slots := 0, locals := 43 } : Room).cells ({ frames := 3, cells := 0, slots := 0, locals := 43 } : Room).slots) := by
  refine MetFree.of_bodySF (plainFor_of_name pn7) hisR ?_
  intro p e s m args below meth c s₁ Bd hml0 hP hK
  obtain ⟨rfl, hZ, hh⟩ := hP
  have hx := Bd.exec
  have hby := Bd.bytes
  have hlk : meth.locks = false := Bd.notSynchronized
  have hml : c.maxLocals = 6 := hml0
  have hown : s.vm.findClass "com/example/echo_panel/echopanel/channel/ChannelState" = some m.cls := findClass_of_methodNamed Bd.named
  have hnm := (name_of_methodNamed Bd.named Bd.method).1
  have X0 : Stand p l e ({ frames := 3, cells := 0, slots := 0, locals := 43 } : Room) s m #[(.ref a1), (.int (1 : Int32)), .null, (.int (0 : Int32)), (.ref el), (.ref vv)] below meth c s₁ [] 0 0 := Stand.of_body Bd
  have e0 : s₁.heap = h0 := by rw [← hh, Bd.state]; rfl
  have N0 := Fr.nil n0
  suffices hgo : OD p e s below (Q_rmC5_01 Z a1 el vv h0 n0) ({ frames := 3, cells := 0, slots := 0, locals := 43 } : Room).cells ({ frames := 3, cells := 0, slots := 0, locals := 43 } : Room).slots (s₁.setTop (mkF m 0 #[.val (.ref a1), .val (.int (1 : Int32)), .val .null, .val (.int (0 : Int32)), .val (.ref el), .val (.ref vv)] [])) by
    obtain ⟨s₂, o, hgo1, hgo2⟩ := hgo
    exact ⟨s₂, o, castTop (ef10 m a1 (1 : Int32) (0 : Int32) el vv) hgo1, hgo2⟩
  refine OD.go (B := (s₁.setTop (mkF m 1 #[.val (.ref a1), .val (.int (1 : Int32)), .val .null, .val (.int (0 : Int32)), .val (.ref el), .val (.ref vv)] [(.ref a1)]))) (fun t k => XS.aloadN X0.here hx rfl (hb hby d3_0) rfl rfl k) ?_
  refine OD.go (B := (s₁.setTop (mkF m 2 #[.val (.ref a1), .val (.int (1 : Int32)), .val .null, .val (.int (0 : Int32)), .val (.ref el), .val (.ref vv)] [(.int (1 : Int32)), (.ref a1)]))) (fun t k => XS.iloadN X0.here hx rfl (hb hby d3_1) rfl k) ?_
  refine OD.go (B := (s₁.setTop (mkF m 3 #[.val (.ref a1), .val (.int (1 : Int32)), .val .null, .val (.int (0 : Int32)), .val (.ref el), .val (.ref vv)] [.null, (.int (1 : Int32)), (.ref a1)]))) (fun t k => XS.aloadN X0.here hx rfl (hb hby d3_2) rfl rfl k) ?_
  refine OD.go (B := (s₁.setTop (mkF m 4 #[.val (.ref a1), .val (.int (1 : Int32)), .val .null, .val (.int (0 : Int32)), .val (.ref el), .val (.ref vv)] [(.int (0 : Int32)), .null, (.int (1 : Int32)), (.ref a1)]))) (fun t k => XS.iloadN X0.here hx rfl (hb hby d3_3) rfl k) ?_
  refine OD.go (B := (s₁.setTop (mkF m 6 #[.val (.ref a1), .val (.int (1 : Int32)), .val .null, .val (.int (0 : Int32)), .val (.ref el), .val (.ref vv)] [(.ref el), (.int (0 : Int32)), .null, (.int (1 : Int32)), (.ref a1)]))) (fun t k => XS.aload X0.here hx rfl (hb hby d3_4) rfl rfl k) ?_
  refine OD.go (B := (s₁.setTop (mkF m 8 #[.val (.ref a1), .val (.int (1 : Int32)), .val .null, .val (.int (0 : Int32)), .val (.ref el), .val (.ref vv)] [(.ref vv), (.ref el), (.int (0 : Int32)), .null, (.int (1 : Int32)), (.ref a1)]))) (fun t k => XS.aload X0.here hx rfl (hb hby d3_6) rfl rfl k) ?_
  refine OD.go (B := (s₁.setTop (mkF m 9 #[.val (.ref a1), .val (.int (1 : Int32)), .val .null, .val (.int (0 : Int32)), .val (.ref el), .val (.ref vv)] [.null, (.ref vv), (.ref el), (.int (0 : Int32)), .null, (.int (1 : Int32)), (.ref a1)]))) (fun t k => XS.aconstNull X0.here hx rfl (hb hby d3_8) k) ?_
  obtain ⟨_, _, ⟨T1, L1, k1, n1⟩, -, X1, ⟨Lc1, hQ1, l1, y1, z1⟩, st1⟩ := X0.specialBack hx (y := (⟨"com/example/echo_panel/echopanel/channel/ChannelState", "<init>", "(ZLcom/example/echo_panel/echopanel/channel/Severity;ILjava/util/List;Ljava/lang/Object;Lcom/example/echo_panel/echopanel/channel/DisplayLimits;)V"⟩ : MethodName)) rfl hown (mvT hZ (Wd19 hw)) (mvT hZ (Wd20 hw)) (mvT hZ (Wd21 hw)) (by decide) (backOf (W := 0) (rmC6_01 l Z a0 hw [] a1 el vv h0 n0 Z0 E1 F0 F1 F2 F3 F4 F5 g1 X00 ea kE Se Ee Fa Fel Ae) hZ (Wd21 hw) (Wd3 hw) (by decide) (by decide)) (g := (mkF m 9 #[.val (.ref a1), .val (.int (1 : Int32)), .val .null, .val (.int (0 : Int32)), .val (.ref el), .val (.ref vv)] [.null, (.ref vv), (.ref el), (.int (0 : Int32)), .null, (.int (1 : Int32)), (.ref a1)])) rfl (by rw [hml]; rfl) (Steps.refl _) (a := a1) (argsL := [(.int (1 : Int32)), .null, (.int (0 : Int32)), (.ref el), (.ref vv), .null]) (rest := []) (lenOf pd4 rfl) rfl (by show 2 * 0 + _ ≤ _; exact Nat.le_of_eq rfl) (hb hby d3_9) (fun _ _ => ⟨rfl, e0, (Nat.le_of_ble_eq_true rfl), (Nat.le_of_ble_eq_true rfl)⟩)
  dsimp only [Pt.U, Pt.locs, Pt.cells, Pt.slots] at X1 l1 y1 z1 st1 hQ1
  subst l1 y1 z1
  obtain ⟨rfl, Nq1, K1, G0_1, G1_1, G2_1, G3_1, G4_1, G5_1⟩ := hQ1
  have N1 := Fr.app N0 Nq1
  refine OD.via (B := (T1.setTop (mkF m 12 #[.val (.ref a1), .val (.int (1 : Int32)), .val .null, .val (.int (0 : Int32)), .val (.ref el), .val (.ref vv)] []))) st1 ?_
  exact OD.retV X1 hx hlk Bd.returns (hb hby d3_12) (Nat.le_of_ble_eq_true rfl) (Nat.le_of_ble_eq_true rfl) ⟨rfl, N1, by exact ((Keep.refl h0 [a1]).trans K1 (allS (Or.inl (List.mem_of_getElem? (i := 0) rfl)) all0)), by exact G0_1, by exact G1_1, by exact G2_1, by exact G3_1, by exact G4_1, by exact G5_1⟩
def Q_rmC6_10 (Z : State) (a1 : Addr) (sv : Addr) (el : Addr) (h0 : Heap) (n0 : Nat) (v : Option Value) (h : Heap) (L : List Loc) : Prop := v = none ∧ Fr n0 L ∧ Keep h0 h [a1] ∧ Fld Z h a1 "com/example/echo_panel/echopanel/channel/ChannelState" "connected" "Z" (.int (1 : Int32)) ∧ Fld Z h a1 "com/example/echo_panel/echopanel/channel/ChannelState" "severity" "Lcom/example/echo_panel/echopanel/channel/Severity;" (.ref sv) ∧ Fld Z h a1 "com/example/echo_panel/echopanel/channel/ChannelState" "precision" "I" (.int (0 : Int32)) ∧ Fld Z h a1 "com/example/echo_panel/echopanel/channel/ChannelState" "labels" "Ljava/util/List;" (.ref el) ∧ Fld Z h a1 "com/example/echo_panel/echopanel/channel/ChannelState" "value" "Ljava/lang/Object;" .null ∧ Fld Z h a1 "com/example/echo_panel/echopanel/channel/ChannelState" "limits" "Lcom/example/echo_panel/echopanel/channel/DisplayLimits;" .null
set_option maxRecDepth 65536 in
set_option maxHeartbeats 40000000 in
theorem rmC6_10 (l : Launch) (Z : State) (a0 : Array Value) (hw : ∀ d ∈ tables_1, d.before a0 Z = true) (ws : List Jvm.Cond) (a1 : Addr) (sv : Addr) (el : Addr) (h0 : Heap) (n0 : Nat) (Z0 : n0 ≤ h0.size) (E1 : Exa Z h0 a1 "com/example/echo_panel/echopanel/channel/ChannelState") (F0 : Fld Z h0 a1 "com/example/echo_panel/echopanel/channel/ChannelState" "connected" "Z" (.int (0 : Int32))) (F1 : Fld Z h0 a1 "com/example/echo_panel/echopanel/channel/ChannelState" "severity" "Lcom/example/echo_panel/echopanel/channel/Severity;" .null) (F2 : Fld Z h0 a1 "com/example/echo_panel/echopanel/channel/ChannelState" "precision" "I" (.int (0 : Int32))) (F3 : Fld Z h0 a1 "com/example/echo_panel/echopanel/channel/ChannelState" "labels" "Ljava/util/List;" .null) (F4 : Fld Z h0 a1 "com/example/echo_panel/echopanel/channel/ChannelState" "value" "Ljava/lang/Object;" .null) (F5 : Fld Z h0 a1 "com/example/echo_panel/echopanel/channel/ChannelState" "limits" "Lcom/example/echo_panel/echopanel/channel/DisplayLimits;" .null) (g1 : n0 ≤ a1) (X00 : Old Z n0 h0) (ea : Addr) (kE : ClassId) (Se : Sta Z Z.heap "java/util/ImmutableCollections" "EMPTY_LIST" "Ljava/util/ImmutableCollections$ListN;" (.ref el)) (Ee : Exa Z Z.heap el "java/util/ImmutableCollections$ListN") (Fa : Fld Z Z.heap el "java/util/ImmutableCollections$ListN" "allowNulls" "Z" (.int (0 : Int32))) (Fel : Fld Z Z.heap el "java/util/ImmutableCollections$ListN" "elements" "[Ljava/lang/Object;" (.ref ea)) (Ae : Arv Z Z.heap ea kE (.object "java/lang/Object") (0 : Int32) [] .null) :
    MetFree l (⟨"com/example/echo_panel/echopanel/channel/ChannelState", "<init>", "(ZLcom/example/echo_panel/echopanel/channel/Severity;ILjava/util/List;Ljava/lang/Object;Lcom/example/echo_panel/echopanel/channel/DisplayLimits;)V"⟩ : MethodName) (head1 (Jvm.Cond.code (⟨"com/example/echo_panel/echopanel/channel/ChannelState", "<init>", "(ZLcom/example/echo_panel/echopanel/channel/Severity;ILjava/util/List;Ljava/lang/Object;Lcom/example/echo_panel/echopanel/channel/DisplayLimits;)V"⟩ : MethodName) prog_15_method_1_code 7 none :: ws) ({ frames := 2, cells := 0, slots := 0, locals := 25 } : Room)) (fun a U => a = #[(.ref a1), (.int (1 : Int32)), (.ref sv), (.int (0 : Int32)), (.ref el), .null, .null] ∧ Z.Warmed39 U.vm ∧ U.heap = h0) (fun _ _ _ _ _ => True) (fun _ U o U' => ∃ v L, o = .returned v ∧ Q_rmC6_10 Z a1 sv el h0 n0 v U'.heap L ∧ FrameEnd U o U' L ({ frames := 2, cells := 0, slots := 0, locals := 25 } : Room).cells ({ frames := 2, cells := 0, slots := 0, locals := 25 } : Room).slots) := by
  refine MetFree.of_bodySF (plainFor_of_name pn7) hisR ?_
  intro p e s m args below meth c s₁ Bd hml0 hP hK
  obtain ⟨rfl, hZ, hh⟩ := hP
  have hx := Bd.exec
  have hby := Bd.bytes
  have hlk : meth.locks = false := Bd.notSynchronized
  have hml : c.maxLocals = 7 := hml0
  have hown : s.vm.findClass "com/example/echo_panel/echopanel/channel/ChannelState" = some m.cls := findClass_of_methodNamed Bd.named
  have hnm := (name_of_methodNamed Bd.named Bd.method).1
  have X0 : Stand p l e ({ frames := 2, cells := 0, slots := 0, locals := 25 } : Room) s m #[(.ref a1), (.int (1 : Int32)), (.ref sv), (.int (0 : Int32)), (.ref el), .null, .null] below meth c s₁ [] 0 0 := Stand.of_body Bd
  have e0 : s₁.heap = h0 := by rw [← hh, Bd.state]; rfl
  have N0 := Fr.nil n0
  suffices hgo : OD p e s below (Q_rmC6_10 Z a1 sv el h0 n0) ({ frames := 2, cells := 0, slots := 0, locals := 25 } : Room).cells ({ frames := 2, cells := 0, slots := 0, locals := 25 } : Room).slots (s₁.setTop (mkF m 0 #[.val (.ref a1), .val (.int (1 : Int32)), .val (.ref sv), .val (.int (0 : Int32)), .val (.ref el), .val .null, .val .null] [])) by
    obtain ⟨s₂, o, hgo1, hgo2⟩ := hgo
    exact ⟨s₂, o, castTop (ef11 m a1 (1 : Int32) sv (0 : Int32) el) hgo1, hgo2⟩
  refine OD.go (B := (s₁.setTop (mkF m 1 #[.val (.ref a1), .val (.int (1 : Int32)), .val (.ref sv), .val (.int (0 : Int32)), .val (.ref el), .val .null, .val .null] [(.ref a1)]))) (fun t k => XS.aloadN X0.here hx rfl (hb hby d4_0) rfl rfl k) ?_
  obtain ⟨_, _, ⟨T1, L1, k1, n1⟩, -, X1, ⟨Lc1, hQ1, l1, y1, z1⟩, st1⟩ := X0.specialBack hx (y := (⟨"java/lang/Record", "<init>", "()V"⟩ : MethodName)) rfl hown (mvT hZ (Wd22 hw)) (mvT hZ (Wd23 hw)) (mvT hZ (Wd26 hw)) (by decide) (backOf (W := 0) (rmR l Z a0 hw [] a1 h0) hZ (Wd26 hw) (Wd25 hw) (by decide) (by decide)) (g := (mkF m 1 #[.val (.ref a1), .val (.int (1 : Int32)), .val (.ref sv), .val (.int (0 : Int32)), .val (.ref el), .val .null, .val .null] [(.ref a1)])) rfl (by rw [hml]; rfl) (Steps.refl _) (a := a1) (argsL := []) (rest := []) (lenOf pd0 rfl) rfl (by show 2 * 0 + _ ≤ _; exact Nat.le_of_eq rfl) (hb hby d4_1) (fun _ _ => ⟨rfl, e0, (Nat.le_of_ble_eq_true rfl), (Nat.le_of_ble_eq_true rfl)⟩)
  dsimp only [Pt.U, Pt.locs, Pt.cells, Pt.slots] at X1 l1 y1 z1 st1 hQ1
  subst l1 y1 z1
  obtain ⟨rfl, rfl, e1⟩ := hQ1
  have N1 := Fr.app N0 (Fr.nil _)
  refine OD.via (B := (T1.setTop (mkF m 4 #[.val (.ref a1), .val (.int (1 : Int32)), .val (.ref sv), .val (.int (0 : Int32)), .val (.ref el), .val .null, .val .null] []))) st1 ?_
  refine OD.go (B := (T1.setTop (mkF m 6 #[.val (.ref a1), .val (.int (1 : Int32)), .val (.ref sv), .val (.int (0 : Int32)), .val (.ref el), .val .null, .val .null] [(.ref el)]))) (fun t k => XS.aload X1.here hx rfl (hb hby d4_4) rfl rfl k) ?_
  obtain ⟨_, _, ⟨T2, L2, k2, n2⟩, -, X2, ⟨Lc2, hQ2, l2, y2, z2⟩, st2⟩ := Jvm.LawKit.callS X1 hx (y := (⟨"java/util/List", "copyOf", "(Ljava/util/Collection;)Ljava/util/List;"⟩ : MethodName)) hown (mvT hZ (Wd30 hw)) (mvT hZ (Wd31 hw)) (mvT hZ (Wd12 hw)) (mvT hZ (Wd32 hw)) (by decide) (backOf (W := 0) (rmCO l Z a0 hw [] el h0 n0 X00 ea kE Se Ee Fa Fel Ae) hZ (Wd32 hw) (Wd12 hw) (by decide) (by decide)) (g := (mkF m 6 #[.val (.ref a1), .val (.int (1 : Int32)), .val (.ref sv), .val (.int (0 : Int32)), .val (.ref el), .val .null, .val .null] [(.ref el)])) rfl (by rw [hml]; rfl) (argsL := [(.ref el)]) (rest := []) (lenOf pd3 rfl) rfl (by show 2 * 0 + _ ≤ _; exact Nat.le_of_eq rfl) (hb hby d4_6) (fun _ _ => ⟨rfl, e1, (Nat.le_of_ble_eq_true rfl), (Nat.le_of_ble_eq_true rfl)⟩)
  dsimp only [Pt.U, Pt.locs, Pt.cells, Pt.slots] at X2 l2 y2 z2 st2 hQ2
  subst l2 y2 z2
  obtain ⟨rfl, rfl, e2⟩ := hQ2
  have N2 := Fr.app N1 (Fr.nil _)
  refine OD.go (B := (T2.setTop (mkF m 9 #[.val (.ref a1), .val (.int (1 : Int32)), .val (.ref sv), .val (.int (0 : Int32)), .val (.ref el), .val .null, .val .null] [(.ref el)]))) st2 ?_
  refine OD.go (B := (T2.setTop (mkF m 11 #[.val (.ref a1), .val (.int (1 : Int32)), .val (.ref sv), .val (.int (0 : Int32)), .val (.ref el), .val .null, .val .null] []))) (fun t k => XS.astore X2.here hx rfl (hb hby d4_9) rfl rfl (l' := #[.val (.ref a1), .val (.int (1 : Int32)), .val (.ref sv), .val (.int (0 : Int32)), .val (.ref el), .val .null, .val .null]) rfl k) ?_
  refine OD.go (B := (T2.setTop (mkF m 12 #[.val (.ref a1), .val (.int (1 : Int32)), .val (.ref sv), .val (.int (0 : Int32)), .val (.ref el), .val .null, .val .null] [(.ref a1)]))) (fun t k => XS.aloadN X2.here hx rfl (hb hby d4_11) rfl rfl k) ?_
  refine OD.go (B := (T2.setTop (mkF m 13 #[.val (.ref a1), .val (.int (1 : Int32)), .val (.ref sv), .val (.int (0 : Int32)), .val (.ref el), .val .null, .val .null] [(.int (1 : Int32)), (.ref a1)]))) (fun t k => XS.iloadN X2.here hx rfl (hb hby d4_12) rfl k) ?_
  obtain ⟨T3, h3, X3, e3, W3, st3⟩ := putFN X2 hx hZ hown (Wd48 hw) Via.refl e2 F0 E1 (Or.inr ⟨(Wd49 hw), rfl, hnm⟩) (Wd6 hw) (ty := .boolean) (v' := (.int (1 : Int32))) (by decide) rfl (by decide) (g := (mkF m 13 #[.val (.ref a1), .val (.int (1 : Int32)), .val (.ref sv), .val (.int (0 : Int32)), .val (.ref el), .val .null, .val .null] [(.int (1 : Int32)), (.ref a1)])) rfl rfl (hb hby d4_13)
  have Fx3 := F0.same W3
  have N3 := Fr.snoc X3 N2 g1
  refine OD.go (B := (T3.setTop (mkF m 16 #[.val (.ref a1), .val (.int (1 : Int32)), .val (.ref sv), .val (.int (0 : Int32)), .val (.ref el), .val .null, .val .null] []))) st3 ?_
  refine OD.go (B := (T3.setTop (mkF m 17 #[.val (.ref a1), .val (.int (1 : Int32)), .val (.ref sv), .val (.int (0 : Int32)), .val (.ref el), .val .null, .val .null] [(.ref a1)]))) (fun t k => XS.aloadN X3.here hx rfl (hb hby d4_16) rfl rfl k) ?_
  refine OD.go (B := (T3.setTop (mkF m 18 #[.val (.ref a1), .val (.int (1 : Int32)), .val (.ref sv), .val (.int (0 : Int32)), .val (.ref el), .val .null, .val .null] [(.ref sv), (.ref a1)]))) (fun t k => XS.aloadN X3.here hx rfl (hb hby d4_17) rfl rfl k) ?_
  have f4 := (F1.other W3 (Or.inr (slot_ne (Or.inr (Wd51 hw)) (Or.inr (Wd49 hw)) (by decide) (t := (.object "com/example/echo_panel/echopanel/channel/Severity")) (t' := .boolean) (by decide) (by decide))))
  have f5 := (E1.wr W3)
  obtain ⟨T6, h6, X6, e6, W6, st6⟩ := putF X3 hx hZ hown (host := "") (Or.inl (Wd50 hw)) Via.refl e3 f4 f5 (Or.inr ⟨(Wd51 hw), rfl, hnm⟩) (Wd6 hw) (ty := (.object "com/example/echo_panel/echopanel/channel/Severity")) (by decide) rfl rfl (g := (mkF m 18 #[.val (.ref a1), .val (.int (1 : Int32)), .val (.ref sv), .val (.int (0 : Int32)), .val (.ref el), .val .null, .val .null] [(.ref sv), (.ref a1)])) rfl rfl (hb hby d4_18)
  have Fx6 := f4.same W6
  have N6 := Fr.snoc X6 N3 g1
  refine OD.go (B := (T6.setTop (mkF m 21 #[.val (.ref a1), .val (.int (1 : Int32)), .val (.ref sv), .val (.int (0 : Int32)), .val (.ref el), .val .null, .val .null] []))) st6 ?_
  refine OD.go (B := (T6.setTop (mkF m 22 #[.val (.ref a1), .val (.int (1 : Int32)), .val (.ref sv), .val (.int (0 : Int32)), .val (.ref el), .val .null, .val .null] [(.ref a1)]))) (fun t k => XS.aloadN X6.here hx rfl (hb hby d4_21) rfl rfl k) ?_
  refine OD.go (B := (T6.setTop (mkF m 23 #[.val (.ref a1), .val (.int (1 : Int32)), .val (.ref sv), .val (.int (0 : Int32)), .val (.ref el), .val .null, .val .null] [(.int (0 : Int32)), (.ref a1)]))) (fun t k => XS.iloadN X6.here hx rfl (hb hby d4_22) rfl k) ?_
  have f7 := ((F2.other W3 (Or.inr (slot_ne (Or.inr (Wd53 hw)) (Or.inr (Wd49 hw)) (by decide) (t := .int) (t' := .boolean) (by decide) (by decide)))).other W6 (Or.inr (slot_ne (Or.inr (Wd53 hw)) (Or.inr (Wd51 hw)) (by decide) (t := .int) (t' := (.object "com/example/echo_panel/echopanel/channel/Severity")) (by decide) (by decide))))
  have f8 := (f5.wr W6)
  obtain ⟨T9, h9, X9, e9, W9, st9⟩ := putF X6 hx hZ hown (host := "") (Or.inl (Wd52 hw)) Via.refl e6 f7 f8 (Or.inr ⟨(Wd53 hw), rfl, hnm⟩) (Wd6 hw) (ty := .int) (by decide) rfl rfl (g := (mkF m 23 #[.val (.ref a1), .val (.int (1 : Int32)), .val (.ref sv), .val (.int (0 : Int32)), .val (.ref el), .val .null, .val .null] [(.int (0 : Int32)), (.ref a1)])) rfl rfl (hb hby d4_23)
  have Fx9 := f7.same W9
  have N9 := Fr.snoc X9 N6 g1
  refine OD.go (B := (T9.setTop (mkF m 26 #[.val (.ref a1), .val (.int (1 : Int32)), .val (.ref sv), .val (.int (0 : Int32)), .val (.ref el), .val .null, .val .null] []))) st9 ?_
  refine OD.go (B := (T9.setTop (mkF m 27 #[.val (.ref a1), .val (.int (1 : Int32)), .val (.ref sv), .val (.int (0 : Int32)), .val (.ref el), .val .null, .val .null] [(.ref a1)]))) (fun t k => XS.aloadN X9.here hx rfl (hb hby d4_26) rfl rfl k) ?_
  refine OD.go (B := (T9.setTop (mkF m 29 #[.val (.ref a1), .val (.int (1 : Int32)), .val (.ref sv), .val (.int (0 : Int32)), .val (.ref el), .val .null, .val .null] [(.ref el), (.ref a1)]))) (fun t k => XS.aload X9.here hx rfl (hb hby d4_27) rfl rfl k) ?_
  have f10 := (((F3.other W3 (Or.inr (slot_ne (Or.inr (Wd55 hw)) (Or.inr (Wd49 hw)) (by decide) (t := (.object "java/util/List")) (t' := .boolean) (by decide) (by decide)))).other W6 (Or.inr (slot_ne (Or.inr (Wd55 hw)) (Or.inr (Wd51 hw)) (by decide) (t := (.object "java/util/List")) (t' := (.object "com/example/echo_panel/echopanel/channel/Severity")) (by decide) (by decide)))).other W9 (Or.inr (slot_ne (Or.inr (Wd55 hw)) (Or.inr (Wd53 hw)) (by decide) (t := (.object "java/util/List")) (t' := .int) (by decide) (by decide))))
  have f11 := (f8.wr W9)
  obtain ⟨T12, h12, X12, e12, W12, st12⟩ := putF X9 hx hZ hown (host := "") (Or.inl (Wd54 hw)) Via.refl e9 f10 f11 (Or.inr ⟨(Wd55 hw), rfl, hnm⟩) (Wd6 hw) (ty := (.object "java/util/List")) (by decide) rfl rfl (g := (mkF m 29 #[.val (.ref a1), .val (.int (1 : Int32)), .val (.ref sv), .val (.int (0 : Int32)), .val (.ref el), .val .null, .val .null] [(.ref el), (.ref a1)])) rfl rfl (hb hby d4_29)
  have Fx12 := f10.same W12
  have N12 := Fr.snoc X12 N9 g1
  refine OD.go (B := (T12.setTop (mkF m 32 #[.val (.ref a1), .val (.int (1 : Int32)), .val (.ref sv), .val (.int (0 : Int32)), .val (.ref el), .val .null, .val .null] []))) st12 ?_
  refine OD.go (B := (T12.setTop (mkF m 33 #[.val (.ref a1), .val (.int (1 : Int32)), .val (.ref sv), .val (.int (0 : Int32)), .val (.ref el), .val .null, .val .null] [(.ref a1)]))) (fun t k => XS.aloadN X12.here hx rfl (hb hby d4_32) rfl rfl k) ?_
  refine OD.go (B := (T12.setTop (mkF m 35 #[.val (.ref a1), .val (.int (1 : Int32)), .val (.ref sv), .val (.int (0 : Int32)), .val (.ref el), .val .null, .val .null] [.null, (.ref a1)]))) (fun t k => XS.aload X12.here hx rfl (hb hby d4_33) rfl rfl k) ?_
  have f13 := ((((F4.other W3 (Or.inr (slot_ne (Or.inr (Wd57 hw)) (Or.inr (Wd49 hw)) (by decide) (t := (.object "java/lang/Object")) (t' := .boolean) (by decide) (by decide)))).other W6 (Or.inr (slot_ne (Or.inr (Wd57 hw)) (Or.inr (Wd51 hw)) (by decide) (t := (.object "java/lang/Object")) (t' := (.object "com/example/echo_panel/echopanel/channel/Severity")) (by decide) (by decide)))).other W9 (Or.inr (slot_ne (Or.inr (Wd57 hw)) (Or.inr (Wd53 hw)) (by decide) (t := (.object "java/lang/Object")) (t' := .int) (by decide) (by decide)))).other W12 (Or.inr (slot_ne (Or.inr (Wd57 hw)) (Or.inr (Wd55 hw)) (by decide) (t := (.object "java/lang/Object")) (t' := (.object "java/util/List")) (by decide) (by decide))))
  have f14 := (f11.wr W12)
  obtain ⟨T15, h15, X15, e15, W15, st15⟩ := putF X12 hx hZ hown (host := "") (Or.inl (Wd56 hw)) Via.refl e12 f13 f14 (Or.inr ⟨(Wd57 hw), rfl, hnm⟩) (Wd6 hw) (ty := (.object "java/lang/Object")) (by decide) rfl rfl (g := (mkF m 35 #[.val (.ref a1), .val (.int (1 : Int32)), .val (.ref sv), .val (.int (0 : Int32)), .val (.ref el), .val .null, .val .null] [.null, (.ref a1)])) rfl rfl (hb hby d4_35)
  have Fx15 := f13.same W15
  have N15 := Fr.snoc X15 N12 g1
  refine OD.go (B := (T15.setTop (mkF m 38 #[.val (.ref a1), .val (.int (1 : Int32)), .val (.ref sv), .val (.int (0 : Int32)), .val (.ref el), .val .null, .val .null] []))) st15 ?_
  refine OD.go (B := (T15.setTop (mkF m 39 #[.val (.ref a1), .val (.int (1 : Int32)), .val (.ref sv), .val (.int (0 : Int32)), .val (.ref el), .val .null, .val .null] [(.ref a1)]))) (fun t k => XS.aloadN X15.here hx rfl (hb hby d4_38) rfl rfl k) ?_
  refine OD.go (B := (T15.setTop (mkF m 41 #[.val (.ref a1), .val (.int (1 : Int32)), .val (.ref sv), .val (.int (0 : Int32)), .val (.ref el), .val .null, .val .null] [.null, (.ref a1)]))) (fun t k => XS.aload X15.here hx rfl (hb hby d4_39) rfl rfl k) ?_
  have f16 := (((((F5.other W3 (Or.inr (slot_ne (Or.inr (Wd59 hw)) (Or.inr (Wd49 hw)) (by decide) (t := (.object "com/example/echo_panel/echopanel/channel/DisplayLimits")) (t' := .boolean) (by decide) (by decide)))).other W6 (Or.inr (slot_ne (Or.inr (Wd59 hw)) (Or.inr (Wd51 hw)) (by decide) (t := (.object "com/example/echo_panel/echopanel/channel/DisplayLimits")) (t' := (.object "com/example/echo_panel/echopanel/channel/Severity")) (by decide) (by decide)))).other W9 (Or.inr (slot_ne (Or.inr (Wd59 hw)) (Or.inr (Wd53 hw)) (by decide) (t := (.object "com/example/echo_panel/echopanel/channel/DisplayLimits")) (t' := .int) (by decide) (by decide)))).other W12 (Or.inr (slot_ne (Or.inr (Wd59 hw)) (Or.inr (Wd55 hw)) (by decide) (t := (.object "com/example/echo_panel/echopanel/channel/DisplayLimits")) (t' := (.object "java/util/List")) (by decide) (by decide)))).other W15 (Or.inr (slot_ne (Or.inr (Wd59 hw)) (Or.inr (Wd57 hw)) (by decide) (t := (.object "com/example/echo_panel/echopanel/channel/DisplayLimits")) (t' := (.object "java/lang/Object")) (by decide) (by decide))))
  have f17 := (f14.wr W15)
  obtain ⟨T18, h18, X18, e18, W18, st18⟩ := putF X15 hx hZ hown (host := "") (Or.inl (Wd58 hw)) Via.refl e15 f16 f17 (Or.inr ⟨(Wd59 hw), rfl, hnm⟩) (Wd6 hw) (ty := (.object "com/example/echo_panel/echopanel/channel/DisplayLimits")) (by decide) rfl rfl (g := (mkF m 41 #[.val (.ref a1), .val (.int (1 : Int32)), .val (.ref sv), .val (.int (0 : Int32)), .val (.ref el), .val .null, .val .null] [.null, (.ref a1)])) rfl rfl (hb hby d4_41)
  have Fx18 := f16.same W18
  have N18 := Fr.snoc X18 N15 g1
  refine OD.go (B := (T18.setTop (mkF m 44 #[.val (.ref a1), .val (.int (1 : Int32)), .val (.ref sv), .val (.int (0 : Int32)), .val (.ref el), .val .null, .val .null] []))) st18 ?_
  exact OD.retV X18 hx hlk Bd.returns (hb hby d4_44) (Nat.le_of_ble_eq_true rfl) (Nat.le_of_ble_eq_true rfl) ⟨rfl, N18, by rw [e18]; exact (((((((Keep.refl h0 [a1]).wr W3 (Or.inl (List.mem_of_getElem? (i := 0) rfl))).wr W6 (Or.inl (List.mem_of_getElem? (i := 0) rfl))).wr W9 (Or.inl (List.mem_of_getElem? (i := 0) rfl))).wr W12 (Or.inl (List.mem_of_getElem? (i := 0) rfl))).wr W15 (Or.inl (List.mem_of_getElem? (i := 0) rfl))).wr W18 (Or.inl (List.mem_of_getElem? (i := 0) rfl))), by rw [e18]; exact (((((Fx3.other W6 (Or.inr (slot_ne (Or.inr (Wd49 hw)) (Or.inr (Wd51 hw)) (by decide) (t := .boolean) (t' := (.object "com/example/echo_panel/echopanel/channel/Severity")) (by decide) (by decide)))).other W9 (Or.inr (slot_ne (Or.inr (Wd49 hw)) (Or.inr (Wd53 hw)) (by decide) (t := .boolean) (t' := .int) (by decide) (by decide)))).other W12 (Or.inr (slot_ne (Or.inr (Wd49 hw)) (Or.inr (Wd55 hw)) (by decide) (t := .boolean) (t' := (.object "java/util/List")) (by decide) (by decide)))).other W15 (Or.inr (slot_ne (Or.inr (Wd49 hw)) (Or.inr (Wd57 hw)) (by decide) (t := .boolean) (t' := (.object "java/lang/Object")) (by decide) (by decide)))).other W18 (Or.inr (slot_ne (Or.inr (Wd49 hw)) (Or.inr (Wd59 hw)) (by decide) (t := .boolean) (t' := (.object "com/example/echo_panel/echopanel/channel/DisplayLimits")) (by decide) (by decide)))), by rw [e18]; exact ((((Fx6.other W9 (Or.inr (slot_ne (Or.inr (Wd51 hw)) (Or.inr (Wd53 hw)) (by decide) (t := (.object "com/example/echo_panel/echopanel/channel/Severity")) (t' := .int) (by decide) (by decide)))).other W12 (Or.inr (slot_ne (Or.inr (Wd51 hw)) (Or.inr (Wd55 hw)) (by decide) (t := (.object "com/example/echo_panel/echopanel/channel/Severity")) (t' := (.object "java/util/List")) (by decide) (by decide)))).other W15 (Or.inr (slot_ne (Or.inr (Wd51 hw)) (Or.inr (Wd57 hw)) (by decide) (t := (.object "com/example/echo_panel/echopanel/channel/Severity")) (t' := (.object "java/lang/Object")) (by decide) (by decide)))).other W18 (Or.inr (slot_ne (Or.inr (Wd51 hw)) (Or.inr (Wd59 hw)) (by decide) (t := (.object "com/example/echo_panel/echopanel/channel/Severity")) (t' := (.object "com/example/echo_panel/echopanel/channel/DisplayLimits")) (by decide) (by decide)))), by rw [e18]; exact (((Fx9.other W12 (Or.inr (slot_ne (Or.inr (Wd53 hw)) (Or.inr (Wd55 hw)) (by decide) (t := .int) (t' := (.object "java/util/List")) (by decide) (by decide)))).other W15 (Or.inr (slot_ne (Or.inr (Wd53 hw)) (Or.inr (Wd57 hw)) (by decide) (t := .int) (t' := (.object "java/lang/Object")) (by decide) (by decide)))).other W18 (Or.inr (slot_ne (Or.inr (Wd53 hw)) (Or.inr (Wd59 hw)) (by decide) (t := .int) (t' := (.object "com/example/echo_panel/echopanel/channel/DisplayLimits")) (by decide) (by decide)))), by rw [e18]; exact ((Fx12.other W15 (Or.inr (slot_ne (Or.inr (Wd55 hw)) (Or.inr (Wd57 hw)) (by decide) (t := (.object "java/util/List")) (t' := (.object "java/lang/Object")) (by decide) (by decide)))).other W18 (Or.inr (slot_ne (Or.inr (Wd55 hw)) (Or.inr (Wd59 hw)) (by decide) (t := (.object "java/util/List")) (t' := (.object "com/example/echo_panel/echopanel/channel/DisplayLimits")) (by decide) (by decide)))), by rw [e18]; exact (Fx15.other W18 (Or.inr (slot_ne (Or.inr (Wd57 hw)) (Or.inr (Wd59 hw)) (by decide) (t := (.object "java/lang/Object")) (t' := (.object "com/example/echo_panel/echopanel/channel/DisplayLimits")) (by decide) (by decide)))), by rw [e18]; exact Fx18⟩
def Q_rmC5_10 (Z : State) (a1 : Addr) (sv : Addr) (el : Addr) (h0 : Heap) (n0 : Nat) (v : Option Value) (h : Heap) (L : List Loc) : Prop := v = none ∧ Fr n0 L ∧ Keep h0 h [a1] ∧ Fld Z h a1 "com/example/echo_panel/echopanel/channel/ChannelState" "connected" "Z" (.int (1 : Int32)) ∧ Fld Z h a1 "com/example/echo_panel/echopanel/channel/ChannelState" "severity" "Lcom/example/echo_panel/echopanel/channel/Severity;" (.ref sv) ∧ Fld Z h a1 "com/example/echo_panel/echopanel/channel/ChannelState" "precision" "I" (.int (0 : Int32)) ∧ Fld Z h a1 "com/example/echo_panel/echopanel/channel/ChannelState" "labels" "Ljava/util/List;" (.ref el) ∧ Fld Z h a1 "com/example/echo_panel/echopanel/channel/ChannelState" "value" "Ljava/lang/Object;" .null ∧ Fld Z h a1 "com/example/echo_panel/echopanel/channel/ChannelState" "limits" "Lcom/example/echo_panel/echopanel/channel/DisplayLimits;" .null
set_option maxRecDepth 65536 in
set_option maxHeartbeats 40000000 in
theorem rmC5_10 (l : Launch) (Z : State) (a0 : Array Value) (hw : ∀ d ∈ tables_1, d.before a0 Z = true) (ws : List Jvm.Cond) (a1 : Addr) (sv : Addr) (el : Addr) (h0 : Heap) (n0 : Nat) (Z0 : n0 ≤ h0.size) (E1 : Exa Z h0 a1 "com/example/echo_panel/echopanel/channel/ChannelState") (F0 : Fld Z h0 a1 "com/example/echo_panel/echopanel/channel/ChannelState" "connected" "Z" (.int (0 : Int32))) (F1 : Fld Z h0 a1 "com/example/echo_panel/echopanel/channel/ChannelState" "severity" "Lcom/example/echo_panel/echopanel/channel/Severity;" .null) (F2 : Fld Z h0 a1 "com/example/echo_panel/echopanel/channel/ChannelState" "precision" "I" (.int (0 : Int32))) (F3 : Fld Z h0 a1 "com/example/echo_panel/echopanel/channel/ChannelState" "labels" "Ljava/util/List;" .null) (F4 : Fld Z h0 a1 "com/example/echo_panel/echopanel/channel/ChannelState" "value" "Ljava/lang/Object;" .null) (F5 : Fld Z h0 a1 "com/example/echo_panel/echopanel/channel/ChannelState" "limits" "Lcom/example/echo_panel/echopanel/channel/DisplayLimits;" .null) (g1 : n0 ≤ a1) (X00 : Old Z n0 h0) (ea : Addr) (kE : ClassId) (Se : Sta Z Z.heap "java/util/ImmutableCollections" "EMPTY_LIST" "Ljava/util/ImmutableCollections$ListN;" (.ref el)) (Ee : Exa Z Z.heap el "java/util/ImmutableCollections$ListN") (Fa : Fld Z Z.heap el "java/util/ImmutableCollections$ListN" "allowNulls" "Z" (.int (0 : Int32))) (Fel : Fld Z Z.heap el "java/util/ImmutableCollections$ListN" "elements" "[Ljava/lang/Object;" (.ref ea)) (Ae : Arv Z Z.heap ea kE (.object "java/lang/Object") (0 : Int32) [] .null) :
    MetFree l (⟨"com/example/echo_panel/echopanel/channel/ChannelState", "<init>", "(ZLcom/example/echo_panel/echopanel/channel/Severity;ILjava/util/List;Ljava/lang/Object;)V"⟩ : MethodName) (head1 (Jvm.Cond.code (⟨"com/example/echo_panel/echopanel/channel/ChannelState", "<init>", "(ZLcom/example/echo_panel/echopanel/channel/Severity;ILjava/util/List;Ljava/lang/Object;)V"⟩ : MethodName) prog_15_method_2_code 6 none :: ws) ({ frames := 3, cells := 0, slots := 0, locals := 43 } : Room)) (fun a U => a = #[(.ref a1), (.int (1 : Int32)), (.ref sv), (.int (0 : Int32)), (.ref el), .null] ∧ Z.Warmed39 U.vm ∧ U.heap = h0) (fun _ _ _ _ _ => True) (fun _ U o U' => ∃ v L, o = .returned v ∧ Q_rmC5_10 Z a1 sv el h0 n0 v U'.heap L ∧ FrameEnd U o U' L ({ frames := 3, cells := 0, slots := 0, locals := 43 } : Room).cells ({ frames := 3, cells := 0, slots := 0, locals := 43 } : Room).slots) := by
  refine MetFree.of_bodySF (plainFor_of_name pn7) hisR ?_
  intro p e s m args below meth c s₁ Bd hml0 hP hK
  obtain ⟨rfl, hZ, hh⟩ := hP
  have hx := Bd.exec
  have hby := Bd.bytes
  have hlk : meth.locks = false := Bd.notSynchronized
  have hml : c.maxLocals = 6 := hml0
  have hown : s.vm.findClass "com/example/echo_panel/echopanel/channel/ChannelState" = some m.cls := findClass_of_methodNamed Bd.named
  have hnm := (name_of_methodNamed Bd.named Bd.method).1
  have X0 : Stand p l e ({ frames := 3, cells := 0, slots := 0, locals := 43 } : Room) s m #[(.ref a1), (.int (1 : Int32)), (.ref sv), (.int (0 : Int32)), (.ref el), .null] below meth c s₁ [] 0 0 := Stand.of_body Bd
  have e0 : s₁.heap = h0 := by rw [← hh, Bd.state]; rfl
  have N0 := Fr.nil n0
  suffices hgo : OD p e s below (Q_rmC5_10 Z a1 sv el h0 n0) ({ frames := 3, cells := 0, slots := 0, locals := 43 } : Room).cells ({ frames := 3, cells := 0, slots := 0, locals := 43 } : Room).slots (s₁.setTop (mkF m 0 #[.val (.ref a1), .val (.int (1 : Int32)), .val (.ref sv), .val (.int (0 : Int32)), .val (.ref el), .val .null] [])) by
    obtain ⟨s₂, o, hgo1, hgo2⟩ := hgo
    exact ⟨s₂, o, castTop (ef12 m a1 (1 : Int32) sv (0 : Int32) el) hgo1, hgo2⟩
  refine OD.go (B := (s₁.setTop (mkF m 1 #[.val (.ref a1), .val (.int (1 : Int32)), .val (.ref sv), .val (.int (0 : Int32)), .val (.ref el), .val .null] [(.ref a1)]))) (fun t k => XS.aloadN X0.here hx rfl (hb hby d3_0) rfl rfl k) ?_
  refine OD.go (B := (s₁.setTop (mkF m 2 #[.val (.ref a1), .val (.int (1 : Int32)), .val (.ref sv), .val (.int (0 : Int32)), .val (.ref el), .val .null] [(.int (1 : Int32)), (.ref a1)]))) (fun t k => XS.iloadN X0.here hx rfl (hb hby d3_1) rfl k) ?_
  refine OD.go (B := (s₁.setTop (mkF m 3 #[.val (.ref a1), .val (.int (1 : Int32)), .val (.ref sv), .val (.int (0 : Int32)), .val (.ref el), .val .null] [(.ref sv), (.int (1 : Int32)), (.ref a1)]))) (fun t k => XS.aloadN X0.here hx rfl (hb hby d3_2) rfl rfl k) ?_
  refine OD.go (B := (s₁.setTop (mkF m 4 #[.val (.ref a1), .val (.int (1 : Int32)), .val (.ref sv), .val (.int (0 : Int32)), .val (.ref el), .val .null] [(.int (0 : Int32)), (.ref sv), (.int (1 : Int32)), (.ref a1)]))) (fun t k => XS.iloadN X0.here hx rfl (hb hby d3_3) rfl k) ?_
  refine OD.go (B := (s₁.setTop (mkF m 6 #[.val (.ref a1), .val (.int (1 : Int32)), .val (.ref sv), .val (.int (0 : Int32)), .val (.ref el), .val .null] [(.ref el), (.int (0 : Int32)), (.ref sv), (.int (1 : Int32)), (.ref a1)]))) (fun t k => XS.aload X0.here hx rfl (hb hby d3_4) rfl rfl k) ?_
  refine OD.go (B := (s₁.setTop (mkF m 8 #[.val (.ref a1), .val (.int (1 : Int32)), .val (.ref sv), .val (.int (0 : Int32)), .val (.ref el), .val .null] [.null, (.ref el), (.int (0 : Int32)), (.ref sv), (.int (1 : Int32)), (.ref a1)]))) (fun t k => XS.aload X0.here hx rfl (hb hby d3_6) rfl rfl k) ?_
  refine OD.go (B := (s₁.setTop (mkF m 9 #[.val (.ref a1), .val (.int (1 : Int32)), .val (.ref sv), .val (.int (0 : Int32)), .val (.ref el), .val .null] [.null, .null, (.ref el), (.int (0 : Int32)), (.ref sv), (.int (1 : Int32)), (.ref a1)]))) (fun t k => XS.aconstNull X0.here hx rfl (hb hby d3_8) k) ?_
  obtain ⟨_, _, ⟨T1, L1, k1, n1⟩, -, X1, ⟨Lc1, hQ1, l1, y1, z1⟩, st1⟩ := X0.specialBack hx (y := (⟨"com/example/echo_panel/echopanel/channel/ChannelState", "<init>", "(ZLcom/example/echo_panel/echopanel/channel/Severity;ILjava/util/List;Ljava/lang/Object;Lcom/example/echo_panel/echopanel/channel/DisplayLimits;)V"⟩ : MethodName)) rfl hown (mvT hZ (Wd19 hw)) (mvT hZ (Wd20 hw)) (mvT hZ (Wd21 hw)) (by decide) (backOf (W := 0) (rmC6_10 l Z a0 hw [] a1 sv el h0 n0 Z0 E1 F0 F1 F2 F3 F4 F5 g1 X00 ea kE Se Ee Fa Fel Ae) hZ (Wd21 hw) (Wd3 hw) (by decide) (by decide)) (g := (mkF m 9 #[.val (.ref a1), .val (.int (1 : Int32)), .val (.ref sv), .val (.int (0 : Int32)), .val (.ref el), .val .null] [.null, .null, (.ref el), (.int (0 : Int32)), (.ref sv), (.int (1 : Int32)), (.ref a1)])) rfl (by rw [hml]; rfl) (Steps.refl _) (a := a1) (argsL := [(.int (1 : Int32)), (.ref sv), (.int (0 : Int32)), (.ref el), .null, .null]) (rest := []) (lenOf pd4 rfl) rfl (by show 2 * 0 + _ ≤ _; exact Nat.le_of_eq rfl) (hb hby d3_9) (fun _ _ => ⟨rfl, e0, (Nat.le_of_ble_eq_true rfl), (Nat.le_of_ble_eq_true rfl)⟩)
  dsimp only [Pt.U, Pt.locs, Pt.cells, Pt.slots] at X1 l1 y1 z1 st1 hQ1
  subst l1 y1 z1
  obtain ⟨rfl, Nq1, K1, G0_1, G1_1, G2_1, G3_1, G4_1, G5_1⟩ := hQ1
  have N1 := Fr.app N0 Nq1
  refine OD.via (B := (T1.setTop (mkF m 12 #[.val (.ref a1), .val (.int (1 : Int32)), .val (.ref sv), .val (.int (0 : Int32)), .val (.ref el), .val .null] []))) st1 ?_
  exact OD.retV X1 hx hlk Bd.returns (hb hby d3_12) (Nat.le_of_ble_eq_true rfl) (Nat.le_of_ble_eq_true rfl) ⟨rfl, N1, by exact ((Keep.refl h0 [a1]).trans K1 (allS (Or.inl (List.mem_of_getElem? (i := 0) rfl)) all0)), by exact G0_1, by exact G1_1, by exact G2_1, by exact G3_1, by exact G4_1, by exact G5_1⟩
def Q_rmC6_11 (Z : State) (a1 : Addr) (sv : Addr) (el : Addr) (vv : Addr) (h0 : Heap) (n0 : Nat) (v : Option Value) (h : Heap) (L : List Loc) : Prop := v = none ∧ Fr n0 L ∧ Keep h0 h [a1] ∧ Fld Z h a1 "com/example/echo_panel/echopanel/channel/ChannelState" "connected" "Z" (.int (1 : Int32)) ∧ Fld Z h a1 "com/example/echo_panel/echopanel/channel/ChannelState" "severity" "Lcom/example/echo_panel/echopanel/channel/Severity;" (.ref sv) ∧ Fld Z h a1 "com/example/echo_panel/echopanel/channel/ChannelState" "precision" "I" (.int (0 : Int32)) ∧ Fld Z h a1 "com/example/echo_panel/echopanel/channel/ChannelState" "labels" "Ljava/util/List;" (.ref el) ∧ Fld Z h a1 "com/example/echo_panel/echopanel/channel/ChannelState" "value" "Ljava/lang/Object;" (.ref vv) ∧ Fld Z h a1 "com/example/echo_panel/echopanel/channel/ChannelState" "limits" "Lcom/example/echo_panel/echopanel/channel/DisplayLimits;" .null
set_option maxRecDepth 65536 in
set_option maxHeartbeats 40000000 in
theorem rmC6_11 (l : Launch) (Z : State) (a0 : Array Value) (hw : ∀ d ∈ tables_1, d.before a0 Z = true) (ws : List Jvm.Cond) (a1 : Addr) (sv : Addr) (el : Addr) (vv : Addr) (h0 : Heap) (n0 : Nat) (Z0 : n0 ≤ h0.size) (E1 : Exa Z h0 a1 "com/example/echo_panel/echopanel/channel/ChannelState") (F0 : Fld Z h0 a1 "com/example/echo_panel/echopanel/channel/ChannelState" "connected" "Z" (.int (0 : Int32))) (F1 : Fld Z h0 a1 "com/example/echo_panel/echopanel/channel/ChannelState" "severity" "Lcom/example/echo_panel/echopanel/channel/Severity;" .null) (F2 : Fld Z h0 a1 "com/example/echo_panel/echopanel/channel/ChannelState" "precision" "I" (.int (0 : Int32))) (F3 : Fld Z h0 a1 "com/example/echo_panel/echopanel/channel/ChannelState" "labels" "Ljava/util/List;" .null) (F4 : Fld Z h0 a1 "com/example/echo_panel/echopanel/channel/ChannelState" "value" "Ljava/lang/Object;" .null) (F5 : Fld Z h0 a1 "com/example/echo_panel/echopanel/channel/ChannelState" "limits" "Lcom/example/echo_panel/echopanel/channel/DisplayLimits;" .null) (g1 : n0 ≤ a1) (X00 : Old Z n0 h0) (ea : Addr) (kE : ClassId) (Se : Sta Z Z.heap "java/util/ImmutableCollections" "EMPTY_LIST" "Ljava/util/ImmutableCollections$ListN;" (.ref el)) (Ee : Exa Z Z.heap el "java/util/ImmutableCollections$ListN") (Fa : Fld Z Z.heap el "java/util/ImmutableCollections$ListN" "allowNulls" "Z" (.int (0 : Int32))) (Fel : Fld Z Z.heap el "java/util/ImmutableCollections$ListN" "elements" "[Ljava/lang/Object;" (.ref ea)) (Ae : Arv Z Z.heap ea kE (.object "java/lang/Object") (0 : Int32) [] .null) :
    MetFree l (⟨"com/example/echo_panel/echopanel/channel/ChannelState", "<init>", "(ZLcom/example/echo_panel/echopanel/channel/Severity;ILjava/util/List;Ljava/lang/Object;Lcom/example/echo_panel/echopanel/channel/DisplayLimits;)V"⟩ : MethodName) (head1 (Jvm.Cond.code (⟨"com/example/echo_panel/echopanel/channel/ChannelState", "<init>", "(ZLcom/example/echo_panel/echopanel/channel/Severity;ILjava/util/List;Ljava/lang/Object;Lcom/example/echo_panel/echopanel/channel/DisplayLimits;)V"⟩ : MethodName) prog_15_method_1_code 7 none :: ws) ({ frames := 2, cells := 0, slots := 0, locals := 25 } : Room)) (fun a U => a = #[(.ref a1), (.int (1 : Int32)), (.ref sv), (.int (0 : Int32)), (.ref el), (.ref vv), .null] ∧ Z.Warmed39 U.vm ∧ U.heap = h0) (fun _ _ _ _ _ => True) (fun _ U o U' => ∃ v L, o = .returned v ∧ Q_rmC6_11 Z a1 sv el vv h0 n0 v U'.heap L ∧ FrameEnd U o U' L ({ frames := 2, cells := 0, slots := 0, locals := 25 } : Room).cells ({ frames := 2, cells := 0, slots := 0, locals := 25 } : Room).slots) := by
  refine MetFree.of_bodySF (plainFor_of_name pn7) hisR ?_
  intro p e s m args below meth c s₁ Bd hml0 hP hK
  obtain ⟨rfl, hZ, hh⟩ := hP
  have hx := Bd.exec
  have hby := Bd.bytes
  have hlk : meth.locks = false := Bd.notSynchronized
  have hml : c.maxLocals = 7 := hml0
  have hown : s.vm.findClass "com/example/echo_panel/echopanel/channel/ChannelState" = some m.cls := findClass_of_methodNamed Bd.named
  have hnm := (name_of_methodNamed Bd.named Bd.method).1
  have X0 : Stand p l e ({ frames := 2, cells := 0, slots := 0, locals := 25 } : Room) s m #[(.ref a1), (.int (1 : Int32)), (.ref sv), (.int (0 : Int32)), (.ref el), (.ref vv), .null] below meth c s₁ [] 0 0 := Stand.of_body Bd
  have e0 : s₁.heap = h0 := by rw [← hh, Bd.state]; rfl
  have N0 := Fr.nil n0
  suffices hgo : OD p e s below (Q_rmC6_11 Z a1 sv el vv h0 n0) ({ frames := 2, cells := 0, slots := 0, locals := 25 } : Room).cells ({ frames := 2, cells := 0, slots := 0, locals := 25 } : Room).slots (s₁.setTop (mkF m 0 #[.val (.ref a1), .val (.int (1 : Int32)), .val (.ref sv), .val (.int (0 : Int32)), .val (.ref el), .val (.ref vv), .val .null] [])) by
    obtain ⟨s₂, o, hgo1, hgo2⟩ := hgo
    exact ⟨s₂, o, castTop (ef13 m a1 (1 : Int32) sv (0 : Int32) el vv) hgo1, hgo2⟩
  refine OD.go (B := (s₁.setTop (mkF m 1 #[.val (.ref a1), .val (.int (1 : Int32)), .val (.ref sv), .val (.int (0 : Int32)), .val (.ref el), .val (.ref vv), .val .null] [(.ref a1)]))) (fun t k => XS.aloadN X0.here hx rfl (hb hby d4_0) rfl rfl k) ?_
  obtain ⟨_, _, ⟨T1, L1, k1, n1⟩, -, X1, ⟨Lc1, hQ1, l1, y1, z1⟩, st1⟩ := X0.specialBack hx (y := (⟨"java/lang/Record", "<init>", "()V"⟩ : MethodName)) rfl hown (mvT hZ (Wd22 hw)) (mvT hZ (Wd23 hw)) (mvT hZ (Wd26 hw)) (by decide) (backOf (W := 0) (rmR l Z a0 hw [] a1 h0) hZ (Wd26 hw) (Wd25 hw) (by decide) (by decide)) (g := (mkF m 1 #[.val (.ref a1), .val (.int (1 : Int32)), .val (.ref sv), .val (.int (0 : Int32)), .val (.ref el), .val (.ref vv), .val .null] [(.ref a1)])) rfl (by rw [hml]; rfl) (Steps.refl _) (a := a1) (argsL := []) (rest := []) (lenOf pd0 rfl) rfl (by show 2 * 0 + _ ≤ _; exact Nat.le_of_eq rfl) (hb hby d4_1) (fun _ _ => ⟨rfl, e0, (Nat.le_of_ble_eq_true rfl), (Nat.le_of_ble_eq_true rfl)⟩)
  dsimp only [Pt.U, Pt.locs, Pt.cells, Pt.slots] at X1 l1 y1 z1 st1 hQ1
  subst l1 y1 z1
  obtain ⟨rfl, rfl, e1⟩ := hQ1
  have N1 := Fr.app N0 (Fr.nil _)
  refine OD.via (B := (T1.setTop (mkF m 4 #[.val (.ref a1), .val (.int (1 : Int32)), .val (.ref sv), .val (.int (0 : Int32)), .val (.ref el), .val (.ref vv), .val .null] []))) st1 ?_
  refine OD.go (B := (T1.setTop (mkF m 6 #[.val (.ref a1), .val (.int (1 : Int32)), .val (.ref sv), .val (.int (0 : Int32)), .val (.ref el), .val (.ref vv), .val .null] [(.ref el)]))) (fun t k => XS.aload X1.here hx rfl (hb hby d4_4) rfl rfl k) ?_
  obtain ⟨_, _, ⟨T2, L2, k2, n2⟩, -, X2, ⟨Lc2, hQ2, l2, y2, z2⟩, st2⟩ := Jvm.LawKit.callS X1 hx (y := (⟨"java/util/List", "copyOf", "(Ljava/util/Collection;)Ljava/util/List;"⟩ : MethodName)) hown (mvT hZ (Wd30 hw)) (mvT hZ (Wd31 hw)) (mvT hZ (Wd12 hw)) (mvT hZ (Wd32 hw)) (by decide) (backOf (W := 0) (rmCO l Z a0 hw [] el h0 n0 X00 ea kE Se Ee Fa Fel Ae) hZ (Wd32 hw) (Wd12 hw) (by decide) (by decide)) (g := (mkF m 6 #[.val (.ref a1), .val (.int (1 : Int32)), .val (.ref sv), .val (.int (0 : Int32)), .val (.ref el), .val (.ref vv), .val .null] [(.ref el)])) rfl (by rw [hml]; rfl) (argsL := [(.ref el)]) (rest := []) (lenOf pd3 rfl) rfl (by show 2 * 0 + _ ≤ _; exact Nat.le_of_eq rfl) (hb hby d4_6) (fun _ _ => ⟨rfl, e1, (Nat.le_of_ble_eq_true rfl), (Nat.le_of_ble_eq_true rfl)⟩)
  dsimp only [Pt.U, Pt.locs, Pt.cells, Pt.slots] at X2 l2 y2 z2 st2 hQ2
  subst l2 y2 z2
  obtain ⟨rfl, rfl, e2⟩ := hQ2
  have N2 := Fr.app N1 (Fr.nil _)
  refine OD.go (B := (T2.setTop (mkF m 9 #[.val (.ref a1), .val (.int (1 : Int32)), .val (.ref sv), .val (.int (0 : Int32)), .val (.ref el), .val (.ref vv), .val .null] [(.ref el)]))) st2 ?_
  refine OD.go (B := (T2.setTop (mkF m 11 #[.val (.ref a1), .val (.int (1 : Int32)), .val (.ref sv), .val (.int (0 : Int32)), .val (.ref el), .val (.ref vv), .val .null] []))) (fun t k => XS.astore X2.here hx rfl (hb hby d4_9) rfl rfl (l' := #[.val (.ref a1), .val (.int (1 : Int32)), .val (.ref sv), .val (.int (0 : Int32)), .val (.ref el), .val (.ref vv), .val .null]) rfl k) ?_
  refine OD.go (B := (T2.setTop (mkF m 12 #[.val (.ref a1), .val (.int (1 : Int32)), .val (.ref sv), .val (.int (0 : Int32)), .val (.ref el), .val (.ref vv), .val .null] [(.ref a1)]))) (fun t k => XS.aloadN X2.here hx rfl (hb hby d4_11) rfl rfl k) ?_
  refine OD.go (B := (T2.setTop (mkF m 13 #[.val (.ref a1), .val (.int (1 : Int32)), .val (.ref sv), .val (.int (0 : Int32)), .val (.ref el), .val (.ref vv), .val .null] [(.int (1 : Int32)), (.ref a1)]))) (fun t k => XS.iloadN X2.here hx rfl (hb hby d4_12) rfl k) ?_
  obtain ⟨T3, h3, X3, e3, W3, st3⟩ := putFN X2 hx hZ hown (Wd48 hw) Via.refl e2 F0 E1 (Or.inr ⟨(Wd49 hw), rfl, hnm⟩) (Wd6 hw) (ty := .boolean) (v' := (.int (1 : Int32))) (by decide) rfl (by decide) (g := (mkF m 13 #[.val (.ref a1), .val (.int (1 : Int32)), .val (.ref sv), .val (.int (0 : Int32)), .val (.ref el), .val (.ref vv), .val .null] [(.int (1 : Int32)), (.ref a1)])) rfl rfl (hb hby d4_13)
  have Fx3 := F0.same W3
  have N3 := Fr.snoc X3 N2 g1
  refine OD.go (B := (T3.setTop (mkF m 16 #[.val (.ref a1), .val (.int (1 : Int32)), .val (.ref sv), .val (.int (0 : Int32)), .val (.ref el), .val (.ref vv), .val .null] []))) st3 ?_
  refine OD.go (B := (T3.setTop (mkF m 17 #[.val (.ref a1), .val (.int (1 : Int32)), .val (.ref sv), .val (.int (0 : Int32)), .val (.ref el), .val (.ref vv), .val .null] [(.ref a1)]))) (fun t k => XS.aloadN X3.here hx rfl (hb hby d4_16) rfl rfl k) ?_
  refine OD.go (B := (T3.setTop (mkF m 18 #[.val (.ref a1), .val (.int (1 : Int32)), .val (.ref sv), .val (.int (0 : Int32)), .val (.ref el), .val (.ref vv), .val .null] [(.ref sv), (.ref a1)]))) (fun t k => XS.aloadN X3.here hx rfl (hb hby d4_17) rfl rfl k) ?_
  have f4 := (F1.other W3 (Or.inr (slot_ne (Or.inr (Wd51 hw)) (Or.inr (Wd49 hw)) (by decide) (t := (.object "com/example/echo_panel/echopanel/channel/Severity")) (t' := .boolean) (by decide) (by decide))))
  have f5 := (E1.wr W3)
  obtain ⟨T6, h6, X6, e6, W6, st6⟩ := putF X3 hx hZ hown (host := "") (Or.inl (Wd50 hw)) Via.refl e3 f4 f5 (Or.inr ⟨(Wd51 hw), rfl, hnm⟩) (Wd6 hw) (ty := (.object "com/example/echo_panel/echopanel/channel/Severity")) (by decide) rfl rfl (g := (mkF m 18 #[.val (.ref a1), .val (.int (1 : Int32)), .val (.ref sv), .val (.int (0 : Int32)), .val (.ref el), .val (.ref vv), .val .null] [(.ref sv), (.ref a1)])) rfl rfl (hb hby d4_18)
  have Fx6 := f4.same W6
  have N6 := Fr.snoc X6 N3 g1
  refine OD.go (B := (T6.setTop (mkF m 21 #[.val (.ref a1), .val (.int (1 : Int32)), .val (.ref sv), .val (.int (0 : Int32)), .val (.ref el), .val (.ref vv), .val .null] []))) st6 ?_
  refine OD.go (B := (T6.setTop (mkF m 22 #[.val (.ref a1), .val (.int (1 : Int32)), .val (.ref sv), .val (.int (0 : Int32)), .val (.ref el), .val (.ref vv), .val .null] [(.ref a1)]))) (fun t k => XS.aloadN X6.here hx rfl (hb hby d4_21) rfl rfl k) ?_
  refine OD.go (B := (T6.setTop (mkF m 23 #[.val (.ref a1), .val (.int (1 : Int32)), .val (.ref sv), .val (.int (0 : Int32)), .val (.ref el), .val (.ref vv), .val .null] [(.int (0 : Int32)), (.ref a1)]))) (fun t k => XS.iloadN X6.here hx rfl (hb hby d4_22) rfl k) ?_
  have f7 := ((F2.other W3 (Or.inr (slot_ne (Or.inr (Wd53 hw)) (Or.inr (Wd49 hw)) (by decide) (t := .int) (t' := .boolean) (by decide) (by decide)))).other W6 (Or.inr (slot_ne (Or.inr (Wd53 hw)) (Or.inr (Wd51 hw)) (by decide) (t := .int) (t' := (.object "com/example/echo_panel/echopanel/channel/Severity")) (by decide) (by decide))))
  have f8 := (f5.wr W6)
  obtain ⟨T9, h9, X9, e9, W9, st9⟩ := putF X6 hx hZ hown (host := "") (Or.inl (Wd52 hw)) Via.refl e6 f7 f8 (Or.inr ⟨(Wd53 hw), rfl, hnm⟩) (Wd6 hw) (ty := .int) (by decide) rfl rfl (g := (mkF m 23 #[.val (.ref a1), .val (.int (1 : Int32)), .val (.ref sv), .val (.int (0 : Int32)), .val (.ref el), .val (.ref vv), .val .null] [(.int (0 : Int32)), (.ref a1)])) rfl rfl (hb hby d4_23)
  have Fx9 := f7.same W9
  have N9 := Fr.snoc X9 N6 g1
  refine OD.go (B := (T9.setTop (mkF m 26 #[.val (.ref a1), .val (.int (1 : Int32)), .val (.ref sv), .val (.int (0 : Int32)), .val (.ref el), .val (.ref vv), .val .null] []))) st9 ?_
  refine OD.go (B := (T9.setTop (mkF m 27 #[.val (.ref a1), .val (.int (1 : Int32)), .val (.ref sv), .val (.int (0 : Int32)), .val (.ref el), .val (.ref vv), .val .null] [(.ref a1)]))) (fun t k => XS.aloadN X9.here hx rfl (hb hby d4_26) rfl rfl k) ?_
  refine OD.go (B := (T9.setTop (mkF m 29 #[.val (.ref a1), .val (.int (1 : Int32)), .val (.ref sv), .val (.int (0 : Int32)), .val (.ref el), .val (.ref vv), .val .null] [(.ref el), (.ref a1)]))) (fun t k => XS.aload X9.here hx rfl (hb hby d4_27) rfl rfl k) ?_
  have f10 := (((F3.other W3 (Or.inr (slot_ne (Or.inr (Wd55 hw)) (Or.inr (Wd49 hw)) (by decide) (t := (.object "java/util/List")) (t' := .boolean) (by decide) (by decide)))).other W6 (Or.inr (slot_ne (Or.inr (Wd55 hw)) (Or.inr (Wd51 hw)) (by decide) (t := (.object "java/util/List")) (t' := (.object "com/example/echo_panel/echopanel/channel/Severity")) (by decide) (by decide)))).other W9 (Or.inr (slot_ne (Or.inr (Wd55 hw)) (Or.inr (Wd53 hw)) (by decide) (t := (.object "java/util/List")) (t' := .int) (by decide) (by decide))))
  have f11 := (f8.wr W9)
  obtain ⟨T12, h12, X12, e12, W12, st12⟩ := putF X9 hx hZ hown (host := "") (Or.inl (Wd54 hw)) Via.refl e9 f10 f11 (Or.inr ⟨(Wd55 hw), rfl, hnm⟩) (Wd6 hw) (ty := (.object "java/util/List")) (by decide) rfl rfl (g := (mkF m 29 #[.val (.ref a1), .val (.int (1 : Int32)), .val (.ref sv), .val (.int (0 : Int32)), .val (.ref el), .val (.ref vv), .val .null] [(.ref el), (.ref a1)])) rfl rfl (hb hby d4_29)
  have Fx12 := f10.same W12
  have N12 := Fr.snoc X12 N9 g1
  refine OD.go (B := (T12.setTop (mkF m 32 #[.val (.ref a1), .val (.int (1 : Int32)), .val (.ref sv), .val (.int (0 : Int32)), .val (.ref el), .val (.ref vv), .val .null] []))) st12 ?_
  refine OD.go (B := (T12.setTop (mkF m 33 #[.val (.ref a1), .val (.int (1 : Int32)), .val (.ref sv), .val (.int (0 : Int32)), .val (.ref el), .val (.ref vv), .val .null] [(.ref a1)]))) (fun t k => XS.aloadN X12.here hx rfl (hb hby d4_32) rfl rfl k) ?_
  refine OD.go (B := (T12.setTop (mkF m 35 #[.val (.ref a1), .val (.int (1 : Int32)), .val (.ref sv), .val (.int (0 : Int32)), .val (.ref el), .val (.ref vv), .val .null] [(.ref vv), (.ref a1)]))) (fun t k => XS.aload X12.here hx rfl (hb hby d4_33) rfl rfl k) ?_
  have f13 := ((((F4.other W3 (Or.inr (slot_ne (Or.inr (Wd57 hw)) (Or.inr (Wd49 hw)) (by decide) (t := (.object "java/lang/Object")) (t' := .boolean) (by decide) (by decide)))).other W6 (Or.inr (slot_ne (Or.inr (Wd57 hw)) (Or.inr (Wd51 hw)) (by decide) (t := (.object "java/lang/Object")) (t' := (.object "com/example/echo_panel/echopanel/channel/Severity")) (by decide) (by decide)))).other W9 (Or.inr (slot_ne (Or.inr (Wd57 hw)) (Or.inr (Wd53 hw)) (by decide) (t := (.object "java/lang/Object")) (t' := .int) (by decide) (by decide)))).other W12 (Or.inr (slot_ne (Or.inr (Wd57 hw)) (Or.inr (Wd55 hw)) (by decide) (t := (.object "java/lang/Object")) (t' := (.object "java/util/List")) (by decide) (by decide))))
  have f14 := (f11.wr W12)
  obtain ⟨T15, h15, X15, e15, W15, st15⟩ := putF X12 hx hZ hown (host := "") (Or.inl (Wd56 hw)) Via.refl e12 f13 f14 (Or.inr ⟨(Wd57 hw), rfl, hnm⟩) (Wd6 hw) (ty := (.object "java/lang/Object")) (by decide) rfl rfl (g := (mkF m 35 #[.val (.ref a1), .val (.int (1 : Int32)), .val (.ref sv), .val (.int (0 : Int32)), .val (.ref el), .val (.ref vv), .val .null] [(.ref vv), (.ref a1)])) rfl rfl (hb hby d4_35)
  have Fx15 := f13.same W15
  have N15 := Fr.snoc X15 N12 g1
  refine OD.go (B := (T15.setTop (mkF m 38 #[.val (.ref a1), .val (.int (1 : Int32)), .val (.ref sv), .val (.int (0 : Int32)), .val (.ref el), .val (.ref vv), .val .null] []))) st15 ?_
  refine OD.go (B := (T15.setTop (mkF m 39 #[.val (.ref a1), .val (.int (1 : Int32)), .val (.ref sv), .val (.int (0 : Int32)), .val (.ref el), .val (.ref vv), .val .null] [(.ref a1)]))) (fun t k => XS.aloadN X15.here hx rfl (hb hby d4_38) rfl rfl k) ?_
  refine OD.go (B := (T15.setTop (mkF m 41 #[.val (.ref a1), .val (.int (1 : Int32)), .val (.ref sv), .val (.int (0 : Int32)), .val (.ref el), .val (.ref vv), .val .null] [.null, (.ref a1)]))) (fun t k => XS.aload X15.here hx rfl (hb hby d4_39) rfl rfl k) ?_
  have f16 := (((((F5.other W3 (Or.inr (slot_ne (Or.inr (Wd59 hw)) (Or.inr (Wd49 hw)) (by decide) (t := (.object "com/example/echo_panel/echopanel/channel/DisplayLimits")) (t' := .boolean) (by decide) (by decide)))).other W6 (Or.inr (slot_ne (Or.inr (Wd59 hw)) (Or.inr (Wd51 hw)) (by decide) (t := (.object "com/example/echo_panel/echopanel/channel/DisplayLimits")) (t' := (.object "com/example/echo_panel/echopanel/channel/Severity")) (by decide) (by decide)))).other W9 (Or.inr (slot_ne (Or.inr (Wd59 hw)) (Or.inr (Wd53 hw)) (by decide) (t := (.object "com/example/echo_panel/echopanel/channel/DisplayLimits")) (t' := .int) (by decide) (by decide)))).other W12 (Or.inr (slot_ne (Or.inr (Wd59 hw)) (Or.inr (Wd55 hw)) (by decide) (t := (.object "com/example/echo_panel/echopanel/channel/DisplayLimits")) (t' := (.object "java/util/List")) (by decide) (by decide)))).other W15 (Or.inr (slot_ne (Or.inr (Wd59 hw)) (Or.inr (Wd57 hw)) (by decide) (t := (.object "com/example/echo_panel/echopanel/channel/DisplayLimits")) (t' := (.object "java/lang/Object")) (by decide) (by decide))))
  have f17 := (f14.wr W15)
  obtain ⟨T18, h18, X18, e18, W18, st18⟩ := putF X15 hx hZ hown (host := "") (Or.inl (Wd58 hw)) Via.refl e15 f16 f17 (Or.inr ⟨(Wd59 hw), rfl, hnm⟩) (Wd6 hw) (ty := (.object "com/example/echo_panel/echopanel/channel/DisplayLimits")) (by decide) rfl rfl (g := (mkF m 41 #[.val (.ref a1), .val (.int (1 : Int32)), .val (.ref sv), .val (.int (0 : Int32)), .val (.ref el), .val (.ref vv), .val .null] [.null, (.ref a1)])) rfl rfl (hb hby d4_41)
  have Fx18 := f16.same W18
  have N18 := Fr.snoc X18 N15 g1
  refine OD.go (B := (T18.setTop (mkF m 44 #[.val (.ref a1), .val (.int (1 : Int32)), .val (.ref sv), .val (.int (0 : Int32)), .val (.ref el), .val (.ref vv), .val .null] []))) st18 ?_
  exact OD.retV X18 hx hlk Bd.returns (hb hby d4_44) (Nat.le_of_ble_eq_true rfl) (Nat.le_of_ble_eq_true rfl) ⟨rfl, N18, by rw [e18]; exact (((((((Keep.refl h0 [a1]).wr W3 (Or.inl (List.mem_of_getElem? (i := 0) rfl))).wr W6 (Or.inl (List.mem_of_getElem? (i := 0) rfl))).wr W9 (Or.inl (List.mem_of_getElem? (i := 0) rfl))).wr W12 (Or.inl (List.mem_of_getElem? (i := 0) rfl))).wr W15 (Or.inl (List.mem_of_getElem? (i := 0) rfl))).wr W18 (Or.inl (List.mem_of_getElem? (i := 0) rfl))), by rw [e18]; exact (((((Fx3.other W6 (Or.inr (slot_ne (Or.inr (Wd49 hw)) (Or.inr (Wd51 hw)) (by decide) (t := .boolean) (t' := (.object "com/example/echo_panel/echopanel/channel/Severity")) (by decide) (by decide)))).other W9 (Or.inr (slot_ne (Or.inr (Wd49 hw)) (Or.inr (Wd53 hw)) (by decide) (t := .boolean) (t' := .int) (by decide) (by decide)))).other W12 (Or.inr (slot_ne (Or.inr (Wd49 hw)) (Or.inr (Wd55 hw)) (by decide) (t := .boolean) (t' := (.object "java/util/List")) (by decide) (by decide)))).other W15 (Or.inr (slot_ne (Or.inr (Wd49 hw)) (Or.inr (Wd57 hw)) (by decide) (t := .boolean) (t' := (.object "java/lang/Object")) (by decide) (by decide)))).other W18 (Or.inr (slot_ne (Or.inr (Wd49 hw)) (Or.inr (Wd59 hw)) (by decide) (t := .boolean) (t' := (.object "com/example/echo_panel/echopanel/channel/DisplayLimits")) (by decide) (by decide)))), by rw [e18]; exact ((((Fx6.other W9 (Or.inr (slot_ne (Or.inr (Wd51 hw)) (Or.inr (Wd53 hw)) (by decide) (t := (.object "com/example/echo_panel/echopanel/channel/Severity")) (t' := .int) (by decide) (by decide)))).other W12 (Or.inr (slot_ne (Or.inr (Wd51 hw)) (Or.inr (Wd55 hw)) (by decide) (t := (.object "com/example/echo_panel/echopanel/channel/Severity")) (t' := (.object "java/util/List")) (by decide) (by decide)))).other W15 (Or.inr (slot_ne (Or.inr (Wd51 hw)) (Or.inr (Wd57 hw)) (by decide) (t := (.object "com/example/echo_panel/echopanel/channel/Severity")) (t' := (.object "java/lang/Object")) (by decide) (by decide)))).other W18 (Or.inr (slot_ne (Or.inr (Wd51 hw)) (Or.inr (Wd59 hw)) (by decide) (t := (.object "com/example/echo_panel/echopanel/channel/Severity")) (t' := (.object "com/example/echo_panel/echopanel/channel/DisplayLimits")) (by decide) (by decide)))), by rw [e18]; exact (((Fx9.other W12 (Or.inr (slot_ne (Or.inr (Wd53 hw)) (Or.inr (Wd55 hw)) (by decide) (t := .int) (t' := (.object "java/util/List")) (by decide) (by decide)))).other W15 (Or.inr (slot_ne (Or.inr (Wd53 hw)) (Or.inr (Wd57 hw)) (by decide) (t := .int) (t' := (.object "java/lang/Object")) (by decide) (by decide)))).other W18 (Or.inr (slot_ne (Or.inr (Wd53 hw)) (Or.inr (Wd59 hw)) (by decide) (t := .int) (t' := (.object "com/example/echo_panel/echopanel/channel/DisplayLimits")) (by decide) (by decide)))), by rw [e18]; exact ((Fx12.other W15 (Or.inr (slot_ne (Or.inr (Wd55 hw)) (Or.inr (Wd57 hw)) (by decide) (t := (.object "java/util/List")) (t' := (.object "java/lang/Object")) (by decide) (by decide)))).other W18 (Or.inr (slot_ne (Or.inr (Wd55 hw)) (Or.inr (Wd59 hw)) (by decide) (t := (.object "java/util/List")) (t' := (.object "com/example/echo_panel/echopanel/channel/DisplayLimits")) (by decide) (by decide)))), by rw [e18]; exact (Fx15.other W18 (Or.inr (slot_ne (Or.inr (Wd57 hw)) (Or.inr (Wd59 hw)) (by decide) (t := (.object "java/lang/Object")) (t' := (.object "com/example/echo_panel/echopanel/channel/DisplayLimits")) (by decide) (by decide)))), by rw [e18]; exact Fx18⟩
def Q_rmC5_11 (Z : State) (a1 : Addr) (sv : Addr) (el : Addr) (vv : Addr) (h0 : Heap) (n0 : Nat) (v : Option Value) (h : Heap) (L : List Loc) : Prop := v = none ∧ Fr n0 L ∧ Keep h0 h [a1] ∧ Fld Z h a1 "com/example/echo_panel/echopanel/channel/ChannelState" "connected" "Z" (.int (1 : Int32)) ∧ Fld Z h a1 "com/example/echo_panel/echopanel/channel/ChannelState" "severity" "Lcom/example/echo_panel/echopanel/channel/Severity;" (.ref sv) ∧ Fld Z h a1 "com/example/echo_panel/echopanel/channel/ChannelState" "precision" "I" (.int (0 : Int32)) ∧ Fld Z h a1 "com/example/echo_panel/echopanel/channel/ChannelState" "labels" "Ljava/util/List;" (.ref el) ∧ Fld Z h a1 "com/example/echo_panel/echopanel/channel/ChannelState" "value" "Ljava/lang/Object;" (.ref vv) ∧ Fld Z h a1 "com/example/echo_panel/echopanel/channel/ChannelState" "limits" "Lcom/example/echo_panel/echopanel/channel/DisplayLimits;" .null
set_option maxRecDepth 65536 in
set_option maxHeartbeats 40000000 in
theorem rmC5_11 (l : Launch) (Z : State) (a0 : Array Value) (hw : ∀ d ∈ tables_1, d.before a0 Z = true) (ws : List Jvm.Cond) (a1 : Addr) (sv : Addr) (el : Addr) (vv : Addr) (h0 : Heap) (n0 : Nat) (Z0 : n0 ≤ h0.size) (E1 : Exa Z h0 a1 "com/example/echo_panel/echopanel/channel/ChannelState") (F0 : Fld Z h0 a1 "com/example/echo_panel/echopanel/channel/ChannelState" "connected" "Z" (.int (0 : Int32))) (F1 : Fld Z h0 a1 "com/example/echo_panel/echopanel/channel/ChannelState" "severity" "Lcom/example/echo_panel/echopanel/channel/Severity;" .null) (F2 : Fld Z h0 a1 "com/example/echo_panel/echopanel/channel/ChannelState" "precision" "I" (.int (0 : Int32))) (F3 : Fld Z h0 a1 "com/example/echo_panel/echopanel/channel/ChannelState" "labels" "Ljava/util/List;" .null) (F4 : Fld Z h0 a1 "com/example/echo_panel/echopanel/channel/ChannelState" "value" "Ljava/lang/Object;" .null) (F5 : Fld Z h0 a1 "com/example/echo_panel/echopanel/channel/ChannelState" "limits" "Lcom/example/echo_panel/echopanel/channel/DisplayLimits;" .null) (g1 : n0 ≤ a1) (X00 : Old Z n0 h0) (ea : Addr) (kE : ClassId) (Se : Sta Z Z.heap "java/util/ImmutableCollections" "EMPTY_LIST" "Ljava/util/ImmutableCollections$ListN;" (.ref el)) (Ee : Exa Z Z.heap el "java/util/ImmutableCollections$ListN") (Fa : Fld Z Z.heap el "java/util/ImmutableCollections$ListN" "allowNulls" "Z" (.int (0 : Int32))) (Fel : Fld Z Z.heap el "java/util/ImmutableCollections$ListN" "elements" "[Ljava/lang/Object;" (.ref ea)) (Ae : Arv Z Z.heap ea kE (.object "java/lang/Object") (0 : Int32) [] .null) :
    MetFree l (⟨"com/example/echo_panel/echopanel/channel/ChannelState", "<init>", "(ZLcom/example/echo_panel/echopanel/channel/Severity;ILjava/util/List;Ljava/lang/Object;)V"⟩ : MethodName) (head1 (Jvm.Cond.code (⟨"com/example/echo_panel/echopanel/channel/ChannelState", "<init>", "(ZLcom/example/echo_panel/echopanel/channel/Severity;ILjava/util/List;Ljava/lang/Object;)V"⟩ : MethodName) prog_15_method_2_code 6 none :: ws) ({ frames := 3, cells := 0, slots := 0, locals := 43 } : Room)) (fun a U => a = #[(.ref a1), (.int (1 : Int32)), (.ref sv), (.int (0 : Int32)), (.ref el), (.ref vv)] ∧ Z.Warmed39 U.vm ∧ U.heap = h0) (fun _ _ _ _ _ => True) (fun _ U o U' => ∃ v L, o = .returned v ∧ Q_rmC5_11 Z a1 sv el vv h0 n0 v U'.heap L ∧ FrameEnd U o U' L ({ frames := 3, cells := 0, slots := 0, locals := 43 } : Room).cells ({ frames := 3, cells := 0, slots := 0, locals := 43 } : Room).slots) := by
  refine MetFree.of_bodySF (plainFor_of_name pn7) hisR ?_
  intro p e s m args below meth c s₁ Bd hml0 hP hK
  obtain ⟨rfl, hZ, hh⟩ := hP
  have hx := Bd.exec
  have hby := Bd.bytes
  have hlk : meth.locks = false := Bd.notSynchronized
  have hml : c.maxLocals = 6 := hml0
  have hown : s.vm.findClass "com/example/echo_panel/echopanel/channel/ChannelState" = some m.cls := findClass_of_methodNamed Bd.named
  have hnm := (name_of_methodNamed Bd.named Bd.method).1
  have X0 : Stand p l e ({ frames := 3, cells := 0, slots := 0, locals := 43 } : Room) s m #[(.ref a1), (.int (1 : Int32)), (.ref sv), (.int (0 : Int32)), (.ref el), (.ref vv)] below meth c s₁ [] 0 0 := Stand.of_body Bd
  have e0 : s₁.heap = h0 := by rw [← hh, Bd.state]; rfl
  have N0 := Fr.nil n0
  suffices hgo : OD p e s below (Q_rmC5_11 Z a1 sv el vv h0 n0) ({ frames := 3, cells := 0, slots := 0, locals := 43 } : Room).cells ({ frames := 3, cells := 0, slots := 0, locals := 43 } : Room).slots (s₁.setTop (mkF m 0 #[.val (.ref a1), .val (.int (1 : Int32)), .val (.ref sv), .val (.int (0 : Int32)), .val (.ref el), .val (.ref vv)] [])) by
    obtain ⟨s₂, o, hgo1, hgo2⟩ := hgo
    exact ⟨s₂, o, castTop (ef14 m a1 (1 : Int32) sv (0 : Int32) el vv) hgo1, hgo2⟩
  refine OD.go (B := (s₁.setTop (mkF m 1 #[.val (.ref a1), .val (.int (1 : Int32)), .val (.ref sv), .val (.int (0 : Int32)), .val (.ref el), .val (.ref vv)] [(.ref a1)]))) (fun t k => XS.aloadN X0.here hx rfl (hb hby d3_0) rfl rfl k) ?_
  refine OD.go (B := (s₁.setTop (mkF m 2 #[.val (.ref a1), .val (.int (1 : Int32)), .val (.ref sv), .val (.int (0 : Int32)), .val (.ref el), .val (.ref vv)] [(.int (1 : Int32)), (.ref a1)]))) (fun t k => XS.iloadN X0.here hx rfl (hb hby d3_1) rfl k) ?_
  refine OD.go (B := (s₁.setTop (mkF m 3 #[.val (.ref a1), .val (.int (1 : Int32)), .val (.ref sv), .val (.int (0 : Int32)), .val (.ref el), .val (.ref vv)] [(.ref sv), (.int (1 : Int32)), (.ref a1)]))) (fun t k => XS.aloadN X0.here hx rfl (hb hby d3_2) rfl rfl k) ?_
  refine OD.go (B := (s₁.setTop (mkF m 4 #[.val (.ref a1), .val (.int (1 : Int32)), .val (.ref sv), .val (.int (0 : Int32)), .val (.ref el), .val (.ref vv)] [(.int (0 : Int32)), (.ref sv), (.int (1 : Int32)), (.ref a1)]))) (fun t k => XS.iloadN X0.here hx rfl (hb hby d3_3) rfl k) ?_
  refine OD.go (B := (s₁.setTop (mkF m 6 #[.val (.ref a1), .val (.int (1 : Int32)), .val (.ref sv), .val (.int (0 : Int32)), .val (.ref el), .val (.ref vv)] [(.ref el), (.int (0 : Int32)), (.ref sv), (.int (1 : Int32)), (.ref a1)]))) (fun t k => XS.aload X0.here hx rfl (hb hby d3_4) rfl rfl k) ?_
  refine OD.go (B := (s₁.setTop (mkF m 8 #[.val (.ref a1), .val (.int (1 : Int32)), .val (.ref sv), .val (.int (0 : Int32)), .val (.ref el), .val (.ref vv)] [(.ref vv), (.ref el), (.int (0 : Int32)), (.ref sv), (.int (1 : Int32)), (.ref a1)]))) (fun t k => XS.aload X0.here hx rfl (hb hby d3_6) rfl rfl k) ?_
  refine OD.go (B := (s₁.setTop (mkF m 9 #[.val (.ref a1), .val (.int (1 : Int32)), .val (.ref sv), .val (.int (0 : Int32)), .val (.ref el), .val (.ref vv)] [.null, (.ref vv), (.ref el), (.int (0 : Int32)), (.ref sv), (.int (1 : Int32)), (.ref a1)]))) (fun t k => XS.aconstNull X0.here hx rfl (hb hby d3_8) k) ?_
  obtain ⟨_, _, ⟨T1, L1, k1, n1⟩, -, X1, ⟨Lc1, hQ1, l1, y1, z1⟩, st1⟩ := X0.specialBack hx (y := (⟨"com/example/echo_panel/echopanel/channel/ChannelState", "<init>", "(ZLcom/example/echo_panel/echopanel/channel/Severity;ILjava/util/List;Ljava/lang/Object;Lcom/example/echo_panel/echopanel/channel/DisplayLimits;)V"⟩ : MethodName)) rfl hown (mvT hZ (Wd19 hw)) (mvT hZ (Wd20 hw)) (mvT hZ (Wd21 hw)) (by decide) (backOf (W := 0) (rmC6_11 l Z a0 hw [] a1 sv el vv h0 n0 Z0 E1 F0 F1 F2 F3 F4 F5 g1 X00 ea kE Se Ee Fa Fel Ae) hZ (Wd21 hw) (Wd3 hw) (by decide) (by decide)) (g := (mkF m 9 #[.val (.ref a1), .val (.int (1 : Int32)), .val (.ref sv), .val (.int (0 : Int32)), .val (.ref el), .val (.ref vv)] [.null, (.ref vv), (.ref el), (.int (0 : Int32)), (.ref sv), (.int (1 : Int32)), (.ref a1)])) rfl (by rw [hml]; rfl) (Steps.refl _) (a := a1) (argsL := [(.int (1 : Int32)), (.ref sv), (.int (0 : Int32)), (.ref el), (.ref vv), .null]) (rest := []) (lenOf pd4 rfl) rfl (by show 2 * 0 + _ ≤ _; exact Nat.le_of_eq rfl) (hb hby d3_9) (fun _ _ => ⟨rfl, e0, (Nat.le_of_ble_eq_true rfl), (Nat.le_of_ble_eq_true rfl)⟩)
  dsimp only [Pt.U, Pt.locs, Pt.cells, Pt.slots] at X1 l1 y1 z1 st1 hQ1
  subst l1 y1 z1
  obtain ⟨rfl, Nq1, K1, G0_1, G1_1, G2_1, G3_1, G4_1, G5_1⟩ := hQ1
  have N1 := Fr.app N0 Nq1
  refine OD.via (B := (T1.setTop (mkF m 12 #[.val (.ref a1), .val (.int (1 : Int32)), .val (.ref sv), .val (.int (0 : Int32)), .val (.ref el), .val (.ref vv)] []))) st1 ?_
  exact OD.retV X1 hx hlk Bd.returns (hb hby d3_12) (Nat.le_of_ble_eq_true rfl) (Nat.le_of_ble_eq_true rfl) ⟨rfl, N1, by exact ((Keep.refl h0 [a1]).trans K1 (allS (Or.inl (List.mem_of_getElem? (i := 0) rfl)) all0)), by exact G0_1, by exact G1_1, by exact G2_1, by exact G3_1, by exact G4_1, by exact G5_1⟩
def Q_rmOf_00 (Z : State) (h0 : Heap) (n0 : Nat) (el : Addr) (v : Option Value) (h : Heap) (L : List Loc) : Prop := ∃ b, v = some (.ref b) ∧ Fr n0 L ∧ Keep h0 h [] ∧ h0.size ≤ b ∧ Exa Z h b "com/example/echo_panel/echopanel/channel/ChannelState" ∧ Fld Z h b "com/example/echo_panel/echopanel/channel/ChannelState" "connected" "Z" (.int (1 : Int32)) ∧ Fld Z h b "com/example/echo_panel/echopanel/channel/ChannelState" "severity" "Lcom/example/echo_panel/echopanel/channel/Severity;" .null ∧ Fld Z h b "com/example/echo_panel/echopanel/channel/ChannelState" "precision" "I" (.int (0 : Int32)) ∧ Fld Z h b "com/example/echo_panel/echopanel/channel/ChannelState" "labels" "Ljava/util/List;" (.ref el) ∧ Fld Z h b "com/example/echo_panel/echopanel/channel/ChannelState" "value" "Ljava/lang/Object;" .null ∧ Fld Z h b "com/example/echo_panel/echopanel/channel/ChannelState" "limits" "Lcom/example/echo_panel/echopanel/channel/DisplayLimits;" .null
set_option maxRecDepth 65536 in
set_option maxHeartbeats 40000000 in
theorem rmOf_00 (l : Launch) (Z : State) (a0 : Array Value) (hw : ∀ d ∈ tables_1, d.before a0 Z = true) (ws : List Jvm.Cond)  (h0 : Heap) (n0 : Nat) (X00 : Old Z n0 h0) (el ea : Addr) (kE : ClassId) (Se : Sta Z Z.heap "java/util/ImmutableCollections" "EMPTY_LIST" "Ljava/util/ImmutableCollections$ListN;" (.ref el)) (Ee : Exa Z Z.heap el "java/util/ImmutableCollections$ListN") (Fa : Fld Z Z.heap el "java/util/ImmutableCollections$ListN" "allowNulls" "Z" (.int (0 : Int32))) (Fel : Fld Z Z.heap el "java/util/ImmutableCollections$ListN" "elements" "[Ljava/lang/Object;" (.ref ea)) (Ae : Arv Z Z.heap ea kE (.object "java/lang/Object") (0 : Int32) [] .null) (Z0 : n0 ≤ h0.size) (Ss : Sta Z Z.heap "com/example/echo_panel/echopanel/channel/Severity" "NO_ALARM" "Lcom/example/echo_panel/echopanel/channel/Severity;" .null) :
    MetFree l (⟨"com/example/echo_panel/echopanel/channel/ChannelState", "of", "(Ljava/lang/Object;)Lcom/example/echo_panel/echopanel/channel/ChannelState;"⟩ : MethodName) (head1 (Jvm.Cond.code (⟨"com/example/echo_panel/echopanel/channel/ChannelState", "of", "(Ljava/lang/Object;)Lcom/example/echo_panel/echopanel/channel/ChannelState;"⟩ : MethodName) prog_15_method_3_code 1 (some (.object "com/example/echo_panel/echopanel/channel/ChannelState")) :: ws) ({ frames := 4, cells := 1, slots := 6, locals := 61 } : Room)) (fun a U => a = #[.null] ∧ Z.Warmed39 U.vm ∧ U.heap = h0) (fun _ _ _ _ _ => True) (fun _ U o U' => ∃ v L, o = .returned v ∧ Q_rmOf_00 Z h0 n0 el v U'.heap L ∧ FrameEnd U o U' L ({ frames := 4, cells := 1, slots := 6, locals := 61 } : Room).cells ({ frames := 4, cells := 1, slots := 6, locals := 61 } : Room).slots) := by
  refine MetFree.of_bodySF (plainFor_of_name pn7) hisR ?_
  intro p e s m args below meth c s₁ Bd hml0 hP hK
  obtain ⟨rfl, hZ, hh⟩ := hP
  have hx := Bd.exec
  have hby := Bd.bytes
  have hlk : meth.locks = false := Bd.notSynchronized
  have hml : c.maxLocals = 1 := hml0
  have hown : s.vm.findClass "com/example/echo_panel/echopanel/channel/ChannelState" = some m.cls := findClass_of_methodNamed Bd.named
  have hnm := (name_of_methodNamed Bd.named Bd.method).1
  have X0 : Stand p l e ({ frames := 4, cells := 1, slots := 6, locals := 61 } : Room) s m #[.null] below meth c s₁ [] 0 0 := Stand.of_body Bd
  have e0 : s₁.heap = h0 := by rw [← hh, Bd.state]; rfl
  have N0 := Fr.nil n0
  suffices hgo : OD p e s below (Q_rmOf_00 Z h0 n0 el) ({ frames := 4, cells := 1, slots := 6, locals := 61 } : Room).cells ({ frames := 4, cells := 1, slots := 6, locals := 61 } : Room).slots (s₁.setTop (mkF m 0 #[.val .null] [])) by
    obtain ⟨s₂, o, hgo1, hgo2⟩ := hgo
    exact ⟨s₂, o, castTop (ef15 m ) hgo1, hgo2⟩
  obtain ⟨T1, h1, X1, e1, E1, A1, D1, -, st1⟩ := newO X0 hx hZ hown (Wd5 hw) (Wd6 hw) (Wd3 hw) e0 (g := (mkF m 0 #[.val .null] [])) rfl (hb hby d1_0) (Nat.le_of_ble_eq_true rfl) (Nat.le_of_ble_eq_true rfl)
  obtain ⟨b1, g1⟩ : ∃ z, z = h0.size := ⟨_, rfl⟩
  rw [← g1] at A1 D1 st1
  have Fn2 : Fld Z h1 b1 "com/example/echo_panel/echopanel/channel/ChannelState" "connected" "Z" (.int (0 : Int32)) := D1 (Or.inr (Wd49 hw)) (ty := .boolean) (by decide)
  have Fn3 : Fld Z h1 b1 "com/example/echo_panel/echopanel/channel/ChannelState" "severity" "Lcom/example/echo_panel/echopanel/channel/Severity;" .null := D1 (Or.inr (Wd51 hw)) (ty := (.object "com/example/echo_panel/echopanel/channel/Severity")) (by decide)
  have Fn4 : Fld Z h1 b1 "com/example/echo_panel/echopanel/channel/ChannelState" "precision" "I" (.int (0 : Int32)) := D1 (Or.inr (Wd53 hw)) (ty := .int) (by decide)
  have Fn5 : Fld Z h1 b1 "com/example/echo_panel/echopanel/channel/ChannelState" "labels" "Ljava/util/List;" .null := D1 (Or.inr (Wd55 hw)) (ty := (.object "java/util/List")) (by decide)
  have Fn6 : Fld Z h1 b1 "com/example/echo_panel/echopanel/channel/ChannelState" "value" "Ljava/lang/Object;" .null := D1 (Or.inr (Wd57 hw)) (ty := (.object "java/lang/Object")) (by decide)
  have Fn7 : Fld Z h1 b1 "com/example/echo_panel/echopanel/channel/ChannelState" "limits" "Lcom/example/echo_panel/echopanel/channel/DisplayLimits;" .null := D1 (Or.inr (Wd59 hw)) (ty := (.object "com/example/echo_panel/echopanel/channel/DisplayLimits")) (by decide)
  refine OD.go (B := (T1.setTop (mkF m 3 #[.val .null] [(.ref b1)]))) st1 ?_
  refine OD.go (B := (T1.setTop (mkF m 4 #[.val .null] [(.ref b1), (.ref b1)]))) (fun t k => XS.dup X1.here hx rfl (hb hby d1_3) rfl rfl k) ?_
  refine OD.go (B := (T1.setTop (mkF m 5 #[.val .null] [(.int (1 : Int32)), (.ref b1), (.ref b1)]))) (fun t k => XS.iconst X1.here hx rfl (hb hby d1_4) k) ?_
  have f8 := (Ss.ext (X00.ext E1).2)
  obtain ⟨T9, X9, e9, st9⟩ := getS2 X1 hx hZ hown (host := "") (Or.inl (Wd7 hw)) Via.refl e1 f8 (g := (mkF m 5 #[.val .null] [(.int (1 : Int32)), (.ref b1), (.ref b1)])) rfl (hb hby d1_5)
  refine OD.go (B := (T9.setTop (mkF m 8 #[.val .null] [.null, (.int (1 : Int32)), (.ref b1), (.ref b1)]))) st9 ?_
  refine OD.go (B := (T9.setTop (mkF m 9 #[.val .null] [(.int (0 : Int32)), .null, (.int (1 : Int32)), (.ref b1), (.ref b1)]))) (fun t k => XS.iconst X9.here hx rfl (hb hby d1_8) k) ?_
  obtain ⟨_, _, ⟨T10, L10, k10, n10⟩, -, X10, ⟨Lc10, hQ10, l10, y10, z10⟩, st10⟩ := Jvm.LawKit.callS X9 hx (y := (⟨"java/util/List", "of", "()Ljava/util/List;"⟩ : MethodName)) hown (mvT hZ (Wd10 hw)) (mvT hZ (Wd11 hw)) (mvT hZ (Wd12 hw)) (mvT hZ (Wd13 hw)) (by decide) (backOf (W := 5) (rmLO l Z a0 hw []  h1 n0 (X00.ext E1) el ea kE Se Ee Fa Fel Ae) hZ (Wd13 hw) (Wd12 hw) (by decide) (by decide)) (g := (mkF m 9 #[.val .null] [(.int (0 : Int32)), .null, (.int (1 : Int32)), (.ref b1), (.ref b1)])) rfl (by rw [hml]; rfl) (argsL := []) (rest := [(.int (0 : Int32)), .null, (.int (1 : Int32)), (.ref b1), (.ref b1)]) (lenOf pd5 rfl) rfl (by show 2 * 0 + _ ≤ _; exact Nat.le_of_eq rfl) (hb hby d1_9) (fun _ _ => ⟨rfl, e9, (Nat.le_of_ble_eq_true rfl), (Nat.le_of_ble_eq_true rfl)⟩)
  dsimp only [Pt.U, Pt.locs, Pt.cells, Pt.slots] at X10 l10 y10 z10 st10 hQ10
  subst l10 y10 z10
  obtain ⟨rfl, rfl, e10⟩ := hQ10
  have N10 := Fr.app N0 (Fr.nil _)
  refine OD.go (B := (T10.setTop (mkF m 12 #[.val .null] [(.ref el), (.int (0 : Int32)), .null, (.int (1 : Int32)), (.ref b1), (.ref b1)]))) st10 ?_
  refine OD.go (B := (T10.setTop (mkF m 13 #[.val .null] [.null, (.ref el), (.int (0 : Int32)), .null, (.int (1 : Int32)), (.ref b1), (.ref b1)]))) (fun t k => XS.aloadN X10.here hx rfl (hb hby d1_12) rfl rfl k) ?_
  obtain ⟨_, _, ⟨T11, L11, k11, n11⟩, -, X11, ⟨Lc11, hQ11, l11, y11, z11⟩, st11⟩ := X10.specialBack hx (y := (⟨"com/example/echo_panel/echopanel/channel/ChannelState", "<init>", "(ZLcom/example/echo_panel/echopanel/channel/Severity;ILjava/util/List;Ljava/lang/Object;)V"⟩ : MethodName)) rfl hown (mvT hZ (Wd16 hw)) (mvT hZ (Wd17 hw)) (mvT hZ (Wd18 hw)) (by decide) (backOf (W := 1) (rmC5_00 l Z a0 hw [] b1 el h1 n0 (Nat.le_trans Z0 E1.1) A1 Fn2 Fn3 Fn4 Fn5 Fn6 Fn7 (Nat.le_trans Z0 (Nat.le_of_eq g1.symm)) (X00.ext E1) ea kE Se Ee Fa Fel Ae) hZ (Wd18 hw) (Wd3 hw) (by decide) (by decide)) (g := (mkF m 13 #[.val .null] [.null, (.ref el), (.int (0 : Int32)), .null, (.int (1 : Int32)), (.ref b1), (.ref b1)])) rfl (by rw [hml]; rfl) (Steps.refl _) (a := b1) (argsL := [(.int (1 : Int32)), .null, (.int (0 : Int32)), (.ref el), .null]) (rest := [(.ref b1)]) (lenOf pd6 rfl) rfl (by show 2 * 0 + _ ≤ _; exact Nat.le_of_eq rfl) (hb hby d1_13) (fun _ _ => ⟨rfl, e10, (Nat.le_of_ble_eq_true rfl), (Nat.le_of_ble_eq_true rfl)⟩)
  dsimp only [Pt.U, Pt.locs, Pt.cells, Pt.slots] at X11 l11 y11 z11 st11 hQ11
  subst l11 y11 z11
  obtain ⟨rfl, Nq11, K11, G0_11, G1_11, G2_11, G3_11, G4_11, G5_11⟩ := hQ11
  have N11 := Fr.app N10 Nq11
  refine OD.via (B := (T11.setTop (mkF m 16 #[.val .null] [(.ref b1)]))) st11 ?_
  exact OD.ret X11 hx hlk (t := (.object "com/example/echo_panel/echopanel/channel/ChannelState")) Bd.returns rfl (Or.inr (Or.inr (Or.inr (Or.inr ⟨rfl, rfl, rfl⟩)))) (hb hby d1_16) (Nat.le_of_ble_eq_true rfl) (Nat.le_of_ble_eq_true rfl) ⟨_, rfl, N11, by exact (((Keep.refl h0 []).ext E1).trans K11 (allS (Or.inr (Nat.le_trans (Nat.le_refl _) (Nat.le_of_eq g1.symm))) all0)), (Nat.le_trans (Nat.le_refl _) (Nat.le_of_eq g1.symm)), by exact (A1.keep K11), by exact G0_11, by exact G1_11, by exact G2_11, by exact G3_11, by exact G4_11, by exact G5_11⟩
def Q_rmOf_01 (Z : State) (vv : Addr) (h0 : Heap) (n0 : Nat) (el : Addr) (v : Option Value) (h : Heap) (L : List Loc) : Prop := ∃ b, v = some (.ref b) ∧ Fr n0 L ∧ Keep h0 h [] ∧ h0.size ≤ b ∧ Exa Z h b "com/example/echo_panel/echopanel/channel/ChannelState" ∧ Fld Z h b "com/example/echo_panel/echopanel/channel/ChannelState" "connected" "Z" (.int (1 : Int32)) ∧ Fld Z h b "com/example/echo_panel/echopanel/channel/ChannelState" "severity" "Lcom/example/echo_panel/echopanel/channel/Severity;" .null ∧ Fld Z h b "com/example/echo_panel/echopanel/channel/ChannelState" "precision" "I" (.int (0 : Int32)) ∧ Fld Z h b "com/example/echo_panel/echopanel/channel/ChannelState" "labels" "Ljava/util/List;" (.ref el) ∧ Fld Z h b "com/example/echo_panel/echopanel/channel/ChannelState" "value" "Ljava/lang/Object;" (.ref vv) ∧ Fld Z h b "com/example/echo_panel/echopanel/channel/ChannelState" "limits" "Lcom/example/echo_panel/echopanel/channel/DisplayLimits;" .null
set_option maxRecDepth 65536 in
set_option maxHeartbeats 40000000 in
theorem rmOf_01 (l : Launch) (Z : State) (a0 : Array Value) (hw : ∀ d ∈ tables_1, d.before a0 Z = true) (ws : List Jvm.Cond) (vv : Addr) (h0 : Heap) (n0 : Nat) (X00 : Old Z n0 h0) (el ea : Addr) (kE : ClassId) (Se : Sta Z Z.heap "java/util/ImmutableCollections" "EMPTY_LIST" "Ljava/util/ImmutableCollections$ListN;" (.ref el)) (Ee : Exa Z Z.heap el "java/util/ImmutableCollections$ListN") (Fa : Fld Z Z.heap el "java/util/ImmutableCollections$ListN" "allowNulls" "Z" (.int (0 : Int32))) (Fel : Fld Z Z.heap el "java/util/ImmutableCollections$ListN" "elements" "[Ljava/lang/Object;" (.ref ea)) (Ae : Arv Z Z.heap ea kE (.object "java/lang/Object") (0 : Int32) [] .null) (Z0 : n0 ≤ h0.size) (Ss : Sta Z Z.heap "com/example/echo_panel/echopanel/channel/Severity" "NO_ALARM" "Lcom/example/echo_panel/echopanel/channel/Severity;" .null) :
    MetFree l (⟨"com/example/echo_panel/echopanel/channel/ChannelState", "of", "(Ljava/lang/Object;)Lcom/example/echo_panel/echopanel/channel/ChannelState;"⟩ : MethodName) (head1 (Jvm.Cond.code (⟨"com/example/echo_panel/echopanel/channel/ChannelState", "of", "(Ljava/lang/Object;)Lcom/example/echo_panel/echopanel/channel/ChannelState;"⟩ : MethodName) prog_15_method_3_code 1 (some (.object "com/example/echo_panel/echopanel/channel/ChannelState")) :: ws) ({ frames := 4, cells := 1, slots := 6, locals := 61 } : Room)) (fun a U => a = #[(.ref vv)] ∧ Z.Warmed39 U.vm ∧ U.heap = h0) (fun _ _ _ _ _ => True) (fun _ U o U' => ∃ v L, o = .returned v ∧ Q_rmOf_01 Z vv h0 n0 el v U'.heap L ∧ FrameEnd U o U' L ({ frames := 4, cells := 1, slots := 6, locals := 61 } : Room).cells ({ frames := 4, cells := 1, slots := 6, locals := 61 } : Room).slots) := by
  refine MetFree.of_bodySF (plainFor_of_name pn7) hisR ?_
  intro p e s m args below meth c s₁ Bd hml0 hP hK
  obtain ⟨rfl, hZ, hh⟩ := hP
  have hx := Bd.exec
  have hby := Bd.bytes
  have hlk : meth.locks = false := Bd.notSynchronized
  have hml : c.maxLocals = 1 := hml0
  have hown : s.vm.findClass "com/example/echo_panel/echopanel/channel/ChannelState" = some m.cls := findClass_of_methodNamed Bd.named
  have hnm := (name_of_methodNamed Bd.named Bd.method).1
  have X0 : Stand p l e ({ frames := 4, cells := 1, slots := 6, locals := 61 } : Room) s m #[(.ref vv)] below meth c s₁ [] 0 0 := Stand.of_body Bd
  have e0 : s₁.heap = h0 := by rw [← hh, Bd.state]; rfl
  have N0 := Fr.nil n0
  suffices hgo : OD p e s below (Q_rmOf_01 Z vv h0 n0 el) ({ frames := 4, cells := 1, slots := 6, locals := 61 } : Room).cells ({ frames := 4, cells := 1, slots := 6, locals := 61 } : Room).slots (s₁.setTop (mkF m 0 #[.val (.ref vv)] [])) by
    obtain ⟨s₂, o, hgo1, hgo2⟩ := hgo
    exact ⟨s₂, o, castTop (ef0 m vv) hgo1, hgo2⟩
  obtain ⟨T1, h1, X1, e1, E1, A1, D1, -, st1⟩ := newO X0 hx hZ hown (Wd5 hw) (Wd6 hw) (Wd3 hw) e0 (g := (mkF m 0 #[.val (.ref vv)] [])) rfl (hb hby d1_0) (Nat.le_of_ble_eq_true rfl) (Nat.le_of_ble_eq_true rfl)
  obtain ⟨b1, g1⟩ : ∃ z, z = h0.size := ⟨_, rfl⟩
  rw [← g1] at A1 D1 st1
  have Fn2 : Fld Z h1 b1 "com/example/echo_panel/echopanel/channel/ChannelState" "connected" "Z" (.int (0 : Int32)) := D1 (Or.inr (Wd49 hw)) (ty := .boolean) (by decide)
  have Fn3 : Fld Z h1 b1 "com/example/echo_panel/echopanel/channel/ChannelState" "severity" "Lcom/example/echo_panel/echopanel/channel/Severity;" .null := D1 (Or.inr (Wd51 hw)) (ty := (.object "com/example/echo_panel/echopanel/channel/Severity")) (by decide)
  have Fn4 : Fld Z h1 b1 "com/example/echo_panel/echopanel/channel/ChannelState" "precision" "I" (.int (0 : Int32)) := D1 (Or.inr (Wd53 hw)) (ty := .int) (by decide)
  have Fn5 : Fld Z h1 b1 "com/example/echo_panel/echopanel/channel/ChannelState" "labels" "Ljava/util/List;" .null := D1 (Or.inr (Wd55 hw)) (ty := (.object "java/util/List")) (by decide)
  have Fn6 : Fld Z h1 b1 "com/example/echo_panel/echopanel/channel/ChannelState" "value" "Ljava/lang/Object;" .null := D1 (Or.inr (Wd57 hw)) (ty := (.object "java/lang/Object")) (by decide)
  have Fn7 : Fld Z h1 b1 "com/example/echo_panel/echopanel/channel/ChannelState" "limits" "Lcom/example/echo_panel/echopanel/channel/DisplayLimits;" .null := D1 (Or.inr (Wd59 hw)) (ty := (.object "com/example/echo_panel/echopanel/channel/DisplayLimits")) (by decide)
  refine OD.go (B := (T1.setTop (mkF m 3 #[.val (.ref vv)] [(.ref b1)]))) st1 ?_
  refine OD.go (B := (T1.setTop (mkF m 4 #[.val (.ref vv)] [(.ref b1), (.ref b1)]))) (fun t k => XS.dup X1.here hx rfl (hb hby d1_3) rfl rfl k) ?_
  refine OD.go (B := (T1.setTop (mkF m 5 #[.val (.ref vv)] [(.int (1 : Int32)), (.ref b1), (.ref b1)]))) (fun t k => XS.iconst X1.here hx rfl (hb hby d1_4) k) ?_
  have f8 := (Ss.ext (X00.ext E1).2)
  obtain ⟨T9, X9, e9, st9⟩ := getS2 X1 hx hZ hown (host := "") (Or.inl (Wd7 hw)) Via.refl e1 f8 (g := (mkF m 5 #[.val (.ref vv)] [(.int (1 : Int32)), (.ref b1), (.ref b1)])) rfl (hb hby d1_5)
  refine OD.go (B := (T9.setTop (mkF m 8 #[.val (.ref vv)] [.null, (.int (1 : Int32)), (.ref b1), (.ref b1)]))) st9 ?_
  refine OD.go (B := (T9.setTop (mkF m 9 #[.val (.ref vv)] [(.int (0 : Int32)), .null, (.int (1 : Int32)), (.ref b1), (.ref b1)]))) (fun t k => XS.iconst X9.here hx rfl (hb hby d1_8) k) ?_
  obtain ⟨_, _, ⟨T10, L10, k10, n10⟩, -, X10, ⟨Lc10, hQ10, l10, y10, z10⟩, st10⟩ := Jvm.LawKit.callS X9 hx (y := (⟨"java/util/List", "of", "()Ljava/util/List;"⟩ : MethodName)) hown (mvT hZ (Wd10 hw)) (mvT hZ (Wd11 hw)) (mvT hZ (Wd12 hw)) (mvT hZ (Wd13 hw)) (by decide) (backOf (W := 5) (rmLO l Z a0 hw []  h1 n0 (X00.ext E1) el ea kE Se Ee Fa Fel Ae) hZ (Wd13 hw) (Wd12 hw) (by decide) (by decide)) (g := (mkF m 9 #[.val (.ref vv)] [(.int (0 : Int32)), .null, (.int (1 : Int32)), (.ref b1), (.ref b1)])) rfl (by rw [hml]; rfl) (argsL := []) (rest := [(.int (0 : Int32)), .null, (.int (1 : Int32)), (.ref b1), (.ref b1)]) (lenOf pd5 rfl) rfl (by show 2 * 0 + _ ≤ _; exact Nat.le_of_eq rfl) (hb hby d1_9) (fun _ _ => ⟨rfl, e9, (Nat.le_of_ble_eq_true rfl), (Nat.le_of_ble_eq_true rfl)⟩)
  dsimp only [Pt.U, Pt.locs, Pt.cells, Pt.slots] at X10 l10 y10 z10 st10 hQ10
  subst l10 y10 z10
  obtain ⟨rfl, rfl, e10⟩ := hQ10
  have N10 := Fr.app N0 (Fr.nil _)
  refine OD.go (B := (T10.setTop (mkF m 12 #[.val (.ref vv)] [(.ref el), (.int (0 : Int32)), .null, (.int (1 : Int32)), (.ref b1), (.ref b1)]))) st10 ?_
  refine OD.go (B := (T10.setTop (mkF m 13 #[.val (.ref vv)] [(.ref vv), (.ref el), (.int (0 : Int32)), .null, (.int (1 : Int32)), (.ref b1), (.ref b1)]))) (fun t k => XS.aloadN X10.here hx rfl (hb hby d1_12) rfl rfl k) ?_
  obtain ⟨_, _, ⟨T11, L11, k11, n11⟩, -, X11, ⟨Lc11, hQ11, l11, y11, z11⟩, st11⟩ := X10.specialBack hx (y := (⟨"com/example/echo_panel/echopanel/channel/ChannelState", "<init>", "(ZLcom/example/echo_panel/echopanel/channel/Severity;ILjava/util/List;Ljava/lang/Object;)V"⟩ : MethodName)) rfl hown (mvT hZ (Wd16 hw)) (mvT hZ (Wd17 hw)) (mvT hZ (Wd18 hw)) (by decide) (backOf (W := 1) (rmC5_01 l Z a0 hw [] b1 el vv h1 n0 (Nat.le_trans Z0 E1.1) A1 Fn2 Fn3 Fn4 Fn5 Fn6 Fn7 (Nat.le_trans Z0 (Nat.le_of_eq g1.symm)) (X00.ext E1) ea kE Se Ee Fa Fel Ae) hZ (Wd18 hw) (Wd3 hw) (by decide) (by decide)) (g := (mkF m 13 #[.val (.ref vv)] [(.ref vv), (.ref el), (.int (0 : Int32)), .null, (.int (1 : Int32)), (.ref b1), (.ref b1)])) rfl (by rw [hml]; rfl) (Steps.refl _) (a := b1) (argsL := [(.int (1 : Int32)), .null, (.int (0 : Int32)), (.ref el), (.ref vv)]) (rest := [(.ref b1)]) (lenOf pd6 rfl) rfl (by show 2 * 0 + _ ≤ _; exact Nat.le_of_eq rfl) (hb hby d1_13) (fun _ _ => ⟨rfl, e10, (Nat.le_of_ble_eq_true rfl), (Nat.le_of_ble_eq_true rfl)⟩)
  dsimp only [Pt.U, Pt.locs, Pt.cells, Pt.slots] at X11 l11 y11 z11 st11 hQ11
  subst l11 y11 z11
  obtain ⟨rfl, Nq11, K11, G0_11, G1_11, G2_11, G3_11, G4_11, G5_11⟩ := hQ11
  have N11 := Fr.app N10 Nq11
  refine OD.via (B := (T11.setTop (mkF m 16 #[.val (.ref vv)] [(.ref b1)]))) st11 ?_
  exact OD.ret X11 hx hlk (t := (.object "com/example/echo_panel/echopanel/channel/ChannelState")) Bd.returns rfl (Or.inr (Or.inr (Or.inr (Or.inr ⟨rfl, rfl, rfl⟩)))) (hb hby d1_16) (Nat.le_of_ble_eq_true rfl) (Nat.le_of_ble_eq_true rfl) ⟨_, rfl, N11, by exact (((Keep.refl h0 []).ext E1).trans K11 (allS (Or.inr (Nat.le_trans (Nat.le_refl _) (Nat.le_of_eq g1.symm))) all0)), (Nat.le_trans (Nat.le_refl _) (Nat.le_of_eq g1.symm)), by exact (A1.keep K11), by exact G0_11, by exact G1_11, by exact G2_11, by exact G3_11, by exact G4_11, by exact G5_11⟩
def Q_rmOf_10 (Z : State) (h0 : Heap) (n0 : Nat) (el : Addr) (sv : Addr) (v : Option Value) (h : Heap) (L : List Loc) : Prop := ∃ b, v = some (.ref b) ∧ Fr n0 L ∧ Keep h0 h [] ∧ h0.size ≤ b ∧ Exa Z h b "com/example/echo_panel/echopanel/channel/ChannelState" ∧ Fld Z h b "com/example/echo_panel/echopanel/channel/ChannelState" "connected" "Z" (.int (1 : Int32)) ∧ Fld Z h b "com/example/echo_panel/echopanel/channel/ChannelState" "severity" "Lcom/example/echo_panel/echopanel/channel/Severity;" (.ref sv) ∧ Fld Z h b "com/example/echo_panel/echopanel/channel/ChannelState" "precision" "I" (.int (0 : Int32)) ∧ Fld Z h b "com/example/echo_panel/echopanel/channel/ChannelState" "labels" "Ljava/util/List;" (.ref el) ∧ Fld Z h b "com/example/echo_panel/echopanel/channel/ChannelState" "value" "Ljava/lang/Object;" .null ∧ Fld Z h b "com/example/echo_panel/echopanel/channel/ChannelState" "limits" "Lcom/example/echo_panel/echopanel/channel/DisplayLimits;" .null
set_option maxRecDepth 65536 in
set_option maxHeartbeats 40000000 in
theorem rmOf_10 (l : Launch) (Z : State) (a0 : Array Value) (hw : ∀ d ∈ tables_1, d.before a0 Z = true) (ws : List Jvm.Cond)  (h0 : Heap) (n0 : Nat) (X00 : Old Z n0 h0) (el ea : Addr) (kE : ClassId) (Se : Sta Z Z.heap "java/util/ImmutableCollections" "EMPTY_LIST" "Ljava/util/ImmutableCollections$ListN;" (.ref el)) (Ee : Exa Z Z.heap el "java/util/ImmutableCollections$ListN") (Fa : Fld Z Z.heap el "java/util/ImmutableCollections$ListN" "allowNulls" "Z" (.int (0 : Int32))) (Fel : Fld Z Z.heap el "java/util/ImmutableCollections$ListN" "elements" "[Ljava/lang/Object;" (.ref ea)) (Ae : Arv Z Z.heap ea kE (.object "java/lang/Object") (0 : Int32) [] .null) (Z0 : n0 ≤ h0.size) (sv : Addr) (Ss : Sta Z Z.heap "com/example/echo_panel/echopanel/channel/Severity" "NO_ALARM" "Lcom/example/echo_panel/echopanel/channel/Severity;" (.ref sv)) :
    MetFree l (⟨"com/example/echo_panel/echopanel/channel/ChannelState", "of", "(Ljava/lang/Object;)Lcom/example/echo_panel/echopanel/channel/ChannelState;"⟩ : MethodName) (head1 (Jvm.Cond.code (⟨"com/example/echo_panel/echopanel/channel/ChannelState", "of", "(Ljava/lang/Object;)Lcom/example/echo_panel/echopanel/channel/ChannelState;"⟩ : MethodName) prog_15_method_3_code 1 (some (.object "com/example/echo_panel/echopanel/channel/ChannelState")) :: ws) ({ frames := 4, cells := 1, slots := 6, locals := 61 } : Room)) (fun a U => a = #[.null] ∧ Z.Warmed39 U.vm ∧ U.heap = h0) (fun _ _ _ _ _ => True) (fun _ U o U' => ∃ v L, o = .returned v ∧ Q_rmOf_10 Z h0 n0 el sv v U'.heap L ∧ FrameEnd U o U' L ({ frames := 4, cells := 1, slots := 6, locals := 61 } : Room).cells ({ frames := 4, cells := 1, slots := 6, locals := 61 } : Room).slots) := by
  refine MetFree.of_bodySF (plainFor_of_name pn7) hisR ?_
  intro p e s m args below meth c s₁ Bd hml0 hP hK
  obtain ⟨rfl, hZ, hh⟩ := hP
  have hx := Bd.exec
  have hby := Bd.bytes
  have hlk : meth.locks = false := Bd.notSynchronized
  have hml : c.maxLocals = 1 := hml0
  have hown : s.vm.findClass "com/example/echo_panel/echopanel/channel/ChannelState" = some m.cls := findClass_of_methodNamed Bd.named
  have hnm := (name_of_methodNamed Bd.named Bd.method).1
  have X0 : Stand p l e ({ frames := 4, cells := 1, slots := 6, locals := 61 } : Room) s m #[.null] below meth c s₁ [] 0 0 := Stand.of_body Bd
  have e0 : s₁.heap = h0 := by rw [← hh, Bd.state]; rfl
  have N0 := Fr.nil n0
  suffices hgo : OD p e s below (Q_rmOf_10 Z h0 n0 el sv) ({ frames := 4, cells := 1, slots := 6, locals := 61 } : Room).cells ({ frames := 4, cells := 1, slots := 6, locals := 61 } : Room).slots (s₁.setTop (mkF m 0 #[.val .null] [])) by
    obtain ⟨s₂, o, hgo1, hgo2⟩ := hgo
    exact ⟨s₂, o, castTop (ef15 m ) hgo1, hgo2⟩
  obtain ⟨T1, h1, X1, e1, E1, A1, D1, -, st1⟩ := newO X0 hx hZ hown (Wd5 hw) (Wd6 hw) (Wd3 hw) e0 (g := (mkF m 0 #[.val .null] [])) rfl (hb hby d1_0) (Nat.le_of_ble_eq_true rfl) (Nat.le_of_ble_eq_true rfl)
  obtain ⟨b1, g1⟩ : ∃ z, z = h0.size := ⟨_, rfl⟩
  rw [← g1] at A1 D1 st1
  have Fn2 : Fld Z h1 b1 "com/example/echo_panel/echopanel/channel/ChannelState" "connected" "Z" (.int (0 : Int32)) := D1 (Or.inr (Wd49 hw)) (ty := .boolean) (by decide)
  have Fn3 : Fld Z h1 b1 "com/example/echo_panel/echopanel/channel/ChannelState" "severity" "Lcom/example/echo_panel/echopanel/channel/Severity;" .null := D1 (Or.inr (Wd51 hw)) (ty := (.object "com/example/echo_panel/echopanel/channel/Severity")) (by decide)
  have Fn4 : Fld Z h1 b1 "com/example/echo_panel/echopanel/channel/ChannelState" "precision" "I" (.int (0 : Int32)) := D1 (Or.inr (Wd53 hw)) (ty := .int) (by decide)
  have Fn5 : Fld Z h1 b1 "com/example/echo_panel/echopanel/channel/ChannelState" "labels" "Ljava/util/List;" .null := D1 (Or.inr (Wd55 hw)) (ty := (.object "java/util/List")) (by decide)
  have Fn6 : Fld Z h1 b1 "com/example/echo_panel/echopanel/channel/ChannelState" "value" "Ljava/lang/Object;" .null := D1 (Or.inr (Wd57 hw)) (ty := (.object "java/lang/Object")) (by decide)
  have Fn7 : Fld Z h1 b1 "com/example/echo_panel/echopanel/channel/ChannelState" "limits" "Lcom/example/echo_panel/echopanel/channel/DisplayLimits;" .null := D1 (Or.inr (Wd59 hw)) (ty := (.object "com/example/echo_panel/echopanel/channel/DisplayLimits")) (by decide)
  refine OD.go (B := (T1.setTop (mkF m 3 #[.val .null] [(.ref b1)]))) st1 ?_
  refine OD.go (B := (T1.setTop (mkF m 4 #[.val .null] [(.ref b1), (.ref b1)]))) (fun t k => XS.dup X1.here hx rfl (hb hby d1_3) rfl rfl k) ?_
  refine OD.go (B := (T1.setTop (mkF m 5 #[.val .null] [(.int (1 : Int32)), (.ref b1), (.ref b1)]))) (fun t k => XS.iconst X1.here hx rfl (hb hby d1_4) k) ?_
  have f8 := (Ss.ext (X00.ext E1).2)
  obtain ⟨T9, X9, e9, st9⟩ := getS2 X1 hx hZ hown (host := "") (Or.inl (Wd7 hw)) Via.refl e1 f8 (g := (mkF m 5 #[.val .null] [(.int (1 : Int32)), (.ref b1), (.ref b1)])) rfl (hb hby d1_5)
  refine OD.go (B := (T9.setTop (mkF m 8 #[.val .null] [(.ref sv), (.int (1 : Int32)), (.ref b1), (.ref b1)]))) st9 ?_
  refine OD.go (B := (T9.setTop (mkF m 9 #[.val .null] [(.int (0 : Int32)), (.ref sv), (.int (1 : Int32)), (.ref b1), (.ref b1)]))) (fun t k => XS.iconst X9.here hx rfl (hb hby d1_8) k) ?_
  obtain ⟨_, _, ⟨T10, L10, k10, n10⟩, -, X10, ⟨Lc10, hQ10, l10, y10, z10⟩, st10⟩ := Jvm.LawKit.callS X9 hx (y := (⟨"java/util/List", "of", "()Ljava/util/List;"⟩ : MethodName)) hown (mvT hZ (Wd10 hw)) (mvT hZ (Wd11 hw)) (mvT hZ (Wd12 hw)) (mvT hZ (Wd13 hw)) (by decide) (backOf (W := 5) (rmLO l Z a0 hw []  h1 n0 (X00.ext E1) el ea kE Se Ee Fa Fel Ae) hZ (Wd13 hw) (Wd12 hw) (by decide) (by decide)) (g := (mkF m 9 #[.val .null] [(.int (0 : Int32)), (.ref sv), (.int (1 : Int32)), (.ref b1), (.ref b1)])) rfl (by rw [hml]; rfl) (argsL := []) (rest := [(.int (0 : Int32)), (.ref sv), (.int (1 : Int32)), (.ref b1), (.ref b1)]) (lenOf pd5 rfl) rfl (by show 2 * 0 + _ ≤ _; exact Nat.le_of_eq rfl) (hb hby d1_9) (fun _ _ => ⟨rfl, e9, (Nat.le_of_ble_eq_true rfl), (Nat.le_of_ble_eq_true rfl)⟩)
  dsimp only [Pt.U, Pt.locs, Pt.cells, Pt.slots] at X10 l10 y10 z10 st10 hQ10
  subst l10 y10 z10
  obtain ⟨rfl, rfl, e10⟩ := hQ10
  have N10 := Fr.app N0 (Fr.nil _)
  refine OD.go (B := (T10.setTop (mkF m 12 #[.val .null] [(.ref el), (.int (0 : Int32)), (.ref sv), (.int (1 : Int32)), (.ref b1), (.ref b1)]))) st10 ?_
  refine OD.go (B := (T10.setTop (mkF m 13 #[.val .null] [.null, (.ref el), (.int (0 : Int32)), (.ref sv), (.int (1 : Int32)), (.ref b1), (.ref b1)]))) (fun t k => XS.aloadN X10.here hx rfl (hb hby d1_12) rfl rfl k) ?_
  obtain ⟨_, _, ⟨T11, L11, k11, n11⟩, -, X11, ⟨Lc11, hQ11, l11, y11, z11⟩, st11⟩ := X10.specialBack hx (y := (⟨"com/example/echo_panel/echopanel/channel/ChannelState", "<init>", "(ZLcom/example/echo_panel/echopanel/channel/Severity;ILjava/util/List;Ljava/lang/Object;)V"⟩ : MethodName)) rfl hown (mvT hZ (Wd16 hw)) (mvT hZ (Wd17 hw)) (mvT hZ (Wd18 hw)) (by decide) (backOf (W := 1) (rmC5_10 l Z a0 hw [] b1 sv el h1 n0 (Nat.le_trans Z0 E1.1) A1 Fn2 Fn3 Fn4 Fn5 Fn6 Fn7 (Nat.le_trans Z0 (Nat.le_of_eq g1.symm)) (X00.ext E1) ea kE Se Ee Fa Fel Ae) hZ (Wd18 hw) (Wd3 hw) (by decide) (by decide)) (g := (mkF m 13 #[.val .null] [.null, (.ref el), (.int (0 : Int32)), (.ref sv), (.int (1 : Int32)), (.ref b1), (.ref b1)])) rfl (by rw [hml]; rfl) (Steps.refl _) (a := b1) (argsL := [(.int (1 : Int32)), (.ref sv), (.int (0 : Int32)), (.ref el), .null]) (rest := [(.ref b1)]) (lenOf pd6 rfl) rfl (by show 2 * 0 + _ ≤ _; exact Nat.le_of_eq rfl) (hb hby d1_13) (fun _ _ => ⟨rfl, e10, (Nat.le_of_ble_eq_true rfl), (Nat.le_of_ble_eq_true rfl)⟩)
  dsimp only [Pt.U, Pt.locs, Pt.cells, Pt.slots] at X11 l11 y11 z11 st11 hQ11
  subst l11 y11 z11
  obtain ⟨rfl, Nq11, K11, G0_11, G1_11, G2_11, G3_11, G4_11, G5_11⟩ := hQ11
  have N11 := Fr.app N10 Nq11
  refine OD.via (B := (T11.setTop (mkF m 16 #[.val .null] [(.ref b1)]))) st11 ?_
  exact OD.ret X11 hx hlk (t := (.object "com/example/echo_panel/echopanel/channel/ChannelState")) Bd.returns rfl (Or.inr (Or.inr (Or.inr (Or.inr ⟨rfl, rfl, rfl⟩)))) (hb hby d1_16) (Nat.le_of_ble_eq_true rfl) (Nat.le_of_ble_eq_true rfl) ⟨_, rfl, N11, by exact (((Keep.refl h0 []).ext E1).trans K11 (allS (Or.inr (Nat.le_trans (Nat.le_refl _) (Nat.le_of_eq g1.symm))) all0)), (Nat.le_trans (Nat.le_refl _) (Nat.le_of_eq g1.symm)), by exact (A1.keep K11), by exact G0_11, by exact G1_11, by exact G2_11, by exact G3_11, by exact G4_11, by exact G5_11⟩
def Q_rmOf_11 (Z : State) (vv : Addr) (h0 : Heap) (n0 : Nat) (el : Addr) (sv : Addr) (v : Option Value) (h : Heap) (L : List Loc) : Prop := ∃ b, v = some (.ref b) ∧ Fr n0 L ∧ Keep h0 h [] ∧ h0.size ≤ b ∧ Exa Z h b "com/example/echo_panel/echopanel/channel/ChannelState" ∧ Fld Z h b "com/example/echo_panel/echopanel/channel/ChannelState" "connected" "Z" (.int (1 : Int32)) ∧ Fld Z h b "com/example/echo_panel/echopanel/channel/ChannelState" "severity" "Lcom/example/echo_panel/echopanel/channel/Severity;" (.ref sv) ∧ Fld Z h b "com/example/echo_panel/echopanel/channel/ChannelState" "precision" "I" (.int (0 : Int32)) ∧ Fld Z h b "com/example/echo_panel/echopanel/channel/ChannelState" "labels" "Ljava/util/List;" (.ref el) ∧ Fld Z h b "com/example/echo_panel/echopanel/channel/ChannelState" "value" "Ljava/lang/Object;" (.ref vv) ∧ Fld Z h b "com/example/echo_panel/echopanel/channel/ChannelState" "limits" "Lcom/example/echo_panel/echopanel/channel/DisplayLimits;" .null
set_option maxRecDepth 65536 in
set_option maxHeartbeats 40000000 in
theorem rmOf_11 (l : Launch) (Z : State) (a0 : Array Value) (hw : ∀ d ∈ tables_1, d.before a0 Z = true) (ws : List Jvm.Cond) (vv : Addr) (h0 : Heap) (n0 : Nat) (X00 : Old Z n0 h0) (el ea : Addr) (kE : ClassId) (Se : Sta Z Z.heap "java/util/ImmutableCollections" "EMPTY_LIST" "Ljava/util/ImmutableCollections$ListN;" (.ref el)) (Ee : Exa Z Z.heap el "java/util/ImmutableCollections$ListN") (Fa : Fld Z Z.heap el "java/util/ImmutableCollections$ListN" "allowNulls" "Z" (.int (0 : Int32))) (Fel : Fld Z Z.heap el "java/util/ImmutableCollections$ListN" "elements" "[Ljava/lang/Object;" (.ref ea)) (Ae : Arv Z Z.heap ea kE (.object "java/lang/Object") (0 : Int32) [] .null) (Z0 : n0 ≤ h0.size) (sv : Addr) (Ss : Sta Z Z.heap "com/example/echo_panel/echopanel/channel/Severity" "NO_ALARM" "Lcom/example/echo_panel/echopanel/channel/Severity;" (.ref sv)) :
    MetFree l (⟨"com/example/echo_panel/echopanel/channel/ChannelState", "of", "(Ljava/lang/Object;)Lcom/example/echo_panel/echopanel/channel/ChannelState;"⟩ : MethodName) (head1 (Jvm.Cond.code (⟨"com/example/echo_panel/echopanel/channel/ChannelState", "of", "(Ljava/lang/Object;)Lcom/example/echo_panel/echopanel/channel/ChannelState;"⟩ : MethodName) prog_15_method_3_code 1 (some (.object "com/example/echo_panel/echopanel/channel/ChannelState")) :: ws) ({ frames := 4, cells := 1, slots := 6, locals := 61 } : Room)) (fun a U => a = #[(.ref vv)] ∧ Z.Warmed39 U.vm ∧ U.heap = h0) (fun _ _ _ _ _ => True) (fun _ U o U' => ∃ v L, o = .returned v ∧ Q_rmOf_11 Z vv h0 n0 el sv v U'.heap L ∧ FrameEnd U o U' L ({ frames := 4, cells := 1, slots := 6, locals := 61 } : Room).cells ({ frames := 4, cells := 1, slots := 6, locals := 61 } : Room).slots) := by
  refine MetFree.of_bodySF (plainFor_of_name pn7) hisR ?_
  intro p e s m args below meth c s₁ Bd hml0 hP hK
  obtain ⟨rfl, hZ, hh⟩ := hP
  have hx := Bd.exec
  have hby := Bd.bytes
  have hlk : meth.locks = false := Bd.notSynchronized
  have hml : c.maxLocals = 1 := hml0
  have hown : s.vm.findClass "com/example/echo_panel/echopanel/channel/ChannelState" = some m.cls := findClass_of_methodNamed Bd.named
  have hnm := (name_of_methodNamed Bd.named Bd.method).1
  have X0 : Stand p l e ({ frames := 4, cells := 1, slots := 6, locals := 61 } : Room) s m #[(.ref vv)] below meth c s₁ [] 0 0 := Stand.of_body Bd
  have e0 : s₁.heap = h0 := by rw [← hh, Bd.state]; rfl
  have N0 := Fr.nil n0
  suffices hgo : OD p e s below (Q_rmOf_11 Z vv h0 n0 el sv) ({ frames := 4, cells := 1, slots := 6, locals := 61 } : Room).cells ({ frames := 4, cells := 1, slots := 6, locals := 61 } : Room).slots (s₁.setTop (mkF m 0 #[.val (.ref vv)] [])) by
    obtain ⟨s₂, o, hgo1, hgo2⟩ := hgo
    exact ⟨s₂, o, castTop (ef0 m vv) hgo1, hgo2⟩
  obtain ⟨T1, h1, X1, e1, E1, A1, D1, -, st1⟩ := newO X0 hx hZ hown (Wd5 hw) (Wd6 hw) (Wd3 hw) e0 (g := (mkF m 0 #[.val (.ref vv)] [])) rfl (hb hby d1_0) (Nat.le_of_ble_eq_true rfl) (Nat.le_of_ble_eq_true rfl)
  obtain ⟨b1, g1⟩ : ∃ z, z = h0.size := ⟨_, rfl⟩
  rw [← g1] at A1 D1 st1
  have Fn2 : Fld Z h1 b1 "com/example/echo_panel/echopanel/channel/ChannelState" "connected" "Z" (.int (0 : Int32)) := D1 (Or.inr (Wd49 hw)) (ty := .boolean) (by decide)
  have Fn3 : Fld Z h1 b1 "com/example/echo_panel/echopanel/channel/ChannelState" "severity" "Lcom/example/echo_panel/echopanel/channel/Severity;" .null := D1 (Or.inr (Wd51 hw)) (ty := (.object "com/example/echo_panel/echopanel/channel/Severity")) (by decide)
  have Fn4 : Fld Z h1 b1 "com/example/echo_panel/echopanel/channel/ChannelState" "precision" "I" (.int (0 : Int32)) := D1 (Or.inr (Wd53 hw)) (ty := .int) (by decide)
  have Fn5 : Fld Z h1 b1 "com/example/echo_panel/echopanel/channel/ChannelState" "labels" "Ljava/util/List;" .null := D1 (Or.inr (Wd55 hw)) (ty := (.object "java/util/List")) (by decide)
  have Fn6 : Fld Z h1 b1 "com/example/echo_panel/echopanel/channel/ChannelState" "value" "Ljava/lang/Object;" .null := D1 (Or.inr (Wd57 hw)) (ty := (.object "java/lang/Object")) (by decide)
  have Fn7 : Fld Z h1 b1 "com/example/echo_panel/echopanel/channel/ChannelState" "limits" "Lcom/example/echo_panel/echopanel/channel/DisplayLimits;" .null := D1 (Or.inr (Wd59 hw)) (ty := (.object "com/example/echo_panel/echopanel/channel/DisplayLimits")) (by decide)
  refine OD.go (B := (T1.setTop (mkF m 3 #[.val (.ref vv)] [(.ref b1)]))) st1 ?_
  refine OD.go (B := (T1.setTop (mkF m 4 #[.val (.ref vv)] [(.ref b1), (.ref b1)]))) (fun t k => XS.dup X1.here hx rfl (hb hby d1_3) rfl rfl k) ?_
  refine OD.go (B := (T1.setTop (mkF m 5 #[.val (.ref vv)] [(.int (1 : Int32)), (.ref b1), (.ref b1)]))) (fun t k => XS.iconst X1.here hx rfl (hb hby d1_4) k) ?_
  have f8 := (Ss.ext (X00.ext E1).2)
  obtain ⟨T9, X9, e9, st9⟩ := getS2 X1 hx hZ hown (host := "") (Or.inl (Wd7 hw)) Via.refl e1 f8 (g := (mkF m 5 #[.val (.ref vv)] [(.int (1 : Int32)), (.ref b1), (.ref b1)])) rfl (hb hby d1_5)
  refine OD.go (B := (T9.setTop (mkF m 8 #[.val (.ref vv)] [(.ref sv), (.int (1 : Int32)), (.ref b1), (.ref b1)]))) st9 ?_
  refine OD.go (B := (T9.setTop (mkF m 9 #[.val (.ref vv)] [(.int (0 : Int32)), (.ref sv), (.int (1 : Int32)), (.ref b1), (.ref b1)]))) (fun t k => XS.iconst X9.here hx rfl (hb hby d1_8) k) ?_
  obtain ⟨_, _, ⟨T10, L10, k10, n10⟩, -, X10, ⟨Lc10, hQ10, l10, y10, z10⟩, st10⟩ := Jvm.LawKit.callS X9 hx (y := (⟨"java/util/List", "of", "()Ljava/util/List;"⟩ : MethodName)) hown (mvT hZ (Wd10 hw)) (mvT hZ (Wd11 hw)) (mvT hZ (Wd12 hw)) (mvT hZ (Wd13 hw)) (by decide) (backOf (W := 5) (rmLO l Z a0 hw []  h1 n0 (X00.ext E1) el ea kE Se Ee Fa Fel Ae) hZ (Wd13 hw) (Wd12 hw) (by decide) (by decide)) (g := (mkF m 9 #[.val (.ref vv)] [(.int (0 : Int32)), (.ref sv), (.int (1 : Int32)), (.ref b1), (.ref b1)])) rfl (by rw [hml]; rfl) (argsL := []) (rest := [(.int (0 : Int32)), (.ref sv), (.int (1 : Int32)), (.ref b1), (.ref b1)]) (lenOf pd5 rfl) rfl (by show 2 * 0 + _ ≤ _; exact Nat.le_of_eq rfl) (hb hby d1_9) (fun _ _ => ⟨rfl, e9, (Nat.le_of_ble_eq_true rfl), (Nat.le_of_ble_eq_true rfl)⟩)
  dsimp only [Pt.U, Pt.locs, Pt.cells, Pt.slots] at X10 l10 y10 z10 st10 hQ10
  subst l10 y10 z10
  obtain ⟨rfl, rfl, e10⟩ := hQ10
  have N10 := Fr.app N0 (Fr.nil _)
  refine OD.go (B := (T10.setTop (mkF m 12 #[.val (.ref vv)] [(.ref el), (.int (0 : Int32)), (.ref sv), (.int (1 : Int32)), (.ref b1), (.ref b1)]))) st10 ?_
  refine OD.go (B := (T10.setTop (mkF m 13 #[.val (.ref vv)] [(.ref vv), (.ref el), (.int (0 : Int32)), (.ref sv), (.int (1 : Int32)), (.ref b1), (.ref b1)]))) (fun t k => XS.aloadN X10.here hx rfl (hb hby d1_12) rfl rfl k) ?_
  obtain ⟨_, _, ⟨T11, L11, k11, n11⟩, -, X11, ⟨Lc11, hQ11, l11, y11, z11⟩, st11⟩ := X10.specialBack hx (y := (⟨"com/example/echo_panel/echopanel/channel/ChannelState", "<init>", "(ZLcom/example/echo_panel/echopanel/channel/Severity;ILjava/util/List;Ljava/lang/Object;)V"⟩ : MethodName)) rfl hown (mvT hZ (Wd16 hw)) (mvT hZ (Wd17 hw)) (mvT hZ (Wd18 hw)) (by decide) (backOf (W := 1) (rmC5_11 l Z a0 hw [] b1 sv el vv h1 n0 (Nat.le_trans Z0 E1.1) A1 Fn2 Fn3 Fn4 Fn5 Fn6 Fn7 (Nat.le_trans Z0 (Nat.le_of_eq g1.symm)) (X00.ext E1) ea kE Se Ee Fa Fel Ae) hZ (Wd18 hw) (Wd3 hw) (by decide) (by decide)) (g := (mkF m 13 #[.val (.ref vv)] [(.ref vv), (.ref el), (.int (0 : Int32)), (.ref sv), (.int (1 : Int32)), (.ref b1), (.ref b1)])) rfl (by rw [hml]; rfl) (Steps.refl _) (a := b1) (argsL := [(.int (1 : Int32)), (.ref sv), (.int (0 : Int32)), (.ref el), (.ref vv)]) (rest := [(.ref b1)]) (lenOf pd6 rfl) rfl (by show 2 * 0 + _ ≤ _; exact Nat.le_of_eq rfl) (hb hby d1_13) (fun _ _ => ⟨rfl, e10, (Nat.le_of_ble_eq_true rfl), (Nat.le_of_ble_eq_true rfl)⟩)
  dsimp only [Pt.U, Pt.locs, Pt.cells, Pt.slots] at X11 l11 y11 z11 st11 hQ11
  subst l11 y11 z11
  obtain ⟨rfl, Nq11, K11, G0_11, G1_11, G2_11, G3_11, G4_11, G5_11⟩ := hQ11
  have N11 := Fr.app N10 Nq11
  refine OD.via (B := (T11.setTop (mkF m 16 #[.val (.ref vv)] [(.ref b1)]))) st11 ?_
  exact OD.ret X11 hx hlk (t := (.object "com/example/echo_panel/echopanel/channel/ChannelState")) Bd.returns rfl (Or.inr (Or.inr (Or.inr (Or.inr ⟨rfl, rfl, rfl⟩)))) (hb hby d1_16) (Nat.le_of_ble_eq_true rfl) (Nat.le_of_ble_eq_true rfl) ⟨_, rfl, N11, by exact (((Keep.refl h0 []).ext E1).trans K11 (allS (Or.inr (Nat.le_trans (Nat.le_refl _) (Nat.le_of_eq g1.symm))) all0)), (Nat.le_trans (Nat.le_refl _) (Nat.le_of_eq g1.symm)), by exact (A1.keep K11), by exact G0_11, by exact G1_11, by exact G2_11, by exact G3_11, by exact G4_11, by exact G5_11⟩
def Q_rmX0_I (Z : State) (a1 : Addr) (h0 : Heap) (u : Int32) (v : Option Value) (h : Heap) (L : List Loc) : Prop := v = some (.int u) ∧ L = [] ∧ h = h0
set_option maxRecDepth 65536 in
set_option maxHeartbeats 40000000 in
theorem rmX0_I (l : Launch) (Z : State) (a0 : Array Value) (hw : ∀ d ∈ tables_1, d.before a0 Z = true) (ws : List Jvm.Cond) (a1 : Addr) (h0 : Heap) (u : Int32) (F1 : Fld Z h0 a1 "com/example/echo_panel/echopanel/channel/ChannelState" "connected" "Z" (.int u)) (hu : u = 1) :
    MetFree l (⟨"com/example/echo_panel/echopanel/channel/ChannelState", "connected", "()Z"⟩ : MethodName) (head1 (Jvm.Cond.code (⟨"com/example/echo_panel/echopanel/channel/ChannelState", "connected", "()Z"⟩ : MethodName) prog_15_method_8_code 1 (some .boolean) :: ws) ({ frames := 0, cells := 0, slots := 0, locals := 0 } : Room)) (fun a U => a = #[(.ref a1)] ∧ Z.Warmed39 U.vm ∧ U.heap = h0) (fun _ _ _ _ _ => True) (fun _ U o U' => ∃ v L, o = .returned v ∧ Q_rmX0_I Z a1 h0 u v U'.heap L ∧ FrameEnd U o U' L ({ frames := 0, cells := 0, slots := 0, locals := 0 } : Room).cells ({ frames := 0, cells := 0, slots := 0, locals := 0 } : Room).slots) := by
  refine MetFree.of_bodySF (plainFor_of_name pn7) hisR ?_
  intro p e s m args below meth c s₁ Bd hml0 hP hK
  obtain ⟨rfl, hZ, hh⟩ := hP
  have hx := Bd.exec
  have hby := Bd.bytes
  have hlk : meth.locks = false := Bd.notSynchronized
  have hml : c.maxLocals = 1 := hml0
  have hown : s.vm.findClass "com/example/echo_panel/echopanel/channel/ChannelState" = some m.cls := findClass_of_methodNamed Bd.named
  have hnm := (name_of_methodNamed Bd.named Bd.method).1
  have X0 : Stand p l e ({ frames := 0, cells := 0, slots := 0, locals := 0 } : Room) s m #[(.ref a1)] below meth c s₁ [] 0 0 := Stand.of_body Bd
  have e0 : s₁.heap = h0 := by rw [← hh, Bd.state]; rfl
  suffices hgo : OD p e s below (Q_rmX0_I Z a1 h0 u) ({ frames := 0, cells := 0, slots := 0, locals := 0 } : Room).cells ({ frames := 0, cells := 0, slots := 0, locals := 0 } : Room).slots (s₁.setTop (mkF m 0 #[.val (.ref a1)] [])) by
    obtain ⟨s₂, o, hgo1, hgo2⟩ := hgo
    exact ⟨s₂, o, castTop (ef0 m a1) hgo1, hgo2⟩
  refine OD.go (B := (s₁.setTop (mkF m 1 #[.val (.ref a1)] [(.ref a1)]))) (fun t k => XS.aloadN X0.here hx rfl (hb hby d9_0) rfl rfl k) ?_
  obtain ⟨T1, X1, e1, st1⟩ := getF X0 hx hZ hown (host := "") (Or.inl (Wd48 hw)) Via.refl e0 F1 (g := (mkF m 1 #[.val (.ref a1)] [(.ref a1)])) rfl rfl (hb hby d9_1)
  refine OD.go (B := (T1.setTop (mkF m 4 #[.val (.ref a1)] [(.int u)]))) st1 ?_
  subst hu
  exact OD.ret X1 hx hlk (t := .boolean) Bd.returns rfl (Or.inl ⟨rfl, Or.inr (Or.inl rfl), _, rfl⟩) (hb hby d9_4) (Nat.le_of_ble_eq_true rfl) (Nat.le_of_ble_eq_true rfl) ⟨rfl, rfl, e1⟩
def Q_rmX1_0 (Z : State) (a1 : Addr) (h0 : Heap) (v : Option Value) (h : Heap) (L : List Loc) : Prop := v = some .null ∧ L = [] ∧ h = h0
set_option maxRecDepth 65536 in
set_option maxHeartbeats 40000000 in
theorem rmX1_0 (l : Launch) (Z : State) (a0 : Array Value) (hw : ∀ d ∈ tables_1, d.before a0 Z = true) (ws : List Jvm.Cond) (a1 : Addr) (h0 : Heap) (F1 : Fld Z h0 a1 "com/example/echo_panel/echopanel/channel/ChannelState" "severity" "Lcom/example/echo_panel/echopanel/channel/Severity;" .null) :
    MetFree l (⟨"com/example/echo_panel/echopanel/channel/ChannelState", "severity", "()Lcom/example/echo_panel/echopanel/channel/Severity;"⟩ : MethodName) (head1 (Jvm.Cond.code (⟨"com/example/echo_panel/echopanel/channel/ChannelState", "severity", "()Lcom/example/echo_panel/echopanel/channel/Severity;"⟩ : MethodName) prog_15_method_9_code 1 (some (.object "com/example/echo_panel/echopanel/channel/Severity")) :: ws) ({ frames := 0, cells := 0, slots := 0, locals := 0 } : Room)) (fun a U => a = #[(.ref a1)] ∧ Z.Warmed39 U.vm ∧ U.heap = h0) (fun _ _ _ _ _ => True) (fun _ U o U' => ∃ v L, o = .returned v ∧ Q_rmX1_0 Z a1 h0 v U'.heap L ∧ FrameEnd U o U' L ({ frames := 0, cells := 0, slots := 0, locals := 0 } : Room).cells ({ frames := 0, cells := 0, slots := 0, locals := 0 } : Room).slots) := by
  refine MetFree.of_bodySF (plainFor_of_name pn7) hisR ?_
  intro p e s m args below meth c s₁ Bd hml0 hP hK
  obtain ⟨rfl, hZ, hh⟩ := hP
  have hx := Bd.exec
  have hby := Bd.bytes
  have hlk : meth.locks = false := Bd.notSynchronized
  have hml : c.maxLocals = 1 := hml0
  have hown : s.vm.findClass "com/example/echo_panel/echopanel/channel/ChannelState" = some m.cls := findClass_of_methodNamed Bd.named
  have hnm := (name_of_methodNamed Bd.named Bd.method).1
  have X0 : Stand p l e ({ frames := 0, cells := 0, slots := 0, locals := 0 } : Room) s m #[(.ref a1)] below meth c s₁ [] 0 0 := Stand.of_body Bd
  have e0 : s₁.heap = h0 := by rw [← hh, Bd.state]; rfl
  suffices hgo : OD p e s below (Q_rmX1_0 Z a1 h0) ({ frames := 0, cells := 0, slots := 0, locals := 0 } : Room).cells ({ frames := 0, cells := 0, slots := 0, locals := 0 } : Room).slots (s₁.setTop (mkF m 0 #[.val (.ref a1)] [])) by
    obtain ⟨s₂, o, hgo1, hgo2⟩ := hgo
    exact ⟨s₂, o, castTop (ef0 m a1) hgo1, hgo2⟩
  refine OD.go (B := (s₁.setTop (mkF m 1 #[.val (.ref a1)] [(.ref a1)]))) (fun t k => XS.aloadN X0.here hx rfl (hb hby d10_0) rfl rfl k) ?_
  obtain ⟨T1, X1, e1, st1⟩ := getF X0 hx hZ hown (host := "") (Or.inl (Wd50 hw)) Via.refl e0 F1 (g := (mkF m 1 #[.val (.ref a1)] [(.ref a1)])) rfl rfl (hb hby d10_1)
  refine OD.go (B := (T1.setTop (mkF m 4 #[.val (.ref a1)] [.null]))) st1 ?_
  exact OD.ret X1 hx hlk (t := (.object "com/example/echo_panel/echopanel/channel/Severity")) Bd.returns rfl (Or.inr (Or.inr (Or.inr (Or.inr ⟨rfl, rfl, rfl⟩)))) (hb hby d10_4) (Nat.le_of_ble_eq_true rfl) (Nat.le_of_ble_eq_true rfl) ⟨rfl, rfl, e1⟩
def Q_rmX1_1 (Z : State) (a1 : Addr) (h0 : Heap) (u : Addr) (v : Option Value) (h : Heap) (L : List Loc) : Prop := v = some (.ref u) ∧ L = [] ∧ h = h0
set_option maxRecDepth 65536 in
set_option maxHeartbeats 40000000 in
theorem rmX1_1 (l : Launch) (Z : State) (a0 : Array Value) (hw : ∀ d ∈ tables_1, d.before a0 Z = true) (ws : List Jvm.Cond) (a1 : Addr) (h0 : Heap) (u : Addr) (F1 : Fld Z h0 a1 "com/example/echo_panel/echopanel/channel/ChannelState" "severity" "Lcom/example/echo_panel/echopanel/channel/Severity;" (.ref u)) :
    MetFree l (⟨"com/example/echo_panel/echopanel/channel/ChannelState", "severity", "()Lcom/example/echo_panel/echopanel/channel/Severity;"⟩ : MethodName) (head1 (Jvm.Cond.code (⟨"com/example/echo_panel/echopanel/channel/ChannelState", "severity", "()Lcom/example/echo_panel/echopanel/channel/Severity;"⟩ : MethodName) prog_15_method_9_code 1 (some (.object "com/example/echo_panel/echopanel/channel/Severity")) :: ws) ({ frames := 0, cells := 0, slots := 0, locals := 0 } : Room)) (fun a U => a = #[(.ref a1)] ∧ Z.Warmed39 U.vm ∧ U.heap = h0) (fun _ _ _ _ _ => True) (fun _ U o U' => ∃ v L, o = .returned v ∧ Q_rmX1_1 Z a1 h0 u v U'.heap L ∧ FrameEnd U o U' L ({ frames := 0, cells := 0, slots := 0, locals := 0 } : Room).cells ({ frames := 0, cells := 0, slots := 0, locals := 0 } : Room).slots) := by
  refine MetFree.of_bodySF (plainFor_of_name pn7) hisR ?_
  intro p e s m args below meth c s₁ Bd hml0 hP hK
  obtain ⟨rfl, hZ, hh⟩ := hP
  have hx := Bd.exec
  have hby := Bd.bytes
  have hlk : meth.locks = false := Bd.notSynchronized
  have hml : c.maxLocals = 1 := hml0
  have hown : s.vm.findClass "com/example/echo_panel/echopanel/channel/ChannelState" = some m.cls := findClass_of_methodNamed Bd.named
  have hnm := (name_of_methodNamed Bd.named Bd.method).1
  have X0 : Stand p l e ({ frames := 0, cells := 0, slots := 0, locals := 0 } : Room) s m #[(.ref a1)] below meth c s₁ [] 0 0 := Stand.of_body Bd
  have e0 : s₁.heap = h0 := by rw [← hh, Bd.state]; rfl
  suffices hgo : OD p e s below (Q_rmX1_1 Z a1 h0 u) ({ frames := 0, cells := 0, slots := 0, locals := 0 } : Room).cells ({ frames := 0, cells := 0, slots := 0, locals := 0 } : Room).slots (s₁.setTop (mkF m 0 #[.val (.ref a1)] [])) by
    obtain ⟨s₂, o, hgo1, hgo2⟩ := hgo
    exact ⟨s₂, o, castTop (ef0 m a1) hgo1, hgo2⟩
  refine OD.go (B := (s₁.setTop (mkF m 1 #[.val (.ref a1)] [(.ref a1)]))) (fun t k => XS.aloadN X0.here hx rfl (hb hby d10_0) rfl rfl k) ?_
  obtain ⟨T1, X1, e1, st1⟩ := getF X0 hx hZ hown (host := "") (Or.inl (Wd50 hw)) Via.refl e0 F1 (g := (mkF m 1 #[.val (.ref a1)] [(.ref a1)])) rfl rfl (hb hby d10_1)
  refine OD.go (B := (T1.setTop (mkF m 4 #[.val (.ref a1)] [(.ref u)]))) st1 ?_
  exact OD.ret X1 hx hlk (t := (.object "com/example/echo_panel/echopanel/channel/Severity")) Bd.returns rfl (Or.inr (Or.inr (Or.inr (Or.inr ⟨rfl, rfl, rfl⟩)))) (hb hby d10_4) (Nat.le_of_ble_eq_true rfl) (Nat.le_of_ble_eq_true rfl) ⟨rfl, rfl, e1⟩
def Q_rmX2_I (Z : State) (a1 : Addr) (h0 : Heap) (u : Int32) (v : Option Value) (h : Heap) (L : List Loc) : Prop := v = some (.int u) ∧ L = [] ∧ h = h0
set_option maxRecDepth 65536 in
set_option maxHeartbeats 40000000 in
theorem rmX2_I (l : Launch) (Z : State) (a0 : Array Value) (hw : ∀ d ∈ tables_1, d.before a0 Z = true) (ws : List Jvm.Cond) (a1 : Addr) (h0 : Heap) (u : Int32) (F1 : Fld Z h0 a1 "com/example/echo_panel/echopanel/channel/ChannelState" "precision" "I" (.int u)) :
    MetFree l (⟨"com/example/echo_panel/echopanel/channel/ChannelState", "precision", "()I"⟩ : MethodName) (head1 (Jvm.Cond.code (⟨"com/example/echo_panel/echopanel/channel/ChannelState", "precision", "()I"⟩ : MethodName) prog_15_method_10_code 1 (some .int) :: ws) ({ frames := 0, cells := 0, slots := 0, locals := 0 } : Room)) (fun a U => a = #[(.ref a1)] ∧ Z.Warmed39 U.vm ∧ U.heap = h0) (fun _ _ _ _ _ => True) (fun _ U o U' => ∃ v L, o = .returned v ∧ Q_rmX2_I Z a1 h0 u v U'.heap L ∧ FrameEnd U o U' L ({ frames := 0, cells := 0, slots := 0, locals := 0 } : Room).cells ({ frames := 0, cells := 0, slots := 0, locals := 0 } : Room).slots) := by
  refine MetFree.of_bodySF (plainFor_of_name pn7) hisR ?_
  intro p e s m args below meth c s₁ Bd hml0 hP hK
  obtain ⟨rfl, hZ, hh⟩ := hP
  have hx := Bd.exec
  have hby := Bd.bytes
  have hlk : meth.locks = false := Bd.notSynchronized
  have hml : c.maxLocals = 1 := hml0
  have hown : s.vm.findClass "com/example/echo_panel/echopanel/channel/ChannelState" = some m.cls := findClass_of_methodNamed Bd.named
  have hnm := (name_of_methodNamed Bd.named Bd.method).1
  have X0 : Stand p l e ({ frames := 0, cells := 0, slots := 0, locals := 0 } : Room) s m #[(.ref a1)] below meth c s₁ [] 0 0 := Stand.of_body Bd
  have e0 : s₁.heap = h0 := by rw [← hh, Bd.state]; rfl
  suffices hgo : OD p e s below (Q_rmX2_I Z a1 h0 u) ({ frames := 0, cells := 0, slots := 0, locals := 0 } : Room).cells ({ frames := 0, cells := 0, slots := 0, locals := 0 } : Room).slots (s₁.setTop (mkF m 0 #[.val (.ref a1)] [])) by
    obtain ⟨s₂, o, hgo1, hgo2⟩ := hgo
    exact ⟨s₂, o, castTop (ef0 m a1) hgo1, hgo2⟩
  refine OD.go (B := (s₁.setTop (mkF m 1 #[.val (.ref a1)] [(.ref a1)]))) (fun t k => XS.aloadN X0.here hx rfl (hb hby d11_0) rfl rfl k) ?_
  obtain ⟨T1, X1, e1, st1⟩ := getF X0 hx hZ hown (host := "") (Or.inl (Wd52 hw)) Via.refl e0 F1 (g := (mkF m 1 #[.val (.ref a1)] [(.ref a1)])) rfl rfl (hb hby d11_1)
  refine OD.go (B := (T1.setTop (mkF m 4 #[.val (.ref a1)] [(.int u)]))) st1 ?_
  exact OD.ret X1 hx hlk (t := .int) Bd.returns rfl (Or.inl ⟨rfl, Or.inl rfl, _, rfl⟩) (hb hby d11_4) (Nat.le_of_ble_eq_true rfl) (Nat.le_of_ble_eq_true rfl) ⟨rfl, rfl, e1⟩
def Q_rmX3_0 (Z : State) (a1 : Addr) (h0 : Heap) (v : Option Value) (h : Heap) (L : List Loc) : Prop := v = some .null ∧ L = [] ∧ h = h0
set_option maxRecDepth 65536 in
set_option maxHeartbeats 40000000 in
theorem rmX3_0 (l : Launch) (Z : State) (a0 : Array Value) (hw : ∀ d ∈ tables_1, d.before a0 Z = true) (ws : List Jvm.Cond) (a1 : Addr) (h0 : Heap) (F1 : Fld Z h0 a1 "com/example/echo_panel/echopanel/channel/ChannelState" "labels" "Ljava/util/List;" .null) :
    MetFree l (⟨"com/example/echo_panel/echopanel/channel/ChannelState", "labels", "()Ljava/util/List;"⟩ : MethodName) (head1 (Jvm.Cond.code (⟨"com/example/echo_panel/echopanel/channel/ChannelState", "labels", "()Ljava/util/List;"⟩ : MethodName) prog_15_method_11_code 1 (some (.object "java/util/List")) :: ws) ({ frames := 0, cells := 0, slots := 0, locals := 0 } : Room)) (fun a U => a = #[(.ref a1)] ∧ Z.Warmed39 U.vm ∧ U.heap = h0) (fun _ _ _ _ _ => True) (fun _ U o U' => ∃ v L, o = .returned v ∧ Q_rmX3_0 Z a1 h0 v U'.heap L ∧ FrameEnd U o U' L ({ frames := 0, cells := 0, slots := 0, locals := 0 } : Room).cells ({ frames := 0, cells := 0, slots := 0, locals := 0 } : Room).slots) := by
  refine MetFree.of_bodySF (plainFor_of_name pn7) hisR ?_
  intro p e s m args below meth c s₁ Bd hml0 hP hK
  obtain ⟨rfl, hZ, hh⟩ := hP
  have hx := Bd.exec
  have hby := Bd.bytes
  have hlk : meth.locks = false := Bd.notSynchronized
  have hml : c.maxLocals = 1 := hml0
  have hown : s.vm.findClass "com/example/echo_panel/echopanel/channel/ChannelState" = some m.cls := findClass_of_methodNamed Bd.named
  have hnm := (name_of_methodNamed Bd.named Bd.method).1
  have X0 : Stand p l e ({ frames := 0, cells := 0, slots := 0, locals := 0 } : Room) s m #[(.ref a1)] below meth c s₁ [] 0 0 := Stand.of_body Bd
  have e0 : s₁.heap = h0 := by rw [← hh, Bd.state]; rfl
  suffices hgo : OD p e s below (Q_rmX3_0 Z a1 h0) ({ frames := 0, cells := 0, slots := 0, locals := 0 } : Room).cells ({ frames := 0, cells := 0, slots := 0, locals := 0 } : Room).slots (s₁.setTop (mkF m 0 #[.val (.ref a1)] [])) by
    obtain ⟨s₂, o, hgo1, hgo2⟩ := hgo
    exact ⟨s₂, o, castTop (ef0 m a1) hgo1, hgo2⟩
  refine OD.go (B := (s₁.setTop (mkF m 1 #[.val (.ref a1)] [(.ref a1)]))) (fun t k => XS.aloadN X0.here hx rfl (hb hby d12_0) rfl rfl k) ?_
  obtain ⟨T1, X1, e1, st1⟩ := getF X0 hx hZ hown (host := "") (Or.inl (Wd54 hw)) Via.refl e0 F1 (g := (mkF m 1 #[.val (.ref a1)] [(.ref a1)])) rfl rfl (hb hby d12_1)
  refine OD.go (B := (T1.setTop (mkF m 4 #[.val (.ref a1)] [.null]))) st1 ?_
  exact OD.ret X1 hx hlk (t := (.object "java/util/List")) Bd.returns rfl (Or.inr (Or.inr (Or.inr (Or.inr ⟨rfl, rfl, rfl⟩)))) (hb hby d12_4) (Nat.le_of_ble_eq_true rfl) (Nat.le_of_ble_eq_true rfl) ⟨rfl, rfl, e1⟩
def Q_rmX3_1 (Z : State) (a1 : Addr) (h0 : Heap) (u : Addr) (v : Option Value) (h : Heap) (L : List Loc) : Prop := v = some (.ref u) ∧ L = [] ∧ h = h0
set_option maxRecDepth 65536 in
set_option maxHeartbeats 40000000 in
theorem rmX3_1 (l : Launch) (Z : State) (a0 : Array Value) (hw : ∀ d ∈ tables_1, d.before a0 Z = true) (ws : List Jvm.Cond) (a1 : Addr) (h0 : Heap) (u : Addr) (F1 : Fld Z h0 a1 "com/example/echo_panel/echopanel/channel/ChannelState" "labels" "Ljava/util/List;" (.ref u)) :
    MetFree l (⟨"com/example/echo_panel/echopanel/channel/ChannelState", "labels", "()Ljava/util/List;"⟩ : MethodName) (head1 (Jvm.Cond.code (⟨"com/example/echo_panel/echopanel/channel/ChannelState", "labels", "()Ljava/util/List;"⟩ : MethodName) prog_15_method_11_code 1 (some (.object "java/util/List")) :: ws) ({ frames := 0, cells := 0, slots := 0, locals := 0 } : Room)) (fun a U => a = #[(.ref a1)] ∧ Z.Warmed39 U.vm ∧ U.heap = h0) (fun _ _ _ _ _ => True) (fun _ U o U' => ∃ v L, o = .returned v ∧ Q_rmX3_1 Z a1 h0 u v U'.heap L ∧ FrameEnd U o U' L ({ frames := 0, cells := 0, slots := 0, locals := 0 } : Room).cells ({ frames := 0, cells := 0, slots := 0, locals := 0 } : Room).slots) := by
  refine MetFree.of_bodySF (plainFor_of_name pn7) hisR ?_
  intro p e s m args below meth c s₁ Bd hml0 hP hK
  obtain ⟨rfl, hZ, hh⟩ := hP
  have hx := Bd.exec
  have hby := Bd.bytes
  have hlk : meth.locks = false := Bd.notSynchronized
  have hml : c.maxLocals = 1 := hml0
  have hown : s.vm.findClass "com/example/echo_panel/echopanel/channel/ChannelState" = some m.cls := findClass_of_methodNamed Bd.named
  have hnm := (name_of_methodNamed Bd.named Bd.method).1
  have X0 : Stand p l e ({ frames := 0, cells := 0, slots := 0, locals := 0 } : Room) s m #[(.ref a1)] below meth c s₁ [] 0 0 := Stand.of_body Bd
  have e0 : s₁.heap = h0 := by rw [← hh, Bd.state]; rfl
  suffices hgo : OD p e s below (Q_rmX3_1 Z a1 h0 u) ({ frames := 0, cells := 0, slots := 0, locals := 0 } : Room).cells ({ frames := 0, cells := 0, slots := 0, locals := 0 } : Room).slots (s₁.setTop (mkF m 0 #[.val (.ref a1)] [])) by
    obtain ⟨s₂, o, hgo1, hgo2⟩ := hgo
    exact ⟨s₂, o, castTop (ef0 m a1) hgo1, hgo2⟩
  refine OD.go (B := (s₁.setTop (mkF m 1 #[.val (.ref a1)] [(.ref a1)]))) (fun t k => XS.aloadN X0.here hx rfl (hb hby d12_0) rfl rfl k) ?_
  obtain ⟨T1, X1, e1, st1⟩ := getF X0 hx hZ hown (host := "") (Or.inl (Wd54 hw)) Via.refl e0 F1 (g := (mkF m 1 #[.val (.ref a1)] [(.ref a1)])) rfl rfl (hb hby d12_1)
  refine OD.go (B := (T1.setTop (mkF m 4 #[.val (.ref a1)] [(.ref u)]))) st1 ?_
  exact OD.ret X1 hx hlk (t := (.object "java/util/List")) Bd.returns rfl (Or.inr (Or.inr (Or.inr (Or.inr ⟨rfl, rfl, rfl⟩)))) (hb hby d12_4) (Nat.le_of_ble_eq_true rfl) (Nat.le_of_ble_eq_true rfl) ⟨rfl, rfl, e1⟩
def Q_rmX4_0 (Z : State) (a1 : Addr) (h0 : Heap) (v : Option Value) (h : Heap) (L : List Loc) : Prop := v = some .null ∧ L = [] ∧ h = h0
set_option maxRecDepth 65536 in
set_option maxHeartbeats 40000000 in
theorem rmX4_0 (l : Launch) (Z : State) (a0 : Array Value) (hw : ∀ d ∈ tables_1, d.before a0 Z = true) (ws : List Jvm.Cond) (a1 : Addr) (h0 : Heap) (F1 : Fld Z h0 a1 "com/example/echo_panel/echopanel/channel/ChannelState" "value" "Ljava/lang/Object;" .null) :
    MetFree l (⟨"com/example/echo_panel/echopanel/channel/ChannelState", "value", "()Ljava/lang/Object;"⟩ : MethodName) (head1 (Jvm.Cond.code (⟨"com/example/echo_panel/echopanel/channel/ChannelState", "value", "()Ljava/lang/Object;"⟩ : MethodName) prog_15_method_12_code 1 (some (.object "java/lang/Object")) :: ws) ({ frames := 0, cells := 0, slots := 0, locals := 0 } : Room)) (fun a U => a = #[(.ref a1)] ∧ Z.Warmed39 U.vm ∧ U.heap = h0) (fun _ _ _ _ _ => True) (fun _ U o U' => ∃ v L, o = .returned v ∧ Q_rmX4_0 Z a1 h0 v U'.heap L ∧ FrameEnd U o U' L ({ frames := 0, cells := 0, slots := 0, locals := 0 } : Room).cells ({ frames := 0, cells := 0, slots := 0, locals := 0 } : Room).slots) := by
  refine MetFree.of_bodySF (plainFor_of_name pn7) hisR ?_
  intro p e s m args below meth c s₁ Bd hml0 hP hK
  obtain ⟨rfl, hZ, hh⟩ := hP
  have hx := Bd.exec
  have hby := Bd.bytes
  have hlk : meth.locks = false := Bd.notSynchronized
  have hml : c.maxLocals = 1 := hml0
  have hown : s.vm.findClass "com/example/echo_panel/echopanel/channel/ChannelState" = some m.cls := findClass_of_methodNamed Bd.named
  have hnm := (name_of_methodNamed Bd.named Bd.method).1
  have X0 : Stand p l e ({ frames := 0, cells := 0, slots := 0, locals := 0 } : Room) s m #[(.ref a1)] below meth c s₁ [] 0 0 := Stand.of_body Bd
  have e0 : s₁.heap = h0 := by rw [← hh, Bd.state]; rfl
  suffices hgo : OD p e s below (Q_rmX4_0 Z a1 h0) ({ frames := 0, cells := 0, slots := 0, locals := 0 } : Room).cells ({ frames := 0, cells := 0, slots := 0, locals := 0 } : Room).slots (s₁.setTop (mkF m 0 #[.val (.ref a1)] [])) by
    obtain ⟨s₂, o, hgo1, hgo2⟩ := hgo
    exact ⟨s₂, o, castTop (ef0 m a1) hgo1, hgo2⟩
  refine OD.go (B := (s₁.setTop (mkF m 1 #[.val (.ref a1)] [(.ref a1)]))) (fun t k => XS.aloadN X0.here hx rfl (hb hby d14_0) rfl rfl k) ?_
  obtain ⟨T1, X1, e1, st1⟩ := getF X0 hx hZ hown (host := "") (Or.inl (Wd56 hw)) Via.refl e0 F1 (g := (mkF m 1 #[.val (.ref a1)] [(.ref a1)])) rfl rfl (hb hby d14_1)
  refine OD.go (B := (T1.setTop (mkF m 4 #[.val (.ref a1)] [.null]))) st1 ?_
  exact OD.ret X1 hx hlk (t := (.object "java/lang/Object")) Bd.returns rfl (Or.inr (Or.inr (Or.inr (Or.inr ⟨rfl, rfl, rfl⟩)))) (hb hby d14_4) (Nat.le_of_ble_eq_true rfl) (Nat.le_of_ble_eq_true rfl) ⟨rfl, rfl, e1⟩
def Q_rmX4_1 (Z : State) (a1 : Addr) (h0 : Heap) (u : Addr) (v : Option Value) (h : Heap) (L : List Loc) : Prop := v = some (.ref u) ∧ L = [] ∧ h = h0
set_option maxRecDepth 65536 in
set_option maxHeartbeats 40000000 in
theorem rmX4_1 (l : Launch) (Z : State) (a0 : Array Value) (hw : ∀ d ∈ tables_1, d.before a0 Z = true) (ws : List Jvm.Cond) (a1 : Addr) (h0 : Heap) (u : Addr) (F1 : Fld Z h0 a1 "com/example/echo_panel/echopanel/channel/ChannelState" "value" "Ljava/lang/Object;" (.ref u)) :
    MetFree l (⟨"com/example/echo_panel/echopanel/channel/ChannelState", "value", "()Ljava/lang/Object;"⟩ : MethodName) (head1 (Jvm.Cond.code (⟨"com/example/echo_panel/echopanel/channel/ChannelState", "value", "()Ljava/lang/Object;"⟩ : MethodName) prog_15_method_12_code 1 (some (.object "java/lang/Object")) :: ws) ({ frames := 0, cells := 0, slots := 0, locals := 0 } : Room)) (fun a U => a = #[(.ref a1)] ∧ Z.Warmed39 U.vm ∧ U.heap = h0) (fun _ _ _ _ _ => True) (fun _ U o U' => ∃ v L, o = .returned v ∧ Q_rmX4_1 Z a1 h0 u v U'.heap L ∧ FrameEnd U o U' L ({ frames := 0, cells := 0, slots := 0, locals := 0 } : Room).cells ({ frames := 0, cells := 0, slots := 0, locals := 0 } : Room).slots) := by
  refine MetFree.of_bodySF (plainFor_of_name pn7) hisR ?_
  intro p e s m args below meth c s₁ Bd hml0 hP hK
  obtain ⟨rfl, hZ, hh⟩ := hP
  have hx := Bd.exec
  have hby := Bd.bytes
  have hlk : meth.locks = false := Bd.notSynchronized
  have hml : c.maxLocals = 1 := hml0
  have hown : s.vm.findClass "com/example/echo_panel/echopanel/channel/ChannelState" = some m.cls := findClass_of_methodNamed Bd.named
  have hnm := (name_of_methodNamed Bd.named Bd.method).1
  have X0 : Stand p l e ({ frames := 0, cells := 0, slots := 0, locals := 0 } : Room) s m #[(.ref a1)] below meth c s₁ [] 0 0 := Stand.of_body Bd
  have e0 : s₁.heap = h0 := by rw [← hh, Bd.state]; rfl
  suffices hgo : OD p e s below (Q_rmX4_1 Z a1 h0 u) ({ frames := 0, cells := 0, slots := 0, locals := 0 } : Room).cells ({ frames := 0, cells := 0, slots := 0, locals := 0 } : Room).slots (s₁.setTop (mkF m 0 #[.val (.ref a1)] [])) by
    obtain ⟨s₂, o, hgo1, hgo2⟩ := hgo
    exact ⟨s₂, o, castTop (ef0 m a1) hgo1, hgo2⟩
  refine OD.go (B := (s₁.setTop (mkF m 1 #[.val (.ref a1)] [(.ref a1)]))) (fun t k => XS.aloadN X0.here hx rfl (hb hby d14_0) rfl rfl k) ?_
  obtain ⟨T1, X1, e1, st1⟩ := getF X0 hx hZ hown (host := "") (Or.inl (Wd56 hw)) Via.refl e0 F1 (g := (mkF m 1 #[.val (.ref a1)] [(.ref a1)])) rfl rfl (hb hby d14_1)
  refine OD.go (B := (T1.setTop (mkF m 4 #[.val (.ref a1)] [(.ref u)]))) st1 ?_
  exact OD.ret X1 hx hlk (t := (.object "java/lang/Object")) Bd.returns rfl (Or.inr (Or.inr (Or.inr (Or.inr ⟨rfl, rfl, rfl⟩)))) (hb hby d14_4) (Nat.le_of_ble_eq_true rfl) (Nat.le_of_ble_eq_true rfl) ⟨rfl, rfl, e1⟩
def Q_rmX5_0 (Z : State) (a1 : Addr) (h0 : Heap) (v : Option Value) (h : Heap) (L : List Loc) : Prop := v = some .null ∧ L = [] ∧ h = h0
set_option maxRecDepth 65536 in
set_option maxHeartbeats 40000000 in
theorem rmX5_0 (l : Launch) (Z : State) (a0 : Array Value) (hw : ∀ d ∈ tables_1, d.before a0 Z = true) (ws : List Jvm.Cond) (a1 : Addr) (h0 : Heap) (F1 : Fld Z h0 a1 "com/example/echo_panel/echopanel/channel/ChannelState" "limits" "Lcom/example/echo_panel/echopanel/channel/DisplayLimits;" .null) :
    MetFree l (⟨"com/example/echo_panel/echopanel/channel/ChannelState", "limits", "()Lcom/example/echo_panel/echopanel/channel/DisplayLimits;"⟩ : MethodName) (head1 (Jvm.Cond.code (⟨"com/example/echo_panel/echopanel/channel/ChannelState", "limits", "()Lcom/example/echo_panel/echopanel/channel/DisplayLimits;"⟩ : MethodName) prog_15_method_13_code 1 (some (.object "com/example/echo_panel/echopanel/channel/DisplayLimits")) :: ws) ({ frames := 0, cells := 0, slots := 0, locals := 0 } : Room)) (fun a U => a = #[(.ref a1)] ∧ Z.Warmed39 U.vm ∧ U.heap = h0) (fun _ _ _ _ _ => True) (fun _ U o U' => ∃ v L, o = .returned v ∧ Q_rmX5_0 Z a1 h0 v U'.heap L ∧ FrameEnd U o U' L ({ frames := 0, cells := 0, slots := 0, locals := 0 } : Room).cells ({ frames := 0, cells := 0, slots := 0, locals := 0 } : Room).slots) := by
  refine MetFree.of_bodySF (plainFor_of_name pn7) hisR ?_
  intro p e s m args below meth c s₁ Bd hml0 hP hK
  obtain ⟨rfl, hZ, hh⟩ := hP
  have hx := Bd.exec
  have hby := Bd.bytes
  have hlk : meth.locks = false := Bd.notSynchronized
  have hml : c.maxLocals = 1 := hml0
  have hown : s.vm.findClass "com/example/echo_panel/echopanel/channel/ChannelState" = some m.cls := findClass_of_methodNamed Bd.named
  have hnm := (name_of_methodNamed Bd.named Bd.method).1
  have X0 : Stand p l e ({ frames := 0, cells := 0, slots := 0, locals := 0 } : Room) s m #[(.ref a1)] below meth c s₁ [] 0 0 := Stand.of_body Bd
  have e0 : s₁.heap = h0 := by rw [← hh, Bd.state]; rfl
  suffices hgo : OD p e s below (Q_rmX5_0 Z a1 h0) ({ frames := 0, cells := 0, slots := 0, locals := 0 } : Room).cells ({ frames := 0, cells := 0, slots := 0, locals := 0 } : Room).slots (s₁.setTop (mkF m 0 #[.val (.ref a1)] [])) by
    obtain ⟨s₂, o, hgo1, hgo2⟩ := hgo
    exact ⟨s₂, o, castTop (ef0 m a1) hgo1, hgo2⟩
  refine OD.go (B := (s₁.setTop (mkF m 1 #[.val (.ref a1)] [(.ref a1)]))) (fun t k => XS.aloadN X0.here hx rfl (hb hby d15_0) rfl rfl k) ?_
  obtain ⟨T1, X1, e1, st1⟩ := getF X0 hx hZ hown (host := "") (Or.inl (Wd58 hw)) Via.refl e0 F1 (g := (mkF m 1 #[.val (.ref a1)] [(.ref a1)])) rfl rfl (hb hby d15_1)
  refine OD.go (B := (T1.setTop (mkF m 4 #[.val (.ref a1)] [.null]))) st1 ?_
  exact OD.ret X1 hx hlk (t := (.object "com/example/echo_panel/echopanel/channel/DisplayLimits")) Bd.returns rfl (Or.inr (Or.inr (Or.inr (Or.inr ⟨rfl, rfl, rfl⟩)))) (hb hby d15_4) (Nat.le_of_ble_eq_true rfl) (Nat.le_of_ble_eq_true rfl) ⟨rfl, rfl, e1⟩
def Q_rmX5_1 (Z : State) (a1 : Addr) (h0 : Heap) (u : Addr) (v : Option Value) (h : Heap) (L : List Loc) : Prop := v = some (.ref u) ∧ L = [] ∧ h = h0
set_option maxRecDepth 65536 in
set_option maxHeartbeats 40000000 in
theorem rmX5_1 (l : Launch) (Z : State) (a0 : Array Value) (hw : ∀ d ∈ tables_1, d.before a0 Z = true) (ws : List Jvm.Cond) (a1 : Addr) (h0 : Heap) (u : Addr) (F1 : Fld Z h0 a1 "com/example/echo_panel/echopanel/channel/ChannelState" "limits" "Lcom/example/echo_panel/echopanel/channel/DisplayLimits;" (.ref u)) :
    MetFree l (⟨"com/example/echo_panel/echopanel/channel/ChannelState", "limits", "()Lcom/example/echo_panel/echopanel/channel/DisplayLimits;"⟩ : MethodName) (head1 (Jvm.Cond.code (⟨"com/example/echo_panel/echopanel/channel/ChannelState", "limits", "()Lcom/example/echo_panel/echopanel/channel/DisplayLimits;"⟩ : MethodName) prog_15_method_13_code 1 (some (.object "com/example/echo_panel/echopanel/channel/DisplayLimits")) :: ws) ({ frames := 0, cells := 0, slots := 0, locals := 0 } : Room)) (fun a U => a = #[(.ref a1)] ∧ Z.Warmed39 U.vm ∧ U.heap = h0) (fun _ _ _ _ _ => True) (fun _ U o U' => ∃ v L, o = .returned v ∧ Q_rmX5_1 Z a1 h0 u v U'.heap L ∧ FrameEnd U o U' L ({ frames := 0, cells := 0, slots := 0, locals := 0 } : Room).cells ({ frames := 0, cells := 0, slots := 0, locals := 0 } : Room).slots) := by
  refine MetFree.of_bodySF (plainFor_of_name pn7) hisR ?_
  intro p e s m args below meth c s₁ Bd hml0 hP hK
  obtain ⟨rfl, hZ, hh⟩ := hP
  have hx := Bd.exec
  have hby := Bd.bytes
  have hlk : meth.locks = false := Bd.notSynchronized
  have hml : c.maxLocals = 1 := hml0
  have hown : s.vm.findClass "com/example/echo_panel/echopanel/channel/ChannelState" = some m.cls := findClass_of_methodNamed Bd.named
  have hnm := (name_of_methodNamed Bd.named Bd.method).1
  have X0 : Stand p l e ({ frames := 0, cells := 0, slots := 0, locals := 0 } : Room) s m #[(.ref a1)] below meth c s₁ [] 0 0 := Stand.of_body Bd
  have e0 : s₁.heap = h0 := by rw [← hh, Bd.state]; rfl
  suffices hgo : OD p e s below (Q_rmX5_1 Z a1 h0 u) ({ frames := 0, cells := 0, slots := 0, locals := 0 } : Room).cells ({ frames := 0, cells := 0, slots := 0, locals := 0 } : Room).slots (s₁.setTop (mkF m 0 #[.val (.ref a1)] [])) by
    obtain ⟨s₂, o, hgo1, hgo2⟩ := hgo
    exact ⟨s₂, o, castTop (ef0 m a1) hgo1, hgo2⟩
  refine OD.go (B := (s₁.setTop (mkF m 1 #[.val (.ref a1)] [(.ref a1)]))) (fun t k => XS.aloadN X0.here hx rfl (hb hby d15_0) rfl rfl k) ?_
  obtain ⟨T1, X1, e1, st1⟩ := getF X0 hx hZ hown (host := "") (Or.inl (Wd58 hw)) Via.refl e0 F1 (g := (mkF m 1 #[.val (.ref a1)] [(.ref a1)])) rfl rfl (hb hby d15_1)
  refine OD.go (B := (T1.setTop (mkF m 4 #[.val (.ref a1)] [(.ref u)]))) st1 ?_
  exact OD.ret X1 hx hlk (t := (.object "com/example/echo_panel/echopanel/channel/DisplayLimits")) Bd.returns rfl (Or.inr (Or.inr (Or.inr (Or.inr ⟨rfl, rfl, rfl⟩)))) (hb hby d15_4) (Nat.le_of_ble_eq_true rfl) (Nat.le_of_ble_eq_true rfl) ⟨rfl, rfl, e1⟩
def Q_rm0_0 (Z : State) (p0 : Int32) (p1 : Int32) (lq : Int64) (p3 : Int32) (p4 : Int32) (h0 : Heap) (v : Option Value) (h : Heap) (L : List Loc) : Prop := v = some (.int 1) ∧ Fr h0.size L
set_option maxRecDepth 65536 in
set_option maxHeartbeats 40000000 in
theorem rm0_0 (l : Launch) (Z : State) (a0 : Array Value) (hw : ∀ d ∈ tables_1, d.before a0 Z = true) (ws : List Jvm.Cond) (p0 : Int32) (p1 : Int32) (lq : Int64) (p3 : Int32) (p4 : Int32) (h0 : Heap) (X00 : Old Z h0.size h0) (zc : Int32) (O2 : Sta Z Z.heap "java/lang/String" "COMPACT_STRINGS" "Z" (.int zc)) (P5 : ¬ zc = 0) (el ea : Addr) (kE : ClassId) (Se : Sta Z Z.heap "java/util/ImmutableCollections" "EMPTY_LIST" "Ljava/util/ImmutableCollections$ListN;" (.ref el)) (Ee : Exa Z Z.heap el "java/util/ImmutableCollections$ListN") (Fa : Fld Z Z.heap el "java/util/ImmutableCollections$ListN" "allowNulls" "Z" (.int (0 : Int32))) (Fel : Fld Z Z.heap el "java/util/ImmutableCollections$ListN" "elements" "[Ljava/lang/Object;" (.ref ea)) (Ae : Arv Z Z.heap ea kE (.object "java/lang/Object") (0 : Int32) [] .null) (ca : Addr) (Sh : Sta Z Z.heap "java/lang/Integer$IntegerCache" "high" "I" (.int (127 : Int32))) (Sc : Sta Z Z.heap "java/lang/Integer$IntegerCache" "cache" "[Ljava/lang/Integer;" (.ref ca)) (Cc : OCach Z ca "java/lang/Integer") (cb : Addr) (Sl : Sta Z Z.heap "java/lang/Long$LongCache" "cache" "[Ljava/lang/Long;" (.ref cb)) (Cl : OCach Z cb "java/lang/Long") (Ss : Sta Z Z.heap "com/example/echo_panel/echopanel/channel/Severity" "NO_ALARM" "Lcom/example/echo_panel/echopanel/channel/Severity;" .null) :
    MetFree l x (head1 (Jvm.Cond.code x code maxLocals ret :: ws) room_1) (fun a U => a = #[(.int p0), (.int p1), (.long lq), (.int p3), (.int p4)] ∧ Z.Warmed39 U.vm ∧ U.heap = h0) (fun _ _ _ _ _ => True) (fun _ U o U' => ∃ v L, o = .returned v ∧ Q_rm0_0 Z p0 p1 lq p3 p4 h0 v U'.heap L ∧ FrameEnd U o U' L 16 128) := by
  refine MetFree.of_bodySF (plainFor_of_name pn8) hisR ?_
  intro p e s m args below meth c s₁ Bd hml0 hP hK
  obtain ⟨rfl, hZ, hh⟩ := hP
  have hx := Bd.exec
  have hby := Bd.bytes
  have hlk : meth.locks = false := Bd.notSynchronized
  have hml : c.maxLocals = 10 := hml0
  have hown : s.vm.findClass "com/example/echo_panel/echopanel/channel/ChannelStateOfPinLaw" = some m.cls := findClass_of_methodNamed Bd.named
  have hnm := (name_of_methodNamed Bd.named Bd.method).1
  have X0 : Stand p l e room_1 s m #[(.int p0), (.int p1), (.long lq), (.int p3), (.int p4)] below meth c s₁ [] 0 0 := Stand.of_body Bd
  have e0 : s₁.heap = h0 := by rw [← hh, Bd.state]; rfl
  have N0 := Fr.nil h0.size
  have hws : ∀ d ∈ StrChars.Road.words, d.before a0 Z = true := fun d hd => hw d ((by decide +kernel : ∀ d ∈ StrChars.Road.words, d ∈ tables_1) d hd)
  suffices hgo : OD p e s below (Q_rm0_0 Z p0 p1 lq p3 p4 h0) 16 128 (s₁.setTop (mkF m 0 #[.val (.int p0), .val (.int p1), .val (.long lq), .second, .val (.int p3), .val (.int p4), .unset, .unset, .unset, .unset] [])) by
    obtain ⟨s₂, o, hgo1, hgo2⟩ := hgo
    exact ⟨s₂, o, castTop (ef16 m p0 p1 lq p3 p4) hgo1, hgo2⟩
  refine OD.go (B := (s₁.setTop (mkF m 1 #[.val (.int p0), .val (.int p1), .val (.long lq), .second, .val (.int p3), .val (.int p4), .unset, .unset, .unset, .unset] [(.int (2 : Int32))]))) (fun t k => XS.iconst X0.here hx rfl (hb hby at_0) k) ?_
  obtain ⟨T1, h1, k1, X1, e1, E1, A1, st1⟩ := newP X0 hx hZ (aty := .char) (Wd0 hw) e0 (g := (mkF m 1 #[.val (.int p0), .val (.int p1), .val (.long lq), .second, .val (.int p3), .val (.int p4), .unset, .unset, .unset, .unset] [(.int (2 : Int32))])) rfl (hb hby at_1) rfl (by decide) (cap := 2) (by decide) (by decide) (Nat.le_of_ble_eq_true rfl) (Nat.le_of_ble_eq_true rfl)
  obtain ⟨b1, g1⟩ : ∃ z, z = h0.size := ⟨_, rfl⟩
  rw [← g1] at A1 st1
  have V1 : Arv Z h1 b1 k1 .char (2 : Int32) [(.int (0 : Int32)), (.int (0 : Int32))] (.int (0 : Int32)) := (Arv.new A1 (by decide)).pad (pad_rep [] (.int (0 : Int32)) 2)
  refine OD.go (B := (T1.setTop (mkF m 3 #[.val (.int p0), .val (.int p1), .val (.long lq), .second, .val (.int p3), .val (.int p4), .unset, .unset, .unset, .unset] [(.ref b1)]))) st1 ?_
  refine OD.go (B := (T1.setTop (mkF m 4 #[.val (.int p0), .val (.int p1), .val (.long lq), .second, .val (.int p3), .val (.int p4), .unset, .unset, .unset, .unset] [(.ref b1), (.ref b1)]))) (fun t k => XS.dup X1.here hx rfl (hb hby at_3) rfl rfl k) ?_
  refine OD.go (B := (T1.setTop (mkF m 5 #[.val (.int p0), .val (.int p1), .val (.long lq), .second, .val (.int p3), .val (.int p4), .unset, .unset, .unset, .unset] [(.int (0 : Int32)), (.ref b1), (.ref b1)]))) (fun t k => XS.iconst X1.here hx rfl (hb hby at_4) k) ?_
  refine OD.go (B := (T1.setTop (mkF m 7 #[.val (.int p0), .val (.int p1), .val (.long lq), .second, .val (.int p3), .val (.int p4), .unset, .unset, .unset, .unset] [(.int p3), (.int (0 : Int32)), (.ref b1), (.ref b1)]))) (fun t k => XS.iload X1.here hx rfl (hb hby at_5) rfl k) ?_
  refine OD.go (B := (T1.setTop (mkF m 10 #[.val (.int p0), .val (.int p1), .val (.long lq), .second, .val (.int p3), .val (.int p4), .unset, .unset, .unset, .unset] [(.int (255 : Int32)), (.int p3), (.int (0 : Int32)), (.ref b1), (.ref b1)]))) (fun t k => XS.sipush X1.here hx rfl (hb hby at_7) k) ?_
  refine OD.go (B := (T1.setTop (mkF m 11 #[.val (.int p0), .val (.int p1), .val (.long lq), .second, .val (.int p3), .val (.int p4), .unset, .unset, .unset, .unset] [(.int (p3 &&& (255 : Int32))), (.int (0 : Int32)), (.ref b1), (.ref b1)]))) (fun t k => XS.iand X1.here hx rfl (hb hby at_10) rfl k) ?_
  refine OD.go (B := (T1.setTop (mkF m 12 #[.val (.int p0), .val (.int p1), .val (.long lq), .second, .val (.int p3), .val (.int p4), .unset, .unset, .unset, .unset] [(.int (p3 &&& (255 : Int32)).toUInt32.toUInt16.toUInt32.toInt32), (.int (0 : Int32)), (.ref b1), (.ref b1)]))) (fun t k => XS.i2c X1.here hx rfl (hb hby at_11) rfl k) ?_
  obtain ⟨cl2, Ar2, q2, S2, M2, H2, G2⟩ := id V1
  obtain ⟨T2, h2, X2, e2, W2, st2⟩ := stC X1 hx hZ e1 Ar2 (j := (0 : Int32)) (inb_of S2 ⟨by decide, by decide⟩) (g := (mkF m 12 #[.val (.int p0), .val (.int p1), .val (.long lq), .second, .val (.int p3), .val (.int p4), .unset, .unset, .unset, .unset] [(.int (p3 &&& (255 : Int32)).toUInt32.toUInt16.toUInt32.toInt32), (.int (0 : Int32)), (.ref b1), (.ref b1)])) rfl rfl (hb hby at_12)
  rw [(own_nar (own_c255 _))] at W2
  have V2 : Arv Z h2 b1 k1 .char (2 : Int32) [(.int (p3 &&& (255 : Int32)).toUInt32.toUInt16.toUInt32.toInt32), (.int (0 : Int32))] (.int (0 : Int32)) := Arv.set Ar2 q2 S2 M2 H2 G2 ((own_nar (own_c255 _)) ▸ fits_nar_char _) W2 0 rfl (Nat.le_of_ble_eq_true rfl)
  have N2 := Fr.snoc X2 N0 (Nat.le_trans (Nat.le_refl _) (Nat.le_of_eq g1.symm))
  refine OD.go (B := (T2.setTop (mkF m 13 #[.val (.int p0), .val (.int p1), .val (.long lq), .second, .val (.int p3), .val (.int p4), .unset, .unset, .unset, .unset] [(.ref b1)]))) st2 ?_
  refine OD.go (B := (T2.setTop (mkF m 14 #[.val (.int p0), .val (.int p1), .val (.long lq), .second, .val (.int p3), .val (.int p4), .unset, .unset, .unset, .unset] [(.ref b1), (.ref b1)]))) (fun t k => XS.dup X2.here hx rfl (hb hby at_13) rfl rfl k) ?_
  refine OD.go (B := (T2.setTop (mkF m 15 #[.val (.int p0), .val (.int p1), .val (.long lq), .second, .val (.int p3), .val (.int p4), .unset, .unset, .unset, .unset] [(.int (1 : Int32)), (.ref b1), (.ref b1)]))) (fun t k => XS.iconst X2.here hx rfl (hb hby at_14) k) ?_
  refine OD.go (B := (T2.setTop (mkF m 17 #[.val (.int p0), .val (.int p1), .val (.long lq), .second, .val (.int p3), .val (.int p4), .unset, .unset, .unset, .unset] [(.int p4), (.int (1 : Int32)), (.ref b1), (.ref b1)]))) (fun t k => XS.iload X2.here hx rfl (hb hby at_15) rfl k) ?_
  refine OD.go (B := (T2.setTop (mkF m 20 #[.val (.int p0), .val (.int p1), .val (.long lq), .second, .val (.int p3), .val (.int p4), .unset, .unset, .unset, .unset] [(.int (255 : Int32)), (.int p4), (.int (1 : Int32)), (.ref b1), (.ref b1)]))) (fun t k => XS.sipush X2.here hx rfl (hb hby at_17) k) ?_
  refine OD.go (B := (T2.setTop (mkF m 21 #[.val (.int p0), .val (.int p1), .val (.long lq), .second, .val (.int p3), .val (.int p4), .unset, .unset, .unset, .unset] [(.int (p4 &&& (255 : Int32))), (.int (1 : Int32)), (.ref b1), (.ref b1)]))) (fun t k => XS.iand X2.here hx rfl (hb hby at_20) rfl k) ?_
  refine OD.go (B := (T2.setTop (mkF m 22 #[.val (.int p0), .val (.int p1), .val (.long lq), .second, .val (.int p3), .val (.int p4), .unset, .unset, .unset, .unset] [(.int (p4 &&& (255 : Int32)).toUInt32.toUInt16.toUInt32.toInt32), (.int (1 : Int32)), (.ref b1), (.ref b1)]))) (fun t k => XS.i2c X2.here hx rfl (hb hby at_21) rfl k) ?_
  obtain ⟨cl3, Ar3, q3, S3, M3, H3, G3⟩ := id V2
  obtain ⟨T3, h3, X3, e3, W3, st3⟩ := stC X2 hx hZ e2 Ar3 (j := (1 : Int32)) (inb_of S3 ⟨by decide, by decide⟩) (g := (mkF m 22 #[.val (.int p0), .val (.int p1), .val (.long lq), .second, .val (.int p3), .val (.int p4), .unset, .unset, .unset, .unset] [(.int (p4 &&& (255 : Int32)).toUInt32.toUInt16.toUInt32.toInt32), (.int (1 : Int32)), (.ref b1), (.ref b1)])) rfl rfl (hb hby at_22)
  rw [(own_nar (own_c255 _))] at W3
  have V3 : Arv Z h3 b1 k1 .char (2 : Int32) [(.int (p3 &&& (255 : Int32)).toUInt32.toUInt16.toUInt32.toInt32), (.int (p4 &&& (255 : Int32)).toUInt32.toUInt16.toUInt32.toInt32)] (.int (0 : Int32)) := Arv.set Ar3 q3 S3 M3 H3 G3 ((own_nar (own_c255 _)) ▸ fits_nar_char _) W3 1 rfl (Nat.le_of_ble_eq_true rfl)
  have N3 := Fr.snoc X3 N2 (Nat.le_trans (Nat.le_refl _) (Nat.le_of_eq g1.symm))
  refine OD.go (B := (T3.setTop (mkF m 23 #[.val (.int p0), .val (.int p1), .val (.long lq), .second, .val (.int p3), .val (.int p4), .unset, .unset, .unset, .unset] [(.ref b1)]))) st3 ?_
  refine OD.go (B := (T3.setTop (mkF m 25 #[.val (.int p0), .val (.int p1), .val (.long lq), .second, .val (.int p3), .val (.int p4), .val (.ref b1), .unset, .unset, .unset] []))) (fun t k => XS.astore X3.here hx rfl (hb hby at_23) rfl rfl (l' := #[.val (.int p0), .val (.int p1), .val (.long lq), .second, .val (.int p3), .val (.int p4), .val (.ref b1), .unset, .unset, .unset]) rfl k) ?_
  refine OD.go (B := (T3.setTop (mkF m 26 #[.val (.int p0), .val (.int p1), .val (.long lq), .second, .val (.int p3), .val (.int p4), .val (.ref b1), .unset, .unset, .unset] [(.int p0)]))) (fun t k => XS.iloadN X3.here hx rfl (hb hby at_25) rfl k) ?_
  refine OD.go (B := (T3.setTop (mkF m 27 #[.val (.int p0), .val (.int p1), .val (.long lq), .second, .val (.int p3), .val (.int p4), .val (.ref b1), .unset, .unset, .unset] [(.int (3 : Int32)), (.int p0)]))) (fun t k => XS.iconst X3.here hx rfl (hb hby at_26) k) ?_
  refine OD.go (B := (T3.setTop (mkF m 28 #[.val (.int p0), .val (.int p1), .val (.long lq), .second, .val (.int p3), .val (.int p4), .val (.ref b1), .unset, .unset, .unset] [(.int (p0 &&& (3 : Int32)))]))) (fun t k => XS.iand X3.here hx rfl (hb hby at_27) rfl k) ?_
  refine OD.go (B := (T3.setTop (mkF m 30 #[.val (.int p0), .val (.int p1), .val (.long lq), .second, .val (.int p3), .val (.int p4), .val (.ref b1), .unset, .val (.int (p0 &&& (3 : Int32))), .unset] []))) (fun t k => XS.istore X3.here hx rfl (hb hby at_28) rfl (l' := #[.val (.int p0), .val (.int p1), .val (.long lq), .second, .val (.int p3), .val (.int p4), .val (.ref b1), .unset, .val (.int (p0 &&& (3 : Int32))), .unset]) rfl k) ?_
  refine OD.go (B := (T3.setTop (mkF m 32 #[.val (.int p0), .val (.int p1), .val (.long lq), .second, .val (.int p3), .val (.int p4), .val (.ref b1), .unset, .val (.int (p0 &&& (3 : Int32))), .unset] [(.int (p0 &&& (3 : Int32)))]))) (fun t k => XS.iload X3.here hx rfl (hb hby at_30) rfl k) ?_
  by_cases c32_4 : (p0 &&& (3 : Int32)) = (0 : Int32)
  · refine OD.go (B := (T3.setTop (mkF m 35 #[.val (.int p0), .val (.int p1), .val (.long lq), .second, .val (.int p3), .val (.int p4), .val (.ref b1), .unset, .val (.int (p0 &&& (3 : Int32))), .unset] []))) (fun t k => XS.ifNo X3.here hx rfl (hb hby at_32) rfl (by rw [if0]; exact (teq c32_4).2) k) ?_
    refine OD.go (B := (T3.setTop (mkF m 36 #[.val (.int p0), .val (.int p1), .val (.long lq), .second, .val (.int p3), .val (.int p4), .val (.ref b1), .unset, .val (.int (p0 &&& (3 : Int32))), .unset] [.null]))) (fun t k => XS.aconstNull X3.here hx rfl (hb hby at_35) k) ?_
    refine OD.go (B := (T3.setTop (mkF m 38 #[.val (.int p0), .val (.int p1), .val (.long lq), .second, .val (.int p3), .val (.int p4), .val (.ref b1), .val .null, .val (.int (p0 &&& (3 : Int32))), .unset] []))) (fun t k => XS.astore X3.here hx rfl (hb hby at_36) rfl rfl (l' := #[.val (.int p0), .val (.int p1), .val (.long lq), .second, .val (.int p3), .val (.int p4), .val (.ref b1), .val .null, .val (.int (p0 &&& (3 : Int32))), .unset]) rfl k) ?_
    refine OD.go (B := (T3.setTop (mkF m 82 #[.val (.int p0), .val (.int p1), .val (.long lq), .second, .val (.int p3), .val (.int p4), .val (.ref b1), .val .null, .val (.int (p0 &&& (3 : Int32))), .unset] []))) (fun t k => XS.goto X3.here hx rfl (pc0 := 38) (pc' := 82) rfl (hb hby at_38) (by decide) (by decide) k) ?_
    refine OD.go (B := (T3.setTop (mkF m 84 #[.val (.int p0), .val (.int p1), .val (.long lq), .second, .val (.int p3), .val (.int p4), .val (.ref b1), .val .null, .val (.int (p0 &&& (3 : Int32))), .unset] [.null]))) (fun t k => XS.aload X3.here hx rfl (hb hby at_82) rfl rfl k) ?_
    obtain ⟨_, _, ⟨T5, L5, k5, n5⟩, -, X5, ⟨Lc5, hQ5, l5, y5, z5⟩, st5⟩ := Jvm.LawKit.callS X3 hx (y := (⟨"com/example/echo_panel/echopanel/channel/ChannelState", "of", "(Ljava/lang/Object;)Lcom/example/echo_panel/echopanel/channel/ChannelState;"⟩ : MethodName)) hown (mvT hZ (Wd1 hw)) (mvT hZ (Wd2 hw)) (mvT hZ (Wd3 hw)) (mvT hZ (Wd4 hw)) (by decide) (backOf (W := 0) (rmOf_00 l Z a0 hw []  h3 h0.size (((X00.ext E1).wr W2 (Nat.le_trans (Nat.le_refl _) (Nat.le_of_eq g1.symm))).wr W3 (Nat.le_trans (Nat.le_refl _) (Nat.le_of_eq g1.symm))) el ea kE Se Ee Fa Fel Ae (Nat.le_trans (Nat.le_trans (Nat.le_trans (Nat.le_refl _) E1.1) (Keep.of_wr W2).1) (Keep.of_wr W3).1)  Ss) hZ (Wd4 hw) (Wd3 hw) (by decide) (by decide)) (g := (mkF m 84 #[.val (.int p0), .val (.int p1), .val (.long lq), .second, .val (.int p3), .val (.int p4), .val (.ref b1), .val .null, .val (.int (p0 &&& (3 : Int32))), .unset] [.null])) rfl (by rw [hml]; rfl) (argsL := [.null]) (rest := []) (lenOf pd7 rfl) rfl (by show 2 * 0 + _ ≤ _; exact Nat.le_of_eq rfl) (hb hby at_84) (fun _ _ => ⟨rfl, e3, (Nat.le_of_ble_eq_true rfl), (Nat.le_of_ble_eq_true rfl)⟩)
    dsimp only [Pt.U, Pt.locs, Pt.cells, Pt.slots] at X5 l5 y5 z5 st5 hQ5
    subst l5 y5 z5
    obtain ⟨b5, rfl, Nq5, K5, ob5, E5, G0_5, G1_5, G2_5, G3_5, G4_5, G5_5⟩ := hQ5
    have N5 := Fr.app N3 Nq5
    refine OD.go (B := (T5.setTop (mkF m 87 #[.val (.int p0), .val (.int p1), .val (.long lq), .second, .val (.int p3), .val (.int p4), .val (.ref b1), .val .null, .val (.int (p0 &&& (3 : Int32))), .unset] [(.ref b5)]))) st5 ?_
    refine OD.go (B := (T5.setTop (mkF m 89 #[.val (.int p0), .val (.int p1), .val (.long lq), .second, .val (.int p3), .val (.int p4), .val (.ref b1), .val .null, .val (.int (p0 &&& (3 : Int32))), .val (.ref b5)] []))) (fun t k => XS.astore X5.here hx rfl (hb hby at_87) rfl rfl (l' := #[.val (.int p0), .val (.int p1), .val (.long lq), .second, .val (.int p3), .val (.int p4), .val (.ref b1), .val .null, .val (.int (p0 &&& (3 : Int32))), .val (.ref b5)]) rfl k) ?_
    refine OD.go (B := (T5.setTop (mkF m 91 #[.val (.int p0), .val (.int p1), .val (.long lq), .second, .val (.int p3), .val (.int p4), .val (.ref b1), .val .null, .val (.int (p0 &&& (3 : Int32))), .val (.ref b5)] [(.ref b5)]))) (fun t k => XS.aload X5.here hx rfl (hb hby at_89) rfl rfl k) ?_
    obtain ⟨cq6, kq6, qa6, qb6, qc6⟩ := isOf hZ rfl E5
    obtain ⟨_, _, ⟨T6, L6, k6, n6⟩, -, X6, ⟨Lc6, hQ6, l6, y6, z6⟩, st6⟩ := X5.virtualBack hx (y := (⟨"com/example/echo_panel/echopanel/channel/ChannelState", "connected", "()Z"⟩ : MethodName)) (z := (⟨"com/example/echo_panel/echopanel/channel/ChannelState", "connected", "()Z"⟩ : MethodName)) hown (mvT hZ (Wd60 hw)) (mvT hZ (Wd61 hw)) (notFace_of_selects (args := #[]) (mvT hZ (Wd63 hw))) (mvT hZ (Wd63 hw)) (mvT hZ (Wd62 hw)) (by decide) (backOf (W := 0) (rmX0_I l Z a0 hw [] b5 T5.heap (1 : Int32) G0_5 rfl) hZ (Wd64 hw) (Wd3 hw) (by decide) (by decide)) qa6 qc6 (g := (mkF m 91 #[.val (.int p0), .val (.int p1), .val (.long lq), .second, .val (.int p3), .val (.int p4), .val (.ref b1), .val .null, .val (.int (p0 &&& (3 : Int32))), .val (.ref b5)] [(.ref b5)])) rfl (by rw [hml]; rfl) (Steps.refl _) (argsL := []) (rest := []) (lenOf pd8 rfl) rfl (by show 2 * 0 + _ ≤ _; exact Nat.le_of_eq rfl) (hb hby at_91) (fun _ _ => ⟨rfl, rfl, (Nat.le_of_ble_eq_true rfl), (Nat.le_of_ble_eq_true rfl)⟩)
    dsimp only [Pt.U, Pt.locs, Pt.cells, Pt.slots] at X6 l6 y6 z6 st6 hQ6
    subst l6 y6 z6
    obtain ⟨rfl, rfl, e6⟩ := hQ6
    have N6 := Fr.app N5 (Fr.nil _)
    refine OD.via (B := (T6.setTop (mkF m 94 #[.val (.int p0), .val (.int p1), .val (.long lq), .second, .val (.int p3), .val (.int p4), .val (.ref b1), .val .null, .val (.int (p0 &&& (3 : Int32))), .val (.ref b5)] [(.int (1 : Int32))]))) st6 ?_
    refine OD.go (B := (T6.setTop (mkF m 97 #[.val (.int p0), .val (.int p1), .val (.long lq), .second, .val (.int p3), .val (.int p4), .val (.ref b1), .val .null, .val (.int (p0 &&& (3 : Int32))), .val (.ref b5)] []))) (fun t k => XS.ifNo X6.here hx rfl (hb hby at_94) rfl (by rw [if0]; exact (feq (by decide : ¬ (1 : Int32) = (0 : Int32))).1) k) ?_
    refine OD.go (B := (T6.setTop (mkF m 99 #[.val (.int p0), .val (.int p1), .val (.long lq), .second, .val (.int p3), .val (.int p4), .val (.ref b1), .val .null, .val (.int (p0 &&& (3 : Int32))), .val (.ref b5)] [(.ref b5)]))) (fun t k => XS.aload X6.here hx rfl (hb hby at_97) rfl rfl k) ?_
    obtain ⟨cq7, kq7, qa7, qb7, qc7⟩ := isOf hZ e6 E5
    obtain ⟨_, _, ⟨T7, L7, k7, n7⟩, -, X7, ⟨Lc7, hQ7, l7, y7, z7⟩, st7⟩ := X6.virtualBack hx (y := (⟨"com/example/echo_panel/echopanel/channel/ChannelState", "severity", "()Lcom/example/echo_panel/echopanel/channel/Severity;"⟩ : MethodName)) (z := (⟨"com/example/echo_panel/echopanel/channel/ChannelState", "severity", "()Lcom/example/echo_panel/echopanel/channel/Severity;"⟩ : MethodName)) hown (mvT hZ (Wd65 hw)) (mvT hZ (Wd66 hw)) (notFace_of_selects (args := #[]) (mvT hZ (Wd68 hw))) (mvT hZ (Wd68 hw)) (mvT hZ (Wd67 hw)) (by decide) (backOf (W := 0) (rmX1_0 l Z a0 hw [] b5 T5.heap  G1_5) hZ (Wd69 hw) (Wd3 hw) (by decide) (by decide)) qa7 qc7 (g := (mkF m 99 #[.val (.int p0), .val (.int p1), .val (.long lq), .second, .val (.int p3), .val (.int p4), .val (.ref b1), .val .null, .val (.int (p0 &&& (3 : Int32))), .val (.ref b5)] [(.ref b5)])) rfl (by rw [hml]; rfl) (Steps.refl _) (argsL := []) (rest := []) (lenOf pd9 rfl) rfl (by show 2 * 0 + _ ≤ _; exact Nat.le_of_eq rfl) (hb hby at_99) (fun _ _ => ⟨rfl, e6, (Nat.le_of_ble_eq_true rfl), (Nat.le_of_ble_eq_true rfl)⟩)
    dsimp only [Pt.U, Pt.locs, Pt.cells, Pt.slots] at X7 l7 y7 z7 st7 hQ7
    subst l7 y7 z7
    obtain ⟨rfl, rfl, e7⟩ := hQ7
    have N7 := Fr.app N6 (Fr.nil _)
    refine OD.via (B := (T7.setTop (mkF m 102 #[.val (.int p0), .val (.int p1), .val (.long lq), .second, .val (.int p3), .val (.int p4), .val (.ref b1), .val .null, .val (.int (p0 &&& (3 : Int32))), .val (.ref b5)] [.null]))) st7 ?_
    have f8 := (Ss.ext ((((X00.ext E1).wr W2 (Nat.le_trans (Nat.le_refl _) (Nat.le_of_eq g1.symm))).wr W3 (Nat.le_trans (Nat.le_refl _) (Nat.le_of_eq g1.symm))).keep K5 all0).2)
    obtain ⟨T9, X9, e9, st9⟩ := getS2 X7 hx hZ hown (host := "") (Or.inl (Wd70 hw)) Via.refl e7 f8 (g := (mkF m 102 #[.val (.int p0), .val (.int p1), .val (.long lq), .second, .val (.int p3), .val (.int p4), .val (.ref b1), .val .null, .val (.int (p0 &&& (3 : Int32))), .val (.ref b5)] [.null])) rfl (hb hby at_102)
    refine OD.go (B := (T9.setTop (mkF m 105 #[.val (.int p0), .val (.int p1), .val (.long lq), .second, .val (.int p3), .val (.int p4), .val (.ref b1), .val .null, .val (.int (p0 &&& (3 : Int32))), .val (.ref b5)] [.null, .null]))) st9 ?_
    refine OD.go (B := (T9.setTop (mkF m 108 #[.val (.int p0), .val (.int p1), .val (.long lq), .second, .val (.int p3), .val (.int p4), .val (.ref b1), .val .null, .val (.int (p0 &&& (3 : Int32))), .val (.ref b5)] []))) (fun t k => RoadKit.acmp X9 hx rfl (x := .null) (y := .null) rfl rfl (pc0 := 105) (pc' := 108) (same := true) rfl (hb hby at_105) rfl (by simp) (by decide) (by decide) k) ?_
    refine OD.go (B := (T9.setTop (mkF m 110 #[.val (.int p0), .val (.int p1), .val (.long lq), .second, .val (.int p3), .val (.int p4), .val (.ref b1), .val .null, .val (.int (p0 &&& (3 : Int32))), .val (.ref b5)] [(.ref b5)]))) (fun t k => XS.aload X9.here hx rfl (hb hby at_108) rfl rfl k) ?_
    obtain ⟨cq10, kq10, qa10, qb10, qc10⟩ := isOf hZ e9 E5
    obtain ⟨_, _, ⟨T10, L10, k10, n10⟩, -, X10, ⟨Lc10, hQ10, l10, y10, z10⟩, st10⟩ := X9.virtualBack hx (y := (⟨"com/example/echo_panel/echopanel/channel/ChannelState", "precision", "()I"⟩ : MethodName)) (z := (⟨"com/example/echo_panel/echopanel/channel/ChannelState", "precision", "()I"⟩ : MethodName)) hown (mvT hZ (Wd71 hw)) (mvT hZ (Wd72 hw)) (notFace_of_selects (args := #[]) (mvT hZ (Wd74 hw))) (mvT hZ (Wd74 hw)) (mvT hZ (Wd73 hw)) (by decide) (backOf (W := 0) (rmX2_I l Z a0 hw [] b5 T5.heap (0 : Int32) G2_5) hZ (Wd75 hw) (Wd3 hw) (by decide) (by decide)) qa10 qc10 (g := (mkF m 110 #[.val (.int p0), .val (.int p1), .val (.long lq), .second, .val (.int p3), .val (.int p4), .val (.ref b1), .val .null, .val (.int (p0 &&& (3 : Int32))), .val (.ref b5)] [(.ref b5)])) rfl (by rw [hml]; rfl) (Steps.refl _) (argsL := []) (rest := []) (lenOf pd10 rfl) rfl (by show 2 * 0 + _ ≤ _; exact Nat.le_of_eq rfl) (hb hby at_110) (fun _ _ => ⟨rfl, e9, (Nat.le_of_ble_eq_true rfl), (Nat.le_of_ble_eq_true rfl)⟩)
    dsimp only [Pt.U, Pt.locs, Pt.cells, Pt.slots] at X10 l10 y10 z10 st10 hQ10
    subst l10 y10 z10
    obtain ⟨rfl, rfl, e10⟩ := hQ10
    have N10 := Fr.app N7 (Fr.nil _)
    refine OD.via (B := (T10.setTop (mkF m 113 #[.val (.int p0), .val (.int p1), .val (.long lq), .second, .val (.int p3), .val (.int p4), .val (.ref b1), .val .null, .val (.int (p0 &&& (3 : Int32))), .val (.ref b5)] [(.int (0 : Int32))]))) st10 ?_
    refine OD.go (B := (T10.setTop (mkF m 116 #[.val (.int p0), .val (.int p1), .val (.long lq), .second, .val (.int p3), .val (.int p4), .val (.ref b1), .val .null, .val (.int (p0 &&& (3 : Int32))), .val (.ref b5)] []))) (fun t k => XS.ifNo X10.here hx rfl (hb hby at_113) rfl (by rw [if0]; exact (teq (by decide : (0 : Int32) = (0 : Int32))).2) k) ?_
    refine OD.go (B := (T10.setTop (mkF m 118 #[.val (.int p0), .val (.int p1), .val (.long lq), .second, .val (.int p3), .val (.int p4), .val (.ref b1), .val .null, .val (.int (p0 &&& (3 : Int32))), .val (.ref b5)] [(.ref b5)]))) (fun t k => XS.aload X10.here hx rfl (hb hby at_116) rfl rfl k) ?_
    obtain ⟨cq11, kq11, qa11, qb11, qc11⟩ := isOf hZ e10 E5
    obtain ⟨_, _, ⟨T11, L11, k11, n11⟩, -, X11, ⟨Lc11, hQ11, l11, y11, z11⟩, st11⟩ := X10.virtualBack hx (y := (⟨"com/example/echo_panel/echopanel/channel/ChannelState", "labels", "()Ljava/util/List;"⟩ : MethodName)) (z := (⟨"com/example/echo_panel/echopanel/channel/ChannelState", "labels", "()Ljava/util/List;"⟩ : MethodName)) hown (mvT hZ (Wd76 hw)) (mvT hZ (Wd77 hw)) (notFace_of_selects (args := #[]) (mvT hZ (Wd79 hw))) (mvT hZ (Wd79 hw)) (mvT hZ (Wd78 hw)) (by decide) (backOf (W := 0) (rmX3_1 l Z a0 hw [] b5 T5.heap el G3_5) hZ (Wd80 hw) (Wd3 hw) (by decide) (by decide)) qa11 qc11 (g := (mkF m 118 #[.val (.int p0), .val (.int p1), .val (.long lq), .second, .val (.int p3), .val (.int p4), .val (.ref b1), .val .null, .val (.int (p0 &&& (3 : Int32))), .val (.ref b5)] [(.ref b5)])) rfl (by rw [hml]; rfl) (Steps.refl _) (argsL := []) (rest := []) (lenOf pd5 rfl) rfl (by show 2 * 0 + _ ≤ _; exact Nat.le_of_eq rfl) (hb hby at_118) (fun _ _ => ⟨rfl, e10, (Nat.le_of_ble_eq_true rfl), (Nat.le_of_ble_eq_true rfl)⟩)
    dsimp only [Pt.U, Pt.locs, Pt.cells, Pt.slots] at X11 l11 y11 z11 st11 hQ11
    subst l11 y11 z11
    obtain ⟨rfl, rfl, e11⟩ := hQ11
    have N11 := Fr.app N10 (Fr.nil _)
    refine OD.via (B := (T11.setTop (mkF m 121 #[.val (.int p0), .val (.int p1), .val (.long lq), .second, .val (.int p3), .val (.int p4), .val (.ref b1), .val .null, .val (.int (p0 &&& (3 : Int32))), .val (.ref b5)] [(.ref el)]))) st11 ?_
    have f12 := (Ee.ext ((((X00.ext E1).wr W2 (Nat.le_trans (Nat.le_refl _) (Nat.le_of_eq g1.symm))).wr W3 (Nat.le_trans (Nat.le_refl _) (Nat.le_of_eq g1.symm))).keep K5 all0).2)
    obtain ⟨cq13, kq13, qa13, qb13, qc13⟩ := isOf hZ e11 f12
    obtain ⟨_, _, ⟨T13, L13, k13, n13⟩, -, X13, ⟨Lc13, hQ13, l13, y13, z13⟩, st13⟩ := X11.interfaceBack hx (xi := (⟨"java/util/List", "size", "()I"⟩ : MethodName)) (y := (⟨"java/util/ImmutableCollections$ListN", "size", "()I"⟩ : MethodName)) hown (mvT hZ (Wd81 hw)) (mvT hZ (Wd82 hw)) (mvT hZ (Wd83 hw)) (mvT hZ (Wd84 hw)) (mvT hZ (Wd85 hw)) (mvT hZ (Wd86 hw)) (mvT hZ (Wd87 hw)) (mvT hZ (Wd47 hw)) (by decide) (backOf (W := 0) (rmSZ l Z a0 hw [] el T5.heap h0.size ((((X00.ext E1).wr W2 (Nat.le_trans (Nat.le_refl _) (Nat.le_of_eq g1.symm))).wr W3 (Nat.le_trans (Nat.le_refl _) (Nat.le_of_eq g1.symm))).keep K5 all0) ea kE Se Ee Fa Fel Ae) hZ (Wd89 hw) (Wd88 hw) (by decide) (by decide)) qa13 qb13 qc13 (g := (mkF m 121 #[.val (.int p0), .val (.int p1), .val (.long lq), .second, .val (.int p3), .val (.int p4), .val (.ref b1), .val .null, .val (.int (p0 &&& (3 : Int32))), .val (.ref b5)] [(.ref el)])) rfl (by rw [hml]; rfl) (Steps.refl _) (argsL := []) (rest := []) (lenOf pd10 rfl) rfl (by show 2 * 0 + _ ≤ _; exact Nat.le_of_eq rfl) (hb hby at_121) (fun _ _ => ⟨rfl, e11, (Nat.le_of_ble_eq_true rfl), (Nat.le_of_ble_eq_true rfl)⟩)
    dsimp only [Pt.U, Pt.locs, Pt.cells, Pt.slots] at X13 l13 y13 z13 st13 hQ13
    subst l13 y13 z13
    obtain ⟨rfl, rfl, e13⟩ := hQ13
    have N13 := Fr.app N11 (Fr.nil _)
    refine OD.via (B := (T13.setTop (mkF m 126 #[.val (.int p0), .val (.int p1), .val (.long lq), .second, .val (.int p3), .val (.int p4), .val (.ref b1), .val .null, .val (.int (p0 &&& (3 : Int32))), .val (.ref b5)] [(.int (0 : Int32))]))) st13 ?_
    refine OD.go (B := (T13.setTop (mkF m 129 #[.val (.int p0), .val (.int p1), .val (.long lq), .second, .val (.int p3), .val (.int p4), .val (.ref b1), .val .null, .val (.int (p0 &&& (3 : Int32))), .val (.ref b5)] []))) (fun t k => XS.ifNo X13.here hx rfl (hb hby at_126) rfl (by rw [if0]; exact (teq (by decide : (0 : Int32) = (0 : Int32))).2) k) ?_
    refine OD.go (B := (T13.setTop (mkF m 131 #[.val (.int p0), .val (.int p1), .val (.long lq), .second, .val (.int p3), .val (.int p4), .val (.ref b1), .val .null, .val (.int (p0 &&& (3 : Int32))), .val (.ref b5)] [(.ref b5)]))) (fun t k => XS.aload X13.here hx rfl (hb hby at_129) rfl rfl k) ?_
    obtain ⟨cq14, kq14, qa14, qb14, qc14⟩ := isOf hZ e13 E5
    obtain ⟨_, _, ⟨T14, L14, k14, n14⟩, -, X14, ⟨Lc14, hQ14, l14, y14, z14⟩, st14⟩ := X13.virtualBack hx (y := (⟨"com/example/echo_panel/echopanel/channel/ChannelState", "value", "()Ljava/lang/Object;"⟩ : MethodName)) (z := (⟨"com/example/echo_panel/echopanel/channel/ChannelState", "value", "()Ljava/lang/Object;"⟩ : MethodName)) hown (mvT hZ (Wd92 hw)) (mvT hZ (Wd93 hw)) (notFace_of_selects (args := #[]) (mvT hZ (Wd95 hw))) (mvT hZ (Wd95 hw)) (mvT hZ (Wd94 hw)) (by decide) (backOf (W := 0) (rmX4_0 l Z a0 hw [] b5 T5.heap  G4_5) hZ (Wd96 hw) (Wd3 hw) (by decide) (by decide)) qa14 qc14 (g := (mkF m 131 #[.val (.int p0), .val (.int p1), .val (.long lq), .second, .val (.int p3), .val (.int p4), .val (.ref b1), .val .null, .val (.int (p0 &&& (3 : Int32))), .val (.ref b5)] [(.ref b5)])) rfl (by rw [hml]; rfl) (Steps.refl _) (argsL := []) (rest := []) (lenOf pd11 rfl) rfl (by show 2 * 0 + _ ≤ _; exact Nat.le_of_eq rfl) (hb hby at_131) (fun _ _ => ⟨rfl, e13, (Nat.le_of_ble_eq_true rfl), (Nat.le_of_ble_eq_true rfl)⟩)
    dsimp only [Pt.U, Pt.locs, Pt.cells, Pt.slots] at X14 l14 y14 z14 st14 hQ14
    subst l14 y14 z14
    obtain ⟨rfl, rfl, e14⟩ := hQ14
    have N14 := Fr.app N13 (Fr.nil _)
    refine OD.via (B := (T14.setTop (mkF m 134 #[.val (.int p0), .val (.int p1), .val (.long lq), .second, .val (.int p3), .val (.int p4), .val (.ref b1), .val .null, .val (.int (p0 &&& (3 : Int32))), .val (.ref b5)] [.null]))) st14 ?_
    refine OD.go (B := (T14.setTop (mkF m 136 #[.val (.int p0), .val (.int p1), .val (.long lq), .second, .val (.int p3), .val (.int p4), .val (.ref b1), .val .null, .val (.int (p0 &&& (3 : Int32))), .val (.ref b5)] [.null, .null]))) (fun t k => XS.aload X14.here hx rfl (hb hby at_134) rfl rfl k) ?_
    refine OD.go (B := (T14.setTop (mkF m 139 #[.val (.int p0), .val (.int p1), .val (.long lq), .second, .val (.int p3), .val (.int p4), .val (.ref b1), .val .null, .val (.int (p0 &&& (3 : Int32))), .val (.ref b5)] []))) (fun t k => RoadKit.acmp X14 hx rfl (x := .null) (y := .null) rfl rfl (pc0 := 136) (pc' := 139) (same := true) rfl (hb hby at_136) rfl (by simp) (by decide) (by decide) k) ?_
    refine OD.go (B := (T14.setTop (mkF m 141 #[.val (.int p0), .val (.int p1), .val (.long lq), .second, .val (.int p3), .val (.int p4), .val (.ref b1), .val .null, .val (.int (p0 &&& (3 : Int32))), .val (.ref b5)] [(.ref b5)]))) (fun t k => XS.aload X14.here hx rfl (hb hby at_139) rfl rfl k) ?_
    obtain ⟨cq15, kq15, qa15, qb15, qc15⟩ := isOf hZ e14 E5
    obtain ⟨_, _, ⟨T15, L15, k15, n15⟩, -, X15, ⟨Lc15, hQ15, l15, y15, z15⟩, st15⟩ := X14.virtualBack hx (y := (⟨"com/example/echo_panel/echopanel/channel/ChannelState", "limits", "()Lcom/example/echo_panel/echopanel/channel/DisplayLimits;"⟩ : MethodName)) (z := (⟨"com/example/echo_panel/echopanel/channel/ChannelState", "limits", "()Lcom/example/echo_panel/echopanel/channel/DisplayLimits;"⟩ : MethodName)) hown (mvT hZ (Wd97 hw)) (mvT hZ (Wd98 hw)) (notFace_of_selects (args := #[]) (mvT hZ (Wd100 hw))) (mvT hZ (Wd100 hw)) (mvT hZ (Wd99 hw)) (by decide) (backOf (W := 0) (rmX5_0 l Z a0 hw [] b5 T5.heap  G5_5) hZ (Wd101 hw) (Wd3 hw) (by decide) (by decide)) qa15 qc15 (g := (mkF m 141 #[.val (.int p0), .val (.int p1), .val (.long lq), .second, .val (.int p3), .val (.int p4), .val (.ref b1), .val .null, .val (.int (p0 &&& (3 : Int32))), .val (.ref b5)] [(.ref b5)])) rfl (by rw [hml]; rfl) (Steps.refl _) (argsL := []) (rest := []) (lenOf pd12 rfl) rfl (by show 2 * 0 + _ ≤ _; exact Nat.le_of_eq rfl) (hb hby at_141) (fun _ _ => ⟨rfl, e14, (Nat.le_of_ble_eq_true rfl), (Nat.le_of_ble_eq_true rfl)⟩)
    dsimp only [Pt.U, Pt.locs, Pt.cells, Pt.slots] at X15 l15 y15 z15 st15 hQ15
    subst l15 y15 z15
    obtain ⟨rfl, rfl, e15⟩ := hQ15
    have N15 := Fr.app N14 (Fr.nil _)
    refine OD.via (B := (T15.setTop (mkF m 144 #[.val (.int p0), .val (.int p1), .val (.long lq), .second, .val (.int p3), .val (.int p4), .val (.ref b1), .val .null, .val (.int (p0 &&& (3 : Int32))), .val (.ref b5)] [.null]))) st15 ?_
    refine OD.go (B := (T15.setTop (mkF m 147 #[.val (.int p0), .val (.int p1), .val (.long lq), .second, .val (.int p3), .val (.int p4), .val (.ref b1), .val .null, .val (.int (p0 &&& (3 : Int32))), .val (.ref b5)] []))) (fun t k => XS.ifnonnullNo X15.here hx rfl (hb hby at_144) rfl k) ?_
    refine OD.go (B := (T15.setTop (mkF m 148 #[.val (.int p0), .val (.int p1), .val (.long lq), .second, .val (.int p3), .val (.int p4), .val (.ref b1), .val .null, .val (.int (p0 &&& (3 : Int32))), .val (.ref b5)] [(.int (1 : Int32))]))) (fun t k => XS.iconst X15.here hx rfl (hb hby at_147) k) ?_
    refine OD.go (B := (T15.setTop (mkF m 152 #[.val (.int p0), .val (.int p1), .val (.long lq), .second, .val (.int p3), .val (.int p4), .val (.ref b1), .val .null, .val (.int (p0 &&& (3 : Int32))), .val (.ref b5)] [(.int (1 : Int32))]))) (fun t k => XS.goto X15.here hx rfl (pc0 := 148) (pc' := 152) rfl (hb hby at_148) (by decide) (by decide) k) ?_
    exact OD.ret X15 hx hlk (t := .boolean) Bd.returns rfl (Or.inl ⟨rfl, Or.inr (Or.inl rfl), _, rfl⟩) (hb hby at_152) (Nat.le_of_ble_eq_true rfl) (Nat.le_of_ble_eq_true rfl) ⟨rfl, N15⟩
  · refine OD.go (B := (T3.setTop (mkF m 41 #[.val (.int p0), .val (.int p1), .val (.long lq), .second, .val (.int p3), .val (.int p4), .val (.ref b1), .unset, .val (.int (p0 &&& (3 : Int32))), .unset] []))) (fun t k => XS.ifYes X3.here hx rfl (pc0 := 32) (pc' := 41) rfl (hb hby at_32) rfl (by rw [if0]; exact (feq c32_4).2) (by decide) (by decide) k) ?_
    refine OD.go (B := (T3.setTop (mkF m 43 #[.val (.int p0), .val (.int p1), .val (.long lq), .second, .val (.int p3), .val (.int p4), .val (.ref b1), .unset, .val (.int (p0 &&& (3 : Int32))), .unset] [(.int (p0 &&& (3 : Int32)))]))) (fun t k => XS.iload X3.here hx rfl (hb hby at_41) rfl k) ?_
    refine OD.go (B := (T3.setTop (mkF m 44 #[.val (.int p0), .val (.int p1), .val (.long lq), .second, .val (.int p3), .val (.int p4), .val (.ref b1), .unset, .val (.int (p0 &&& (3 : Int32))), .unset] [(.int (1 : Int32)), (.int (p0 &&& (3 : Int32)))]))) (fun t k => XS.iconst X3.here hx rfl (hb hby at_43) k) ?_
    by_cases c44_16 : (p0 &&& (3 : Int32)) = (1 : Int32)
    · refine OD.go (B := (T3.setTop (mkF m 47 #[.val (.int p0), .val (.int p1), .val (.long lq), .second, .val (.int p3), .val (.int p4), .val (.ref b1), .unset, .val (.int (p0 &&& (3 : Int32))), .unset] []))) (fun t k => XS.icmpNo X3.here hx rfl (hb hby at_44) rfl (teq c44_16).2 k) ?_
      refine OD.go (B := (T3.setTop (mkF m 48 #[.val (.int p0), .val (.int p1), .val (.long lq), .second, .val (.int p3), .val (.int p4), .val (.ref b1), .unset, .val (.int (p0 &&& (3 : Int32))), .unset] [(.int p1)]))) (fun t k => XS.iloadN X3.here hx rfl (hb hby at_47) rfl k) ?_
      obtain ⟨_, _, ⟨T17, L17, k17, n17⟩, -, X17, ⟨Lc17, hQ17, l17, y17, z17⟩, st17⟩ := Jvm.LawKit.callS X3 hx (y := (⟨"java/lang/Integer", "valueOf", "(I)Ljava/lang/Integer;"⟩ : MethodName)) hown (mvT hZ (Wd102 hw)) (mvT hZ (Wd103 hw)) (mvT hZ (Wd104 hw)) (mvT hZ (Wd105 hw)) (by decide) (backOf (W := 0) (rmIV l Z a0 hw [] p1 h3 h0.size (Nat.le_trans (Nat.le_trans (Nat.le_trans (Nat.le_refl _) E1.1) (Keep.of_wr W2).1) (Keep.of_wr W3).1) (((X00.ext E1).wr W2 (Nat.le_trans (Nat.le_refl _) (Nat.le_of_eq g1.symm))).wr W3 (Nat.le_trans (Nat.le_refl _) (Nat.le_of_eq g1.symm))) ca Sh Sc Cc) hZ (Wd105 hw) (Wd104 hw) (by decide) (by decide)) (g := (mkF m 48 #[.val (.int p0), .val (.int p1), .val (.long lq), .second, .val (.int p3), .val (.int p4), .val (.ref b1), .unset, .val (.int (p0 &&& (3 : Int32))), .unset] [(.int p1)])) rfl (by rw [hml]; rfl) (argsL := [(.int p1)]) (rest := []) (lenOf pd13 rfl) rfl (by show 2 * 0 + _ ≤ _; exact Nat.le_of_eq rfl) (hb hby at_48) (fun _ _ => ⟨rfl, e3, (Nat.le_of_ble_eq_true rfl), (Nat.le_of_ble_eq_true rfl)⟩)
      dsimp only [Pt.U, Pt.locs, Pt.cells, Pt.slots] at X17 l17 y17 z17 st17 hQ17
      subst l17 y17 z17
      obtain ⟨w17, rfl, r17, Nq17, K17⟩ := hQ17
      have N17 := Fr.app N3 Nq17
      rcases ref_cases r17 with rfl | ⟨b17, rfl⟩
      · refine OD.go (B := (T17.setTop (mkF m 51 #[.val (.int p0), .val (.int p1), .val (.long lq), .second, .val (.int p3), .val (.int p4), .val (.ref b1), .unset, .val (.int (p0 &&& (3 : Int32))), .unset] [.null]))) st17 ?_
        refine OD.go (B := (T17.setTop (mkF m 53 #[.val (.int p0), .val (.int p1), .val (.long lq), .second, .val (.int p3), .val (.int p4), .val (.ref b1), .val .null, .val (.int (p0 &&& (3 : Int32))), .unset] []))) (fun t k => XS.astore X17.here hx rfl (hb hby at_51) rfl rfl (l' := #[.val (.int p0), .val (.int p1), .val (.long lq), .second, .val (.int p3), .val (.int p4), .val (.ref b1), .val .null, .val (.int (p0 &&& (3 : Int32))), .unset]) rfl k) ?_
        refine OD.go (B := (T17.setTop (mkF m 82 #[.val (.int p0), .val (.int p1), .val (.long lq), .second, .val (.int p3), .val (.int p4), .val (.ref b1), .val .null, .val (.int (p0 &&& (3 : Int32))), .unset] []))) (fun t k => XS.goto X17.here hx rfl (pc0 := 53) (pc' := 82) rfl (hb hby at_53) (by decide) (by decide) k) ?_
        refine OD.go (B := (T17.setTop (mkF m 84 #[.val (.int p0), .val (.int p1), .val (.long lq), .second, .val (.int p3), .val (.int p4), .val (.ref b1), .val .null, .val (.int (p0 &&& (3 : Int32))), .unset] [.null]))) (fun t k => XS.aload X17.here hx rfl (hb hby at_82) rfl rfl k) ?_
        obtain ⟨_, _, ⟨T18, L18, k18, n18⟩, -, X18, ⟨Lc18, hQ18, l18, y18, z18⟩, st18⟩ := Jvm.LawKit.callS X17 hx (y := (⟨"com/example/echo_panel/echopanel/channel/ChannelState", "of", "(Ljava/lang/Object;)Lcom/example/echo_panel/echopanel/channel/ChannelState;"⟩ : MethodName)) hown (mvT hZ (Wd1 hw)) (mvT hZ (Wd2 hw)) (mvT hZ (Wd3 hw)) (mvT hZ (Wd4 hw)) (by decide) (backOf (W := 0) (rmOf_00 l Z a0 hw []  T17.heap h0.size ((((X00.ext E1).wr W2 (Nat.le_trans (Nat.le_refl _) (Nat.le_of_eq g1.symm))).wr W3 (Nat.le_trans (Nat.le_refl _) (Nat.le_of_eq g1.symm))).keep K17 all0) el ea kE Se Ee Fa Fel Ae (Nat.le_trans (Nat.le_trans (Nat.le_trans (Nat.le_trans (Nat.le_refl _) E1.1) (Keep.of_wr W2).1) (Keep.of_wr W3).1) K17.1)  Ss) hZ (Wd4 hw) (Wd3 hw) (by decide) (by decide)) (g := (mkF m 84 #[.val (.int p0), .val (.int p1), .val (.long lq), .second, .val (.int p3), .val (.int p4), .val (.ref b1), .val .null, .val (.int (p0 &&& (3 : Int32))), .unset] [.null])) rfl (by rw [hml]; rfl) (argsL := [.null]) (rest := []) (lenOf pd7 rfl) rfl (by show 2 * 0 + _ ≤ _; exact Nat.le_of_eq rfl) (hb hby at_84) (fun _ _ => ⟨rfl, rfl, (Nat.le_of_ble_eq_true rfl), (Nat.le_of_ble_eq_true rfl)⟩)
        dsimp only [Pt.U, Pt.locs, Pt.cells, Pt.slots] at X18 l18 y18 z18 st18 hQ18
        subst l18 y18 z18
        obtain ⟨b18, rfl, Nq18, K18, ob18, E18, G0_18, G1_18, G2_18, G3_18, G4_18, G5_18⟩ := hQ18
        have N18 := Fr.app N17 Nq18
        refine OD.go (B := (T18.setTop (mkF m 87 #[.val (.int p0), .val (.int p1), .val (.long lq), .second, .val (.int p3), .val (.int p4), .val (.ref b1), .val .null, .val (.int (p0 &&& (3 : Int32))), .unset] [(.ref b18)]))) st18 ?_
        refine OD.go (B := (T18.setTop (mkF m 89 #[.val (.int p0), .val (.int p1), .val (.long lq), .second, .val (.int p3), .val (.int p4), .val (.ref b1), .val .null, .val (.int (p0 &&& (3 : Int32))), .val (.ref b18)] []))) (fun t k => XS.astore X18.here hx rfl (hb hby at_87) rfl rfl (l' := #[.val (.int p0), .val (.int p1), .val (.long lq), .second, .val (.int p3), .val (.int p4), .val (.ref b1), .val .null, .val (.int (p0 &&& (3 : Int32))), .val (.ref b18)]) rfl k) ?_
        refine OD.go (B := (T18.setTop (mkF m 91 #[.val (.int p0), .val (.int p1), .val (.long lq), .second, .val (.int p3), .val (.int p4), .val (.ref b1), .val .null, .val (.int (p0 &&& (3 : Int32))), .val (.ref b18)] [(.ref b18)]))) (fun t k => XS.aload X18.here hx rfl (hb hby at_89) rfl rfl k) ?_
        obtain ⟨cq19, kq19, qa19, qb19, qc19⟩ := isOf hZ rfl E18
        obtain ⟨_, _, ⟨T19, L19, k19, n19⟩, -, X19, ⟨Lc19, hQ19, l19, y19, z19⟩, st19⟩ := X18.virtualBack hx (y := (⟨"com/example/echo_panel/echopanel/channel/ChannelState", "connected", "()Z"⟩ : MethodName)) (z := (⟨"com/example/echo_panel/echopanel/channel/ChannelState", "connected", "()Z"⟩ : MethodName)) hown (mvT hZ (Wd60 hw)) (mvT hZ (Wd61 hw)) (notFace_of_selects (args := #[]) (mvT hZ (Wd63 hw))) (mvT hZ (Wd63 hw)) (mvT hZ (Wd62 hw)) (by decide) (backOf (W := 0) (rmX0_I l Z a0 hw [] b18 T18.heap (1 : Int32) G0_18 rfl) hZ (Wd64 hw) (Wd3 hw) (by decide) (by decide)) qa19 qc19 (g := (mkF m 91 #[.val (.int p0), .val (.int p1), .val (.long lq), .second, .val (.int p3), .val (.int p4), .val (.ref b1), .val .null, .val (.int (p0 &&& (3 : Int32))), .val (.ref b18)] [(.ref b18)])) rfl (by rw [hml]; rfl) (Steps.refl _) (argsL := []) (rest := []) (lenOf pd8 rfl) rfl (by show 2 * 0 + _ ≤ _; exact Nat.le_of_eq rfl) (hb hby at_91) (fun _ _ => ⟨rfl, rfl, (Nat.le_of_ble_eq_true rfl), (Nat.le_of_ble_eq_true rfl)⟩)
        dsimp only [Pt.U, Pt.locs, Pt.cells, Pt.slots] at X19 l19 y19 z19 st19 hQ19
        subst l19 y19 z19
        obtain ⟨rfl, rfl, e19⟩ := hQ19
        have N19 := Fr.app N18 (Fr.nil _)
        refine OD.via (B := (T19.setTop (mkF m 94 #[.val (.int p0), .val (.int p1), .val (.long lq), .second, .val (.int p3), .val (.int p4), .val (.ref b1), .val .null, .val (.int (p0 &&& (3 : Int32))), .val (.ref b18)] [(.int (1 : Int32))]))) st19 ?_
        refine OD.go (B := (T19.setTop (mkF m 97 #[.val (.int p0), .val (.int p1), .val (.long lq), .second, .val (.int p3), .val (.int p4), .val (.ref b1), .val .null, .val (.int (p0 &&& (3 : Int32))), .val (.ref b18)] []))) (fun t k => XS.ifNo X19.here hx rfl (hb hby at_94) rfl (by rw [if0]; exact (feq (by decide : ¬ (1 : Int32) = (0 : Int32))).1) k) ?_
        refine OD.go (B := (T19.setTop (mkF m 99 #[.val (.int p0), .val (.int p1), .val (.long lq), .second, .val (.int p3), .val (.int p4), .val (.ref b1), .val .null, .val (.int (p0 &&& (3 : Int32))), .val (.ref b18)] [(.ref b18)]))) (fun t k => XS.aload X19.here hx rfl (hb hby at_97) rfl rfl k) ?_
        obtain ⟨cq20, kq20, qa20, qb20, qc20⟩ := isOf hZ e19 E18
        obtain ⟨_, _, ⟨T20, L20, k20, n20⟩, -, X20, ⟨Lc20, hQ20, l20, y20, z20⟩, st20⟩ := X19.virtualBack hx (y := (⟨"com/example/echo_panel/echopanel/channel/ChannelState", "severity", "()Lcom/example/echo_panel/echopanel/channel/Severity;"⟩ : MethodName)) (z := (⟨"com/example/echo_panel/echopanel/channel/ChannelState", "severity", "()Lcom/example/echo_panel/echopanel/channel/Severity;"⟩ : MethodName)) hown (mvT hZ (Wd65 hw)) (mvT hZ (Wd66 hw)) (notFace_of_selects (args := #[]) (mvT hZ (Wd68 hw))) (mvT hZ (Wd68 hw)) (mvT hZ (Wd67 hw)) (by decide) (backOf (W := 0) (rmX1_0 l Z a0 hw [] b18 T18.heap  G1_18) hZ (Wd69 hw) (Wd3 hw) (by decide) (by decide)) qa20 qc20 (g := (mkF m 99 #[.val (.int p0), .val (.int p1), .val (.long lq), .second, .val (.int p3), .val (.int p4), .val (.ref b1), .val .null, .val (.int (p0 &&& (3 : Int32))), .val (.ref b18)] [(.ref b18)])) rfl (by rw [hml]; rfl) (Steps.refl _) (argsL := []) (rest := []) (lenOf pd9 rfl) rfl (by show 2 * 0 + _ ≤ _; exact Nat.le_of_eq rfl) (hb hby at_99) (fun _ _ => ⟨rfl, e19, (Nat.le_of_ble_eq_true rfl), (Nat.le_of_ble_eq_true rfl)⟩)
        dsimp only [Pt.U, Pt.locs, Pt.cells, Pt.slots] at X20 l20 y20 z20 st20 hQ20
        subst l20 y20 z20
        obtain ⟨rfl, rfl, e20⟩ := hQ20
        have N20 := Fr.app N19 (Fr.nil _)
        refine OD.via (B := (T20.setTop (mkF m 102 #[.val (.int p0), .val (.int p1), .val (.long lq), .second, .val (.int p3), .val (.int p4), .val (.ref b1), .val .null, .val (.int (p0 &&& (3 : Int32))), .val (.ref b18)] [.null]))) st20 ?_
        have f21 := (Ss.ext (((((X00.ext E1).wr W2 (Nat.le_trans (Nat.le_refl _) (Nat.le_of_eq g1.symm))).wr W3 (Nat.le_trans (Nat.le_refl _) (Nat.le_of_eq g1.symm))).keep K17 all0).keep K18 all0).2)
        obtain ⟨T22, X22, e22, st22⟩ := getS2 X20 hx hZ hown (host := "") (Or.inl (Wd70 hw)) Via.refl e20 f21 (g := (mkF m 102 #[.val (.int p0), .val (.int p1), .val (.long lq), .second, .val (.int p3), .val (.int p4), .val (.ref b1), .val .null, .val (.int (p0 &&& (3 : Int32))), .val (.ref b18)] [.null])) rfl (hb hby at_102)
        refine OD.go (B := (T22.setTop (mkF m 105 #[.val (.int p0), .val (.int p1), .val (.long lq), .second, .val (.int p3), .val (.int p4), .val (.ref b1), .val .null, .val (.int (p0 &&& (3 : Int32))), .val (.ref b18)] [.null, .null]))) st22 ?_
        refine OD.go (B := (T22.setTop (mkF m 108 #[.val (.int p0), .val (.int p1), .val (.long lq), .second, .val (.int p3), .val (.int p4), .val (.ref b1), .val .null, .val (.int (p0 &&& (3 : Int32))), .val (.ref b18)] []))) (fun t k => RoadKit.acmp X22 hx rfl (x := .null) (y := .null) rfl rfl (pc0 := 105) (pc' := 108) (same := true) rfl (hb hby at_105) rfl (by simp) (by decide) (by decide) k) ?_
        refine OD.go (B := (T22.setTop (mkF m 110 #[.val (.int p0), .val (.int p1), .val (.long lq), .second, .val (.int p3), .val (.int p4), .val (.ref b1), .val .null, .val (.int (p0 &&& (3 : Int32))), .val (.ref b18)] [(.ref b18)]))) (fun t k => XS.aload X22.here hx rfl (hb hby at_108) rfl rfl k) ?_
        obtain ⟨cq23, kq23, qa23, qb23, qc23⟩ := isOf hZ e22 E18
        obtain ⟨_, _, ⟨T23, L23, k23, n23⟩, -, X23, ⟨Lc23, hQ23, l23, y23, z23⟩, st23⟩ := X22.virtualBack hx (y := (⟨"com/example/echo_panel/echopanel/channel/ChannelState", "precision", "()I"⟩ : MethodName)) (z := (⟨"com/example/echo_panel/echopanel/channel/ChannelState", "precision", "()I"⟩ : MethodName)) hown (mvT hZ (Wd71 hw)) (mvT hZ (Wd72 hw)) (notFace_of_selects (args := #[]) (mvT hZ (Wd74 hw))) (mvT hZ (Wd74 hw)) (mvT hZ (Wd73 hw)) (by decide) (backOf (W := 0) (rmX2_I l Z a0 hw [] b18 T18.heap (0 : Int32) G2_18) hZ (Wd75 hw) (Wd3 hw) (by decide) (by decide)) qa23 qc23 (g := (mkF m 110 #[.val (.int p0), .val (.int p1), .val (.long lq), .second, .val (.int p3), .val (.int p4), .val (.ref b1), .val .null, .val (.int (p0 &&& (3 : Int32))), .val (.ref b18)] [(.ref b18)])) rfl (by rw [hml]; rfl) (Steps.refl _) (argsL := []) (rest := []) (lenOf pd10 rfl) rfl (by show 2 * 0 + _ ≤ _; exact Nat.le_of_eq rfl) (hb hby at_110) (fun _ _ => ⟨rfl, e22, (Nat.le_of_ble_eq_true rfl), (Nat.le_of_ble_eq_true rfl)⟩)
        dsimp only [Pt.U, Pt.locs, Pt.cells, Pt.slots] at X23 l23 y23 z23 st23 hQ23
        subst l23 y23 z23
        obtain ⟨rfl, rfl, e23⟩ := hQ23
        have N23 := Fr.app N20 (Fr.nil _)
        refine OD.via (B := (T23.setTop (mkF m 113 #[.val (.int p0), .val (.int p1), .val (.long lq), .second, .val (.int p3), .val (.int p4), .val (.ref b1), .val .null, .val (.int (p0 &&& (3 : Int32))), .val (.ref b18)] [(.int (0 : Int32))]))) st23 ?_
        refine OD.go (B := (T23.setTop (mkF m 116 #[.val (.int p0), .val (.int p1), .val (.long lq), .second, .val (.int p3), .val (.int p4), .val (.ref b1), .val .null, .val (.int (p0 &&& (3 : Int32))), .val (.ref b18)] []))) (fun t k => XS.ifNo X23.here hx rfl (hb hby at_113) rfl (by rw [if0]; exact (teq (by decide : (0 : Int32) = (0 : Int32))).2) k) ?_
        refine OD.go (B := (T23.setTop (mkF m 118 #[.val (.int p0), .val (.int p1), .val (.long lq), .second, .val (.int p3), .val (.int p4), .val (.ref b1), .val .null, .val (.int (p0 &&& (3 : Int32))), .val (.ref b18)] [(.ref b18)]))) (fun t k => XS.aload X23.here hx rfl (hb hby at_116) rfl rfl k) ?_
        obtain ⟨cq24, kq24, qa24, qb24, qc24⟩ := isOf hZ e23 E18
        obtain ⟨_, _, ⟨T24, L24, k24, n24⟩, -, X24, ⟨Lc24, hQ24, l24, y24, z24⟩, st24⟩ := X23.virtualBack hx (y := (⟨"com/example/echo_panel/echopanel/channel/ChannelState", "labels", "()Ljava/util/List;"⟩ : MethodName)) (z := (⟨"com/example/echo_panel/echopanel/channel/ChannelState", "labels", "()Ljava/util/List;"⟩ : MethodName)) hown (mvT hZ (Wd76 hw)) (mvT hZ (Wd77 hw)) (notFace_of_selects (args := #[]) (mvT hZ (Wd79 hw))) (mvT hZ (Wd79 hw)) (mvT hZ (Wd78 hw)) (by decide) (backOf (W := 0) (rmX3_1 l Z a0 hw [] b18 T18.heap el G3_18) hZ (Wd80 hw) (Wd3 hw) (by decide) (by decide)) qa24 qc24 (g := (mkF m 118 #[.val (.int p0), .val (.int p1), .val (.long lq), .second, .val (.int p3), .val (.int p4), .val (.ref b1), .val .null, .val (.int (p0 &&& (3 : Int32))), .val (.ref b18)] [(.ref b18)])) rfl (by rw [hml]; rfl) (Steps.refl _) (argsL := []) (rest := []) (lenOf pd5 rfl) rfl (by show 2 * 0 + _ ≤ _; exact Nat.le_of_eq rfl) (hb hby at_118) (fun _ _ => ⟨rfl, e23, (Nat.le_of_ble_eq_true rfl), (Nat.le_of_ble_eq_true rfl)⟩)
        dsimp only [Pt.U, Pt.locs, Pt.cells, Pt.slots] at X24 l24 y24 z24 st24 hQ24
        subst l24 y24 z24
        obtain ⟨rfl, rfl, e24⟩ := hQ24
        have N24 := Fr.app N23 (Fr.nil _)
        refine OD.via (B := (T24.setTop (mkF m 121 #[.val (.int p0), .val (.int p1), .val (.long lq), .second, .val (.int p3), .val (.int p4), .val (.ref b1), .val .null, .val (.int (p0 &&& (3 : Int32))), .val (.ref b18)] [(.ref el)]))) st24 ?_
        have f25 := (Ee.ext (((((X00.ext E1).wr W2 (Nat.le_trans (Nat.le_refl _) (Nat.le_of_eq g1.symm))).wr W3 (Nat.le_trans (Nat.le_refl _) (Nat.le_of_eq g1.symm))).keep K17 all0).keep K18 all0).2)
        obtain ⟨cq26, kq26, qa26, qb26, qc26⟩ := isOf hZ e24 f25
        obtain ⟨_, _, ⟨T26, L26, k26, n26⟩, -, X26, ⟨Lc26, hQ26, l26, y26, z26⟩, st26⟩ := X24.interfaceBack hx (xi := (⟨"java/util/List", "size", "()I"⟩ : MethodName)) (y := (⟨"java/util/ImmutableCollections$ListN", "size", "()I"⟩ : MethodName)) hown (mvT hZ (Wd81 hw)) (mvT hZ (Wd82 hw)) (mvT hZ (Wd83 hw)) (mvT hZ (Wd84 hw)) (mvT hZ (Wd85 hw)) (mvT hZ (Wd86 hw)) (mvT hZ (Wd87 hw)) (mvT hZ (Wd47 hw)) (by decide) (backOf (W := 0) (rmSZ l Z a0 hw [] el T18.heap h0.size (((((X00.ext E1).wr W2 (Nat.le_trans (Nat.le_refl _) (Nat.le_of_eq g1.symm))).wr W3 (Nat.le_trans (Nat.le_refl _) (Nat.le_of_eq g1.symm))).keep K17 all0).keep K18 all0) ea kE Se Ee Fa Fel Ae) hZ (Wd89 hw) (Wd88 hw) (by decide) (by decide)) qa26 qb26 qc26 (g := (mkF m 121 #[.val (.int p0), .val (.int p1), .val (.long lq), .second, .val (.int p3), .val (.int p4), .val (.ref b1), .val .null, .val (.int (p0 &&& (3 : Int32))), .val (.ref b18)] [(.ref el)])) rfl (by rw [hml]; rfl) (Steps.refl _) (argsL := []) (rest := []) (lenOf pd10 rfl) rfl (by show 2 * 0 + _ ≤ _; exact Nat.le_of_eq rfl) (hb hby at_121) (fun _ _ => ⟨rfl, e24, (Nat.le_of_ble_eq_true rfl), (Nat.le_of_ble_eq_true rfl)⟩)
        dsimp only [Pt.U, Pt.locs, Pt.cells, Pt.slots] at X26 l26 y26 z26 st26 hQ26
        subst l26 y26 z26
        obtain ⟨rfl, rfl, e26⟩ := hQ26
        have N26 := Fr.app N24 (Fr.nil _)
        refine OD.via (B := (T26.setTop (mkF m 126 #[.val (.int p0), .val (.int p1), .val (.long lq), .second, .val (.int p3), .val (.int p4), .val (.ref b1), .val .null, .val (.int (p0 &&& (3 : Int32))), .val (.ref b18)] [(.int (0 : Int32))]))) st26 ?_
        refine OD.go (B := (T26.setTop (mkF m 129 #[.val (.int p0), .val (.int p1), .val (.long lq), .second, .val (.int p3), .val (.int p4), .val (.ref b1), .val .null, .val (.int (p0 &&& (3 : Int32))), .val (.ref b18)] []))) (fun t k => XS.ifNo X26.here hx rfl (hb hby at_126) rfl (by rw [if0]; exact (teq (by decide : (0 : Int32) = (0 : Int32))).2) k) ?_
        refine OD.go (B := (T26.setTop (mkF m 131 #[.val (.int p0), .val (.int p1), .val (.long lq), .second, .val (.int p3), .val (.int p4), .val (.ref b1), .val .null, .val (.int (p0 &&& (3 : Int32))), .val (.ref b18)] [(.ref b18)]))) (fun t k => XS.aload X26.here hx rfl (hb hby at_129) rfl rfl k) ?_
        obtain ⟨cq27, kq27, qa27, qb27, qc27⟩ := isOf hZ e26 E18
        obtain ⟨_, _, ⟨T27, L27, k27, n27⟩, -, X27, ⟨Lc27, hQ27, l27, y27, z27⟩, st27⟩ := X26.virtualBack hx (y := (⟨"com/example/echo_panel/echopanel/channel/ChannelState", "value", "()Ljava/lang/Object;"⟩ : MethodName)) (z := (⟨"com/example/echo_panel/echopanel/channel/ChannelState", "value", "()Ljava/lang/Object;"⟩ : MethodName)) hown (mvT hZ (Wd92 hw)) (mvT hZ (Wd93 hw)) (notFace_of_selects (args := #[]) (mvT hZ (Wd95 hw))) (mvT hZ (Wd95 hw)) (mvT hZ (Wd94 hw)) (by decide) (backOf (W := 0) (rmX4_0 l Z a0 hw [] b18 T18.heap  G4_18) hZ (Wd96 hw) (Wd3 hw) (by decide) (by decide)) qa27 qc27 (g := (mkF m 131 #[.val (.int p0), .val (.int p1), .val (.long lq), .second, .val (.int p3), .val (.int p4), .val (.ref b1), .val .null, .val (.int (p0 &&& (3 : Int32))), .val (.ref b18)] [(.ref b18)])) rfl (by rw [hml]; rfl) (Steps.refl _) (argsL := []) (rest := []) (lenOf pd11 rfl) rfl (by show 2 * 0 + _ ≤ _; exact Nat.le_of_eq rfl) (hb hby at_131) (fun _ _ => ⟨rfl, e26, (Nat.le_of_ble_eq_true rfl), (Nat.le_of_ble_eq_true rfl)⟩)
        dsimp only [Pt.U, Pt.locs, Pt.cells, Pt.slots] at X27 l27 y27 z27 st27 hQ27
        subst l27 y27 z27
        obtain ⟨rfl, rfl, e27⟩ := hQ27
        have N27 := Fr.app N26 (Fr.nil _)
        refine OD.via (B := (T27.setTop (mkF m 134 #[.val (.int p0), .val (.int p1), .val (.long lq), .second, .val (.int p3), .val (.int p4), .val (.ref b1), .val .null, .val (.int (p0 &&& (3 : Int32))), .val (.ref b18)] [.null]))) st27 ?_
        refine OD.go (B := (T27.setTop (mkF m 136 #[.val (.int p0), .val (.int p1), .val (.long lq), .second, .val (.int p3), .val (.int p4), .val (.ref b1), .val .null, .val (.int (p0 &&& (3 : Int32))), .val (.ref b18)] [.null, .null]))) (fun t k => XS.aload X27.here hx rfl (hb hby at_134) rfl rfl k) ?_
        refine OD.go (B := (T27.setTop (mkF m 139 #[.val (.int p0), .val (.int p1), .val (.long lq), .second, .val (.int p3), .val (.int p4), .val (.ref b1), .val .null, .val (.int (p0 &&& (3 : Int32))), .val (.ref b18)] []))) (fun t k => RoadKit.acmp X27 hx rfl (x := .null) (y := .null) rfl rfl (pc0 := 136) (pc' := 139) (same := true) rfl (hb hby at_136) rfl (by simp) (by decide) (by decide) k) ?_
        refine OD.go (B := (T27.setTop (mkF m 141 #[.val (.int p0), .val (.int p1), .val (.long lq), .second, .val (.int p3), .val (.int p4), .val (.ref b1), .val .null, .val (.int (p0 &&& (3 : Int32))), .val (.ref b18)] [(.ref b18)]))) (fun t k => XS.aload X27.here hx rfl (hb hby at_139) rfl rfl k) ?_
        obtain ⟨cq28, kq28, qa28, qb28, qc28⟩ := isOf hZ e27 E18
        obtain ⟨_, _, ⟨T28, L28, k28, n28⟩, -, X28, ⟨Lc28, hQ28, l28, y28, z28⟩, st28⟩ := X27.virtualBack hx (y := (⟨"com/example/echo_panel/echopanel/channel/ChannelState", "limits", "()Lcom/example/echo_panel/echopanel/channel/DisplayLimits;"⟩ : MethodName)) (z := (⟨"com/example/echo_panel/echopanel/channel/ChannelState", "limits", "()Lcom/example/echo_panel/echopanel/channel/DisplayLimits;"⟩ : MethodName)) hown (mvT hZ (Wd97 hw)) (mvT hZ (Wd98 hw)) (notFace_of_selects (args := #[]) (mvT hZ (Wd100 hw))) (mvT hZ (Wd100 hw)) (mvT hZ (Wd99 hw)) (by decide) (backOf (W := 0) (rmX5_0 l Z a0 hw [] b18 T18.heap  G5_18) hZ (Wd101 hw) (Wd3 hw) (by decide) (by decide)) qa28 qc28 (g := (mkF m 141 #[.val (.int p0), .val (.int p1), .val (.long lq), .second, .val (.int p3), .val (.int p4), .val (.ref b1), .val .null, .val (.int (p0 &&& (3 : Int32))), .val (.ref b18)] [(.ref b18)])) rfl (by rw [hml]; rfl) (Steps.refl _) (argsL := []) (rest := []) (lenOf pd12 rfl) rfl (by show 2 * 0 + _ ≤ _; exact Nat.le_of_eq rfl) (hb hby at_141) (fun _ _ => ⟨rfl, e27, (Nat.le_of_ble_eq_true rfl), (Nat.le_of_ble_eq_true rfl)⟩)
        dsimp only [Pt.U, Pt.locs, Pt.cells, Pt.slots] at X28 l28 y28 z28 st28 hQ28
        subst l28 y28 z28
        obtain ⟨rfl, rfl, e28⟩ := hQ28
        have N28 := Fr.app N27 (Fr.nil _)
        refine OD.via (B := (T28.setTop (mkF m 144 #[.val (.int p0), .val (.int p1), .val (.long lq), .second, .val (.int p3), .val (.int p4), .val (.ref b1), .val .null, .val (.int (p0 &&& (3 : Int32))), .val (.ref b18)] [.null]))) st28 ?_
        refine OD.go (B := (T28.setTop (mkF m 147 #[.val (.int p0), .val (.int p1), .val (.long lq), .second, .val (.int p3), .val (.int p4), .val (.ref b1), .val .null, .val (.int (p0 &&& (3 : Int32))), .val (.ref b18)] []))) (fun t k => XS.ifnonnullNo X28.here hx rfl (hb hby at_144) rfl k) ?_
        refine OD.go (B := (T28.setTop (mkF m 148 #[.val (.int p0), .val (.int p1), .val (.long lq), .second, .val (.int p3), .val (.int p4), .val (.ref b1), .val .null, .val (.int (p0 &&& (3 : Int32))), .val (.ref b18)] [(.int (1 : Int32))]))) (fun t k => XS.iconst X28.here hx rfl (hb hby at_147) k) ?_
        refine OD.go (B := (T28.setTop (mkF m 152 #[.val (.int p0), .val (.int p1), .val (.long lq), .second, .val (.int p3), .val (.int p4), .val (.ref b1), .val .null, .val (.int (p0 &&& (3 : Int32))), .val (.ref b18)] [(.int (1 : Int32))]))) (fun t k => XS.goto X28.here hx rfl (pc0 := 148) (pc' := 152) rfl (hb hby at_148) (by decide) (by decide) k) ?_
        exact OD.ret X28 hx hlk (t := .boolean) Bd.returns rfl (Or.inl ⟨rfl, Or.inr (Or.inl rfl), _, rfl⟩) (hb hby at_152) (Nat.le_of_ble_eq_true rfl) (Nat.le_of_ble_eq_true rfl) ⟨rfl, N28⟩
      · refine OD.go (B := (T17.setTop (mkF m 51 #[.val (.int p0), .val (.int p1), .val (.long lq), .second, .val (.int p3), .val (.int p4), .val (.ref b1), .unset, .val (.int (p0 &&& (3 : Int32))), .unset] [(.ref b17)]))) st17 ?_
        refine OD.go (B := (T17.setTop (mkF m 53 #[.val (.int p0), .val (.int p1), .val (.long lq), .second, .val (.int p3), .val (.int p4), .val (.ref b1), .val (.ref b17), .val (.int (p0 &&& (3 : Int32))), .unset] []))) (fun t k => XS.astore X17.here hx rfl (hb hby at_51) rfl rfl (l' := #[.val (.int p0), .val (.int p1), .val (.long lq), .second, .val (.int p3), .val (.int p4), .val (.ref b1), .val (.ref b17), .val (.int (p0 &&& (3 : Int32))), .unset]) rfl k) ?_
        refine OD.go (B := (T17.setTop (mkF m 82 #[.val (.int p0), .val (.int p1), .val (.long lq), .second, .val (.int p3), .val (.int p4), .val (.ref b1), .val (.ref b17), .val (.int (p0 &&& (3 : Int32))), .unset] []))) (fun t k => XS.goto X17.here hx rfl (pc0 := 53) (pc' := 82) rfl (hb hby at_53) (by decide) (by decide) k) ?_
        refine OD.go (B := (T17.setTop (mkF m 84 #[.val (.int p0), .val (.int p1), .val (.long lq), .second, .val (.int p3), .val (.int p4), .val (.ref b1), .val (.ref b17), .val (.int (p0 &&& (3 : Int32))), .unset] [(.ref b17)]))) (fun t k => XS.aload X17.here hx rfl (hb hby at_82) rfl rfl k) ?_
        obtain ⟨_, _, ⟨T29, L29, k29, n29⟩, -, X29, ⟨Lc29, hQ29, l29, y29, z29⟩, st29⟩ := Jvm.LawKit.callS X17 hx (y := (⟨"com/example/echo_panel/echopanel/channel/ChannelState", "of", "(Ljava/lang/Object;)Lcom/example/echo_panel/echopanel/channel/ChannelState;"⟩ : MethodName)) hown (mvT hZ (Wd1 hw)) (mvT hZ (Wd2 hw)) (mvT hZ (Wd3 hw)) (mvT hZ (Wd4 hw)) (by decide) (backOf (W := 0) (rmOf_01 l Z a0 hw [] b17 T17.heap h0.size ((((X00.ext E1).wr W2 (Nat.le_trans (Nat.le_refl _) (Nat.le_of_eq g1.symm))).wr W3 (Nat.le_trans (Nat.le_refl _) (Nat.le_of_eq g1.symm))).keep K17 all0) el ea kE Se Ee Fa Fel Ae (Nat.le_trans (Nat.le_trans (Nat.le_trans (Nat.le_trans (Nat.le_refl _) E1.1) (Keep.of_wr W2).1) (Keep.of_wr W3).1) K17.1)  Ss) hZ (Wd4 hw) (Wd3 hw) (by decide) (by decide)) (g := (mkF m 84 #[.val (.int p0), .val (.int p1), .val (.long lq), .second, .val (.int p3), .val (.int p4), .val (.ref b1), .val (.ref b17), .val (.int (p0 &&& (3 : Int32))), .unset] [(.ref b17)])) rfl (by rw [hml]; rfl) (argsL := [(.ref b17)]) (rest := []) (lenOf pd7 rfl) rfl (by show 2 * 0 + _ ≤ _; exact Nat.le_of_eq rfl) (hb hby at_84) (fun _ _ => ⟨rfl, rfl, (Nat.le_of_ble_eq_true rfl), (Nat.le_of_ble_eq_true rfl)⟩)
        dsimp only [Pt.U, Pt.locs, Pt.cells, Pt.slots] at X29 l29 y29 z29 st29 hQ29
        subst l29 y29 z29
        obtain ⟨b29, rfl, Nq29, K29, ob29, E29, G0_29, G1_29, G2_29, G3_29, G4_29, G5_29⟩ := hQ29
        have N29 := Fr.app N17 Nq29
        refine OD.go (B := (T29.setTop (mkF m 87 #[.val (.int p0), .val (.int p1), .val (.long lq), .second, .val (.int p3), .val (.int p4), .val (.ref b1), .val (.ref b17), .val (.int (p0 &&& (3 : Int32))), .unset] [(.ref b29)]))) st29 ?_
        refine OD.go (B := (T29.setTop (mkF m 89 #[.val (.int p0), .val (.int p1), .val (.long lq), .second, .val (.int p3), .val (.int p4), .val (.ref b1), .val (.ref b17), .val (.int (p0 &&& (3 : Int32))), .val (.ref b29)] []))) (fun t k => XS.astore X29.here hx rfl (hb hby at_87) rfl rfl (l' := #[.val (.int p0), .val (.int p1), .val (.long lq), .second, .val (.int p3), .val (.int p4), .val (.ref b1), .val (.ref b17), .val (.int (p0 &&& (3 : Int32))), .val (.ref b29)]) rfl k) ?_
        refine OD.go (B := (T29.setTop (mkF m 91 #[.val (.int p0), .val (.int p1), .val (.long lq), .second, .val (.int p3), .val (.int p4), .val (.ref b1), .val (.ref b17), .val (.int (p0 &&& (3 : Int32))), .val (.ref b29)] [(.ref b29)]))) (fun t k => XS.aload X29.here hx rfl (hb hby at_89) rfl rfl k) ?_
        obtain ⟨cq30, kq30, qa30, qb30, qc30⟩ := isOf hZ rfl E29
        obtain ⟨_, _, ⟨T30, L30, k30, n30⟩, -, X30, ⟨Lc30, hQ30, l30, y30, z30⟩, st30⟩ := X29.virtualBack hx (y := (⟨"com/example/echo_panel/echopanel/channel/ChannelState", "connected", "()Z"⟩ : MethodName)) (z := (⟨"com/example/echo_panel/echopanel/channel/ChannelState", "connected", "()Z"⟩ : MethodName)) hown (mvT hZ (Wd60 hw)) (mvT hZ (Wd61 hw)) (notFace_of_selects (args := #[]) (mvT hZ (Wd63 hw))) (mvT hZ (Wd63 hw)) (mvT hZ (Wd62 hw)) (by decide) (backOf (W := 0) (rmX0_I l Z a0 hw [] b29 T29.heap (1 : Int32) G0_29 rfl) hZ (Wd64 hw) (Wd3 hw) (by decide) (by decide)) qa30 qc30 (g := (mkF m 91 #[.val (.int p0), .val (.int p1), .val (.long lq), .second, .val (.int p3), .val (.int p4), .val (.ref b1), .val (.ref b17), .val (.int (p0 &&& (3 : Int32))), .val (.ref b29)] [(.ref b29)])) rfl (by rw [hml]; rfl) (Steps.refl _) (argsL := []) (rest := []) (lenOf pd8 rfl) rfl (by show 2 * 0 + _ ≤ _; exact Nat.le_of_eq rfl) (hb hby at_91) (fun _ _ => ⟨rfl, rfl, (Nat.le_of_ble_eq_true rfl), (Nat.le_of_ble_eq_true rfl)⟩)
        dsimp only [Pt.U, Pt.locs, Pt.cells, Pt.slots] at X30 l30 y30 z30 st30 hQ30
        subst l30 y30 z30
        obtain ⟨rfl, rfl, e30⟩ := hQ30
        have N30 := Fr.app N29 (Fr.nil _)
        refine OD.via (B := (T30.setTop (mkF m 94 #[.val (.int p0), .val (.int p1), .val (.long lq), .second, .val (.int p3), .val (.int p4), .val (.ref b1), .val (.ref b17), .val (.int (p0 &&& (3 : Int32))), .val (.ref b29)] [(.int (1 : Int32))]))) st30 ?_
        refine OD.go (B := (T30.setTop (mkF m 97 #[.val (.int p0), .val (.int p1), .val (.long lq), .second, .val (.int p3), .val (.int p4), .val (.ref b1), .val (.ref b17), .val (.int (p0 &&& (3 : Int32))), .val (.ref b29)] []))) (fun t k => XS.ifNo X30.here hx rfl (hb hby at_94) rfl (by rw [if0]; exact (feq (by decide : ¬ (1 : Int32) = (0 : Int32))).1) k) ?_
        refine OD.go (B := (T30.setTop (mkF m 99 #[.val (.int p0), .val (.int p1), .val (.long lq), .second, .val (.int p3), .val (.int p4), .val (.ref b1), .val (.ref b17), .val (.int (p0 &&& (3 : Int32))), .val (.ref b29)] [(.ref b29)]))) (fun t k => XS.aload X30.here hx rfl (hb hby at_97) rfl rfl k) ?_
        obtain ⟨cq31, kq31, qa31, qb31, qc31⟩ := isOf hZ e30 E29
        obtain ⟨_, _, ⟨T31, L31, k31, n31⟩, -, X31, ⟨Lc31, hQ31, l31, y31, z31⟩, st31⟩ := X30.virtualBack hx (y := (⟨"com/example/echo_panel/echopanel/channel/ChannelState", "severity", "()Lcom/example/echo_panel/echopanel/channel/Severity;"⟩ : MethodName)) (z := (⟨"com/example/echo_panel/echopanel/channel/ChannelState", "severity", "()Lcom/example/echo_panel/echopanel/channel/Severity;"⟩ : MethodName)) hown (mvT hZ (Wd65 hw)) (mvT hZ (Wd66 hw)) (notFace_of_selects (args := #[]) (mvT hZ (Wd68 hw))) (mvT hZ (Wd68 hw)) (mvT hZ (Wd67 hw)) (by decide) (backOf (W := 0) (rmX1_0 l Z a0 hw [] b29 T29.heap  G1_29) hZ (Wd69 hw) (Wd3 hw) (by decide) (by decide)) qa31 qc31 (g := (mkF m 99 #[.val (.int p0), .val (.int p1), .val (.long lq), .second, .val (.int p3), .val (.int p4), .val (.ref b1), .val (.ref b17), .val (.int (p0 &&& (3 : Int32))), .val (.ref b29)] [(.ref b29)])) rfl (by rw [hml]; rfl) (Steps.refl _) (argsL := []) (rest := []) (lenOf pd9 rfl) rfl (by show 2 * 0 + _ ≤ _; exact Nat.le_of_eq rfl) (hb hby at_99) (fun _ _ => ⟨rfl, e30, (Nat.le_of_ble_eq_true rfl), (Nat.le_of_ble_eq_true rfl)⟩)
        dsimp only [Pt.U, Pt.locs, Pt.cells, Pt.slots] at X31 l31 y31 z31 st31 hQ31
        subst l31 y31 z31
        obtain ⟨rfl, rfl, e31⟩ := hQ31
        have N31 := Fr.app N30 (Fr.nil _)
        refine OD.via (B := (T31.setTop (mkF m 102 #[.val (.int p0), .val (.int p1), .val (.long lq), .second, .val (.int p3), .val (.int p4), .val (.ref b1), .val (.ref b17), .val (.int (p0 &&& (3 : Int32))), .val (.ref b29)] [.null]))) st31 ?_
        have f32 := (Ss.ext (((((X00.ext E1).wr W2 (Nat.le_trans (Nat.le_refl _) (Nat.le_of_eq g1.symm))).wr W3 (Nat.le_trans (Nat.le_refl _) (Nat.le_of_eq g1.symm))).keep K17 all0).keep K29 all0).2)
        obtain ⟨T33, X33, e33, st33⟩ := getS2 X31 hx hZ hown (host := "") (Or.inl (Wd70 hw)) Via.refl e31 f32 (g := (mkF m 102 #[.val (.int p0), .val (.int p1), .val (.long lq), .second, .val (.int p3), .val (.int p4), .val (.ref b1), .val (.ref b17), .val (.int (p0 &&& (3 : Int32))), .val (.ref b29)] [.null])) rfl (hb hby at_102)
        refine OD.go (B := (T33.setTop (mkF m 105 #[.val (.int p0), .val (.int p1), .val (.long lq), .second, .val (.int p3), .val (.int p4), .val (.ref b1), .val (.ref b17), .val (.int (p0 &&& (3 : Int32))), .val (.ref b29)] [.null, .null]))) st33 ?_
        refine OD.go (B := (T33.setTop (mkF m 108 #[.val (.int p0), .val (.int p1), .val (.long lq), .second, .val (.int p3), .val (.int p4), .val (.ref b1), .val (.ref b17), .val (.int (p0 &&& (3 : Int32))), .val (.ref b29)] []))) (fun t k => RoadKit.acmp X33 hx rfl (x := .null) (y := .null) rfl rfl (pc0 := 105) (pc' := 108) (same := true) rfl (hb hby at_105) rfl (by simp) (by decide) (by decide) k) ?_
        refine OD.go (B := (T33.setTop (mkF m 110 #[.val (.int p0), .val (.int p1), .val (.long lq), .second, .val (.int p3), .val (.int p4), .val (.ref b1), .val (.ref b17), .val (.int (p0 &&& (3 : Int32))), .val (.ref b29)] [(.ref b29)]))) (fun t k => XS.aload X33.here hx rfl (hb hby at_108) rfl rfl k) ?_
        obtain ⟨cq34, kq34, qa34, qb34, qc34⟩ := isOf hZ e33 E29
        obtain ⟨_, _, ⟨T34, L34, k34, n34⟩, -, X34, ⟨Lc34, hQ34, l34, y34, z34⟩, st34⟩ := X33.virtualBack hx (y := (⟨"com/example/echo_panel/echopanel/channel/ChannelState", "precision", "()I"⟩ : MethodName)) (z := (⟨"com/example/echo_panel/echopanel/channel/ChannelState", "precision", "()I"⟩ : MethodName)) hown (mvT hZ (Wd71 hw)) (mvT hZ (Wd72 hw)) (notFace_of_selects (args := #[]) (mvT hZ (Wd74 hw))) (mvT hZ (Wd74 hw)) (mvT hZ (Wd73 hw)) (by decide) (backOf (W := 0) (rmX2_I l Z a0 hw [] b29 T29.heap (0 : Int32) G2_29) hZ (Wd75 hw) (Wd3 hw) (by decide) (by decide)) qa34 qc34 (g := (mkF m 110 #[.val (.int p0), .val (.int p1), .val (.long lq), .second, .val (.int p3), .val (.int p4), .val (.ref b1), .val (.ref b17), .val (.int (p0 &&& (3 : Int32))), .val (.ref b29)] [(.ref b29)])) rfl (by rw [hml]; rfl) (Steps.refl _) (argsL := []) (rest := []) (lenOf pd10 rfl) rfl (by show 2 * 0 + _ ≤ _; exact Nat.le_of_eq rfl) (hb hby at_110) (fun _ _ => ⟨rfl, e33, (Nat.le_of_ble_eq_true rfl), (Nat.le_of_ble_eq_true rfl)⟩)
        dsimp only [Pt.U, Pt.locs, Pt.cells, Pt.slots] at X34 l34 y34 z34 st34 hQ34
        subst l34 y34 z34
        obtain ⟨rfl, rfl, e34⟩ := hQ34
        have N34 := Fr.app N31 (Fr.nil _)
        refine OD.via (B := (T34.setTop (mkF m 113 #[.val (.int p0), .val (.int p1), .val (.long lq), .second, .val (.int p3), .val (.int p4), .val (.ref b1), .val (.ref b17), .val (.int (p0 &&& (3 : Int32))), .val (.ref b29)] [(.int (0 : Int32))]))) st34 ?_
        refine OD.go (B := (T34.setTop (mkF m 116 #[.val (.int p0), .val (.int p1), .val (.long lq), .second, .val (.int p3), .val (.int p4), .val (.ref b1), .val (.ref b17), .val (.int (p0 &&& (3 : Int32))), .val (.ref b29)] []))) (fun t k => XS.ifNo X34.here hx rfl (hb hby at_113) rfl (by rw [if0]; exact (teq (by decide : (0 : Int32) = (0 : Int32))).2) k) ?_
        refine OD.go (B := (T34.setTop (mkF m 118 #[.val (.int p0), .val (.int p1), .val (.long lq), .second, .val (.int p3), .val (.int p4), .val (.ref b1), .val (.ref b17), .val (.int (p0 &&& (3 : Int32))), .val (.ref b29)] [(.ref b29)]))) (fun t k => XS.aload X34.here hx rfl (hb hby at_116) rfl rfl k) ?_
        obtain ⟨cq35, kq35, qa35, qb35, qc35⟩ := isOf hZ e34 E29
        obtain ⟨_, _, ⟨T35, L35, k35, n35⟩, -, X35, ⟨Lc35, hQ35, l35, y35, z35⟩, st35⟩ := X34.virtualBack hx (y := (⟨"com/example/echo_panel/echopanel/channel/ChannelState", "labels", "()Ljava/util/List;"⟩ : MethodName)) (z := (⟨"com/example/echo_panel/echopanel/channel/ChannelState", "labels", "()Ljava/util/List;"⟩ : MethodName)) hown (mvT hZ (Wd76 hw)) (mvT hZ (Wd77 hw)) (notFace_of_selects (args := #[]) (mvT hZ (Wd79 hw))) (mvT hZ (Wd79 hw)) (mvT hZ (Wd78 hw)) (by decide) (backOf (W := 0) (rmX3_1 l Z a0 hw [] b29 T29.heap el G3_29) hZ (Wd80 hw) (Wd3 hw) (by decide) (by decide)) qa35 qc35 (g := (mkF m 118 #[.val (.int p0), .val (.int p1), .val (.long lq), .second, .val (.int p3), .val (.int p4), .val (.ref b1), .val (.ref b17), .val (.int (p0 &&& (3 : Int32))), .val (.ref b29)] [(.ref b29)])) rfl (by rw [hml]; rfl) (Steps.refl _) (argsL := []) (rest := []) (lenOf pd5 rfl) rfl (by show 2 * 0 + _ ≤ _; exact Nat.le_of_eq rfl) (hb hby at_118) (fun _ _ => ⟨rfl, e34, (Nat.le_of_ble_eq_true rfl), (Nat.le_of_ble_eq_true rfl)⟩)
        dsimp only [Pt.U, Pt.locs, Pt.cells, Pt.slots] at X35 l35 y35 z35 st35 hQ35
        subst l35 y35 z35
        obtain ⟨rfl, rfl, e35⟩ := hQ35
        have N35 := Fr.app N34 (Fr.nil _)
        refine OD.via (B := (T35.setTop (mkF m 121 #[.val (.int p0), .val (.int p1), .val (.long lq), .second, .val (.int p3), .val (.int p4), .val (.ref b1), .val (.ref b17), .val (.int (p0 &&& (3 : Int32))), .val (.ref b29)] [(.ref el)]))) st35 ?_
        have f36 := (Ee.ext (((((X00.ext E1).wr W2 (Nat.le_trans (Nat.le_refl _) (Nat.le_of_eq g1.symm))).wr W3 (Nat.le_trans (Nat.le_refl _) (Nat.le_of_eq g1.symm))).keep K17 all0).keep K29 all0).2)
        obtain ⟨cq37, kq37, qa37, qb37, qc37⟩ := isOf hZ e35 f36
        obtain ⟨_, _, ⟨T37, L37, k37, n37⟩, -, X37, ⟨Lc37, hQ37, l37, y37, z37⟩, st37⟩ := X35.interfaceBack hx (xi := (⟨"java/util/List", "size", "()I"⟩ : MethodName)) (y := (⟨"java/util/ImmutableCollections$ListN", "size", "()I"⟩ : MethodName)) hown (mvT hZ (Wd81 hw)) (mvT hZ (Wd82 hw)) (mvT hZ (Wd83 hw)) (mvT hZ (Wd84 hw)) (mvT hZ (Wd85 hw)) (mvT hZ (Wd86 hw)) (mvT hZ (Wd87 hw)) (mvT hZ (Wd47 hw)) (by decide) (backOf (W := 0) (rmSZ l Z a0 hw [] el T29.heap h0.size (((((X00.ext E1).wr W2 (Nat.le_trans (Nat.le_refl _) (Nat.le_of_eq g1.symm))).wr W3 (Nat.le_trans (Nat.le_refl _) (Nat.le_of_eq g1.symm))).keep K17 all0).keep K29 all0) ea kE Se Ee Fa Fel Ae) hZ (Wd89 hw) (Wd88 hw) (by decide) (by decide)) qa37 qb37 qc37 (g := (mkF m 121 #[.val (.int p0), .val (.int p1), .val (.long lq), .second, .val (.int p3), .val (.int p4), .val (.ref b1), .val (.ref b17), .val (.int (p0 &&& (3 : Int32))), .val (.ref b29)] [(.ref el)])) rfl (by rw [hml]; rfl) (Steps.refl _) (argsL := []) (rest := []) (lenOf pd10 rfl) rfl (by show 2 * 0 + _ ≤ _; exact Nat.le_of_eq rfl) (hb hby at_121) (fun _ _ => ⟨rfl, e35, (Nat.le_of_ble_eq_true rfl), (Nat.le_of_ble_eq_true rfl)⟩)
        dsimp only [Pt.U, Pt.locs, Pt.cells, Pt.slots] at X37 l37 y37 z37 st37 hQ37
        subst l37 y37 z37
        obtain ⟨rfl, rfl, e37⟩ := hQ37
        have N37 := Fr.app N35 (Fr.nil _)
        refine OD.via (B := (T37.setTop (mkF m 126 #[.val (.int p0), .val (.int p1), .val (.long lq), .second, .val (.int p3), .val (.int p4), .val (.ref b1), .val (.ref b17), .val (.int (p0 &&& (3 : Int32))), .val (.ref b29)] [(.int (0 : Int32))]))) st37 ?_
        refine OD.go (B := (T37.setTop (mkF m 129 #[.val (.int p0), .val (.int p1), .val (.long lq), .second, .val (.int p3), .val (.int p4), .val (.ref b1), .val (.ref b17), .val (.int (p0 &&& (3 : Int32))), .val (.ref b29)] []))) (fun t k => XS.ifNo X37.here hx rfl (hb hby at_126) rfl (by rw [if0]; exact (teq (by decide : (0 : Int32) = (0 : Int32))).2) k) ?_
        refine OD.go (B := (T37.setTop (mkF m 131 #[.val (.int p0), .val (.int p1), .val (.long lq), .second, .val (.int p3), .val (.int p4), .val (.ref b1), .val (.ref b17), .val (.int (p0 &&& (3 : Int32))), .val (.ref b29)] [(.ref b29)]))) (fun t k => XS.aload X37.here hx rfl (hb hby at_129) rfl rfl k) ?_
        obtain ⟨cq38, kq38, qa38, qb38, qc38⟩ := isOf hZ e37 E29
        obtain ⟨_, _, ⟨T38, L38, k38, n38⟩, -, X38, ⟨Lc38, hQ38, l38, y38, z38⟩, st38⟩ := X37.virtualBack hx (y := (⟨"com/example/echo_panel/echopanel/channel/ChannelState", "value", "()Ljava/lang/Object;"⟩ : MethodName)) (z := (⟨"com/example/echo_panel/echopanel/channel/ChannelState", "value", "()Ljava/lang/Object;"⟩ : MethodName)) hown (mvT hZ (Wd92 hw)) (mvT hZ (Wd93 hw)) (notFace_of_selects (args := #[]) (mvT hZ (Wd95 hw))) (mvT hZ (Wd95 hw)) (mvT hZ (Wd94 hw)) (by decide) (backOf (W := 0) (rmX4_1 l Z a0 hw [] b29 T29.heap b17 G4_29) hZ (Wd96 hw) (Wd3 hw) (by decide) (by decide)) qa38 qc38 (g := (mkF m 131 #[.val (.int p0), .val (.int p1), .val (.long lq), .second, .val (.int p3), .val (.int p4), .val (.ref b1), .val (.ref b17), .val (.int (p0 &&& (3 : Int32))), .val (.ref b29)] [(.ref b29)])) rfl (by rw [hml]; rfl) (Steps.refl _) (argsL := []) (rest := []) (lenOf pd11 rfl) rfl (by show 2 * 0 + _ ≤ _; exact Nat.le_of_eq rfl) (hb hby at_131) (fun _ _ => ⟨rfl, e37, (Nat.le_of_ble_eq_true rfl), (Nat.le_of_ble_eq_true rfl)⟩)
        dsimp only [Pt.U, Pt.locs, Pt.cells, Pt.slots] at X38 l38 y38 z38 st38 hQ38
        subst l38 y38 z38
        obtain ⟨rfl, rfl, e38⟩ := hQ38
        have N38 := Fr.app N37 (Fr.nil _)
        refine OD.via (B := (T38.setTop (mkF m 134 #[.val (.int p0), .val (.int p1), .val (.long lq), .second, .val (.int p3), .val (.int p4), .val (.ref b1), .val (.ref b17), .val (.int (p0 &&& (3 : Int32))), .val (.ref b29)] [(.ref b17)]))) st38 ?_
        refine OD.go (B := (T38.setTop (mkF m 136 #[.val (.int p0), .val (.int p1), .val (.long lq), .second, .val (.int p3), .val (.int p4), .val (.ref b1), .val (.ref b17), .val (.int (p0 &&& (3 : Int32))), .val (.ref b29)] [(.ref b17), (.ref b17)]))) (fun t k => XS.aload X38.here hx rfl (hb hby at_134) rfl rfl k) ?_
        refine OD.go (B := (T38.setTop (mkF m 139 #[.val (.int p0), .val (.int p1), .val (.long lq), .second, .val (.int p3), .val (.int p4), .val (.ref b1), .val (.ref b17), .val (.int (p0 &&& (3 : Int32))), .val (.ref b29)] []))) (fun t k => RoadKit.acmp X38 hx rfl (x := (.ref b17)) (y := (.ref b17)) rfl rfl (pc0 := 136) (pc' := 139) (same := true) rfl (hb hby at_136) rfl (by simp) (by decide) (by decide) k) ?_
        refine OD.go (B := (T38.setTop (mkF m 141 #[.val (.int p0), .val (.int p1), .val (.long lq), .second, .val (.int p3), .val (.int p4), .val (.ref b1), .val (.ref b17), .val (.int (p0 &&& (3 : Int32))), .val (.ref b29)] [(.ref b29)]))) (fun t k => XS.aload X38.here hx rfl (hb hby at_139) rfl rfl k) ?_
        obtain ⟨cq39, kq39, qa39, qb39, qc39⟩ := isOf hZ e38 E29
        obtain ⟨_, _, ⟨T39, L39, k39, n39⟩, -, X39, ⟨Lc39, hQ39, l39, y39, z39⟩, st39⟩ := X38.virtualBack hx (y := (⟨"com/example/echo_panel/echopanel/channel/ChannelState", "limits", "()Lcom/example/echo_panel/echopanel/channel/DisplayLimits;"⟩ : MethodName)) (z := (⟨"com/example/echo_panel/echopanel/channel/ChannelState", "limits", "()Lcom/example/echo_panel/echopanel/channel/DisplayLimits;"⟩ : MethodName)) hown (mvT hZ (Wd97 hw)) (mvT hZ (Wd98 hw)) (notFace_of_selects (args := #[]) (mvT hZ (Wd100 hw))) (mvT hZ (Wd100 hw)) (mvT hZ (Wd99 hw)) (by decide) (backOf (W := 0) (rmX5_0 l Z a0 hw [] b29 T29.heap  G5_29) hZ (Wd101 hw) (Wd3 hw) (by decide) (by decide)) qa39 qc39 (g := (mkF m 141 #[.val (.int p0), .val (.int p1), .val (.long lq), .second, .val (.int p3), .val (.int p4), .val (.ref b1), .val (.ref b17), .val (.int (p0 &&& (3 : Int32))), .val (.ref b29)] [(.ref b29)])) rfl (by rw [hml]; rfl) (Steps.refl _) (argsL := []) (rest := []) (lenOf pd12 rfl) rfl (by show 2 * 0 + _ ≤ _; exact Nat.le_of_eq rfl) (hb hby at_141) (fun _ _ => ⟨rfl, e38, (Nat.le_of_ble_eq_true rfl), (Nat.le_of_ble_eq_true rfl)⟩)
        dsimp only [Pt.U, Pt.locs, Pt.cells, Pt.slots] at X39 l39 y39 z39 st39 hQ39
        subst l39 y39 z39
        obtain ⟨rfl, rfl, e39⟩ := hQ39
        have N39 := Fr.app N38 (Fr.nil _)
        refine OD.via (B := (T39.setTop (mkF m 144 #[.val (.int p0), .val (.int p1), .val (.long lq), .second, .val (.int p3), .val (.int p4), .val (.ref b1), .val (.ref b17), .val (.int (p0 &&& (3 : Int32))), .val (.ref b29)] [.null]))) st39 ?_
        refine OD.go (B := (T39.setTop (mkF m 147 #[.val (.int p0), .val (.int p1), .val (.long lq), .second, .val (.int p3), .val (.int p4), .val (.ref b1), .val (.ref b17), .val (.int (p0 &&& (3 : Int32))), .val (.ref b29)] []))) (fun t k => XS.ifnonnullNo X39.here hx rfl (hb hby at_144) rfl k) ?_
        refine OD.go (B := (T39.setTop (mkF m 148 #[.val (.int p0), .val (.int p1), .val (.long lq), .second, .val (.int p3), .val (.int p4), .val (.ref b1), .val (.ref b17), .val (.int (p0 &&& (3 : Int32))), .val (.ref b29)] [(.int (1 : Int32))]))) (fun t k => XS.iconst X39.here hx rfl (hb hby at_147) k) ?_
        refine OD.go (B := (T39.setTop (mkF m 152 #[.val (.int p0), .val (.int p1), .val (.long lq), .second, .val (.int p3), .val (.int p4), .val (.ref b1), .val (.ref b17), .val (.int (p0 &&& (3 : Int32))), .val (.ref b29)] [(.int (1 : Int32))]))) (fun t k => XS.goto X39.here hx rfl (pc0 := 148) (pc' := 152) rfl (hb hby at_148) (by decide) (by decide) k) ?_
        exact OD.ret X39 hx hlk (t := .boolean) Bd.returns rfl (Or.inl ⟨rfl, Or.inr (Or.inl rfl), _, rfl⟩) (hb hby at_152) (Nat.le_of_ble_eq_true rfl) (Nat.le_of_ble_eq_true rfl) ⟨rfl, N39⟩
    · refine OD.go (B := (T3.setTop (mkF m 56 #[.val (.int p0), .val (.int p1), .val (.long lq), .second, .val (.int p3), .val (.int p4), .val (.ref b1), .unset, .val (.int (p0 &&& (3 : Int32))), .unset] []))) (fun t k => XS.icmpYes X3.here hx rfl (pc0 := 44) (pc' := 56) rfl (hb hby at_44) rfl (feq c44_16).2 (by decide) (by decide) k) ?_
      refine OD.go (B := (T3.setTop (mkF m 58 #[.val (.int p0), .val (.int p1), .val (.long lq), .second, .val (.int p3), .val (.int p4), .val (.ref b1), .unset, .val (.int (p0 &&& (3 : Int32))), .unset] [(.int (p0 &&& (3 : Int32)))]))) (fun t k => XS.iload X3.here hx rfl (hb hby at_56) rfl k) ?_
      refine OD.go (B := (T3.setTop (mkF m 59 #[.val (.int p0), .val (.int p1), .val (.long lq), .second, .val (.int p3), .val (.int p4), .val (.ref b1), .unset, .val (.int (p0 &&& (3 : Int32))), .unset] [(.int (2 : Int32)), (.int (p0 &&& (3 : Int32)))]))) (fun t k => XS.iconst X3.here hx rfl (hb hby at_58) k) ?_
      by_cases c59_40 : (p0 &&& (3 : Int32)) = (2 : Int32)
      · refine OD.go (B := (T3.setTop (mkF m 62 #[.val (.int p0), .val (.int p1), .val (.long lq), .second, .val (.int p3), .val (.int p4), .val (.ref b1), .unset, .val (.int (p0 &&& (3 : Int32))), .unset] []))) (fun t k => XS.icmpNo X3.here hx rfl (hb hby at_59) rfl (teq c59_40).2 k) ?_
        refine OD.go (B := (T3.setTop (mkF m 63 #[.val (.int p0), .val (.int p1), .val (.long lq), .second, .val (.int p3), .val (.int p4), .val (.ref b1), .unset, .val (.int (p0 &&& (3 : Int32))), .unset] [(.long lq)]))) (fun t k => XS.lloadN X3.here hx rfl (hb hby at_62) rfl k) ?_
        obtain ⟨_, _, ⟨T41, L41, k41, n41⟩, -, X41, ⟨Lc41, hQ41, l41, y41, z41⟩, st41⟩ := Jvm.LawKit.callS X3 hx (y := (⟨"java/lang/Long", "valueOf", "(J)Ljava/lang/Long;"⟩ : MethodName)) hown (mvT hZ (Wd151 hw)) (mvT hZ (Wd152 hw)) (mvT hZ (Wd153 hw)) (mvT hZ (Wd154 hw)) (by decide) (backOf (W := 0) (rmLV l Z a0 hw [] lq h3 h0.size (Nat.le_trans (Nat.le_trans (Nat.le_trans (Nat.le_refl _) E1.1) (Keep.of_wr W2).1) (Keep.of_wr W3).1) (((X00.ext E1).wr W2 (Nat.le_trans (Nat.le_refl _) (Nat.le_of_eq g1.symm))).wr W3 (Nat.le_trans (Nat.le_refl _) (Nat.le_of_eq g1.symm))) cb Sl Cl) hZ (Wd154 hw) (Wd153 hw) (by decide) (by decide)) (g := (mkF m 63 #[.val (.int p0), .val (.int p1), .val (.long lq), .second, .val (.int p3), .val (.int p4), .val (.ref b1), .unset, .val (.int (p0 &&& (3 : Int32))), .unset] [(.long lq)])) rfl (by rw [hml]; rfl) (argsL := [(.long lq)]) (rest := []) (lenOf pd14 rfl) rfl (by show 2 * 0 + _ ≤ _; exact Nat.le_of_eq rfl) (hb hby at_63) (fun _ _ => ⟨rfl, e3, (Nat.le_of_ble_eq_true rfl), (Nat.le_of_ble_eq_true rfl)⟩)
        dsimp only [Pt.U, Pt.locs, Pt.cells, Pt.slots] at X41 l41 y41 z41 st41 hQ41
        subst l41 y41 z41
        obtain ⟨w41, rfl, r41, Nq41, K41⟩ := hQ41
        have N41 := Fr.app N3 Nq41
        rcases ref_cases r41 with rfl | ⟨b41, rfl⟩
        · refine OD.go (B := (T41.setTop (mkF m 66 #[.val (.int p0), .val (.int p1), .val (.long lq), .second, .val (.int p3), .val (.int p4), .val (.ref b1), .unset, .val (.int (p0 &&& (3 : Int32))), .unset] [.null]))) st41 ?_
          refine OD.go (B := (T41.setTop (mkF m 68 #[.val (.int p0), .val (.int p1), .val (.long lq), .second, .val (.int p3), .val (.int p4), .val (.ref b1), .val .null, .val (.int (p0 &&& (3 : Int32))), .unset] []))) (fun t k => XS.astore X41.here hx rfl (hb hby at_66) rfl rfl (l' := #[.val (.int p0), .val (.int p1), .val (.long lq), .second, .val (.int p3), .val (.int p4), .val (.ref b1), .val .null, .val (.int (p0 &&& (3 : Int32))), .unset]) rfl k) ?_
          refine OD.go (B := (T41.setTop (mkF m 82 #[.val (.int p0), .val (.int p1), .val (.long lq), .second, .val (.int p3), .val (.int p4), .val (.ref b1), .val .null, .val (.int (p0 &&& (3 : Int32))), .unset] []))) (fun t k => XS.goto X41.here hx rfl (pc0 := 68) (pc' := 82) rfl (hb hby at_68) (by decide) (by decide) k) ?_
          refine OD.go (B := (T41.setTop (mkF m 84 #[.val (.int p0), .val (.int p1), .val (.long lq), .second, .val (.int p3), .val (.int p4), .val (.ref b1), .val .null, .val (.int (p0 &&& (3 : Int32))), .unset] [.null]))) (fun t k => XS.aload X41.here hx rfl (hb hby at_82) rfl rfl k) ?_
          obtain ⟨_, _, ⟨T42, L42, k42, n42⟩, -, X42, ⟨Lc42, hQ42, l42, y42, z42⟩, st42⟩ := Jvm.LawKit.callS X41 hx (y := (⟨"com/example/echo_panel/echopanel/channel/ChannelState", "of", "(Ljava/lang/Object;)Lcom/example/echo_panel/echopanel/channel/ChannelState;"⟩ : MethodName)) hown (mvT hZ (Wd1 hw)) (mvT hZ (Wd2 hw)) (mvT hZ (Wd3 hw)) (mvT hZ (Wd4 hw)) (by decide) (backOf (W := 0) (rmOf_00 l Z a0 hw []  T41.heap h0.size ((((X00.ext E1).wr W2 (Nat.le_trans (Nat.le_refl _) (Nat.le_of_eq g1.symm))).wr W3 (Nat.le_trans (Nat.le_refl _) (Nat.le_of_eq g1.symm))).keep K41 all0) el ea kE Se Ee Fa Fel Ae (Nat.le_trans (Nat.le_trans (Nat.le_trans (Nat.le_trans (Nat.le_refl _) E1.1) (Keep.of_wr W2).1) (Keep.of_wr W3).1) K41.1)  Ss) hZ (Wd4 hw) (Wd3 hw) (by decide) (by decide)) (g := (mkF m 84 #[.val (.int p0), .val (.int p1), .val (.long lq), .second, .val (.int p3), .val (.int p4), .val (.ref b1), .val .null, .val (.int (p0 &&& (3 : Int32))), .unset] [.null])) rfl (by rw [hml]; rfl) (argsL := [.null]) (rest := []) (lenOf pd7 rfl) rfl (by show 2 * 0 + _ ≤ _; exact Nat.le_of_eq rfl) (hb hby at_84) (fun _ _ => ⟨rfl, rfl, (Nat.le_of_ble_eq_true rfl), (Nat.le_of_ble_eq_true rfl)⟩)
          dsimp only [Pt.U, Pt.locs, Pt.cells, Pt.slots] at X42 l42 y42 z42 st42 hQ42
          subst l42 y42 z42
          obtain ⟨b42, rfl, Nq42, K42, ob42, E42, G0_42, G1_42, G2_42, G3_42, G4_42, G5_42⟩ := hQ42
          have N42 := Fr.app N41 Nq42
          refine OD.go (B := (T42.setTop (mkF m 87 #[.val (.int p0), .val (.int p1), .val (.long lq), .second, .val (.int p3), .val (.int p4), .val (.ref b1), .val .null, .val (.int (p0 &&& (3 : Int32))), .unset] [(.ref b42)]))) st42 ?_
          refine OD.go (B := (T42.setTop (mkF m 89 #[.val (.int p0), .val (.int p1), .val (.long lq), .second, .val (.int p3), .val (.int p4), .val (.ref b1), .val .null, .val (.int (p0 &&& (3 : Int32))), .val (.ref b42)] []))) (fun t k => XS.astore X42.here hx rfl (hb hby at_87) rfl rfl (l' := #[.val (.int p0), .val (.int p1), .val (.long lq), .second, .val (.int p3), .val (.int p4), .val (.ref b1), .val .null, .val (.int (p0 &&& (3 : Int32))), .val (.ref b42)]) rfl k) ?_
          refine OD.go (B := (T42.setTop (mkF m 91 #[.val (.int p0), .val (.int p1), .val (.long lq), .second, .val (.int p3), .val (.int p4), .val (.ref b1), .val .null, .val (.int (p0 &&& (3 : Int32))), .val (.ref b42)] [(.ref b42)]))) (fun t k => XS.aload X42.here hx rfl (hb hby at_89) rfl rfl k) ?_
          obtain ⟨cq43, kq43, qa43, qb43, qc43⟩ := isOf hZ rfl E42
          obtain ⟨_, _, ⟨T43, L43, k43, n43⟩, -, X43, ⟨Lc43, hQ43, l43, y43, z43⟩, st43⟩ := X42.virtualBack hx (y := (⟨"com/example/echo_panel/echopanel/channel/ChannelState", "connected", "()Z"⟩ : MethodName)) (z := (⟨"com/example/echo_panel/echopanel/channel/ChannelState", "connected", "()Z"⟩ : MethodName)) hown (mvT hZ (Wd60 hw)) (mvT hZ (Wd61 hw)) (notFace_of_selects (args := #[]) (mvT hZ (Wd63 hw))) (mvT hZ (Wd63 hw)) (mvT hZ (Wd62 hw)) (by decide) (backOf (W := 0) (rmX0_I l Z a0 hw [] b42 T42.heap (1 : Int32) G0_42 rfl) hZ (Wd64 hw) (Wd3 hw) (by decide) (by decide)) qa43 qc43 (g := (mkF m 91 #[.val (.int p0), .val (.int p1), .val (.long lq), .second, .val (.int p3), .val (.int p4), .val (.ref b1), .val .null, .val (.int (p0 &&& (3 : Int32))), .val (.ref b42)] [(.ref b42)])) rfl (by rw [hml]; rfl) (Steps.refl _) (argsL := []) (rest := []) (lenOf pd8 rfl) rfl (by show 2 * 0 + _ ≤ _; exact Nat.le_of_eq rfl) (hb hby at_91) (fun _ _ => ⟨rfl, rfl, (Nat.le_of_ble_eq_true rfl), (Nat.le_of_ble_eq_true rfl)⟩)
          dsimp only [Pt.U, Pt.locs, Pt.cells, Pt.slots] at X43 l43 y43 z43 st43 hQ43
          subst l43 y43 z43
          obtain ⟨rfl, rfl, e43⟩ := hQ43
          have N43 := Fr.app N42 (Fr.nil _)
          refine OD.via (B := (T43.setTop (mkF m 94 #[.val (.int p0), .val (.int p1), .val (.long lq), .second, .val (.int p3), .val (.int p4), .val (.ref b1), .val .null, .val (.int (p0 &&& (3 : Int32))), .val (.ref b42)] [(.int (1 : Int32))]))) st43 ?_
          refine OD.go (B := (T43.setTop (mkF m 97 #[.val (.int p0), .val (.int p1), .val (.long lq), .second, .val (.int p3), .val (.int p4), .val (.ref b1), .val .null, .val (.int (p0 &&& (3 : Int32))), .val (.ref b42)] []))) (fun t k => XS.ifNo X43.here hx rfl (hb hby at_94) rfl (by rw [if0]; exact (feq (by decide : ¬ (1 : Int32) = (0 : Int32))).1) k) ?_
          refine OD.go (B := (T43.setTop (mkF m 99 #[.val (.int p0), .val (.int p1), .val (.long lq), .second, .val (.int p3), .val (.int p4), .val (.ref b1), .val .null, .val (.int (p0 &&& (3 : Int32))), .val (.ref b42)] [(.ref b42)]))) (fun t k => XS.aload X43.here hx rfl (hb hby at_97) rfl rfl k) ?_
          obtain ⟨cq44, kq44, qa44, qb44, qc44⟩ := isOf hZ e43 E42
          obtain ⟨_, _, ⟨T44, L44, k44, n44⟩, -, X44, ⟨Lc44, hQ44, l44, y44, z44⟩, st44⟩ := X43.virtualBack hx (y := (⟨"com/example/echo_panel/echopanel/channel/ChannelState", "severity", "()Lcom/example/echo_panel/echopanel/channel/Severity;"⟩ : MethodName)) (z := (⟨"com/example/echo_panel/echopanel/channel/ChannelState", "severity", "()Lcom/example/echo_panel/echopanel/channel/Severity;"⟩ : MethodName)) hown (mvT hZ (Wd65 hw)) (mvT hZ (Wd66 hw)) (notFace_of_selects (args := #[]) (mvT hZ (Wd68 hw))) (mvT hZ (Wd68 hw)) (mvT hZ (Wd67 hw)) (by decide) (backOf (W := 0) (rmX1_0 l Z a0 hw [] b42 T42.heap  G1_42) hZ (Wd69 hw) (Wd3 hw) (by decide) (by decide)) qa44 qc44 (g := (mkF m 99 #[.val (.int p0), .val (.int p1), .val (.long lq), .second, .val (.int p3), .val (.int p4), .val (.ref b1), .val .null, .val (.int (p0 &&& (3 : Int32))), .val (.ref b42)] [(.ref b42)])) rfl (by rw [hml]; rfl) (Steps.refl _) (argsL := []) (rest := []) (lenOf pd9 rfl) rfl (by show 2 * 0 + _ ≤ _; exact Nat.le_of_eq rfl) (hb hby at_99) (fun _ _ => ⟨rfl, e43, (Nat.le_of_ble_eq_true rfl), (Nat.le_of_ble_eq_true rfl)⟩)
          dsimp only [Pt.U, Pt.locs, Pt.cells, Pt.slots] at X44 l44 y44 z44 st44 hQ44
          subst l44 y44 z44
          obtain ⟨rfl, rfl, e44⟩ := hQ44
          have N44 := Fr.app N43 (Fr.nil _)
          refine OD.via (B := (T44.setTop (mkF m 102 #[.val (.int p0), .val (.int p1), .val (.long lq), .second, .val (.int p3), .val (.int p4), .val (.ref b1), .val .null, .val (.int (p0 &&& (3 : Int32))), .val (.ref b42)] [.null]))) st44 ?_
          have f45 := (Ss.ext (((((X00.ext E1).wr W2 (Nat.le_trans (Nat.le_refl _) (Nat.le_of_eq g1.symm))).wr W3 (Nat.le_trans (Nat.le_refl _) (Nat.le_of_eq g1.symm))).keep K41 all0).keep K42 all0).2)
          obtain ⟨T46, X46, e46, st46⟩ := getS2 X44 hx hZ hown (host := "") (Or.inl (Wd70 hw)) Via.refl e44 f45 (g := (mkF m 102 #[.val (.int p0), .val (.int p1), .val (.long lq), .second, .val (.int p3), .val (.int p4), .val (.ref b1), .val .null, .val (.int (p0 &&& (3 : Int32))), .val (.ref b42)] [.null])) rfl (hb hby at_102)
          refine OD.go (B := (T46.setTop (mkF m 105 #[.val (.int p0), .val (.int p1), .val (.long lq), .second, .val (.int p3), .val (.int p4), .val (.ref b1), .val .null, .val (.int (p0 &&& (3 : Int32))), .val (.ref b42)] [.null, .null]))) st46 ?_
          refine OD.go (B := (T46.setTop (mkF m 108 #[.val (.int p0), .val (.int p1), .val (.long lq), .second, .val (.int p3), .val (.int p4), .val (.ref b1), .val .null, .val (.int (p0 &&& (3 : Int32))), .val (.ref b42)] []))) (fun t k => RoadKit.acmp X46 hx rfl (x := .null) (y := .null) rfl rfl (pc0 := 105) (pc' := 108) (same := true) rfl (hb hby at_105) rfl (by simp) (by decide) (by decide) k) ?_
          refine OD.go (B := (T46.setTop (mkF m 110 #[.val (.int p0), .val (.int p1), .val (.long lq), .second, .val (.int p3), .val (.int p4), .val (.ref b1), .val .null, .val (.int (p0 &&& (3 : Int32))), .val (.ref b42)] [(.ref b42)]))) (fun t k => XS.aload X46.here hx rfl (hb hby at_108) rfl rfl k) ?_
          obtain ⟨cq47, kq47, qa47, qb47, qc47⟩ := isOf hZ e46 E42
          obtain ⟨_, _, ⟨T47, L47, k47, n47⟩, -, X47, ⟨Lc47, hQ47, l47, y47, z47⟩, st47⟩ := X46.virtualBack hx (y := (⟨"com/example/echo_panel/echopanel/channel/ChannelState", "precision", "()I"⟩ : MethodName)) (z := (⟨"com/example/echo_panel/echopanel/channel/ChannelState", "precision", "()I"⟩ : MethodName)) hown (mvT hZ (Wd71 hw)) (mvT hZ (Wd72 hw)) (notFace_of_selects (args := #[]) (mvT hZ (Wd74 hw))) (mvT hZ (Wd74 hw)) (mvT hZ (Wd73 hw)) (by decide) (backOf (W := 0) (rmX2_I l Z a0 hw [] b42 T42.heap (0 : Int32) G2_42) hZ (Wd75 hw) (Wd3 hw) (by decide) (by decide)) qa47 qc47 (g := (mkF m 110 #[.val (.int p0), .val (.int p1), .val (.long lq), .second, .val (.int p3), .val (.int p4), .val (.ref b1), .val .null, .val (.int (p0 &&& (3 : Int32))), .val (.ref b42)] [(.ref b42)])) rfl (by rw [hml]; rfl) (Steps.refl _) (argsL := []) (rest := []) (lenOf pd10 rfl) rfl (by show 2 * 0 + _ ≤ _; exact Nat.le_of_eq rfl) (hb hby at_110) (fun _ _ => ⟨rfl, e46, (Nat.le_of_ble_eq_true rfl), (Nat.le_of_ble_eq_true rfl)⟩)
          dsimp only [Pt.U, Pt.locs, Pt.cells, Pt.slots] at X47 l47 y47 z47 st47 hQ47
          subst l47 y47 z47
          obtain ⟨rfl, rfl, e47⟩ := hQ47
          have N47 := Fr.app N44 (Fr.nil _)
          refine OD.via (B := (T47.setTop (mkF m 113 #[.val (.int p0), .val (.int p1), .val (.long lq), .second, .val (.int p3), .val (.int p4), .val (.ref b1), .val .null, .val (.int (p0 &&& (3 : Int32))), .val (.ref b42)] [(.int (0 : Int32))]))) st47 ?_
          refine OD.go (B := (T47.setTop (mkF m 116 #[.val (.int p0), .val (.int p1), .val (.long lq), .second, .val (.int p3), .val (.int p4), .val (.ref b1), .val .null, .val (.int (p0 &&& (3 : Int32))), .val (.ref b42)] []))) (fun t k => XS.ifNo X47.here hx rfl (hb hby at_113) rfl (by rw [if0]; exact (teq (by decide : (0 : Int32) = (0 : Int32))).2) k) ?_
          refine OD.go (B := (T47.setTop (mkF m 118 #[.val (.int p0), .val (.int p1), .val (.long lq), .second, .val (.int p3), .val (.int p4), .val (.ref b1), .val .null, .val (.int (p0 &&& (3 : Int32))), .val (.ref b42)] [(.ref b42)]))) (fun t k => XS.aload X47.here hx rfl (hb hby at_116) rfl rfl k) ?_
          obtain ⟨cq48, kq48, qa48, qb48, qc48⟩ := isOf hZ e47 E42
          obtain ⟨_, _, ⟨T48, L48, k48, n48⟩, -, X48, ⟨Lc48, hQ48, l48, y48, z48⟩, st48⟩ := X47.virtualBack hx (y := (⟨"com/example/echo_panel/echopanel/channel/ChannelState", "labels", "()Ljava/util/List;"⟩ : MethodName)) (z := (⟨"com/example/echo_panel/echopanel/channel/ChannelState", "labels", "()Ljava/util/List;"⟩ : MethodName)) hown (mvT hZ (Wd76 hw)) (mvT hZ (Wd77 hw)) (notFace_of_selects (args := #[]) (mvT hZ (Wd79 hw))) (mvT hZ (Wd79 hw)) (mvT hZ (Wd78 hw)) (by decide) (backOf (W := 0) (rmX3_1 l Z a0 hw [] b42 T42.heap el G3_42) hZ (Wd80 hw) (Wd3 hw) (by decide) (by decide)) qa48 qc48 (g := (mkF m 118 #[.val (.int p0), .val (.int p1), .val (.long lq), .second, .val (.int p3), .val (.int p4), .val (.ref b1), .val .null, .val (.int (p0 &&& (3 : Int32))), .val (.ref b42)] [(.ref b42)])) rfl (by rw [hml]; rfl) (Steps.refl _) (argsL := []) (rest := []) (lenOf pd5 rfl) rfl (by show 2 * 0 + _ ≤ _; exact Nat.le_of_eq rfl) (hb hby at_118) (fun _ _ => ⟨rfl, e47, (Nat.le_of_ble_eq_true rfl), (Nat.le_of_ble_eq_true rfl)⟩)
          dsimp only [Pt.U, Pt.locs, Pt.cells, Pt.slots] at X48 l48 y48 z48 st48 hQ48
          subst l48 y48 z48
          obtain ⟨rfl, rfl, e48⟩ := hQ48
          have N48 := Fr.app N47 (Fr.nil _)
          refine OD.via (B := (T48.setTop (mkF m 121 #[.val (.int p0), .val (.int p1), .val (.long lq), .second, .val (.int p3), .val (.int p4), .val (.ref b1), .val .null, .val (.int (p0 &&& (3 : Int32))), .val (.ref b42)] [(.ref el)]))) st48 ?_
          have f49 := (Ee.ext (((((X00.ext E1).wr W2 (Nat.le_trans (Nat.le_refl _) (Nat.le_of_eq g1.symm))).wr W3 (Nat.le_trans (Nat.le_refl _) (Nat.le_of_eq g1.symm))).keep K41 all0).keep K42 all0).2)
          obtain ⟨cq50, kq50, qa50, qb50, qc50⟩ := isOf hZ e48 f49
          obtain ⟨_, _, ⟨T50, L50, k50, n50⟩, -, X50, ⟨Lc50, hQ50, l50, y50, z50⟩, st50⟩ := X48.interfaceBack hx (xi := (⟨"java/util/List", "size", "()I"⟩ : MethodName)) (y := (⟨"java/util/ImmutableCollections$ListN", "size", "()I"⟩ : MethodName)) hown (mvT hZ (Wd81 hw)) (mvT hZ (Wd82 hw)) (mvT hZ (Wd83 hw)) (mvT hZ (Wd84 hw)) (mvT hZ (Wd85 hw)) (mvT hZ (Wd86 hw)) (mvT hZ (Wd87 hw)) (mvT hZ (Wd47 hw)) (by decide) (backOf (W := 0) (rmSZ l Z a0 hw [] el T42.heap h0.size (((((X00.ext E1).wr W2 (Nat.le_trans (Nat.le_refl _) (Nat.le_of_eq g1.symm))).wr W3 (Nat.le_trans (Nat.le_refl _) (Nat.le_of_eq g1.symm))).keep K41 all0).keep K42 all0) ea kE Se Ee Fa Fel Ae) hZ (Wd89 hw) (Wd88 hw) (by decide) (by decide)) qa50 qb50 qc50 (g := (mkF m 121 #[.val (.int p0), .val (.int p1), .val (.long lq), .second, .val (.int p3), .val (.int p4), .val (.ref b1), .val .null, .val (.int (p0 &&& (3 : Int32))), .val (.ref b42)] [(.ref el)])) rfl (by rw [hml]; rfl) (Steps.refl _) (argsL := []) (rest := []) (lenOf pd10 rfl) rfl (by show 2 * 0 + _ ≤ _; exact Nat.le_of_eq rfl) (hb hby at_121) (fun _ _ => ⟨rfl, e48, (Nat.le_of_ble_eq_true rfl), (Nat.le_of_ble_eq_true rfl)⟩)
          dsimp only [Pt.U, Pt.locs, Pt.cells, Pt.slots] at X50 l50 y50 z50 st50 hQ50
          subst l50 y50 z50
          obtain ⟨rfl, rfl, e50⟩ := hQ50
          have N50 := Fr.app N48 (Fr.nil _)
          refine OD.via (B := (T50.setTop (mkF m 126 #[.val (.int p0), .val (.int p1), .val (.long lq), .second, .val (.int p3), .val (.int p4), .val (.ref b1), .val .null, .val (.int (p0 &&& (3 : Int32))), .val (.ref b42)] [(.int (0 : Int32))]))) st50 ?_
          refine OD.go (B := (T50.setTop (mkF m 129 #[.val (.int p0), .val (.int p1), .val (.long lq), .second, .val (.int p3), .val (.int p4), .val (.ref b1), .val .null, .val (.int (p0 &&& (3 : Int32))), .val (.ref b42)] []))) (fun t k => XS.ifNo X50.here hx rfl (hb hby at_126) rfl (by rw [if0]; exact (teq (by decide : (0 : Int32) = (0 : Int32))).2) k) ?_
          refine OD.go (B := (T50.setTop (mkF m 131 #[.val (.int p0), .val (.int p1), .val (.long lq), .second, .val (.int p3), .val (.int p4), .val (.ref b1), .val .null, .val (.int (p0 &&& (3 : Int32))), .val (.ref b42)] [(.ref b42)]))) (fun t k => XS.aload X50.here hx rfl (hb hby at_129) rfl rfl k) ?_
          obtain ⟨cq51, kq51, qa51, qb51, qc51⟩ := isOf hZ e50 E42
          obtain ⟨_, _, ⟨T51, L51, k51, n51⟩, -, X51, ⟨Lc51, hQ51, l51, y51, z51⟩, st51⟩ := X50.virtualBack hx (y := (⟨"com/example/echo_panel/echopanel/channel/ChannelState", "value", "()Ljava/lang/Object;"⟩ : MethodName)) (z := (⟨"com/example/echo_panel/echopanel/channel/ChannelState", "value", "()Ljava/lang/Object;"⟩ : MethodName)) hown (mvT hZ (Wd92 hw)) (mvT hZ (Wd93 hw)) (notFace_of_selects (args := #[]) (mvT hZ (Wd95 hw))) (mvT hZ (Wd95 hw)) (mvT hZ (Wd94 hw)) (by decide) (backOf (W := 0) (rmX4_0 l Z a0 hw [] b42 T42.heap  G4_42) hZ (Wd96 hw) (Wd3 hw) (by decide) (by decide)) qa51 qc51 (g := (mkF m 131 #[.val (.int p0), .val (.int p1), .val (.long lq), .second, .val (.int p3), .val (.int p4), .val (.ref b1), .val .null, .val (.int (p0 &&& (3 : Int32))), .val (.ref b42)] [(.ref b42)])) rfl (by rw [hml]; rfl) (Steps.refl _) (argsL := []) (rest := []) (lenOf pd11 rfl) rfl (by show 2 * 0 + _ ≤ _; exact Nat.le_of_eq rfl) (hb hby at_131) (fun _ _ => ⟨rfl, e50, (Nat.le_of_ble_eq_true rfl), (Nat.le_of_ble_eq_true rfl)⟩)
          dsimp only [Pt.U, Pt.locs, Pt.cells, Pt.slots] at X51 l51 y51 z51 st51 hQ51
          subst l51 y51 z51
          obtain ⟨rfl, rfl, e51⟩ := hQ51
          have N51 := Fr.app N50 (Fr.nil _)
          refine OD.via (B := (T51.setTop (mkF m 134 #[.val (.int p0), .val (.int p1), .val (.long lq), .second, .val (.int p3), .val (.int p4), .val (.ref b1), .val .null, .val (.int (p0 &&& (3 : Int32))), .val (.ref b42)] [.null]))) st51 ?_
          refine OD.go (B := (T51.setTop (mkF m 136 #[.val (.int p0), .val (.int p1), .val (.long lq), .second, .val (.int p3), .val (.int p4), .val (.ref b1), .val .null, .val (.int (p0 &&& (3 : Int32))), .val (.ref b42)] [.null, .null]))) (fun t k => XS.aload X51.here hx rfl (hb hby at_134) rfl rfl k) ?_
          refine OD.go (B := (T51.setTop (mkF m 139 #[.val (.int p0), .val (.int p1), .val (.long lq), .second, .val (.int p3), .val (.int p4), .val (.ref b1), .val .null, .val (.int (p0 &&& (3 : Int32))), .val (.ref b42)] []))) (fun t k => RoadKit.acmp X51 hx rfl (x := .null) (y := .null) rfl rfl (pc0 := 136) (pc' := 139) (same := true) rfl (hb hby at_136) rfl (by simp) (by decide) (by decide) k) ?_
          refine OD.go (B := (T51.setTop (mkF m 141 #[.val (.int p0), .val (.int p1), .val (.long lq), .second, .val (.int p3), .val (.int p4), .val (.ref b1), .val .null, .val (.int (p0 &&& (3 : Int32))), .val (.ref b42)] [(.ref b42)]))) (fun t k => XS.aload X51.here hx rfl (hb hby at_139) rfl rfl k) ?_
          obtain ⟨cq52, kq52, qa52, qb52, qc52⟩ := isOf hZ e51 E42
          obtain ⟨_, _, ⟨T52, L52, k52, n52⟩, -, X52, ⟨Lc52, hQ52, l52, y52, z52⟩, st52⟩ := X51.virtualBack hx (y := (⟨"com/example/echo_panel/echopanel/channel/ChannelState", "limits", "()Lcom/example/echo_panel/echopanel/channel/DisplayLimits;"⟩ : MethodName)) (z := (⟨"com/example/echo_panel/echopanel/channel/ChannelState", "limits", "()Lcom/example/echo_panel/echopanel/channel/DisplayLimits;"⟩ : MethodName)) hown (mvT hZ (Wd97 hw)) (mvT hZ (Wd98 hw)) (notFace_of_selects (args := #[]) (mvT hZ (Wd100 hw))) (mvT hZ (Wd100 hw)) (mvT hZ (Wd99 hw)) (by decide) (backOf (W := 0) (rmX5_0 l Z a0 hw [] b42 T42.heap  G5_42) hZ (Wd101 hw) (Wd3 hw) (by decide) (by decide)) qa52 qc52 (g := (mkF m 141 #[.val (.int p0), .val (.int p1), .val (.long lq), .second, .val (.int p3), .val (.int p4), .val (.ref b1), .val .null, .val (.int (p0 &&& (3 : Int32))), .val (.ref b42)] [(.ref b42)])) rfl (by rw [hml]; rfl) (Steps.refl _) (argsL := []) (rest := []) (lenOf pd12 rfl) rfl (by show 2 * 0 + _ ≤ _; exact Nat.le_of_eq rfl) (hb hby at_141) (fun _ _ => ⟨rfl, e51, (Nat.le_of_ble_eq_true rfl), (Nat.le_of_ble_eq_true rfl)⟩)
          dsimp only [Pt.U, Pt.locs, Pt.cells, Pt.slots] at X52 l52 y52 z52 st52 hQ52
          subst l52 y52 z52
          obtain ⟨rfl, rfl, e52⟩ := hQ52
          have N52 := Fr.app N51 (Fr.nil _)
          refine OD.via (B := (T52.setTop (mkF m 144 #[.val (.int p0), .val (.int p1), .val (.long lq), .second, .val (.int p3), .val (.int p4), .val (.ref b1), .val .null, .val (.int (p0 &&& (3 : Int32))), .val (.ref b42)] [.null]))) st52 ?_
          refine OD.go (B := (T52.setTop (mkF m 147 #[.val (.int p0), .val (.int p1), .val (.long lq), .second, .val (.int p3), .val (.int p4), .val (.ref b1), .val .null, .val (.int (p0 &&& (3 : Int32))), .val (.ref b42)] []))) (fun t k => XS.ifnonnullNo X52.here hx rfl (hb hby at_144) rfl k) ?_
          refine OD.go (B := (T52.setTop (mkF m 148 #[.val (.int p0), .val (.int p1), .val (.long lq), .second, .val (.int p3), .val (.int p4), .val (.ref b1), .val .null, .val (.int (p0 &&& (3 : Int32))), .val (.ref b42)] [(.int (1 : Int32))]))) (fun t k => XS.iconst X52.here hx rfl (hb hby at_147) k) ?_
          refine OD.go (B := (T52.setTop (mkF m 152 #[.val (.int p0), .val (.int p1), .val (.long lq), .second, .val (.int p3), .val (.int p4), .val (.ref b1), .val .null, .val (.int (p0 &&& (3 : Int32))), .val (.ref b42)] [(.int (1 : Int32))]))) (fun t k => XS.goto X52.here hx rfl (pc0 := 148) (pc' := 152) rfl (hb hby at_148) (by decide) (by decide) k) ?_
          exact OD.ret X52 hx hlk (t := .boolean) Bd.returns rfl (Or.inl ⟨rfl, Or.inr (Or.inl rfl), _, rfl⟩) (hb hby at_152) (Nat.le_of_ble_eq_true rfl) (Nat.le_of_ble_eq_true rfl) ⟨rfl, N52⟩
        · refine OD.go (B := (T41.setTop (mkF m 66 #[.val (.int p0), .val (.int p1), .val (.long lq), .second, .val (.int p3), .val (.int p4), .val (.ref b1), .unset, .val (.int (p0 &&& (3 : Int32))), .unset] [(.ref b41)]))) st41 ?_
          refine OD.go (B := (T41.setTop (mkF m 68 #[.val (.int p0), .val (.int p1), .val (.long lq), .second, .val (.int p3), .val (.int p4), .val (.ref b1), .val (.ref b41), .val (.int (p0 &&& (3 : Int32))), .unset] []))) (fun t k => XS.astore X41.here hx rfl (hb hby at_66) rfl rfl (l' := #[.val (.int p0), .val (.int p1), .val (.long lq), .second, .val (.int p3), .val (.int p4), .val (.ref b1), .val (.ref b41), .val (.int (p0 &&& (3 : Int32))), .unset]) rfl k) ?_
          refine OD.go (B := (T41.setTop (mkF m 82 #[.val (.int p0), .val (.int p1), .val (.long lq), .second, .val (.int p3), .val (.int p4), .val (.ref b1), .val (.ref b41), .val (.int (p0 &&& (3 : Int32))), .unset] []))) (fun t k => XS.goto X41.here hx rfl (pc0 := 68) (pc' := 82) rfl (hb hby at_68) (by decide) (by decide) k) ?_
          refine OD.go (B := (T41.setTop (mkF m 84 #[.val (.int p0), .val (.int p1), .val (.long lq), .second, .val (.int p3), .val (.int p4), .val (.ref b1), .val (.ref b41), .val (.int (p0 &&& (3 : Int32))), .unset] [(.ref b41)]))) (fun t k => XS.aload X41.here hx rfl (hb hby at_82) rfl rfl k) ?_
          obtain ⟨_, _, ⟨T53, L53, k53, n53⟩, -, X53, ⟨Lc53, hQ53, l53, y53, z53⟩, st53⟩ := Jvm.LawKit.callS X41 hx (y := (⟨"com/example/echo_panel/echopanel/channel/ChannelState", "of", "(Ljava/lang/Object;)Lcom/example/echo_panel/echopanel/channel/ChannelState;"⟩ : MethodName)) hown (mvT hZ (Wd1 hw)) (mvT hZ (Wd2 hw)) (mvT hZ (Wd3 hw)) (mvT hZ (Wd4 hw)) (by decide) (backOf (W := 0) (rmOf_01 l Z a0 hw [] b41 T41.heap h0.size ((((X00.ext E1).wr W2 (Nat.le_trans (Nat.le_refl _) (Nat.le_of_eq g1.symm))).wr W3 (Nat.le_trans (Nat.le_refl _) (Nat.le_of_eq g1.symm))).keep K41 all0) el ea kE Se Ee Fa Fel Ae (Nat.le_trans (Nat.le_trans (Nat.le_trans (Nat.le_trans (Nat.le_refl _) E1.1) (Keep.of_wr W2).1) (Keep.of_wr W3).1) K41.1)  Ss) hZ (Wd4 hw) (Wd3 hw) (by decide) (by decide)) (g := (mkF m 84 #[.val (.int p0), .val (.int p1), .val (.long lq), .second, .val (.int p3), .val (.int p4), .val (.ref b1), .val (.ref b41), .val (.int (p0 &&& (3 : Int32))), .unset] [(.ref b41)])) rfl (by rw [hml]; rfl) (argsL := [(.ref b41)]) (rest := []) (lenOf pd7 rfl) rfl (by show 2 * 0 + _ ≤ _; exact Nat.le_of_eq rfl) (hb hby at_84) (fun _ _ => ⟨rfl, rfl, (Nat.le_of_ble_eq_true rfl), (Nat.le_of_ble_eq_true rfl)⟩)
          dsimp only [Pt.U, Pt.locs, Pt.cells, Pt.slots] at X53 l53 y53 z53 st53 hQ53
          subst l53 y53 z53
          obtain ⟨b53, rfl, Nq53, K53, ob53, E53, G0_53, G1_53, G2_53, G3_53, G4_53, G5_53⟩ := hQ53
          have N53 := Fr.app N41 Nq53
          refine OD.go (B := (T53.setTop (mkF m 87 #[.val (.int p0), .val (.int p1), .val (.long lq), .second, .val (.int p3), .val (.int p4), .val (.ref b1), .val (.ref b41), .val (.int (p0 &&& (3 : Int32))), .unset] [(.ref b53)]))) st53 ?_
          refine OD.go (B := (T53.setTop (mkF m 89 #[.val (.int p0), .val (.int p1), .val (.long lq), .second, .val (.int p3), .val (.int p4), .val (.ref b1), .val (.ref b41), .val (.int (p0 &&& (3 : Int32))), .val (.ref b53)] []))) (fun t k => XS.astore X53.here hx rfl (hb hby at_87) rfl rfl (l' := #[.val (.int p0), .val (.int p1), .val (.long lq), .second, .val (.int p3), .val (.int p4), .val (.ref b1), .val (.ref b41), .val (.int (p0 &&& (3 : Int32))), .val (.ref b53)]) rfl k) ?_
          refine OD.go (B := (T53.setTop (mkF m 91 #[.val (.int p0), .val (.int p1), .val (.long lq), .second, .val (.int p3), .val (.int p4), .val (.ref b1), .val (.ref b41), .val (.int (p0 &&& (3 : Int32))), .val (.ref b53)] [(.ref b53)]))) (fun t k => XS.aload X53.here hx rfl (hb hby at_89) rfl rfl k) ?_
          obtain ⟨cq54, kq54, qa54, qb54, qc54⟩ := isOf hZ rfl E53
          obtain ⟨_, _, ⟨T54, L54, k54, n54⟩, -, X54, ⟨Lc54, hQ54, l54, y54, z54⟩, st54⟩ := X53.virtualBack hx (y := (⟨"com/example/echo_panel/echopanel/channel/ChannelState", "connected", "()Z"⟩ : MethodName)) (z := (⟨"com/example/echo_panel/echopanel/channel/ChannelState", "connected", "()Z"⟩ : MethodName)) hown (mvT hZ (Wd60 hw)) (mvT hZ (Wd61 hw)) (notFace_of_selects (args := #[]) (mvT hZ (Wd63 hw))) (mvT hZ (Wd63 hw)) (mvT hZ (Wd62 hw)) (by decide) (backOf (W := 0) (rmX0_I l Z a0 hw [] b53 T53.heap (1 : Int32) G0_53 rfl) hZ (Wd64 hw) (Wd3 hw) (by decide) (by decide)) qa54 qc54 (g := (mkF m 91 #[.val (.int p0), .val (.int p1), .val (.long lq), .second, .val (.int p3), .val (.int p4), .val (.ref b1), .val (.ref b41), .val (.int (p0 &&& (3 : Int32))), .val (.ref b53)] [(.ref b53)])) rfl (by rw [hml]; rfl) (Steps.refl _) (argsL := []) (rest := []) (lenOf pd8 rfl) rfl (by show 2 * 0 + _ ≤ _; exact Nat.le_of_eq rfl) (hb hby at_91) (fun _ _ => ⟨rfl, rfl, (Nat.le_of_ble_eq_true rfl), (Nat.le_of_ble_eq_true rfl)⟩)
          dsimp only [Pt.U, Pt.locs, Pt.cells, Pt.slots] at X54 l54 y54 z54 st54 hQ54
          subst l54 y54 z54
          obtain ⟨rfl, rfl, e54⟩ := hQ54
          have N54 := Fr.app N53 (Fr.nil _)
          refine OD.via (B := (T54.setTop (mkF m 94 #[.val (.int p0), .val (.int p1), .val (.long lq), .second, .val (.int p3), .val (.int p4), .val (.ref b1), .val (.ref b41), .val (.int (p0 &&& (3 : Int32))), .val (.ref b53)] [(.int (1 : Int32))]))) st54 ?_
          refine OD.go (B := (T54.setTop (mkF m 97 #[.val (.int p0), .val (.int p1), .val (.long lq), .second, .val (.int p3), .val (.int p4), .val (.ref b1), .val (.ref b41), .val (.int (p0 &&& (3 : Int32))), .val (.ref b53)] []))) (fun t k => XS.ifNo X54.here hx rfl (hb hby at_94) rfl (by rw [if0]; exact (feq (by decide : ¬ (1 : Int32) = (0 : Int32))).1) k) ?_
          refine OD.go (B := (T54.setTop (mkF m 99 #[.val (.int p0), .val (.int p1), .val (.long lq), .second, .val (.int p3), .val (.int p4), .val (.ref b1), .val (.ref b41), .val (.int (p0 &&& (3 : Int32))), .val (.ref b53)] [(.ref b53)]))) (fun t k => XS.aload X54.here hx rfl (hb hby at_97) rfl rfl k) ?_
          obtain ⟨cq55, kq55, qa55, qb55, qc55⟩ := isOf hZ e54 E53
          obtain ⟨_, _, ⟨T55, L55, k55, n55⟩, -, X55, ⟨Lc55, hQ55, l55, y55, z55⟩, st55⟩ := X54.virtualBack hx (y := (⟨"com/example/echo_panel/echopanel/channel/ChannelState", "severity", "()Lcom/example/echo_panel/echopanel/channel/Severity;"⟩ : MethodName)) (z := (⟨"com/example/echo_panel/echopanel/channel/ChannelState", "severity", "()Lcom/example/echo_panel/echopanel/channel/Severity;"⟩ : MethodName)) hown (mvT hZ (Wd65 hw)) (mvT hZ (Wd66 hw)) (notFace_of_selects (args := #[]) (mvT hZ (Wd68 hw))) (mvT hZ (Wd68 hw)) (mvT hZ (Wd67 hw)) (by decide) (backOf (W := 0) (rmX1_0 l Z a0 hw [] b53 T53.heap  G1_53) hZ (Wd69 hw) (Wd3 hw) (by decide) (by decide)) qa55 qc55 (g := (mkF m 99 #[.val (.int p0), .val (.int p1), .val (.long lq), .second, .val (.int p3), .val (.int p4), .val (.ref b1), .val (.ref b41), .val (.int (p0 &&& (3 : Int32))), .val (.ref b53)] [(.ref b53)])) rfl (by rw [hml]; rfl) (Steps.refl _) (argsL := []) (rest := []) (lenOf pd9 rfl) rfl (by show 2 * 0 + _ ≤ _; exact Nat.le_of_eq rfl) (hb hby at_99) (fun _ _ => ⟨rfl, e54, (Nat.le_of_ble_eq_true rfl), (Nat.le_of_ble_eq_true rfl)⟩)
          dsimp only [Pt.U, Pt.locs, Pt.cells, Pt.slots] at X55 l55 y55 z55 st55 hQ55
          subst l55 y55 z55
          obtain ⟨rfl, rfl, e55⟩ := hQ55
          have N55 := Fr.app N54 (Fr.nil _)
          refine OD.via (B := (T55.setTop (mkF m 102 #[.val (.int p0), .val (.int p1), .val (.long lq), .second, .val (.int p3), .val (.int p4), .val (.ref b1), .val (.ref b41), .val (.int (p0 &&& (3 : Int32))), .val (.ref b53)] [.null]))) st55 ?_
          have f56 := (Ss.ext (((((X00.ext E1).wr W2 (Nat.le_trans (Nat.le_refl _) (Nat.le_of_eq g1.symm))).wr W3 (Nat.le_trans (Nat.le_refl _) (Nat.le_of_eq g1.symm))).keep K41 all0).keep K53 all0).2)
          obtain ⟨T57, X57, e57, st57⟩ := getS2 X55 hx hZ hown (host := "") (Or.inl (Wd70 hw)) Via.refl e55 f56 (g := (mkF m 102 #[.val (.int p0), .val (.int p1), .val (.long lq), .second, .val (.int p3), .val (.int p4), .val (.ref b1), .val (.ref b41), .val (.int (p0 &&& (3 : Int32))), .val (.ref b53)] [.null])) rfl (hb hby at_102)
          refine OD.go (B := (T57.setTop (mkF m 105 #[.val (.int p0), .val (.int p1), .val (.long lq), .second, .val (.int p3), .val (.int p4), .val (.ref b1), .val (.ref b41), .val (.int (p0 &&& (3 : Int32))), .val (.ref b53)] [.null, .null]))) st57 ?_
          refine OD.go (B := (T57.setTop (mkF m 108 #[.val (.int p0), .val (.int p1), .val (.long lq), .second, .val (.int p3), .val (.int p4), .val (.ref b1), .val (.ref b41), .val (.int (p0 &&& (3 : Int32))), .val (.ref b53)] []))) (fun t k => RoadKit.acmp X57 hx rfl (x := .null) (y := .null) rfl rfl (pc0 := 105) (pc' := 108) (same := true) rfl (hb hby at_105) rfl (by simp) (by decide) (by decide) k) ?_
          refine OD.go (B := (T57.setTop (mkF m 110 #[.val (.int p0), .val (.int p1), .val (.long lq), .second, .val (.int p3), .val (.int p4), .val (.ref b1), .val (.ref b41), .val (.int (p0 &&& (3 : Int32))), .val (.ref b53)] [(.ref b53)]))) (fun t k => XS.aload X57.here hx rfl (hb hby at_108) rfl rfl k) ?_
          obtain ⟨cq58, kq58, qa58, qb58, qc58⟩ := isOf hZ e57 E53
          obtain ⟨_, _, ⟨T58, L58, k58, n58⟩, -, X58, ⟨Lc58, hQ58, l58, y58, z58⟩, st58⟩ := X57.virtualBack hx (y := (⟨"com/example/echo_panel/echopanel/channel/ChannelState", "precision", "()I"⟩ : MethodName)) (z := (⟨"com/example/echo_panel/echopanel/channel/ChannelState", "precision", "()I"⟩ : MethodName)) hown (mvT hZ (Wd71 hw)) (mvT hZ (Wd72 hw)) (notFace_of_selects (args := #[]) (mvT hZ (Wd74 hw))) (mvT hZ (Wd74 hw)) (mvT hZ (Wd73 hw)) (by decide) (backOf (W := 0) (rmX2_I l Z a0 hw [] b53 T53.heap (0 : Int32) G2_53) hZ (Wd75 hw) (Wd3 hw) (by decide) (by decide)) qa58 qc58 (g := (mkF m 110 #[.val (.int p0), .val (.int p1), .val (.long lq), .second, .val (.int p3), .val (.int p4), .val (.ref b1), .val (.ref b41), .val (.int (p0 &&& (3 : Int32))), .val (.ref b53)] [(.ref b53)])) rfl (by rw [hml]; rfl) (Steps.refl _) (argsL := []) (rest := []) (lenOf pd10 rfl) rfl (by show 2 * 0 + _ ≤ _; exact Nat.le_of_eq rfl) (hb hby at_110) (fun _ _ => ⟨rfl, e57, (Nat.le_of_ble_eq_true rfl), (Nat.le_of_ble_eq_true rfl)⟩)
          dsimp only [Pt.U, Pt.locs, Pt.cells, Pt.slots] at X58 l58 y58 z58 st58 hQ58
          subst l58 y58 z58
          obtain ⟨rfl, rfl, e58⟩ := hQ58
          have N58 := Fr.app N55 (Fr.nil _)
          refine OD.via (B := (T58.setTop (mkF m 113 #[.val (.int p0), .val (.int p1), .val (.long lq), .second, .val (.int p3), .val (.int p4), .val (.ref b1), .val (.ref b41), .val (.int (p0 &&& (3 : Int32))), .val (.ref b53)] [(.int (0 : Int32))]))) st58 ?_
          refine OD.go (B := (T58.setTop (mkF m 116 #[.val (.int p0), .val (.int p1), .val (.long lq), .second, .val (.int p3), .val (.int p4), .val (.ref b1), .val (.ref b41), .val (.int (p0 &&& (3 : Int32))), .val (.ref b53)] []))) (fun t k => XS.ifNo X58.here hx rfl (hb hby at_113) rfl (by rw [if0]; exact (teq (by decide : (0 : Int32) = (0 : Int32))).2) k) ?_
          refine OD.go (B := (T58.setTop (mkF m 118 #[.val (.int p0), .val (.int p1), .val (.long lq), .second, .val (.int p3), .val (.int p4), .val (.ref b1), .val (.ref b41), .val (.int (p0 &&& (3 : Int32))), .val (.ref b53)] [(.ref b53)]))) (fun t k => XS.aload X58.here hx rfl (hb hby at_116) rfl rfl k) ?_
          obtain ⟨cq59, kq59, qa59, qb59, qc59⟩ := isOf hZ e58 E53
          obtain ⟨_, _, ⟨T59, L59, k59, n59⟩, -, X59, ⟨Lc59, hQ59, l59, y59, z59⟩, st59⟩ := X58.virtualBack hx (y := (⟨"com/example/echo_panel/echopanel/channel/ChannelState", "labels", "()Ljava/util/List;"⟩ : MethodName)) (z := (⟨"com/example/echo_panel/echopanel/channel/ChannelState", "labels", "()Ljava/util/List;"⟩ : MethodName)) hown (mvT hZ (Wd76 hw)) (mvT hZ (Wd77 hw)) (notFace_of_selects (args := #[]) (mvT hZ (Wd79 hw))) (mvT hZ (Wd79 hw)) (mvT hZ (Wd78 hw)) (by decide) (backOf (W := 0) (rmX3_1 l Z a0 hw [] b53 T53.heap el G3_53) hZ (Wd80 hw) (Wd3 hw) (by decide) (by decide)) qa59 qc59 (g := (mkF m 118 #[.val (.int p0), .val (.int p1), .val (.long lq), .second, .val (.int p3), .val (.int p4), .val (.ref b1), .val (.ref b41), .val (.int (p0 &&& (3 : Int32))), .val (.ref b53)] [(.ref b53)])) rfl (by rw [hml]; rfl) (Steps.refl _) (argsL := []) (rest := []) (lenOf pd5 rfl) rfl (by show 2 * 0 + _ ≤ _; exact Nat.le_of_eq rfl) (hb hby at_118) (fun _ _ => ⟨rfl, e58, (Nat.le_of_ble_eq_true rfl), (Nat.le_of_ble_eq_true rfl)⟩)
          dsimp only [Pt.U, Pt.locs, Pt.cells, Pt.slots] at X59 l59 y59 z59 st59 hQ59
          subst l59 y59 z59
          obtain ⟨rfl, rfl, e59⟩ := hQ59
          have N59 := Fr.app N58 (Fr.nil _)
          refine OD.via (B := (T59.setTop (mkF m 121 #[.val (.int p0), .val (.int p1), .val (.long lq), .second, .val (.int p3), .val (.int p4), .val (.ref b1), .val (.ref b41), .val (.int (p0 &&& (3 : Int32))), .val (.ref b53)] [(.ref el)]))) st59 ?_
          have f60 := (Ee.ext (((((X00.ext E1).wr W2 (Nat.le_trans (Nat.le_refl _) (Nat.le_of_eq g1.symm))).wr W3 (Nat.le_trans (Nat.le_refl _) (Nat.le_of_eq g1.symm))).keep K41 all0).keep K53 all0).2)
          obtain ⟨cq61, kq61, qa61, qb61, qc61⟩ := isOf hZ e59 f60
          obtain ⟨_, _, ⟨T61, L61, k61, n61⟩, -, X61, ⟨Lc61, hQ61, l61, y61, z61⟩, st61⟩ := X59.interfaceBack hx (xi := (⟨"java/util/List", "size", "()I"⟩ : MethodName)) (y := (⟨"java/util/ImmutableCollections$ListN", "size", "()I"⟩ : MethodName)) hown (mvT hZ (Wd81 hw)) (mvT hZ (Wd82 hw)) (mvT hZ (Wd83 hw)) (mvT hZ (Wd84 hw)) (mvT hZ (Wd85 hw)) (mvT hZ (Wd86 hw)) (mvT hZ (Wd87 hw)) (mvT hZ (Wd47 hw)) (by decide) (backOf (W := 0) (rmSZ l Z a0 hw [] el T53.heap h0.size (((((X00.ext E1).wr W2 (Nat.le_trans (Nat.le_refl _) (Nat.le_of_eq g1.symm))).wr W3 (Nat.le_trans (Nat.le_refl _) (Nat.le_of_eq g1.symm))).keep K41 all0).keep K53 all0) ea kE Se Ee Fa Fel Ae) hZ (Wd89 hw) (Wd88 hw) (by decide) (by decide)) qa61 qb61 qc61 (g := (mkF m 121 #[.val (.int p0), .val (.int p1), .val (.long lq), .second, .val (.int p3), .val (.int p4), .val (.ref b1), .val (.ref b41), .val (.int (p0 &&& (3 : Int32))), .val (.ref b53)] [(.ref el)])) rfl (by rw [hml]; rfl) (Steps.refl _) (argsL := []) (rest := []) (lenOf pd10 rfl) rfl (by show 2 * 0 + _ ≤ _; exact Nat.le_of_eq rfl) (hb hby at_121) (fun _ _ => ⟨rfl, e59, (Nat.le_of_ble_eq_true rfl), (Nat.le_of_ble_eq_true rfl)⟩)
          dsimp only [Pt.U, Pt.locs, Pt.cells, Pt.slots] at X61 l61 y61 z61 st61 hQ61
          subst l61 y61 z61
          obtain ⟨rfl, rfl, e61⟩ := hQ61
          have N61 := Fr.app N59 (Fr.nil _)
          refine OD.via (B := (T61.setTop (mkF m 126 #[.val (.int p0), .val (.int p1), .val (.long lq), .second, .val (.int p3), .val (.int p4), .val (.ref b1), .val (.ref b41), .val (.int (p0 &&& (3 : Int32))), .val (.ref b53)] [(.int (0 : Int32))]))) st61 ?_
          refine OD.go (B := (T61.setTop (mkF m 129 #[.val (.int p0), .val (.int p1), .val (.long lq), .second, .val (.int p3), .val (.int p4), .val (.ref b1), .val (.ref b41), .val (.int (p0 &&& (3 : Int32))), .val (.ref b53)] []))) (fun t k => XS.ifNo X61.here hx rfl (hb hby at_126) rfl (by rw [if0]; exact (teq (by decide : (0 : Int32) = (0 : Int32))).2) k) ?_
          refine OD.go (B := (T61.setTop (mkF m 131 #[.val (.int p0), .val (.int p1), .val (.long lq), .second, .val (.int p3), .val (.int p4), .val (.ref b1), .val (.ref b41), .val (.int (p0 &&& (3 : Int32))), .val (.ref b53)] [(.ref b53)]))) (fun t k => XS.aload X61.here hx rfl (hb hby at_129) rfl rfl k) ?_
          obtain ⟨cq62, kq62, qa62, qb62, qc62⟩ := isOf hZ e61 E53
          obtain ⟨_, _, ⟨T62, L62, k62, n62⟩, -, X62, ⟨Lc62, hQ62, l62, y62, z62⟩, st62⟩ := X61.virtualBack hx (y := (⟨"com/example/echo_panel/echopanel/channel/ChannelState", "value", "()Ljava/lang/Object;"⟩ : MethodName)) (z := (⟨"com/example/echo_panel/echopanel/channel/ChannelState", "value", "()Ljava/lang/Object;"⟩ : MethodName)) hown (mvT hZ (Wd92 hw)) (mvT hZ (Wd93 hw)) (notFace_of_selects (args := #[]) (mvT hZ (Wd95 hw))) (mvT hZ (Wd95 hw)) (mvT hZ (Wd94 hw)) (by decide) (backOf (W := 0) (rmX4_1 l Z a0 hw [] b53 T53.heap b41 G4_53) hZ (Wd96 hw) (Wd3 hw) (by decide) (by decide)) qa62 qc62 (g := (mkF m 131 #[.val (.int p0), .val (.int p1), .val (.long lq), .second, .val (.int p3), .val (.int p4), .val (.ref b1), .val (.ref b41), .val (.int (p0 &&& (3 : Int32))), .val (.ref b53)] [(.ref b53)])) rfl (by rw [hml]; rfl) (Steps.refl _) (argsL := []) (rest := []) (lenOf pd11 rfl) rfl (by show 2 * 0 + _ ≤ _; exact Nat.le_of_eq rfl) (hb hby at_131) (fun _ _ => ⟨rfl, e61, (Nat.le_of_ble_eq_true rfl), (Nat.le_of_ble_eq_true rfl)⟩)
          dsimp only [Pt.U, Pt.locs, Pt.cells, Pt.slots] at X62 l62 y62 z62 st62 hQ62
          subst l62 y62 z62
          obtain ⟨rfl, rfl, e62⟩ := hQ62
          have N62 := Fr.app N61 (Fr.nil _)
          refine OD.via (B := (T62.setTop (mkF m 134 #[.val (.int p0), .val (.int p1), .val (.long lq), .second, .val (.int p3), .val (.int p4), .val (.ref b1), .val (.ref b41), .val (.int (p0 &&& (3 : Int32))), .val (.ref b53)] [(.ref b41)]))) st62 ?_
          refine OD.go (B := (T62.setTop (mkF m 136 #[.val (.int p0), .val (.int p1), .val (.long lq), .second, .val (.int p3), .val (.int p4), .val (.ref b1), .val (.ref b41), .val (.int (p0 &&& (3 : Int32))), .val (.ref b53)] [(.ref b41), (.ref b41)]))) (fun t k => XS.aload X62.here hx rfl (hb hby at_134) rfl rfl k) ?_
          refine OD.go (B := (T62.setTop (mkF m 139 #[.val (.int p0), .val (.int p1), .val (.long lq), .second, .val (.int p3), .val (.int p4), .val (.ref b1), .val (.ref b41), .val (.int (p0 &&& (3 : Int32))), .val (.ref b53)] []))) (fun t k => RoadKit.acmp X62 hx rfl (x := (.ref b41)) (y := (.ref b41)) rfl rfl (pc0 := 136) (pc' := 139) (same := true) rfl (hb hby at_136) rfl (by simp) (by decide) (by decide) k) ?_
          refine OD.go (B := (T62.setTop (mkF m 141 #[.val (.int p0), .val (.int p1), .val (.long lq), .second, .val (.int p3), .val (.int p4), .val (.ref b1), .val (.ref b41), .val (.int (p0 &&& (3 : Int32))), .val (.ref b53)] [(.ref b53)]))) (fun t k => XS.aload X62.here hx rfl (hb hby at_139) rfl rfl k) ?_
          obtain ⟨cq63, kq63, qa63, qb63, qc63⟩ := isOf hZ e62 E53
          obtain ⟨_, _, ⟨T63, L63, k63, n63⟩, -, X63, ⟨Lc63, hQ63, l63, y63, z63⟩, st63⟩ := X62.virtualBack hx (y := (⟨"com/example/echo_panel/echopanel/channel/ChannelState", "limits", "()Lcom/example/echo_panel/echopanel/channel/DisplayLimits;"⟩ : MethodName)) (z := (⟨"com/example/echo_panel/echopanel/channel/ChannelState", "limits", "()Lcom/example/echo_panel/echopanel/channel/DisplayLimits;"⟩ : MethodName)) hown (mvT hZ (Wd97 hw)) (mvT hZ (Wd98 hw)) (notFace_of_selects (args := #[]) (mvT hZ (Wd100 hw))) (mvT hZ (Wd100 hw)) (mvT hZ (Wd99 hw)) (by decide) (backOf (W := 0) (rmX5_0 l Z a0 hw [] b53 T53.heap  G5_53) hZ (Wd101 hw) (Wd3 hw) (by decide) (by decide)) qa63 qc63 (g := (mkF m 141 #[.val (.int p0), .val (.int p1), .val (.long lq), .second, .val (.int p3), .val (.int p4), .val (.ref b1), .val (.ref b41), .val (.int (p0 &&& (3 : Int32))), .val (.ref b53)] [(.ref b53)])) rfl (by rw [hml]; rfl) (Steps.refl _) (argsL := []) (rest := []) (lenOf pd12 rfl) rfl (by show 2 * 0 + _ ≤ _; exact Nat.le_of_eq rfl) (hb hby at_141) (fun _ _ => ⟨rfl, e62, (Nat.le_of_ble_eq_true rfl), (Nat.le_of_ble_eq_true rfl)⟩)
          dsimp only [Pt.U, Pt.locs, Pt.cells, Pt.slots] at X63 l63 y63 z63 st63 hQ63
          subst l63 y63 z63
          obtain ⟨rfl, rfl, e63⟩ := hQ63
          have N63 := Fr.app N62 (Fr.nil _)
          refine OD.via (B := (T63.setTop (mkF m 144 #[.val (.int p0), .val (.int p1), .val (.long lq), .second, .val (.int p3), .val (.int p4), .val (.ref b1), .val (.ref b41), .val (.int (p0 &&& (3 : Int32))), .val (.ref b53)] [.null]))) st63 ?_
          refine OD.go (B := (T63.setTop (mkF m 147 #[.val (.int p0), .val (.int p1), .val (.long lq), .second, .val (.int p3), .val (.int p4), .val (.ref b1), .val (.ref b41), .val (.int (p0 &&& (3 : Int32))), .val (.ref b53)] []))) (fun t k => XS.ifnonnullNo X63.here hx rfl (hb hby at_144) rfl k) ?_
          refine OD.go (B := (T63.setTop (mkF m 148 #[.val (.int p0), .val (.int p1), .val (.long lq), .second, .val (.int p3), .val (.int p4), .val (.ref b1), .val (.ref b41), .val (.int (p0 &&& (3 : Int32))), .val (.ref b53)] [(.int (1 : Int32))]))) (fun t k => XS.iconst X63.here hx rfl (hb hby at_147) k) ?_
          refine OD.go (B := (T63.setTop (mkF m 152 #[.val (.int p0), .val (.int p1), .val (.long lq), .second, .val (.int p3), .val (.int p4), .val (.ref b1), .val (.ref b41), .val (.int (p0 &&& (3 : Int32))), .val (.ref b53)] [(.int (1 : Int32))]))) (fun t k => XS.goto X63.here hx rfl (pc0 := 148) (pc' := 152) rfl (hb hby at_148) (by decide) (by decide) k) ?_
          exact OD.ret X63 hx hlk (t := .boolean) Bd.returns rfl (Or.inl ⟨rfl, Or.inr (Or.inl rfl), _, rfl⟩) (hb hby at_152) (Nat.le_of_ble_eq_true rfl) (Nat.le_of_ble_eq_true rfl) ⟨rfl, N63⟩
      · refine OD.go (B := (T3.setTop (mkF m 71 #[.val (.int p0), .val (.int p1), .val (.long lq), .second, .val (.int p3), .val (.int p4), .val (.ref b1), .unset, .val (.int (p0 &&& (3 : Int32))), .unset] []))) (fun t k => XS.icmpYes X3.here hx rfl (pc0 := 59) (pc' := 71) rfl (hb hby at_59) rfl (feq c59_40).2 (by decide) (by decide) k) ?_
        obtain ⟨T64, h64, X64, e64, E64, A64, D64, -, st64⟩ := newO X3 hx hZ hown (Wd109 hw) (Wd110 hw) (Wd111 hw) e3 (g := (mkF m 71 #[.val (.int p0), .val (.int p1), .val (.long lq), .second, .val (.int p3), .val (.int p4), .val (.ref b1), .unset, .val (.int (p0 &&& (3 : Int32))), .unset] [])) rfl (hb hby at_71) (Nat.le_of_ble_eq_true rfl) (Nat.le_of_ble_eq_true rfl)
        obtain ⟨b64, g64⟩ : ∃ z, z = h3.size := ⟨_, rfl⟩
        rw [← g64] at A64 D64 st64
        have Fn65 : Fld Z h64 b64 "java/lang/String" "coder" "B" (.int (0 : Int32)) := D64 (Or.inr (Wd133 hw)) (ty := .byte) (by decide)
        have Fn66 : Fld Z h64 b64 "java/lang/String" "value" "[B" .null := D64 (Or.inr (Wd135 hw)) (ty := (.array .byte)) (by decide)
        refine OD.go (B := (T64.setTop (mkF m 74 #[.val (.int p0), .val (.int p1), .val (.long lq), .second, .val (.int p3), .val (.int p4), .val (.ref b1), .unset, .val (.int (p0 &&& (3 : Int32))), .unset] [(.ref b64)]))) st64 ?_
        refine OD.go (B := (T64.setTop (mkF m 75 #[.val (.int p0), .val (.int p1), .val (.long lq), .second, .val (.int p3), .val (.int p4), .val (.ref b1), .unset, .val (.int (p0 &&& (3 : Int32))), .unset] [(.ref b64), (.ref b64)]))) (fun t k => XS.dup X64.here hx rfl (hb hby at_74) rfl rfl k) ?_
        refine OD.go (B := (T64.setTop (mkF m 77 #[.val (.int p0), .val (.int p1), .val (.long lq), .second, .val (.int p3), .val (.int p4), .val (.ref b1), .unset, .val (.int (p0 &&& (3 : Int32))), .unset] [(.ref b1), (.ref b64), (.ref b64)]))) (fun t k => XS.aload X64.here hx rfl (hb hby at_75) rfl rfl k) ?_
        have f67 := (V3.ext E64)
        have K68 : Arv Z h64 b1 k1 .char (2 : Int32) (([(p3 &&& (255 : Int32)).toUInt32.toUInt16.toUInt32.toInt32, (p4 &&& (255 : Int32)).toUInt32.toUInt16.toUInt32.toInt32] : List Int32).map Value.int) (.int (0 : Int32)) := f67
        obtain ⟨_, _, ⟨T69, L69, k69, n69⟩, -, X69, ⟨Lc69, hQ69, l69, y69, z69⟩, st69⟩ := X64.specialBack hx (y := (⟨"java/lang/String", "<init>", "([C)V"⟩ : MethodName)) rfl hown (mvT hZ (Wd112 hw)) (mvT hZ (Wd113 hw)) (mvT hZ (Wd114 hw)) (by decide) (StrChars.Road.backV (W := 1) hZ hws (kI := 4) (Wd110 hw) (cs := ([(p3 &&& (255 : Int32)).toUInt32.toUInt16.toUInt32.toInt32, (p4 &&& (255 : Int32)).toUInt32.toUInt16.toUInt32.toInt32] : List Int32)) (bs := ([(p3 &&& (255 : Int32)).toUInt32.toUInt16.toUInt32.toInt32, (p4 &&& (255 : Int32)).toUInt32.toUInt16.toUInt32.toInt32] : List Int32).map (fun c => c.toInt8.toInt32)) (n := 2) (n0 := h0.size) (Nat.le_trans (Nat.le_trans (Nat.le_trans (Nat.le_trans (Nat.le_refl _) E1.1) (Keep.of_wr W2).1) (Keep.of_wr W3).1) (Nat.le_of_eq g64.symm)) (Nat.le_trans (Nat.le_trans (Nat.le_trans (Nat.le_trans (Nat.le_refl _) E1.1) (Keep.of_wr W2).1) (Keep.of_wr W3).1) E64.1) A64 Fn66 Fn65 K68 (O2.ext ((((X00.ext E1).wr W2 (Nat.le_trans (Nat.le_refl _) (Nat.le_of_eq g1.symm))).wr W3 (Nat.le_trans (Nat.le_refl _) (Nat.le_of_eq g1.symm))).ext E64).2) P5 rfl rfl (by decide) (by decide) (own_all2 (own_c255 _) (own_c255 _)) rfl (by decide) (by decide)) (g := (mkF m 77 #[.val (.int p0), .val (.int p1), .val (.long lq), .second, .val (.int p3), .val (.int p4), .val (.ref b1), .unset, .val (.int (p0 &&& (3 : Int32))), .unset] [(.ref b1), (.ref b64), (.ref b64)])) rfl (by rw [hml]; rfl) (Steps.refl _) (a := b64) (argsL := [(.ref b1)]) (rest := [(.ref b64)]) (lenOf pd15 rfl) rfl (by show 2 * 0 + _ ≤ _; exact Nat.le_of_eq rfl) (hb hby at_77) (fun _ _ => ⟨rfl, e64, (Nat.le_of_ble_eq_true rfl), (Nat.le_of_ble_eq_true rfl)⟩)
        dsimp only [Pt.U, Pt.locs, Pt.cells, Pt.slots] at X69 l69 y69 z69 st69 hQ69
        subst l69 y69 z69
        obtain ⟨rfl, Nq69, K69, E69, C69, t69, kb69, gt69, ht69, nt69, V69, A69⟩ := hQ69
        have N69 := Fr.app N3 Nq69
        have nt69_b1 : b1 ≠ t69 := Nat.ne_of_lt (Nat.lt_of_lt_of_le (Nat.lt_of_lt_of_le (Nat.lt_of_lt_of_le (Nat.lt_of_lt_of_le V1.lt (Keep.of_wr W2).1) (Keep.of_wr W3).1) E64.1) ht69)
        refine OD.via (B := (T69.setTop (mkF m 80 #[.val (.int p0), .val (.int p1), .val (.long lq), .second, .val (.int p3), .val (.int p4), .val (.ref b1), .unset, .val (.int (p0 &&& (3 : Int32))), .unset] [(.ref b64)]))) st69 ?_
        refine OD.go (B := (T69.setTop (mkF m 82 #[.val (.int p0), .val (.int p1), .val (.long lq), .second, .val (.int p3), .val (.int p4), .val (.ref b1), .val (.ref b64), .val (.int (p0 &&& (3 : Int32))), .unset] []))) (fun t k => XS.astore X69.here hx rfl (hb hby at_80) rfl rfl (l' := #[.val (.int p0), .val (.int p1), .val (.long lq), .second, .val (.int p3), .val (.int p4), .val (.ref b1), .val (.ref b64), .val (.int (p0 &&& (3 : Int32))), .unset]) rfl k) ?_
        refine OD.go (B := (T69.setTop (mkF m 84 #[.val (.int p0), .val (.int p1), .val (.long lq), .second, .val (.int p3), .val (.int p4), .val (.ref b1), .val (.ref b64), .val (.int (p0 &&& (3 : Int32))), .unset] [(.ref b64)]))) (fun t k => XS.aload X69.here hx rfl (hb hby at_82) rfl rfl k) ?_
        obtain ⟨_, _, ⟨T70, L70, k70, n70⟩, -, X70, ⟨Lc70, hQ70, l70, y70, z70⟩, st70⟩ := Jvm.LawKit.callS X69 hx (y := (⟨"com/example/echo_panel/echopanel/channel/ChannelState", "of", "(Ljava/lang/Object;)Lcom/example/echo_panel/echopanel/channel/ChannelState;"⟩ : MethodName)) hown (mvT hZ (Wd1 hw)) (mvT hZ (Wd2 hw)) (mvT hZ (Wd3 hw)) (mvT hZ (Wd4 hw)) (by decide) (backOf (W := 0) (rmOf_01 l Z a0 hw [] b64 T69.heap h0.size (((((X00.ext E1).wr W2 (Nat.le_trans (Nat.le_refl _) (Nat.le_of_eq g1.symm))).wr W3 (Nat.le_trans (Nat.le_refl _) (Nat.le_of_eq g1.symm))).ext E64).keep K69 (allS (Nat.le_trans (Nat.le_trans (Nat.le_trans (Nat.le_trans (Nat.le_refl _) E1.1) (Keep.of_wr W2).1) (Keep.of_wr W3).1) (Nat.le_of_eq g64.symm)) all0)) el ea kE Se Ee Fa Fel Ae (Nat.le_trans (Nat.le_trans (Nat.le_trans (Nat.le_trans (Nat.le_trans (Nat.le_refl _) E1.1) (Keep.of_wr W2).1) (Keep.of_wr W3).1) E64.1) K69.1)  Ss) hZ (Wd4 hw) (Wd3 hw) (by decide) (by decide)) (g := (mkF m 84 #[.val (.int p0), .val (.int p1), .val (.long lq), .second, .val (.int p3), .val (.int p4), .val (.ref b1), .val (.ref b64), .val (.int (p0 &&& (3 : Int32))), .unset] [(.ref b64)])) rfl (by rw [hml]; rfl) (argsL := [(.ref b64)]) (rest := []) (lenOf pd7 rfl) rfl (by show 2 * 0 + _ ≤ _; exact Nat.le_of_eq rfl) (hb hby at_84) (fun _ _ => ⟨rfl, rfl, (Nat.le_of_ble_eq_true rfl), (Nat.le_of_ble_eq_true rfl)⟩)
        dsimp only [Pt.U, Pt.locs, Pt.cells, Pt.slots] at X70 l70 y70 z70 st70 hQ70
        subst l70 y70 z70
        obtain ⟨b70, rfl, Nq70, K70, ob70, E70, G0_70, G1_70, G2_70, G3_70, G4_70, G5_70⟩ := hQ70
        have N70 := Fr.app N69 Nq70
        refine OD.go (B := (T70.setTop (mkF m 87 #[.val (.int p0), .val (.int p1), .val (.long lq), .second, .val (.int p3), .val (.int p4), .val (.ref b1), .val (.ref b64), .val (.int (p0 &&& (3 : Int32))), .unset] [(.ref b70)]))) st70 ?_
        refine OD.go (B := (T70.setTop (mkF m 89 #[.val (.int p0), .val (.int p1), .val (.long lq), .second, .val (.int p3), .val (.int p4), .val (.ref b1), .val (.ref b64), .val (.int (p0 &&& (3 : Int32))), .val (.ref b70)] []))) (fun t k => XS.astore X70.here hx rfl (hb hby at_87) rfl rfl (l' := #[.val (.int p0), .val (.int p1), .val (.long lq), .second, .val (.int p3), .val (.int p4), .val (.ref b1), .val (.ref b64), .val (.int (p0 &&& (3 : Int32))), .val (.ref b70)]) rfl k) ?_
        refine OD.go (B := (T70.setTop (mkF m 91 #[.val (.int p0), .val (.int p1), .val (.long lq), .second, .val (.int p3), .val (.int p4), .val (.ref b1), .val (.ref b64), .val (.int (p0 &&& (3 : Int32))), .val (.ref b70)] [(.ref b70)]))) (fun t k => XS.aload X70.here hx rfl (hb hby at_89) rfl rfl k) ?_
        obtain ⟨cq71, kq71, qa71, qb71, qc71⟩ := isOf hZ rfl E70
        obtain ⟨_, _, ⟨T71, L71, k71, n71⟩, -, X71, ⟨Lc71, hQ71, l71, y71, z71⟩, st71⟩ := X70.virtualBack hx (y := (⟨"com/example/echo_panel/echopanel/channel/ChannelState", "connected", "()Z"⟩ : MethodName)) (z := (⟨"com/example/echo_panel/echopanel/channel/ChannelState", "connected", "()Z"⟩ : MethodName)) hown (mvT hZ (Wd60 hw)) (mvT hZ (Wd61 hw)) (notFace_of_selects (args := #[]) (mvT hZ (Wd63 hw))) (mvT hZ (Wd63 hw)) (mvT hZ (Wd62 hw)) (by decide) (backOf (W := 0) (rmX0_I l Z a0 hw [] b70 T70.heap (1 : Int32) G0_70 rfl) hZ (Wd64 hw) (Wd3 hw) (by decide) (by decide)) qa71 qc71 (g := (mkF m 91 #[.val (.int p0), .val (.int p1), .val (.long lq), .second, .val (.int p3), .val (.int p4), .val (.ref b1), .val (.ref b64), .val (.int (p0 &&& (3 : Int32))), .val (.ref b70)] [(.ref b70)])) rfl (by rw [hml]; rfl) (Steps.refl _) (argsL := []) (rest := []) (lenOf pd8 rfl) rfl (by show 2 * 0 + _ ≤ _; exact Nat.le_of_eq rfl) (hb hby at_91) (fun _ _ => ⟨rfl, rfl, (Nat.le_of_ble_eq_true rfl), (Nat.le_of_ble_eq_true rfl)⟩)
        dsimp only [Pt.U, Pt.locs, Pt.cells, Pt.slots] at X71 l71 y71 z71 st71 hQ71
        subst l71 y71 z71
        obtain ⟨rfl, rfl, e71⟩ := hQ71
        have N71 := Fr.app N70 (Fr.nil _)
        refine OD.via (B := (T71.setTop (mkF m 94 #[.val (.int p0), .val (.int p1), .val (.long lq), .second, .val (.int p3), .val (.int p4), .val (.ref b1), .val (.ref b64), .val (.int (p0 &&& (3 : Int32))), .val (.ref b70)] [(.int (1 : Int32))]))) st71 ?_
        refine OD.go (B := (T71.setTop (mkF m 97 #[.val (.int p0), .val (.int p1), .val (.long lq), .second, .val (.int p3), .val (.int p4), .val (.ref b1), .val (.ref b64), .val (.int (p0 &&& (3 : Int32))), .val (.ref b70)] []))) (fun t k => XS.ifNo X71.here hx rfl (hb hby at_94) rfl (by rw [if0]; exact (feq (by decide : ¬ (1 : Int32) = (0 : Int32))).1) k) ?_
        refine OD.go (B := (T71.setTop (mkF m 99 #[.val (.int p0), .val (.int p1), .val (.long lq), .second, .val (.int p3), .val (.int p4), .val (.ref b1), .val (.ref b64), .val (.int (p0 &&& (3 : Int32))), .val (.ref b70)] [(.ref b70)]))) (fun t k => XS.aload X71.here hx rfl (hb hby at_97) rfl rfl k) ?_
        obtain ⟨cq72, kq72, qa72, qb72, qc72⟩ := isOf hZ e71 E70
        obtain ⟨_, _, ⟨T72, L72, k72, n72⟩, -, X72, ⟨Lc72, hQ72, l72, y72, z72⟩, st72⟩ := X71.virtualBack hx (y := (⟨"com/example/echo_panel/echopanel/channel/ChannelState", "severity", "()Lcom/example/echo_panel/echopanel/channel/Severity;"⟩ : MethodName)) (z := (⟨"com/example/echo_panel/echopanel/channel/ChannelState", "severity", "()Lcom/example/echo_panel/echopanel/channel/Severity;"⟩ : MethodName)) hown (mvT hZ (Wd65 hw)) (mvT hZ (Wd66 hw)) (notFace_of_selects (args := #[]) (mvT hZ (Wd68 hw))) (mvT hZ (Wd68 hw)) (mvT hZ (Wd67 hw)) (by decide) (backOf (W := 0) (rmX1_0 l Z a0 hw [] b70 T70.heap  G1_70) hZ (Wd69 hw) (Wd3 hw) (by decide) (by decide)) qa72 qc72 (g := (mkF m 99 #[.val (.int p0), .val (.int p1), .val (.long lq), .second, .val (.int p3), .val (.int p4), .val (.ref b1), .val (.ref b64), .val (.int (p0 &&& (3 : Int32))), .val (.ref b70)] [(.ref b70)])) rfl (by rw [hml]; rfl) (Steps.refl _) (argsL := []) (rest := []) (lenOf pd9 rfl) rfl (by show 2 * 0 + _ ≤ _; exact Nat.le_of_eq rfl) (hb hby at_99) (fun _ _ => ⟨rfl, e71, (Nat.le_of_ble_eq_true rfl), (Nat.le_of_ble_eq_true rfl)⟩)
        dsimp only [Pt.U, Pt.locs, Pt.cells, Pt.slots] at X72 l72 y72 z72 st72 hQ72
        subst l72 y72 z72
        obtain ⟨rfl, rfl, e72⟩ := hQ72
        have N72 := Fr.app N71 (Fr.nil _)
        refine OD.via (B := (T72.setTop (mkF m 102 #[.val (.int p0), .val (.int p1), .val (.long lq), .second, .val (.int p3), .val (.int p4), .val (.ref b1), .val (.ref b64), .val (.int (p0 &&& (3 : Int32))), .val (.ref b70)] [.null]))) st72 ?_
        have f73 := (Ss.ext ((((((X00.ext E1).wr W2 (Nat.le_trans (Nat.le_refl _) (Nat.le_of_eq g1.symm))).wr W3 (Nat.le_trans (Nat.le_refl _) (Nat.le_of_eq g1.symm))).ext E64).keep K69 (allS (Nat.le_trans (Nat.le_trans (Nat.le_trans (Nat.le_trans (Nat.le_refl _) E1.1) (Keep.of_wr W2).1) (Keep.of_wr W3).1) (Nat.le_of_eq g64.symm)) all0)).keep K70 all0).2)
        obtain ⟨T74, X74, e74, st74⟩ := getS2 X72 hx hZ hown (host := "") (Or.inl (Wd70 hw)) Via.refl e72 f73 (g := (mkF m 102 #[.val (.int p0), .val (.int p1), .val (.long lq), .second, .val (.int p3), .val (.int p4), .val (.ref b1), .val (.ref b64), .val (.int (p0 &&& (3 : Int32))), .val (.ref b70)] [.null])) rfl (hb hby at_102)
        refine OD.go (B := (T74.setTop (mkF m 105 #[.val (.int p0), .val (.int p1), .val (.long lq), .second, .val (.int p3), .val (.int p4), .val (.ref b1), .val (.ref b64), .val (.int (p0 &&& (3 : Int32))), .val (.ref b70)] [.null, .null]))) st74 ?_
        refine OD.go (B := (T74.setTop (mkF m 108 #[.val (.int p0), .val (.int p1), .val (.long lq), .second, .val (.int p3), .val (.int p4), .val (.ref b1), .val (.ref b64), .val (.int (p0 &&& (3 : Int32))), .val (.ref b70)] []))) (fun t k => RoadKit.acmp X74 hx rfl (x := .null) (y := .null) rfl rfl (pc0 := 105) (pc' := 108) (same := true) rfl (hb hby at_105) rfl (by simp) (by decide) (by decide) k) ?_
        refine OD.go (B := (T74.setTop (mkF m 110 #[.val (.int p0), .val (.int p1), .val (.long lq), .second, .val (.int p3), .val (.int p4), .val (.ref b1), .val (.ref b64), .val (.int (p0 &&& (3 : Int32))), .val (.ref b70)] [(.ref b70)]))) (fun t k => XS.aload X74.here hx rfl (hb hby at_108) rfl rfl k) ?_
        obtain ⟨cq75, kq75, qa75, qb75, qc75⟩ := isOf hZ e74 E70
        obtain ⟨_, _, ⟨T75, L75, k75, n75⟩, -, X75, ⟨Lc75, hQ75, l75, y75, z75⟩, st75⟩ := X74.virtualBack hx (y := (⟨"com/example/echo_panel/echopanel/channel/ChannelState", "precision", "()I"⟩ : MethodName)) (z := (⟨"com/example/echo_panel/echopanel/channel/ChannelState", "precision", "()I"⟩ : MethodName)) hown (mvT hZ (Wd71 hw)) (mvT hZ (Wd72 hw)) (notFace_of_selects (args := #[]) (mvT hZ (Wd74 hw))) (mvT hZ (Wd74 hw)) (mvT hZ (Wd73 hw)) (by decide) (backOf (W := 0) (rmX2_I l Z a0 hw [] b70 T70.heap (0 : Int32) G2_70) hZ (Wd75 hw) (Wd3 hw) (by decide) (by decide)) qa75 qc75 (g := (mkF m 110 #[.val (.int p0), .val (.int p1), .val (.long lq), .second, .val (.int p3), .val (.int p4), .val (.ref b1), .val (.ref b64), .val (.int (p0 &&& (3 : Int32))), .val (.ref b70)] [(.ref b70)])) rfl (by rw [hml]; rfl) (Steps.refl _) (argsL := []) (rest := []) (lenOf pd10 rfl) rfl (by show 2 * 0 + _ ≤ _; exact Nat.le_of_eq rfl) (hb hby at_110) (fun _ _ => ⟨rfl, e74, (Nat.le_of_ble_eq_true rfl), (Nat.le_of_ble_eq_true rfl)⟩)
        dsimp only [Pt.U, Pt.locs, Pt.cells, Pt.slots] at X75 l75 y75 z75 st75 hQ75
        subst l75 y75 z75
        obtain ⟨rfl, rfl, e75⟩ := hQ75
        have N75 := Fr.app N72 (Fr.nil _)
        refine OD.via (B := (T75.setTop (mkF m 113 #[.val (.int p0), .val (.int p1), .val (.long lq), .second, .val (.int p3), .val (.int p4), .val (.ref b1), .val (.ref b64), .val (.int (p0 &&& (3 : Int32))), .val (.ref b70)] [(.int (0 : Int32))]))) st75 ?_
        refine OD.go (B := (T75.setTop (mkF m 116 #[.val (.int p0), .val (.int p1), .val (.long lq), .second, .val (.int p3), .val (.int p4), .val (.ref b1), .val (.ref b64), .val (.int (p0 &&& (3 : Int32))), .val (.ref b70)] []))) (fun t k => XS.ifNo X75.here hx rfl (hb hby at_113) rfl (by rw [if0]; exact (teq (by decide : (0 : Int32) = (0 : Int32))).2) k) ?_
        refine OD.go (B := (T75.setTop (mkF m 118 #[.val (.int p0), .val (.int p1), .val (.long lq), .second, .val (.int p3), .val (.int p4), .val (.ref b1), .val (.ref b64), .val (.int (p0 &&& (3 : Int32))), .val (.ref b70)] [(.ref b70)]))) (fun t k => XS.aload X75.here hx rfl (hb hby at_116) rfl rfl k) ?_
        obtain ⟨cq76, kq76, qa76, qb76, qc76⟩ := isOf hZ e75 E70
        obtain ⟨_, _, ⟨T76, L76, k76, n76⟩, -, X76, ⟨Lc76, hQ76, l76, y76, z76⟩, st76⟩ := X75.virtualBack hx (y := (⟨"com/example/echo_panel/echopanel/channel/ChannelState", "labels", "()Ljava/util/List;"⟩ : MethodName)) (z := (⟨"com/example/echo_panel/echopanel/channel/ChannelState", "labels", "()Ljava/util/List;"⟩ : MethodName)) hown (mvT hZ (Wd76 hw)) (mvT hZ (Wd77 hw)) (notFace_of_selects (args := #[]) (mvT hZ (Wd79 hw))) (mvT hZ (Wd79 hw)) (mvT hZ (Wd78 hw)) (by decide) (backOf (W := 0) (rmX3_1 l Z a0 hw [] b70 T70.heap el G3_70) hZ (Wd80 hw) (Wd3 hw) (by decide) (by decide)) qa76 qc76 (g := (mkF m 118 #[.val (.int p0), .val (.int p1), .val (.long lq), .second, .val (.int p3), .val (.int p4), .val (.ref b1), .val (.ref b64), .val (.int (p0 &&& (3 : Int32))), .val (.ref b70)] [(.ref b70)])) rfl (by rw [hml]; rfl) (Steps.refl _) (argsL := []) (rest := []) (lenOf pd5 rfl) rfl (by show 2 * 0 + _ ≤ _; exact Nat.le_of_eq rfl) (hb hby at_118) (fun _ _ => ⟨rfl, e75, (Nat.le_of_ble_eq_true rfl), (Nat.le_of_ble_eq_true rfl)⟩)
        dsimp only [Pt.U, Pt.locs, Pt.cells, Pt.slots] at X76 l76 y76 z76 st76 hQ76
        subst l76 y76 z76
        obtain ⟨rfl, rfl, e76⟩ := hQ76
        have N76 := Fr.app N75 (Fr.nil _)
        refine OD.via (B := (T76.setTop (mkF m 121 #[.val (.int p0), .val (.int p1), .val (.long lq), .second, .val (.int p3), .val (.int p4), .val (.ref b1), .val (.ref b64), .val (.int (p0 &&& (3 : Int32))), .val (.ref b70)] [(.ref el)]))) st76 ?_
        have f77 := (Ee.ext ((((((X00.ext E1).wr W2 (Nat.le_trans (Nat.le_refl _) (Nat.le_of_eq g1.symm))).wr W3 (Nat.le_trans (Nat.le_refl _) (Nat.le_of_eq g1.symm))).ext E64).keep K69 (allS (Nat.le_trans (Nat.le_trans (Nat.le_trans (Nat.le_trans (Nat.le_refl _) E1.1) (Keep.of_wr W2).1) (Keep.of_wr W3).1) (Nat.le_of_eq g64.symm)) all0)).keep K70 all0).2)
        obtain ⟨cq78, kq78, qa78, qb78, qc78⟩ := isOf hZ e76 f77
        obtain ⟨_, _, ⟨T78, L78, k78, n78⟩, -, X78, ⟨Lc78, hQ78, l78, y78, z78⟩, st78⟩ := X76.interfaceBack hx (xi := (⟨"java/util/List", "size", "()I"⟩ : MethodName)) (y := (⟨"java/util/ImmutableCollections$ListN", "size", "()I"⟩ : MethodName)) hown (mvT hZ (Wd81 hw)) (mvT hZ (Wd82 hw)) (mvT hZ (Wd83 hw)) (mvT hZ (Wd84 hw)) (mvT hZ (Wd85 hw)) (mvT hZ (Wd86 hw)) (mvT hZ (Wd87 hw)) (mvT hZ (Wd47 hw)) (by decide) (backOf (W := 0) (rmSZ l Z a0 hw [] el T70.heap h0.size ((((((X00.ext E1).wr W2 (Nat.le_trans (Nat.le_refl _) (Nat.le_of_eq g1.symm))).wr W3 (Nat.le_trans (Nat.le_refl _) (Nat.le_of_eq g1.symm))).ext E64).keep K69 (allS (Nat.le_trans (Nat.le_trans (Nat.le_trans (Nat.le_trans (Nat.le_refl _) E1.1) (Keep.of_wr W2).1) (Keep.of_wr W3).1) (Nat.le_of_eq g64.symm)) all0)).keep K70 all0) ea kE Se Ee Fa Fel Ae) hZ (Wd89 hw) (Wd88 hw) (by decide) (by decide)) qa78 qb78 qc78 (g := (mkF m 121 #[.val (.int p0), .val (.int p1), .val (.long lq), .second, .val (.int p3), .val (.int p4), .val (.ref b1), .val (.ref b64), .val (.int (p0 &&& (3 : Int32))), .val (.ref b70)] [(.ref el)])) rfl (by rw [hml]; rfl) (Steps.refl _) (argsL := []) (rest := []) (lenOf pd10 rfl) rfl (by show 2 * 0 + _ ≤ _; exact Nat.le_of_eq rfl) (hb hby at_121) (fun _ _ => ⟨rfl, e76, (Nat.le_of_ble_eq_true rfl), (Nat.le_of_ble_eq_true rfl)⟩)
        dsimp only [Pt.U, Pt.locs, Pt.cells, Pt.slots] at X78 l78 y78 z78 st78 hQ78
        subst l78 y78 z78
        obtain ⟨rfl, rfl, e78⟩ := hQ78
        have N78 := Fr.app N76 (Fr.nil _)
        refine OD.via (B := (T78.setTop (mkF m 126 #[.val (.int p0), .val (.int p1), .val (.long lq), .second, .val (.int p3), .val (.int p4), .val (.ref b1), .val (.ref b64), .val (.int (p0 &&& (3 : Int32))), .val (.ref b70)] [(.int (0 : Int32))]))) st78 ?_
        refine OD.go (B := (T78.setTop (mkF m 129 #[.val (.int p0), .val (.int p1), .val (.long lq), .second, .val (.int p3), .val (.int p4), .val (.ref b1), .val (.ref b64), .val (.int (p0 &&& (3 : Int32))), .val (.ref b70)] []))) (fun t k => XS.ifNo X78.here hx rfl (hb hby at_126) rfl (by rw [if0]; exact (teq (by decide : (0 : Int32) = (0 : Int32))).2) k) ?_
        refine OD.go (B := (T78.setTop (mkF m 131 #[.val (.int p0), .val (.int p1), .val (.long lq), .second, .val (.int p3), .val (.int p4), .val (.ref b1), .val (.ref b64), .val (.int (p0 &&& (3 : Int32))), .val (.ref b70)] [(.ref b70)]))) (fun t k => XS.aload X78.here hx rfl (hb hby at_129) rfl rfl k) ?_
        obtain ⟨cq79, kq79, qa79, qb79, qc79⟩ := isOf hZ e78 E70
        obtain ⟨_, _, ⟨T79, L79, k79, n79⟩, -, X79, ⟨Lc79, hQ79, l79, y79, z79⟩, st79⟩ := X78.virtualBack hx (y := (⟨"com/example/echo_panel/echopanel/channel/ChannelState", "value", "()Ljava/lang/Object;"⟩ : MethodName)) (z := (⟨"com/example/echo_panel/echopanel/channel/ChannelState", "value", "()Ljava/lang/Object;"⟩ : MethodName)) hown (mvT hZ (Wd92 hw)) (mvT hZ (Wd93 hw)) (notFace_of_selects (args := #[]) (mvT hZ (Wd95 hw))) (mvT hZ (Wd95 hw)) (mvT hZ (Wd94 hw)) (by decide) (backOf (W := 0) (rmX4_1 l Z a0 hw [] b70 T70.heap b64 G4_70) hZ (Wd96 hw) (Wd3 hw) (by decide) (by decide)) qa79 qc79 (g := (mkF m 131 #[.val (.int p0), .val (.int p1), .val (.long lq), .second, .val (.int p3), .val (.int p4), .val (.ref b1), .val (.ref b64), .val (.int (p0 &&& (3 : Int32))), .val (.ref b70)] [(.ref b70)])) rfl (by rw [hml]; rfl) (Steps.refl _) (argsL := []) (rest := []) (lenOf pd11 rfl) rfl (by show 2 * 0 + _ ≤ _; exact Nat.le_of_eq rfl) (hb hby at_131) (fun _ _ => ⟨rfl, e78, (Nat.le_of_ble_eq_true rfl), (Nat.le_of_ble_eq_true rfl)⟩)
        dsimp only [Pt.U, Pt.locs, Pt.cells, Pt.slots] at X79 l79 y79 z79 st79 hQ79
        subst l79 y79 z79
        obtain ⟨rfl, rfl, e79⟩ := hQ79
        have N79 := Fr.app N78 (Fr.nil _)
        refine OD.via (B := (T79.setTop (mkF m 134 #[.val (.int p0), .val (.int p1), .val (.long lq), .second, .val (.int p3), .val (.int p4), .val (.ref b1), .val (.ref b64), .val (.int (p0 &&& (3 : Int32))), .val (.ref b70)] [(.ref b64)]))) st79 ?_
        refine OD.go (B := (T79.setTop (mkF m 136 #[.val (.int p0), .val (.int p1), .val (.long lq), .second, .val (.int p3), .val (.int p4), .val (.ref b1), .val (.ref b64), .val (.int (p0 &&& (3 : Int32))), .val (.ref b70)] [(.ref b64), (.ref b64)]))) (fun t k => XS.aload X79.here hx rfl (hb hby at_134) rfl rfl k) ?_
        refine OD.go (B := (T79.setTop (mkF m 139 #[.val (.int p0), .val (.int p1), .val (.long lq), .second, .val (.int p3), .val (.int p4), .val (.ref b1), .val (.ref b64), .val (.int (p0 &&& (3 : Int32))), .val (.ref b70)] []))) (fun t k => RoadKit.acmp X79 hx rfl (x := (.ref b64)) (y := (.ref b64)) rfl rfl (pc0 := 136) (pc' := 139) (same := true) rfl (hb hby at_136) rfl (by simp) (by decide) (by decide) k) ?_
        refine OD.go (B := (T79.setTop (mkF m 141 #[.val (.int p0), .val (.int p1), .val (.long lq), .second, .val (.int p3), .val (.int p4), .val (.ref b1), .val (.ref b64), .val (.int (p0 &&& (3 : Int32))), .val (.ref b70)] [(.ref b70)]))) (fun t k => XS.aload X79.here hx rfl (hb hby at_139) rfl rfl k) ?_
        obtain ⟨cq80, kq80, qa80, qb80, qc80⟩ := isOf hZ e79 E70
        obtain ⟨_, _, ⟨T80, L80, k80, n80⟩, -, X80, ⟨Lc80, hQ80, l80, y80, z80⟩, st80⟩ := X79.virtualBack hx (y := (⟨"com/example/echo_panel/echopanel/channel/ChannelState", "limits", "()Lcom/example/echo_panel/echopanel/channel/DisplayLimits;"⟩ : MethodName)) (z := (⟨"com/example/echo_panel/echopanel/channel/ChannelState", "limits", "()Lcom/example/echo_panel/echopanel/channel/DisplayLimits;"⟩ : MethodName)) hown (mvT hZ (Wd97 hw)) (mvT hZ (Wd98 hw)) (notFace_of_selects (args := #[]) (mvT hZ (Wd100 hw))) (mvT hZ (Wd100 hw)) (mvT hZ (Wd99 hw)) (by decide) (backOf (W := 0) (rmX5_0 l Z a0 hw [] b70 T70.heap  G5_70) hZ (Wd101 hw) (Wd3 hw) (by decide) (by decide)) qa80 qc80 (g := (mkF m 141 #[.val (.int p0), .val (.int p1), .val (.long lq), .second, .val (.int p3), .val (.int p4), .val (.ref b1), .val (.ref b64), .val (.int (p0 &&& (3 : Int32))), .val (.ref b70)] [(.ref b70)])) rfl (by rw [hml]; rfl) (Steps.refl _) (argsL := []) (rest := []) (lenOf pd12 rfl) rfl (by show 2 * 0 + _ ≤ _; exact Nat.le_of_eq rfl) (hb hby at_141) (fun _ _ => ⟨rfl, e79, (Nat.le_of_ble_eq_true rfl), (Nat.le_of_ble_eq_true rfl)⟩)
        dsimp only [Pt.U, Pt.locs, Pt.cells, Pt.slots] at X80 l80 y80 z80 st80 hQ80
        subst l80 y80 z80
        obtain ⟨rfl, rfl, e80⟩ := hQ80
        have N80 := Fr.app N79 (Fr.nil _)
        refine OD.via (B := (T80.setTop (mkF m 144 #[.val (.int p0), .val (.int p1), .val (.long lq), .second, .val (.int p3), .val (.int p4), .val (.ref b1), .val (.ref b64), .val (.int (p0 &&& (3 : Int32))), .val (.ref b70)] [.null]))) st80 ?_
        refine OD.go (B := (T80.setTop (mkF m 147 #[.val (.int p0), .val (.int p1), .val (.long lq), .second, .val (.int p3), .val (.int p4), .val (.ref b1), .val (.ref b64), .val (.int (p0 &&& (3 : Int32))), .val (.ref b70)] []))) (fun t k => XS.ifnonnullNo X80.here hx rfl (hb hby at_144) rfl k) ?_
        refine OD.go (B := (T80.setTop (mkF m 148 #[.val (.int p0), .val (.int p1), .val (.long lq), .second, .val (.int p3), .val (.int p4), .val (.ref b1), .val (.ref b64), .val (.int (p0 &&& (3 : Int32))), .val (.ref b70)] [(.int (1 : Int32))]))) (fun t k => XS.iconst X80.here hx rfl (hb hby at_147) k) ?_
        refine OD.go (B := (T80.setTop (mkF m 152 #[.val (.int p0), .val (.int p1), .val (.long lq), .second, .val (.int p3), .val (.int p4), .val (.ref b1), .val (.ref b64), .val (.int (p0 &&& (3 : Int32))), .val (.ref b70)] [(.int (1 : Int32))]))) (fun t k => XS.goto X80.here hx rfl (pc0 := 148) (pc' := 152) rfl (hb hby at_148) (by decide) (by decide) k) ?_
        exact OD.ret X80 hx hlk (t := .boolean) Bd.returns rfl (Or.inl ⟨rfl, Or.inr (Or.inl rfl), _, rfl⟩) (hb hby at_152) (Nat.le_of_ble_eq_true rfl) (Nat.le_of_ble_eq_true rfl) ⟨rfl, N80⟩
def Q_rm0_1 (Z : State) (p0 : Int32) (p1 : Int32) (lq : Int64) (p3 : Int32) (p4 : Int32) (h0 : Heap) (v : Option Value) (h : Heap) (L : List Loc) : Prop := v = some (.int 1) ∧ Fr h0.size L
set_option maxRecDepth 65536 in
set_option maxHeartbeats 40000000 in
theorem rm0_1 (l : Launch) (Z : State) (a0 : Array Value) (hw : ∀ d ∈ tables_1, d.before a0 Z = true) (ws : List Jvm.Cond) (p0 : Int32) (p1 : Int32) (lq : Int64) (p3 : Int32) (p4 : Int32) (h0 : Heap) (X00 : Old Z h0.size h0) (zc : Int32) (O2 : Sta Z Z.heap "java/lang/String" "COMPACT_STRINGS" "Z" (.int zc)) (P5 : ¬ zc = 0) (el ea : Addr) (kE : ClassId) (Se : Sta Z Z.heap "java/util/ImmutableCollections" "EMPTY_LIST" "Ljava/util/ImmutableCollections$ListN;" (.ref el)) (Ee : Exa Z Z.heap el "java/util/ImmutableCollections$ListN") (Fa : Fld Z Z.heap el "java/util/ImmutableCollections$ListN" "allowNulls" "Z" (.int (0 : Int32))) (Fel : Fld Z Z.heap el "java/util/ImmutableCollections$ListN" "elements" "[Ljava/lang/Object;" (.ref ea)) (Ae : Arv Z Z.heap ea kE (.object "java/lang/Object") (0 : Int32) [] .null) (ca : Addr) (Sh : Sta Z Z.heap "java/lang/Integer$IntegerCache" "high" "I" (.int (127 : Int32))) (Sc : Sta Z Z.heap "java/lang/Integer$IntegerCache" "cache" "[Ljava/lang/Integer;" (.ref ca)) (Cc : OCach Z ca "java/lang/Integer") (cb : Addr) (Sl : Sta Z Z.heap "java/lang/Long$LongCache" "cache" "[Ljava/lang/Long;" (.ref cb)) (Cl : OCach Z cb "java/lang/Long") (sv : Addr) (Ss : Sta Z Z.heap "com/example/echo_panel/echopanel/channel/Severity" "NO_ALARM" "Lcom/example/echo_panel/echopanel/channel/Severity;" (.ref sv)) :
    MetFree l x (head1 (Jvm.Cond.code x code maxLocals ret :: ws) room_1) (fun a U => a = #[(.int p0), (.int p1), (.long lq), (.int p3), (.int p4)] ∧ Z.Warmed39 U.vm ∧ U.heap = h0) (fun _ _ _ _ _ => True) (fun _ U o U' => ∃ v L, o = .returned v ∧ Q_rm0_1 Z p0 p1 lq p3 p4 h0 v U'.heap L ∧ FrameEnd U o U' L 16 128) := by
  refine MetFree.of_bodySF (plainFor_of_name pn8) hisR ?_
  intro p e s m args below meth c s₁ Bd hml0 hP hK
  obtain ⟨rfl, hZ, hh⟩ := hP
  have hx := Bd.exec
  have hby := Bd.bytes
  have hlk : meth.locks = false := Bd.notSynchronized
  have hml : c.maxLocals = 10 := hml0
  have hown : s.vm.findClass "com/example/echo_panel/echopanel/channel/ChannelStateOfPinLaw" = some m.cls := findClass_of_methodNamed Bd.named
  have hnm := (name_of_methodNamed Bd.named Bd.method).1
  have X0 : Stand p l e room_1 s m #[(.int p0), (.int p1), (.long lq), (.int p3), (.int p4)] below meth c s₁ [] 0 0 := Stand.of_body Bd
  have e0 : s₁.heap = h0 := by rw [← hh, Bd.state]; rfl
  have N0 := Fr.nil h0.size
  have hws : ∀ d ∈ StrChars.Road.words, d.before a0 Z = true := fun d hd => hw d ((by decide +kernel : ∀ d ∈ StrChars.Road.words, d ∈ tables_1) d hd)
  suffices hgo : OD p e s below (Q_rm0_1 Z p0 p1 lq p3 p4 h0) 16 128 (s₁.setTop (mkF m 0 #[.val (.int p0), .val (.int p1), .val (.long lq), .second, .val (.int p3), .val (.int p4), .unset, .unset, .unset, .unset] [])) by
    obtain ⟨s₂, o, hgo1, hgo2⟩ := hgo
    exact ⟨s₂, o, castTop (ef16 m p0 p1 lq p3 p4) hgo1, hgo2⟩
  refine OD.go (B := (s₁.setTop (mkF m 1 #[.val (.int p0), .val (.int p1), .val (.long lq), .second, .val (.int p3), .val (.int p4), .unset, .unset, .unset, .unset] [(.int (2 : Int32))]))) (fun t k => XS.iconst X0.here hx rfl (hb hby at_0) k) ?_
  obtain ⟨T1, h1, k1, X1, e1, E1, A1, st1⟩ := newP X0 hx hZ (aty := .char) (Wd0 hw) e0 (g := (mkF m 1 #[.val (.int p0), .val (.int p1), .val (.long lq), .second, .val (.int p3), .val (.int p4), .unset, .unset, .unset, .unset] [(.int (2 : Int32))])) rfl (hb hby at_1) rfl (by decide) (cap := 2) (by decide) (by decide) (Nat.le_of_ble_eq_true rfl) (Nat.le_of_ble_eq_true rfl)
  obtain ⟨b1, g1⟩ : ∃ z, z = h0.size := ⟨_, rfl⟩
  rw [← g1] at A1 st1
  have V1 : Arv Z h1 b1 k1 .char (2 : Int32) [(.int (0 : Int32)), (.int (0 : Int32))] (.int (0 : Int32)) := (Arv.new A1 (by decide)).pad (pad_rep [] (.int (0 : Int32)) 2)
  refine OD.go (B := (T1.setTop (mkF m 3 #[.val (.int p0), .val (.int p1), .val (.long lq), .second, .val (.int p3), .val (.int p4), .unset, .unset, .unset, .unset] [(.ref b1)]))) st1 ?_
  refine OD.go (B := (T1.setTop (mkF m 4 #[.val (.int p0), .val (.int p1), .val (.long lq), .second, .val (.int p3), .val (.int p4), .unset, .unset, .unset, .unset] [(.ref b1), (.ref b1)]))) (fun t k => XS.dup X1.here hx rfl (hb hby at_3) rfl rfl k) ?_
  refine OD.go (B := (T1.setTop (mkF m 5 #[.val (.int p0), .val (.int p1), .val (.long lq), .second, .val (.int p3), .val (.int p4), .unset, .unset, .unset, .unset] [(.int (0 : Int32)), (.ref b1), (.ref b1)]))) (fun t k => XS.iconst X1.here hx rfl (hb hby at_4) k) ?_
  refine OD.go (B := (T1.setTop (mkF m 7 #[.val (.int p0), .val (.int p1), .val (.long lq), .second, .val (.int p3), .val (.int p4), .unset, .unset, .unset, .unset] [(.int p3), (.int (0 : Int32)), (.ref b1), (.ref b1)]))) (fun t k => XS.iload X1.here hx rfl (hb hby at_5) rfl k) ?_
  refine OD.go (B := (T1.setTop (mkF m 10 #[.val (.int p0), .val (.int p1), .val (.long lq), .second, .val (.int p3), .val (.int p4), .unset, .unset, .unset, .unset] [(.int (255 : Int32)), (.int p3), (.int (0 : Int32)), (.ref b1), (.ref b1)]))) (fun t k => XS.sipush X1.here hx rfl (hb hby at_7) k) ?_
  refine OD.go (B := (T1.setTop (mkF m 11 #[.val (.int p0), .val (.int p1), .val (.long lq), .second, .val (.int p3), .val (.int p4), .unset, .unset, .unset, .unset] [(.int (p3 &&& (255 : Int32))), (.int (0 : Int32)), (.ref b1), (.ref b1)]))) (fun t k => XS.iand X1.here hx rfl (hb hby at_10) rfl k) ?_
  refine OD.go (B := (T1.setTop (mkF m 12 #[.val (.int p0), .val (.int p1), .val (.long lq), .second, .val (.int p3), .val (.int p4), .unset, .unset, .unset, .unset] [(.int (p3 &&& (255 : Int32)).toUInt32.toUInt16.toUInt32.toInt32), (.int (0 : Int32)), (.ref b1), (.ref b1)]))) (fun t k => XS.i2c X1.here hx rfl (hb hby at_11) rfl k) ?_
  obtain ⟨cl2, Ar2, q2, S2, M2, H2, G2⟩ := id V1
  obtain ⟨T2, h2, X2, e2, W2, st2⟩ := stC X1 hx hZ e1 Ar2 (j := (0 : Int32)) (inb_of S2 ⟨by decide, by decide⟩) (g := (mkF m 12 #[.val (.int p0), .val (.int p1), .val (.long lq), .second, .val (.int p3), .val (.int p4), .unset, .unset, .unset, .unset] [(.int (p3 &&& (255 : Int32)).toUInt32.toUInt16.toUInt32.toInt32), (.int (0 : Int32)), (.ref b1), (.ref b1)])) rfl rfl (hb hby at_12)
  rw [(own_nar (own_c255 _))] at W2
  have V2 : Arv Z h2 b1 k1 .char (2 : Int32) [(.int (p3 &&& (255 : Int32)).toUInt32.toUInt16.toUInt32.toInt32), (.int (0 : Int32))] (.int (0 : Int32)) := Arv.set Ar2 q2 S2 M2 H2 G2 ((own_nar (own_c255 _)) ▸ fits_nar_char _) W2 0 rfl (Nat.le_of_ble_eq_true rfl)
  have N2 := Fr.snoc X2 N0 (Nat.le_trans (Nat.le_refl _) (Nat.le_of_eq g1.symm))
  refine OD.go (B := (T2.setTop (mkF m 13 #[.val (.int p0), .val (.int p1), .val (.long lq), .second, .val (.int p3), .val (.int p4), .unset, .unset, .unset, .unset] [(.ref b1)]))) st2 ?_
  refine OD.go (B := (T2.setTop (mkF m 14 #[.val (.int p0), .val (.int p1), .val (.long lq), .second, .val (.int p3), .val (.int p4), .unset, .unset, .unset, .unset] [(.ref b1), (.ref b1)]))) (fun t k => XS.dup X2.here hx rfl (hb hby at_13) rfl rfl k) ?_
  refine OD.go (B := (T2.setTop (mkF m 15 #[.val (.int p0), .val (.int p1), .val (.long lq), .second, .val (.int p3), .val (.int p4), .unset, .unset, .unset, .unset] [(.int (1 : Int32)), (.ref b1), (.ref b1)]))) (fun t k => XS.iconst X2.here hx rfl (hb hby at_14) k) ?_
  refine OD.go (B := (T2.setTop (mkF m 17 #[.val (.int p0), .val (.int p1), .val (.long lq), .second, .val (.int p3), .val (.int p4), .unset, .unset, .unset, .unset] [(.int p4), (.int (1 : Int32)), (.ref b1), (.ref b1)]))) (fun t k => XS.iload X2.here hx rfl (hb hby at_15) rfl k) ?_
  refine OD.go (B := (T2.setTop (mkF m 20 #[.val (.int p0), .val (.int p1), .val (.long lq), .second, .val (.int p3), .val (.int p4), .unset, .unset, .unset, .unset] [(.int (255 : Int32)), (.int p4), (.int (1 : Int32)), (.ref b1), (.ref b1)]))) (fun t k => XS.sipush X2.here hx rfl (hb hby at_17) k) ?_
  refine OD.go (B := (T2.setTop (mkF m 21 #[.val (.int p0), .val (.int p1), .val (.long lq), .second, .val (.int p3), .val (.int p4), .unset, .unset, .unset, .unset] [(.int (p4 &&& (255 : Int32))), (.int (1 : Int32)), (.ref b1), (.ref b1)]))) (fun t k => XS.iand X2.here hx rfl (hb hby at_20) rfl k) ?_
  refine OD.go (B := (T2.setTop (mkF m 22 #[.val (.int p0), .val (.int p1), .val (.long lq), .second, .val (.int p3), .val (.int p4), .unset, .unset, .unset, .unset] [(.int (p4 &&& (255 : Int32)).toUInt32.toUInt16.toUInt32.toInt32), (.int (1 : Int32)), (.ref b1), (.ref b1)]))) (fun t k => XS.i2c X2.here hx rfl (hb hby at_21) rfl k) ?_
  obtain ⟨cl3, Ar3, q3, S3, M3, H3, G3⟩ := id V2
  obtain ⟨T3, h3, X3, e3, W3, st3⟩ := stC X2 hx hZ e2 Ar3 (j := (1 : Int32)) (inb_of S3 ⟨by decide, by decide⟩) (g := (mkF m 22 #[.val (.int p0), .val (.int p1), .val (.long lq), .second, .val (.int p3), .val (.int p4), .unset, .unset, .unset, .unset] [(.int (p4 &&& (255 : Int32)).toUInt32.toUInt16.toUInt32.toInt32), (.int (1 : Int32)), (.ref b1), (.ref b1)])) rfl rfl (hb hby at_22)
  rw [(own_nar (own_c255 _))] at W3
  have V3 : Arv Z h3 b1 k1 .char (2 : Int32) [(.int (p3 &&& (255 : Int32)).toUInt32.toUInt16.toUInt32.toInt32), (.int (p4 &&& (255 : Int32)).toUInt32.toUInt16.toUInt32.toInt32)] (.int (0 : Int32)) := Arv.set Ar3 q3 S3 M3 H3 G3 ((own_nar (own_c255 _)) ▸ fits_nar_char _) W3 1 rfl (Nat.le_of_ble_eq_true rfl)
  have N3 := Fr.snoc X3 N2 (Nat.le_trans (Nat.le_refl _) (Nat.le_of_eq g1.symm))
  refine OD.go (B := (T3.setTop (mkF m 23 #[.val (.int p0), .val (.int p1), .val (.long lq), .second, .val (.int p3), .val (.int p4), .unset, .unset, .unset, .unset] [(.ref b1)]))) st3 ?_
  refine OD.go (B := (T3.setTop (mkF m 25 #[.val (.int p0), .val (.int p1), .val (.long lq), .second, .val (.int p3), .val (.int p4), .val (.ref b1), .unset, .unset, .unset] []))) (fun t k => XS.astore X3.here hx rfl (hb hby at_23) rfl rfl (l' := #[.val (.int p0), .val (.int p1), .val (.long lq), .second, .val (.int p3), .val (.int p4), .val (.ref b1), .unset, .unset, .unset]) rfl k) ?_
  refine OD.go (B := (T3.setTop (mkF m 26 #[.val (.int p0), .val (.int p1), .val (.long lq), .second, .val (.int p3), .val (.int p4), .val (.ref b1), .unset, .unset, .unset] [(.int p0)]))) (fun t k => XS.iloadN X3.here hx rfl (hb hby at_25) rfl k) ?_
  refine OD.go (B := (T3.setTop (mkF m 27 #[.val (.int p0), .val (.int p1), .val (.long lq), .second, .val (.int p3), .val (.int p4), .val (.ref b1), .unset, .unset, .unset] [(.int (3 : Int32)), (.int p0)]))) (fun t k => XS.iconst X3.here hx rfl (hb hby at_26) k) ?_
  refine OD.go (B := (T3.setTop (mkF m 28 #[.val (.int p0), .val (.int p1), .val (.long lq), .second, .val (.int p3), .val (.int p4), .val (.ref b1), .unset, .unset, .unset] [(.int (p0 &&& (3 : Int32)))]))) (fun t k => XS.iand X3.here hx rfl (hb hby at_27) rfl k) ?_
  refine OD.go (B := (T3.setTop (mkF m 30 #[.val (.int p0), .val (.int p1), .val (.long lq), .second, .val (.int p3), .val (.int p4), .val (.ref b1), .unset, .val (.int (p0 &&& (3 : Int32))), .unset] []))) (fun t k => XS.istore X3.here hx rfl (hb hby at_28) rfl (l' := #[.val (.int p0), .val (.int p1), .val (.long lq), .second, .val (.int p3), .val (.int p4), .val (.ref b1), .unset, .val (.int (p0 &&& (3 : Int32))), .unset]) rfl k) ?_
  refine OD.go (B := (T3.setTop (mkF m 32 #[.val (.int p0), .val (.int p1), .val (.long lq), .second, .val (.int p3), .val (.int p4), .val (.ref b1), .unset, .val (.int (p0 &&& (3 : Int32))), .unset] [(.int (p0 &&& (3 : Int32)))]))) (fun t k => XS.iload X3.here hx rfl (hb hby at_30) rfl k) ?_
  by_cases c32_4 : (p0 &&& (3 : Int32)) = (0 : Int32)
  · refine OD.go (B := (T3.setTop (mkF m 35 #[.val (.int p0), .val (.int p1), .val (.long lq), .second, .val (.int p3), .val (.int p4), .val (.ref b1), .unset, .val (.int (p0 &&& (3 : Int32))), .unset] []))) (fun t k => XS.ifNo X3.here hx rfl (hb hby at_32) rfl (by rw [if0]; exact (teq c32_4).2) k) ?_
    refine OD.go (B := (T3.setTop (mkF m 36 #[.val (.int p0), .val (.int p1), .val (.long lq), .second, .val (.int p3), .val (.int p4), .val (.ref b1), .unset, .val (.int (p0 &&& (3 : Int32))), .unset] [.null]))) (fun t k => XS.aconstNull X3.here hx rfl (hb hby at_35) k) ?_
    refine OD.go (B := (T3.setTop (mkF m 38 #[.val (.int p0), .val (.int p1), .val (.long lq), .second, .val (.int p3), .val (.int p4), .val (.ref b1), .val .null, .val (.int (p0 &&& (3 : Int32))), .unset] []))) (fun t k => XS.astore X3.here hx rfl (hb hby at_36) rfl rfl (l' := #[.val (.int p0), .val (.int p1), .val (.long lq), .second, .val (.int p3), .val (.int p4), .val (.ref b1), .val .null, .val (.int (p0 &&& (3 : Int32))), .unset]) rfl k) ?_
    refine OD.go (B := (T3.setTop (mkF m 82 #[.val (.int p0), .val (.int p1), .val (.long lq), .second, .val (.int p3), .val (.int p4), .val (.ref b1), .val .null, .val (.int (p0 &&& (3 : Int32))), .unset] []))) (fun t k => XS.goto X3.here hx rfl (pc0 := 38) (pc' := 82) rfl (hb hby at_38) (by decide) (by decide) k) ?_
    refine OD.go (B := (T3.setTop (mkF m 84 #[.val (.int p0), .val (.int p1), .val (.long lq), .second, .val (.int p3), .val (.int p4), .val (.ref b1), .val .null, .val (.int (p0 &&& (3 : Int32))), .unset] [.null]))) (fun t k => XS.aload X3.here hx rfl (hb hby at_82) rfl rfl k) ?_
    obtain ⟨_, _, ⟨T5, L5, k5, n5⟩, -, X5, ⟨Lc5, hQ5, l5, y5, z5⟩, st5⟩ := Jvm.LawKit.callS X3 hx (y := (⟨"com/example/echo_panel/echopanel/channel/ChannelState", "of", "(Ljava/lang/Object;)Lcom/example/echo_panel/echopanel/channel/ChannelState;"⟩ : MethodName)) hown (mvT hZ (Wd1 hw)) (mvT hZ (Wd2 hw)) (mvT hZ (Wd3 hw)) (mvT hZ (Wd4 hw)) (by decide) (backOf (W := 0) (rmOf_10 l Z a0 hw []  h3 h0.size (((X00.ext E1).wr W2 (Nat.le_trans (Nat.le_refl _) (Nat.le_of_eq g1.symm))).wr W3 (Nat.le_trans (Nat.le_refl _) (Nat.le_of_eq g1.symm))) el ea kE Se Ee Fa Fel Ae (Nat.le_trans (Nat.le_trans (Nat.le_trans (Nat.le_refl _) E1.1) (Keep.of_wr W2).1) (Keep.of_wr W3).1) sv Ss) hZ (Wd4 hw) (Wd3 hw) (by decide) (by decide)) (g := (mkF m 84 #[.val (.int p0), .val (.int p1), .val (.long lq), .second, .val (.int p3), .val (.int p4), .val (.ref b1), .val .null, .val (.int (p0 &&& (3 : Int32))), .unset] [.null])) rfl (by rw [hml]; rfl) (argsL := [.null]) (rest := []) (lenOf pd7 rfl) rfl (by show 2 * 0 + _ ≤ _; exact Nat.le_of_eq rfl) (hb hby at_84) (fun _ _ => ⟨rfl, e3, (Nat.le_of_ble_eq_true rfl), (Nat.le_of_ble_eq_true rfl)⟩)
    dsimp only [Pt.U, Pt.locs, Pt.cells, Pt.slots] at X5 l5 y5 z5 st5 hQ5
    subst l5 y5 z5
    obtain ⟨b5, rfl, Nq5, K5, ob5, E5, G0_5, G1_5, G2_5, G3_5, G4_5, G5_5⟩ := hQ5
    have N5 := Fr.app N3 Nq5
    refine OD.go (B := (T5.setTop (mkF m 87 #[.val (.int p0), .val (.int p1), .val (.long lq), .second, .val (.int p3), .val (.int p4), .val (.ref b1), .val .null, .val (.int (p0 &&& (3 : Int32))), .unset] [(.ref b5)]))) st5 ?_
    refine OD.go (B := (T5.setTop (mkF m 89 #[.val (.int p0), .val (.int p1), .val (.long lq), .second, .val (.int p3), .val (.int p4), .val (.ref b1), .val .null, .val (.int (p0 &&& (3 : Int32))), .val (.ref b5)] []))) (fun t k => XS.astore X5.here hx rfl (hb hby at_87) rfl rfl (l' := #[.val (.int p0), .val (.int p1), .val (.long lq), .second, .val (.int p3), .val (.int p4), .val (.ref b1), .val .null, .val (.int (p0 &&& (3 : Int32))), .val (.ref b5)]) rfl k) ?_
    refine OD.go (B := (T5.setTop (mkF m 91 #[.val (.int p0), .val (.int p1), .val (.long lq), .second, .val (.int p3), .val (.int p4), .val (.ref b1), .val .null, .val (.int (p0 &&& (3 : Int32))), .val (.ref b5)] [(.ref b5)]))) (fun t k => XS.aload X5.here hx rfl (hb hby at_89) rfl rfl k) ?_
    obtain ⟨cq6, kq6, qa6, qb6, qc6⟩ := isOf hZ rfl E5
    obtain ⟨_, _, ⟨T6, L6, k6, n6⟩, -, X6, ⟨Lc6, hQ6, l6, y6, z6⟩, st6⟩ := X5.virtualBack hx (y := (⟨"com/example/echo_panel/echopanel/channel/ChannelState", "connected", "()Z"⟩ : MethodName)) (z := (⟨"com/example/echo_panel/echopanel/channel/ChannelState", "connected", "()Z"⟩ : MethodName)) hown (mvT hZ (Wd60 hw)) (mvT hZ (Wd61 hw)) (notFace_of_selects (args := #[]) (mvT hZ (Wd63 hw))) (mvT hZ (Wd63 hw)) (mvT hZ (Wd62 hw)) (by decide) (backOf (W := 0) (rmX0_I l Z a0 hw [] b5 T5.heap (1 : Int32) G0_5 rfl) hZ (Wd64 hw) (Wd3 hw) (by decide) (by decide)) qa6 qc6 (g := (mkF m 91 #[.val (.int p0), .val (.int p1), .val (.long lq), .second, .val (.int p3), .val (.int p4), .val (.ref b1), .val .null, .val (.int (p0 &&& (3 : Int32))), .val (.ref b5)] [(.ref b5)])) rfl (by rw [hml]; rfl) (Steps.refl _) (argsL := []) (rest := []) (lenOf pd8 rfl) rfl (by show 2 * 0 + _ ≤ _; exact Nat.le_of_eq rfl) (hb hby at_91) (fun _ _ => ⟨rfl, rfl, (Nat.le_of_ble_eq_true rfl), (Nat.le_of_ble_eq_true rfl)⟩)
    dsimp only [Pt.U, Pt.locs, Pt.cells, Pt.slots] at X6 l6 y6 z6 st6 hQ6
    subst l6 y6 z6
    obtain ⟨rfl, rfl, e6⟩ := hQ6
    have N6 := Fr.app N5 (Fr.nil _)
    refine OD.via (B := (T6.setTop (mkF m 94 #[.val (.int p0), .val (.int p1), .val (.long lq), .second, .val (.int p3), .val (.int p4), .val (.ref b1), .val .null, .val (.int (p0 &&& (3 : Int32))), .val (.ref b5)] [(.int (1 : Int32))]))) st6 ?_
    refine OD.go (B := (T6.setTop (mkF m 97 #[.val (.int p0), .val (.int p1), .val (.long lq), .second, .val (.int p3), .val (.int p4), .val (.ref b1), .val .null, .val (.int (p0 &&& (3 : Int32))), .val (.ref b5)] []))) (fun t k => XS.ifNo X6.here hx rfl (hb hby at_94) rfl (by rw [if0]; exact (feq (by decide : ¬ (1 : Int32) = (0 : Int32))).1) k) ?_
    refine OD.go (B := (T6.setTop (mkF m 99 #[.val (.int p0), .val (.int p1), .val (.long lq), .second, .val (.int p3), .val (.int p4), .val (.ref b1), .val .null, .val (.int (p0 &&& (3 : Int32))), .val (.ref b5)] [(.ref b5)]))) (fun t k => XS.aload X6.here hx rfl (hb hby at_97) rfl rfl k) ?_
    obtain ⟨cq7, kq7, qa7, qb7, qc7⟩ := isOf hZ e6 E5
    obtain ⟨_, _, ⟨T7, L7, k7, n7⟩, -, X7, ⟨Lc7, hQ7, l7, y7, z7⟩, st7⟩ := X6.virtualBack hx (y := (⟨"com/example/echo_panel/echopanel/channel/ChannelState", "severity", "()Lcom/example/echo_panel/echopanel/channel/Severity;"⟩ : MethodName)) (z := (⟨"com/example/echo_panel/echopanel/channel/ChannelState", "severity", "()Lcom/example/echo_panel/echopanel/channel/Severity;"⟩ : MethodName)) hown (mvT hZ (Wd65 hw)) (mvT hZ (Wd66 hw)) (notFace_of_selects (args := #[]) (mvT hZ (Wd68 hw))) (mvT hZ (Wd68 hw)) (mvT hZ (Wd67 hw)) (by decide) (backOf (W := 0) (rmX1_1 l Z a0 hw [] b5 T5.heap sv G1_5) hZ (Wd69 hw) (Wd3 hw) (by decide) (by decide)) qa7 qc7 (g := (mkF m 99 #[.val (.int p0), .val (.int p1), .val (.long lq), .second, .val (.int p3), .val (.int p4), .val (.ref b1), .val .null, .val (.int (p0 &&& (3 : Int32))), .val (.ref b5)] [(.ref b5)])) rfl (by rw [hml]; rfl) (Steps.refl _) (argsL := []) (rest := []) (lenOf pd9 rfl) rfl (by show 2 * 0 + _ ≤ _; exact Nat.le_of_eq rfl) (hb hby at_99) (fun _ _ => ⟨rfl, e6, (Nat.le_of_ble_eq_true rfl), (Nat.le_of_ble_eq_true rfl)⟩)
    dsimp only [Pt.U, Pt.locs, Pt.cells, Pt.slots] at X7 l7 y7 z7 st7 hQ7
    subst l7 y7 z7
    obtain ⟨rfl, rfl, e7⟩ := hQ7
    have N7 := Fr.app N6 (Fr.nil _)
    refine OD.via (B := (T7.setTop (mkF m 102 #[.val (.int p0), .val (.int p1), .val (.long lq), .second, .val (.int p3), .val (.int p4), .val (.ref b1), .val .null, .val (.int (p0 &&& (3 : Int32))), .val (.ref b5)] [(.ref sv)]))) st7 ?_
    have f8 := (Ss.ext ((((X00.ext E1).wr W2 (Nat.le_trans (Nat.le_refl _) (Nat.le_of_eq g1.symm))).wr W3 (Nat.le_trans (Nat.le_refl _) (Nat.le_of_eq g1.symm))).keep K5 all0).2)
    obtain ⟨T9, X9, e9, st9⟩ := getS2 X7 hx hZ hown (host := "") (Or.inl (Wd70 hw)) Via.refl e7 f8 (g := (mkF m 102 #[.val (.int p0), .val (.int p1), .val (.long lq), .second, .val (.int p3), .val (.int p4), .val (.ref b1), .val .null, .val (.int (p0 &&& (3 : Int32))), .val (.ref b5)] [(.ref sv)])) rfl (hb hby at_102)
    refine OD.go (B := (T9.setTop (mkF m 105 #[.val (.int p0), .val (.int p1), .val (.long lq), .second, .val (.int p3), .val (.int p4), .val (.ref b1), .val .null, .val (.int (p0 &&& (3 : Int32))), .val (.ref b5)] [(.ref sv), (.ref sv)]))) st9 ?_
    refine OD.go (B := (T9.setTop (mkF m 108 #[.val (.int p0), .val (.int p1), .val (.long lq), .second, .val (.int p3), .val (.int p4), .val (.ref b1), .val .null, .val (.int (p0 &&& (3 : Int32))), .val (.ref b5)] []))) (fun t k => RoadKit.acmp X9 hx rfl (x := (.ref sv)) (y := (.ref sv)) rfl rfl (pc0 := 105) (pc' := 108) (same := true) rfl (hb hby at_105) rfl (by simp) (by decide) (by decide) k) ?_
    refine OD.go (B := (T9.setTop (mkF m 110 #[.val (.int p0), .val (.int p1), .val (.long lq), .second, .val (.int p3), .val (.int p4), .val (.ref b1), .val .null, .val (.int (p0 &&& (3 : Int32))), .val (.ref b5)] [(.ref b5)]))) (fun t k => XS.aload X9.here hx rfl (hb hby at_108) rfl rfl k) ?_
    obtain ⟨cq10, kq10, qa10, qb10, qc10⟩ := isOf hZ e9 E5
    obtain ⟨_, _, ⟨T10, L10, k10, n10⟩, -, X10, ⟨Lc10, hQ10, l10, y10, z10⟩, st10⟩ := X9.virtualBack hx (y := (⟨"com/example/echo_panel/echopanel/channel/ChannelState", "precision", "()I"⟩ : MethodName)) (z := (⟨"com/example/echo_panel/echopanel/channel/ChannelState", "precision", "()I"⟩ : MethodName)) hown (mvT hZ (Wd71 hw)) (mvT hZ (Wd72 hw)) (notFace_of_selects (args := #[]) (mvT hZ (Wd74 hw))) (mvT hZ (Wd74 hw)) (mvT hZ (Wd73 hw)) (by decide) (backOf (W := 0) (rmX2_I l Z a0 hw [] b5 T5.heap (0 : Int32) G2_5) hZ (Wd75 hw) (Wd3 hw) (by decide) (by decide)) qa10 qc10 (g := (mkF m 110 #[.val (.int p0), .val (.int p1), .val (.long lq), .second, .val (.int p3), .val (.int p4), .val (.ref b1), .val .null, .val (.int (p0 &&& (3 : Int32))), .val (.ref b5)] [(.ref b5)])) rfl (by rw [hml]; rfl) (Steps.refl _) (argsL := []) (rest := []) (lenOf pd10 rfl) rfl (by show 2 * 0 + _ ≤ _; exact Nat.le_of_eq rfl) (hb hby at_110) (fun _ _ => ⟨rfl, e9, (Nat.le_of_ble_eq_true rfl), (Nat.le_of_ble_eq_true rfl)⟩)
    dsimp only [Pt.U, Pt.locs, Pt.cells, Pt.slots] at X10 l10 y10 z10 st10 hQ10
    subst l10 y10 z10
    obtain ⟨rfl, rfl, e10⟩ := hQ10
    have N10 := Fr.app N7 (Fr.nil _)
    refine OD.via (B := (T10.setTop (mkF m 113 #[.val (.int p0), .val (.int p1), .val (.long lq), .second, .val (.int p3), .val (.int p4), .val (.ref b1), .val .null, .val (.int (p0 &&& (3 : Int32))), .val (.ref b5)] [(.int (0 : Int32))]))) st10 ?_
    refine OD.go (B := (T10.setTop (mkF m 116 #[.val (.int p0), .val (.int p1), .val (.long lq), .second, .val (.int p3), .val (.int p4), .val (.ref b1), .val .null, .val (.int (p0 &&& (3 : Int32))), .val (.ref b5)] []))) (fun t k => XS.ifNo X10.here hx rfl (hb hby at_113) rfl (by rw [if0]; exact (teq (by decide : (0 : Int32) = (0 : Int32))).2) k) ?_
    refine OD.go (B := (T10.setTop (mkF m 118 #[.val (.int p0), .val (.int p1), .val (.long lq), .second, .val (.int p3), .val (.int p4), .val (.ref b1), .val .null, .val (.int (p0 &&& (3 : Int32))), .val (.ref b5)] [(.ref b5)]))) (fun t k => XS.aload X10.here hx rfl (hb hby at_116) rfl rfl k) ?_
    obtain ⟨cq11, kq11, qa11, qb11, qc11⟩ := isOf hZ e10 E5
    obtain ⟨_, _, ⟨T11, L11, k11, n11⟩, -, X11, ⟨Lc11, hQ11, l11, y11, z11⟩, st11⟩ := X10.virtualBack hx (y := (⟨"com/example/echo_panel/echopanel/channel/ChannelState", "labels", "()Ljava/util/List;"⟩ : MethodName)) (z := (⟨"com/example/echo_panel/echopanel/channel/ChannelState", "labels", "()Ljava/util/List;"⟩ : MethodName)) hown (mvT hZ (Wd76 hw)) (mvT hZ (Wd77 hw)) (notFace_of_selects (args := #[]) (mvT hZ (Wd79 hw))) (mvT hZ (Wd79 hw)) (mvT hZ (Wd78 hw)) (by decide) (backOf (W := 0) (rmX3_1 l Z a0 hw [] b5 T5.heap el G3_5) hZ (Wd80 hw) (Wd3 hw) (by decide) (by decide)) qa11 qc11 (g := (mkF m 118 #[.val (.int p0), .val (.int p1), .val (.long lq), .second, .val (.int p3), .val (.int p4), .val (.ref b1), .val .null, .val (.int (p0 &&& (3 : Int32))), .val (.ref b5)] [(.ref b5)])) rfl (by rw [hml]; rfl) (Steps.refl _) (argsL := []) (rest := []) (lenOf pd5 rfl) rfl (by show 2 * 0 + _ ≤ _; exact Nat.le_of_eq rfl) (hb hby at_118) (fun _ _ => ⟨rfl, e10, (Nat.le_of_ble_eq_true rfl), (Nat.le_of_ble_eq_true rfl)⟩)
    dsimp only [Pt.U, Pt.locs, Pt.cells, Pt.slots] at X11 l11 y11 z11 st11 hQ11
    subst l11 y11 z11
    obtain ⟨rfl, rfl, e11⟩ := hQ11
    have N11 := Fr.app N10 (Fr.nil _)
    refine OD.via (B := (T11.setTop (mkF m 121 #[.val (.int p0), .val (.int p1), .val (.long lq), .second, .val (.int p3), .val (.int p4), .val (.ref b1), .val .null, .val (.int (p0 &&& (3 : Int32))), .val (.ref b5)] [(.ref el)]))) st11 ?_
    have f12 := (Ee.ext ((((X00.ext E1).wr W2 (Nat.le_trans (Nat.le_refl _) (Nat.le_of_eq g1.symm))).wr W3 (Nat.le_trans (Nat.le_refl _) (Nat.le_of_eq g1.symm))).keep K5 all0).2)
    obtain ⟨cq13, kq13, qa13, qb13, qc13⟩ := isOf hZ e11 f12
    obtain ⟨_, _, ⟨T13, L13, k13, n13⟩, -, X13, ⟨Lc13, hQ13, l13, y13, z13⟩, st13⟩ := X11.interfaceBack hx (xi := (⟨"java/util/List", "size", "()I"⟩ : MethodName)) (y := (⟨"java/util/ImmutableCollections$ListN", "size", "()I"⟩ : MethodName)) hown (mvT hZ (Wd81 hw)) (mvT hZ (Wd82 hw)) (mvT hZ (Wd83 hw)) (mvT hZ (Wd84 hw)) (mvT hZ (Wd85 hw)) (mvT hZ (Wd86 hw)) (mvT hZ (Wd87 hw)) (mvT hZ (Wd47 hw)) (by decide) (backOf (W := 0) (rmSZ l Z a0 hw [] el T5.heap h0.size ((((X00.ext E1).wr W2 (Nat.le_trans (Nat.le_refl _) (Nat.le_of_eq g1.symm))).wr W3 (Nat.le_trans (Nat.le_refl _) (Nat.le_of_eq g1.symm))).keep K5 all0) ea kE Se Ee Fa Fel Ae) hZ (Wd89 hw) (Wd88 hw) (by decide) (by decide)) qa13 qb13 qc13 (g := (mkF m 121 #[.val (.int p0), .val (.int p1), .val (.long lq), .second, .val (.int p3), .val (.int p4), .val (.ref b1), .val .null, .val (.int (p0 &&& (3 : Int32))), .val (.ref b5)] [(.ref el)])) rfl (by rw [hml]; rfl) (Steps.refl _) (argsL := []) (rest := []) (lenOf pd10 rfl) rfl (by show 2 * 0 + _ ≤ _; exact Nat.le_of_eq rfl) (hb hby at_121) (fun _ _ => ⟨rfl, e11, (Nat.le_of_ble_eq_true rfl), (Nat.le_of_ble_eq_true rfl)⟩)
    dsimp only [Pt.U, Pt.locs, Pt.cells, Pt.slots] at X13 l13 y13 z13 st13 hQ13
    subst l13 y13 z13
    obtain ⟨rfl, rfl, e13⟩ := hQ13
    have N13 := Fr.app N11 (Fr.nil _)
    refine OD.via (B := (T13.setTop (mkF m 126 #[.val (.int p0), .val (.int p1), .val (.long lq), .second, .val (.int p3), .val (.int p4), .val (.ref b1), .val .null, .val (.int (p0 &&& (3 : Int32))), .val (.ref b5)] [(.int (0 : Int32))]))) st13 ?_
    refine OD.go (B := (T13.setTop (mkF m 129 #[.val (.int p0), .val (.int p1), .val (.long lq), .second, .val (.int p3), .val (.int p4), .val (.ref b1), .val .null, .val (.int (p0 &&& (3 : Int32))), .val (.ref b5)] []))) (fun t k => XS.ifNo X13.here hx rfl (hb hby at_126) rfl (by rw [if0]; exact (teq (by decide : (0 : Int32) = (0 : Int32))).2) k) ?_
    refine OD.go (B := (T13.setTop (mkF m 131 #[.val (.int p0), .val (.int p1), .val (.long lq), .second, .val (.int p3), .val (.int p4), .val (.ref b1), .val .null, .val (.int (p0 &&& (3 : Int32))), .val (.ref b5)] [(.ref b5)]))) (fun t k => XS.aload X13.here hx rfl (hb hby at_129) rfl rfl k) ?_
    obtain ⟨cq14, kq14, qa14, qb14, qc14⟩ := isOf hZ e13 E5
    obtain ⟨_, _, ⟨T14, L14, k14, n14⟩, -, X14, ⟨Lc14, hQ14, l14, y14, z14⟩, st14⟩ := X13.virtualBack hx (y := (⟨"com/example/echo_panel/echopanel/channel/ChannelState", "value", "()Ljava/lang/Object;"⟩ : MethodName)) (z := (⟨"com/example/echo_panel/echopanel/channel/ChannelState", "value", "()Ljava/lang/Object;"⟩ : MethodName)) hown (mvT hZ (Wd92 hw)) (mvT hZ (Wd93 hw)) (notFace_of_selects (args := #[]) (mvT hZ (Wd95 hw))) (mvT hZ (Wd95 hw)) (mvT hZ (Wd94 hw)) (by decide) (backOf (W := 0) (rmX4_0 l Z a0 hw [] b5 T5.heap  G4_5) hZ (Wd96 hw) (Wd3 hw) (by decide) (by decide)) qa14 qc14 (g := (mkF m 131 #[.val (.int p0), .val (.int p1), .val (.long lq), .second, .val (.int p3), .val (.int p4), .val (.ref b1), .val .null, .val (.int (p0 &&& (3 : Int32))), .val (.ref b5)] [(.ref b5)])) rfl (by rw [hml]; rfl) (Steps.refl _) (argsL := []) (rest := []) (lenOf pd11 rfl) rfl (by show 2 * 0 + _ ≤ _; exact Nat.le_of_eq rfl) (hb hby at_131) (fun _ _ => ⟨rfl, e13, (Nat.le_of_ble_eq_true rfl), (Nat.le_of_ble_eq_true rfl)⟩)
    dsimp only [Pt.U, Pt.locs, Pt.cells, Pt.slots] at X14 l14 y14 z14 st14 hQ14
    subst l14 y14 z14
    obtain ⟨rfl, rfl, e14⟩ := hQ14
    have N14 := Fr.app N13 (Fr.nil _)
    refine OD.via (B := (T14.setTop (mkF m 134 #[.val (.int p0), .val (.int p1), .val (.long lq), .second, .val (.int p3), .val (.int p4), .val (.ref b1), .val .null, .val (.int (p0 &&& (3 : Int32))), .val (.ref b5)] [.null]))) st14 ?_
    refine OD.go (B := (T14.setTop (mkF m 136 #[.val (.int p0), .val (.int p1), .val (.long lq), .second, .val (.int p3), .val (.int p4), .val (.ref b1), .val .null, .val (.int (p0 &&& (3 : Int32))), .val (.ref b5)] [.null, .null]))) (fun t k => XS.aload X14.here hx rfl (hb hby at_134) rfl rfl k) ?_
    refine OD.go (B := (T14.setTop (mkF m 139 #[.val (.int p0), .val (.int p1), .val (.long lq), .second, .val (.int p3), .val (.int p4), .val (.ref b1), .val .null, .val (.int (p0 &&& (3 : Int32))), .val (.ref b5)] []))) (fun t k => RoadKit.acmp X14 hx rfl (x := .null) (y := .null) rfl rfl (pc0 := 136) (pc' := 139) (same := true) rfl (hb hby at_136) rfl (by simp) (by decide) (by decide) k) ?_
    refine OD.go (B := (T14.setTop (mkF m 141 #[.val (.int p0), .val (.int p1), .val (.long lq), .second, .val (.int p3), .val (.int p4), .val (.ref b1), .val .null, .val (.int (p0 &&& (3 : Int32))), .val (.ref b5)] [(.ref b5)]))) (fun t k => XS.aload X14.here hx rfl (hb hby at_139) rfl rfl k) ?_
    obtain ⟨cq15, kq15, qa15, qb15, qc15⟩ := isOf hZ e14 E5
    obtain ⟨_, _, ⟨T15, L15, k15, n15⟩, -, X15, ⟨Lc15, hQ15, l15, y15, z15⟩, st15⟩ := X14.virtualBack hx (y := (⟨"com/example/echo_panel/echopanel/channel/ChannelState", "limits", "()Lcom/example/echo_panel/echopanel/channel/DisplayLimits;"⟩ : MethodName)) (z := (⟨"com/example/echo_panel/echopanel/channel/ChannelState", "limits", "()Lcom/example/echo_panel/echopanel/channel/DisplayLimits;"⟩ : MethodName)) hown (mvT hZ (Wd97 hw)) (mvT hZ (Wd98 hw)) (notFace_of_selects (args := #[]) (mvT hZ (Wd100 hw))) (mvT hZ (Wd100 hw)) (mvT hZ (Wd99 hw)) (by decide) (backOf (W := 0) (rmX5_0 l Z a0 hw [] b5 T5.heap  G5_5) hZ (Wd101 hw) (Wd3 hw) (by decide) (by decide)) qa15 qc15 (g := (mkF m 141 #[.val (.int p0), .val (.int p1), .val (.long lq), .second, .val (.int p3), .val (.int p4), .val (.ref b1), .val .null, .val (.int (p0 &&& (3 : Int32))), .val (.ref b5)] [(.ref b5)])) rfl (by rw [hml]; rfl) (Steps.refl _) (argsL := []) (rest := []) (lenOf pd12 rfl) rfl (by show 2 * 0 + _ ≤ _; exact Nat.le_of_eq rfl) (hb hby at_141) (fun _ _ => ⟨rfl, e14, (Nat.le_of_ble_eq_true rfl), (Nat.le_of_ble_eq_true rfl)⟩)
    dsimp only [Pt.U, Pt.locs, Pt.cells, Pt.slots] at X15 l15 y15 z15 st15 hQ15
    subst l15 y15 z15
    obtain ⟨rfl, rfl, e15⟩ := hQ15
    have N15 := Fr.app N14 (Fr.nil _)
    refine OD.via (B := (T15.setTop (mkF m 144 #[.val (.int p0), .val (.int p1), .val (.long lq), .second, .val (.int p3), .val (.int p4), .val (.ref b1), .val .null, .val (.int (p0 &&& (3 : Int32))), .val (.ref b5)] [.null]))) st15 ?_
    refine OD.go (B := (T15.setTop (mkF m 147 #[.val (.int p0), .val (.int p1), .val (.long lq), .second, .val (.int p3), .val (.int p4), .val (.ref b1), .val .null, .val (.int (p0 &&& (3 : Int32))), .val (.ref b5)] []))) (fun t k => XS.ifnonnullNo X15.here hx rfl (hb hby at_144) rfl k) ?_
    refine OD.go (B := (T15.setTop (mkF m 148 #[.val (.int p0), .val (.int p1), .val (.long lq), .second, .val (.int p3), .val (.int p4), .val (.ref b1), .val .null, .val (.int (p0 &&& (3 : Int32))), .val (.ref b5)] [(.int (1 : Int32))]))) (fun t k => XS.iconst X15.here hx rfl (hb hby at_147) k) ?_
    refine OD.go (B := (T15.setTop (mkF m 152 #[.val (.int p0), .val (.int p1), .val (.long lq), .second, .val (.int p3), .val (.int p4), .val (.ref b1), .val .null, .val (.int (p0 &&& (3 : Int32))), .val (.ref b5)] [(.int (1 : Int32))]))) (fun t k => XS.goto X15.here hx rfl (pc0 := 148) (pc' := 152) rfl (hb hby at_148) (by decide) (by decide) k) ?_
    exact OD.ret X15 hx hlk (t := .boolean) Bd.returns rfl (Or.inl ⟨rfl, Or.inr (Or.inl rfl), _, rfl⟩) (hb hby at_152) (Nat.le_of_ble_eq_true rfl) (Nat.le_of_ble_eq_true rfl) ⟨rfl, N15⟩
  · refine OD.go (B := (T3.setTop (mkF m 41 #[.val (.int p0), .val (.int p1), .val (.long lq), .second, .val (.int p3), .val (.int p4), .val (.ref b1), .unset, .val (.int (p0 &&& (3 : Int32))), .unset] []))) (fun t k => XS.ifYes X3.here hx rfl (pc0 := 32) (pc' := 41) rfl (hb hby at_32) rfl (by rw [if0]; exact (feq c32_4).2) (by decide) (by decide) k) ?_
    refine OD.go (B := (T3.setTop (mkF m 43 #[.val (.int p0), .val (.int p1), .val (.long lq), .second, .val (.int p3), .val (.int p4), .val (.ref b1), .unset, .val (.int (p0 &&& (3 : Int32))), .unset] [(.int (p0 &&& (3 : Int32)))]))) (fun t k => XS.iload X3.here hx rfl (hb hby at_41) rfl k) ?_
    refine OD.go (B := (T3.setTop (mkF m 44 #[.val (.int p0), .val (.int p1), .val (.long lq), .second, .val (.int p3), .val (.int p4), .val (.ref b1), .unset, .val (.int (p0 &&& (3 : Int32))), .unset] [(.int (1 : Int32)), (.int (p0 &&& (3 : Int32)))]))) (fun t k => XS.iconst X3.here hx rfl (hb hby at_43) k) ?_
    by_cases c44_16 : (p0 &&& (3 : Int32)) = (1 : Int32)
    · refine OD.go (B := (T3.setTop (mkF m 47 #[.val (.int p0), .val (.int p1), .val (.long lq), .second, .val (.int p3), .val (.int p4), .val (.ref b1), .unset, .val (.int (p0 &&& (3 : Int32))), .unset] []))) (fun t k => XS.icmpNo X3.here hx rfl (hb hby at_44) rfl (teq c44_16).2 k) ?_
      refine OD.go (B := (T3.setTop (mkF m 48 #[.val (.int p0), .val (.int p1), .val (.long lq), .second, .val (.int p3), .val (.int p4), .val (.ref b1), .unset, .val (.int (p0 &&& (3 : Int32))), .unset] [(.int p1)]))) (fun t k => XS.iloadN X3.here hx rfl (hb hby at_47) rfl k) ?_
      obtain ⟨_, _, ⟨T17, L17, k17, n17⟩, -, X17, ⟨Lc17, hQ17, l17, y17, z17⟩, st17⟩ := Jvm.LawKit.callS X3 hx (y := (⟨"java/lang/Integer", "valueOf", "(I)Ljava/lang/Integer;"⟩ : MethodName)) hown (mvT hZ (Wd102 hw)) (mvT hZ (Wd103 hw)) (mvT hZ (Wd104 hw)) (mvT hZ (Wd105 hw)) (by decide) (backOf (W := 0) (rmIV l Z a0 hw [] p1 h3 h0.size (Nat.le_trans (Nat.le_trans (Nat.le_trans (Nat.le_refl _) E1.1) (Keep.of_wr W2).1) (Keep.of_wr W3).1) (((X00.ext E1).wr W2 (Nat.le_trans (Nat.le_refl _) (Nat.le_of_eq g1.symm))).wr W3 (Nat.le_trans (Nat.le_refl _) (Nat.le_of_eq g1.symm))) ca Sh Sc Cc) hZ (Wd105 hw) (Wd104 hw) (by decide) (by decide)) (g := (mkF m 48 #[.val (.int p0), .val (.int p1), .val (.long lq), .second, .val (.int p3), .val (.int p4), .val (.ref b1), .unset, .val (.int (p0 &&& (3 : Int32))), .unset] [(.int p1)])) rfl (by rw [hml]; rfl) (argsL := [(.int p1)]) (rest := []) (lenOf pd13 rfl) rfl (by show 2 * 0 + _ ≤ _; exact Nat.le_of_eq rfl) (hb hby at_48) (fun _ _ => ⟨rfl, e3, (Nat.le_of_ble_eq_true rfl), (Nat.le_of_ble_eq_true rfl)⟩)
      dsimp only [Pt.U, Pt.locs, Pt.cells, Pt.slots] at X17 l17 y17 z17 st17 hQ17
      subst l17 y17 z17
      obtain ⟨w17, rfl, r17, Nq17, K17⟩ := hQ17
      have N17 := Fr.app N3 Nq17
      rcases ref_cases r17 with rfl | ⟨b17, rfl⟩
      · refine OD.go (B := (T17.setTop (mkF m 51 #[.val (.int p0), .val (.int p1), .val (.long lq), .second, .val (.int p3), .val (.int p4), .val (.ref b1), .unset, .val (.int (p0 &&& (3 : Int32))), .unset] [.null]))) st17 ?_
        refine OD.go (B := (T17.setTop (mkF m 53 #[.val (.int p0), .val (.int p1), .val (.long lq), .second, .val (.int p3), .val (.int p4), .val (.ref b1), .val .null, .val (.int (p0 &&& (3 : Int32))), .unset] []))) (fun t k => XS.astore X17.here hx rfl (hb hby at_51) rfl rfl (l' := #[.val (.int p0), .val (.int p1), .val (.long lq), .second, .val (.int p3), .val (.int p4), .val (.ref b1), .val .null, .val (.int (p0 &&& (3 : Int32))), .unset]) rfl k) ?_
        refine OD.go (B := (T17.setTop (mkF m 82 #[.val (.int p0), .val (.int p1), .val (.long lq), .second, .val (.int p3), .val (.int p4), .val (.ref b1), .val .null, .val (.int (p0 &&& (3 : Int32))), .unset] []))) (fun t k => XS.goto X17.here hx rfl (pc0 := 53) (pc' := 82) rfl (hb hby at_53) (by decide) (by decide) k) ?_
        refine OD.go (B := (T17.setTop (mkF m 84 #[.val (.int p0), .val (.int p1), .val (.long lq), .second, .val (.int p3), .val (.int p4), .val (.ref b1), .val .null, .val (.int (p0 &&& (3 : Int32))), .unset] [.null]))) (fun t k => XS.aload X17.here hx rfl (hb hby at_82) rfl rfl k) ?_
        obtain ⟨_, _, ⟨T18, L18, k18, n18⟩, -, X18, ⟨Lc18, hQ18, l18, y18, z18⟩, st18⟩ := Jvm.LawKit.callS X17 hx (y := (⟨"com/example/echo_panel/echopanel/channel/ChannelState", "of", "(Ljava/lang/Object;)Lcom/example/echo_panel/echopanel/channel/ChannelState;"⟩ : MethodName)) hown (mvT hZ (Wd1 hw)) (mvT hZ (Wd2 hw)) (mvT hZ (Wd3 hw)) (mvT hZ (Wd4 hw)) (by decide) (backOf (W := 0) (rmOf_10 l Z a0 hw []  T17.heap h0.size ((((X00.ext E1).wr W2 (Nat.le_trans (Nat.le_refl _) (Nat.le_of_eq g1.symm))).wr W3 (Nat.le_trans (Nat.le_refl _) (Nat.le_of_eq g1.symm))).keep K17 all0) el ea kE Se Ee Fa Fel Ae (Nat.le_trans (Nat.le_trans (Nat.le_trans (Nat.le_trans (Nat.le_refl _) E1.1) (Keep.of_wr W2).1) (Keep.of_wr W3).1) K17.1) sv Ss) hZ (Wd4 hw) (Wd3 hw) (by decide) (by decide)) (g := (mkF m 84 #[.val (.int p0), .val (.int p1), .val (.long lq), .second, .val (.int p3), .val (.int p4), .val (.ref b1), .val .null, .val (.int (p0 &&& (3 : Int32))), .unset] [.null])) rfl (by rw [hml]; rfl) (argsL := [.null]) (rest := []) (lenOf pd7 rfl) rfl (by show 2 * 0 + _ ≤ _; exact Nat.le_of_eq rfl) (hb hby at_84) (fun _ _ => ⟨rfl, rfl, (Nat.le_of_ble_eq_true rfl), (Nat.le_of_ble_eq_true rfl)⟩)
        dsimp only [Pt.U, Pt.locs, Pt.cells, Pt.slots] at X18 l18 y18 z18 st18 hQ18
        subst l18 y18 z18
        obtain ⟨b18, rfl, Nq18, K18, ob18, E18, G0_18, G1_18, G2_18, G3_18, G4_18, G5_18⟩ := hQ18
        have N18 := Fr.app N17 Nq18
        refine OD.go (B := (T18.setTop (mkF m 87 #[.val (.int p0), .val (.int p1), .val (.long lq), .second, .val (.int p3), .val (.int p4), .val (.ref b1), .val .null, .val (.int (p0 &&& (3 : Int32))), .unset] [(.ref b18)]))) st18 ?_
        refine OD.go (B := (T18.setTop (mkF m 89 #[.val (.int p0), .val (.int p1), .val (.long lq), .second, .val (.int p3), .val (.int p4), .val (.ref b1), .val .null, .val (.int (p0 &&& (3 : Int32))), .val (.ref b18)] []))) (fun t k => XS.astore X18.here hx rfl (hb hby at_87) rfl rfl (l' := #[.val (.int p0), .val (.int p1), .val (.long lq), .second, .val (.int p3), .val (.int p4), .val (.ref b1), .val .null, .val (.int (p0 &&& (3 : Int32))), .val (.ref b18)]) rfl k) ?_
        refine OD.go (B := (T18.setTop (mkF m 91 #[.val (.int p0), .val (.int p1), .val (.long lq), .second, .val (.int p3), .val (.int p4), .val (.ref b1), .val .null, .val (.int (p0 &&& (3 : Int32))), .val (.ref b18)] [(.ref b18)]))) (fun t k => XS.aload X18.here hx rfl (hb hby at_89) rfl rfl k) ?_
        obtain ⟨cq19, kq19, qa19, qb19, qc19⟩ := isOf hZ rfl E18
        obtain ⟨_, _, ⟨T19, L19, k19, n19⟩, -, X19, ⟨Lc19, hQ19, l19, y19, z19⟩, st19⟩ := X18.virtualBack hx (y := (⟨"com/example/echo_panel/echopanel/channel/ChannelState", "connected", "()Z"⟩ : MethodName)) (z := (⟨"com/example/echo_panel/echopanel/channel/ChannelState", "connected", "()Z"⟩ : MethodName)) hown (mvT hZ (Wd60 hw)) (mvT hZ (Wd61 hw)) (notFace_of_selects (args := #[]) (mvT hZ (Wd63 hw))) (mvT hZ (Wd63 hw)) (mvT hZ (Wd62 hw)) (by decide) (backOf (W := 0) (rmX0_I l Z a0 hw [] b18 T18.heap (1 : Int32) G0_18 rfl) hZ (Wd64 hw) (Wd3 hw) (by decide) (by decide)) qa19 qc19 (g := (mkF m 91 #[.val (.int p0), .val (.int p1), .val (.long lq), .second, .val (.int p3), .val (.int p4), .val (.ref b1), .val .null, .val (.int (p0 &&& (3 : Int32))), .val (.ref b18)] [(.ref b18)])) rfl (by rw [hml]; rfl) (Steps.refl _) (argsL := []) (rest := []) (lenOf pd8 rfl) rfl (by show 2 * 0 + _ ≤ _; exact Nat.le_of_eq rfl) (hb hby at_91) (fun _ _ => ⟨rfl, rfl, (Nat.le_of_ble_eq_true rfl), (Nat.le_of_ble_eq_true rfl)⟩)
        dsimp only [Pt.U, Pt.locs, Pt.cells, Pt.slots] at X19 l19 y19 z19 st19 hQ19
        subst l19 y19 z19
        obtain ⟨rfl, rfl, e19⟩ := hQ19
        have N19 := Fr.app N18 (Fr.nil _)
        refine OD.via (B := (T19.setTop (mkF m 94 #[.val (.int p0), .val (.int p1), .val (.long lq), .second, .val (.int p3), .val (.int p4), .val (.ref b1), .val .null, .val (.int (p0 &&& (3 : Int32))), .val (.ref b18)] [(.int (1 : Int32))]))) st19 ?_
        refine OD.go (B := (T19.setTop (mkF m 97 #[.val (.int p0), .val (.int p1), .val (.long lq), .second, .val (.int p3), .val (.int p4), .val (.ref b1), .val .null, .val (.int (p0 &&& (3 : Int32))), .val (.ref b18)] []))) (fun t k => XS.ifNo X19.here hx rfl (hb hby at_94) rfl (by rw [if0]; exact (feq (by decide : ¬ (1 : Int32) = (0 : Int32))).1) k) ?_
        refine OD.go (B := (T19.setTop (mkF m 99 #[.val (.int p0), .val (.int p1), .val (.long lq), .second, .val (.int p3), .val (.int p4), .val (.ref b1), .val .null, .val (.int (p0 &&& (3 : Int32))), .val (.ref b18)] [(.ref b18)]))) (fun t k => XS.aload X19.here hx rfl (hb hby at_97) rfl rfl k) ?_
        obtain ⟨cq20, kq20, qa20, qb20, qc20⟩ := isOf hZ e19 E18
        obtain ⟨_, _, ⟨T20, L20, k20, n20⟩, -, X20, ⟨Lc20, hQ20, l20, y20, z20⟩, st20⟩ := X19.virtualBack hx (y := (⟨"com/example/echo_panel/echopanel/channel/ChannelState", "severity", "()Lcom/example/echo_panel/echopanel/channel/Severity;"⟩ : MethodName)) (z := (⟨"com/example/echo_panel/echopanel/channel/ChannelState", "severity", "()Lcom/example/echo_panel/echopanel/channel/Severity;"⟩ : MethodName)) hown (mvT hZ (Wd65 hw)) (mvT hZ (Wd66 hw)) (notFace_of_selects (args := #[]) (mvT hZ (Wd68 hw))) (mvT hZ (Wd68 hw)) (mvT hZ (Wd67 hw)) (by decide) (backOf (W := 0) (rmX1_1 l Z a0 hw [] b18 T18.heap sv G1_18) hZ (Wd69 hw) (Wd3 hw) (by decide) (by decide)) qa20 qc20 (g := (mkF m 99 #[.val (.int p0), .val (.int p1), .val (.long lq), .second, .val (.int p3), .val (.int p4), .val (.ref b1), .val .null, .val (.int (p0 &&& (3 : Int32))), .val (.ref b18)] [(.ref b18)])) rfl (by rw [hml]; rfl) (Steps.refl _) (argsL := []) (rest := []) (lenOf pd9 rfl) rfl (by show 2 * 0 + _ ≤ _; exact Nat.le_of_eq rfl) (hb hby at_99) (fun _ _ => ⟨rfl, e19, (Nat.le_of_ble_eq_true rfl), (Nat.le_of_ble_eq_true rfl)⟩)
        dsimp only [Pt.U, Pt.locs, Pt.cells, Pt.slots] at X20 l20 y20 z20 st20 hQ20
        subst l20 y20 z20
        obtain ⟨rfl, rfl, e20⟩ := hQ20
        have N20 := Fr.app N19 (Fr.nil _)
        refine OD.via (B := (T20.setTop (mkF m 102 #[.val (.int p0), .val (.int p1), .val (.long lq), .second, .val (.int p3), .val (.int p4), .val (.ref b1), .val .null, .val (.int (p0 &&& (3 : Int32))), .val (.ref b18)] [(.ref sv)]))) st20 ?_
        have f21 := (Ss.ext (((((X00.ext E1).wr W2 (Nat.le_trans (Nat.le_refl _) (Nat.le_of_eq g1.symm))).wr W3 (Nat.le_trans (Nat.le_refl _) (Nat.le_of_eq g1.symm))).keep K17 all0).keep K18 all0).2)
        obtain ⟨T22, X22, e22, st22⟩ := getS2 X20 hx hZ hown (host := "") (Or.inl (Wd70 hw)) Via.refl e20 f21 (g := (mkF m 102 #[.val (.int p0), .val (.int p1), .val (.long lq), .second, .val (.int p3), .val (.int p4), .val (.ref b1), .val .null, .val (.int (p0 &&& (3 : Int32))), .val (.ref b18)] [(.ref sv)])) rfl (hb hby at_102)
        refine OD.go (B := (T22.setTop (mkF m 105 #[.val (.int p0), .val (.int p1), .val (.long lq), .second, .val (.int p3), .val (.int p4), .val (.ref b1), .val .null, .val (.int (p0 &&& (3 : Int32))), .val (.ref b18)] [(.ref sv), (.ref sv)]))) st22 ?_
        refine OD.go (B := (T22.setTop (mkF m 108 #[.val (.int p0), .val (.int p1), .val (.long lq), .second, .val (.int p3), .val (.int p4), .val (.ref b1), .val .null, .val (.int (p0 &&& (3 : Int32))), .val (.ref b18)] []))) (fun t k => RoadKit.acmp X22 hx rfl (x := (.ref sv)) (y := (.ref sv)) rfl rfl (pc0 := 105) (pc' := 108) (same := true) rfl (hb hby at_105) rfl (by simp) (by decide) (by decide) k) ?_
        refine OD.go (B := (T22.setTop (mkF m 110 #[.val (.int p0), .val (.int p1), .val (.long lq), .second, .val (.int p3), .val (.int p4), .val (.ref b1), .val .null, .val (.int (p0 &&& (3 : Int32))), .val (.ref b18)] [(.ref b18)]))) (fun t k => XS.aload X22.here hx rfl (hb hby at_108) rfl rfl k) ?_
        obtain ⟨cq23, kq23, qa23, qb23, qc23⟩ := isOf hZ e22 E18
        obtain ⟨_, _, ⟨T23, L23, k23, n23⟩, -, X23, ⟨Lc23, hQ23, l23, y23, z23⟩, st23⟩ := X22.virtualBack hx (y := (⟨"com/example/echo_panel/echopanel/channel/ChannelState", "precision", "()I"⟩ : MethodName)) (z := (⟨"com/example/echo_panel/echopanel/channel/ChannelState", "precision", "()I"⟩ : MethodName)) hown (mvT hZ (Wd71 hw)) (mvT hZ (Wd72 hw)) (notFace_of_selects (args := #[]) (mvT hZ (Wd74 hw))) (mvT hZ (Wd74 hw)) (mvT hZ (Wd73 hw)) (by decide) (backOf (W := 0) (rmX2_I l Z a0 hw [] b18 T18.heap (0 : Int32) G2_18) hZ (Wd75 hw) (Wd3 hw) (by decide) (by decide)) qa23 qc23 (g := (mkF m 110 #[.val (.int p0), .val (.int p1), .val (.long lq), .second, .val (.int p3), .val (.int p4), .val (.ref b1), .val .null, .val (.int (p0 &&& (3 : Int32))), .val (.ref b18)] [(.ref b18)])) rfl (by rw [hml]; rfl) (Steps.refl _) (argsL := []) (rest := []) (lenOf pd10 rfl) rfl (by show 2 * 0 + _ ≤ _; exact Nat.le_of_eq rfl) (hb hby at_110) (fun _ _ => ⟨rfl, e22, (Nat.le_of_ble_eq_true rfl), (Nat.le_of_ble_eq_true rfl)⟩)
        dsimp only [Pt.U, Pt.locs, Pt.cells, Pt.slots] at X23 l23 y23 z23 st23 hQ23
        subst l23 y23 z23
        obtain ⟨rfl, rfl, e23⟩ := hQ23
        have N23 := Fr.app N20 (Fr.nil _)
        refine OD.via (B := (T23.setTop (mkF m 113 #[.val (.int p0), .val (.int p1), .val (.long lq), .second, .val (.int p3), .val (.int p4), .val (.ref b1), .val .null, .val (.int (p0 &&& (3 : Int32))), .val (.ref b18)] [(.int (0 : Int32))]))) st23 ?_
        refine OD.go (B := (T23.setTop (mkF m 116 #[.val (.int p0), .val (.int p1), .val (.long lq), .second, .val (.int p3), .val (.int p4), .val (.ref b1), .val .null, .val (.int (p0 &&& (3 : Int32))), .val (.ref b18)] []))) (fun t k => XS.ifNo X23.here hx rfl (hb hby at_113) rfl (by rw [if0]; exact (teq (by decide : (0 : Int32) = (0 : Int32))).2) k) ?_
        refine OD.go (B := (T23.setTop (mkF m 118 #[.val (.int p0), .val (.int p1), .val (.long lq), .second, .val (.int p3), .val (.int p4), .val (.ref b1), .val .null, .val (.int (p0 &&& (3 : Int32))), .val (.ref b18)] [(.ref b18)]))) (fun t k => XS.aload X23.here hx rfl (hb hby at_116) rfl rfl k) ?_
        obtain ⟨cq24, kq24, qa24, qb24, qc24⟩ := isOf hZ e23 E18
        obtain ⟨_, _, ⟨T24, L24, k24, n24⟩, -, X24, ⟨Lc24, hQ24, l24, y24, z24⟩, st24⟩ := X23.virtualBack hx (y := (⟨"com/example/echo_panel/echopanel/channel/ChannelState", "labels", "()Ljava/util/List;"⟩ : MethodName)) (z := (⟨"com/example/echo_panel/echopanel/channel/ChannelState", "labels", "()Ljava/util/List;"⟩ : MethodName)) hown (mvT hZ (Wd76 hw)) (mvT hZ (Wd77 hw)) (notFace_of_selects (args := #[]) (mvT hZ (Wd79 hw))) (mvT hZ (Wd79 hw)) (mvT hZ (Wd78 hw)) (by decide) (backOf (W := 0) (rmX3_1 l Z a0 hw [] b18 T18.heap el G3_18) hZ (Wd80 hw) (Wd3 hw) (by decide) (by decide)) qa24 qc24 (g := (mkF m 118 #[.val (.int p0), .val (.int p1), .val (.long lq), .second, .val (.int p3), .val (.int p4), .val (.ref b1), .val .null, .val (.int (p0 &&& (3 : Int32))), .val (.ref b18)] [(.ref b18)])) rfl (by rw [hml]; rfl) (Steps.refl _) (argsL := []) (rest := []) (lenOf pd5 rfl) rfl (by show 2 * 0 + _ ≤ _; exact Nat.le_of_eq rfl) (hb hby at_118) (fun _ _ => ⟨rfl, e23, (Nat.le_of_ble_eq_true rfl), (Nat.le_of_ble_eq_true rfl)⟩)
        dsimp only [Pt.U, Pt.locs, Pt.cells, Pt.slots] at X24 l24 y24 z24 st24 hQ24
        subst l24 y24 z24
        obtain ⟨rfl, rfl, e24⟩ := hQ24
        have N24 := Fr.app N23 (Fr.nil _)
        refine OD.via (B := (T24.setTop (mkF m 121 #[.val (.int p0), .val (.int p1), .val (.long lq), .second, .val (.int p3), .val (.int p4), .val (.ref b1), .val .null, .val (.int (p0 &&& (3 : Int32))), .val (.ref b18)] [(.ref el)]))) st24 ?_
        have f25 := (Ee.ext (((((X00.ext E1).wr W2 (Nat.le_trans (Nat.le_refl _) (Nat.le_of_eq g1.symm))).wr W3 (Nat.le_trans (Nat.le_refl _) (Nat.le_of_eq g1.symm))).keep K17 all0).keep K18 all0).2)
        obtain ⟨cq26, kq26, qa26, qb26, qc26⟩ := isOf hZ e24 f25
        obtain ⟨_, _, ⟨T26, L26, k26, n26⟩, -, X26, ⟨Lc26, hQ26, l26, y26, z26⟩, st26⟩ := X24.interfaceBack hx (xi := (⟨"java/util/List", "size", "()I"⟩ : MethodName)) (y := (⟨"java/util/ImmutableCollections$ListN", "size", "()I"⟩ : MethodName)) hown (mvT hZ (Wd81 hw)) (mvT hZ (Wd82 hw)) (mvT hZ (Wd83 hw)) (mvT hZ (Wd84 hw)) (mvT hZ (Wd85 hw)) (mvT hZ (Wd86 hw)) (mvT hZ (Wd87 hw)) (mvT hZ (Wd47 hw)) (by decide) (backOf (W := 0) (rmSZ l Z a0 hw [] el T18.heap h0.size (((((X00.ext E1).wr W2 (Nat.le_trans (Nat.le_refl _) (Nat.le_of_eq g1.symm))).wr W3 (Nat.le_trans (Nat.le_refl _) (Nat.le_of_eq g1.symm))).keep K17 all0).keep K18 all0) ea kE Se Ee Fa Fel Ae) hZ (Wd89 hw) (Wd88 hw) (by decide) (by decide)) qa26 qb26 qc26 (g := (mkF m 121 #[.val (.int p0), .val (.int p1), .val (.long lq), .second, .val (.int p3), .val (.int p4), .val (.ref b1), .val .null, .val (.int (p0 &&& (3 : Int32))), .val (.ref b18)] [(.ref el)])) rfl (by rw [hml]; rfl) (Steps.refl _) (argsL := []) (rest := []) (lenOf pd10 rfl) rfl (by show 2 * 0 + _ ≤ _; exact Nat.le_of_eq rfl) (hb hby at_121) (fun _ _ => ⟨rfl, e24, (Nat.le_of_ble_eq_true rfl), (Nat.le_of_ble_eq_true rfl)⟩)
        dsimp only [Pt.U, Pt.locs, Pt.cells, Pt.slots] at X26 l26 y26 z26 st26 hQ26
        subst l26 y26 z26
        obtain ⟨rfl, rfl, e26⟩ := hQ26
        have N26 := Fr.app N24 (Fr.nil _)
        refine OD.via (B := (T26.setTop (mkF m 126 #[.val (.int p0), .val (.int p1), .val (.long lq), .second, .val (.int p3), .val (.int p4), .val (.ref b1), .val .null, .val (.int (p0 &&& (3 : Int32))), .val (.ref b18)] [(.int (0 : Int32))]))) st26 ?_
        refine OD.go (B := (T26.setTop (mkF m 129 #[.val (.int p0), .val (.int p1), .val (.long lq), .second, .val (.int p3), .val (.int p4), .val (.ref b1), .val .null, .val (.int (p0 &&& (3 : Int32))), .val (.ref b18)] []))) (fun t k => XS.ifNo X26.here hx rfl (hb hby at_126) rfl (by rw [if0]; exact (teq (by decide : (0 : Int32) = (0 : Int32))).2) k) ?_
        refine OD.go (B := (T26.setTop (mkF m 131 #[.val (.int p0), .val (.int p1), .val (.long lq), .second, .val (.int p3), .val (.int p4), .val (.ref b1), .val .null, .val (.int (p0 &&& (3 : Int32))), .val (.ref b18)] [(.ref b18)]))) (fun t k => XS.aload X26.here hx rfl (hb hby at_129) rfl rfl k) ?_
        obtain ⟨cq27, kq27, qa27, qb27, qc27⟩ := isOf hZ e26 E18
        obtain ⟨_, _, ⟨T27, L27, k27, n27⟩, -, X27, ⟨Lc27, hQ27, l27, y27, z27⟩, st27⟩ := X26.virtualBack hx (y := (⟨"com/example/echo_panel/echopanel/channel/ChannelState", "value", "()Ljava/lang/Object;"⟩ : MethodName)) (z := (⟨"com/example/echo_panel/echopanel/channel/ChannelState", "value", "()Ljava/lang/Object;"⟩ : MethodName)) hown (mvT hZ (Wd92 hw)) (mvT hZ (Wd93 hw)) (notFace_of_selects (args := #[]) (mvT hZ (Wd95 hw))) (mvT hZ (Wd95 hw)) (mvT hZ (Wd94 hw)) (by decide) (backOf (W := 0) (rmX4_0 l Z a0 hw [] b18 T18.heap  G4_18) hZ (Wd96 hw) (Wd3 hw) (by decide) (by decide)) qa27 qc27 (g := (mkF m 131 #[.val (.int p0), .val (.int p1), .val (.long lq), .second, .val (.int p3), .val (.int p4), .val (.ref b1), .val .null, .val (.int (p0 &&& (3 : Int32))), .val (.ref b18)] [(.ref b18)])) rfl (by rw [hml]; rfl) (Steps.refl _) (argsL := []) (rest := []) (lenOf pd11 rfl) rfl (by show 2 * 0 + _ ≤ _; exact Nat.le_of_eq rfl) (hb hby at_131) (fun _ _ => ⟨rfl, e26, (Nat.le_of_ble_eq_true rfl), (Nat.le_of_ble_eq_true rfl)⟩)
        dsimp only [Pt.U, Pt.locs, Pt.cells, Pt.slots] at X27 l27 y27 z27 st27 hQ27
        subst l27 y27 z27
        obtain ⟨rfl, rfl, e27⟩ := hQ27
        have N27 := Fr.app N26 (Fr.nil _)
        refine OD.via (B := (T27.setTop (mkF m 134 #[.val (.int p0), .val (.int p1), .val (.long lq), .second, .val (.int p3), .val (.int p4), .val (.ref b1), .val .null, .val (.int (p0 &&& (3 : Int32))), .val (.ref b18)] [.null]))) st27 ?_
        refine OD.go (B := (T27.setTop (mkF m 136 #[.val (.int p0), .val (.int p1), .val (.long lq), .second, .val (.int p3), .val (.int p4), .val (.ref b1), .val .null, .val (.int (p0 &&& (3 : Int32))), .val (.ref b18)] [.null, .null]))) (fun t k => XS.aload X27.here hx rfl (hb hby at_134) rfl rfl k) ?_
        refine OD.go (B := (T27.setTop (mkF m 139 #[.val (.int p0), .val (.int p1), .val (.long lq), .second, .val (.int p3), .val (.int p4), .val (.ref b1), .val .null, .val (.int (p0 &&& (3 : Int32))), .val (.ref b18)] []))) (fun t k => RoadKit.acmp X27 hx rfl (x := .null) (y := .null) rfl rfl (pc0 := 136) (pc' := 139) (same := true) rfl (hb hby at_136) rfl (by simp) (by decide) (by decide) k) ?_
        refine OD.go (B := (T27.setTop (mkF m 141 #[.val (.int p0), .val (.int p1), .val (.long lq), .second, .val (.int p3), .val (.int p4), .val (.ref b1), .val .null, .val (.int (p0 &&& (3 : Int32))), .val (.ref b18)] [(.ref b18)]))) (fun t k => XS.aload X27.here hx rfl (hb hby at_139) rfl rfl k) ?_
        obtain ⟨cq28, kq28, qa28, qb28, qc28⟩ := isOf hZ e27 E18
        obtain ⟨_, _, ⟨T28, L28, k28, n28⟩, -, X28, ⟨Lc28, hQ28, l28, y28, z28⟩, st28⟩ := X27.virtualBack hx (y := (⟨"com/example/echo_panel/echopanel/channel/ChannelState", "limits", "()Lcom/example/echo_panel/echopanel/channel/DisplayLimits;"⟩ : MethodName)) (z := (⟨"com/example/echo_panel/echopanel/channel/ChannelState", "limits", "()Lcom/example/echo_panel/echopanel/channel/DisplayLimits;"⟩ : MethodName)) hown (mvT hZ (Wd97 hw)) (mvT hZ (Wd98 hw)) (notFace_of_selects (args := #[]) (mvT hZ (Wd100 hw))) (mvT hZ (Wd100 hw)) (mvT hZ (Wd99 hw)) (by decide) (backOf (W := 0) (rmX5_0 l Z a0 hw [] b18 T18.heap  G5_18) hZ (Wd101 hw) (Wd3 hw) (by decide) (by decide)) qa28 qc28 (g := (mkF m 141 #[.val (.int p0), .val (.int p1), .val (.long lq), .second, .val (.int p3), .val (.int p4), .val (.ref b1), .val .null, .val (.int (p0 &&& (3 : Int32))), .val (.ref b18)] [(.ref b18)])) rfl (by rw [hml]; rfl) (Steps.refl _) (argsL := []) (rest := []) (lenOf pd12 rfl) rfl (by show 2 * 0 + _ ≤ _; exact Nat.le_of_eq rfl) (hb hby at_141) (fun _ _ => ⟨rfl, e27, (Nat.le_of_ble_eq_true rfl), (Nat.le_of_ble_eq_true rfl)⟩)
        dsimp only [Pt.U, Pt.locs, Pt.cells, Pt.slots] at X28 l28 y28 z28 st28 hQ28
        subst l28 y28 z28
        obtain ⟨rfl, rfl, e28⟩ := hQ28
        have N28 := Fr.app N27 (Fr.nil _)
        refine OD.via (B := (T28.setTop (mkF m 144 #[.val (.int p0), .val (.int p1), .val (.long lq), .second, .val (.int p3), .val (.int p4), .val (.ref b1), .val .null, .val (.int (p0 &&& (3 : Int32))), .val (.ref b18)] [.null]))) st28 ?_
        refine OD.go (B := (T28.setTop (mkF m 147 #[.val (.int p0), .val (.int p1), .val (.long lq), .second, .val (.int p3), .val (.int p4), .val (.ref b1), .val .null, .val (.int (p0 &&& (3 : Int32))), .val (.ref b18)] []))) (fun t k => XS.ifnonnullNo X28.here hx rfl (hb hby at_144) rfl k) ?_
        refine OD.go (B := (T28.setTop (mkF m 148 #[.val (.int p0), .val (.int p1), .val (.long lq), .second, .val (.int p3), .val (.int p4), .val (.ref b1), .val .null, .val (.int (p0 &&& (3 : Int32))), .val (.ref b18)] [(.int (1 : Int32))]))) (fun t k => XS.iconst X28.here hx rfl (hb hby at_147) k) ?_
        refine OD.go (B := (T28.setTop (mkF m 152 #[.val (.int p0), .val (.int p1), .val (.long lq), .second, .val (.int p3), .val (.int p4), .val (.ref b1), .val .null, .val (.int (p0 &&& (3 : Int32))), .val (.ref b18)] [(.int (1 : Int32))]))) (fun t k => XS.goto X28.here hx rfl (pc0 := 148) (pc' := 152) rfl (hb hby at_148) (by decide) (by decide) k) ?_
        exact OD.ret X28 hx hlk (t := .boolean) Bd.returns rfl (Or.inl ⟨rfl, Or.inr (Or.inl rfl), _, rfl⟩) (hb hby at_152) (Nat.le_of_ble_eq_true rfl) (Nat.le_of_ble_eq_true rfl) ⟨rfl, N28⟩
      · refine OD.go (B := (T17.setTop (mkF m 51 #[.val (.int p0), .val (.int p1), .val (.long lq), .second, .val (.int p3), .val (.int p4), .val (.ref b1), .unset, .val (.int (p0 &&& (3 : Int32))), .unset] [(.ref b17)]))) st17 ?_
        refine OD.go (B := (T17.setTop (mkF m 53 #[.val (.int p0), .val (.int p1), .val (.long lq), .second, .val (.int p3), .val (.int p4), .val (.ref b1), .val (.ref b17), .val (.int (p0 &&& (3 : Int32))), .unset] []))) (fun t k => XS.astore X17.here hx rfl (hb hby at_51) rfl rfl (l' := #[.val (.int p0), .val (.int p1), .val (.long lq), .second, .val (.int p3), .val (.int p4), .val (.ref b1), .val (.ref b17), .val (.int (p0 &&& (3 : Int32))), .unset]) rfl k) ?_
        refine OD.go (B := (T17.setTop (mkF m 82 #[.val (.int p0), .val (.int p1), .val (.long lq), .second, .val (.int p3), .val (.int p4), .val (.ref b1), .val (.ref b17), .val (.int (p0 &&& (3 : Int32))), .unset] []))) (fun t k => XS.goto X17.here hx rfl (pc0 := 53) (pc' := 82) rfl (hb hby at_53) (by decide) (by decide) k) ?_
        refine OD.go (B := (T17.setTop (mkF m 84 #[.val (.int p0), .val (.int p1), .val (.long lq), .second, .val (.int p3), .val (.int p4), .val (.ref b1), .val (.ref b17), .val (.int (p0 &&& (3 : Int32))), .unset] [(.ref b17)]))) (fun t k => XS.aload X17.here hx rfl (hb hby at_82) rfl rfl k) ?_
        obtain ⟨_, _, ⟨T29, L29, k29, n29⟩, -, X29, ⟨Lc29, hQ29, l29, y29, z29⟩, st29⟩ := Jvm.LawKit.callS X17 hx (y := (⟨"com/example/echo_panel/echopanel/channel/ChannelState", "of", "(Ljava/lang/Object;)Lcom/example/echo_panel/echopanel/channel/ChannelState;"⟩ : MethodName)) hown (mvT hZ (Wd1 hw)) (mvT hZ (Wd2 hw)) (mvT hZ (Wd3 hw)) (mvT hZ (Wd4 hw)) (by decide) (backOf (W := 0) (rmOf_11 l Z a0 hw [] b17 T17.heap h0.size ((((X00.ext E1).wr W2 (Nat.le_trans (Nat.le_refl _) (Nat.le_of_eq g1.symm))).wr W3 (Nat.le_trans (Nat.le_refl _) (Nat.le_of_eq g1.symm))).keep K17 all0) el ea kE Se Ee Fa Fel Ae (Nat.le_trans (Nat.le_trans (Nat.le_trans (Nat.le_trans (Nat.le_refl _) E1.1) (Keep.of_wr W2).1) (Keep.of_wr W3).1) K17.1) sv Ss) hZ (Wd4 hw) (Wd3 hw) (by decide) (by decide)) (g := (mkF m 84 #[.val (.int p0), .val (.int p1), .val (.long lq), .second, .val (.int p3), .val (.int p4), .val (.ref b1), .val (.ref b17), .val (.int (p0 &&& (3 : Int32))), .unset] [(.ref b17)])) rfl (by rw [hml]; rfl) (argsL := [(.ref b17)]) (rest := []) (lenOf pd7 rfl) rfl (by show 2 * 0 + _ ≤ _; exact Nat.le_of_eq rfl) (hb hby at_84) (fun _ _ => ⟨rfl, rfl, (Nat.le_of_ble_eq_true rfl), (Nat.le_of_ble_eq_true rfl)⟩)
        dsimp only [Pt.U, Pt.locs, Pt.cells, Pt.slots] at X29 l29 y29 z29 st29 hQ29
        subst l29 y29 z29
        obtain ⟨b29, rfl, Nq29, K29, ob29, E29, G0_29, G1_29, G2_29, G3_29, G4_29, G5_29⟩ := hQ29
        have N29 := Fr.app N17 Nq29
        refine OD.go (B := (T29.setTop (mkF m 87 #[.val (.int p0), .val (.int p1), .val (.long lq), .second, .val (.int p3), .val (.int p4), .val (.ref b1), .val (.ref b17), .val (.int (p0 &&& (3 : Int32))), .unset] [(.ref b29)]))) st29 ?_
        refine OD.go (B := (T29.setTop (mkF m 89 #[.val (.int p0), .val (.int p1), .val (.long lq), .second, .val (.int p3), .val (.int p4), .val (.ref b1), .val (.ref b17), .val (.int (p0 &&& (3 : Int32))), .val (.ref b29)] []))) (fun t k => XS.astore X29.here hx rfl (hb hby at_87) rfl rfl (l' := #[.val (.int p0), .val (.int p1), .val (.long lq), .second, .val (.int p3), .val (.int p4), .val (.ref b1), .val (.ref b17), .val (.int (p0 &&& (3 : Int32))), .val (.ref b29)]) rfl k) ?_
        refine OD.go (B := (T29.setTop (mkF m 91 #[.val (.int p0), .val (.int p1), .val (.long lq), .second, .val (.int p3), .val (.int p4), .val (.ref b1), .val (.ref b17), .val (.int (p0 &&& (3 : Int32))), .val (.ref b29)] [(.ref b29)]))) (fun t k => XS.aload X29.here hx rfl (hb hby at_89) rfl rfl k) ?_
        obtain ⟨cq30, kq30, qa30, qb30, qc30⟩ := isOf hZ rfl E29
        obtain ⟨_, _, ⟨T30, L30, k30, n30⟩, -, X30, ⟨Lc30, hQ30, l30, y30, z30⟩, st30⟩ := X29.virtualBack hx (y := (⟨"com/example/echo_panel/echopanel/channel/ChannelState", "connected", "()Z"⟩ : MethodName)) (z := (⟨"com/example/echo_panel/echopanel/channel/ChannelState", "connected", "()Z"⟩ : MethodName)) hown (mvT hZ (Wd60 hw)) (mvT hZ (Wd61 hw)) (notFace_of_selects (args := #[]) (mvT hZ (Wd63 hw))) (mvT hZ (Wd63 hw)) (mvT hZ (Wd62 hw)) (by decide) (backOf (W := 0) (rmX0_I l Z a0 hw [] b29 T29.heap (1 : Int32) G0_29 rfl) hZ (Wd64 hw) (Wd3 hw) (by decide) (by decide)) qa30 qc30 (g := (mkF m 91 #[.val (.int p0), .val (.int p1), .val (.long lq), .second, .val (.int p3), .val (.int p4), .val (.ref b1), .val (.ref b17), .val (.int (p0 &&& (3 : Int32))), .val (.ref b29)] [(.ref b29)])) rfl (by rw [hml]; rfl) (Steps.refl _) (argsL := []) (rest := []) (lenOf pd8 rfl) rfl (by show 2 * 0 + _ ≤ _; exact Nat.le_of_eq rfl) (hb hby at_91) (fun _ _ => ⟨rfl, rfl, (Nat.le_of_ble_eq_true rfl), (Nat.le_of_ble_eq_true rfl)⟩)
        dsimp only [Pt.U, Pt.locs, Pt.cells, Pt.slots] at X30 l30 y30 z30 st30 hQ30
        subst l30 y30 z30
        obtain ⟨rfl, rfl, e30⟩ := hQ30
        have N30 := Fr.app N29 (Fr.nil _)
        refine OD.via (B := (T30.setTop (mkF m 94 #[.val (.int p0), .val (.int p1), .val (.long lq), .second, .val (.int p3), .val (.int p4), .val (.ref b1), .val (.ref b17), .val (.int (p0 &&& (3 : Int32))), .val (.ref b29)] [(.int (1 : Int32))]))) st30 ?_
        refine OD.go (B := (T30.setTop (mkF m 97 #[.val (.int p0), .val (.int p1), .val (.long lq), .second, .val (.int p3), .val (.int p4), .val (.ref b1), .val (.ref b17), .val (.int (p0 &&& (3 : Int32))), .val (.ref b29)] []))) (fun t k => XS.ifNo X30.here hx rfl (hb hby at_94) rfl (by rw [if0]; exact (feq (by decide : ¬ (1 : Int32) = (0 : Int32))).1) k) ?_
        refine OD.go (B := (T30.setTop (mkF m 99 #[.val (.int p0), .val (.int p1), .val (.long lq), .second, .val (.int p3), .val (.int p4), .val (.ref b1), .val (.ref b17), .val (.int (p0 &&& (3 : Int32))), .val (.ref b29)] [(.ref b29)]))) (fun t k => XS.aload X30.here hx rfl (hb hby at_97) rfl rfl k) ?_
        obtain ⟨cq31, kq31, qa31, qb31, qc31⟩ := isOf hZ e30 E29
        obtain ⟨_, _, ⟨T31, L31, k31, n31⟩, -, X31, ⟨Lc31, hQ31, l31, y31, z31⟩, st31⟩ := X30.virtualBack hx (y := (⟨"com/example/echo_panel/echopanel/channel/ChannelState", "severity", "()Lcom/example/echo_panel/echopanel/channel/Severity;"⟩ : MethodName)) (z := (⟨"com/example/echo_panel/echopanel/channel/ChannelState", "severity", "()Lcom/example/echo_panel/echopanel/channel/Severity;"⟩ : MethodName)) hown (mvT hZ (Wd65 hw)) (mvT hZ (Wd66 hw)) (notFace_of_selects (args := #[]) (mvT hZ (Wd68 hw))) (mvT hZ (Wd68 hw)) (mvT hZ (Wd67 hw)) (by decide) (backOf (W := 0) (rmX1_1 l Z a0 hw [] b29 T29.heap sv G1_29) hZ (Wd69 hw) (Wd3 hw) (by decide) (by decide)) qa31 qc31 (g := (mkF m 99 #[.val (.int p0), .val (.int p1), .val (.long lq), .second, .val (.int p3), .val (.int p4), .val (.ref b1), .val (.ref b17), .val (.int (p0 &&& (3 : Int32))), .val (.ref b29)] [(.ref b29)])) rfl (by rw [hml]; rfl) (Steps.refl _) (argsL := []) (rest := []) (lenOf pd9 rfl) rfl (by show 2 * 0 + _ ≤ _; exact Nat.le_of_eq rfl) (hb hby at_99) (fun _ _ => ⟨rfl, e30, (Nat.le_of_ble_eq_true rfl), (Nat.le_of_ble_eq_true rfl)⟩)
        dsimp only [Pt.U, Pt.locs, Pt.cells, Pt.slots] at X31 l31 y31 z31 st31 hQ31
        subst l31 y31 z31
        obtain ⟨rfl, rfl, e31⟩ := hQ31
        have N31 := Fr.app N30 (Fr.nil _)
        refine OD.via (B := (T31.setTop (mkF m 102 #[.val (.int p0), .val (.int p1), .val (.long lq), .second, .val (.int p3), .val (.int p4), .val (.ref b1), .val (.ref b17), .val (.int (p0 &&& (3 : Int32))), .val (.ref b29)] [(.ref sv)]))) st31 ?_
        have f32 := (Ss.ext (((((X00.ext E1).wr W2 (Nat.le_trans (Nat.le_refl _) (Nat.le_of_eq g1.symm))).wr W3 (Nat.le_trans (Nat.le_refl _) (Nat.le_of_eq g1.symm))).keep K17 all0).keep K29 all0).2)
        obtain ⟨T33, X33, e33, st33⟩ := getS2 X31 hx hZ hown (host := "") (Or.inl (Wd70 hw)) Via.refl e31 f32 (g := (mkF m 102 #[.val (.int p0), .val (.int p1), .val (.long lq), .second, .val (.int p3), .val (.int p4), .val (.ref b1), .val (.ref b17), .val (.int (p0 &&& (3 : Int32))), .val (.ref b29)] [(.ref sv)])) rfl (hb hby at_102)
        refine OD.go (B := (T33.setTop (mkF m 105 #[.val (.int p0), .val (.int p1), .val (.long lq), .second, .val (.int p3), .val (.int p4), .val (.ref b1), .val (.ref b17), .val (.int (p0 &&& (3 : Int32))), .val (.ref b29)] [(.ref sv), (.ref sv)]))) st33 ?_
        refine OD.go (B := (T33.setTop (mkF m 108 #[.val (.int p0), .val (.int p1), .val (.long lq), .second, .val (.int p3), .val (.int p4), .val (.ref b1), .val (.ref b17), .val (.int (p0 &&& (3 : Int32))), .val (.ref b29)] []))) (fun t k => RoadKit.acmp X33 hx rfl (x := (.ref sv)) (y := (.ref sv)) rfl rfl (pc0 := 105) (pc' := 108) (same := true) rfl (hb hby at_105) rfl (by simp) (by decide) (by decide) k) ?_
        refine OD.go (B := (T33.setTop (mkF m 110 #[.val (.int p0), .val (.int p1), .val (.long lq), .second, .val (.int p3), .val (.int p4), .val (.ref b1), .val (.ref b17), .val (.int (p0 &&& (3 : Int32))), .val (.ref b29)] [(.ref b29)]))) (fun t k => XS.aload X33.here hx rfl (hb hby at_108) rfl rfl k) ?_
        obtain ⟨cq34, kq34, qa34, qb34, qc34⟩ := isOf hZ e33 E29
        obtain ⟨_, _, ⟨T34, L34, k34, n34⟩, -, X34, ⟨Lc34, hQ34, l34, y34, z34⟩, st34⟩ := X33.virtualBack hx (y := (⟨"com/example/echo_panel/echopanel/channel/ChannelState", "precision", "()I"⟩ : MethodName)) (z := (⟨"com/example/echo_panel/echopanel/channel/ChannelState", "precision", "()I"⟩ : MethodName)) hown (mvT hZ (Wd71 hw)) (mvT hZ (Wd72 hw)) (notFace_of_selects (args := #[]) (mvT hZ (Wd74 hw))) (mvT hZ (Wd74 hw)) (mvT hZ (Wd73 hw)) (by decide) (backOf (W := 0) (rmX2_I l Z a0 hw [] b29 T29.heap (0 : Int32) G2_29) hZ (Wd75 hw) (Wd3 hw) (by decide) (by decide)) qa34 qc34 (g := (mkF m 110 #[.val (.int p0), .val (.int p1), .val (.long lq), .second, .val (.int p3), .val (.int p4), .val (.ref b1), .val (.ref b17), .val (.int (p0 &&& (3 : Int32))), .val (.ref b29)] [(.ref b29)])) rfl (by rw [hml]; rfl) (Steps.refl _) (argsL := []) (rest := []) (lenOf pd10 rfl) rfl (by show 2 * 0 + _ ≤ _; exact Nat.le_of_eq rfl) (hb hby at_110) (fun _ _ => ⟨rfl, e33, (Nat.le_of_ble_eq_true rfl), (Nat.le_of_ble_eq_true rfl)⟩)
        dsimp only [Pt.U, Pt.locs, Pt.cells, Pt.slots] at X34 l34 y34 z34 st34 hQ34
        subst l34 y34 z34
        obtain ⟨rfl, rfl, e34⟩ := hQ34
        have N34 := Fr.app N31 (Fr.nil _)
        refine OD.via (B := (T34.setTop (mkF m 113 #[.val (.int p0), .val (.int p1), .val (.long lq), .second, .val (.int p3), .val (.int p4), .val (.ref b1), .val (.ref b17), .val (.int (p0 &&& (3 : Int32))), .val (.ref b29)] [(.int (0 : Int32))]))) st34 ?_
        refine OD.go (B := (T34.setTop (mkF m 116 #[.val (.int p0), .val (.int p1), .val (.long lq), .second, .val (.int p3), .val (.int p4), .val (.ref b1), .val (.ref b17), .val (.int (p0 &&& (3 : Int32))), .val (.ref b29)] []))) (fun t k => XS.ifNo X34.here hx rfl (hb hby at_113) rfl (by rw [if0]; exact (teq (by decide : (0 : Int32) = (0 : Int32))).2) k) ?_
        refine OD.go (B := (T34.setTop (mkF m 118 #[.val (.int p0), .val (.int p1), .val (.long lq), .second, .val (.int p3), .val (.int p4), .val (.ref b1), .val (.ref b17), .val (.int (p0 &&& (3 : Int32))), .val (.ref b29)] [(.ref b29)]))) (fun t k => XS.aload X34.here hx rfl (hb hby at_116) rfl rfl k) ?_
        obtain ⟨cq35, kq35, qa35, qb35, qc35⟩ := isOf hZ e34 E29
        obtain ⟨_, _, ⟨T35, L35, k35, n35⟩, -, X35, ⟨Lc35, hQ35, l35, y35, z35⟩, st35⟩ := X34.virtualBack hx (y := (⟨"com/example/echo_panel/echopanel/channel/ChannelState", "labels", "()Ljava/util/List;"⟩ : MethodName)) (z := (⟨"com/example/echo_panel/echopanel/channel/ChannelState", "labels", "()Ljava/util/List;"⟩ : MethodName)) hown (mvT hZ (Wd76 hw)) (mvT hZ (Wd77 hw)) (notFace_of_selects (args := #[]) (mvT hZ (Wd79 hw))) (mvT hZ (Wd79 hw)) (mvT hZ (Wd78 hw)) (by decide) (backOf (W := 0) (rmX3_1 l Z a0 hw [] b29 T29.heap el G3_29) hZ (Wd80 hw) (Wd3 hw) (by decide) (by decide)) qa35 qc35 (g := (mkF m 118 #[.val (.int p0), .val (.int p1), .val (.long lq), .second, .val (.int p3), .val (.int p4), .val (.ref b1), .val (.ref b17), .val (.int (p0 &&& (3 : Int32))), .val (.ref b29)] [(.ref b29)])) rfl (by rw [hml]; rfl) (Steps.refl _) (argsL := []) (rest := []) (lenOf pd5 rfl) rfl (by show 2 * 0 + _ ≤ _; exact Nat.le_of_eq rfl) (hb hby at_118) (fun _ _ => ⟨rfl, e34, (Nat.le_of_ble_eq_true rfl), (Nat.le_of_ble_eq_true rfl)⟩)
        dsimp only [Pt.U, Pt.locs, Pt.cells, Pt.slots] at X35 l35 y35 z35 st35 hQ35
        subst l35 y35 z35
        obtain ⟨rfl, rfl, e35⟩ := hQ35
        have N35 := Fr.app N34 (Fr.nil _)
        refine OD.via (B := (T35.setTop (mkF m 121 #[.val (.int p0), .val (.int p1), .val (.long lq), .second, .val (.int p3), .val (.int p4), .val (.ref b1), .val (.ref b17), .val (.int (p0 &&& (3 : Int32))), .val (.ref b29)] [(.ref el)]))) st35 ?_
        have f36 := (Ee.ext (((((X00.ext E1).wr W2 (Nat.le_trans (Nat.le_refl _) (Nat.le_of_eq g1.symm))).wr W3 (Nat.le_trans (Nat.le_refl _) (Nat.le_of_eq g1.symm))).keep K17 all0).keep K29 all0).2)
        obtain ⟨cq37, kq37, qa37, qb37, qc37⟩ := isOf hZ e35 f36
        obtain ⟨_, _, ⟨T37, L37, k37, n37⟩, -, X37, ⟨Lc37, hQ37, l37, y37, z37⟩, st37⟩ := X35.interfaceBack hx (xi := (⟨"java/util/List", "size", "()I"⟩ : MethodName)) (y := (⟨"java/util/ImmutableCollections$ListN", "size", "()I"⟩ : MethodName)) hown (mvT hZ (Wd81 hw)) (mvT hZ (Wd82 hw)) (mvT hZ (Wd83 hw)) (mvT hZ (Wd84 hw)) (mvT hZ (Wd85 hw)) (mvT hZ (Wd86 hw)) (mvT hZ (Wd87 hw)) (mvT hZ (Wd47 hw)) (by decide) (backOf (W := 0) (rmSZ l Z a0 hw [] el T29.heap h0.size (((((X00.ext E1).wr W2 (Nat.le_trans (Nat.le_refl _) (Nat.le_of_eq g1.symm))).wr W3 (Nat.le_trans (Nat.le_refl _) (Nat.le_of_eq g1.symm))).keep K17 all0).keep K29 all0) ea kE Se Ee Fa Fel Ae) hZ (Wd89 hw) (Wd88 hw) (by decide) (by decide)) qa37 qb37 qc37 (g := (mkF m 121 #[.val (.int p0), .val (.int p1), .val (.long lq), .second, .val (.int p3), .val (.int p4), .val (.ref b1), .val (.ref b17), .val (.int (p0 &&& (3 : Int32))), .val (.ref b29)] [(.ref el)])) rfl (by rw [hml]; rfl) (Steps.refl _) (argsL := []) (rest := []) (lenOf pd10 rfl) rfl (by show 2 * 0 + _ ≤ _; exact Nat.le_of_eq rfl) (hb hby at_121) (fun _ _ => ⟨rfl, e35, (Nat.le_of_ble_eq_true rfl), (Nat.le_of_ble_eq_true rfl)⟩)
        dsimp only [Pt.U, Pt.locs, Pt.cells, Pt.slots] at X37 l37 y37 z37 st37 hQ37
        subst l37 y37 z37
        obtain ⟨rfl, rfl, e37⟩ := hQ37
        have N37 := Fr.app N35 (Fr.nil _)
        refine OD.via (B := (T37.setTop (mkF m 126 #[.val (.int p0), .val (.int p1), .val (.long lq), .second, .val (.int p3), .val (.int p4), .val (.ref b1), .val (.ref b17), .val (.int (p0 &&& (3 : Int32))), .val (.ref b29)] [(.int (0 : Int32))]))) st37 ?_
        refine OD.go (B := (T37.setTop (mkF m 129 #[.val (.int p0), .val (.int p1), .val (.long lq), .second, .val (.int p3), .val (.int p4), .val (.ref b1), .val (.ref b17), .val (.int (p0 &&& (3 : Int32))), .val (.ref b29)] []))) (fun t k => XS.ifNo X37.here hx rfl (hb hby at_126) rfl (by rw [if0]; exact (teq (by decide : (0 : Int32) = (0 : Int32))).2) k) ?_
        refine OD.go (B := (T37.setTop (mkF m 131 #[.val (.int p0), .val (.int p1), .val (.long lq), .second, .val (.int p3), .val (.int p4), .val (.ref b1), .val (.ref b17), .val (.int (p0 &&& (3 : Int32))), .val (.ref b29)] [(.ref b29)]))) (fun t k => XS.aload X37.here hx rfl (hb hby at_129) rfl rfl k) ?_
        obtain ⟨cq38, kq38, qa38, qb38, qc38⟩ := isOf hZ e37 E29
        obtain ⟨_, _, ⟨T38, L38, k38, n38⟩, -, X38, ⟨Lc38, hQ38, l38, y38, z38⟩, st38⟩ := X37.virtualBack hx (y := (⟨"com/example/echo_panel/echopanel/channel/ChannelState", "value", "()Ljava/lang/Object;"⟩ : MethodName)) (z := (⟨"com/example/echo_panel/echopanel/channel/ChannelState", "value", "()Ljava/lang/Object;"⟩ : MethodName)) hown (mvT hZ (Wd92 hw)) (mvT hZ (Wd93 hw)) (notFace_of_selects (args := #[]) (mvT hZ (Wd95 hw))) (mvT hZ (Wd95 hw)) (mvT hZ (Wd94 hw)) (by decide) (backOf (W := 0) (rmX4_1 l Z a0 hw [] b29 T29.heap b17 G4_29) hZ (Wd96 hw) (Wd3 hw) (by decide) (by decide)) qa38 qc38 (g := (mkF m 131 #[.val (.int p0), .val (.int p1), .val (.long lq), .second, .val (.int p3), .val (.int p4), .val (.ref b1), .val (.ref b17), .val (.int (p0 &&& (3 : Int32))), .val (.ref b29)] [(.ref b29)])) rfl (by rw [hml]; rfl) (Steps.refl _) (argsL := []) (rest := []) (lenOf pd11 rfl) rfl (by show 2 * 0 + _ ≤ _; exact Nat.le_of_eq rfl) (hb hby at_131) (fun _ _ => ⟨rfl, e37, (Nat.le_of_ble_eq_true rfl), (Nat.le_of_ble_eq_true rfl)⟩)
        dsimp only [Pt.U, Pt.locs, Pt.cells, Pt.slots] at X38 l38 y38 z38 st38 hQ38
        subst l38 y38 z38
        obtain ⟨rfl, rfl, e38⟩ := hQ38
        have N38 := Fr.app N37 (Fr.nil _)
        refine OD.via (B := (T38.setTop (mkF m 134 #[.val (.int p0), .val (.int p1), .val (.long lq), .second, .val (.int p3), .val (.int p4), .val (.ref b1), .val (.ref b17), .val (.int (p0 &&& (3 : Int32))), .val (.ref b29)] [(.ref b17)]))) st38 ?_
        refine OD.go (B := (T38.setTop (mkF m 136 #[.val (.int p0), .val (.int p1), .val (.long lq), .second, .val (.int p3), .val (.int p4), .val (.ref b1), .val (.ref b17), .val (.int (p0 &&& (3 : Int32))), .val (.ref b29)] [(.ref b17), (.ref b17)]))) (fun t k => XS.aload X38.here hx rfl (hb hby at_134) rfl rfl k) ?_
        refine OD.go (B := (T38.setTop (mkF m 139 #[.val (.int p0), .val (.int p1), .val (.long lq), .second, .val (.int p3), .val (.int p4), .val (.ref b1), .val (.ref b17), .val (.int (p0 &&& (3 : Int32))), .val (.ref b29)] []))) (fun t k => RoadKit.acmp X38 hx rfl (x := (.ref b17)) (y := (.ref b17)) rfl rfl (pc0 := 136) (pc' := 139) (same := true) rfl (hb hby at_136) rfl (by simp) (by decide) (by decide) k) ?_
        refine OD.go (B := (T38.setTop (mkF m 141 #[.val (.int p0), .val (.int p1), .val (.long lq), .second, .val (.int p3), .val (.int p4), .val (.ref b1), .val (.ref b17), .val (.int (p0 &&& (3 : Int32))), .val (.ref b29)] [(.ref b29)]))) (fun t k => XS.aload X38.here hx rfl (hb hby at_139) rfl rfl k) ?_
        obtain ⟨cq39, kq39, qa39, qb39, qc39⟩ := isOf hZ e38 E29
        obtain ⟨_, _, ⟨T39, L39, k39, n39⟩, -, X39, ⟨Lc39, hQ39, l39, y39, z39⟩, st39⟩ := X38.virtualBack hx (y := (⟨"com/example/echo_panel/echopanel/channel/ChannelState", "limits", "()Lcom/example/echo_panel/echopanel/channel/DisplayLimits;"⟩ : MethodName)) (z := (⟨"com/example/echo_panel/echopanel/channel/ChannelState", "limits", "()Lcom/example/echo_panel/echopanel/channel/DisplayLimits;"⟩ : MethodName)) hown (mvT hZ (Wd97 hw)) (mvT hZ (Wd98 hw)) (notFace_of_selects (args := #[]) (mvT hZ (Wd100 hw))) (mvT hZ (Wd100 hw)) (mvT hZ (Wd99 hw)) (by decide) (backOf (W := 0) (rmX5_0 l Z a0 hw [] b29 T29.heap  G5_29) hZ (Wd101 hw) (Wd3 hw) (by decide) (by decide)) qa39 qc39 (g := (mkF m 141 #[.val (.int p0), .val (.int p1), .val (.long lq), .second, .val (.int p3), .val (.int p4), .val (.ref b1), .val (.ref b17), .val (.int (p0 &&& (3 : Int32))), .val (.ref b29)] [(.ref b29)])) rfl (by rw [hml]; rfl) (Steps.refl _) (argsL := []) (rest := []) (lenOf pd12 rfl) rfl (by show 2 * 0 + _ ≤ _; exact Nat.le_of_eq rfl) (hb hby at_141) (fun _ _ => ⟨rfl, e38, (Nat.le_of_ble_eq_true rfl), (Nat.le_of_ble_eq_true rfl)⟩)
        dsimp only [Pt.U, Pt.locs, Pt.cells, Pt.slots] at X39 l39 y39 z39 st39 hQ39
        subst l39 y39 z39
        obtain ⟨rfl, rfl, e39⟩ := hQ39
        have N39 := Fr.app N38 (Fr.nil _)
        refine OD.via (B := (T39.setTop (mkF m 144 #[.val (.int p0), .val (.int p1), .val (.long lq), .second, .val (.int p3), .val (.int p4), .val (.ref b1), .val (.ref b17), .val (.int (p0 &&& (3 : Int32))), .val (.ref b29)] [.null]))) st39 ?_
        refine OD.go (B := (T39.setTop (mkF m 147 #[.val (.int p0), .val (.int p1), .val (.long lq), .second, .val (.int p3), .val (.int p4), .val (.ref b1), .val (.ref b17), .val (.int (p0 &&& (3 : Int32))), .val (.ref b29)] []))) (fun t k => XS.ifnonnullNo X39.here hx rfl (hb hby at_144) rfl k) ?_
        refine OD.go (B := (T39.setTop (mkF m 148 #[.val (.int p0), .val (.int p1), .val (.long lq), .second, .val (.int p3), .val (.int p4), .val (.ref b1), .val (.ref b17), .val (.int (p0 &&& (3 : Int32))), .val (.ref b29)] [(.int (1 : Int32))]))) (fun t k => XS.iconst X39.here hx rfl (hb hby at_147) k) ?_
        refine OD.go (B := (T39.setTop (mkF m 152 #[.val (.int p0), .val (.int p1), .val (.long lq), .second, .val (.int p3), .val (.int p4), .val (.ref b1), .val (.ref b17), .val (.int (p0 &&& (3 : Int32))), .val (.ref b29)] [(.int (1 : Int32))]))) (fun t k => XS.goto X39.here hx rfl (pc0 := 148) (pc' := 152) rfl (hb hby at_148) (by decide) (by decide) k) ?_
        exact OD.ret X39 hx hlk (t := .boolean) Bd.returns rfl (Or.inl ⟨rfl, Or.inr (Or.inl rfl), _, rfl⟩) (hb hby at_152) (Nat.le_of_ble_eq_true rfl) (Nat.le_of_ble_eq_true rfl) ⟨rfl, N39⟩
    · refine OD.go (B := (T3.setTop (mkF m 56 #[.val (.int p0), .val (.int p1), .val (.long lq), .second, .val (.int p3), .val (.int p4), .val (.ref b1), .unset, .val (.int (p0 &&& (3 : Int32))), .unset] []))) (fun t k => XS.icmpYes X3.here hx rfl (pc0 := 44) (pc' := 56) rfl (hb hby at_44) rfl (feq c44_16).2 (by decide) (by decide) k) ?_
      refine OD.go (B := (T3.setTop (mkF m 58 #[.val (.int p0), .val (.int p1), .val (.long lq), .second, .val (.int p3), .val (.int p4), .val (.ref b1), .unset, .val (.int (p0 &&& (3 : Int32))), .unset] [(.int (p0 &&& (3 : Int32)))]))) (fun t k => XS.iload X3.here hx rfl (hb hby at_56) rfl k) ?_
      refine OD.go (B := (T3.setTop (mkF m 59 #[.val (.int p0), .val (.int p1), .val (.long lq), .second, .val (.int p3), .val (.int p4), .val (.ref b1), .unset, .val (.int (p0 &&& (3 : Int32))), .unset] [(.int (2 : Int32)), (.int (p0 &&& (3 : Int32)))]))) (fun t k => XS.iconst X3.here hx rfl (hb hby at_58) k) ?_
      by_cases c59_40 : (p0 &&& (3 : Int32)) = (2 : Int32)
      · refine OD.go (B := (T3.setTop (mkF m 62 #[.val (.int p0), .val (.int p1), .val (.long lq), .second, .val (.int p3), .val (.int p4), .val (.ref b1), .unset, .val (.int (p0 &&& (3 : Int32))), .unset] []))) (fun t k => XS.icmpNo X3.here hx rfl (hb hby at_59) rfl (teq c59_40).2 k) ?_
        refine OD.go (B := (T3.setTop (mkF m 63 #[.val (.int p0), .val (.int p1), .val (.long lq), .second, .val (.int p3), .val (.int p4), .val (.ref b1), .unset, .val (.int (p0 &&& (3 : Int32))), .unset] [(.long lq)]))) (fun t k => XS.lloadN X3.here hx rfl (hb hby at_62) rfl k) ?_
        obtain ⟨_, _, ⟨T41, L41, k41, n41⟩, -, X41, ⟨Lc41, hQ41, l41, y41, z41⟩, st41⟩ := Jvm.LawKit.callS X3 hx (y := (⟨"java/lang/Long", "valueOf", "(J)Ljava/lang/Long;"⟩ : MethodName)) hown (mvT hZ (Wd151 hw)) (mvT hZ (Wd152 hw)) (mvT hZ (Wd153 hw)) (mvT hZ (Wd154 hw)) (by decide) (backOf (W := 0) (rmLV l Z a0 hw [] lq h3 h0.size (Nat.le_trans (Nat.le_trans (Nat.le_trans (Nat.le_refl _) E1.1) (Keep.of_wr W2).1) (Keep.of_wr W3).1) (((X00.ext E1).wr W2 (Nat.le_trans (Nat.le_refl _) (Nat.le_of_eq g1.symm))).wr W3 (Nat.le_trans (Nat.le_refl _) (Nat.le_of_eq g1.symm))) cb Sl Cl) hZ (Wd154 hw) (Wd153 hw) (by decide) (by decide)) (g := (mkF m 63 #[.val (.int p0), .val (.int p1), .val (.long lq), .second, .val (.int p3), .val (.int p4), .val (.ref b1), .unset, .val (.int (p0 &&& (3 : Int32))), .unset] [(.long lq)])) rfl (by rw [hml]; rfl) (argsL := [(.long lq)]) (rest := []) (lenOf pd14 rfl) rfl (by show 2 * 0 + _ ≤ _; exact Nat.le_of_eq rfl) (hb hby at_63) (fun _ _ => ⟨rfl, e3, (Nat.le_of_ble_eq_true rfl), (Nat.le_of_ble_eq_true rfl)⟩)
        dsimp only [Pt.U, Pt.locs, Pt.cells, Pt.slots] at X41 l41 y41 z41 st41 hQ41
        subst l41 y41 z41
        obtain ⟨w41, rfl, r41, Nq41, K41⟩ := hQ41
        have N41 := Fr.app N3 Nq41
        rcases ref_cases r41 with rfl | ⟨b41, rfl⟩
        · refine OD.go (B := (T41.setTop (mkF m 66 #[.val (.int p0), .val (.int p1), .val (.long lq), .second, .val (.int p3), .val (.int p4), .val (.ref b1), .unset, .val (.int (p0 &&& (3 : Int32))), .unset] [.null]))) st41 ?_
          refine OD.go (B := (T41.setTop (mkF m 68 #[.val (.int p0), .val (.int p1), .val (.long lq), .second, .val (.int p3), .val (.int p4), .val (.ref b1), .val .null, .val (.int (p0 &&& (3 : Int32))), .unset] []))) (fun t k => XS.astore X41.here hx rfl (hb hby at_66) rfl rfl (l' := #[.val (.int p0), .val (.int p1), .val (.long lq), .second, .val (.int p3), .val (.int p4), .val (.ref b1), .val .null, .val (.int (p0 &&& (3 : Int32))), .unset]) rfl k) ?_
          refine OD.go (B := (T41.setTop (mkF m 82 #[.val (.int p0), .val (.int p1), .val (.long lq), .second, .val (.int p3), .val (.int p4), .val (.ref b1), .val .null, .val (.int (p0 &&& (3 : Int32))), .unset] []))) (fun t k => XS.goto X41.here hx rfl (pc0 := 68) (pc' := 82) rfl (hb hby at_68) (by decide) (by decide) k) ?_
          refine OD.go (B := (T41.setTop (mkF m 84 #[.val (.int p0), .val (.int p1), .val (.long lq), .second, .val (.int p3), .val (.int p4), .val (.ref b1), .val .null, .val (.int (p0 &&& (3 : Int32))), .unset] [.null]))) (fun t k => XS.aload X41.here hx rfl (hb hby at_82) rfl rfl k) ?_
          obtain ⟨_, _, ⟨T42, L42, k42, n42⟩, -, X42, ⟨Lc42, hQ42, l42, y42, z42⟩, st42⟩ := Jvm.LawKit.callS X41 hx (y := (⟨"com/example/echo_panel/echopanel/channel/ChannelState", "of", "(Ljava/lang/Object;)Lcom/example/echo_panel/echopanel/channel/ChannelState;"⟩ : MethodName)) hown (mvT hZ (Wd1 hw)) (mvT hZ (Wd2 hw)) (mvT hZ (Wd3 hw)) (mvT hZ (Wd4 hw)) (by decide) (backOf (W := 0) (rmOf_10 l Z a0 hw []  T41.heap h0.size ((((X00.ext E1).wr W2 (Nat.le_trans (Nat.le_refl _) (Nat.le_of_eq g1.symm))).wr W3 (Nat.le_trans (Nat.le_refl _) (Nat.le_of_eq g1.symm))).keep K41 all0) el ea kE Se Ee Fa Fel Ae (Nat.le_trans (Nat.le_trans (Nat.le_trans (Nat.le_trans (Nat.le_refl _) E1.1) (Keep.of_wr W2).1) (Keep.of_wr W3).1) K41.1) sv Ss) hZ (Wd4 hw) (Wd3 hw) (by decide) (by decide)) (g := (mkF m 84 #[.val (.int p0), .val (.int p1), .val (.long lq), .second, .val (.int p3), .val (.int p4), .val (.ref b1), .val .null, .val (.int (p0 &&& (3 : Int32))), .unset] [.null])) rfl (by rw [hml]; rfl) (argsL := [.null]) (rest := []) (lenOf pd7 rfl) rfl (by show 2 * 0 + _ ≤ _; exact Nat.le_of_eq rfl) (hb hby at_84) (fun _ _ => ⟨rfl, rfl, (Nat.le_of_ble_eq_true rfl), (Nat.le_of_ble_eq_true rfl)⟩)
          dsimp only [Pt.U, Pt.locs, Pt.cells, Pt.slots] at X42 l42 y42 z42 st42 hQ42
          subst l42 y42 z42
          obtain ⟨b42, rfl, Nq42, K42, ob42, E42, G0_42, G1_42, G2_42, G3_42, G4_42, G5_42⟩ := hQ42
          have N42 := Fr.app N41 Nq42
          refine OD.go (B := (T42.setTop (mkF m 87 #[.val (.int p0), .val (.int p1), .val (.long lq), .second, .val (.int p3), .val (.int p4), .val (.ref b1), .val .null, .val (.int (p0 &&& (3 : Int32))), .unset] [(.ref b42)]))) st42 ?_
          refine OD.go (B := (T42.setTop (mkF m 89 #[.val (.int p0), .val (.int p1), .val (.long lq), .second, .val (.int p3), .val (.int p4), .val (.ref b1), .val .null, .val (.int (p0 &&& (3 : Int32))), .val (.ref b42)] []))) (fun t k => XS.astore X42.here hx rfl (hb hby at_87) rfl rfl (l' := #[.val (.int p0), .val (.int p1), .val (.long lq), .second, .val (.int p3), .val (.int p4), .val (.ref b1), .val .null, .val (.int (p0 &&& (3 : Int32))), .val (.ref b42)]) rfl k) ?_
          refine OD.go (B := (T42.setTop (mkF m 91 #[.val (.int p0), .val (.int p1), .val (.long lq), .second, .val (.int p3), .val (.int p4), .val (.ref b1), .val .null, .val (.int (p0 &&& (3 : Int32))), .val (.ref b42)] [(.ref b42)]))) (fun t k => XS.aload X42.here hx rfl (hb hby at_89) rfl rfl k) ?_
          obtain ⟨cq43, kq43, qa43, qb43, qc43⟩ := isOf hZ rfl E42
          obtain ⟨_, _, ⟨T43, L43, k43, n43⟩, -, X43, ⟨Lc43, hQ43, l43, y43, z43⟩, st43⟩ := X42.virtualBack hx (y := (⟨"com/example/echo_panel/echopanel/channel/ChannelState", "connected", "()Z"⟩ : MethodName)) (z := (⟨"com/example/echo_panel/echopanel/channel/ChannelState", "connected", "()Z"⟩ : MethodName)) hown (mvT hZ (Wd60 hw)) (mvT hZ (Wd61 hw)) (notFace_of_selects (args := #[]) (mvT hZ (Wd63 hw))) (mvT hZ (Wd63 hw)) (mvT hZ (Wd62 hw)) (by decide) (backOf (W := 0) (rmX0_I l Z a0 hw [] b42 T42.heap (1 : Int32) G0_42 rfl) hZ (Wd64 hw) (Wd3 hw) (by decide) (by decide)) qa43 qc43 (g := (mkF m 91 #[.val (.int p0), .val (.int p1), .val (.long lq), .second, .val (.int p3), .val (.int p4), .val (.ref b1), .val .null, .val (.int (p0 &&& (3 : Int32))), .val (.ref b42)] [(.ref b42)])) rfl (by rw [hml]; rfl) (Steps.refl _) (argsL := []) (rest := []) (lenOf pd8 rfl) rfl (by show 2 * 0 + _ ≤ _; exact Nat.le_of_eq rfl) (hb hby at_91) (fun _ _ => ⟨rfl, rfl, (Nat.le_of_ble_eq_true rfl), (Nat.le_of_ble_eq_true rfl)⟩)
          dsimp only [Pt.U, Pt.locs, Pt.cells, Pt.slots] at X43 l43 y43 z43 st43 hQ43
          subst l43 y43 z43
          obtain ⟨rfl, rfl, e43⟩ := hQ43
          have N43 := Fr.app N42 (Fr.nil _)
          refine OD.via (B := (T43.setTop (mkF m 94 #[.val (.int p0), .val (.int p1), .val (.long lq), .second, .val (.int p3), .val (.int p4), .val (.ref b1), .val .null, .val (.int (p0 &&& (3 : Int32))), .val (.ref b42)] [(.int (1 : Int32))]))) st43 ?_
          refine OD.go (B := (T43.setTop (mkF m 97 #[.val (.int p0), .val (.int p1), .val (.long lq), .second, .val (.int p3), .val (.int p4), .val (.ref b1), .val .null, .val (.int (p0 &&& (3 : Int32))), .val (.ref b42)] []))) (fun t k => XS.ifNo X43.here hx rfl (hb hby at_94) rfl (by rw [if0]; exact (feq (by decide : ¬ (1 : Int32) = (0 : Int32))).1) k) ?_
          refine OD.go (B := (T43.setTop (mkF m 99 #[.val (.int p0), .val (.int p1), .val (.long lq), .second, .val (.int p3), .val (.int p4), .val (.ref b1), .val .null, .val (.int (p0 &&& (3 : Int32))), .val (.ref b42)] [(.ref b42)]))) (fun t k => XS.aload X43.here hx rfl (hb hby at_97) rfl rfl k) ?_
          obtain ⟨cq44, kq44, qa44, qb44, qc44⟩ := isOf hZ e43 E42
          obtain ⟨_, _, ⟨T44, L44, k44, n44⟩, -, X44, ⟨Lc44, hQ44, l44, y44, z44⟩, st44⟩ := X43.virtualBack hx (y := (⟨"com/example/echo_panel/echopanel/channel/ChannelState", "severity", "()Lcom/example/echo_panel/echopanel/channel/Severity;"⟩ : MethodName)) (z := (⟨"com/example/echo_panel/echopanel/channel/ChannelState", "severity", "()Lcom/example/echo_panel/echopanel/channel/Severity;"⟩ : MethodName)) hown (mvT hZ (Wd65 hw)) (mvT hZ (Wd66 hw)) (notFace_of_selects (args := #[]) (mvT hZ (Wd68 hw))) (mvT hZ (Wd68 hw)) (mvT hZ (Wd67 hw)) (by decide) (backOf (W := 0) (rmX1_1 l Z a0 hw [] b42 T42.heap sv G1_42) hZ (Wd69 hw) (Wd3 hw) (by decide) (by decide)) qa44 qc44 (g := (mkF m 99 #[.val (.int p0), .val (.int p1), .val (.long lq), .second, .val (.int p3), .val (.int p4), .val (.ref b1), .val .null, .val (.int (p0 &&& (3 : Int32))), .val (.ref b42)] [(.ref b42)])) rfl (by rw [hml]; rfl) (Steps.refl _) (argsL := []) (rest := []) (lenOf pd9 rfl) rfl (by show 2 * 0 + _ ≤ _; exact Nat.le_of_eq rfl) (hb hby at_99) (fun _ _ => ⟨rfl, e43, (Nat.le_of_ble_eq_true rfl), (Nat.le_of_ble_eq_true rfl)⟩)
          dsimp only [Pt.U, Pt.locs, Pt.cells, Pt.slots] at X44 l44 y44 z44 st44 hQ44
          subst l44 y44 z44
          obtain ⟨rfl, rfl, e44⟩ := hQ44
          have N44 := Fr.app N43 (Fr.nil _)
          refine OD.via (B := (T44.setTop (mkF m 102 #[.val (.int p0), .val (.int p1), .val (.long lq), .second, .val (.int p3), .val (.int p4), .val (.ref b1), .val .null, .val (.int (p0 &&& (3 : Int32))), .val (.ref b42)] [(.ref sv)]))) st44 ?_
          have f45 := (Ss.ext (((((X00.ext E1).wr W2 (Nat.le_trans (Nat.le_refl _) (Nat.le_of_eq g1.symm))).wr W3 (Nat.le_trans (Nat.le_refl _) (Nat.le_of_eq g1.symm))).keep K41 all0).keep K42 all0).2)
          obtain ⟨T46, X46, e46, st46⟩ := getS2 X44 hx hZ hown (host := "") (Or.inl (Wd70 hw)) Via.refl e44 f45 (g := (mkF m 102 #[.val (.int p0), .val (.int p1), .val (.long lq), .second, .val (.int p3), .val (.int p4), .val (.ref b1), .val .null, .val (.int (p0 &&& (3 : Int32))), .val (.ref b42)] [(.ref sv)])) rfl (hb hby at_102)
          refine OD.go (B := (T46.setTop (mkF m 105 #[.val (.int p0), .val (.int p1), .val (.long lq), .second, .val (.int p3), .val (.int p4), .val (.ref b1), .val .null, .val (.int (p0 &&& (3 : Int32))), .val (.ref b42)] [(.ref sv), (.ref sv)]))) st46 ?_
          refine OD.go (B := (T46.setTop (mkF m 108 #[.val (.int p0), .val (.int p1), .val (.long lq), .second, .val (.int p3), .val (.int p4), .val (.ref b1), .val .null, .val (.int (p0 &&& (3 : Int32))), .val (.ref b42)] []))) (fun t k => RoadKit.acmp X46 hx rfl (x := (.ref sv)) (y := (.ref sv)) rfl rfl (pc0 := 105) (pc' := 108) (same := true) rfl (hb hby at_105) rfl (by simp) (by decide) (by decide) k) ?_
          refine OD.go (B := (T46.setTop (mkF m 110 #[.val (.int p0), .val (.int p1), .val (.long lq), .second, .val (.int p3), .val (.int p4), .val (.ref b1), .val .null, .val (.int (p0 &&& (3 : Int32))), .val (.ref b42)] [(.ref b42)]))) (fun t k => XS.aload X46.here hx rfl (hb hby at_108) rfl rfl k) ?_
          obtain ⟨cq47, kq47, qa47, qb47, qc47⟩ := isOf hZ e46 E42
          obtain ⟨_, _, ⟨T47, L47, k47, n47⟩, -, X47, ⟨Lc47, hQ47, l47, y47, z47⟩, st47⟩ := X46.virtualBack hx (y := (⟨"com/example/echo_panel/echopanel/channel/ChannelState", "precision", "()I"⟩ : MethodName)) (z := (⟨"com/example/echo_panel/echopanel/channel/ChannelState", "precision", "()I"⟩ : MethodName)) hown (mvT hZ (Wd71 hw)) (mvT hZ (Wd72 hw)) (notFace_of_selects (args := #[]) (mvT hZ (Wd74 hw))) (mvT hZ (Wd74 hw)) (mvT hZ (Wd73 hw)) (by decide) (backOf (W := 0) (rmX2_I l Z a0 hw [] b42 T42.heap (0 : Int32) G2_42) hZ (Wd75 hw) (Wd3 hw) (by decide) (by decide)) qa47 qc47 (g := (mkF m 110 #[.val (.int p0), .val (.int p1), .val (.long lq), .second, .val (.int p3), .val (.int p4), .val (.ref b1), .val .null, .val (.int (p0 &&& (3 : Int32))), .val (.ref b42)] [(.ref b42)])) rfl (by rw [hml]; rfl) (Steps.refl _) (argsL := []) (rest := []) (lenOf pd10 rfl) rfl (by show 2 * 0 + _ ≤ _; exact Nat.le_of_eq rfl) (hb hby at_110) (fun _ _ => ⟨rfl, e46, (Nat.le_of_ble_eq_true rfl), (Nat.le_of_ble_eq_true rfl)⟩)
          dsimp only [Pt.U, Pt.locs, Pt.cells, Pt.slots] at X47 l47 y47 z47 st47 hQ47
          subst l47 y47 z47
          obtain ⟨rfl, rfl, e47⟩ := hQ47
          have N47 := Fr.app N44 (Fr.nil _)
          refine OD.via (B := (T47.setTop (mkF m 113 #[.val (.int p0), .val (.int p1), .val (.long lq), .second, .val (.int p3), .val (.int p4), .val (.ref b1), .val .null, .val (.int (p0 &&& (3 : Int32))), .val (.ref b42)] [(.int (0 : Int32))]))) st47 ?_
          refine OD.go (B := (T47.setTop (mkF m 116 #[.val (.int p0), .val (.int p1), .val (.long lq), .second, .val (.int p3), .val (.int p4), .val (.ref b1), .val .null, .val (.int (p0 &&& (3 : Int32))), .val (.ref b42)] []))) (fun t k => XS.ifNo X47.here hx rfl (hb hby at_113) rfl (by rw [if0]; exact (teq (by decide : (0 : Int32) = (0 : Int32))).2) k) ?_
          refine OD.go (B := (T47.setTop (mkF m 118 #[.val (.int p0), .val (.int p1), .val (.long lq), .second, .val (.int p3), .val (.int p4), .val (.ref b1), .val .null, .val (.int (p0 &&& (3 : Int32))), .val (.ref b42)] [(.ref b42)]))) (fun t k => XS.aload X47.here hx rfl (hb hby at_116) rfl rfl k) ?_
          obtain ⟨cq48, kq48, qa48, qb48, qc48⟩ := isOf hZ e47 E42
          obtain ⟨_, _, ⟨T48, L48, k48, n48⟩, -, X48, ⟨Lc48, hQ48, l48, y48, z48⟩, st48⟩ := X47.virtualBack hx (y := (⟨"com/example/echo_panel/echopanel/channel/ChannelState", "labels", "()Ljava/util/List;"⟩ : MethodName)) (z := (⟨"com/example/echo_panel/echopanel/channel/ChannelState", "labels", "()Ljava/util/List;"⟩ : MethodName)) hown (mvT hZ (Wd76 hw)) (mvT hZ (Wd77 hw)) (notFace_of_selects (args := #[]) (mvT hZ (Wd79 hw))) (mvT hZ (Wd79 hw)) (mvT hZ (Wd78 hw)) (by decide) (backOf (W := 0) (rmX3_1 l Z a0 hw [] b42 T42.heap el G3_42) hZ (Wd80 hw) (Wd3 hw) (by decide) (by decide)) qa48 qc48 (g := (mkF m 118 #[.val (.int p0), .val (.int p1), .val (.long lq), .second, .val (.int p3), .val (.int p4), .val (.ref b1), .val .null, .val (.int (p0 &&& (3 : Int32))), .val (.ref b42)] [(.ref b42)])) rfl (by rw [hml]; rfl) (Steps.refl _) (argsL := []) (rest := []) (lenOf pd5 rfl) rfl (by show 2 * 0 + _ ≤ _; exact Nat.le_of_eq rfl) (hb hby at_118) (fun _ _ => ⟨rfl, e47, (Nat.le_of_ble_eq_true rfl), (Nat.le_of_ble_eq_true rfl)⟩)
          dsimp only [Pt.U, Pt.locs, Pt.cells, Pt.slots] at X48 l48 y48 z48 st48 hQ48
          subst l48 y48 z48
          obtain ⟨rfl, rfl, e48⟩ := hQ48
          have N48 := Fr.app N47 (Fr.nil _)
          refine OD.via (B := (T48.setTop (mkF m 121 #[.val (.int p0), .val (.int p1), .val (.long lq), .second, .val (.int p3), .val (.int p4), .val (.ref b1), .val .null, .val (.int (p0 &&& (3 : Int32))), .val (.ref b42)] [(.ref el)]))) st48 ?_
          have f49 := (Ee.ext (((((X00.ext E1).wr W2 (Nat.le_trans (Nat.le_refl _) (Nat.le_of_eq g1.symm))).wr W3 (Nat.le_trans (Nat.le_refl _) (Nat.le_of_eq g1.symm))).keep K41 all0).keep K42 all0).2)
          obtain ⟨cq50, kq50, qa50, qb50, qc50⟩ := isOf hZ e48 f49
          obtain ⟨_, _, ⟨T50, L50, k50, n50⟩, -, X50, ⟨Lc50, hQ50, l50, y50, z50⟩, st50⟩ := X48.interfaceBack hx (xi := (⟨"java/util/List", "size", "()I"⟩ : MethodName)) (y := (⟨"java/util/ImmutableCollections$ListN", "size", "()I"⟩ : MethodName)) hown (mvT hZ (Wd81 hw)) (mvT hZ (Wd82 hw)) (mvT hZ (Wd83 hw)) (mvT hZ (Wd84 hw)) (mvT hZ (Wd85 hw)) (mvT hZ (Wd86 hw)) (mvT hZ (Wd87 hw)) (mvT hZ (Wd47 hw)) (by decide) (backOf (W := 0) (rmSZ l Z a0 hw [] el T42.heap h0.size (((((X00.ext E1).wr W2 (Nat.le_trans (Nat.le_refl _) (Nat.le_of_eq g1.symm))).wr W3 (Nat.le_trans (Nat.le_refl _) (Nat.le_of_eq g1.symm))).keep K41 all0).keep K42 all0) ea kE Se Ee Fa Fel Ae) hZ (Wd89 hw) (Wd88 hw) (by decide) (by decide)) qa50 qb50 qc50 (g := (mkF m 121 #[.val (.int p0), .val (.int p1), .val (.long lq), .second, .val (.int p3), .val (.int p4), .val (.ref b1), .val .null, .val (.int (p0 &&& (3 : Int32))), .val (.ref b42)] [(.ref el)])) rfl (by rw [hml]; rfl) (Steps.refl _) (argsL := []) (rest := []) (lenOf pd10 rfl) rfl (by show 2 * 0 + _ ≤ _; exact Nat.le_of_eq rfl) (hb hby at_121) (fun _ _ => ⟨rfl, e48, (Nat.le_of_ble_eq_true rfl), (Nat.le_of_ble_eq_true rfl)⟩)
          dsimp only [Pt.U, Pt.locs, Pt.cells, Pt.slots] at X50 l50 y50 z50 st50 hQ50
          subst l50 y50 z50
          obtain ⟨rfl, rfl, e50⟩ := hQ50
          have N50 := Fr.app N48 (Fr.nil _)
          refine OD.via (B := (T50.setTop (mkF m 126 #[.val (.int p0), .val (.int p1), .val (.long lq), .second, .val (.int p3), .val (.int p4), .val (.ref b1), .val .null, .val (.int (p0 &&& (3 : Int32))), .val (.ref b42)] [(.int (0 : Int32))]))) st50 ?_
          refine OD.go (B := (T50.setTop (mkF m 129 #[.val (.int p0), .val (.int p1), .val (.long lq), .second, .val (.int p3), .val (.int p4), .val (.ref b1), .val .null, .val (.int (p0 &&& (3 : Int32))), .val (.ref b42)] []))) (fun t k => XS.ifNo X50.here hx rfl (hb hby at_126) rfl (by rw [if0]; exact (teq (by decide : (0 : Int32) = (0 : Int32))).2) k) ?_
          refine OD.go (B := (T50.setTop (mkF m 131 #[.val (.int p0), .val (.int p1), .val (.long lq), .second, .val (.int p3), .val (.int p4), .val (.ref b1), .val .null, .val (.int (p0 &&& (3 : Int32))), .val (.ref b42)] [(.ref b42)]))) (fun t k => XS.aload X50.here hx rfl (hb hby at_129) rfl rfl k) ?_
          obtain ⟨cq51, kq51, qa51, qb51, qc51⟩ := isOf hZ e50 E42
          obtain ⟨_, _, ⟨T51, L51, k51, n51⟩, -, X51, ⟨Lc51, hQ51, l51, y51, z51⟩, st51⟩ := X50.virtualBack hx (y := (⟨"com/example/echo_panel/echopanel/channel/ChannelState", "value", "()Ljava/lang/Object;"⟩ : MethodName)) (z := (⟨"com/example/echo_panel/echopanel/channel/ChannelState", "value", "()Ljava/lang/Object;"⟩ : MethodName)) hown (mvT hZ (Wd92 hw)) (mvT hZ (Wd93 hw)) (notFace_of_selects (args := #[]) (mvT hZ (Wd95 hw))) (mvT hZ (Wd95 hw)) (mvT hZ (Wd94 hw)) (by decide) (backOf (W := 0) (rmX4_0 l Z a0 hw [] b42 T42.heap  G4_42) hZ (Wd96 hw) (Wd3 hw) (by decide) (by decide)) qa51 qc51 (g := (mkF m 131 #[.val (.int p0), .val (.int p1), .val (.long lq), .second, .val (.int p3), .val (.int p4), .val (.ref b1), .val .null, .val (.int (p0 &&& (3 : Int32))), .val (.ref b42)] [(.ref b42)])) rfl (by rw [hml]; rfl) (Steps.refl _) (argsL := []) (rest := []) (lenOf pd11 rfl) rfl (by show 2 * 0 + _ ≤ _; exact Nat.le_of_eq rfl) (hb hby at_131) (fun _ _ => ⟨rfl, e50, (Nat.le_of_ble_eq_true rfl), (Nat.le_of_ble_eq_true rfl)⟩)
          dsimp only [Pt.U, Pt.locs, Pt.cells, Pt.slots] at X51 l51 y51 z51 st51 hQ51
          subst l51 y51 z51
          obtain ⟨rfl, rfl, e51⟩ := hQ51
          have N51 := Fr.app N50 (Fr.nil _)
          refine OD.via (B := (T51.setTop (mkF m 134 #[.val (.int p0), .val (.int p1), .val (.long lq), .second, .val (.int p3), .val (.int p4), .val (.ref b1), .val .null, .val (.int (p0 &&& (3 : Int32))), .val (.ref b42)] [.null]))) st51 ?_
          refine OD.go (B := (T51.setTop (mkF m 136 #[.val (.int p0), .val (.int p1), .val (.long lq), .second, .val (.int p3), .val (.int p4), .val (.ref b1), .val .null, .val (.int (p0 &&& (3 : Int32))), .val (.ref b42)] [.null, .null]))) (fun t k => XS.aload X51.here hx rfl (hb hby at_134) rfl rfl k) ?_
          refine OD.go (B := (T51.setTop (mkF m 139 #[.val (.int p0), .val (.int p1), .val (.long lq), .second, .val (.int p3), .val (.int p4), .val (.ref b1), .val .null, .val (.int (p0 &&& (3 : Int32))), .val (.ref b42)] []))) (fun t k => RoadKit.acmp X51 hx rfl (x := .null) (y := .null) rfl rfl (pc0 := 136) (pc' := 139) (same := true) rfl (hb hby at_136) rfl (by simp) (by decide) (by decide) k) ?_
          refine OD.go (B := (T51.setTop (mkF m 141 #[.val (.int p0), .val (.int p1), .val (.long lq), .second, .val (.int p3), .val (.int p4), .val (.ref b1), .val .null, .val (.int (p0 &&& (3 : Int32))), .val (.ref b42)] [(.ref b42)]))) (fun t k => XS.aload X51.here hx rfl (hb hby at_139) rfl rfl k) ?_
          obtain ⟨cq52, kq52, qa52, qb52, qc52⟩ := isOf hZ e51 E42
          obtain ⟨_, _, ⟨T52, L52, k52, n52⟩, -, X52, ⟨Lc52, hQ52, l52, y52, z52⟩, st52⟩ := X51.virtualBack hx (y := (⟨"com/example/echo_panel/echopanel/channel/ChannelState", "limits", "()Lcom/example/echo_panel/echopanel/channel/DisplayLimits;"⟩ : MethodName)) (z := (⟨"com/example/echo_panel/echopanel/channel/ChannelState", "limits", "()Lcom/example/echo_panel/echopanel/channel/DisplayLimits;"⟩ : MethodName)) hown (mvT hZ (Wd97 hw)) (mvT hZ (Wd98 hw)) (notFace_of_selects (args := #[]) (mvT hZ (Wd100 hw))) (mvT hZ (Wd100 hw)) (mvT hZ (Wd99 hw)) (by decide) (backOf (W := 0) (rmX5_0 l Z a0 hw [] b42 T42.heap  G5_42) hZ (Wd101 hw) (Wd3 hw) (by decide) (by decide)) qa52 qc52 (g := (mkF m 141 #[.val (.int p0), .val (.int p1), .val (.long lq), .second, .val (.int p3), .val (.int p4), .val (.ref b1), .val .null, .val (.int (p0 &&& (3 : Int32))), .val (.ref b42)] [(.ref b42)])) rfl (by rw [hml]; rfl) (Steps.refl _) (argsL := []) (rest := []) (lenOf pd12 rfl) rfl (by show 2 * 0 + _ ≤ _; exact Nat.le_of_eq rfl) (hb hby at_141) (fun _ _ => ⟨rfl, e51, (Nat.le_of_ble_eq_true rfl), (Nat.le_of_ble_eq_true rfl)⟩)
          dsimp only [Pt.U, Pt.locs, Pt.cells, Pt.slots] at X52 l52 y52 z52 st52 hQ52
          subst l52 y52 z52
          obtain ⟨rfl, rfl, e52⟩ := hQ52
          have N52 := Fr.app N51 (Fr.nil _)
          refine OD.via (B := (T52.setTop (mkF m 144 #[.val (.int p0), .val (.int p1), .val (.long lq), .second, .val (.int p3), .val (.int p4), .val (.ref b1), .val .null, .val (.int (p0 &&& (3 : Int32))), .val (.ref b42)] [.null]))) st52 ?_
          refine OD.go (B := (T52.setTop (mkF m 147 #[.val (.int p0), .val (.int p1), .val (.long lq), .second, .val (.int p3), .val (.int p4), .val (.ref b1), .val .null, .val (.int (p0 &&& (3 : Int32))), .val (.ref b42)] []))) (fun t k => XS.ifnonnullNo X52.here hx rfl (hb hby at_144) rfl k) ?_
          refine OD.go (B := (T52.setTop (mkF m 148 #[.val (.int p0), .val (.int p1), .val (.long lq), .second, .val (.int p3), .val (.int p4), .val (.ref b1), .val .null, .val (.int (p0 &&& (3 : Int32))), .val (.ref b42)] [(.int (1 : Int32))]))) (fun t k => XS.iconst X52.here hx rfl (hb hby at_147) k) ?_
          refine OD.go (B := (T52.setTop (mkF m 152 #[.val (.int p0), .val (.int p1), .val (.long lq), .second, .val (.int p3), .val (.int p4), .val (.ref b1), .val .null, .val (.int (p0 &&& (3 : Int32))), .val (.ref b42)] [(.int (1 : Int32))]))) (fun t k => XS.goto X52.here hx rfl (pc0 := 148) (pc' := 152) rfl (hb hby at_148) (by decide) (by decide) k) ?_
          exact OD.ret X52 hx hlk (t := .boolean) Bd.returns rfl (Or.inl ⟨rfl, Or.inr (Or.inl rfl), _, rfl⟩) (hb hby at_152) (Nat.le_of_ble_eq_true rfl) (Nat.le_of_ble_eq_true rfl) ⟨rfl, N52⟩
        · refine OD.go (B := (T41.setTop (mkF m 66 #[.val (.int p0), .val (.int p1), .val (.long lq), .second, .val (.int p3), .val (.int p4), .val (.ref b1), .unset, .val (.int (p0 &&& (3 : Int32))), .unset] [(.ref b41)]))) st41 ?_
          refine OD.go (B := (T41.setTop (mkF m 68 #[.val (.int p0), .val (.int p1), .val (.long lq), .second, .val (.int p3), .val (.int p4), .val (.ref b1), .val (.ref b41), .val (.int (p0 &&& (3 : Int32))), .unset] []))) (fun t k => XS.astore X41.here hx rfl (hb hby at_66) rfl rfl (l' := #[.val (.int p0), .val (.int p1), .val (.long lq), .second, .val (.int p3), .val (.int p4), .val (.ref b1), .val (.ref b41), .val (.int (p0 &&& (3 : Int32))), .unset]) rfl k) ?_
          refine OD.go (B := (T41.setTop (mkF m 82 #[.val (.int p0), .val (.int p1), .val (.long lq), .second, .val (.int p3), .val (.int p4), .val (.ref b1), .val (.ref b41), .val (.int (p0 &&& (3 : Int32))), .unset] []))) (fun t k => XS.goto X41.here hx rfl (pc0 := 68) (pc' := 82) rfl (hb hby at_68) (by decide) (by decide) k) ?_
          refine OD.go (B := (T41.setTop (mkF m 84 #[.val (.int p0), .val (.int p1), .val (.long lq), .second, .val (.int p3), .val (.int p4), .val (.ref b1), .val (.ref b41), .val (.int (p0 &&& (3 : Int32))), .unset] [(.ref b41)]))) (fun t k => XS.aload X41.here hx rfl (hb hby at_82) rfl rfl k) ?_
          obtain ⟨_, _, ⟨T53, L53, k53, n53⟩, -, X53, ⟨Lc53, hQ53, l53, y53, z53⟩, st53⟩ := Jvm.LawKit.callS X41 hx (y := (⟨"com/example/echo_panel/echopanel/channel/ChannelState", "of", "(Ljava/lang/Object;)Lcom/example/echo_panel/echopanel/channel/ChannelState;"⟩ : MethodName)) hown (mvT hZ (Wd1 hw)) (mvT hZ (Wd2 hw)) (mvT hZ (Wd3 hw)) (mvT hZ (Wd4 hw)) (by decide) (backOf (W := 0) (rmOf_11 l Z a0 hw [] b41 T41.heap h0.size ((((X00.ext E1).wr W2 (Nat.le_trans (Nat.le_refl _) (Nat.le_of_eq g1.symm))).wr W3 (Nat.le_trans (Nat.le_refl _) (Nat.le_of_eq g1.symm))).keep K41 all0) el ea kE Se Ee Fa Fel Ae (Nat.le_trans (Nat.le_trans (Nat.le_trans (Nat.le_trans (Nat.le_refl _) E1.1) (Keep.of_wr W2).1) (Keep.of_wr W3).1) K41.1) sv Ss) hZ (Wd4 hw) (Wd3 hw) (by decide) (by decide)) (g := (mkF m 84 #[.val (.int p0), .val (.int p1), .val (.long lq), .second, .val (.int p3), .val (.int p4), .val (.ref b1), .val (.ref b41), .val (.int (p0 &&& (3 : Int32))), .unset] [(.ref b41)])) rfl (by rw [hml]; rfl) (argsL := [(.ref b41)]) (rest := []) (lenOf pd7 rfl) rfl (by show 2 * 0 + _ ≤ _; exact Nat.le_of_eq rfl) (hb hby at_84) (fun _ _ => ⟨rfl, rfl, (Nat.le_of_ble_eq_true rfl), (Nat.le_of_ble_eq_true rfl)⟩)
          dsimp only [Pt.U, Pt.locs, Pt.cells, Pt.slots] at X53 l53 y53 z53 st53 hQ53
          subst l53 y53 z53
          obtain ⟨b53, rfl, Nq53, K53, ob53, E53, G0_53, G1_53, G2_53, G3_53, G4_53, G5_53⟩ := hQ53
          have N53 := Fr.app N41 Nq53
          refine OD.go (B := (T53.setTop (mkF m 87 #[.val (.int p0), .val (.int p1), .val (.long lq), .second, .val (.int p3), .val (.int p4), .val (.ref b1), .val (.ref b41), .val (.int (p0 &&& (3 : Int32))), .unset] [(.ref b53)]))) st53 ?_
          refine OD.go (B := (T53.setTop (mkF m 89 #[.val (.int p0), .val (.int p1), .val (.long lq), .second, .val (.int p3), .val (.int p4), .val (.ref b1), .val (.ref b41), .val (.int (p0 &&& (3 : Int32))), .val (.ref b53)] []))) (fun t k => XS.astore X53.here hx rfl (hb hby at_87) rfl rfl (l' := #[.val (.int p0), .val (.int p1), .val (.long lq), .second, .val (.int p3), .val (.int p4), .val (.ref b1), .val (.ref b41), .val (.int (p0 &&& (3 : Int32))), .val (.ref b53)]) rfl k) ?_
          refine OD.go (B := (T53.setTop (mkF m 91 #[.val (.int p0), .val (.int p1), .val (.long lq), .second, .val (.int p3), .val (.int p4), .val (.ref b1), .val (.ref b41), .val (.int (p0 &&& (3 : Int32))), .val (.ref b53)] [(.ref b53)]))) (fun t k => XS.aload X53.here hx rfl (hb hby at_89) rfl rfl k) ?_
          obtain ⟨cq54, kq54, qa54, qb54, qc54⟩ := isOf hZ rfl E53
          obtain ⟨_, _, ⟨T54, L54, k54, n54⟩, -, X54, ⟨Lc54, hQ54, l54, y54, z54⟩, st54⟩ := X53.virtualBack hx (y := (⟨"com/example/echo_panel/echopanel/channel/ChannelState", "connected", "()Z"⟩ : MethodName)) (z := (⟨"com/example/echo_panel/echopanel/channel/ChannelState", "connected", "()Z"⟩ : MethodName)) hown (mvT hZ (Wd60 hw)) (mvT hZ (Wd61 hw)) (notFace_of_selects (args := #[]) (mvT hZ (Wd63 hw))) (mvT hZ (Wd63 hw)) (mvT hZ (Wd62 hw)) (by decide) (backOf (W := 0) (rmX0_I l Z a0 hw [] b53 T53.heap (1 : Int32) G0_53 rfl) hZ (Wd64 hw) (Wd3 hw) (by decide) (by decide)) qa54 qc54 (g := (mkF m 91 #[.val (.int p0), .val (.int p1), .val (.long lq), .second, .val (.int p3), .val (.int p4), .val (.ref b1), .val (.ref b41), .val (.int (p0 &&& (3 : Int32))), .val (.ref b53)] [(.ref b53)])) rfl (by rw [hml]; rfl) (Steps.refl _) (argsL := []) (rest := []) (lenOf pd8 rfl) rfl (by show 2 * 0 + _ ≤ _; exact Nat.le_of_eq rfl) (hb hby at_91) (fun _ _ => ⟨rfl, rfl, (Nat.le_of_ble_eq_true rfl), (Nat.le_of_ble_eq_true rfl)⟩)
          dsimp only [Pt.U, Pt.locs, Pt.cells, Pt.slots] at X54 l54 y54 z54 st54 hQ54
          subst l54 y54 z54
          obtain ⟨rfl, rfl, e54⟩ := hQ54
          have N54 := Fr.app N53 (Fr.nil _)
          refine OD.via (B := (T54.setTop (mkF m 94 #[.val (.int p0), .val (.int p1), .val (.long lq), .second, .val (.int p3), .val (.int p4), .val (.ref b1), .val (.ref b41), .val (.int (p0 &&& (3 : Int32))), .val (.ref b53)] [(.int (1 : Int32))]))) st54 ?_
          refine OD.go (B := (T54.setTop (mkF m 97 #[.val (.int p0), .val (.int p1), .val (.long lq), .second, .val (.int p3), .val (.int p4), .val (.ref b1), .val (.ref b41), .val (.int (p0 &&& (3 : Int32))), .val (.ref b53)] []))) (fun t k => XS.ifNo X54.here hx rfl (hb hby at_94) rfl (by rw [if0]; exact (feq (by decide : ¬ (1 : Int32) = (0 : Int32))).1) k) ?_
          refine OD.go (B := (T54.setTop (mkF m 99 #[.val (.int p0), .val (.int p1), .val (.long lq), .second, .val (.int p3), .val (.int p4), .val (.ref b1), .val (.ref b41), .val (.int (p0 &&& (3 : Int32))), .val (.ref b53)] [(.ref b53)]))) (fun t k => XS.aload X54.here hx rfl (hb hby at_97) rfl rfl k) ?_
          obtain ⟨cq55, kq55, qa55, qb55, qc55⟩ := isOf hZ e54 E53
          obtain ⟨_, _, ⟨T55, L55, k55, n55⟩, -, X55, ⟨Lc55, hQ55, l55, y55, z55⟩, st55⟩ := X54.virtualBack hx (y := (⟨"com/example/echo_panel/echopanel/channel/ChannelState", "severity", "()Lcom/example/echo_panel/echopanel/channel/Severity;"⟩ : MethodName)) (z := (⟨"com/example/echo_panel/echopanel/channel/ChannelState", "severity", "()Lcom/example/echo_panel/echopanel/channel/Severity;"⟩ : MethodName)) hown (mvT hZ (Wd65 hw)) (mvT hZ (Wd66 hw)) (notFace_of_selects (args := #[]) (mvT hZ (Wd68 hw))) (mvT hZ (Wd68 hw)) (mvT hZ (Wd67 hw)) (by decide) (backOf (W := 0) (rmX1_1 l Z a0 hw [] b53 T53.heap sv G1_53) hZ (Wd69 hw) (Wd3 hw) (by decide) (by decide)) qa55 qc55 (g := (mkF m 99 #[.val (.int p0), .val (.int p1), .val (.long lq), .second, .val (.int p3), .val (.int p4), .val (.ref b1), .val (.ref b41), .val (.int (p0 &&& (3 : Int32))), .val (.ref b53)] [(.ref b53)])) rfl (by rw [hml]; rfl) (Steps.refl _) (argsL := []) (rest := []) (lenOf pd9 rfl) rfl (by show 2 * 0 + _ ≤ _; exact Nat.le_of_eq rfl) (hb hby at_99) (fun _ _ => ⟨rfl, e54, (Nat.le_of_ble_eq_true rfl), (Nat.le_of_ble_eq_true rfl)⟩)
          dsimp only [Pt.U, Pt.locs, Pt.cells, Pt.slots] at X55 l55 y55 z55 st55 hQ55
          subst l55 y55 z55
          obtain ⟨rfl, rfl, e55⟩ := hQ55
          have N55 := Fr.app N54 (Fr.nil _)
          refine OD.via (B := (T55.setTop (mkF m 102 #[.val (.int p0), .val (.int p1), .val (.long lq), .second, .val (.int p3), .val (.int p4), .val (.ref b1), .val (.ref b41), .val (.int (p0 &&& (3 : Int32))), .val (.ref b53)] [(.ref sv)]))) st55 ?_
          have f56 := (Ss.ext (((((X00.ext E1).wr W2 (Nat.le_trans (Nat.le_refl _) (Nat.le_of_eq g1.symm))).wr W3 (Nat.le_trans (Nat.le_refl _) (Nat.le_of_eq g1.symm))).keep K41 all0).keep K53 all0).2)
          obtain ⟨T57, X57, e57, st57⟩ := getS2 X55 hx hZ hown (host := "") (Or.inl (Wd70 hw)) Via.refl e55 f56 (g := (mkF m 102 #[.val (.int p0), .val (.int p1), .val (.long lq), .second, .val (.int p3), .val (.int p4), .val (.ref b1), .val (.ref b41), .val (.int (p0 &&& (3 : Int32))), .val (.ref b53)] [(.ref sv)])) rfl (hb hby at_102)
          refine OD.go (B := (T57.setTop (mkF m 105 #[.val (.int p0), .val (.int p1), .val (.long lq), .second, .val (.int p3), .val (.int p4), .val (.ref b1), .val (.ref b41), .val (.int (p0 &&& (3 : Int32))), .val (.ref b53)] [(.ref sv), (.ref sv)]))) st57 ?_
          refine OD.go (B := (T57.setTop (mkF m 108 #[.val (.int p0), .val (.int p1), .val (.long lq), .second, .val (.int p3), .val (.int p4), .val (.ref b1), .val (.ref b41), .val (.int (p0 &&& (3 : Int32))), .val (.ref b53)] []))) (fun t k => RoadKit.acmp X57 hx rfl (x := (.ref sv)) (y := (.ref sv)) rfl rfl (pc0 := 105) (pc' := 108) (same := true) rfl (hb hby at_105) rfl (by simp) (by decide) (by decide) k) ?_
          refine OD.go (B := (T57.setTop (mkF m 110 #[.val (.int p0), .val (.int p1), .val (.long lq), .second, .val (.int p3), .val (.int p4), .val (.ref b1), .val (.ref b41), .val (.int (p0 &&& (3 : Int32))), .val (.ref b53)] [(.ref b53)]))) (fun t k => XS.aload X57.here hx rfl (hb hby at_108) rfl rfl k) ?_
          obtain ⟨cq58, kq58, qa58, qb58, qc58⟩ := isOf hZ e57 E53
          obtain ⟨_, _, ⟨T58, L58, k58, n58⟩, -, X58, ⟨Lc58, hQ58, l58, y58, z58⟩, st58⟩ := X57.virtualBack hx (y := (⟨"com/example/echo_panel/echopanel/channel/ChannelState", "precision", "()I"⟩ : MethodName)) (z := (⟨"com/example/echo_panel/echopanel/channel/ChannelState", "precision", "()I"⟩ : MethodName)) hown (mvT hZ (Wd71 hw)) (mvT hZ (Wd72 hw)) (notFace_of_selects (args := #[]) (mvT hZ (Wd74 hw))) (mvT hZ (Wd74 hw)) (mvT hZ (Wd73 hw)) (by decide) (backOf (W := 0) (rmX2_I l Z a0 hw [] b53 T53.heap (0 : Int32) G2_53) hZ (Wd75 hw) (Wd3 hw) (by decide) (by decide)) qa58 qc58 (g := (mkF m 110 #[.val (.int p0), .val (.int p1), .val (.long lq), .second, .val (.int p3), .val (.int p4), .val (.ref b1), .val (.ref b41), .val (.int (p0 &&& (3 : Int32))), .val (.ref b53)] [(.ref b53)])) rfl (by rw [hml]; rfl) (Steps.refl _) (argsL := []) (rest := []) (lenOf pd10 rfl) rfl (by show 2 * 0 + _ ≤ _; exact Nat.le_of_eq rfl) (hb hby at_110) (fun _ _ => ⟨rfl, e57, (Nat.le_of_ble_eq_true rfl), (Nat.le_of_ble_eq_true rfl)⟩)
          dsimp only [Pt.U, Pt.locs, Pt.cells, Pt.slots] at X58 l58 y58 z58 st58 hQ58
          subst l58 y58 z58
          obtain ⟨rfl, rfl, e58⟩ := hQ58
          have N58 := Fr.app N55 (Fr.nil _)
          refine OD.via (B := (T58.setTop (mkF m 113 #[.val (.int p0), .val (.int p1), .val (.long lq), .second, .val (.int p3), .val (.int p4), .val (.ref b1), .val (.ref b41), .val (.int (p0 &&& (3 : Int32))), .val (.ref b53)] [(.int (0 : Int32))]))) st58 ?_
          refine OD.go (B := (T58.setTop (mkF m 116 #[.val (.int p0), .val (.int p1), .val (.long lq), .second, .val (.int p3), .val (.int p4), .val (.ref b1), .val (.ref b41), .val (.int (p0 &&& (3 : Int32))), .val (.ref b53)] []))) (fun t k => XS.ifNo X58.here hx rfl (hb hby at_113) rfl (by rw [if0]; exact (teq (by decide : (0 : Int32) = (0 : Int32))).2) k) ?_
          refine OD.go (B := (T58.setTop (mkF m 118 #[.val (.int p0), .val (.int p1), .val (.long lq), .second, .val (.int p3), .val (.int p4), .val (.ref b1), .val (.ref b41), .val (.int (p0 &&& (3 : Int32))), .val (.ref b53)] [(.ref b53)]))) (fun t k => XS.aload X58.here hx rfl (hb hby at_116) rfl rfl k) ?_
          obtain ⟨cq59, kq59, qa59, qb59, qc59⟩ := isOf hZ e58 E53
          obtain ⟨_, _, ⟨T59, L59, k59, n59⟩, -, X59, ⟨Lc59, hQ59, l59, y59, z59⟩, st59⟩ := X58.virtualBack hx (y := (⟨"com/example/echo_panel/echopanel/channel/ChannelState", "labels", "()Ljava/util/List;"⟩ : MethodName)) (z := (⟨"com/example/echo_panel/echopanel/channel/ChannelState", "labels", "()Ljava/util/List;"⟩ : MethodName)) hown (mvT hZ (Wd76 hw)) (mvT hZ (Wd77 hw)) (notFace_of_selects (args := #[]) (mvT hZ (Wd79 hw))) (mvT hZ (Wd79 hw)) (mvT hZ (Wd78 hw)) (by decide) (backOf (W := 0) (rmX3_1 l Z a0 hw [] b53 T53.heap el G3_53) hZ (Wd80 hw) (Wd3 hw) (by decide) (by decide)) qa59 qc59 (g := (mkF m 118 #[.val (.int p0), .val (.int p1), .val (.long lq), .second, .val (.int p3), .val (.int p4), .val (.ref b1), .val (.ref b41), .val (.int (p0 &&& (3 : Int32))), .val (.ref b53)] [(.ref b53)])) rfl (by rw [hml]; rfl) (Steps.refl _) (argsL := []) (rest := []) (lenOf pd5 rfl) rfl (by show 2 * 0 + _ ≤ _; exact Nat.le_of_eq rfl) (hb hby at_118) (fun _ _ => ⟨rfl, e58, (Nat.le_of_ble_eq_true rfl), (Nat.le_of_ble_eq_true rfl)⟩)
          dsimp only [Pt.U, Pt.locs, Pt.cells, Pt.slots] at X59 l59 y59 z59 st59 hQ59
          subst l59 y59 z59
          obtain ⟨rfl, rfl, e59⟩ := hQ59
          have N59 := Fr.app N58 (Fr.nil _)
          refine OD.via (B := (T59.setTop (mkF m 121 #[.val (.int p0), .val (.int p1), .val (.long lq), .second, .val (.int p3), .val (.int p4), .val (.ref b1), .val (.ref b41), .val (.int (p0 &&& (3 : Int32))), .val (.ref b53)] [(.ref el)]))) st59 ?_
          have f60 := (Ee.ext (((((X00.ext E1).wr W2 (Nat.le_trans (Nat.le_refl _) (Nat.le_of_eq g1.symm))).wr W3 (Nat.le_trans (Nat.le_refl _) (Nat.le_of_eq g1.symm))).keep K41 all0).keep K53 all0).2)
          obtain ⟨cq61, kq61, qa61, qb61, qc61⟩ := isOf hZ e59 f60
          obtain ⟨_, _, ⟨T61, L61, k61, n61⟩, -, X61, ⟨Lc61, hQ61, l61, y61, z61⟩, st61⟩ := X59.interfaceBack hx (xi := (⟨"java/util/List", "size", "()I"⟩ : MethodName)) (y := (⟨"java/util/ImmutableCollections$ListN", "size", "()I"⟩ : MethodName)) hown (mvT hZ (Wd81 hw)) (mvT hZ (Wd82 hw)) (mvT hZ (Wd83 hw)) (mvT hZ (Wd84 hw)) (mvT hZ (Wd85 hw)) (mvT hZ (Wd86 hw)) (mvT hZ (Wd87 hw)) (mvT hZ (Wd47 hw)) (by decide) (backOf (W := 0) (rmSZ l Z a0 hw [] el T53.heap h0.size (((((X00.ext E1).wr W2 (Nat.le_trans (Nat.le_refl _) (Nat.le_of_eq g1.symm))).wr W3 (Nat.le_trans (Nat.le_refl _) (Nat.le_of_eq g1.symm))).keep K41 all0).keep K53 all0) ea kE Se Ee Fa Fel Ae) hZ (Wd89 hw) (Wd88 hw) (by decide) (by decide)) qa61 qb61 qc61 (g := (mkF m 121 #[.val (.int p0), .val (.int p1), .val (.long lq), .second, .val (.int p3), .val (.int p4), .val (.ref b1), .val (.ref b41), .val (.int (p0 &&& (3 : Int32))), .val (.ref b53)] [(.ref el)])) rfl (by rw [hml]; rfl) (Steps.refl _) (argsL := []) (rest := []) (lenOf pd10 rfl) rfl (by show 2 * 0 + _ ≤ _; exact Nat.le_of_eq rfl) (hb hby at_121) (fun _ _ => ⟨rfl, e59, (Nat.le_of_ble_eq_true rfl), (Nat.le_of_ble_eq_true rfl)⟩)
          dsimp only [Pt.U, Pt.locs, Pt.cells, Pt.slots] at X61 l61 y61 z61 st61 hQ61
          subst l61 y61 z61
          obtain ⟨rfl, rfl, e61⟩ := hQ61
          have N61 := Fr.app N59 (Fr.nil _)
          refine OD.via (B := (T61.setTop (mkF m 126 #[.val (.int p0), .val (.int p1), .val (.long lq), .second, .val (.int p3), .val (.int p4), .val (.ref b1), .val (.ref b41), .val (.int (p0 &&& (3 : Int32))), .val (.ref b53)] [(.int (0 : Int32))]))) st61 ?_
          refine OD.go (B := (T61.setTop (mkF m 129 #[.val (.int p0), .val (.int p1), .val (.long lq), .second, .val (.int p3), .val (.int p4), .val (.ref b1), .val (.ref b41), .val (.int (p0 &&& (3 : Int32))), .val (.ref b53)] []))) (fun t k => XS.ifNo X61.here hx rfl (hb hby at_126) rfl (by rw [if0]; exact (teq (by decide : (0 : Int32) = (0 : Int32))).2) k) ?_
          refine OD.go (B := (T61.setTop (mkF m 131 #[.val (.int p0), .val (.int p1), .val (.long lq), .second, .val (.int p3), .val (.int p4), .val (.ref b1), .val (.ref b41), .val (.int (p0 &&& (3 : Int32))), .val (.ref b53)] [(.ref b53)]))) (fun t k => XS.aload X61.here hx rfl (hb hby at_129) rfl rfl k) ?_
          obtain ⟨cq62, kq62, qa62, qb62, qc62⟩ := isOf hZ e61 E53
          obtain ⟨_, _, ⟨T62, L62, k62, n62⟩, -, X62, ⟨Lc62, hQ62, l62, y62, z62⟩, st62⟩ := X61.virtualBack hx (y := (⟨"com/example/echo_panel/echopanel/channel/ChannelState", "value", "()Ljava/lang/Object;"⟩ : MethodName)) (z := (⟨"com/example/echo_panel/echopanel/channel/ChannelState", "value", "()Ljava/lang/Object;"⟩ : MethodName)) hown (mvT hZ (Wd92 hw)) (mvT hZ (Wd93 hw)) (notFace_of_selects (args := #[]) (mvT hZ (Wd95 hw))) (mvT hZ (Wd95 hw)) (mvT hZ (Wd94 hw)) (by decide) (backOf (W := 0) (rmX4_1 l Z a0 hw [] b53 T53.heap b41 G4_53) hZ (Wd96 hw) (Wd3 hw) (by decide) (by decide)) qa62 qc62 (g := (mkF m 131 #[.val (.int p0), .val (.int p1), .val (.long lq), .second, .val (.int p3), .val (.int p4), .val (.ref b1), .val (.ref b41), .val (.int (p0 &&& (3 : Int32))), .val (.ref b53)] [(.ref b53)])) rfl (by rw [hml]; rfl) (Steps.refl _) (argsL := []) (rest := []) (lenOf pd11 rfl) rfl (by show 2 * 0 + _ ≤ _; exact Nat.le_of_eq rfl) (hb hby at_131) (fun _ _ => ⟨rfl, e61, (Nat.le_of_ble_eq_true rfl), (Nat.le_of_ble_eq_true rfl)⟩)
          dsimp only [Pt.U, Pt.locs, Pt.cells, Pt.slots] at X62 l62 y62 z62 st62 hQ62
          subst l62 y62 z62
          obtain ⟨rfl, rfl, e62⟩ := hQ62
          have N62 := Fr.app N61 (Fr.nil _)
          refine OD.via (B := (T62.setTop (mkF m 134 #[.val (.int p0), .val (.int p1), .val (.long lq), .second, .val (.int p3), .val (.int p4), .val (.ref b1), .val (.ref b41), .val (.int (p0 &&& (3 : Int32))), .val (.ref b53)] [(.ref b41)]))) st62 ?_
          refine OD.go (B := (T62.setTop (mkF m 136 #[.val (.int p0), .val (.int p1), .val (.long lq), .second, .val (.int p3), .val (.int p4), .val (.ref b1), .val (.ref b41), .val (.int (p0 &&& (3 : Int32))), .val (.ref b53)] [(.ref b41), (.ref b41)]))) (fun t k => XS.aload X62.here hx rfl (hb hby at_134) rfl rfl k) ?_
          refine OD.go (B := (T62.setTop (mkF m 139 #[.val (.int p0), .val (.int p1), .val (.long lq), .second, .val (.int p3), .val (.int p4), .val (.ref b1), .val (.ref b41), .val (.int (p0 &&& (3 : Int32))), .val (.ref b53)] []))) (fun t k => RoadKit.acmp X62 hx rfl (x := (.ref b41)) (y := (.ref b41)) rfl rfl (pc0 := 136) (pc' := 139) (same := true) rfl (hb hby at_136) rfl (by simp) (by decide) (by decide) k) ?_
          refine OD.go (B := (T62.setTop (mkF m 141 #[.val (.int p0), .val (.int p1), .val (.long lq), .second, .val (.int p3), .val (.int p4), .val (.ref b1), .val (.ref b41), .val (.int (p0 &&& (3 : Int32))), .val (.ref b53)] [(.ref b53)]))) (fun t k => XS.aload X62.here hx rfl (hb hby at_139) rfl rfl k) ?_
          obtain ⟨cq63, kq63, qa63, qb63, qc63⟩ := isOf hZ e62 E53
          obtain ⟨_, _, ⟨T63, L63, k63, n63⟩, -, X63, ⟨Lc63, hQ63, l63, y63, z63⟩, st63⟩ := X62.virtualBack hx (y := (⟨"com/example/echo_panel/echopanel/channel/ChannelState", "limits", "()Lcom/example/echo_panel/echopanel/channel/DisplayLimits;"⟩ : MethodName)) (z := (⟨"com/example/echo_panel/echopanel/channel/ChannelState", "limits", "()Lcom/example/echo_panel/echopanel/channel/DisplayLimits;"⟩ : MethodName)) hown (mvT hZ (Wd97 hw)) (mvT hZ (Wd98 hw)) (notFace_of_selects (args := #[]) (mvT hZ (Wd100 hw))) (mvT hZ (Wd100 hw)) (mvT hZ (Wd99 hw)) (by decide) (backOf (W := 0) (rmX5_0 l Z a0 hw [] b53 T53.heap  G5_53) hZ (Wd101 hw) (Wd3 hw) (by decide) (by decide)) qa63 qc63 (g := (mkF m 141 #[.val (.int p0), .val (.int p1), .val (.long lq), .second, .val (.int p3), .val (.int p4), .val (.ref b1), .val (.ref b41), .val (.int (p0 &&& (3 : Int32))), .val (.ref b53)] [(.ref b53)])) rfl (by rw [hml]; rfl) (Steps.refl _) (argsL := []) (rest := []) (lenOf pd12 rfl) rfl (by show 2 * 0 + _ ≤ _; exact Nat.le_of_eq rfl) (hb hby at_141) (fun _ _ => ⟨rfl, e62, (Nat.le_of_ble_eq_true rfl), (Nat.le_of_ble_eq_true rfl)⟩)
          dsimp only [Pt.U, Pt.locs, Pt.cells, Pt.slots] at X63 l63 y63 z63 st63 hQ63
          subst l63 y63 z63
          obtain ⟨rfl, rfl, e63⟩ := hQ63
          have N63 := Fr.app N62 (Fr.nil _)
          refine OD.via (B := (T63.setTop (mkF m 144 #[.val (.int p0), .val (.int p1), .val (.long lq), .second, .val (.int p3), .val (.int p4), .val (.ref b1), .val (.ref b41), .val (.int (p0 &&& (3 : Int32))), .val (.ref b53)] [.null]))) st63 ?_
          refine OD.go (B := (T63.setTop (mkF m 147 #[.val (.int p0), .val (.int p1), .val (.long lq), .second, .val (.int p3), .val (.int p4), .val (.ref b1), .val (.ref b41), .val (.int (p0 &&& (3 : Int32))), .val (.ref b53)] []))) (fun t k => XS.ifnonnullNo X63.here hx rfl (hb hby at_144) rfl k) ?_
          refine OD.go (B := (T63.setTop (mkF m 148 #[.val (.int p0), .val (.int p1), .val (.long lq), .second, .val (.int p3), .val (.int p4), .val (.ref b1), .val (.ref b41), .val (.int (p0 &&& (3 : Int32))), .val (.ref b53)] [(.int (1 : Int32))]))) (fun t k => XS.iconst X63.here hx rfl (hb hby at_147) k) ?_
          refine OD.go (B := (T63.setTop (mkF m 152 #[.val (.int p0), .val (.int p1), .val (.long lq), .second, .val (.int p3), .val (.int p4), .val (.ref b1), .val (.ref b41), .val (.int (p0 &&& (3 : Int32))), .val (.ref b53)] [(.int (1 : Int32))]))) (fun t k => XS.goto X63.here hx rfl (pc0 := 148) (pc' := 152) rfl (hb hby at_148) (by decide) (by decide) k) ?_
          exact OD.ret X63 hx hlk (t := .boolean) Bd.returns rfl (Or.inl ⟨rfl, Or.inr (Or.inl rfl), _, rfl⟩) (hb hby at_152) (Nat.le_of_ble_eq_true rfl) (Nat.le_of_ble_eq_true rfl) ⟨rfl, N63⟩
      · refine OD.go (B := (T3.setTop (mkF m 71 #[.val (.int p0), .val (.int p1), .val (.long lq), .second, .val (.int p3), .val (.int p4), .val (.ref b1), .unset, .val (.int (p0 &&& (3 : Int32))), .unset] []))) (fun t k => XS.icmpYes X3.here hx rfl (pc0 := 59) (pc' := 71) rfl (hb hby at_59) rfl (feq c59_40).2 (by decide) (by decide) k) ?_
        obtain ⟨T64, h64, X64, e64, E64, A64, D64, -, st64⟩ := newO X3 hx hZ hown (Wd109 hw) (Wd110 hw) (Wd111 hw) e3 (g := (mkF m 71 #[.val (.int p0), .val (.int p1), .val (.long lq), .second, .val (.int p3), .val (.int p4), .val (.ref b1), .unset, .val (.int (p0 &&& (3 : Int32))), .unset] [])) rfl (hb hby at_71) (Nat.le_of_ble_eq_true rfl) (Nat.le_of_ble_eq_true rfl)
        obtain ⟨b64, g64⟩ : ∃ z, z = h3.size := ⟨_, rfl⟩
        rw [← g64] at A64 D64 st64
        have Fn65 : Fld Z h64 b64 "java/lang/String" "coder" "B" (.int (0 : Int32)) := D64 (Or.inr (Wd133 hw)) (ty := .byte) (by decide)
        have Fn66 : Fld Z h64 b64 "java/lang/String" "value" "[B" .null := D64 (Or.inr (Wd135 hw)) (ty := (.array .byte)) (by decide)
        refine OD.go (B := (T64.setTop (mkF m 74 #[.val (.int p0), .val (.int p1), .val (.long lq), .second, .val (.int p3), .val (.int p4), .val (.ref b1), .unset, .val (.int (p0 &&& (3 : Int32))), .unset] [(.ref b64)]))) st64 ?_
        refine OD.go (B := (T64.setTop (mkF m 75 #[.val (.int p0), .val (.int p1), .val (.long lq), .second, .val (.int p3), .val (.int p4), .val (.ref b1), .unset, .val (.int (p0 &&& (3 : Int32))), .unset] [(.ref b64), (.ref b64)]))) (fun t k => XS.dup X64.here hx rfl (hb hby at_74) rfl rfl k) ?_
        refine OD.go (B := (T64.setTop (mkF m 77 #[.val (.int p0), .val (.int p1), .val (.long lq), .second, .val (.int p3), .val (.int p4), .val (.ref b1), .unset, .val (.int (p0 &&& (3 : Int32))), .unset] [(.ref b1), (.ref b64), (.ref b64)]))) (fun t k => XS.aload X64.here hx rfl (hb hby at_75) rfl rfl k) ?_
        have f67 := (V3.ext E64)
        have K68 : Arv Z h64 b1 k1 .char (2 : Int32) (([(p3 &&& (255 : Int32)).toUInt32.toUInt16.toUInt32.toInt32, (p4 &&& (255 : Int32)).toUInt32.toUInt16.toUInt32.toInt32] : List Int32).map Value.int) (.int (0 : Int32)) := f67
        obtain ⟨_, _, ⟨T69, L69, k69, n69⟩, -, X69, ⟨Lc69, hQ69, l69, y69, z69⟩, st69⟩ := X64.specialBack hx (y := (⟨"java/lang/String", "<init>", "([C)V"⟩ : MethodName)) rfl hown (mvT hZ (Wd112 hw)) (mvT hZ (Wd113 hw)) (mvT hZ (Wd114 hw)) (by decide) (StrChars.Road.backV (W := 1) hZ hws (kI := 4) (Wd110 hw) (cs := ([(p3 &&& (255 : Int32)).toUInt32.toUInt16.toUInt32.toInt32, (p4 &&& (255 : Int32)).toUInt32.toUInt16.toUInt32.toInt32] : List Int32)) (bs := ([(p3 &&& (255 : Int32)).toUInt32.toUInt16.toUInt32.toInt32, (p4 &&& (255 : Int32)).toUInt32.toUInt16.toUInt32.toInt32] : List Int32).map (fun c => c.toInt8.toInt32)) (n := 2) (n0 := h0.size) (Nat.le_trans (Nat.le_trans (Nat.le_trans (Nat.le_trans (Nat.le_refl _) E1.1) (Keep.of_wr W2).1) (Keep.of_wr W3).1) (Nat.le_of_eq g64.symm)) (Nat.le_trans (Nat.le_trans (Nat.le_trans (Nat.le_trans (Nat.le_refl _) E1.1) (Keep.of_wr W2).1) (Keep.of_wr W3).1) E64.1) A64 Fn66 Fn65 K68 (O2.ext ((((X00.ext E1).wr W2 (Nat.le_trans (Nat.le_refl _) (Nat.le_of_eq g1.symm))).wr W3 (Nat.le_trans (Nat.le_refl _) (Nat.le_of_eq g1.symm))).ext E64).2) P5 rfl rfl (by decide) (by decide) (own_all2 (own_c255 _) (own_c255 _)) rfl (by decide) (by decide)) (g := (mkF m 77 #[.val (.int p0), .val (.int p1), .val (.long lq), .second, .val (.int p3), .val (.int p4), .val (.ref b1), .unset, .val (.int (p0 &&& (3 : Int32))), .unset] [(.ref b1), (.ref b64), (.ref b64)])) rfl (by rw [hml]; rfl) (Steps.refl _) (a := b64) (argsL := [(.ref b1)]) (rest := [(.ref b64)]) (lenOf pd15 rfl) rfl (by show 2 * 0 + _ ≤ _; exact Nat.le_of_eq rfl) (hb hby at_77) (fun _ _ => ⟨rfl, e64, (Nat.le_of_ble_eq_true rfl), (Nat.le_of_ble_eq_true rfl)⟩)
        dsimp only [Pt.U, Pt.locs, Pt.cells, Pt.slots] at X69 l69 y69 z69 st69 hQ69
        subst l69 y69 z69
        obtain ⟨rfl, Nq69, K69, E69, C69, t69, kb69, gt69, ht69, nt69, V69, A69⟩ := hQ69
        have N69 := Fr.app N3 Nq69
        have nt69_b1 : b1 ≠ t69 := Nat.ne_of_lt (Nat.lt_of_lt_of_le (Nat.lt_of_lt_of_le (Nat.lt_of_lt_of_le (Nat.lt_of_lt_of_le V1.lt (Keep.of_wr W2).1) (Keep.of_wr W3).1) E64.1) ht69)
        refine OD.via (B := (T69.setTop (mkF m 80 #[.val (.int p0), .val (.int p1), .val (.long lq), .second, .val (.int p3), .val (.int p4), .val (.ref b1), .unset, .val (.int (p0 &&& (3 : Int32))), .unset] [(.ref b64)]))) st69 ?_
        refine OD.go (B := (T69.setTop (mkF m 82 #[.val (.int p0), .val (.int p1), .val (.long lq), .second, .val (.int p3), .val (.int p4), .val (.ref b1), .val (.ref b64), .val (.int (p0 &&& (3 : Int32))), .unset] []))) (fun t k => XS.astore X69.here hx rfl (hb hby at_80) rfl rfl (l' := #[.val (.int p0), .val (.int p1), .val (.long lq), .second, .val (.int p3), .val (.int p4), .val (.ref b1), .val (.ref b64), .val (.int (p0 &&& (3 : Int32))), .unset]) rfl k) ?_
        refine OD.go (B := (T69.setTop (mkF m 84 #[.val (.int p0), .val (.int p1), .val (.long lq), .second, .val (.int p3), .val (.int p4), .val (.ref b1), .val (.ref b64), .val (.int (p0 &&& (3 : Int32))), .unset] [(.ref b64)]))) (fun t k => XS.aload X69.here hx rfl (hb hby at_82) rfl rfl k) ?_
        obtain ⟨_, _, ⟨T70, L70, k70, n70⟩, -, X70, ⟨Lc70, hQ70, l70, y70, z70⟩, st70⟩ := Jvm.LawKit.callS X69 hx (y := (⟨"com/example/echo_panel/echopanel/channel/ChannelState", "of", "(Ljava/lang/Object;)Lcom/example/echo_panel/echopanel/channel/ChannelState;"⟩ : MethodName)) hown (mvT hZ (Wd1 hw)) (mvT hZ (Wd2 hw)) (mvT hZ (Wd3 hw)) (mvT hZ (Wd4 hw)) (by decide) (backOf (W := 0) (rmOf_11 l Z a0 hw [] b64 T69.heap h0.size (((((X00.ext E1).wr W2 (Nat.le_trans (Nat.le_refl _) (Nat.le_of_eq g1.symm))).wr W3 (Nat.le_trans (Nat.le_refl _) (Nat.le_of_eq g1.symm))).ext E64).keep K69 (allS (Nat.le_trans (Nat.le_trans (Nat.le_trans (Nat.le_trans (Nat.le_refl _) E1.1) (Keep.of_wr W2).1) (Keep.of_wr W3).1) (Nat.le_of_eq g64.symm)) all0)) el ea kE Se Ee Fa Fel Ae (Nat.le_trans (Nat.le_trans (Nat.le_trans (Nat.le_trans (Nat.le_trans (Nat.le_refl _) E1.1) (Keep.of_wr W2).1) (Keep.of_wr W3).1) E64.1) K69.1) sv Ss) hZ (Wd4 hw) (Wd3 hw) (by decide) (by decide)) (g := (mkF m 84 #[.val (.int p0), .val (.int p1), .val (.long lq), .second, .val (.int p3), .val (.int p4), .val (.ref b1), .val (.ref b64), .val (.int (p0 &&& (3 : Int32))), .unset] [(.ref b64)])) rfl (by rw [hml]; rfl) (argsL := [(.ref b64)]) (rest := []) (lenOf pd7 rfl) rfl (by show 2 * 0 + _ ≤ _; exact Nat.le_of_eq rfl) (hb hby at_84) (fun _ _ => ⟨rfl, rfl, (Nat.le_of_ble_eq_true rfl), (Nat.le_of_ble_eq_true rfl)⟩)
        dsimp only [Pt.U, Pt.locs, Pt.cells, Pt.slots] at X70 l70 y70 z70 st70 hQ70
        subst l70 y70 z70
        obtain ⟨b70, rfl, Nq70, K70, ob70, E70, G0_70, G1_70, G2_70, G3_70, G4_70, G5_70⟩ := hQ70
        have N70 := Fr.app N69 Nq70
        refine OD.go (B := (T70.setTop (mkF m 87 #[.val (.int p0), .val (.int p1), .val (.long lq), .second, .val (.int p3), .val (.int p4), .val (.ref b1), .val (.ref b64), .val (.int (p0 &&& (3 : Int32))), .unset] [(.ref b70)]))) st70 ?_
        refine OD.go (B := (T70.setTop (mkF m 89 #[.val (.int p0), .val (.int p1), .val (.long lq), .second, .val (.int p3), .val (.int p4), .val (.ref b1), .val (.ref b64), .val (.int (p0 &&& (3 : Int32))), .val (.ref b70)] []))) (fun t k => XS.astore X70.here hx rfl (hb hby at_87) rfl rfl (l' := #[.val (.int p0), .val (.int p1), .val (.long lq), .second, .val (.int p3), .val (.int p4), .val (.ref b1), .val (.ref b64), .val (.int (p0 &&& (3 : Int32))), .val (.ref b70)]) rfl k) ?_
        refine OD.go (B := (T70.setTop (mkF m 91 #[.val (.int p0), .val (.int p1), .val (.long lq), .second, .val (.int p3), .val (.int p4), .val (.ref b1), .val (.ref b64), .val (.int (p0 &&& (3 : Int32))), .val (.ref b70)] [(.ref b70)]))) (fun t k => XS.aload X70.here hx rfl (hb hby at_89) rfl rfl k) ?_
        obtain ⟨cq71, kq71, qa71, qb71, qc71⟩ := isOf hZ rfl E70
        obtain ⟨_, _, ⟨T71, L71, k71, n71⟩, -, X71, ⟨Lc71, hQ71, l71, y71, z71⟩, st71⟩ := X70.virtualBack hx (y := (⟨"com/example/echo_panel/echopanel/channel/ChannelState", "connected", "()Z"⟩ : MethodName)) (z := (⟨"com/example/echo_panel/echopanel/channel/ChannelState", "connected", "()Z"⟩ : MethodName)) hown (mvT hZ (Wd60 hw)) (mvT hZ (Wd61 hw)) (notFace_of_selects (args := #[]) (mvT hZ (Wd63 hw))) (mvT hZ (Wd63 hw)) (mvT hZ (Wd62 hw)) (by decide) (backOf (W := 0) (rmX0_I l Z a0 hw [] b70 T70.heap (1 : Int32) G0_70 rfl) hZ (Wd64 hw) (Wd3 hw) (by decide) (by decide)) qa71 qc71 (g := (mkF m 91 #[.val (.int p0), .val (.int p1), .val (.long lq), .second, .val (.int p3), .val (.int p4), .val (.ref b1), .val (.ref b64), .val (.int (p0 &&& (3 : Int32))), .val (.ref b70)] [(.ref b70)])) rfl (by rw [hml]; rfl) (Steps.refl _) (argsL := []) (rest := []) (lenOf pd8 rfl) rfl (by show 2 * 0 + _ ≤ _; exact Nat.le_of_eq rfl) (hb hby at_91) (fun _ _ => ⟨rfl, rfl, (Nat.le_of_ble_eq_true rfl), (Nat.le_of_ble_eq_true rfl)⟩)
        dsimp only [Pt.U, Pt.locs, Pt.cells, Pt.slots] at X71 l71 y71 z71 st71 hQ71
        subst l71 y71 z71
        obtain ⟨rfl, rfl, e71⟩ := hQ71
        have N71 := Fr.app N70 (Fr.nil _)
        refine OD.via (B := (T71.setTop (mkF m 94 #[.val (.int p0), .val (.int p1), .val (.long lq), .second, .val (.int p3), .val (.int p4), .val (.ref b1), .val (.ref b64), .val (.int (p0 &&& (3 : Int32))), .val (.ref b70)] [(.int (1 : Int32))]))) st71 ?_
        refine OD.go (B := (T71.setTop (mkF m 97 #[.val (.int p0), .val (.int p1), .val (.long lq), .second, .val (.int p3), .val (.int p4), .val (.ref b1), .val (.ref b64), .val (.int (p0 &&& (3 : Int32))), .val (.ref b70)] []))) (fun t k => XS.ifNo X71.here hx rfl (hb hby at_94) rfl (by rw [if0]; exact (feq (by decide : ¬ (1 : Int32) = (0 : Int32))).1) k) ?_
        refine OD.go (B := (T71.setTop (mkF m 99 #[.val (.int p0), .val (.int p1), .val (.long lq), .second, .val (.int p3), .val (.int p4), .val (.ref b1), .val (.ref b64), .val (.int (p0 &&& (3 : Int32))), .val (.ref b70)] [(.ref b70)]))) (fun t k => XS.aload X71.here hx rfl (hb hby at_97) rfl rfl k) ?_
        obtain ⟨cq72, kq72, qa72, qb72, qc72⟩ := isOf hZ e71 E70
        obtain ⟨_, _, ⟨T72, L72, k72, n72⟩, -, X72, ⟨Lc72, hQ72, l72, y72, z72⟩, st72⟩ := X71.virtualBack hx (y := (⟨"com/example/echo_panel/echopanel/channel/ChannelState", "severity", "()Lcom/example/echo_panel/echopanel/channel/Severity;"⟩ : MethodName)) (z := (⟨"com/example/echo_panel/echopanel/channel/ChannelState", "severity", "()Lcom/example/echo_panel/echopanel/channel/Severity;"⟩ : MethodName)) hown (mvT hZ (Wd65 hw)) (mvT hZ (Wd66 hw)) (notFace_of_selects (args := #[]) (mvT hZ (Wd68 hw))) (mvT hZ (Wd68 hw)) (mvT hZ (Wd67 hw)) (by decide) (backOf (W := 0) (rmX1_1 l Z a0 hw [] b70 T70.heap sv G1_70) hZ (Wd69 hw) (Wd3 hw) (by decide) (by decide)) qa72 qc72 (g := (mkF m 99 #[.val (.int p0), .val (.int p1), .val (.long lq), .second, .val (.int p3), .val (.int p4), .val (.ref b1), .val (.ref b64), .val (.int (p0 &&& (3 : Int32))), .val (.ref b70)] [(.ref b70)])) rfl (by rw [hml]; rfl) (Steps.refl _) (argsL := []) (rest := []) (lenOf pd9 rfl) rfl (by show 2 * 0 + _ ≤ _; exact Nat.le_of_eq rfl) (hb hby at_99) (fun _ _ => ⟨rfl, e71, (Nat.le_of_ble_eq_true rfl), (Nat.le_of_ble_eq_true rfl)⟩)
        dsimp only [Pt.U, Pt.locs, Pt.cells, Pt.slots] at X72 l72 y72 z72 st72 hQ72
        subst l72 y72 z72
        obtain ⟨rfl, rfl, e72⟩ := hQ72
        have N72 := Fr.app N71 (Fr.nil _)
        refine OD.via (B := (T72.setTop (mkF m 102 #[.val (.int p0), .val (.int p1), .val (.long lq), .second, .val (.int p3), .val (.int p4), .val (.ref b1), .val (.ref b64), .val (.int (p0 &&& (3 : Int32))), .val (.ref b70)] [(.ref sv)]))) st72 ?_
        have f73 := (Ss.ext ((((((X00.ext E1).wr W2 (Nat.le_trans (Nat.le_refl _) (Nat.le_of_eq g1.symm))).wr W3 (Nat.le_trans (Nat.le_refl _) (Nat.le_of_eq g1.symm))).ext E64).keep K69 (allS (Nat.le_trans (Nat.le_trans (Nat.le_trans (Nat.le_trans (Nat.le_refl _) E1.1) (Keep.of_wr W2).1) (Keep.of_wr W3).1) (Nat.le_of_eq g64.symm)) all0)).keep K70 all0).2)
        obtain ⟨T74, X74, e74, st74⟩ := getS2 X72 hx hZ hown (host := "") (Or.inl (Wd70 hw)) Via.refl e72 f73 (g := (mkF m 102 #[.val (.int p0), .val (.int p1), .val (.long lq), .second, .val (.int p3), .val (.int p4), .val (.ref b1), .val (.ref b64), .val (.int (p0 &&& (3 : Int32))), .val (.ref b70)] [(.ref sv)])) rfl (hb hby at_102)
        refine OD.go (B := (T74.setTop (mkF m 105 #[.val (.int p0), .val (.int p1), .val (.long lq), .second, .val (.int p3), .val (.int p4), .val (.ref b1), .val (.ref b64), .val (.int (p0 &&& (3 : Int32))), .val (.ref b70)] [(.ref sv), (.ref sv)]))) st74 ?_
        refine OD.go (B := (T74.setTop (mkF m 108 #[.val (.int p0), .val (.int p1), .val (.long lq), .second, .val (.int p3), .val (.int p4), .val (.ref b1), .val (.ref b64), .val (.int (p0 &&& (3 : Int32))), .val (.ref b70)] []))) (fun t k => RoadKit.acmp X74 hx rfl (x := (.ref sv)) (y := (.ref sv)) rfl rfl (pc0 := 105) (pc' := 108) (same := true) rfl (hb hby at_105) rfl (by simp) (by decide) (by decide) k) ?_
        refine OD.go (B := (T74.setTop (mkF m 110 #[.val (.int p0), .val (.int p1), .val (.long lq), .second, .val (.int p3), .val (.int p4), .val (.ref b1), .val (.ref b64), .val (.int (p0 &&& (3 : Int32))), .val (.ref b70)] [(.ref b70)]))) (fun t k => XS.aload X74.here hx rfl (hb hby at_108) rfl rfl k) ?_
        obtain ⟨cq75, kq75, qa75, qb75, qc75⟩ := isOf hZ e74 E70
        obtain ⟨_, _, ⟨T75, L75, k75, n75⟩, -, X75, ⟨Lc75, hQ75, l75, y75, z75⟩, st75⟩ := X74.virtualBack hx (y := (⟨"com/example/echo_panel/echopanel/channel/ChannelState", "precision", "()I"⟩ : MethodName)) (z := (⟨"com/example/echo_panel/echopanel/channel/ChannelState", "precision", "()I"⟩ : MethodName)) hown (mvT hZ (Wd71 hw)) (mvT hZ (Wd72 hw)) (notFace_of_selects (args := #[]) (mvT hZ (Wd74 hw))) (mvT hZ (Wd74 hw)) (mvT hZ (Wd73 hw)) (by decide) (backOf (W := 0) (rmX2_I l Z a0 hw [] b70 T70.heap (0 : Int32) G2_70) hZ (Wd75 hw) (Wd3 hw) (by decide) (by decide)) qa75 qc75 (g := (mkF m 110 #[.val (.int p0), .val (.int p1), .val (.long lq), .second, .val (.int p3), .val (.int p4), .val (.ref b1), .val (.ref b64), .val (.int (p0 &&& (3 : Int32))), .val (.ref b70)] [(.ref b70)])) rfl (by rw [hml]; rfl) (Steps.refl _) (argsL := []) (rest := []) (lenOf pd10 rfl) rfl (by show 2 * 0 + _ ≤ _; exact Nat.le_of_eq rfl) (hb hby at_110) (fun _ _ => ⟨rfl, e74, (Nat.le_of_ble_eq_true rfl), (Nat.le_of_ble_eq_true rfl)⟩)
        dsimp only [Pt.U, Pt.locs, Pt.cells, Pt.slots] at X75 l75 y75 z75 st75 hQ75
        subst l75 y75 z75
        obtain ⟨rfl, rfl, e75⟩ := hQ75
        have N75 := Fr.app N72 (Fr.nil _)
        refine OD.via (B := (T75.setTop (mkF m 113 #[.val (.int p0), .val (.int p1), .val (.long lq), .second, .val (.int p3), .val (.int p4), .val (.ref b1), .val (.ref b64), .val (.int (p0 &&& (3 : Int32))), .val (.ref b70)] [(.int (0 : Int32))]))) st75 ?_
        refine OD.go (B := (T75.setTop (mkF m 116 #[.val (.int p0), .val (.int p1), .val (.long lq), .second, .val (.int p3), .val (.int p4), .val (.ref b1), .val (.ref b64), .val (.int (p0 &&& (3 : Int32))), .val (.ref b70)] []))) (fun t k => XS.ifNo X75.here hx rfl (hb hby at_113) rfl (by rw [if0]; exact (teq (by decide : (0 : Int32) = (0 : Int32))).2) k) ?_
        refine OD.go (B := (T75.setTop (mkF m 118 #[.val (.int p0), .val (.int p1), .val (.long lq), .second, .val (.int p3), .val (.int p4), .val (.ref b1), .val (.ref b64), .val (.int (p0 &&& (3 : Int32))), .val (.ref b70)] [(.ref b70)]))) (fun t k => XS.aload X75.here hx rfl (hb hby at_116) rfl rfl k) ?_
        obtain ⟨cq76, kq76, qa76, qb76, qc76⟩ := isOf hZ e75 E70
        obtain ⟨_, _, ⟨T76, L76, k76, n76⟩, -, X76, ⟨Lc76, hQ76, l76, y76, z76⟩, st76⟩ := X75.virtualBack hx (y := (⟨"com/example/echo_panel/echopanel/channel/ChannelState", "labels", "()Ljava/util/List;"⟩ : MethodName)) (z := (⟨"com/example/echo_panel/echopanel/channel/ChannelState", "labels", "()Ljava/util/List;"⟩ : MethodName)) hown (mvT hZ (Wd76 hw)) (mvT hZ (Wd77 hw)) (notFace_of_selects (args := #[]) (mvT hZ (Wd79 hw))) (mvT hZ (Wd79 hw)) (mvT hZ (Wd78 hw)) (by decide) (backOf (W := 0) (rmX3_1 l Z a0 hw [] b70 T70.heap el G3_70) hZ (Wd80 hw) (Wd3 hw) (by decide) (by decide)) qa76 qc76 (g := (mkF m 118 #[.val (.int p0), .val (.int p1), .val (.long lq), .second, .val (.int p3), .val (.int p4), .val (.ref b1), .val (.ref b64), .val (.int (p0 &&& (3 : Int32))), .val (.ref b70)] [(.ref b70)])) rfl (by rw [hml]; rfl) (Steps.refl _) (argsL := []) (rest := []) (lenOf pd5 rfl) rfl (by show 2 * 0 + _ ≤ _; exact Nat.le_of_eq rfl) (hb hby at_118) (fun _ _ => ⟨rfl, e75, (Nat.le_of_ble_eq_true rfl), (Nat.le_of_ble_eq_true rfl)⟩)
        dsimp only [Pt.U, Pt.locs, Pt.cells, Pt.slots] at X76 l76 y76 z76 st76 hQ76
        subst l76 y76 z76
        obtain ⟨rfl, rfl, e76⟩ := hQ76
        have N76 := Fr.app N75 (Fr.nil _)
        refine OD.via (B := (T76.setTop (mkF m 121 #[.val (.int p0), .val (.int p1), .val (.long lq), .second, .val (.int p3), .val (.int p4), .val (.ref b1), .val (.ref b64), .val (.int (p0 &&& (3 : Int32))), .val (.ref b70)] [(.ref el)]))) st76 ?_
        have f77 := (Ee.ext ((((((X00.ext E1).wr W2 (Nat.le_trans (Nat.le_refl _) (Nat.le_of_eq g1.symm))).wr W3 (Nat.le_trans (Nat.le_refl _) (Nat.le_of_eq g1.symm))).ext E64).keep K69 (allS (Nat.le_trans (Nat.le_trans (Nat.le_trans (Nat.le_trans (Nat.le_refl _) E1.1) (Keep.of_wr W2).1) (Keep.of_wr W3).1) (Nat.le_of_eq g64.symm)) all0)).keep K70 all0).2)
        obtain ⟨cq78, kq78, qa78, qb78, qc78⟩ := isOf hZ e76 f77
        obtain ⟨_, _, ⟨T78, L78, k78, n78⟩, -, X78, ⟨Lc78, hQ78, l78, y78, z78⟩, st78⟩ := X76.interfaceBack hx (xi := (⟨"java/util/List", "size", "()I"⟩ : MethodName)) (y := (⟨"java/util/ImmutableCollections$ListN", "size", "()I"⟩ : MethodName)) hown (mvT hZ (Wd81 hw)) (mvT hZ (Wd82 hw)) (mvT hZ (Wd83 hw)) (mvT hZ (Wd84 hw)) (mvT hZ (Wd85 hw)) (mvT hZ (Wd86 hw)) (mvT hZ (Wd87 hw)) (mvT hZ (Wd47 hw)) (by decide) (backOf (W := 0) (rmSZ l Z a0 hw [] el T70.heap h0.size ((((((X00.ext E1).wr W2 (Nat.le_trans (Nat.le_refl _) (Nat.le_of_eq g1.symm))).wr W3 (Nat.le_trans (Nat.le_refl _) (Nat.le_of_eq g1.symm))).ext E64).keep K69 (allS (Nat.le_trans (Nat.le_trans (Nat.le_trans (Nat.le_trans (Nat.le_refl _) E1.1) (Keep.of_wr W2).1) (Keep.of_wr W3).1) (Nat.le_of_eq g64.symm)) all0)).keep K70 all0) ea kE Se Ee Fa Fel Ae) hZ (Wd89 hw) (Wd88 hw) (by decide) (by decide)) qa78 qb78 qc78 (g := (mkF m 121 #[.val (.int p0), .val (.int p1), .val (.long lq), .second, .val (.int p3), .val (.int p4), .val (.ref b1), .val (.ref b64), .val (.int (p0 &&& (3 : Int32))), .val (.ref b70)] [(.ref el)])) rfl (by rw [hml]; rfl) (Steps.refl _) (argsL := []) (rest := []) (lenOf pd10 rfl) rfl (by show 2 * 0 + _ ≤ _; exact Nat.le_of_eq rfl) (hb hby at_121) (fun _ _ => ⟨rfl, e76, (Nat.le_of_ble_eq_true rfl), (Nat.le_of_ble_eq_true rfl)⟩)
        dsimp only [Pt.U, Pt.locs, Pt.cells, Pt.slots] at X78 l78 y78 z78 st78 hQ78
        subst l78 y78 z78
        obtain ⟨rfl, rfl, e78⟩ := hQ78
        have N78 := Fr.app N76 (Fr.nil _)
        refine OD.via (B := (T78.setTop (mkF m 126 #[.val (.int p0), .val (.int p1), .val (.long lq), .second, .val (.int p3), .val (.int p4), .val (.ref b1), .val (.ref b64), .val (.int (p0 &&& (3 : Int32))), .val (.ref b70)] [(.int (0 : Int32))]))) st78 ?_
        refine OD.go (B := (T78.setTop (mkF m 129 #[.val (.int p0), .val (.int p1), .val (.long lq), .second, .val (.int p3), .val (.int p4), .val (.ref b1), .val (.ref b64), .val (.int (p0 &&& (3 : Int32))), .val (.ref b70)] []))) (fun t k => XS.ifNo X78.here hx rfl (hb hby at_126) rfl (by rw [if0]; exact (teq (by decide : (0 : Int32) = (0 : Int32))).2) k) ?_
        refine OD.go (B := (T78.setTop (mkF m 131 #[.val (.int p0), .val (.int p1), .val (.long lq), .second, .val (.int p3), .val (.int p4), .val (.ref b1), .val (.ref b64), .val (.int (p0 &&& (3 : Int32))), .val (.ref b70)] [(.ref b70)]))) (fun t k => XS.aload X78.here hx rfl (hb hby at_129) rfl rfl k) ?_
        obtain ⟨cq79, kq79, qa79, qb79, qc79⟩ := isOf hZ e78 E70
        obtain ⟨_, _, ⟨T79, L79, k79, n79⟩, -, X79, ⟨Lc79, hQ79, l79, y79, z79⟩, st79⟩ := X78.virtualBack hx (y := (⟨"com/example/echo_panel/echopanel/channel/ChannelState", "value", "()Ljava/lang/Object;"⟩ : MethodName)) (z := (⟨"com/example/echo_panel/echopanel/channel/ChannelState", "value", "()Ljava/lang/Object;"⟩ : MethodName)) hown (mvT hZ (Wd92 hw)) (mvT hZ (Wd93 hw)) (notFace_of_selects (args := #[]) (mvT hZ (Wd95 hw))) (mvT hZ (Wd95 hw)) (mvT hZ (Wd94 hw)) (by decide) (backOf (W := 0) (rmX4_1 l Z a0 hw [] b70 T70.heap b64 G4_70) hZ (Wd96 hw) (Wd3 hw) (by decide) (by decide)) qa79 qc79 (g := (mkF m 131 #[.val (.int p0), .val (.int p1), .val (.long lq), .second, .val (.int p3), .val (.int p4), .val (.ref b1), .val (.ref b64), .val (.int (p0 &&& (3 : Int32))), .val (.ref b70)] [(.ref b70)])) rfl (by rw [hml]; rfl) (Steps.refl _) (argsL := []) (rest := []) (lenOf pd11 rfl) rfl (by show 2 * 0 + _ ≤ _; exact Nat.le_of_eq rfl) (hb hby at_131) (fun _ _ => ⟨rfl, e78, (Nat.le_of_ble_eq_true rfl), (Nat.le_of_ble_eq_true rfl)⟩)
        dsimp only [Pt.U, Pt.locs, Pt.cells, Pt.slots] at X79 l79 y79 z79 st79 hQ79
        subst l79 y79 z79
        obtain ⟨rfl, rfl, e79⟩ := hQ79
        have N79 := Fr.app N78 (Fr.nil _)
        refine OD.via (B := (T79.setTop (mkF m 134 #[.val (.int p0), .val (.int p1), .val (.long lq), .second, .val (.int p3), .val (.int p4), .val (.ref b1), .val (.ref b64), .val (.int (p0 &&& (3 : Int32))), .val (.ref b70)] [(.ref b64)]))) st79 ?_
        refine OD.go (B := (T79.setTop (mkF m 136 #[.val (.int p0), .val (.int p1), .val (.long lq), .second, .val (.int p3), .val (.int p4), .val (.ref b1), .val (.ref b64), .val (.int (p0 &&& (3 : Int32))), .val (.ref b70)] [(.ref b64), (.ref b64)]))) (fun t k => XS.aload X79.here hx rfl (hb hby at_134) rfl rfl k) ?_
        refine OD.go (B := (T79.setTop (mkF m 139 #[.val (.int p0), .val (.int p1), .val (.long lq), .second, .val (.int p3), .val (.int p4), .val (.ref b1), .val (.ref b64), .val (.int (p0 &&& (3 : Int32))), .val (.ref b70)] []))) (fun t k => RoadKit.acmp X79 hx rfl (x := (.ref b64)) (y := (.ref b64)) rfl rfl (pc0 := 136) (pc' := 139) (same := true) rfl (hb hby at_136) rfl (by simp) (by decide) (by decide) k) ?_
        refine OD.go (B := (T79.setTop (mkF m 141 #[.val (.int p0), .val (.int p1), .val (.long lq), .second, .val (.int p3), .val (.int p4), .val (.ref b1), .val (.ref b64), .val (.int (p0 &&& (3 : Int32))), .val (.ref b70)] [(.ref b70)]))) (fun t k => XS.aload X79.here hx rfl (hb hby at_139) rfl rfl k) ?_
        obtain ⟨cq80, kq80, qa80, qb80, qc80⟩ := isOf hZ e79 E70
        obtain ⟨_, _, ⟨T80, L80, k80, n80⟩, -, X80, ⟨Lc80, hQ80, l80, y80, z80⟩, st80⟩ := X79.virtualBack hx (y := (⟨"com/example/echo_panel/echopanel/channel/ChannelState", "limits", "()Lcom/example/echo_panel/echopanel/channel/DisplayLimits;"⟩ : MethodName)) (z := (⟨"com/example/echo_panel/echopanel/channel/ChannelState", "limits", "()Lcom/example/echo_panel/echopanel/channel/DisplayLimits;"⟩ : MethodName)) hown (mvT hZ (Wd97 hw)) (mvT hZ (Wd98 hw)) (notFace_of_selects (args := #[]) (mvT hZ (Wd100 hw))) (mvT hZ (Wd100 hw)) (mvT hZ (Wd99 hw)) (by decide) (backOf (W := 0) (rmX5_0 l Z a0 hw [] b70 T70.heap  G5_70) hZ (Wd101 hw) (Wd3 hw) (by decide) (by decide)) qa80 qc80 (g := (mkF m 141 #[.val (.int p0), .val (.int p1), .val (.long lq), .second, .val (.int p3), .val (.int p4), .val (.ref b1), .val (.ref b64), .val (.int (p0 &&& (3 : Int32))), .val (.ref b70)] [(.ref b70)])) rfl (by rw [hml]; rfl) (Steps.refl _) (argsL := []) (rest := []) (lenOf pd12 rfl) rfl (by show 2 * 0 + _ ≤ _; exact Nat.le_of_eq rfl) (hb hby at_141) (fun _ _ => ⟨rfl, e79, (Nat.le_of_ble_eq_true rfl), (Nat.le_of_ble_eq_true rfl)⟩)
        dsimp only [Pt.U, Pt.locs, Pt.cells, Pt.slots] at X80 l80 y80 z80 st80 hQ80
        subst l80 y80 z80
        obtain ⟨rfl, rfl, e80⟩ := hQ80
        have N80 := Fr.app N79 (Fr.nil _)
        refine OD.via (B := (T80.setTop (mkF m 144 #[.val (.int p0), .val (.int p1), .val (.long lq), .second, .val (.int p3), .val (.int p4), .val (.ref b1), .val (.ref b64), .val (.int (p0 &&& (3 : Int32))), .val (.ref b70)] [.null]))) st80 ?_
        refine OD.go (B := (T80.setTop (mkF m 147 #[.val (.int p0), .val (.int p1), .val (.long lq), .second, .val (.int p3), .val (.int p4), .val (.ref b1), .val (.ref b64), .val (.int (p0 &&& (3 : Int32))), .val (.ref b70)] []))) (fun t k => XS.ifnonnullNo X80.here hx rfl (hb hby at_144) rfl k) ?_
        refine OD.go (B := (T80.setTop (mkF m 148 #[.val (.int p0), .val (.int p1), .val (.long lq), .second, .val (.int p3), .val (.int p4), .val (.ref b1), .val (.ref b64), .val (.int (p0 &&& (3 : Int32))), .val (.ref b70)] [(.int (1 : Int32))]))) (fun t k => XS.iconst X80.here hx rfl (hb hby at_147) k) ?_
        refine OD.go (B := (T80.setTop (mkF m 152 #[.val (.int p0), .val (.int p1), .val (.long lq), .second, .val (.int p3), .val (.int p4), .val (.ref b1), .val (.ref b64), .val (.int (p0 &&& (3 : Int32))), .val (.ref b70)] [(.int (1 : Int32))]))) (fun t k => XS.goto X80.here hx rfl (pc0 := 148) (pc' := 152) rfl (hb hby at_148) (by decide) (by decide) k) ?_
        exact OD.ret X80 hx hlk (t := .boolean) Bd.returns rfl (Or.inl ⟨rfl, Or.inr (Or.inl rfl), _, rfl⟩) (hb hby at_152) (Nat.le_of_ble_eq_true rfl) (Nat.le_of_ble_eq_true rfl) ⟨rfl, N80⟩
set_option maxRecDepth 65536 in
set_option maxHeartbeats 40000000 in
theorem comes_1 {Post : Tables → Env → Array Value → State → Outcome → State → Prop} (hpost : ∀ tb e args s v u, (limb_1_1.after args s (.returned v) u = true ∧ limb_1_2.after args s (.returned v) u = true ∧ True) → FrameEnd s (.returned v) u (Jvm.fieldLocs frame_1_writes args s ++ Jvm.arrayLocs frame_1_arrays args s ++ Jvm.staticLocs frame_1_statics s) 16 128 → Post tb e args s (.returned v) u) :
    ArmFor flags0 classFile x code maxLocals ret World_1 tables_1 room_1 Calls_1 rest_1 Pre_1 Post := by
  intro l hfl _ _ p e ha hc hk s m args below hf hA hF happ hP
  obtain ⟨hcalls, hrest, hpre⟩ := hP
  obtain ⟨-, -, -, hnamed, -, -, -, hat⟩ := (Spec.applies_iff hf).mp happ
  obtain ⟨hg, hn⟩ := and_e (Cond.before_iff.mp (show (Jvm.Cond.and given_1 narrow_1).before args s = true from hpre))
  obtain ⟨hg0, hr0⟩ := and_e hg
  obtain ⟨hg1, hr1⟩ := and_e hr0
  obtain ⟨hg2, hr2⟩ := and_e hr1
  obtain ⟨hg3, hr3⟩ := and_e hr2
  obtain ⟨hg4, hr4⟩ := and_e hr3
  obtain ⟨w0, w1, w2, w3, w4, rfl⟩ : ∃ w0 w1 w2 w3 w4 : Value, args = #[w0, w1, w2, w3, w4] := by
    have hs : args.size = 5 := by simpa [Cond.value, given_1] using hg0
    obtain ⟨L⟩ := args
    match L, hs with
    | [w0, w1, w2, w3, w4], _ => exact ⟨w0, w1, w2, w3, w4, rfl⟩
  have hw := fun d (hd : d ∈ tables_1) => atoms_spec (ws := Jvm.Cond.code x code maxLocals ret :: tables_1) hat d (List.mem_cons_of_mem _ hd)
  obtain ⟨i0, ei0⟩ := is_v hg1
  obtain rfl : w0 = (.int i0) := Option.some.inj ei0
  obtain ⟨i1, ei1⟩ := is_v hg2
  obtain rfl : w1 = (.int i1) := Option.some.inj ei1
  obtain ⟨i2, ei2⟩ := isL_v hg3
  obtain rfl : w2 = (.long i2) := Option.some.inj ei2
  obtain ⟨i3, ei3⟩ := is_v hg4
  obtain rfl : w3 = (.int i3) := Option.some.inj ei3
  obtain ⟨i4, ei4⟩ := is_v hr4
  obtain rfl : w4 = (.int i4) := Option.some.inj ei4
  obtain ⟨hsets, hown0⟩ := atoms_of _ (rest_1_c_eq ▸ (show rest_1_c.before _ s = true from hrest))
  have hfit : Fit s := fun {y c} hc i hi => by
    obtain ⟨ha, rfl⟩ := Array.getElem?_eq_some_iff.mp hc
    have q := List.all_eq_true.mp ((Array.all_eq_true_iff_forall_mem.mp hF) _ (Array.getElem_mem ha)) i (List.mem_range.mpr hi)
    simpa [Array.getElem?_eq_getElem hi] using q
  have n5 := not_v (Cond.before_iff.mp (hsets _ (List.mem_of_getElem? (i := 17) rfl)))
  obtain ⟨zc, e10⟩ := is_v (Cond.before_iff.mp (hsets _ (List.mem_of_getElem? (i := 16) rfl)))
  have S12 : Sta s s.heap "java/lang/String" "COMPACT_STRINGS" "Z" (.int zc) := Sta.start e10 (Or.inl (hsets _ (List.mem_of_getElem? (i := 15) rfl)))
  have c17 : ¬ (zc = (0 : Int32)) := gotF (Cond.eq_ints e10 (Term.int_eval (0))) n5
  obtain ⟨el, ee⟩ := exa_v (Cond.before_iff.mp (hsets _ (List.mem_of_getElem? (i := 2) rfl)))
  have Se : Sta s s.heap "java/util/ImmutableCollections" "EMPTY_LIST" "Ljava/util/ImmutableCollections$ListN;" (.ref el) := Sta.start ee (Or.inl (hsets _ (List.mem_of_getElem? (i := 1) rfl)))
  have Ee : Exa s s.heap el "java/util/ImmutableCollections$ListN" := Exa.start ee (Cond.before_iff.mp (hsets _ (List.mem_of_getElem? (i := 2) rfl)))
  have Fa : Fld s s.heap el "java/util/ImmutableCollections$ListN" "allowNulls" "Z" (.int (0 : Int32)) := Fld.start ((fld_at ee).symm.trans (own_eqI (Cond.before_iff.mp (hsets _ (List.mem_of_getElem? (i := 6) rfl)))))
  obtain ⟨ea, ef⟩ := arr_v (Cond.before_iff.mp (hsets _ (List.mem_of_getElem? (i := 3) rfl)))
  have Fel : Fld s s.heap el "java/util/ImmutableCollections$ListN" "elements" "[Ljava/lang/Object;" (.ref ea) := Fld.start ((fld_at ee).symm.trans ef)
  obtain ⟨ce, Ace⟩ := Arr.start ef (Cond.before_iff.mp (hsets _ (List.mem_of_getElem? (i := 3) rfl)))
  have Ae := own_arv0 hfit ef Ace (Cond.before_iff.mp (hsets _ (List.mem_of_getElem? (i := 5) rfl)))
  have Sh : Sta s s.heap "java/lang/Integer$IntegerCache" "high" "I" (.int (127 : Int32)) := Sta.start (own_eqI (Cond.before_iff.mp (hsets _ (List.mem_of_getElem? (i := 10) rfl)))) (Or.inl (hsets _ (List.mem_of_getElem? (i := 8) rfl)))
  obtain ⟨ca, eca⟩ := arr_v (Cond.before_iff.mp (hsets _ (List.mem_of_getElem? (i := 11) rfl)))
  have Sc : Sta s s.heap "java/lang/Integer$IntegerCache" "cache" "[Ljava/lang/Integer;" (.ref ca) := Sta.start eca (Or.inr ⟨(hw _ (List.mem_of_getElem? (i := 107) rfl)), (hsets _ (List.mem_of_getElem? (i := 9) rfl))⟩)
  obtain ⟨cc, Acc⟩ := Arr.start eca (Cond.before_iff.mp (hsets _ (List.mem_of_getElem? (i := 11) rfl)))
  have Cc := own_cach hfit eca Acc (Cond.before_iff.mp (hsets _ (List.mem_of_getElem? (i := 13) rfl)))
  obtain ⟨cb, ecb⟩ := arr_v (Cond.before_iff.mp (hsets _ (List.mem_of_getElem? (i := 26) rfl)))
  have Sl : Sta s s.heap "java/lang/Long$LongCache" "cache" "[Ljava/lang/Long;" (.ref cb) := Sta.start ecb (Or.inl (hsets _ (List.mem_of_getElem? (i := 25) rfl)))
  obtain ⟨ccl, Accl⟩ := Arr.start ecb (Cond.before_iff.mp (hsets _ (List.mem_of_getElem? (i := 26) rfl)))
  have Cl := own_cach hfit ecb Accl (Cond.before_iff.mp (hsets _ (List.mem_of_getElem? (i := 28) rfl)))
  obtain ⟨sv0, esv, fsv⟩ := static_fit hfit (hw _ (List.mem_of_getElem? (i := 9) rfl)) (ty := .object "com/example/echo_panel/echopanel/channel/Severity") (by decide)
  have Ss : Sta s s.heap "com/example/echo_panel/echopanel/channel/Severity" "NO_ALARM" "Lcom/example/echo_panel/echopanel/channel/Severity;" sv0 := Sta.start esv (Or.inr ⟨(hw _ (List.mem_of_getElem? (i := 8) rfl)), (hw _ (List.mem_of_getElem? (i := 9) rfl))⟩)
  rcases ref_cases (fit_R fsv rfl) with rfl | ⟨sv, rfl⟩
  · obtain ⟨n, o, h1, h2, h3, _, L, rfl, ⟨rfl, N⟩, hq⟩ := rm0_0 l s _ hw tables_1 i0 i1 i2 i3 i4 s.heap (Old.start s) zc S12 c17 el ea _ Se Ee Fa Fel Ae ca Sh Sc Cc cb Sl Cl Ss p e ha hc hk s m _ below hf ((Spec.applies_iff_loose hf).mp happ).1 ⟨rfl, State.Warmed39.refl s, rfl⟩ trivial
    refine ⟨n, _, h1, h2, h3, hpost _ _ _ _ _ _ ⟨Cond.after_iff.mpr rfl, Cond.after_iff.mpr (eq_i res_at (Term.int_eval (1)) rfl), trivial⟩ ⟨hq.1, hq.2.1, (hq.2.2.sift fun y hy => Or.inr (N y hy)).mono (by decide) (by decide)⟩⟩
  · obtain ⟨n, o, h1, h2, h3, _, L, rfl, ⟨rfl, N⟩, hq⟩ := rm0_1 l s _ hw tables_1 i0 i1 i2 i3 i4 s.heap (Old.start s) zc S12 c17 el ea _ Se Ee Fa Fel Ae ca Sh Sc Cc cb Sl Cl sv Ss p e ha hc hk s m _ below hf ((Spec.applies_iff_loose hf).mp happ).1 ⟨rfl, State.Warmed39.refl s, rfl⟩ trivial
    refine ⟨n, _, h1, h2, h3, hpost _ _ _ _ _ _ ⟨Cond.after_iff.mpr rfl, Cond.after_iff.mpr (eq_i res_at (Term.int_eval (1)) rfl), trivial⟩ ⟨hq.1, hq.2.1, (hq.2.2.sift fun y hy => Or.inr (N y hy)).mono (by decide) (by decide)⟩⟩
theorem main_1_1 : Claimed_1_1 := comes_1 fun _ _ _ _ _ _ h hF => ⟨h.1, hF⟩
theorem main_1_2 : Claimed_1_2 := comes_1 fun _ _ _ _ _ _ h hF => ⟨h.2.1, hF⟩
end Jvm.Pilot.@@N@@
namespace Jvm.Pilot.@@N@@
open Jvm Jvm.ClassFile Sem Op Lib Jvm.Free Jvm.Stand Jvm.Pilot.@@N@@.Jvm.D
/-! MADE BY PROGRAM (witnessworld.py) out of the Statement's table words and the real class files: 42 classes; the members and pool entries that the words name. The judged class is class 1, her method 1. -/
namespace start1
open Jvm.ClassFile
def u (s : String) : CpInfo := .utf8 (stringToUtf16 s)
/-- a pool by its gaps: so many unusable entries, then the entry; so many at the end -/
def gap : Nat → List CpInfo → List CpInfo
  | 0, r => r
  | n + 1, r => .unusable :: gap n r
def poolList (es : List (Nat × CpInfo)) (last : Nat) : List CpInfo := es.foldr (fun e r => gap e.1 (e.2 :: r)) (gap last [])
def pool (es : List (Nat × CpInfo)) (last : Nat) : Array CpInfo := ⟨poolList es last⟩
def fileOf (pool : Array CpInfo) (this : Nat) (attrs : Array Attribute := #[]) (ms : Array MethodInfo := #[]) (fl : Nat := 33) (sup : Nat := 0) (ifs : Array Nat := #[]) (fds : Array FieldInfo := #[]) : ClassFile where
  minorVersion := 0
  majorVersion := 65
  constantPool := pool
  accessFlags := fl
  thisClass := this
  superClass := sup
  interfaces := ifs
  fields := fds
  methods := ms
  attributes := attrs
def plain (name : String) (sup : Option ClassId) : Class where
  name := name
  kind := .ordinary
  loader := none
  accessFlags := 33
  super := sup
  interfaces := #[]
  cf := none
  fields := #[]
  methods := #[]
  instanceTypes := #[]
  staticTypes := #[]
  resolved := #[]
  callSites := []
  init := .initialized
  statics := none
  mirror := none

def pool0 : Array CpInfo := pool [(5, u "<init>"), (0, u "()V"), (1, .class_ 10), (1, u "java/lang/Object")] 113

def k0c0 : Code := { maxStack := 0, maxLocals := 1, code := object_method_1_code, exceptionTable := #[], attributes := #[] }
def k0m0 : Method := { name := "<init>", desc := "()V", sig := { parameters := [], returnType := none }, accessFlags := 1, code := some k0c0 }
/-- java/lang/Object -/
def k0 : Class := { plain "java/lang/Object" none with
  accessFlags := 33
  interfaces := #[]
  cf := some (fileOf pool0 8 #[] #[{ accessFlags := 1, nameIndex := 5, descriptorIndex := 6, attributes := #[] }] 33 0 #[] #[])
  fields := #[]
  methods := #[k0m0]
  instanceTypes := #[]
  staticTypes := #[]
  resolved := Array.replicate 124 none
  statics := none }

def pool1 : Array CpInfo := pool [(2, .class_ 4), (1, u "java/lang/Object"), (0, u "<init>"), (0, u "()V"), (0, .methodref 8 9), (0, .class_ 10), (0, .nameAndType 11 12), (0, u "java/lang/Integer"), (0, u "valueOf"), (0, u "(I)Ljava/lang/Integer;"), (0, .methodref 14 15), (0, .class_ 16), (0, .nameAndType 11 17), (0, u "java/lang/Long"), (0, u "(J)Ljava/lang/Long;"), (0, .class_ 19), (0, u "java/lang/String"), (0, .methodref 18 21), (0, .nameAndType 5 22), (0, u "([C)V"), (0, .methodref 24 25), (0, .class_ 26), (0, .nameAndType 27 28), (0, u "com/example/echo_panel/echopanel/channel/ChannelState"), (0, u "of"), (0, u "(Ljava/lang/Object;)Lcom/example/echo_panel/echopanel/channel/ChannelState;"), (0, .methodref 24 30), (0, .nameAndType 31 32), (0, u "connected"), (0, u "()Z"), (0, .methodref 24 34), (0, .nameAndType 35 36), (0, u "severity"), (0, u "()Lcom/example/echo_panel/echopanel/channel/Severity;"), (0, .fieldref 38 39), (0, .class_ 40), (0, .nameAndType 41 42), (0, u "com/example/echo_panel/echopanel/channel/Severity"), (0, u "NO_ALARM"), (0, u "Lcom/example/echo_panel/echopanel/channel/Severity;"), (0, .methodref 24 44), (0, .nameAndType 45 46), (0, u "precision"), (0, u "()I"), (0, .methodref 24 48), (0, .nameAndType 49 50), (0, u "labels"), (0, u "()Ljava/util/List;"), (0, .interfaceMethodref 52 53), (0, .class_ 54), (0, .nameAndType 55 46), (0, u "java/util/List"), (0, u "size"), (0, .methodref 24 57), (0, .nameAndType 58 59), (0, u "value"), (0, u "()Ljava/lang/Object;"), (0, .methodref 24 61), (0, .nameAndType 62 63), (0, u "limits"), (0, u "()Lcom/example/echo_panel/echopanel/channel/DisplayLimits;"), (0, .class_ 65), (0, u "com/example/echo_panel/echopanel/channel/ChannelStateOfPinLaw"), (2, u "law"), (0, u "(IIJII)Z")] 5

def k1m0 : Method := { name := "<init>", desc := "()V", sig := { parameters := [], returnType := none }, accessFlags := 1, code := none }
def k1c1 : Code := { maxStack := 5, maxLocals := 10, code := code, exceptionTable := #[], attributes := #[] }
def k1m1 : Method := { name := "law", desc := "(IIJII)Z", sig := { parameters := [.int, .int, .long, .int, .int], returnType := some .boolean }, accessFlags := 9, code := some k1c1 }
/-- com/example/echo_panel/echopanel/channel/ChannelStateOfPinLaw -/
def k1 : Class := { plain "com/example/echo_panel/echopanel/channel/ChannelStateOfPinLaw" (some 0) with
  accessFlags := 49
  interfaces := #[]
  cf := some (fileOf pool1 64 #[] #[{ accessFlags := 1, nameIndex := 5, descriptorIndex := 6, attributes := #[] }, { accessFlags := 9, nameIndex := 68, descriptorIndex := 69, attributes := #[] }] 49 2 #[] #[])
  fields := #[]
  methods := #[k1m0, k1m1]
  instanceTypes := #[]
  staticTypes := #[]
  resolved := Array.replicate 75 none
  statics := none }

def pool2 : Array CpInfo := pool [(1, .methodref 2 3), (0, .class_ 4), (0, .nameAndType 5 6), (0, u "java/lang/Object"), (0, u "<init>"), (0, u "()V"), (0, .class_ 8), (0, u "java/lang/Record")] 13

def k2c0 : Code := { maxStack := 1, maxLocals := 1, code := jdk_30_method_1_code, exceptionTable := #[], attributes := #[] }
def k2m0 : Method := { name := "<init>", desc := "()V", sig := { parameters := [], returnType := none }, accessFlags := 4, code := some k2c0 }
/-- java/lang/Record -/
def k2 : Class := { plain "java/lang/Record" (some 0) with
  accessFlags := 1057
  interfaces := #[]
  cf := some (fileOf pool2 7 #[] #[{ accessFlags := 4, nameIndex := 5, descriptorIndex := 6, attributes := #[] }] 1057 2 #[] #[])
  fields := #[]
  methods := #[k2m0]
  instanceTypes := #[]
  staticTypes := #[]
  resolved := Array.replicate 22 none
  statics := none }

def pool3 : Array CpInfo := pool [(1, .methodref 2 3), (0, .class_ 4), (0, .nameAndType 5 6), (0, u "java/lang/Record"), (0, u "<init>"), (0, u "()V"), (0, .interfaceMethodref 8 9), (0, .class_ 10), (0, .nameAndType 11 12), (0, u "java/util/List"), (0, u "copyOf"), (0, u "(Ljava/util/Collection;)Ljava/util/List;"), (0, .fieldref 14 15), (0, .class_ 16), (0, .nameAndType 17 18), (0, u "com/example/echo_panel/echopanel/channel/ChannelState"), (0, u "connected"), (0, u "Z"), (0, .fieldref 14 20), (0, .nameAndType 21 22), (0, u "severity"), (0, u "Lcom/example/echo_panel/echopanel/channel/Severity;"), (0, .fieldref 14 24), (0, .nameAndType 25 26), (0, u "precision"), (0, u "I"), (0, .fieldref 14 28), (0, .nameAndType 29 30), (0, u "labels"), (0, u "Ljava/util/List;"), (0, .fieldref 14 32), (0, .nameAndType 33 34), (0, u "value"), (0, u "Ljava/lang/Object;"), (0, .fieldref 14 36), (0, .nameAndType 37 38), (0, u "limits"), (0, u "Lcom/example/echo_panel/echopanel/channel/DisplayLimits;"), (0, .methodref 14 40), (0, .nameAndType 5 41), (0, u "(ZLcom/example/echo_panel/echopanel/channel/Severity;ILjava/util/List;Ljava/lang/Object;Lcom/example/echo_panel/echopanel/channel/DisplayLimits;)V"), (0, .fieldref 43 44), (0, .class_ 45), (0, .nameAndType 46 22), (0, u "com/example/echo_panel/echopanel/channel/Severity"), (0, u "NO_ALARM"), (0, .interfaceMethodref 8 48), (0, .nameAndType 49 50), (0, u "of"), (0, u "()Ljava/util/List;"), (0, .methodref 14 52), (0, .nameAndType 5 53), (0, u "(ZLcom/example/echo_panel/echopanel/channel/Severity;ILjava/util/List;Ljava/lang/Object;)V"), (14, u "DISCONNECTED"), (0, u "Lcom/example/echo_panel/echopanel/channel/ChannelState;"), (7, u "(Ljava/lang/Object;)Lcom/example/echo_panel/echopanel/channel/ChannelState;"), (3, u "()I"), (1, u "()Z"), (0, u "()Lcom/example/echo_panel/echopanel/channel/Severity;"), (1, u "()Ljava/lang/Object;"), (0, u "()Lcom/example/echo_panel/echopanel/channel/DisplayLimits;")] 26

def k3c0 : Code := { maxStack := 2, maxLocals := 7, code := prog_15_method_1_code, exceptionTable := #[], attributes := #[] }
def k3m0 : Method := { name := "<init>", desc := "(ZLcom/example/echo_panel/echopanel/channel/Severity;ILjava/util/List;Ljava/lang/Object;Lcom/example/echo_panel/echopanel/channel/DisplayLimits;)V", sig := { parameters := [.boolean, (.object "com/example/echo_panel/echopanel/channel/Severity"), .int, (.object "java/util/List"), (.object "java/lang/Object"), (.object "com/example/echo_panel/echopanel/channel/DisplayLimits")], returnType := none }, accessFlags := 1, code := some k3c0 }
def k3c1 : Code := { maxStack := 7, maxLocals := 6, code := prog_15_method_2_code, exceptionTable := #[], attributes := #[] }
def k3m1 : Method := { name := "<init>", desc := "(ZLcom/example/echo_panel/echopanel/channel/Severity;ILjava/util/List;Ljava/lang/Object;)V", sig := { parameters := [.boolean, (.object "com/example/echo_panel/echopanel/channel/Severity"), .int, (.object "java/util/List"), (.object "java/lang/Object")], returnType := none }, accessFlags := 1, code := some k3c1 }
def k3c2 : Code := { maxStack := 7, maxLocals := 1, code := prog_15_method_3_code, exceptionTable := #[], attributes := #[] }
def k3m2 : Method := { name := "of", desc := "(Ljava/lang/Object;)Lcom/example/echo_panel/echopanel/channel/ChannelState;", sig := { parameters := [(.object "java/lang/Object")], returnType := some (.object "com/example/echo_panel/echopanel/channel/ChannelState") }, accessFlags := 9, code := some k3c2 }
def k3c3 : Code := { maxStack := 1, maxLocals := 1, code := prog_15_method_8_code, exceptionTable := #[], attributes := #[] }
def k3m3 : Method := { name := "connected", desc := "()Z", sig := { parameters := [], returnType := some .boolean }, accessFlags := 1, code := some k3c3 }
def k3c4 : Code := { maxStack := 1, maxLocals := 1, code := prog_15_method_9_code, exceptionTable := #[], attributes := #[] }
def k3m4 : Method := { name := "severity", desc := "()Lcom/example/echo_panel/echopanel/channel/Severity;", sig := { parameters := [], returnType := some (.object "com/example/echo_panel/echopanel/channel/Severity") }, accessFlags := 1, code := some k3c4 }
def k3c5 : Code := { maxStack := 1, maxLocals := 1, code := prog_15_method_10_code, exceptionTable := #[], attributes := #[] }
def k3m5 : Method := { name := "precision", desc := "()I", sig := { parameters := [], returnType := some .int }, accessFlags := 1, code := some k3c5 }
def k3c6 : Code := { maxStack := 1, maxLocals := 1, code := prog_15_method_11_code, exceptionTable := #[], attributes := #[] }
def k3m6 : Method := { name := "labels", desc := "()Ljava/util/List;", sig := { parameters := [], returnType := some (.object "java/util/List") }, accessFlags := 1, code := some k3c6 }
def k3c7 : Code := { maxStack := 1, maxLocals := 1, code := prog_15_method_12_code, exceptionTable := #[], attributes := #[] }
def k3m7 : Method := { name := "value", desc := "()Ljava/lang/Object;", sig := { parameters := [], returnType := some (.object "java/lang/Object") }, accessFlags := 1, code := some k3c7 }
def k3c8 : Code := { maxStack := 1, maxLocals := 1, code := prog_15_method_13_code, exceptionTable := #[], attributes := #[] }
def k3m8 : Method := { name := "limits", desc := "()Lcom/example/echo_panel/echopanel/channel/DisplayLimits;", sig := { parameters := [], returnType := some (.object "com/example/echo_panel/echopanel/channel/DisplayLimits") }, accessFlags := 1, code := some k3c8 }
/-- com/example/echo_panel/echopanel/channel/ChannelState -/
def k3 : Class := { plain "com/example/echo_panel/echopanel/channel/ChannelState" (some 2) with
  accessFlags := 49
  interfaces := #[]
  cf := some (fileOf pool3 14 #[] #[{ accessFlags := 1, nameIndex := 5, descriptorIndex := 41, attributes := #[] }, { accessFlags := 1, nameIndex := 5, descriptorIndex := 53, attributes := #[] }, { accessFlags := 9, nameIndex := 49, descriptorIndex := 77, attributes := #[] }, { accessFlags := 1, nameIndex := 17, descriptorIndex := 83, attributes := #[] }, { accessFlags := 1, nameIndex := 21, descriptorIndex := 84, attributes := #[] }, { accessFlags := 1, nameIndex := 25, descriptorIndex := 81, attributes := #[] }, { accessFlags := 1, nameIndex := 29, descriptorIndex := 50, attributes := #[] }, { accessFlags := 1, nameIndex := 33, descriptorIndex := 86, attributes := #[] }, { accessFlags := 1, nameIndex := 37, descriptorIndex := 87, attributes := #[] }] 49 2 #[] #[{ accessFlags := 18, nameIndex := 17, descriptorIndex := 18, attributes := #[] }, { accessFlags := 18, nameIndex := 21, descriptorIndex := 22, attributes := #[] }, { accessFlags := 18, nameIndex := 25, descriptorIndex := 26, attributes := #[] }, { accessFlags := 18, nameIndex := 29, descriptorIndex := 30, attributes := #[] }, { accessFlags := 18, nameIndex := 33, descriptorIndex := 34, attributes := #[] }, { accessFlags := 18, nameIndex := 37, descriptorIndex := 38, attributes := #[] }, { accessFlags := 25, nameIndex := 68, descriptorIndex := 69, attributes := #[] }])
  fields := #[{ name := "connected", type := .boolean, accessFlags := 18, slot := 0, constantValue := 0 }, { name := "severity", type := (.object "com/example/echo_panel/echopanel/channel/Severity"), accessFlags := 18, slot := 1, constantValue := 0 }, { name := "precision", type := .int, accessFlags := 18, slot := 2, constantValue := 0 }, { name := "labels", type := (.object "java/util/List"), accessFlags := 18, slot := 3, constantValue := 0 }, { name := "value", type := (.object "java/lang/Object"), accessFlags := 18, slot := 4, constantValue := 0 }, { name := "limits", type := (.object "com/example/echo_panel/echopanel/channel/DisplayLimits"), accessFlags := 18, slot := 5, constantValue := 0 }, { name := "DISCONNECTED", type := (.object "com/example/echo_panel/echopanel/channel/ChannelState"), accessFlags := 25, slot := 0, constantValue := 0 }]
  methods := #[k3m0, k3m1, k3m2, k3m3, k3m4, k3m5, k3m6, k3m7, k3m8]
  instanceTypes := #[.boolean, (.object "com/example/echo_panel/echopanel/channel/Severity"), .int, (.object "java/util/List"), (.object "java/lang/Object"), (.object "com/example/echo_panel/echopanel/channel/DisplayLimits")]
  staticTypes := #[(.object "com/example/echo_panel/echopanel/channel/ChannelState")]
  resolved := Array.replicate 114 none
  statics := none }

def pool4 : Array CpInfo := pool [(1, .class_ 2), (0, u "java/lang/constant/Constable"), (0, .class_ 4), (0, u "java/lang/Object")] 6

/-- java/lang/constant/Constable -/
def k4 : Class := { plain "java/lang/constant/Constable" (some 0) with
  accessFlags := 1537
  interfaces := #[]
  cf := some (fileOf pool4 1 #[] #[] 1537 3 #[] #[])
  fields := #[]
  methods := #[]
  instanceTypes := #[]
  staticTypes := #[]
  resolved := Array.replicate 11 none
  statics := none }

def pool5 : Array CpInfo := pool [(1, .class_ 2), (0, u "java/lang/Comparable"), (0, .class_ 4), (0, u "java/lang/Object")] 7

/-- java/lang/Comparable -/
def k5 : Class := { plain "java/lang/Comparable" (some 0) with
  accessFlags := 1537
  interfaces := #[]
  cf := some (fileOf pool5 1 #[] #[] 1537 3 #[] #[])
  fields := #[]
  methods := #[]
  instanceTypes := #[]
  staticTypes := #[]
  resolved := Array.replicate 12 none
  statics := none }

def pool6 : Array CpInfo := pool [(1, .class_ 2), (0, u "java/io/Serializable"), (0, .class_ 4), (0, u "java/lang/Object")] 2

/-- java/io/Serializable -/
def k6 : Class := { plain "java/io/Serializable" (some 0) with
  accessFlags := 1537
  interfaces := #[]
  cf := some (fileOf pool6 1 #[] #[] 1537 3 #[] #[])
  fields := #[]
  methods := #[]
  instanceTypes := #[]
  staticTypes := #[]
  resolved := Array.replicate 7 none
  statics := none }

def pool7 : Array CpInfo := pool [(2, .class_ 4), (1, u "java/lang/Enum"), (0, u "name"), (0, u "Ljava/lang/String;"), (2, u "ordinal"), (0, u "I"), (1, .class_ 14), (1, u "java/lang/Object"), (4, u "hash"), (86, .class_ 108), (1, u "java/lang/Enum$EnumDesc"), (2, .class_ 112), (0, u "java/lang/constant/Constable"), (0, .class_ 114), (0, u "java/lang/Comparable"), (0, .class_ 116), (0, u "java/io/Serializable")] 87

/-- java/lang/Enum -/
def k7 : Class := { plain "java/lang/Enum" (some 0) with
  accessFlags := 1057
  interfaces := #[4, 5, 6]
  cf := some (fileOf pool7 2 #[.nestMembers #[106]] #[] 1057 12 #[111, 113, 115] #[{ accessFlags := 18, nameIndex := 5, descriptorIndex := 6, attributes := #[] }, { accessFlags := 18, nameIndex := 9, descriptorIndex := 10, attributes := #[] }, { accessFlags := 2, nameIndex := 19, descriptorIndex := 10, attributes := #[] }])
  fields := #[{ name := "name", type := (.object "java/lang/String"), accessFlags := 18, slot := 0, constantValue := 0 }, { name := "ordinal", type := .int, accessFlags := 18, slot := 1, constantValue := 0 }, { name := "hash", type := .int, accessFlags := 2, slot := 2, constantValue := 0 }]
  methods := #[]
  instanceTypes := #[(.object "java/lang/String"), .int, .int]
  staticTypes := #[]
  resolved := Array.replicate 204 none
  statics := none }

def pool8 : Array CpInfo := pool [(1, .class_ 2), (0, u "com/example/echo_panel/echopanel/channel/Severity"), (2, u "NO_ALARM"), (0, u "Lcom/example/echo_panel/echopanel/channel/Severity;"), (2, u "MINOR"), (2, u "MAJOR"), (2, u "INVALID"), (2, u "$VALUES"), (0, u "[Lcom/example/echo_panel/echopanel/channel/Severity;"), (6, .class_ 28), (1, u "java/lang/Enum")] 26

/-- com/example/echo_panel/echopanel/channel/Severity -/
def k8 : Class := { plain "com/example/echo_panel/echopanel/channel/Severity" (some 7) with
  accessFlags := 16433
  interfaces := #[]
  cf := some (fileOf pool8 1 #[] #[] 16433 26 #[] #[{ accessFlags := 16409, nameIndex := 5, descriptorIndex := 6, attributes := #[] }, { accessFlags := 16409, nameIndex := 9, descriptorIndex := 6, attributes := #[] }, { accessFlags := 16409, nameIndex := 12, descriptorIndex := 6, attributes := #[] }, { accessFlags := 16409, nameIndex := 15, descriptorIndex := 6, attributes := #[] }, { accessFlags := 4122, nameIndex := 18, descriptorIndex := 19, attributes := #[] }])
  fields := #[{ name := "NO_ALARM", type := (.object "com/example/echo_panel/echopanel/channel/Severity"), accessFlags := 16409, slot := 0, constantValue := 0 }, { name := "MINOR", type := (.object "com/example/echo_panel/echopanel/channel/Severity"), accessFlags := 16409, slot := 1, constantValue := 0 }, { name := "MAJOR", type := (.object "com/example/echo_panel/echopanel/channel/Severity"), accessFlags := 16409, slot := 2, constantValue := 0 }, { name := "INVALID", type := (.object "com/example/echo_panel/echopanel/channel/Severity"), accessFlags := 16409, slot := 3, constantValue := 0 }, { name := "$VALUES", type := (.array (.object "com/example/echo_panel/echopanel/channel/Severity")), accessFlags := 4122, slot := 4, constantValue := 0 }]
  methods := #[]
  instanceTypes := #[(.object "java/lang/String"), .int, .int]
  staticTypes := #[(.object "com/example/echo_panel/echopanel/channel/Severity"), (.object "com/example/echo_panel/echopanel/channel/Severity"), (.object "com/example/echo_panel/echopanel/channel/Severity"), (.object "com/example/echo_panel/echopanel/channel/Severity"), (.array (.object "com/example/echo_panel/echopanel/channel/Severity"))]
  resolved := Array.replicate 55 none
  statics := some 0 }

def pool9 : Array CpInfo := pool [(8, .class_ 10), (1, u "java/lang/Iterable"), (24, .class_ 36), (0, u "java/lang/Object")] 25

/-- java/lang/Iterable -/
def k9 : Class := { plain "java/lang/Iterable" (some 0) with
  accessFlags := 1537
  interfaces := #[]
  cf := some (fileOf pool9 8 #[] #[] 1537 35 #[] #[])
  fields := #[]
  methods := #[]
  instanceTypes := #[]
  staticTypes := #[]
  resolved := Array.replicate 62 none
  statics := none }

def pool10 : Array CpInfo := pool [(10, .class_ 12), (1, u "java/util/Collection"), (47, .class_ 61), (0, u "java/lang/Object"), (0, .class_ 63), (0, u "java/lang/Iterable")] 51

/-- java/util/Collection -/
def k10 : Class := { plain "java/util/Collection" (some 0) with
  accessFlags := 1537
  interfaces := #[9]
  cf := some (fileOf pool10 10 #[] #[] 1537 60 #[62] #[])
  fields := #[]
  methods := #[]
  instanceTypes := #[]
  staticTypes := #[]
  resolved := Array.replicate 115 none
  statics := none }

def pool11 : Array CpInfo := pool [(8, .class_ 10), (1, u "java/util/SequencedCollection"), (15, .class_ 27), (0, u "java/lang/Object"), (0, .class_ 29), (0, u "java/util/Collection")] 27

/-- java/util/SequencedCollection -/
def k11 : Class := { plain "java/util/SequencedCollection" (some 0) with
  accessFlags := 1537
  interfaces := #[10]
  cf := some (fileOf pool11 8 #[] #[] 1537 26 #[28] #[])
  fields := #[]
  methods := #[]
  instanceTypes := #[]
  staticTypes := #[]
  resolved := Array.replicate 57 none
  statics := none }

def pool12 : Array CpInfo := pool [(8, .class_ 10), (1, u "java/util/List"), (68, u "size"), (0, u "()I"), (7, u "of"), (1, .fieldref 91 92), (0, .class_ 93), (0, .nameAndType 94 95), (0, u "java/util/ImmutableCollections"), (0, u "EMPTY_LIST"), (0, u "Ljava/util/ImmutableCollections$ListN;"), (7, .class_ 104), (0, u "java/lang/Object"), (7, .methodref 91 113), (0, .nameAndType 114 115), (0, u "listCopy"), (0, u "(Ljava/util/Collection;)Ljava/util/List;"), (3, u "()Ljava/util/List;"), (0, .class_ 121), (0, u "java/util/SequencedCollection"), (112, u "copyOf")] 16

def k12m0 : Method := { name := "size", desc := "()I", sig := { parameters := [], returnType := some .int }, accessFlags := 1025, code := none }
def k12c1 : Code := { maxStack := 1, maxLocals := 0, code := jdk_40_method_36_code, exceptionTable := #[], attributes := #[] }
def k12m1 : Method := { name := "of", desc := "()Ljava/util/List;", sig := { parameters := [], returnType := some (.object "java/util/List") }, accessFlags := 9, code := some k12c1 }
def k12c2 : Code := { maxStack := 1, maxLocals := 1, code := jdk_40_method_48_code, exceptionTable := #[], attributes := #[] }
def k12m2 : Method := { name := "copyOf", desc := "(Ljava/util/Collection;)Ljava/util/List;", sig := { parameters := [(.object "java/util/Collection")], returnType := some (.object "java/util/List") }, accessFlags := 9, code := some k12c2 }
/-- java/util/List -/
def k12 : Class := { plain "java/util/List" (some 0) with
  accessFlags := 1537
  interfaces := #[11]
  cf := some (fileOf pool12 8 #[] #[{ accessFlags := 1025, nameIndex := 79, descriptorIndex := 80, attributes := #[] }, { accessFlags := 9, nameIndex := 88, descriptorIndex := 119, attributes := #[] }, { accessFlags := 9, nameIndex := 234, descriptorIndex := 115, attributes := #[] }] 1537 103 #[120] #[])
  fields := #[]
  methods := #[k12m0, k12m1, k12m2]
  instanceTypes := #[]
  staticTypes := #[]
  resolved := Array.replicate 251 none
  statics := none }

def pool13 : Array CpInfo := pool [(2, .class_ 4), (1, u "java/lang/Object"), (0, u "<init>"), (0, u "()V"), (3, .class_ 11), (0, u "java/util/ImmutableCollections$List12"), (0, .class_ 13), (0, u "java/util/ImmutableCollections$ListN"), (0, .fieldref 12 15), (0, .nameAndType 16 17), (0, u "allowNulls"), (0, u "Z"), (0, .class_ 19), (0, u "java/util/List"), (27, .class_ 49), (1, u "java/util/ImmutableCollections"), (0, u "$assertionsDisabled"), (5, u "[Ljava/lang/Object;"), (5, u "EMPTY_LIST"), (0, u "Ljava/util/ImmutableCollections$ListN;"), (8, u "EMPTY_LIST_NULLS"), (22, u "SALT32L"), (0, u "J"), (2, u "REVERSE"), (6, u "archivedObjects"), (2, u "EMPTY"), (0, u "Ljava/lang/Object;"), (0, .class_ 112), (0, u "java/util/ImmutableCollections$SetN"), (5, u "EMPTY_SET"), (0, u "Ljava/util/ImmutableCollections$SetN;"), (0, .class_ 121), (0, u "java/util/ImmutableCollections$MapN"), (3, u "EMPTY_MAP"), (0, u "Ljava/util/ImmutableCollections$MapN;"), (4, u "EXPAND_FACTOR"), (0, u "I"), (9, u "listCopy"), (0, u "(Ljava/util/Collection;)Ljava/util/List;"), (25, .class_ 170), (0, u "java/util/ImmutableCollections$MapN$MapNIterator"), (0, .class_ 172), (0, u "java/util/ImmutableCollections$MapN$1"), (0, .class_ 174), (0, u "java/util/ImmutableCollections$Map1"), (0, .class_ 176), (0, u "java/util/ImmutableCollections$AbstractImmutableMap"), (0, .class_ 178), (0, u "java/util/ImmutableCollections$SetN$SetNIterator"), (0, .class_ 180), (0, u "java/util/ImmutableCollections$Set12"), (0, .class_ 182), (0, u "java/util/ImmutableCollections$Set12$1"), (0, .class_ 184), (0, u "java/util/ImmutableCollections$AbstractImmutableSet"), (0, .class_ 186), (0, u "java/util/ImmutableCollections$SubList"), (0, .class_ 188), (0, u "java/util/ImmutableCollections$ListItr"), (0, .class_ 190), (0, u "java/util/ImmutableCollections$AbstractImmutableList"), (0, .class_ 192), (0, u "java/util/ImmutableCollections$AbstractImmutableCollection"), (0, .class_ 194), (0, u "java/util/ImmutableCollections$Access"), (0, .class_ 196), (0, u "java/util/ImmutableCollections$Access$1")] 16

def k13m0 : Method := { name := "<init>", desc := "()V", sig := { parameters := [], returnType := none }, accessFlags := 2, code := none }
def k13c1 : Code := { maxStack := 1, maxLocals := 2, code := jdk_56_method_3_code, exceptionTable := #[], attributes := #[] }
def k13m1 : Method := { name := "listCopy", desc := "(Ljava/util/Collection;)Ljava/util/List;", sig := { parameters := [(.object "java/util/Collection")], returnType := some (.object "java/util/List") }, accessFlags := 8, code := some k13c1 }
/-- java/util/ImmutableCollections -/
def k13 : Class := { plain "java/util/ImmutableCollections" (some 0) with
  accessFlags := 32
  interfaces := #[]
  cf := some (fileOf pool13 47 #[.nestMembers #[120, 169, 171, 173, 175, 111, 177, 179, 181, 183, 12, 10, 185, 187, 189, 191, 193, 195]] #[{ accessFlags := 2, nameIndex := 5, descriptorIndex := 6, attributes := #[] }, { accessFlags := 8, nameIndex := 142, descriptorIndex := 143, attributes := #[] }] 32 2 #[] #[{ accessFlags := 26, nameIndex := 95, descriptorIndex := 96, attributes := #[] }, { accessFlags := 26, nameIndex := 99, descriptorIndex := 17, attributes := #[] }, { accessFlags := 10, nameIndex := 106, descriptorIndex := 56, attributes := #[] }, { accessFlags := 26, nameIndex := 109, descriptorIndex := 110, attributes := #[] }, { accessFlags := 24, nameIndex := 62, descriptorIndex := 63, attributes := #[] }, { accessFlags := 24, nameIndex := 72, descriptorIndex := 63, attributes := #[] }, { accessFlags := 24, nameIndex := 118, descriptorIndex := 119, attributes := #[] }, { accessFlags := 24, nameIndex := 125, descriptorIndex := 126, attributes := #[] }, { accessFlags := 24, nameIndex := 131, descriptorIndex := 132, attributes := #[] }, { accessFlags := 4120, nameIndex := 50, descriptorIndex := 17, attributes := #[] }])
  fields := #[{ name := "SALT32L", type := .long, accessFlags := 26, slot := 0, constantValue := 0 }, { name := "REVERSE", type := .boolean, accessFlags := 26, slot := 1, constantValue := 0 }, { name := "archivedObjects", type := (.array (.object "java/lang/Object")), accessFlags := 10, slot := 2, constantValue := 0 }, { name := "EMPTY", type := (.object "java/lang/Object"), accessFlags := 26, slot := 3, constantValue := 0 }, { name := "EMPTY_LIST", type := (.object "java/util/ImmutableCollections$ListN"), accessFlags := 24, slot := 4, constantValue := 0 }, { name := "EMPTY_LIST_NULLS", type := (.object "java/util/ImmutableCollections$ListN"), accessFlags := 24, slot := 5, constantValue := 0 }, { name := "EMPTY_SET", type := (.object "java/util/ImmutableCollections$SetN"), accessFlags := 24, slot := 6, constantValue := 0 }, { name := "EMPTY_MAP", type := (.object "java/util/ImmutableCollections$MapN"), accessFlags := 24, slot := 7, constantValue := 0 }, { name := "EXPAND_FACTOR", type := .int, accessFlags := 24, slot := 8, constantValue := 0 }, { name := "$assertionsDisabled", type := .boolean, accessFlags := 4120, slot := 9, constantValue := 0 }]
  methods := #[k13m0, k13m1]
  instanceTypes := #[]
  staticTypes := #[.long, .boolean, (.array (.object "java/lang/Object")), (.object "java/lang/Object"), (.object "java/util/ImmutableCollections$ListN"), (.object "java/util/ImmutableCollections$ListN"), (.object "java/util/ImmutableCollections$SetN"), (.object "java/util/ImmutableCollections$MapN"), .int, .boolean]
  resolved := Array.replicate 213 none
  statics := some 1 }

def pool14 : Array CpInfo := pool [(2, .class_ 4), (1, u "java/lang/Object"), (0, u "<init>"), (0, u "()V"), (1, .class_ 10), (1, u "java/util/AbstractCollection"), (66, .class_ 78), (0, u "java/util/Collection")] 81

def k14m0 : Method := { name := "<init>", desc := "()V", sig := { parameters := [], returnType := none }, accessFlags := 4, code := none }
/-- java/util/AbstractCollection -/
def k14 : Class := { plain "java/util/AbstractCollection" (some 0) with
  accessFlags := 1057
  interfaces := #[10]
  cf := some (fileOf pool14 8 #[] #[{ accessFlags := 4, nameIndex := 5, descriptorIndex := 6, attributes := #[] }] 1057 2 #[77] #[])
  fields := #[]
  methods := #[k14m0]
  instanceTypes := #[]
  staticTypes := #[]
  resolved := Array.replicate 160 none
  statics := none }

def pool15 : Array CpInfo := pool [(2, .class_ 4), (1, u "java/util/AbstractCollection"), (0, u "<init>"), (0, u "()V"), (1, .class_ 10), (1, u "java/util/ImmutableCollections"), (2, .class_ 14), (0, u "java/util/ImmutableCollections$AbstractImmutableCollection")] 41

def k15m0 : Method := { name := "<init>", desc := "()V", sig := { parameters := [], returnType := none }, accessFlags := 0, code := none }
/-- java/util/ImmutableCollections$AbstractImmutableCollection -/
def k15 : Class := { plain "java/util/ImmutableCollections$AbstractImmutableCollection" (some 14) with
  accessFlags := 1056
  interfaces := #[]
  cf := some (fileOf pool15 13 #[.nestHost 8] #[{ accessFlags := 0, nameIndex := 5, descriptorIndex := 6, attributes := #[] }] 1056 2 #[] #[])
  fields := #[]
  methods := #[k15m0]
  instanceTypes := #[]
  staticTypes := #[]
  resolved := Array.replicate 56 none
  statics := none }

def pool16 : Array CpInfo := pool [(1, .class_ 2), (0, u "java/util/RandomAccess"), (0, .class_ 4), (0, u "java/lang/Object")] 2

/-- java/util/RandomAccess -/
def k16 : Class := { plain "java/util/RandomAccess" (some 0) with
  accessFlags := 1537
  interfaces := #[]
  cf := some (fileOf pool16 1 #[] #[] 1537 3 #[] #[])
  fields := #[]
  methods := #[]
  instanceTypes := #[]
  staticTypes := #[]
  resolved := Array.replicate 7 none
  statics := none }

def pool17 : Array CpInfo := pool [(2, .class_ 4), (1, u "java/util/ImmutableCollections$AbstractImmutableCollection"), (0, u "<init>"), (0, u "()V"), (1, .class_ 10), (1, u "java/util/ImmutableCollections"), (3, .class_ 16), (1, u "java/util/ImmutableCollections$AbstractImmutableList"), (60, .class_ 78), (0, u "java/util/List"), (45, .class_ 125), (0, u "java/util/RandomAccess")] 70

def k17m0 : Method := { name := "<init>", desc := "()V", sig := { parameters := [], returnType := none }, accessFlags := 0, code := none }
/-- java/util/ImmutableCollections$AbstractImmutableList -/
def k17 : Class := { plain "java/util/ImmutableCollections$AbstractImmutableList" (some 15) with
  accessFlags := 1056
  interfaces := #[12, 16]
  cf := some (fileOf pool17 14 #[.nestHost 8] #[{ accessFlags := 0, nameIndex := 5, descriptorIndex := 6, attributes := #[] }] 1056 2 #[77, 124] #[])
  fields := #[]
  methods := #[k17m0]
  instanceTypes := #[]
  staticTypes := #[]
  resolved := Array.replicate 196 none
  statics := none }

def pool18 : Array CpInfo := pool [(2, .class_ 4), (1, u "java/util/ImmutableCollections$AbstractImmutableList"), (9, .class_ 16), (1, u "java/util/ImmutableCollections$List12"), (0, u "e0"), (0, u "Ljava/lang/Object;"), (1, .class_ 22), (1, u "java/util/ImmutableCollections"), (3, u "e1"), (43, .class_ 71), (0, u "java/io/Serializable")] 53

/-- java/util/ImmutableCollections$List12 -/
def k18 : Class := { plain "java/util/ImmutableCollections$List12" (some 17) with
  accessFlags := 48
  interfaces := #[6]
  cf := some (fileOf pool18 14 #[.nestHost 20] #[] 48 2 #[70] #[{ accessFlags := 18, nameIndex := 17, descriptorIndex := 18, attributes := #[] }, { accessFlags := 18, nameIndex := 26, descriptorIndex := 18, attributes := #[] }])
  fields := #[{ name := "e0", type := (.object "java/lang/Object"), accessFlags := 18, slot := 0, constantValue := 0 }, { name := "e1", type := (.object "java/lang/Object"), accessFlags := 18, slot := 1, constantValue := 0 }]
  methods := #[]
  instanceTypes := #[(.object "java/lang/Object"), (.object "java/lang/Object")]
  staticTypes := #[]
  resolved := Array.replicate 125 none
  statics := none }

def pool19 : Array CpInfo := pool [(2, .class_ 4), (1, u "java/util/ImmutableCollections$AbstractImmutableList"), (2, .fieldref 8 9), (0, .class_ 10), (0, .nameAndType 11 12), (0, u "java/util/ImmutableCollections$ListN"), (0, u "elements"), (0, u "[Ljava/lang/Object;"), (2, u "allowNulls"), (0, u "Z"), (42, .class_ 60), (0, u "java/io/Serializable"), (16, u "size"), (0, u "()I"), (35, .class_ 115), (0, u "java/util/ImmutableCollections")] 3

def k19c0 : Code := { maxStack := 1, maxLocals := 1, code := jdk_45_method_3_code, exceptionTable := #[], attributes := #[] }
def k19m0 : Method := { name := "size", desc := "()I", sig := { parameters := [], returnType := some .int }, accessFlags := 1, code := some k19c0 }
/-- java/util/ImmutableCollections$ListN -/
def k19 : Class := { plain "java/util/ImmutableCollections$ListN" (some 17) with
  accessFlags := 48
  interfaces := #[6]
  cf := some (fileOf pool19 8 #[.nestHost 114] #[{ accessFlags := 1, nameIndex := 77, descriptorIndex := 78, attributes := #[] }] 48 2 #[59] #[{ accessFlags := 18, nameIndex := 11, descriptorIndex := 12, attributes := #[] }, { accessFlags := 18, nameIndex := 15, descriptorIndex := 16, attributes := #[] }])
  fields := #[{ name := "elements", type := (.array (.object "java/lang/Object")), accessFlags := 18, slot := 0, constantValue := 0 }, { name := "allowNulls", type := .boolean, accessFlags := 18, slot := 1, constantValue := 0 }]
  methods := #[k19m0]
  instanceTypes := #[(.array (.object "java/lang/Object")), .boolean]
  staticTypes := #[]
  resolved := Array.replicate 119 none
  statics := none }

def pool20 : Array CpInfo := pool [(1, .methodref 2 3), (0, .class_ 4), (0, .nameAndType 5 6), (0, u "java/lang/Object"), (0, u "<init>"), (0, u "()V"), (1, .class_ 10), (1, u "java/lang/Number"), (2, .class_ 14), (0, u "java/io/Serializable"), (0, u "serialVersionUID"), (0, u "J")] 20

def k20c0 : Code := { maxStack := 1, maxLocals := 1, code := jdk_18_method_1_code, exceptionTable := #[], attributes := #[] }
def k20m0 : Method := { name := "<init>", desc := "()V", sig := { parameters := [], returnType := none }, accessFlags := 1, code := some k20c0 }
/-- java/lang/Number -/
def k20 : Class := { plain "java/lang/Number" (some 0) with
  accessFlags := 1057
  interfaces := #[6]
  cf := some (fileOf pool20 8 #[] #[{ accessFlags := 1, nameIndex := 5, descriptorIndex := 6, attributes := #[] }] 1057 2 #[13] #[{ accessFlags := 26, nameIndex := 15, descriptorIndex := 16, attributes := #[] }])
  fields := #[{ name := "serialVersionUID", type := .long, accessFlags := 26, slot := 0, constantValue := 0 }]
  methods := #[k20m0]
  instanceTypes := #[]
  staticTypes := #[.long]
  resolved := Array.replicate 37 none
  statics := none }

def pool21 : Array CpInfo := pool [(1, .class_ 2), (0, u "java/lang/constant/ConstantDesc"), (0, .class_ 4), (0, u "java/lang/Object")] 32

/-- java/lang/constant/ConstantDesc -/
def k21 : Class := { plain "java/lang/constant/ConstantDesc" (some 0) with
  accessFlags := 1537
  interfaces := #[]
  cf := some (fileOf pool21 1 #[] #[] 1537 3 #[] #[])
  fields := #[]
  methods := #[]
  instanceTypes := #[]
  staticTypes := #[]
  resolved := Array.replicate 37 none
  statics := none }

def pool22 : Array CpInfo := pool [(1, .class_ 2), (0, u "java/lang/Integer"), (16, u "digits"), (0, u "[C"), (46, u "<init>"), (17, u "DigitOnes"), (0, u "[B"), (2, u "DigitTens"), (10, .nameAndType 67 101), (0, u "()V"), (85, u "valueOf"), (0, u "(I)Ljava/lang/Integer;"), (0, .class_ 190), (0, u "java/lang/Integer$IntegerCache"), (0, .fieldref 189 192), (0, .nameAndType 193 194), (0, u "high"), (0, u "I"), (0, .fieldref 189 196), (0, .nameAndType 197 198), (0, u "cache"), (0, u "[Ljava/lang/Integer;"), (0, .methodref 1 200), (0, .nameAndType 67 201), (0, u "(I)V"), (0, .methodref 203 100), (0, .class_ 204), (0, u "java/lang/Number"), (0, .fieldref 1 206), (0, .nameAndType 207 194), (0, u "value"), (94, u "TYPE"), (0, u "Ljava/lang/Class;"), (0, .class_ 305), (0, u "java/lang/Comparable"), (0, .class_ 307), (0, u "java/lang/constant/Constable"), (0, .class_ 309), (0, u "java/lang/constant/ConstantDesc"), (0, u "MIN_VALUE"), (1, u "MAX_VALUE"), (3, u "SIZE"), (1, u "BYTES"), (1, u "serialVersionUID"), (0, u "J")] 131

def k22c0 : Code := { maxStack := 3, maxLocals := 1, code := jdk_33_method_22_code, exceptionTable := #[], attributes := #[] }
def k22m0 : Method := { name := "valueOf", desc := "(I)Ljava/lang/Integer;", sig := { parameters := [.int], returnType := some (.object "java/lang/Integer") }, accessFlags := 9, code := some k22c0 }
def k22c1 : Code := { maxStack := 2, maxLocals := 2, code := jdk_33_method_23_code, exceptionTable := #[], attributes := #[] }
def k22m1 : Method := { name := "<init>", desc := "(I)V", sig := { parameters := [.int], returnType := none }, accessFlags := 1, code := some k22c1 }
/-- java/lang/Integer -/
def k22 : Class := { plain "java/lang/Integer" (some 20) with
  accessFlags := 49
  interfaces := #[5, 4, 21]
  cf := some (fileOf pool22 1 #[.nestMembers #[189]] #[{ accessFlags := 9, nameIndex := 187, descriptorIndex := 188, attributes := #[] }, { accessFlags := 1, nameIndex := 67, descriptorIndex := 201, attributes := #[] }] 49 203 #[304, 306, 308] #[{ accessFlags := 25, nameIndex := 310, descriptorIndex := 194, attributes := #[] }, { accessFlags := 25, nameIndex := 312, descriptorIndex := 194, attributes := #[] }, { accessFlags := 25, nameIndex := 302, descriptorIndex := 303, attributes := #[] }, { accessFlags := 24, nameIndex := 19, descriptorIndex := 20, attributes := #[] }, { accessFlags := 24, nameIndex := 89, descriptorIndex := 86, attributes := #[] }, { accessFlags := 24, nameIndex := 85, descriptorIndex := 86, attributes := #[] }, { accessFlags := 18, nameIndex := 207, descriptorIndex := 194, attributes := #[] }, { accessFlags := 25, nameIndex := 316, descriptorIndex := 194, attributes := #[] }, { accessFlags := 25, nameIndex := 318, descriptorIndex := 194, attributes := #[] }, { accessFlags := 26, nameIndex := 320, descriptorIndex := 321, attributes := #[] }])
  fields := #[{ name := "MIN_VALUE", type := .int, accessFlags := 25, slot := 0, constantValue := 0 }, { name := "MAX_VALUE", type := .int, accessFlags := 25, slot := 1, constantValue := 0 }, { name := "TYPE", type := (.object "java/lang/Class"), accessFlags := 25, slot := 2, constantValue := 0 }, { name := "digits", type := (.array .char), accessFlags := 24, slot := 3, constantValue := 0 }, { name := "DigitTens", type := (.array .byte), accessFlags := 24, slot := 4, constantValue := 0 }, { name := "DigitOnes", type := (.array .byte), accessFlags := 24, slot := 5, constantValue := 0 }, { name := "value", type := .int, accessFlags := 18, slot := 0, constantValue := 0 }, { name := "SIZE", type := .int, accessFlags := 25, slot := 6, constantValue := 0 }, { name := "BYTES", type := .int, accessFlags := 25, slot := 7, constantValue := 0 }, { name := "serialVersionUID", type := .long, accessFlags := 26, slot := 8, constantValue := 0 }]
  methods := #[k22m0, k22m1]
  instanceTypes := #[.int]
  staticTypes := #[.int, .int, (.object "java/lang/Class"), (.array .char), (.array .byte), (.array .byte), .int, .int, .long]
  resolved := Array.replicate 453 none
  statics := none }

def pool23 : Array CpInfo := pool [(2, .class_ 4), (1, u "java/lang/Object"), (0, u "<init>"), (0, u "()V"), (0, .class_ 8), (0, u "java/lang/Integer"), (7, .class_ 18), (1, u "java/lang/Integer$IntegerCache"), (0, u "$assertionsDisabled"), (0, u "Z"), (26, u "high"), (0, u "I"), (8, u "archivedCache"), (0, u "[Ljava/lang/Integer;"), (12, u "cache"), (0, u "low")] 27

def k23m0 : Method := { name := "<init>", desc := "()V", sig := { parameters := [], returnType := none }, accessFlags := 2, code := none }
/-- java/lang/Integer$IntegerCache -/
def k23 : Class := { plain "java/lang/Integer$IntegerCache" (some 0) with
  accessFlags := 48
  interfaces := #[]
  cf := some (fileOf pool23 16 #[.nestHost 7] #[{ accessFlags := 2, nameIndex := 5, descriptorIndex := 6, attributes := #[] }] 48 2 #[] #[{ accessFlags := 24, nameIndex := 72, descriptorIndex := 48, attributes := #[] }, { accessFlags := 24, nameIndex := 47, descriptorIndex := 48, attributes := #[] }, { accessFlags := 24, nameIndex := 71, descriptorIndex := 58, attributes := #[] }, { accessFlags := 8, nameIndex := 57, descriptorIndex := 58, attributes := #[] }, { accessFlags := 4120, nameIndex := 19, descriptorIndex := 20, attributes := #[] }])
  fields := #[{ name := "low", type := .int, accessFlags := 24, slot := 0, constantValue := 0 }, { name := "high", type := .int, accessFlags := 24, slot := 1, constantValue := 0 }, { name := "cache", type := (.array (.object "java/lang/Integer")), accessFlags := 24, slot := 2, constantValue := 0 }, { name := "archivedCache", type := (.array (.object "java/lang/Integer")), accessFlags := 8, slot := 3, constantValue := 0 }, { name := "$assertionsDisabled", type := .boolean, accessFlags := 4120, slot := 4, constantValue := 0 }]
  methods := #[k23m0]
  instanceTypes := #[]
  staticTypes := #[.int, .int, (.array (.object "java/lang/Integer")), (.array (.object "java/lang/Integer")), .boolean]
  resolved := Array.replicate 100 none
  statics := some 2 }

def pool24 : Array CpInfo := pool [(2, .class_ 4), (1, u "java/lang/CharSequence"), (42, .class_ 48), (0, u "java/lang/CharSequence$1CodePointIterator"), (10, .class_ 60), (0, u "java/lang/CharSequence$1CharIterator"), (5, .class_ 67), (0, u "java/lang/Object")] 63

/-- java/lang/CharSequence -/
def k24 : Class := { plain "java/lang/CharSequence" (some 0) with
  accessFlags := 1537
  interfaces := #[]
  cf := some (fileOf pool24 2 #[.nestMembers #[47, 59]] #[] 1537 66 #[] #[])
  fields := #[]
  methods := #[]
  instanceTypes := #[]
  staticTypes := #[]
  resolved := Array.replicate 131 none
  statics := none }

def pool25 : Array CpInfo := pool [(1, .methodref 2 3), (0, .class_ 4), (0, .nameAndType 5 6), (0, u "java/lang/Object"), (0, u "<init>"), (0, u "()V"), (2, .fieldref 10 11), (0, .class_ 12), (0, .nameAndType 13 14), (0, u "java/lang/String"), (0, u "value"), (0, u "[B"), (0, .fieldref 10 16), (0, .nameAndType 17 18), (0, u "coder"), (0, u "B"), (2, u "hash"), (0, u "I"), (2, u "hashIsZero"), (0, u "Z"), (0, .methodref 10 28), (0, .nameAndType 5 29), (0, u "([CIILjava/lang/Void;)V"), (8, .fieldref 10 39), (0, .nameAndType 40 26), (0, u "COMPACT_STRINGS"), (1, .class_ 44), (1, u "java/lang/StringUTF16"), (0, u "compress"), (1, .methodref 42 48), (0, .nameAndType 49 50), (0, u "coderFromArrayLen"), (0, u "([BI)B"), (126, .methodref 42 178), (0, .nameAndType 45 179), (0, u "([CII)[B"), (395, .class_ 576), (0, u "java/lang/CharSequence"), (22, u "CASE_INSENSITIVE_ORDER"), (0, u "Ljava/util/Comparator;"), (409, u "([C)V"), (90, u "serialPersistentFields"), (0, u "[Ljava/io/ObjectStreamField;"), (0, .class_ 1104), (0, u "java/lang/String$CaseInsensitiveComparator"), (1, .class_ 1107), (0, u "java/io/Serializable"), (0, .class_ 1109), (0, u "java/lang/Comparable"), (0, .class_ 1111), (0, u "java/lang/constant/Constable"), (0, .class_ 1113), (0, u "java/lang/constant/ConstantDesc"), (2, u "serialVersionUID"), (0, u "J"), (3, u "REPL"), (0, u "C"), (2, u "LATIN1"), (1, u "UTF16")] 323

def k25m0 : Method := { name := "<init>", desc := "()V", sig := { parameters := [], returnType := none }, accessFlags := 1, code := none }
def k25c1 : Code := { maxStack := 5, maxLocals := 2, code := jdk_42_method_3_code, exceptionTable := #[], attributes := #[] }
def k25m1 : Method := { name := "<init>", desc := "([C)V", sig := { parameters := [(.array .char)], returnType := none }, accessFlags := 1, code := some k25c1 }
def k25c2 : Code := { maxStack := 4, maxLocals := 6, code := jdk_42_method_149_code, exceptionTable := #[], attributes := #[] }
def k25m2 : Method := { name := "<init>", desc := "([CIILjava/lang/Void;)V", sig := { parameters := [(.array .char), .int, .int, (.object "java/lang/Void")], returnType := none }, accessFlags := 2, code := some k25c2 }
/-- java/lang/String -/
def k25 : Class := { plain "java/lang/String" (some 0) with
  accessFlags := 49
  interfaces := #[6, 5, 24, 4, 21]
  cf := some (fileOf pool25 10 #[.nestMembers #[1103]] #[{ accessFlags := 1, nameIndex := 5, descriptorIndex := 6, attributes := #[] }, { accessFlags := 1, nameIndex := 5, descriptorIndex := 1010, attributes := #[] }, { accessFlags := 2, nameIndex := 5, descriptorIndex := 29, attributes := #[] }] 49 2 #[1106, 1108, 575, 1110, 1112] #[{ accessFlags := 18, nameIndex := 13, descriptorIndex := 14, attributes := #[] }, { accessFlags := 18, nameIndex := 17, descriptorIndex := 18, attributes := #[] }, { accessFlags := 2, nameIndex := 21, descriptorIndex := 22, attributes := #[] }, { accessFlags := 2, nameIndex := 25, descriptorIndex := 26, attributes := #[] }, { accessFlags := 26, nameIndex := 1116, descriptorIndex := 1117, attributes := #[] }, { accessFlags := 24, nameIndex := 40, descriptorIndex := 26, attributes := #[] }, { accessFlags := 26, nameIndex := 1101, descriptorIndex := 1102, attributes := #[] }, { accessFlags := 26, nameIndex := 1121, descriptorIndex := 1122, attributes := #[] }, { accessFlags := 25, nameIndex := 599, descriptorIndex := 600, attributes := #[] }, { accessFlags := 24, nameIndex := 1125, descriptorIndex := 18, attributes := #[] }, { accessFlags := 24, nameIndex := 1127, descriptorIndex := 18, attributes := #[] }])
  fields := #[{ name := "value", type := (.array .byte), accessFlags := 18, slot := 0, constantValue := 0 }, { name := "coder", type := .byte, accessFlags := 18, slot := 1, constantValue := 0 }, { name := "hash", type := .int, accessFlags := 2, slot := 2, constantValue := 0 }, { name := "hashIsZero", type := .boolean, accessFlags := 2, slot := 3, constantValue := 0 }, { name := "serialVersionUID", type := .long, accessFlags := 26, slot := 0, constantValue := 0 }, { name := "COMPACT_STRINGS", type := .boolean, accessFlags := 24, slot := 1, constantValue := 0 }, { name := "serialPersistentFields", type := (.array (.object "java/io/ObjectStreamField")), accessFlags := 26, slot := 2, constantValue := 0 }, { name := "REPL", type := .char, accessFlags := 26, slot := 3, constantValue := 0 }, { name := "CASE_INSENSITIVE_ORDER", type := (.object "java/util/Comparator"), accessFlags := 25, slot := 4, constantValue := 0 }, { name := "LATIN1", type := .byte, accessFlags := 24, slot := 5, constantValue := 0 }, { name := "UTF16", type := .byte, accessFlags := 24, slot := 6, constantValue := 0 }]
  methods := #[k25m0, k25m1, k25m2]
  instanceTypes := #[(.array .byte), .byte, .int, .boolean]
  staticTypes := #[.long, .boolean, (.array (.object "java/io/ObjectStreamField")), .char, (.object "java/util/Comparator"), .byte, .byte]
  resolved := Array.replicate 1451 none
  statics := some 3 }

def pool26 : Array CpInfo := pool [(6, .class_ 8), (1, u "java/lang/Object"), (0, u "<init>"), (0, u "()V"), (1, .class_ 14), (1, u "java/lang/StringUTF16"), (31, u "$assertionsDisabled"), (0, u "Z"), (13, u "HI_BYTE_SHIFT"), (0, u "I"), (2, u "LO_BYTE_SHIFT"), (49, .methodref 12 116), (0, .nameAndType 117 118), (0, u "compress"), (0, u "([CI[BII)I"), (3, u "([CII)[B"), (138, u "coderFromArrayLen"), (0, u "([BI)B"), (106, .class_ 371), (1, u "java/lang/StringUTF16$LinesSpliterator"), (58, u "MAX_LENGTH"), (196, .class_ 628), (0, u "java/lang/StringUTF16$CodePointsSpliterator"), (0, .class_ 630), (0, u "java/lang/StringUTF16$CharsSpliterator")] 4

def k26m0 : Method := { name := "<init>", desc := "()V", sig := { parameters := [], returnType := none }, accessFlags := 0, code := none }
def k26c1 : Code := { maxStack := 2, maxLocals := 2, code := jdk_52_method_15_code, exceptionTable := #[], attributes := #[] }
def k26m1 : Method := { name := "coderFromArrayLen", desc := "([BI)B", sig := { parameters := [(.array .byte), .int], returnType := some .byte }, accessFlags := 8, code := some k26c1 }
def k26c2 : Code := { maxStack := 5, maxLocals := 6, code := jdk_52_method_16_code, exceptionTable := #[], attributes := #[] }
def k26m2 : Method := { name := "compress", desc := "([CII)[B", sig := { parameters := [(.array .char), .int, .int], returnType := some (.array .byte) }, accessFlags := 9, code := some k26c2 }
def k26c3 : Code := { maxStack := 3, maxLocals := 7, code := jdk_52_method_21_code, exceptionTable := #[], attributes := #[] }
def k26m3 : Method := { name := "compress", desc := "([CI[BII)I", sig := { parameters := [(.array .char), .int, (.array .byte), .int, .int], returnType := some .int }, accessFlags := 9, code := some k26c3 }
/-- java/lang/StringUTF16 -/
def k26 : Class := { plain "java/lang/StringUTF16" (some 0) with
  accessFlags := 48
  interfaces := #[]
  cf := some (fileOf pool26 12 #[.nestMembers #[627, 629, 369]] #[{ accessFlags := 0, nameIndex := 9, descriptorIndex := 10, attributes := #[] }, { accessFlags := 8, nameIndex := 261, descriptorIndex := 262, attributes := #[] }, { accessFlags := 9, nameIndex := 117, descriptorIndex := 122, attributes := #[] }, { accessFlags := 9, nameIndex := 117, descriptorIndex := 118, attributes := #[] }] 48 6 #[] #[{ accessFlags := 26, nameIndex := 61, descriptorIndex := 62, attributes := #[] }, { accessFlags := 26, nameIndex := 65, descriptorIndex := 62, attributes := #[] }, { accessFlags := 24, nameIndex := 430, descriptorIndex := 62, attributes := #[] }, { accessFlags := 4120, nameIndex := 46, descriptorIndex := 47, attributes := #[] }])
  fields := #[{ name := "HI_BYTE_SHIFT", type := .int, accessFlags := 26, slot := 0, constantValue := 0 }, { name := "LO_BYTE_SHIFT", type := .int, accessFlags := 26, slot := 1, constantValue := 0 }, { name := "MAX_LENGTH", type := .int, accessFlags := 24, slot := 2, constantValue := 0 }, { name := "$assertionsDisabled", type := .boolean, accessFlags := 4120, slot := 3, constantValue := 0 }]
  methods := #[k26m0, k26m1, k26m2, k26m3]
  instanceTypes := #[]
  staticTypes := #[.int, .int, .int, .boolean]
  resolved := Array.replicate 635 none
  statics := none }

def pool27 : Array CpInfo := pool [(1, .class_ 2), (0, u "java/lang/Long"), (55, .nameAndType 59 60), (0, u "<init>"), (0, u "()V"), (24, u "valueOf"), (143, u "(J)Ljava/lang/Long;"), (0, .long 18446744073709551488), (1, .long 127), (1, .fieldref 235 236), (0, .class_ 237), (0, .nameAndType 238 239), (0, u "java/lang/Long$LongCache"), (0, u "cache"), (0, u "[Ljava/lang/Long;"), (0, .methodref 1 241), (0, .nameAndType 59 242), (0, u "(J)V"), (27, .methodref 271 58), (0, .class_ 272), (0, u "java/lang/Number"), (0, .fieldref 1 274), (0, .nameAndType 275 276), (0, u "value"), (0, u "J"), (84, u "TYPE"), (0, u "Ljava/lang/Class;"), (0, .class_ 364), (0, u "java/lang/Comparable"), (0, .class_ 366), (0, u "java/lang/constant/Constable"), (0, .class_ 368), (0, u "java/lang/constant/ConstantDesc"), (0, u "MIN_VALUE"), (1, u "MAX_VALUE"), (4, u "SIZE"), (0, u "I"), (1, u "BYTES"), (1, u "serialVersionUID")] 142

def k27c0 : Code := { maxStack := 4, maxLocals := 3, code := jdk_35_method_24_code, exceptionTable := #[], attributes := #[] }
def k27m0 : Method := { name := "valueOf", desc := "(J)Ljava/lang/Long;", sig := { parameters := [.long], returnType := some (.object "java/lang/Long") }, accessFlags := 9, code := some k27c0 }
def k27c1 : Code := { maxStack := 3, maxLocals := 3, code := jdk_35_method_26_code, exceptionTable := #[], attributes := #[] }
def k27m1 : Method := { name := "<init>", desc := "(J)V", sig := { parameters := [.long], returnType := none }, accessFlags := 1, code := some k27c1 }
/-- java/lang/Long -/
def k27 : Class := { plain "java/lang/Long" (some 20) with
  accessFlags := 49
  interfaces := #[5, 4, 21]
  cf := some (fileOf pool27 1 #[.nestMembers #[235]] #[{ accessFlags := 9, nameIndex := 85, descriptorIndex := 229, attributes := #[] }, { accessFlags := 1, nameIndex := 59, descriptorIndex := 242, attributes := #[] }] 49 271 #[363, 365, 367] #[{ accessFlags := 25, nameIndex := 369, descriptorIndex := 276, attributes := #[] }, { accessFlags := 25, nameIndex := 371, descriptorIndex := 276, attributes := #[] }, { accessFlags := 25, nameIndex := 361, descriptorIndex := 362, attributes := #[] }, { accessFlags := 18, nameIndex := 275, descriptorIndex := 276, attributes := #[] }, { accessFlags := 25, nameIndex := 376, descriptorIndex := 377, attributes := #[] }, { accessFlags := 25, nameIndex := 379, descriptorIndex := 377, attributes := #[] }, { accessFlags := 26, nameIndex := 381, descriptorIndex := 276, attributes := #[] }])
  fields := #[{ name := "MIN_VALUE", type := .long, accessFlags := 25, slot := 0, constantValue := 0 }, { name := "MAX_VALUE", type := .long, accessFlags := 25, slot := 1, constantValue := 0 }, { name := "TYPE", type := (.object "java/lang/Class"), accessFlags := 25, slot := 2, constantValue := 0 }, { name := "value", type := .long, accessFlags := 18, slot := 0, constantValue := 0 }, { name := "SIZE", type := .int, accessFlags := 25, slot := 3, constantValue := 0 }, { name := "BYTES", type := .int, accessFlags := 25, slot := 4, constantValue := 0 }, { name := "serialVersionUID", type := .long, accessFlags := 26, slot := 5, constantValue := 0 }]
  methods := #[k27m0, k27m1]
  instanceTypes := #[.long]
  staticTypes := #[.long, .long, (.object "java/lang/Class"), .int, .int, .long]
  resolved := Array.replicate 524 none
  statics := none }

def pool28 : Array CpInfo := pool [(2, .class_ 4), (1, u "java/lang/Object"), (0, u "<init>"), (0, u "()V"), (0, .class_ 8), (0, u "java/lang/Long"), (7, .class_ 18), (1, u "java/lang/Long$LongCache"), (0, u "$assertionsDisabled"), (0, u "Z"), (8, u "archivedCache"), (0, u "[Ljava/lang/Long;"), (7, u "cache")] 24

def k28m0 : Method := { name := "<init>", desc := "()V", sig := { parameters := [], returnType := none }, accessFlags := 2, code := none }
/-- java/lang/Long$LongCache -/
def k28 : Class := { plain "java/lang/Long$LongCache" (some 0) with
  accessFlags := 48
  interfaces := #[]
  cf := some (fileOf pool28 16 #[.nestHost 7] #[{ accessFlags := 2, nameIndex := 5, descriptorIndex := 6, attributes := #[] }] 48 2 #[] #[{ accessFlags := 24, nameIndex := 38, descriptorIndex := 30, attributes := #[] }, { accessFlags := 8, nameIndex := 29, descriptorIndex := 30, attributes := #[] }, { accessFlags := 4120, nameIndex := 19, descriptorIndex := 20, attributes := #[] }])
  fields := #[{ name := "cache", type := (.array (.object "java/lang/Long")), accessFlags := 24, slot := 0, constantValue := 0 }, { name := "archivedCache", type := (.array (.object "java/lang/Long")), accessFlags := 8, slot := 1, constantValue := 0 }, { name := "$assertionsDisabled", type := .boolean, accessFlags := 4120, slot := 2, constantValue := 0 }]
  methods := #[k28m0]
  instanceTypes := #[]
  staticTypes := #[(.array (.object "java/lang/Long")), (.array (.object "java/lang/Long")), .boolean]
  resolved := Array.replicate 63 none
  statics := some 4 }

def pool29 : Array CpInfo := pool [(4, .class_ 6), (1, u "java/lang/Object"), (0, u "<init>"), (0, u "()V"), (5, .class_ 16), (1, u "java/lang/StringLatin1"), (104, u "$assertionsDisabled"), (0, u "Z"), (98, .class_ 223), (1, u "java/lang/StringLatin1$LinesSpliterator"), (166, .class_ 391), (0, u "java/lang/StringLatin1$CharsSpliterator")] 3

def k29m0 : Method := { name := "<init>", desc := "()V", sig := { parameters := [], returnType := none }, accessFlags := 0, code := none }
/-- java/lang/StringLatin1 -/
def k29 : Class := { plain "java/lang/StringLatin1" (some 0) with
  accessFlags := 48
  interfaces := #[]
  cf := some (fileOf pool29 14 #[.nestMembers #[390, 221]] #[{ accessFlags := 0, nameIndex := 7, descriptorIndex := 8, attributes := #[] }] 48 4 #[] #[{ accessFlags := 4120, nameIndex := 121, descriptorIndex := 122, attributes := #[] }])
  fields := #[{ name := "$assertionsDisabled", type := .boolean, accessFlags := 4120, slot := 0, constantValue := 0 }]
  methods := #[k29m0]
  instanceTypes := #[]
  staticTypes := #[.boolean]
  resolved := Array.replicate 395 none
  statics := none }

def pool30 : Array CpInfo := pool [(2, .class_ 4), (1, u "java/lang/Object"), (0, u "<init>"), (0, u "()V"), (17, .class_ 26), (1, u "jdk/internal/util/Preconditions"), (28, .class_ 56), (0, u "jdk/internal/util/Preconditions$4"), (57, .class_ 115), (0, u "jdk/internal/util/Preconditions$1"), (7, u "SIOOBE_FORMATTER"), (0, u "Ljava/util/function/BiFunction;"), (0, .class_ 126), (0, u "jdk/internal/util/Preconditions$2"), (3, u "AIOOBE_FORMATTER"), (0, .class_ 132), (0, u "jdk/internal/util/Preconditions$3"), (3, u "IOOBE_FORMATTER")] 57

def k30m0 : Method := { name := "<init>", desc := "()V", sig := { parameters := [], returnType := none }, accessFlags := 1, code := none }
/-- jdk/internal/util/Preconditions -/
def k30 : Class := { plain "jdk/internal/util/Preconditions" (some 0) with
  accessFlags := 33
  interfaces := #[]
  cf := some (fileOf pool30 24 #[.nestMembers #[55, 131, 125, 114]] #[{ accessFlags := 1, nameIndex := 5, descriptorIndex := 6, attributes := #[] }] 33 2 #[] #[{ accessFlags := 25, nameIndex := 123, descriptorIndex := 124, attributes := #[] }, { accessFlags := 25, nameIndex := 130, descriptorIndex := 124, attributes := #[] }, { accessFlags := 25, nameIndex := 136, descriptorIndex := 124, attributes := #[] }])
  fields := #[{ name := "SIOOBE_FORMATTER", type := (.object "java/util/function/BiFunction"), accessFlags := 25, slot := 0, constantValue := 0 }, { name := "AIOOBE_FORMATTER", type := (.object "java/util/function/BiFunction"), accessFlags := 25, slot := 1, constantValue := 0 }, { name := "IOOBE_FORMATTER", type := (.object "java/util/function/BiFunction"), accessFlags := 25, slot := 2, constantValue := 0 }]
  methods := #[k30m0]
  instanceTypes := #[]
  staticTypes := #[(.object "java/util/function/BiFunction"), (.object "java/util/function/BiFunction"), (.object "java/util/function/BiFunction")]
  resolved := Array.replicate 194 none
  statics := some 5 }

def pool31 : Array CpInfo := pool [(9, u "<init>"), (6, .class_ 18), (1, u "java/lang/Object"), (0, u "()V"), (1, .class_ 23), (1, u "jdk/internal/util/ArraysSupport"), (0, u "LOG2_ARRAY_LONG_INDEX_SCALE"), (0, u "I"), (2, u "U"), (0, u "Ljdk/internal/misc/Unsafe;"), (8, u "BIG_ENDIAN"), (0, u "Z"), (8, u "LOG2_BYTE_BIT_SIZE"), (4, u "LOG2_ARRAY_INT_INDEX_SCALE"), (54, u "JLA"), (0, u "Ljdk/internal/access/JavaLangAccess;"), (11, u "LOG2_ARRAY_BOOLEAN_INDEX_SCALE"), (9, u "LOG2_ARRAY_BYTE_INDEX_SCALE"), (5, u "LOG2_ARRAY_CHAR_INDEX_SCALE"), (5, u "LOG2_ARRAY_SHORT_INDEX_SCALE"), (18, u "LOG2_ARRAY_FLOAT_INDEX_SCALE"), (24, u "LOG2_ARRAY_DOUBLE_INDEX_SCALE"), (89, u "T_BOOLEAN"), (2, u "T_CHAR"), (1, u "T_FLOAT"), (1, u "T_DOUBLE"), (1, u "T_BYTE"), (1, u "T_SHORT"), (1, u "T_INT"), (1, u "T_LONG"), (1, u "SOFT_MAX_ARRAY_LENGTH")] 83

def k31m0 : Method := { name := "<init>", desc := "()V", sig := { parameters := [], returnType := none }, accessFlags := 2, code := none }
/-- jdk/internal/util/ArraysSupport -/
def k31 : Class := { plain "jdk/internal/util/ArraysSupport" (some 0) with
  accessFlags := 33
  interfaces := #[]
  cf := some (fileOf pool31 21 #[] #[{ accessFlags := 2, nameIndex := 9, descriptorIndex := 19, attributes := #[] }] 33 16 #[] #[{ accessFlags := 24, nameIndex := 28, descriptorIndex := 29, attributes := #[] }, { accessFlags := 26, nameIndex := 38, descriptorIndex := 39, attributes := #[] }, { accessFlags := 25, nameIndex := 121, descriptorIndex := 25, attributes := #[] }, { accessFlags := 25, nameIndex := 131, descriptorIndex := 25, attributes := #[] }, { accessFlags := 25, nameIndex := 137, descriptorIndex := 25, attributes := #[] }, { accessFlags := 25, nameIndex := 143, descriptorIndex := 25, attributes := #[] }, { accessFlags := 25, nameIndex := 53, descriptorIndex := 25, attributes := #[] }, { accessFlags := 25, nameIndex := 24, descriptorIndex := 25, attributes := #[] }, { accessFlags := 25, nameIndex := 162, descriptorIndex := 25, attributes := #[] }, { accessFlags := 25, nameIndex := 187, descriptorIndex := 25, attributes := #[] }, { accessFlags := 26, nameIndex := 48, descriptorIndex := 25, attributes := #[] }, { accessFlags := 25, nameIndex := 277, descriptorIndex := 25, attributes := #[] }, { accessFlags := 25, nameIndex := 280, descriptorIndex := 25, attributes := #[] }, { accessFlags := 25, nameIndex := 282, descriptorIndex := 25, attributes := #[] }, { accessFlags := 25, nameIndex := 284, descriptorIndex := 25, attributes := #[] }, { accessFlags := 25, nameIndex := 286, descriptorIndex := 25, attributes := #[] }, { accessFlags := 25, nameIndex := 288, descriptorIndex := 25, attributes := #[] }, { accessFlags := 25, nameIndex := 290, descriptorIndex := 25, attributes := #[] }, { accessFlags := 25, nameIndex := 292, descriptorIndex := 25, attributes := #[] }, { accessFlags := 26, nameIndex := 108, descriptorIndex := 109, attributes := #[] }, { accessFlags := 25, nameIndex := 294, descriptorIndex := 25, attributes := #[] }])
  fields := #[{ name := "U", type := (.object "jdk/internal/misc/Unsafe"), accessFlags := 24, slot := 0, constantValue := 0 }, { name := "BIG_ENDIAN", type := .boolean, accessFlags := 26, slot := 1, constantValue := 0 }, { name := "LOG2_ARRAY_BOOLEAN_INDEX_SCALE", type := .int, accessFlags := 25, slot := 2, constantValue := 0 }, { name := "LOG2_ARRAY_BYTE_INDEX_SCALE", type := .int, accessFlags := 25, slot := 3, constantValue := 0 }, { name := "LOG2_ARRAY_CHAR_INDEX_SCALE", type := .int, accessFlags := 25, slot := 4, constantValue := 0 }, { name := "LOG2_ARRAY_SHORT_INDEX_SCALE", type := .int, accessFlags := 25, slot := 5, constantValue := 0 }, { name := "LOG2_ARRAY_INT_INDEX_SCALE", type := .int, accessFlags := 25, slot := 6, constantValue := 0 }, { name := "LOG2_ARRAY_LONG_INDEX_SCALE", type := .int, accessFlags := 25, slot := 7, constantValue := 0 }, { name := "LOG2_ARRAY_FLOAT_INDEX_SCALE", type := .int, accessFlags := 25, slot := 8, constantValue := 0 }, { name := "LOG2_ARRAY_DOUBLE_INDEX_SCALE", type := .int, accessFlags := 25, slot := 9, constantValue := 0 }, { name := "LOG2_BYTE_BIT_SIZE", type := .int, accessFlags := 26, slot := 10, constantValue := 0 }, { name := "T_BOOLEAN", type := .int, accessFlags := 25, slot := 11, constantValue := 0 }, { name := "T_CHAR", type := .int, accessFlags := 25, slot := 12, constantValue := 0 }, { name := "T_FLOAT", type := .int, accessFlags := 25, slot := 13, constantValue := 0 }, { name := "T_DOUBLE", type := .int, accessFlags := 25, slot := 14, constantValue := 0 }, { name := "T_BYTE", type := .int, accessFlags := 25, slot := 15, constantValue := 0 }, { name := "T_SHORT", type := .int, accessFlags := 25, slot := 16, constantValue := 0 }, { name := "T_INT", type := .int, accessFlags := 25, slot := 17, constantValue := 0 }, { name := "T_LONG", type := .int, accessFlags := 25, slot := 18, constantValue := 0 }, { name := "JLA", type := (.object "jdk/internal/access/JavaLangAccess"), accessFlags := 26, slot := 19, constantValue := 0 }, { name := "SOFT_MAX_ARRAY_LENGTH", type := .int, accessFlags := 25, slot := 20, constantValue := 0 }]
  methods := #[k31m0]
  instanceTypes := #[]
  staticTypes := #[(.object "jdk/internal/misc/Unsafe"), .boolean, .int, .int, .int, .int, .int, .int, .int, .int, .int, .int, .int, .int, .int, .int, .int, .int, .int, (.object "jdk/internal/access/JavaLangAccess"), .int]
  resolved := Array.replicate 378 none
  statics := none }

def pool32 : Array CpInfo := pool [(1, u "java/lang/Cloneable"), (0, .class_ 1), (0, u "java/lang/Object"), (0, .class_ 3)] 3

/-- java/lang/Cloneable -/
def k32 : Class := { plain "java/lang/Cloneable" (some 0) with
  accessFlags := 1537
  interfaces := #[]
  cf := some (fileOf pool32 2 #[] #[] 1537 4 #[] #[])
  fields := #[]
  methods := #[]
  instanceTypes := #[]
  staticTypes := #[]
  resolved := Array.replicate 8 none
  statics := none }

/-- the primitive byte -/
def k33 : Class := { plain "byte" none with kind := .primitive 'B', accessFlags := 0x411 }
/-- [B -/
def k34 : Class := { plain "[B" (some 0) with kind := .array 33 .byte, interfaces := #[32, 6], accessFlags := 1041 }

/-- the primitive char -/
def k35 : Class := { plain "char" none with kind := .primitive 'C', accessFlags := 0x411 }
/-- [C -/
def k36 : Class := { plain "[C" (some 0) with kind := .array 35 .char, interfaces := #[32, 6], accessFlags := 1041 }

/-- the primitive int -/
def k37 : Class := { plain "int" none with kind := .primitive 'I', accessFlags := 0x411 }
/-- [I -/
def k38 : Class := { plain "[I" (some 0) with kind := .array 37 .int, interfaces := #[32, 6], accessFlags := 1041 }

/-- [Ljava/lang/Integer; -/
def k39 : Class := { plain "[Ljava/lang/Integer;" (some 0) with kind := .array 22 (.object "java/lang/Integer"), interfaces := #[32, 6], accessFlags := 1041 }

/-- [Ljava/lang/Long; -/
def k40 : Class := { plain "[Ljava/lang/Long;" (some 0) with kind := .array 27 (.object "java/lang/Long"), interfaces := #[32, 6], accessFlags := 1041 }

/-- [Ljava/lang/Object; -/
def k41 : Class := { plain "[Ljava/lang/Object;" (some 0) with kind := .array 0 (.object "java/lang/Object"), interfaces := #[32, 6], accessFlags := 1041 }

def heap : Heap := #[{ cls := 8, slots := #[.ref 522, .null, .null, .null, .null], vm := .statics 8 },
  { cls := 13, slots := #[.long 0, .int 0, .null, .null, .ref 521, .null, .null, .null, .int 0, .int 0], vm := .statics 13 },
  { cls := 23, slots := #[.int 0, .int 127, .ref 6, .null, .int 0], vm := .statics 23 },
  { cls := 25, slots := #[.long 0, .int 1, .null, .int 0, .null, .int 0, .int 0], vm := .statics 25 },
  { cls := 28, slots := #[.ref 7, .null, .int 0], vm := .statics 28 },
  { cls := 30, slots := #[.null, .null, .null], vm := .statics 30 },
  { cls := 39, slots := #[.ref 9, .ref 10, .ref 11, .ref 12, .ref 13, .ref 14, .ref 15, .ref 16, .ref 17, .ref 18, .ref 19, .ref 20, .ref 21, .ref 22, .ref 23, .ref 24, .ref 25, .ref 26, .ref 27, .ref 28, .ref 29, .ref 30, .ref 31, .ref 32, .ref 33, .ref 34, .ref 35, .ref 36, .ref 37, .ref 38, .ref 39, .ref 40, .ref 41, .ref 42, .ref 43, .ref 44, .ref 45, .ref 46, .ref 47, .ref 48, .ref 49, .ref 50, .ref 51, .ref 52, .ref 53, .ref 54, .ref 55, .ref 56, .ref 57, .ref 58, .ref 59, .ref 60, .ref 61, .ref 62, .ref 63, .ref 64, .ref 65, .ref 66, .ref 67, .ref 68, .ref 69, .ref 70, .ref 71, .ref 72, .ref 73, .ref 74, .ref 75, .ref 76, .ref 77, .ref 78, .ref 79, .ref 80, .ref 81, .ref 82, .ref 83, .ref 84, .ref 85, .ref 86, .ref 87, .ref 88, .ref 89, .ref 90, .ref 91, .ref 92, .ref 93, .ref 94, .ref 95, .ref 96, .ref 97, .ref 98, .ref 99, .ref 100, .ref 101, .ref 102, .ref 103, .ref 104, .ref 105, .ref 106, .ref 107, .ref 108, .ref 109, .ref 110, .ref 111, .ref 112, .ref 113, .ref 114, .ref 115, .ref 116, .ref 117, .ref 118, .ref 119, .ref 120, .ref 121, .ref 122, .ref 123, .ref 124, .ref 125, .ref 126, .ref 127, .ref 128, .ref 129, .ref 130, .ref 131, .ref 132, .ref 133, .ref 134, .ref 135, .ref 136, .ref 137, .ref 138, .ref 139, .ref 140, .ref 141, .ref 142, .ref 143, .ref 144, .ref 145, .ref 146, .ref 147, .ref 148, .ref 149, .ref 150, .ref 151, .ref 152, .ref 153, .ref 154, .ref 155, .ref 156, .ref 157, .ref 158, .ref 159, .ref 160, .ref 161, .ref 162, .ref 163, .ref 164, .ref 165, .ref 166, .ref 167, .ref 168, .ref 169, .ref 170, .ref 171, .ref 172, .ref 173, .ref 174, .ref 175, .ref 176, .ref 177, .ref 178, .ref 179, .ref 180, .ref 181, .ref 182, .ref 183, .ref 184, .ref 185, .ref 186, .ref 187, .ref 188, .ref 189, .ref 190, .ref 191, .ref 192, .ref 193, .ref 194, .ref 195, .ref 196, .ref 197, .ref 198, .ref 199, .ref 200, .ref 201, .ref 202, .ref 203, .ref 204, .ref 205, .ref 206, .ref 207, .ref 208, .ref 209, .ref 210, .ref 211, .ref 212, .ref 213, .ref 214, .ref 215, .ref 216, .ref 217, .ref 218, .ref 219, .ref 220, .ref 221, .ref 222, .ref 223, .ref 224, .ref 225, .ref 226, .ref 227, .ref 228, .ref 229, .ref 230, .ref 231, .ref 232, .ref 233, .ref 234, .ref 235, .ref 236, .ref 237, .ref 238, .ref 239, .ref 240, .ref 241, .ref 242, .ref 243, .ref 244, .ref 245, .ref 246, .ref 247, .ref 248, .ref 249, .ref 250, .ref 251, .ref 252, .ref 253, .ref 254, .ref 255, .ref 256, .ref 257, .ref 258, .ref 259, .ref 260, .ref 261, .ref 262, .ref 263, .ref 264], vm := .none },
  { cls := 40, slots := #[.ref 265, .ref 266, .ref 267, .ref 268, .ref 269, .ref 270, .ref 271, .ref 272, .ref 273, .ref 274, .ref 275, .ref 276, .ref 277, .ref 278, .ref 279, .ref 280, .ref 281, .ref 282, .ref 283, .ref 284, .ref 285, .ref 286, .ref 287, .ref 288, .ref 289, .ref 290, .ref 291, .ref 292, .ref 293, .ref 294, .ref 295, .ref 296, .ref 297, .ref 298, .ref 299, .ref 300, .ref 301, .ref 302, .ref 303, .ref 304, .ref 305, .ref 306, .ref 307, .ref 308, .ref 309, .ref 310, .ref 311, .ref 312, .ref 313, .ref 314, .ref 315, .ref 316, .ref 317, .ref 318, .ref 319, .ref 320, .ref 321, .ref 322, .ref 323, .ref 324, .ref 325, .ref 326, .ref 327, .ref 328, .ref 329, .ref 330, .ref 331, .ref 332, .ref 333, .ref 334, .ref 335, .ref 336, .ref 337, .ref 338, .ref 339, .ref 340, .ref 341, .ref 342, .ref 343, .ref 344, .ref 345, .ref 346, .ref 347, .ref 348, .ref 349, .ref 350, .ref 351, .ref 352, .ref 353, .ref 354, .ref 355, .ref 356, .ref 357, .ref 358, .ref 359, .ref 360, .ref 361, .ref 362, .ref 363, .ref 364, .ref 365, .ref 366, .ref 367, .ref 368, .ref 369, .ref 370, .ref 371, .ref 372, .ref 373, .ref 374, .ref 375, .ref 376, .ref 377, .ref 378, .ref 379, .ref 380, .ref 381, .ref 382, .ref 383, .ref 384, .ref 385, .ref 386, .ref 387, .ref 388, .ref 389, .ref 390, .ref 391, .ref 392, .ref 393, .ref 394, .ref 395, .ref 396, .ref 397, .ref 398, .ref 399, .ref 400, .ref 401, .ref 402, .ref 403, .ref 404, .ref 405, .ref 406, .ref 407, .ref 408, .ref 409, .ref 410, .ref 411, .ref 412, .ref 413, .ref 414, .ref 415, .ref 416, .ref 417, .ref 418, .ref 419, .ref 420, .ref 421, .ref 422, .ref 423, .ref 424, .ref 425, .ref 426, .ref 427, .ref 428, .ref 429, .ref 430, .ref 431, .ref 432, .ref 433, .ref 434, .ref 435, .ref 436, .ref 437, .ref 438, .ref 439, .ref 440, .ref 441, .ref 442, .ref 443, .ref 444, .ref 445, .ref 446, .ref 447, .ref 448, .ref 449, .ref 450, .ref 451, .ref 452, .ref 453, .ref 454, .ref 455, .ref 456, .ref 457, .ref 458, .ref 459, .ref 460, .ref 461, .ref 462, .ref 463, .ref 464, .ref 465, .ref 466, .ref 467, .ref 468, .ref 469, .ref 470, .ref 471, .ref 472, .ref 473, .ref 474, .ref 475, .ref 476, .ref 477, .ref 478, .ref 479, .ref 480, .ref 481, .ref 482, .ref 483, .ref 484, .ref 485, .ref 486, .ref 487, .ref 488, .ref 489, .ref 490, .ref 491, .ref 492, .ref 493, .ref 494, .ref 495, .ref 496, .ref 497, .ref 498, .ref 499, .ref 500, .ref 501, .ref 502, .ref 503, .ref 504, .ref 505, .ref 506, .ref 507, .ref 508, .ref 509, .ref 510, .ref 511, .ref 512, .ref 513, .ref 514, .ref 515, .ref 516, .ref 517, .ref 518, .ref 519, .ref 520], vm := .none },
  { cls := 41, slots := #[], vm := .none },
  { cls := 22, slots := #[.int (-128)], vm := .none },
  { cls := 22, slots := #[.int (-127)], vm := .none },
  { cls := 22, slots := #[.int (-126)], vm := .none },
  { cls := 22, slots := #[.int (-125)], vm := .none },
  { cls := 22, slots := #[.int (-124)], vm := .none },
  { cls := 22, slots := #[.int (-123)], vm := .none },
  { cls := 22, slots := #[.int (-122)], vm := .none },
  { cls := 22, slots := #[.int (-121)], vm := .none },
  { cls := 22, slots := #[.int (-120)], vm := .none },
  { cls := 22, slots := #[.int (-119)], vm := .none },
  { cls := 22, slots := #[.int (-118)], vm := .none },
  { cls := 22, slots := #[.int (-117)], vm := .none },
  { cls := 22, slots := #[.int (-116)], vm := .none },
  { cls := 22, slots := #[.int (-115)], vm := .none },
  { cls := 22, slots := #[.int (-114)], vm := .none },
  { cls := 22, slots := #[.int (-113)], vm := .none },
  { cls := 22, slots := #[.int (-112)], vm := .none },
  { cls := 22, slots := #[.int (-111)], vm := .none },
  { cls := 22, slots := #[.int (-110)], vm := .none },
  { cls := 22, slots := #[.int (-109)], vm := .none },
  { cls := 22, slots := #[.int (-108)], vm := .none },
  { cls := 22, slots := #[.int (-107)], vm := .none },
  { cls := 22, slots := #[.int (-106)], vm := .none },
  { cls := 22, slots := #[.int (-105)], vm := .none },
  { cls := 22, slots := #[.int (-104)], vm := .none },
  { cls := 22, slots := #[.int (-103)], vm := .none },
  { cls := 22, slots := #[.int (-102)], vm := .none },
  { cls := 22, slots := #[.int (-101)], vm := .none },
  { cls := 22, slots := #[.int (-100)], vm := .none },
  { cls := 22, slots := #[.int (-99)], vm := .none },
  { cls := 22, slots := #[.int (-98)], vm := .none },
  { cls := 22, slots := #[.int (-97)], vm := .none },
  { cls := 22, slots := #[.int (-96)], vm := .none },
  { cls := 22, slots := #[.int (-95)], vm := .none },
  { cls := 22, slots := #[.int (-94)], vm := .none },
  { cls := 22, slots := #[.int (-93)], vm := .none },
  { cls := 22, slots := #[.int (-92)], vm := .none },
  { cls := 22, slots := #[.int (-91)], vm := .none },
  { cls := 22, slots := #[.int (-90)], vm := .none },
  { cls := 22, slots := #[.int (-89)], vm := .none },
  { cls := 22, slots := #[.int (-88)], vm := .none },
  { cls := 22, slots := #[.int (-87)], vm := .none },
  { cls := 22, slots := #[.int (-86)], vm := .none },
  { cls := 22, slots := #[.int (-85)], vm := .none },
  { cls := 22, slots := #[.int (-84)], vm := .none },
  { cls := 22, slots := #[.int (-83)], vm := .none },
  { cls := 22, slots := #[.int (-82)], vm := .none },
  { cls := 22, slots := #[.int (-81)], vm := .none },
  { cls := 22, slots := #[.int (-80)], vm := .none },
  { cls := 22, slots := #[.int (-79)], vm := .none },
  { cls := 22, slots := #[.int (-78)], vm := .none },
  { cls := 22, slots := #[.int (-77)], vm := .none },
  { cls := 22, slots := #[.int (-76)], vm := .none },
  { cls := 22, slots := #[.int (-75)], vm := .none },
  { cls := 22, slots := #[.int (-74)], vm := .none },
  { cls := 22, slots := #[.int (-73)], vm := .none },
  { cls := 22, slots := #[.int (-72)], vm := .none },
  { cls := 22, slots := #[.int (-71)], vm := .none },
  { cls := 22, slots := #[.int (-70)], vm := .none },
  { cls := 22, slots := #[.int (-69)], vm := .none },
  { cls := 22, slots := #[.int (-68)], vm := .none },
  { cls := 22, slots := #[.int (-67)], vm := .none },
  { cls := 22, slots := #[.int (-66)], vm := .none },
  { cls := 22, slots := #[.int (-65)], vm := .none },
  { cls := 22, slots := #[.int (-64)], vm := .none },
  { cls := 22, slots := #[.int (-63)], vm := .none },
  { cls := 22, slots := #[.int (-62)], vm := .none },
  { cls := 22, slots := #[.int (-61)], vm := .none },
  { cls := 22, slots := #[.int (-60)], vm := .none },
  { cls := 22, slots := #[.int (-59)], vm := .none },
  { cls := 22, slots := #[.int (-58)], vm := .none },
  { cls := 22, slots := #[.int (-57)], vm := .none },
  { cls := 22, slots := #[.int (-56)], vm := .none },
  { cls := 22, slots := #[.int (-55)], vm := .none },
  { cls := 22, slots := #[.int (-54)], vm := .none },
  { cls := 22, slots := #[.int (-53)], vm := .none },
  { cls := 22, slots := #[.int (-52)], vm := .none },
  { cls := 22, slots := #[.int (-51)], vm := .none },
  { cls := 22, slots := #[.int (-50)], vm := .none },
  { cls := 22, slots := #[.int (-49)], vm := .none },
  { cls := 22, slots := #[.int (-48)], vm := .none },
  { cls := 22, slots := #[.int (-47)], vm := .none },
  { cls := 22, slots := #[.int (-46)], vm := .none },
  { cls := 22, slots := #[.int (-45)], vm := .none },
  { cls := 22, slots := #[.int (-44)], vm := .none },
  { cls := 22, slots := #[.int (-43)], vm := .none },
  { cls := 22, slots := #[.int (-42)], vm := .none },
  { cls := 22, slots := #[.int (-41)], vm := .none },
  { cls := 22, slots := #[.int (-40)], vm := .none },
  { cls := 22, slots := #[.int (-39)], vm := .none },
  { cls := 22, slots := #[.int (-38)], vm := .none },
  { cls := 22, slots := #[.int (-37)], vm := .none },
  { cls := 22, slots := #[.int (-36)], vm := .none },
  { cls := 22, slots := #[.int (-35)], vm := .none },
  { cls := 22, slots := #[.int (-34)], vm := .none },
  { cls := 22, slots := #[.int (-33)], vm := .none },
  { cls := 22, slots := #[.int (-32)], vm := .none },
  { cls := 22, slots := #[.int (-31)], vm := .none },
  { cls := 22, slots := #[.int (-30)], vm := .none },
  { cls := 22, slots := #[.int (-29)], vm := .none },
  { cls := 22, slots := #[.int (-28)], vm := .none },
  { cls := 22, slots := #[.int (-27)], vm := .none },
  { cls := 22, slots := #[.int (-26)], vm := .none },
  { cls := 22, slots := #[.int (-25)], vm := .none },
  { cls := 22, slots := #[.int (-24)], vm := .none },
  { cls := 22, slots := #[.int (-23)], vm := .none },
  { cls := 22, slots := #[.int (-22)], vm := .none },
  { cls := 22, slots := #[.int (-21)], vm := .none },
  { cls := 22, slots := #[.int (-20)], vm := .none },
  { cls := 22, slots := #[.int (-19)], vm := .none },
  { cls := 22, slots := #[.int (-18)], vm := .none },
  { cls := 22, slots := #[.int (-17)], vm := .none },
  { cls := 22, slots := #[.int (-16)], vm := .none },
  { cls := 22, slots := #[.int (-15)], vm := .none },
  { cls := 22, slots := #[.int (-14)], vm := .none },
  { cls := 22, slots := #[.int (-13)], vm := .none },
  { cls := 22, slots := #[.int (-12)], vm := .none },
  { cls := 22, slots := #[.int (-11)], vm := .none },
  { cls := 22, slots := #[.int (-10)], vm := .none },
  { cls := 22, slots := #[.int (-9)], vm := .none },
  { cls := 22, slots := #[.int (-8)], vm := .none },
  { cls := 22, slots := #[.int (-7)], vm := .none },
  { cls := 22, slots := #[.int (-6)], vm := .none },
  { cls := 22, slots := #[.int (-5)], vm := .none },
  { cls := 22, slots := #[.int (-4)], vm := .none },
  { cls := 22, slots := #[.int (-3)], vm := .none },
  { cls := 22, slots := #[.int (-2)], vm := .none },
  { cls := 22, slots := #[.int (-1)], vm := .none },
  { cls := 22, slots := #[.int 0], vm := .none },
  { cls := 22, slots := #[.int 1], vm := .none },
  { cls := 22, slots := #[.int 2], vm := .none },
  { cls := 22, slots := #[.int 3], vm := .none },
  { cls := 22, slots := #[.int 4], vm := .none },
  { cls := 22, slots := #[.int 5], vm := .none },
  { cls := 22, slots := #[.int 6], vm := .none },
  { cls := 22, slots := #[.int 7], vm := .none },
  { cls := 22, slots := #[.int 8], vm := .none },
  { cls := 22, slots := #[.int 9], vm := .none },
  { cls := 22, slots := #[.int 10], vm := .none },
  { cls := 22, slots := #[.int 11], vm := .none },
  { cls := 22, slots := #[.int 12], vm := .none },
  { cls := 22, slots := #[.int 13], vm := .none },
  { cls := 22, slots := #[.int 14], vm := .none },
  { cls := 22, slots := #[.int 15], vm := .none },
  { cls := 22, slots := #[.int 16], vm := .none },
  { cls := 22, slots := #[.int 17], vm := .none },
  { cls := 22, slots := #[.int 18], vm := .none },
  { cls := 22, slots := #[.int 19], vm := .none },
  { cls := 22, slots := #[.int 20], vm := .none },
  { cls := 22, slots := #[.int 21], vm := .none },
  { cls := 22, slots := #[.int 22], vm := .none },
  { cls := 22, slots := #[.int 23], vm := .none },
  { cls := 22, slots := #[.int 24], vm := .none },
  { cls := 22, slots := #[.int 25], vm := .none },
  { cls := 22, slots := #[.int 26], vm := .none },
  { cls := 22, slots := #[.int 27], vm := .none },
  { cls := 22, slots := #[.int 28], vm := .none },
  { cls := 22, slots := #[.int 29], vm := .none },
  { cls := 22, slots := #[.int 30], vm := .none },
  { cls := 22, slots := #[.int 31], vm := .none },
  { cls := 22, slots := #[.int 32], vm := .none },
  { cls := 22, slots := #[.int 33], vm := .none },
  { cls := 22, slots := #[.int 34], vm := .none },
  { cls := 22, slots := #[.int 35], vm := .none },
  { cls := 22, slots := #[.int 36], vm := .none },
  { cls := 22, slots := #[.int 37], vm := .none },
  { cls := 22, slots := #[.int 38], vm := .none },
  { cls := 22, slots := #[.int 39], vm := .none },
  { cls := 22, slots := #[.int 40], vm := .none },
  { cls := 22, slots := #[.int 41], vm := .none },
  { cls := 22, slots := #[.int 42], vm := .none },
  { cls := 22, slots := #[.int 43], vm := .none },
  { cls := 22, slots := #[.int 44], vm := .none },
  { cls := 22, slots := #[.int 45], vm := .none },
  { cls := 22, slots := #[.int 46], vm := .none },
  { cls := 22, slots := #[.int 47], vm := .none },
  { cls := 22, slots := #[.int 48], vm := .none },
  { cls := 22, slots := #[.int 49], vm := .none },
  { cls := 22, slots := #[.int 50], vm := .none },
  { cls := 22, slots := #[.int 51], vm := .none },
  { cls := 22, slots := #[.int 52], vm := .none },
  { cls := 22, slots := #[.int 53], vm := .none },
  { cls := 22, slots := #[.int 54], vm := .none },
  { cls := 22, slots := #[.int 55], vm := .none },
  { cls := 22, slots := #[.int 56], vm := .none },
  { cls := 22, slots := #[.int 57], vm := .none },
  { cls := 22, slots := #[.int 58], vm := .none },
  { cls := 22, slots := #[.int 59], vm := .none },
  { cls := 22, slots := #[.int 60], vm := .none },
  { cls := 22, slots := #[.int 61], vm := .none },
  { cls := 22, slots := #[.int 62], vm := .none },
  { cls := 22, slots := #[.int 63], vm := .none },
  { cls := 22, slots := #[.int 64], vm := .none },
  { cls := 22, slots := #[.int 65], vm := .none },
  { cls := 22, slots := #[.int 66], vm := .none },
  { cls := 22, slots := #[.int 67], vm := .none },
  { cls := 22, slots := #[.int 68], vm := .none },
  { cls := 22, slots := #[.int 69], vm := .none },
  { cls := 22, slots := #[.int 70], vm := .none },
  { cls := 22, slots := #[.int 71], vm := .none },
  { cls := 22, slots := #[.int 72], vm := .none },
  { cls := 22, slots := #[.int 73], vm := .none },
  { cls := 22, slots := #[.int 74], vm := .none },
  { cls := 22, slots := #[.int 75], vm := .none },
  { cls := 22, slots := #[.int 76], vm := .none },
  { cls := 22, slots := #[.int 77], vm := .none },
  { cls := 22, slots := #[.int 78], vm := .none },
  { cls := 22, slots := #[.int 79], vm := .none },
  { cls := 22, slots := #[.int 80], vm := .none },
  { cls := 22, slots := #[.int 81], vm := .none },
  { cls := 22, slots := #[.int 82], vm := .none },
  { cls := 22, slots := #[.int 83], vm := .none },
  { cls := 22, slots := #[.int 84], vm := .none },
  { cls := 22, slots := #[.int 85], vm := .none },
  { cls := 22, slots := #[.int 86], vm := .none },
  { cls := 22, slots := #[.int 87], vm := .none },
  { cls := 22, slots := #[.int 88], vm := .none },
  { cls := 22, slots := #[.int 89], vm := .none },
  { cls := 22, slots := #[.int 90], vm := .none },
  { cls := 22, slots := #[.int 91], vm := .none },
  { cls := 22, slots := #[.int 92], vm := .none },
  { cls := 22, slots := #[.int 93], vm := .none },
  { cls := 22, slots := #[.int 94], vm := .none },
  { cls := 22, slots := #[.int 95], vm := .none },
  { cls := 22, slots := #[.int 96], vm := .none },
  { cls := 22, slots := #[.int 97], vm := .none },
  { cls := 22, slots := #[.int 98], vm := .none },
  { cls := 22, slots := #[.int 99], vm := .none },
  { cls := 22, slots := #[.int 100], vm := .none },
  { cls := 22, slots := #[.int 101], vm := .none },
  { cls := 22, slots := #[.int 102], vm := .none },
  { cls := 22, slots := #[.int 103], vm := .none },
  { cls := 22, slots := #[.int 104], vm := .none },
  { cls := 22, slots := #[.int 105], vm := .none },
  { cls := 22, slots := #[.int 106], vm := .none },
  { cls := 22, slots := #[.int 107], vm := .none },
  { cls := 22, slots := #[.int 108], vm := .none },
  { cls := 22, slots := #[.int 109], vm := .none },
  { cls := 22, slots := #[.int 110], vm := .none },
  { cls := 22, slots := #[.int 111], vm := .none },
  { cls := 22, slots := #[.int 112], vm := .none },
  { cls := 22, slots := #[.int 113], vm := .none },
  { cls := 22, slots := #[.int 114], vm := .none },
  { cls := 22, slots := #[.int 115], vm := .none },
  { cls := 22, slots := #[.int 116], vm := .none },
  { cls := 22, slots := #[.int 117], vm := .none },
  { cls := 22, slots := #[.int 118], vm := .none },
  { cls := 22, slots := #[.int 119], vm := .none },
  { cls := 22, slots := #[.int 120], vm := .none },
  { cls := 22, slots := #[.int 121], vm := .none },
  { cls := 22, slots := #[.int 122], vm := .none },
  { cls := 22, slots := #[.int 123], vm := .none },
  { cls := 22, slots := #[.int 124], vm := .none },
  { cls := 22, slots := #[.int 125], vm := .none },
  { cls := 22, slots := #[.int 126], vm := .none },
  { cls := 22, slots := #[.int 127], vm := .none },
  { cls := 27, slots := #[.long (-128)], vm := .none },
  { cls := 27, slots := #[.long (-127)], vm := .none },
  { cls := 27, slots := #[.long (-126)], vm := .none },
  { cls := 27, slots := #[.long (-125)], vm := .none },
  { cls := 27, slots := #[.long (-124)], vm := .none },
  { cls := 27, slots := #[.long (-123)], vm := .none },
  { cls := 27, slots := #[.long (-122)], vm := .none },
  { cls := 27, slots := #[.long (-121)], vm := .none },
  { cls := 27, slots := #[.long (-120)], vm := .none },
  { cls := 27, slots := #[.long (-119)], vm := .none },
  { cls := 27, slots := #[.long (-118)], vm := .none },
  { cls := 27, slots := #[.long (-117)], vm := .none },
  { cls := 27, slots := #[.long (-116)], vm := .none },
  { cls := 27, slots := #[.long (-115)], vm := .none },
  { cls := 27, slots := #[.long (-114)], vm := .none },
  { cls := 27, slots := #[.long (-113)], vm := .none },
  { cls := 27, slots := #[.long (-112)], vm := .none },
  { cls := 27, slots := #[.long (-111)], vm := .none },
  { cls := 27, slots := #[.long (-110)], vm := .none },
  { cls := 27, slots := #[.long (-109)], vm := .none },
  { cls := 27, slots := #[.long (-108)], vm := .none },
  { cls := 27, slots := #[.long (-107)], vm := .none },
  { cls := 27, slots := #[.long (-106)], vm := .none },
  { cls := 27, slots := #[.long (-105)], vm := .none },
  { cls := 27, slots := #[.long (-104)], vm := .none },
  { cls := 27, slots := #[.long (-103)], vm := .none },
  { cls := 27, slots := #[.long (-102)], vm := .none },
  { cls := 27, slots := #[.long (-101)], vm := .none },
  { cls := 27, slots := #[.long (-100)], vm := .none },
  { cls := 27, slots := #[.long (-99)], vm := .none },
  { cls := 27, slots := #[.long (-98)], vm := .none },
  { cls := 27, slots := #[.long (-97)], vm := .none },
  { cls := 27, slots := #[.long (-96)], vm := .none },
  { cls := 27, slots := #[.long (-95)], vm := .none },
  { cls := 27, slots := #[.long (-94)], vm := .none },
  { cls := 27, slots := #[.long (-93)], vm := .none },
  { cls := 27, slots := #[.long (-92)], vm := .none },
  { cls := 27, slots := #[.long (-91)], vm := .none },
  { cls := 27, slots := #[.long (-90)], vm := .none },
  { cls := 27, slots := #[.long (-89)], vm := .none },
  { cls := 27, slots := #[.long (-88)], vm := .none },
  { cls := 27, slots := #[.long (-87)], vm := .none },
  { cls := 27, slots := #[.long (-86)], vm := .none },
  { cls := 27, slots := #[.long (-85)], vm := .none },
  { cls := 27, slots := #[.long (-84)], vm := .none },
  { cls := 27, slots := #[.long (-83)], vm := .none },
  { cls := 27, slots := #[.long (-82)], vm := .none },
  { cls := 27, slots := #[.long (-81)], vm := .none },
  { cls := 27, slots := #[.long (-80)], vm := .none },
  { cls := 27, slots := #[.long (-79)], vm := .none },
  { cls := 27, slots := #[.long (-78)], vm := .none },
  { cls := 27, slots := #[.long (-77)], vm := .none },
  { cls := 27, slots := #[.long (-76)], vm := .none },
  { cls := 27, slots := #[.long (-75)], vm := .none },
  { cls := 27, slots := #[.long (-74)], vm := .none },
  { cls := 27, slots := #[.long (-73)], vm := .none },
  { cls := 27, slots := #[.long (-72)], vm := .none },
  { cls := 27, slots := #[.long (-71)], vm := .none },
  { cls := 27, slots := #[.long (-70)], vm := .none },
  { cls := 27, slots := #[.long (-69)], vm := .none },
  { cls := 27, slots := #[.long (-68)], vm := .none },
  { cls := 27, slots := #[.long (-67)], vm := .none },
  { cls := 27, slots := #[.long (-66)], vm := .none },
  { cls := 27, slots := #[.long (-65)], vm := .none },
  { cls := 27, slots := #[.long (-64)], vm := .none },
  { cls := 27, slots := #[.long (-63)], vm := .none },
  { cls := 27, slots := #[.long (-62)], vm := .none },
  { cls := 27, slots := #[.long (-61)], vm := .none },
  { cls := 27, slots := #[.long (-60)], vm := .none },
  { cls := 27, slots := #[.long (-59)], vm := .none },
  { cls := 27, slots := #[.long (-58)], vm := .none },
  { cls := 27, slots := #[.long (-57)], vm := .none },
  { cls := 27, slots := #[.long (-56)], vm := .none },
  { cls := 27, slots := #[.long (-55)], vm := .none },
  { cls := 27, slots := #[.long (-54)], vm := .none },
  { cls := 27, slots := #[.long (-53)], vm := .none },
  { cls := 27, slots := #[.long (-52)], vm := .none },
  { cls := 27, slots := #[.long (-51)], vm := .none },
  { cls := 27, slots := #[.long (-50)], vm := .none },
  { cls := 27, slots := #[.long (-49)], vm := .none },
  { cls := 27, slots := #[.long (-48)], vm := .none },
  { cls := 27, slots := #[.long (-47)], vm := .none },
  { cls := 27, slots := #[.long (-46)], vm := .none },
  { cls := 27, slots := #[.long (-45)], vm := .none },
  { cls := 27, slots := #[.long (-44)], vm := .none },
  { cls := 27, slots := #[.long (-43)], vm := .none },
  { cls := 27, slots := #[.long (-42)], vm := .none },
  { cls := 27, slots := #[.long (-41)], vm := .none },
  { cls := 27, slots := #[.long (-40)], vm := .none },
  { cls := 27, slots := #[.long (-39)], vm := .none },
  { cls := 27, slots := #[.long (-38)], vm := .none },
  { cls := 27, slots := #[.long (-37)], vm := .none },
  { cls := 27, slots := #[.long (-36)], vm := .none },
  { cls := 27, slots := #[.long (-35)], vm := .none },
  { cls := 27, slots := #[.long (-34)], vm := .none },
  { cls := 27, slots := #[.long (-33)], vm := .none },
  { cls := 27, slots := #[.long (-32)], vm := .none },
  { cls := 27, slots := #[.long (-31)], vm := .none },
  { cls := 27, slots := #[.long (-30)], vm := .none },
  { cls := 27, slots := #[.long (-29)], vm := .none },
  { cls := 27, slots := #[.long (-28)], vm := .none },
  { cls := 27, slots := #[.long (-27)], vm := .none },
  { cls := 27, slots := #[.long (-26)], vm := .none },
  { cls := 27, slots := #[.long (-25)], vm := .none },
  { cls := 27, slots := #[.long (-24)], vm := .none },
  { cls := 27, slots := #[.long (-23)], vm := .none },
  { cls := 27, slots := #[.long (-22)], vm := .none },
  { cls := 27, slots := #[.long (-21)], vm := .none },
  { cls := 27, slots := #[.long (-20)], vm := .none },
  { cls := 27, slots := #[.long (-19)], vm := .none },
  { cls := 27, slots := #[.long (-18)], vm := .none },
  { cls := 27, slots := #[.long (-17)], vm := .none },
  { cls := 27, slots := #[.long (-16)], vm := .none },
  { cls := 27, slots := #[.long (-15)], vm := .none },
  { cls := 27, slots := #[.long (-14)], vm := .none },
  { cls := 27, slots := #[.long (-13)], vm := .none },
  { cls := 27, slots := #[.long (-12)], vm := .none },
  { cls := 27, slots := #[.long (-11)], vm := .none },
  { cls := 27, slots := #[.long (-10)], vm := .none },
  { cls := 27, slots := #[.long (-9)], vm := .none },
  { cls := 27, slots := #[.long (-8)], vm := .none },
  { cls := 27, slots := #[.long (-7)], vm := .none },
  { cls := 27, slots := #[.long (-6)], vm := .none },
  { cls := 27, slots := #[.long (-5)], vm := .none },
  { cls := 27, slots := #[.long (-4)], vm := .none },
  { cls := 27, slots := #[.long (-3)], vm := .none },
  { cls := 27, slots := #[.long (-2)], vm := .none },
  { cls := 27, slots := #[.long (-1)], vm := .none },
  { cls := 27, slots := #[.long 0], vm := .none },
  { cls := 27, slots := #[.long 1], vm := .none },
  { cls := 27, slots := #[.long 2], vm := .none },
  { cls := 27, slots := #[.long 3], vm := .none },
  { cls := 27, slots := #[.long 4], vm := .none },
  { cls := 27, slots := #[.long 5], vm := .none },
  { cls := 27, slots := #[.long 6], vm := .none },
  { cls := 27, slots := #[.long 7], vm := .none },
  { cls := 27, slots := #[.long 8], vm := .none },
  { cls := 27, slots := #[.long 9], vm := .none },
  { cls := 27, slots := #[.long 10], vm := .none },
  { cls := 27, slots := #[.long 11], vm := .none },
  { cls := 27, slots := #[.long 12], vm := .none },
  { cls := 27, slots := #[.long 13], vm := .none },
  { cls := 27, slots := #[.long 14], vm := .none },
  { cls := 27, slots := #[.long 15], vm := .none },
  { cls := 27, slots := #[.long 16], vm := .none },
  { cls := 27, slots := #[.long 17], vm := .none },
  { cls := 27, slots := #[.long 18], vm := .none },
  { cls := 27, slots := #[.long 19], vm := .none },
  { cls := 27, slots := #[.long 20], vm := .none },
  { cls := 27, slots := #[.long 21], vm := .none },
  { cls := 27, slots := #[.long 22], vm := .none },
  { cls := 27, slots := #[.long 23], vm := .none },
  { cls := 27, slots := #[.long 24], vm := .none },
  { cls := 27, slots := #[.long 25], vm := .none },
  { cls := 27, slots := #[.long 26], vm := .none },
  { cls := 27, slots := #[.long 27], vm := .none },
  { cls := 27, slots := #[.long 28], vm := .none },
  { cls := 27, slots := #[.long 29], vm := .none },
  { cls := 27, slots := #[.long 30], vm := .none },
  { cls := 27, slots := #[.long 31], vm := .none },
  { cls := 27, slots := #[.long 32], vm := .none },
  { cls := 27, slots := #[.long 33], vm := .none },
  { cls := 27, slots := #[.long 34], vm := .none },
  { cls := 27, slots := #[.long 35], vm := .none },
  { cls := 27, slots := #[.long 36], vm := .none },
  { cls := 27, slots := #[.long 37], vm := .none },
  { cls := 27, slots := #[.long 38], vm := .none },
  { cls := 27, slots := #[.long 39], vm := .none },
  { cls := 27, slots := #[.long 40], vm := .none },
  { cls := 27, slots := #[.long 41], vm := .none },
  { cls := 27, slots := #[.long 42], vm := .none },
  { cls := 27, slots := #[.long 43], vm := .none },
  { cls := 27, slots := #[.long 44], vm := .none },
  { cls := 27, slots := #[.long 45], vm := .none },
  { cls := 27, slots := #[.long 46], vm := .none },
  { cls := 27, slots := #[.long 47], vm := .none },
  { cls := 27, slots := #[.long 48], vm := .none },
  { cls := 27, slots := #[.long 49], vm := .none },
  { cls := 27, slots := #[.long 50], vm := .none },
  { cls := 27, slots := #[.long 51], vm := .none },
  { cls := 27, slots := #[.long 52], vm := .none },
  { cls := 27, slots := #[.long 53], vm := .none },
  { cls := 27, slots := #[.long 54], vm := .none },
  { cls := 27, slots := #[.long 55], vm := .none },
  { cls := 27, slots := #[.long 56], vm := .none },
  { cls := 27, slots := #[.long 57], vm := .none },
  { cls := 27, slots := #[.long 58], vm := .none },
  { cls := 27, slots := #[.long 59], vm := .none },
  { cls := 27, slots := #[.long 60], vm := .none },
  { cls := 27, slots := #[.long 61], vm := .none },
  { cls := 27, slots := #[.long 62], vm := .none },
  { cls := 27, slots := #[.long 63], vm := .none },
  { cls := 27, slots := #[.long 64], vm := .none },
  { cls := 27, slots := #[.long 65], vm := .none },
  { cls := 27, slots := #[.long 66], vm := .none },
  { cls := 27, slots := #[.long 67], vm := .none },
  { cls := 27, slots := #[.long 68], vm := .none },
  { cls := 27, slots := #[.long 69], vm := .none },
  { cls := 27, slots := #[.long 70], vm := .none },
  { cls := 27, slots := #[.long 71], vm := .none },
  { cls := 27, slots := #[.long 72], vm := .none },
  { cls := 27, slots := #[.long 73], vm := .none },
  { cls := 27, slots := #[.long 74], vm := .none },
  { cls := 27, slots := #[.long 75], vm := .none },
  { cls := 27, slots := #[.long 76], vm := .none },
  { cls := 27, slots := #[.long 77], vm := .none },
  { cls := 27, slots := #[.long 78], vm := .none },
  { cls := 27, slots := #[.long 79], vm := .none },
  { cls := 27, slots := #[.long 80], vm := .none },
  { cls := 27, slots := #[.long 81], vm := .none },
  { cls := 27, slots := #[.long 82], vm := .none },
  { cls := 27, slots := #[.long 83], vm := .none },
  { cls := 27, slots := #[.long 84], vm := .none },
  { cls := 27, slots := #[.long 85], vm := .none },
  { cls := 27, slots := #[.long 86], vm := .none },
  { cls := 27, slots := #[.long 87], vm := .none },
  { cls := 27, slots := #[.long 88], vm := .none },
  { cls := 27, slots := #[.long 89], vm := .none },
  { cls := 27, slots := #[.long 90], vm := .none },
  { cls := 27, slots := #[.long 91], vm := .none },
  { cls := 27, slots := #[.long 92], vm := .none },
  { cls := 27, slots := #[.long 93], vm := .none },
  { cls := 27, slots := #[.long 94], vm := .none },
  { cls := 27, slots := #[.long 95], vm := .none },
  { cls := 27, slots := #[.long 96], vm := .none },
  { cls := 27, slots := #[.long 97], vm := .none },
  { cls := 27, slots := #[.long 98], vm := .none },
  { cls := 27, slots := #[.long 99], vm := .none },
  { cls := 27, slots := #[.long 100], vm := .none },
  { cls := 27, slots := #[.long 101], vm := .none },
  { cls := 27, slots := #[.long 102], vm := .none },
  { cls := 27, slots := #[.long 103], vm := .none },
  { cls := 27, slots := #[.long 104], vm := .none },
  { cls := 27, slots := #[.long 105], vm := .none },
  { cls := 27, slots := #[.long 106], vm := .none },
  { cls := 27, slots := #[.long 107], vm := .none },
  { cls := 27, slots := #[.long 108], vm := .none },
  { cls := 27, slots := #[.long 109], vm := .none },
  { cls := 27, slots := #[.long 110], vm := .none },
  { cls := 27, slots := #[.long 111], vm := .none },
  { cls := 27, slots := #[.long 112], vm := .none },
  { cls := 27, slots := #[.long 113], vm := .none },
  { cls := 27, slots := #[.long 114], vm := .none },
  { cls := 27, slots := #[.long 115], vm := .none },
  { cls := 27, slots := #[.long 116], vm := .none },
  { cls := 27, slots := #[.long 117], vm := .none },
  { cls := 27, slots := #[.long 118], vm := .none },
  { cls := 27, slots := #[.long 119], vm := .none },
  { cls := 27, slots := #[.long 120], vm := .none },
  { cls := 27, slots := #[.long 121], vm := .none },
  { cls := 27, slots := #[.long 122], vm := .none },
  { cls := 27, slots := #[.long 123], vm := .none },
  { cls := 27, slots := #[.long 124], vm := .none },
  { cls := 27, slots := #[.long 125], vm := .none },
  { cls := 27, slots := #[.long 126], vm := .none },
  { cls := 27, slots := #[.long 127], vm := .none },
  { cls := 19, slots := #[.ref 8, .int 0], vm := .none },
  { cls := 8, slots := #[.null, .int 0, .int 0], vm := .none }]
def classes : Array Class := #[k0, k1, k2, k3, k4, k5, k6, k7, k8, k9, k10, k11, k12, k13, k14, k15, k16, k17, k18, k19, k20, k21, k22, k23, k24, k25, k26, k27, k28, k29, k30, k31, k32, k33, k34, k35, k36, k37, k38, k39, k40, k41]
def interned : List (Array UInt16 × Addr) := []
def slotsUsed : Nat := 1062
def theMethod : MethodId := ⟨1, 1⟩
def args0 : Array Value := #[.int 0, .int 5, .long 7, .int 1, .int 2]
def aboutOver (below : List Frame) : State where
  vm := { classes := classes, interned := interned.toArray }
  heap := heap
  slotsUsed := slotsUsed
  threads := #[{ frames := .invoking theMethod args0 :: below }]
def below0 : List Frame := [.native { method := ⟨0, 0⟩, args := #[] }]
def about1 : State := aboutOver below0
def p0 : Program := .bare "" "" ""
def e0 : Env := launch0.env 0 0 0
theorem w_frames : about1.frames = Frame.invoking theMethod args0 :: below0 := rfl
set_option maxRecDepth 65536 in
theorem w_args : argsFit about1.vm theMethod args0 = true := by decide +kernel
set_option maxRecDepth 65536 in
theorem w_heap : heapFits about1 = true := by decide +kernel
set_option maxRecDepth 65536 in
theorem w_runnable : about1.curStatus? = some .runnable := by decide +kernel
set_option maxRecDepth 65536 in
theorem w_alone : about1.alone = true := by decide +kernel
set_option maxRecDepth 65536 in
theorem w_named : about1.methodNamed? x = some theMethod := by decide +kernel
set_option maxRecDepth 65536 in
theorem w_hears : about1.hears theMethod below0 = true := by decide +kernel
set_option maxRecDepth 65536 in
theorem w_ripe : about1.ripe theMethod args0 below0 = true := by decide +kernel
theorem w_running : about1.status = .running := rfl
set_option maxRecDepth 65536 in
theorem w_room : about1.hasRoom e0.platform room_1 = true :=
  launch0.hasRoom_least _ room_1 (by decide +kernel) (by decide +kernel) (by decide +kernel) (by decide +kernel) (by decide +kernel) (by decide +kernel)
theorem allAtoms_all (ts : List Jvm.Cond) (a : Array Jvm.Value) (st : Jvm.State) : (allAtoms ts).before a st = ts.all (fun c => c.before a st) := by
  induction ts with
  | nil => rfl
  | cons c t ih =>
    show (Jvm.Cond.and c (allAtoms t)).before a st = _
    rw [Jvm.Cond.before_and, ih, List.all_cons]
def words1 : List Jvm.Cond := Jvm.Cond.code x code maxLocals ret :: tables_1
/-- a 'code' word, met by the world's own term for the bytes: nothing is compared byte by byte -/
theorem code_word {y : MethodName} {bytes : ByteArray} {mx : Nat} {rt : Option FieldType} {a : Array Value} {s : State} {m : MethodId} {meth : Method} {c : Code} (h1 : s.methodNamed? y = some m) (h2 : s.vm.method? m = some meth) (h3 : meth.code = some c) (h4 : c.code = bytes)
    (h5 : (c.maxLocals == mx && c.exceptionTable.isEmpty && decide (c.maxStack ≤ mostOperands) && decide (meth.sig.returnType = rt) && !meth.locks && decide (parseMethodDescriptor y.desc = some meth.sig)) = true) : (Jvm.Cond.code y bytes mx rt).before a s = true := by
  simp only [Bool.and_eq_true, beq_iff_eq, Bool.not_eq_true', decide_eq_true_eq] at h5
  obtain ⟨⟨⟨⟨⟨g1, g2⟩, g3⟩, g4⟩, g5⟩, g6⟩ := h5
  simp [Cond.before, Cond.holds, Cond.value, h1, h2, h3, h4, g1, g2, g3, g4, g5, g6]
def isCode : Jvm.Cond → Bool
  | .code _ _ _ _ => true
  | _ => false
theorem all_split {L : List Jvm.Cond} {P : Jvm.Cond → Bool} (h1 : L.all (fun c => isCode c || P c) = true) (h2 : ∀ c ∈ L.filter isCode, P c = true) : L.all P = true := by
  refine List.all_eq_true.mpr fun c hc => ?_
  have h := List.all_eq_true.mp h1 c hc
  rcases Bool.eq_false_or_eq_true (isCode c) with hi | hi
  · exact h2 c (List.mem_filter.mpr ⟨hc, hi⟩)
  · simpa [hi] using h
set_option maxRecDepth 65536 in
theorem w_c0 : (Jvm.Cond.code x code maxLocals ret).before args0 about1 = true := code_word (m := ⟨1, 1⟩) (meth := k1m1) (c := k1c1) (by decide +kernel) rfl rfl rfl (by decide +kernel)
set_option maxRecDepth 65536 in
theorem w_c1 : (Jvm.Cond.code ({ cls := "com/example/echo_panel/echopanel/channel/ChannelState", name := "of", desc := "(Ljava/lang/Object;)Lcom/example/echo_panel/echopanel/channel/ChannelState;" } : Jvm.MethodName) prog_15_method_3_code (1 : Nat) (Option.some (Jvm.ClassFile.FieldType.object "com/example/echo_panel/echopanel/channel/ChannelState"))).before args0 about1 = true := code_word (m := ⟨3, 2⟩) (meth := k3m2) (c := k3c2) (by decide +kernel) rfl rfl rfl (by decide +kernel)
set_option maxRecDepth 65536 in
theorem w_c2 : (Jvm.Cond.code ({ cls := "java/util/List", name := "of", desc := "()Ljava/util/List;" } : Jvm.MethodName) jdk_40_method_36_code (0 : Nat) (Option.some (Jvm.ClassFile.FieldType.object "java/util/List"))).before args0 about1 = true := code_word (m := ⟨12, 1⟩) (meth := k12m1) (c := k12c1) (by decide +kernel) rfl rfl rfl (by decide +kernel)
set_option maxRecDepth 65536 in
theorem w_c3 : (Jvm.Cond.code ({ cls := "com/example/echo_panel/echopanel/channel/ChannelState", name := "<init>", desc := "(ZLcom/example/echo_panel/echopanel/channel/Severity;ILjava/util/List;Ljava/lang/Object;)V" } : Jvm.MethodName) prog_15_method_2_code (6 : Nat) (Option.none : Option Jvm.ClassFile.FieldType)).before args0 about1 = true := code_word (m := ⟨3, 1⟩) (meth := k3m1) (c := k3c1) (by decide +kernel) rfl rfl rfl (by decide +kernel)
set_option maxRecDepth 65536 in
theorem w_c4 : (Jvm.Cond.code ({ cls := "com/example/echo_panel/echopanel/channel/ChannelState", name := "<init>", desc := "(ZLcom/example/echo_panel/echopanel/channel/Severity;ILjava/util/List;Ljava/lang/Object;Lcom/example/echo_panel/echopanel/channel/DisplayLimits;)V" } : Jvm.MethodName) prog_15_method_1_code (7 : Nat) (Option.none : Option Jvm.ClassFile.FieldType)).before args0 about1 = true := code_word (m := ⟨3, 0⟩) (meth := k3m0) (c := k3c0) (by decide +kernel) rfl rfl rfl (by decide +kernel)
set_option maxRecDepth 65536 in
theorem w_c5 : (Jvm.Cond.code ({ cls := "java/lang/Record", name := "<init>", desc := "()V" } : Jvm.MethodName) jdk_30_method_1_code (1 : Nat) (Option.none : Option Jvm.ClassFile.FieldType)).before args0 about1 = true := code_word (m := ⟨2, 0⟩) (meth := k2m0) (c := k2c0) (by decide +kernel) rfl rfl rfl (by decide +kernel)
set_option maxRecDepth 65536 in
theorem w_c6 : (Jvm.Cond.code ({ cls := "java/lang/Object", name := "<init>", desc := "()V" } : Jvm.MethodName) object_method_1_code (1 : Nat) (Option.none : Option Jvm.ClassFile.FieldType)).before args0 about1 = true := code_word (m := ⟨0, 0⟩) (meth := k0m0) (c := k0c0) (by decide +kernel) rfl rfl rfl (by decide +kernel)
set_option maxRecDepth 65536 in
theorem w_c7 : (Jvm.Cond.code ({ cls := "java/util/List", name := "copyOf", desc := "(Ljava/util/Collection;)Ljava/util/List;" } : Jvm.MethodName) jdk_40_method_48_code (1 : Nat) (Option.some (Jvm.ClassFile.FieldType.object "java/util/List"))).before args0 about1 = true := code_word (m := ⟨12, 2⟩) (meth := k12m2) (c := k12c2) (by decide +kernel) rfl rfl rfl (by decide +kernel)
set_option maxRecDepth 65536 in
theorem w_c8 : (Jvm.Cond.code ({ cls := "java/util/ImmutableCollections", name := "listCopy", desc := "(Ljava/util/Collection;)Ljava/util/List;" } : Jvm.MethodName) jdk_56_method_3_code (2 : Nat) (Option.some (Jvm.ClassFile.FieldType.object "java/util/List"))).before args0 about1 = true := code_word (m := ⟨13, 1⟩) (meth := k13m1) (c := k13c1) (by decide +kernel) rfl rfl rfl (by decide +kernel)
set_option maxRecDepth 65536 in
theorem w_c9 : (Jvm.Cond.code ({ cls := "com/example/echo_panel/echopanel/channel/ChannelState", name := "connected", desc := "()Z" } : Jvm.MethodName) prog_15_method_8_code (1 : Nat) (Option.some Jvm.ClassFile.FieldType.boolean)).before args0 about1 = true := code_word (m := ⟨3, 3⟩) (meth := k3m3) (c := k3c3) (by decide +kernel) rfl rfl rfl (by decide +kernel)
set_option maxRecDepth 65536 in
theorem w_c10 : (Jvm.Cond.code ({ cls := "com/example/echo_panel/echopanel/channel/ChannelState", name := "severity", desc := "()Lcom/example/echo_panel/echopanel/channel/Severity;" } : Jvm.MethodName) prog_15_method_9_code (1 : Nat) (Option.some (Jvm.ClassFile.FieldType.object "com/example/echo_panel/echopanel/channel/Severity"))).before args0 about1 = true := code_word (m := ⟨3, 4⟩) (meth := k3m4) (c := k3c4) (by decide +kernel) rfl rfl rfl (by decide +kernel)
set_option maxRecDepth 65536 in
theorem w_c11 : (Jvm.Cond.code ({ cls := "com/example/echo_panel/echopanel/channel/ChannelState", name := "precision", desc := "()I" } : Jvm.MethodName) prog_15_method_10_code (1 : Nat) (Option.some Jvm.ClassFile.FieldType.int)).before args0 about1 = true := code_word (m := ⟨3, 5⟩) (meth := k3m5) (c := k3c5) (by decide +kernel) rfl rfl rfl (by decide +kernel)
set_option maxRecDepth 65536 in
theorem w_c12 : (Jvm.Cond.code ({ cls := "com/example/echo_panel/echopanel/channel/ChannelState", name := "labels", desc := "()Ljava/util/List;" } : Jvm.MethodName) prog_15_method_11_code (1 : Nat) (Option.some (Jvm.ClassFile.FieldType.object "java/util/List"))).before args0 about1 = true := code_word (m := ⟨3, 6⟩) (meth := k3m6) (c := k3c6) (by decide +kernel) rfl rfl rfl (by decide +kernel)
set_option maxRecDepth 65536 in
theorem w_c13 : (Jvm.Cond.code ({ cls := "java/util/ImmutableCollections$ListN", name := "size", desc := "()I" } : Jvm.MethodName) jdk_45_method_3_code (1 : Nat) (Option.some Jvm.ClassFile.FieldType.int)).before args0 about1 = true := code_word (m := ⟨19, 0⟩) (meth := k19m0) (c := k19c0) (by decide +kernel) rfl rfl rfl (by decide +kernel)
set_option maxRecDepth 65536 in
theorem w_c14 : (Jvm.Cond.code ({ cls := "com/example/echo_panel/echopanel/channel/ChannelState", name := "value", desc := "()Ljava/lang/Object;" } : Jvm.MethodName) prog_15_method_12_code (1 : Nat) (Option.some (Jvm.ClassFile.FieldType.object "java/lang/Object"))).before args0 about1 = true := code_word (m := ⟨3, 7⟩) (meth := k3m7) (c := k3c7) (by decide +kernel) rfl rfl rfl (by decide +kernel)
set_option maxRecDepth 65536 in
theorem w_c15 : (Jvm.Cond.code ({ cls := "com/example/echo_panel/echopanel/channel/ChannelState", name := "limits", desc := "()Lcom/example/echo_panel/echopanel/channel/DisplayLimits;" } : Jvm.MethodName) prog_15_method_13_code (1 : Nat) (Option.some (Jvm.ClassFile.FieldType.object "com/example/echo_panel/echopanel/channel/DisplayLimits"))).before args0 about1 = true := code_word (m := ⟨3, 8⟩) (meth := k3m8) (c := k3c8) (by decide +kernel) rfl rfl rfl (by decide +kernel)
set_option maxRecDepth 65536 in
theorem w_c16 : (Jvm.Cond.code ({ cls := "java/lang/Integer", name := "valueOf", desc := "(I)Ljava/lang/Integer;" } : Jvm.MethodName) jdk_33_method_22_code (1 : Nat) (Option.some (Jvm.ClassFile.FieldType.object "java/lang/Integer"))).before args0 about1 = true := code_word (m := ⟨22, 0⟩) (meth := k22m0) (c := k22c0) (by decide +kernel) rfl rfl rfl (by decide +kernel)
set_option maxRecDepth 65536 in
theorem w_c17 : (Jvm.Cond.code ({ cls := "java/lang/String", name := "<init>", desc := "([C)V" } : Jvm.MethodName) jdk_42_method_3_code (2 : Nat) (Option.none : Option Jvm.ClassFile.FieldType)).before args0 about1 = true := code_word (m := ⟨25, 1⟩) (meth := k25m1) (c := k25c1) (by decide +kernel) rfl rfl rfl (by decide +kernel)
set_option maxRecDepth 65536 in
theorem w_c18 : (Jvm.Cond.code ({ cls := "java/lang/String", name := "<init>", desc := "([CIILjava/lang/Void;)V" } : Jvm.MethodName) jdk_42_method_149_code (6 : Nat) (Option.none : Option Jvm.ClassFile.FieldType)).before args0 about1 = true := code_word (m := ⟨25, 2⟩) (meth := k25m2) (c := k25c2) (by decide +kernel) rfl rfl rfl (by decide +kernel)
set_option maxRecDepth 65536 in
theorem w_c19 : (Jvm.Cond.code ({ cls := "java/lang/StringUTF16", name := "compress", desc := "([CII)[B" } : Jvm.MethodName) jdk_52_method_16_code (6 : Nat) (Option.some (Jvm.ClassFile.FieldType.array Jvm.ClassFile.FieldType.byte))).before args0 about1 = true := code_word (m := ⟨26, 2⟩) (meth := k26m2) (c := k26c2) (by decide +kernel) rfl rfl rfl (by decide +kernel)
set_option maxRecDepth 65536 in
theorem w_c20 : (Jvm.Cond.code ({ cls := "java/lang/StringUTF16", name := "compress", desc := "([CI[BII)I" } : Jvm.MethodName) jdk_52_method_21_code (7 : Nat) (Option.some Jvm.ClassFile.FieldType.int)).before args0 about1 = true := code_word (m := ⟨26, 3⟩) (meth := k26m3) (c := k26c3) (by decide +kernel) rfl rfl rfl (by decide +kernel)
set_option maxRecDepth 65536 in
theorem w_c21 : (Jvm.Cond.code ({ cls := "java/lang/StringUTF16", name := "coderFromArrayLen", desc := "([BI)B" } : Jvm.MethodName) jdk_52_method_15_code (2 : Nat) (Option.some Jvm.ClassFile.FieldType.byte)).before args0 about1 = true := code_word (m := ⟨26, 1⟩) (meth := k26m1) (c := k26c1) (by decide +kernel) rfl rfl rfl (by decide +kernel)
set_option maxRecDepth 65536 in
theorem w_c22 : (Jvm.Cond.code ({ cls := "java/lang/Integer", name := "<init>", desc := "(I)V" } : Jvm.MethodName) jdk_33_method_23_code (2 : Nat) (Option.none : Option Jvm.ClassFile.FieldType)).before args0 about1 = true := code_word (m := ⟨22, 1⟩) (meth := k22m1) (c := k22c1) (by decide +kernel) rfl rfl rfl (by decide +kernel)
set_option maxRecDepth 65536 in
theorem w_c23 : (Jvm.Cond.code ({ cls := "java/lang/Number", name := "<init>", desc := "()V" } : Jvm.MethodName) jdk_18_method_1_code (1 : Nat) (Option.none : Option Jvm.ClassFile.FieldType)).before args0 about1 = true := code_word (m := ⟨20, 0⟩) (meth := k20m0) (c := k20c0) (by decide +kernel) rfl rfl rfl (by decide +kernel)
set_option maxRecDepth 65536 in
theorem w_c24 : (Jvm.Cond.code ({ cls := "java/lang/Long", name := "valueOf", desc := "(J)Ljava/lang/Long;" } : Jvm.MethodName) jdk_35_method_24_code (3 : Nat) (Option.some (Jvm.ClassFile.FieldType.object "java/lang/Long"))).before args0 about1 = true := code_word (m := ⟨27, 0⟩) (meth := k27m0) (c := k27c0) (by decide +kernel) rfl rfl rfl (by decide +kernel)
set_option maxRecDepth 65536 in
theorem w_c25 : (Jvm.Cond.code ({ cls := "java/lang/Long", name := "<init>", desc := "(J)V" } : Jvm.MethodName) jdk_35_method_26_code (3 : Nat) (Option.none : Option Jvm.ClassFile.FieldType)).before args0 about1 = true := code_word (m := ⟨27, 1⟩) (meth := k27m1) (c := k27c1) (by decide +kernel) rfl rfl rfl (by decide +kernel)
def codes1 : List Jvm.Cond := [Jvm.Cond.code x code maxLocals ret, Jvm.Cond.code ({ cls := "com/example/echo_panel/echopanel/channel/ChannelState", name := "of", desc := "(Ljava/lang/Object;)Lcom/example/echo_panel/echopanel/channel/ChannelState;" } : Jvm.MethodName) prog_15_method_3_code (1 : Nat) (Option.some (Jvm.ClassFile.FieldType.object "com/example/echo_panel/echopanel/channel/ChannelState")), Jvm.Cond.code ({ cls := "java/util/List", name := "of", desc := "()Ljava/util/List;" } : Jvm.MethodName) jdk_40_method_36_code (0 : Nat) (Option.some (Jvm.ClassFile.FieldType.object "java/util/List")), Jvm.Cond.code ({ cls := "com/example/echo_panel/echopanel/channel/ChannelState", name := "<init>", desc := "(ZLcom/example/echo_panel/echopanel/channel/Severity;ILjava/util/List;Ljava/lang/Object;)V" } : Jvm.MethodName) prog_15_method_2_code (6 : Nat) (Option.none : Option Jvm.ClassFile.FieldType), Jvm.Cond.code ({ cls := "com/example/echo_panel/echopanel/channel/ChannelState", name := "<init>", desc := "(ZLcom/example/echo_panel/echopanel/channel/Severity;ILjava/util/List;Ljava/lang/Object;Lcom/example/echo_panel/echopanel/channel/DisplayLimits;)V" } : Jvm.MethodName) prog_15_method_1_code (7 : Nat) (Option.none : Option Jvm.ClassFile.FieldType), Jvm.Cond.code ({ cls := "java/lang/Record", name := "<init>", desc := "()V" } : Jvm.MethodName) jdk_30_method_1_code (1 : Nat) (Option.none : Option Jvm.ClassFile.FieldType), Jvm.Cond.code ({ cls := "java/lang/Object", name := "<init>", desc := "()V" } : Jvm.MethodName) object_method_1_code (1 : Nat) (Option.none : Option Jvm.ClassFile.FieldType), Jvm.Cond.code ({ cls := "java/util/List", name := "copyOf", desc := "(Ljava/util/Collection;)Ljava/util/List;" } : Jvm.MethodName) jdk_40_method_48_code (1 : Nat) (Option.some (Jvm.ClassFile.FieldType.object "java/util/List")), Jvm.Cond.code ({ cls := "java/util/ImmutableCollections", name := "listCopy", desc := "(Ljava/util/Collection;)Ljava/util/List;" } : Jvm.MethodName) jdk_56_method_3_code (2 : Nat) (Option.some (Jvm.ClassFile.FieldType.object "java/util/List")), Jvm.Cond.code ({ cls := "com/example/echo_panel/echopanel/channel/ChannelState", name := "connected", desc := "()Z" } : Jvm.MethodName) prog_15_method_8_code (1 : Nat) (Option.some Jvm.ClassFile.FieldType.boolean), Jvm.Cond.code ({ cls := "com/example/echo_panel/echopanel/channel/ChannelState", name := "severity", desc := "()Lcom/example/echo_panel/echopanel/channel/Severity;" } : Jvm.MethodName) prog_15_method_9_code (1 : Nat) (Option.some (Jvm.ClassFile.FieldType.object "com/example/echo_panel/echopanel/channel/Severity")), Jvm.Cond.code ({ cls := "com/example/echo_panel/echopanel/channel/ChannelState", name := "precision", desc := "()I" } : Jvm.MethodName) prog_15_method_10_code (1 : Nat) (Option.some Jvm.ClassFile.FieldType.int), Jvm.Cond.code ({ cls := "com/example/echo_panel/echopanel/channel/ChannelState", name := "labels", desc := "()Ljava/util/List;" } : Jvm.MethodName) prog_15_method_11_code (1 : Nat) (Option.some (Jvm.ClassFile.FieldType.object "java/util/List")), Jvm.Cond.code ({ cls := "java/util/ImmutableCollections$ListN", name := "size", desc := "()I" } : Jvm.MethodName) jdk_45_method_3_code (1 : Nat) (Option.some Jvm.ClassFile.FieldType.int), Jvm.Cond.code ({ cls := "com/example/echo_panel/echopanel/channel/ChannelState", name := "value", desc := "()Ljava/lang/Object;" } : Jvm.MethodName) prog_15_method_12_code (1 : Nat) (Option.some (Jvm.ClassFile.FieldType.object "java/lang/Object")), Jvm.Cond.code ({ cls := "com/example/echo_panel/echopanel/channel/ChannelState", name := "limits", desc := "()Lcom/example/echo_panel/echopanel/channel/DisplayLimits;" } : Jvm.MethodName) prog_15_method_13_code (1 : Nat) (Option.some (Jvm.ClassFile.FieldType.object "com/example/echo_panel/echopanel/channel/DisplayLimits")), Jvm.Cond.code ({ cls := "java/lang/Integer", name := "valueOf", desc := "(I)Ljava/lang/Integer;" } : Jvm.MethodName) jdk_33_method_22_code (1 : Nat) (Option.some (Jvm.ClassFile.FieldType.object "java/lang/Integer")), Jvm.Cond.code ({ cls := "java/lang/String", name := "<init>", desc := "([C)V" } : Jvm.MethodName) jdk_42_method_3_code (2 : Nat) (Option.none : Option Jvm.ClassFile.FieldType), Jvm.Cond.code ({ cls := "java/lang/String", name := "<init>", desc := "([CIILjava/lang/Void;)V" } : Jvm.MethodName) jdk_42_method_149_code (6 : Nat) (Option.none : Option Jvm.ClassFile.FieldType), Jvm.Cond.code ({ cls := "java/lang/StringUTF16", name := "compress", desc := "([CII)[B" } : Jvm.MethodName) jdk_52_method_16_code (6 : Nat) (Option.some (Jvm.ClassFile.FieldType.array Jvm.ClassFile.FieldType.byte)), Jvm.Cond.code ({ cls := "java/lang/StringUTF16", name := "compress", desc := "([CI[BII)I" } : Jvm.MethodName) jdk_52_method_21_code (7 : Nat) (Option.some Jvm.ClassFile.FieldType.int), Jvm.Cond.code ({ cls := "java/lang/StringUTF16", name := "coderFromArrayLen", desc := "([BI)B" } : Jvm.MethodName) jdk_52_method_15_code (2 : Nat) (Option.some Jvm.ClassFile.FieldType.byte), Jvm.Cond.code ({ cls := "java/lang/Integer", name := "<init>", desc := "(I)V" } : Jvm.MethodName) jdk_33_method_23_code (2 : Nat) (Option.none : Option Jvm.ClassFile.FieldType), Jvm.Cond.code ({ cls := "java/lang/Number", name := "<init>", desc := "()V" } : Jvm.MethodName) jdk_18_method_1_code (1 : Nat) (Option.none : Option Jvm.ClassFile.FieldType), Jvm.Cond.code ({ cls := "java/lang/Long", name := "valueOf", desc := "(J)Ljava/lang/Long;" } : Jvm.MethodName) jdk_35_method_24_code (3 : Nat) (Option.some (Jvm.ClassFile.FieldType.object "java/lang/Long")), Jvm.Cond.code ({ cls := "java/lang/Long", name := "<init>", desc := "(J)V" } : Jvm.MethodName) jdk_35_method_26_code (3 : Nat) (Option.none : Option Jvm.ClassFile.FieldType)]
set_option maxRecDepth 65536 in
theorem codes_eq : words1.filter isCode = codes1 := rfl
theorem w_codes : ∀ c ∈ words1.filter isCode, c.before args0 about1 = true := by
  rw [codes_eq]
  intro c hc
  simp only [codes1, List.mem_cons, List.not_mem_nil, or_false] at hc
  rcases hc with rfl | rfl | rfl | rfl | rfl | rfl | rfl | rfl | rfl | rfl | rfl | rfl | rfl | rfl | rfl | rfl | rfl | rfl | rfl | rfl | rfl | rfl | rfl | rfl | rfl | rfl
  · exact w_c0
  · exact w_c1
  · exact w_c2
  · exact w_c3
  · exact w_c4
  · exact w_c5
  · exact w_c6
  · exact w_c7
  · exact w_c8
  · exact w_c9
  · exact w_c10
  · exact w_c11
  · exact w_c12
  · exact w_c13
  · exact w_c14
  · exact w_c15
  · exact w_c16
  · exact w_c17
  · exact w_c18
  · exact w_c19
  · exact w_c20
  · exact w_c21
  · exact w_c22
  · exact w_c23
  · exact w_c24
  · exact w_c25
set_option maxRecDepth 65536 in
theorem w_t1 : (words1.take 24).all (fun c => isCode c || c.before args0 about1) = true := by decide +kernel
set_option maxRecDepth 65536 in
theorem w_t2 : ((words1.drop 24).take 24).all (fun c => isCode c || c.before args0 about1) = true := by decide +kernel
set_option maxRecDepth 65536 in
theorem w_t3 : (((words1.drop 24).drop 24).take 24).all (fun c => isCode c || c.before args0 about1) = true := by decide +kernel
set_option maxRecDepth 65536 in
theorem w_t4 : ((((words1.drop 24).drop 24).drop 24).take 24).all (fun c => isCode c || c.before args0 about1) = true := by decide +kernel
set_option maxRecDepth 65536 in
theorem w_t5 : (((((words1.drop 24).drop 24).drop 24).drop 24).take 24).all (fun c => isCode c || c.before args0 about1) = true := by decide +kernel
set_option maxRecDepth 65536 in
theorem w_t6 : ((((((words1.drop 24).drop 24).drop 24).drop 24).drop 24).take 24).all (fun c => isCode c || c.before args0 about1) = true := by decide +kernel
set_option maxRecDepth 65536 in
theorem w_t7 : (((((((words1.drop 24).drop 24).drop 24).drop 24).drop 24).drop 24).take 24).all (fun c => isCode c || c.before args0 about1) = true := by decide +kernel
set_option maxRecDepth 65536 in
theorem w_t8 : (((((((words1.drop 24).drop 24).drop 24).drop 24).drop 24).drop 24).drop 24).all (fun c => isCode c || c.before args0 about1) = true := by decide +kernel
theorem w_tables : (allAtoms (Jvm.Cond.code x code maxLocals ret :: tables_1)).before args0 about1 = true := by
  rw [allAtoms_all]
  show words1.all (fun c => c.before args0 about1) = true
  refine all_split ?_ w_codes
  rw [← List.take_append_drop 24 words1, List.all_append, w_t1, ← List.take_append_drop 24 (words1.drop 24), List.all_append, w_t2, ← List.take_append_drop 24 ((words1.drop 24).drop 24), List.all_append, w_t3, ← List.take_append_drop 24 (((words1.drop 24).drop 24).drop 24), List.all_append, w_t4, ← List.take_append_drop 24 ((((words1.drop 24).drop 24).drop 24).drop 24), List.all_append, w_t5, ← List.take_append_drop 24 (((((words1.drop 24).drop 24).drop 24).drop 24).drop 24), List.all_append, w_t6, ← List.take_append_drop 24 ((((((words1.drop 24).drop 24).drop 24).drop 24).drop 24).drop 24), List.all_append, w_t7, w_t8]
  rfl
set_option maxRecDepth 65536 in
theorem w_rest : rest_1_c.before args0 about1 = true := by decide +kernel
set_option maxRecDepth 65536 in
theorem w_case : (Jvm.Cond.and given_1 narrow_1).before args0 about1 = true := by decide +kernel
theorem w_applies : (headSpec (Jvm.Cond.code x code maxLocals ret :: tables_1) room_1).applies x e0.platform about1 = true :=
  (Spec.applies_iff w_frames).mpr ⟨w_running, w_runnable, w_alone, w_named, w_hears, w_ripe, w_room, w_tables⟩
theorem atStart : AtStart classFile x code maxLocals ret World_1 tables_1 room_1 Calls_1 rest_1 Pre_1 launch0 p0 e0 about1 theMethod args0 below0 :=
  ⟨lists_1, trivial, launch0.admits_env _ _ _, launch0.least_env, fairChoices_fair.cas, fairChoices_fair.clock, w_frames, w_args, w_heap, w_applies, trivial, w_rest, w_case⟩
end start1
theorem witness_1 : WitnessClaimed_1 := ⟨start1.p0, start1.e0, start1.about1, start1.theMethod, start1.args0, start1.below0, start1.atStart⟩
end Jvm.Pilot.@@N@@
